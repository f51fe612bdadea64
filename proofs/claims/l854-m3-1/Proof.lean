import JvmDerived
import JvmDerived.Pilot.@@N@@Statement
import JvmDerived.Pilot.@@N@@Code
set_option linter.unusedVariables false
set_option linter.unusedSimpArgs false
namespace Jvm.Pilot.@@N@@
open Jvm Jvm.ClassFile Sem Op Lib Jvm.Free Jvm.Stand Jvm.LawKit Jvm.RoadKit Bundle Jvm.Pilot.@@N@@.Jvm.D
/-! OWN: the walk as a tree. Go: from here the run comes to a return that Q allows. -/
def Go (p : Program) (e : Env) (below : List Frame) (s : State) (C S : Nat) (Q : Option Value → Heap → List Loc → Prop) (T : State) (g : JFrame) : Prop :=
  ∃ s₂ o, Steps p.tables e below (T.setTop g) s₂ ∧ s₂.status = .running ∧ Ended s₂ below o ∧ ∃ v L, o = .returned v ∧ Q v s₂.heap L ∧ FrameEnd s o s₂ L C S
section OwnGo
variable {p : Program} {l : Launch} {e : Env} {R : Room} {s : State} {m : MethodId} {args : Array Value} {below : List Frame} {meth : Method} {c : Code} {T T' : State} {locs : List Loc} {cells slots : Nat} {Z : State} {a0 : Array Value} {h : Heap} {C S : Nat} {Q : Option Value → Heap → List Loc → Prop} {g g' : JFrame}
theorem Go.step (st : ∀ target, Steps p.tables e below (T'.setTop g') target → Steps p.tables e below (T.setTop g) target) (h : Go p e below s C S Q T' g') : Go p e below s C S Q T g := by
  obtain ⟨s₂, o, h1, r⟩ := h; exact ⟨s₂, o, st _ h1, r⟩
theorem Go.cast (q : g = g') (h : Go p e below s C S Q T g') : Go p e below s C S Q T g := q ▸ h
theorem Go.ret (X : Stand p l e R s m args below meth c T locs cells slots) (hlk : meth.locks = false) {v : Option Value} (hv : meth.sig.returnType = none → v = none)
    (st : ∀ fs, (∀ (f : JFrame) (acts : List Action), f.method = m → f.locked = none → f.entered = [] → (doReturn e (T.setTop f) acts v).1 = T.setFrames fs) → Steps p.tables e below (T.setTop g) (T.setFrames fs))
    (hq : Q v T.heap locs) (hc : cells ≤ C) (hs : slots ≤ S) : Go p e below s C S Q T g := by
  obtain ⟨fs, hr, hrun, hended, hW, hsame⟩ := X.leave (v := v) hv hlk
  exact ⟨_, _, st fs hr, hrun, hended, v, locs, rfl, hq, ⟨_, rfl⟩, hW, hsame.mono hc hs⟩
theorem Go.retV (X : Stand p l e R s m args below meth c T locs cells slots) (hx : p.tables.exec = Jvm.exec) (hlk : meth.locks = false) (hret : meth.sig.returnType = none) {pc : Nat} {Ls : Array Slot} (hd : decode c.code pc = .ok (.return_, 1))
    (hc : cells ≤ C) (hs : slots ≤ S) (hq : Q none T.heap locs) : Go p e below s C S Q T (mkF m pc Ls []) :=
  Go.ret X hlk (fun _ => rfl) (fun fs hr => X.returnOut hx hret hd hr) hq hc hs
theorem Go.retW (X : Stand p l e R s m args below meth c T locs cells slots) (hx : p.tables.exec = Jvm.exec) (hlk : meth.locks = false) {t : FieldType} (hret : meth.sig.returnType = some t) {pc : Nat} {Ls : Array Slot} {w : Value} {i : Instr} {rest : List Value} (hn : narrow t w = w)
    (hi : (i = .ireturn ∧ (t = .int ∨ t = .boolean ∨ t = .byte ∨ t = .char ∨ t = .short) ∧ ∃ z, w = .int z) ∨ (i = .lreturn ∧ t = .long ∧ ∃ z, w = .long z) ∨ (i = .dreturn ∧ t = .double ∧ ∃ z, w = .double z) ∨ (i = .freturn ∧ t = .float ∧ ∃ z, w = .float z) ∨ (i = .areturn ∧ t.isReference = true ∧ w.isRef = true))
    (hd : decode c.code pc = .ok (i, 1)) (hc : cells ≤ C) (hs : slots ≤ S) (hq : Q (some w) T.heap locs) : Go p e below s C S Q T (mkF m pc Ls (w :: rest)) :=
  Go.ret X hlk (fun h => by rw [hret] at h; cases h) (fun fs hr => retOut X hx hret hn hi hd hr) hq hc hs
theorem Go.retI (X : Stand p l e R s m args below meth c T locs cells slots) (hx : p.tables.exec = Jvm.exec) (hlk : meth.locks = false) (hret : meth.sig.returnType = some .int) {pc : Nat} {Ls : Array Slot} {z : Int32} {rest : List Value}
    (hd : decode c.code pc = .ok (.ireturn, 1)) (hc : cells ≤ C) (hs : slots ≤ S) (hq : Q (some (.int z)) T.heap locs) : Go p e below s C S Q T (mkF m pc Ls (.int z :: rest)) :=
  Go.retW X hx hlk hret rfl (Or.inl ⟨rfl, Or.inl rfl, z, rfl⟩) hd hc hs hq
theorem Go.retZ (X : Stand p l e R s m args below meth c T locs cells slots) (hx : p.tables.exec = Jvm.exec) (hlk : meth.locks = false) (hret : meth.sig.returnType = some .boolean) {pc : Nat} {Ls : Array Slot} {z : Int32} {rest : List Value} (hz : z = 0 ∨ z = 1)
    (hd : decode c.code pc = .ok (.ireturn, 1)) (hc : cells ≤ C) (hs : slots ≤ S) (hq : Q (some (.int z)) T.heap locs) : Go p e below s C S Q T (mkF m pc Ls (.int z :: rest)) :=
  Go.retW X hx hlk hret (by rcases hz with rfl | rfl <;> rfl) (Or.inl ⟨rfl, Or.inr (Or.inl rfl), z, rfl⟩) hd hc hs hq
theorem Go.retJ (X : Stand p l e R s m args below meth c T locs cells slots) (hx : p.tables.exec = Jvm.exec) (hlk : meth.locks = false) (hret : meth.sig.returnType = some .long) {pc : Nat} {Ls : Array Slot} {z : Int64} {rest : List Value}
    (hd : decode c.code pc = .ok (.lreturn, 1)) (hc : cells ≤ C) (hs : slots ≤ S) (hq : Q (some (.long z)) T.heap locs) : Go p e below s C S Q T (mkF m pc Ls (.long z :: rest)) :=
  Go.retW X hx hlk hret rfl (Or.inr (Or.inl ⟨rfl, rfl, z, rfl⟩)) hd hc hs hq
theorem Go.retD (X : Stand p l e R s m args below meth c T locs cells slots) (hx : p.tables.exec = Jvm.exec) (hlk : meth.locks = false) (hret : meth.sig.returnType = some .double) {pc : Nat} {Ls : Array Slot} {z : UInt64} {rest : List Value}
    (hd : decode c.code pc = .ok (.dreturn, 1)) (hc : cells ≤ C) (hs : slots ≤ S) (hq : Q (some (.double z)) T.heap locs) : Go p e below s C S Q T (mkF m pc Ls (.double z :: rest)) :=
  Go.retW X hx hlk hret rfl (Or.inr (Or.inr (Or.inl ⟨rfl, rfl, z, rfl⟩))) hd hc hs hq
theorem Go.retR (X : Stand p l e R s m args below meth c T locs cells slots) (hx : p.tables.exec = Jvm.exec) (hlk : meth.locks = false) {t : FieldType} (hret : meth.sig.returnType = some t) (ht : t.isReference = true) {pc : Nat} {Ls : Array Slot} {w : Value} {rest : List Value} (hn : narrow t w = w) (hw : w.isRef = true)
    (hd : decode c.code pc = .ok (.areturn, 1)) (hc : cells ≤ C) (hs : slots ≤ S) (hq : Q (some w) T.heap locs) : Go p e below s C S Q T (mkF m pc Ls (w :: rest)) :=
  Go.retW X hx hlk hret hn (Or.inr (Or.inr (Or.inr (Or.inr ⟨rfl, ht, hw⟩)))) hd hc hs hq
/-- a method's contract out of its walk -/
theorem con_of {y : MethodName} {bytes : ByteArray} {ml : Nat} {rt : Option FieldType} {ws : List Jvm.Cond} {rm : Room} {as' : Array Value} {h0 : Heap} (hpl : plainFor y = true)
    (body : ∀ (p : Program) (e : Env) (s : State) (m : MethodId) (below : List Frame) (meth : Method) (c : Code) (T : State), Stand p l e rm s m as' below meth c T [] 0 0 → p.tables.exec = Jvm.exec → Z.Warmed39 s.vm → c.code = bytes → c.maxLocals = ml → s.vm.findClass y.cls = some m.cls → meth.name = y.name →
      meth.sig.returnType = rt → meth.locks = false → T.heap = h0 → Go p e below s rm.cells rm.slots Q T (entryFrame m as' ml)) :
    MetFree l y (head1 (Jvm.Cond.code y bytes ml rt :: ws) rm) (fun a U => a = as' ∧ Z.Warmed39 U.vm ∧ U.heap = h0) (fun _ _ _ _ _ => True) (fun _ U o U' => ∃ v L, o = .returned v ∧ Q v U'.heap L ∧ FrameEnd U o U' L rm.cells rm.slots) := by
  refine MetFree.of_bodySF hpl hisR ?_
  intro p e s m args below meth c s₁ Bd hml0 hP hK
  obtain ⟨rfl, hZ, hh⟩ := hP
  exact body p e s m below meth c s₁ (Stand.of_body Bd) Bd.exec hZ Bd.bytes hml0 (findClass_of_methodNamed Bd.named) (name_of_methodNamed Bd.named Bd.method).1 Bd.returns (BodyLoose.notSynchronized Bd) (by rw [← hh, Bd.state]; rfl)
abbrev Con (l : Launch) (Z : State) (y : MethodName) (bytes : ByteArray) (ml : Nat) (rt : Option FieldType) (rm : Room) (as' : Array Value) (h0 : Heap) (Q : Option Value → Heap → List Loc → Prop) : Prop :=
  MetFree l y (head1 [Jvm.Cond.code y bytes ml rt] rm) (fun a U => a = as' ∧ Z.Warmed39 U.vm ∧ U.heap = h0) (fun _ _ _ _ _ => True) (fun _ U o U' => ∃ v L, o = .returned v ∧ Q v U'.heap L ∧ FrameEnd U o U' L rm.cells rm.slots)
theorem Go.callS (X : Stand p l e R s m args below meth c T locs cells slots) (hx : p.tables.exec = Jvm.exec) (hZ : Z.Warmed39 s.vm) {own : String} {index : Nat} {y : MethodName} {bytes : ByteArray} {maxL : Nat} {ret : Option FieldType} {rm : Room} {as' : Array Value} {Qc : Option Value → Heap → List Loc → Prop} {W pc : Nat} {Ls : Array Slot} {st : List Value} {argsL rest : List Value} (hml : Ls.size = c.maxLocals)
    (hown : s.vm.findClass own = some m.cls) (w1 : (Jvm.Cond.methodLink own index y).before a0 Z = true) (w2 : (Jvm.Cond.static y).before a0 Z = true) (w3 : (Jvm.Cond.initialized y.cls).before a0 Z = true) (w4 : (Jvm.Cond.code y bytes maxL ret).before a0 Z = true) (hy : y.cls ≠ "java/lang/invoke/MethodHandle" ∧ y.cls ≠ "java/lang/invoke/VarHandle")
    (hM : Con l Z y bytes maxL ret rm as' h Qc) (eT : T.heap = h) (hd : decode c.code pc = .ok (.invokestatic index, 3)) (hlen : ∀ sig, parseMethodDescriptor y.desc = some sig → argsL.length = sig.parameters.length) (hst : st = argsL.reverse ++ rest) (has : argsL.toArray = as')
    (hW : (rest.map fun v => v.category).sum ≤ W) (hf : rm.frames + 1 ≤ R.frames) (hl : W + (maxL + 11) + rm.locals ≤ R.locals) (hc : cells + rm.cells ≤ R.cells) (hs : slots + rm.slots ≤ R.slots)
    (k : ∀ (v : Option Value) (T' : State) (L : List Loc), Stand p l e R s m args below meth c T' (locs ++ L) (cells + rm.cells) (slots + rm.slots) → Qc v T'.heap L → Go p e below s C S Q T' (mkF m (pc + 3) Ls (v.toList ++ rest))) :
    Go p e below s C S Q T (mkF m pc Ls st) := by
  obtain ⟨v, _, ⟨T', L', k', n'⟩, -, X', ⟨Lc, hQ, l1, y1, z1⟩, stp⟩ := Jvm.LawKit.callS X hx (y := y) hown (mvT hZ w1) (mvT hZ w2) (mvT hZ w3) (mvT hZ w4) hy (backOf (W := W) hM hZ w4 w3 hf hl) (g := mkF m pc Ls st) rfl hml (argsL := argsL) (rest := rest) hlen hst (by show 2 * 0 + _ ≤ _; omega) hd (fun _ _ => ⟨has, eT, hc, hs⟩)
  dsimp only [Pt.U, Pt.locs, Pt.cells, Pt.slots] at X' l1 y1 z1 stp hQ
  subst l1 y1 z1
  exact Go.step stp (k v T' Lc X' hQ)
theorem Go.callI (X : Stand p l e R s m args below meth c T locs cells slots) (hx : p.tables.exec = Jvm.exec) (hZ : Z.Warmed39 s.vm) {own : String} {index : Nat} {y : MethodName} {bytes : ByteArray} {maxL : Nat} {rm : Room} {as' : Array Value} {Qc : Option Value → Heap → List Loc → Prop} {W pc : Nat} {Ls : Array Slot} {st : List Value} {a : Addr} {argsL rest : List Value} (hml : Ls.size = c.maxLocals)
    (hy1 : y.name = "<init>") (hown : s.vm.findClass own = some m.cls) (w1 : (Jvm.Cond.methodLink own index y).before a0 Z = true) (w2 : (Jvm.Cond.instanceMethod y).before a0 Z = true) (w3 : (Jvm.Cond.initialized y.cls).before a0 Z = true) (w4 : (Jvm.Cond.code y bytes maxL none).before a0 Z = true) (hy : y.cls ≠ "java/lang/invoke/MethodHandle" ∧ y.cls ≠ "java/lang/invoke/VarHandle")
    (hM : Con l Z y bytes maxL none rm as' h Qc) (eT : T.heap = h) (hd : decode c.code pc = .ok (.invokespecial index, 3)) (hlen : ∀ sig, parseMethodDescriptor y.desc = some sig → argsL.length = sig.parameters.length) (hst : st = argsL.reverse ++ .ref a :: rest) (has : (Value.ref a :: argsL).toArray = as')
    (hW : (rest.map fun v => v.category).sum ≤ W) (hf : rm.frames + 1 ≤ R.frames) (hl : W + (maxL + 11) + rm.locals ≤ R.locals) (hc : cells + rm.cells ≤ R.cells) (hs : slots + rm.slots ≤ R.slots)
    (k : ∀ (v : Option Value) (T' : State) (L : List Loc), Stand p l e R s m args below meth c T' (locs ++ L) (cells + rm.cells) (slots + rm.slots) → Qc v T'.heap L → Go p e below s C S Q T' (mkF m (pc + 3) Ls (v.toList ++ rest))) :
    Go p e below s C S Q T (mkF m pc Ls st) := by
  obtain ⟨v, _, ⟨T', L', k', n'⟩, -, X', ⟨Lc, hQ, l1, y1, z1⟩, stp⟩ := X.specialBack hx (y := y) hy1 hown (mvT hZ w1) (mvT hZ w2) (mvT hZ w4) hy (backOf (W := W) hM hZ w4 w3 hf hl) (g := mkF m pc Ls st) rfl hml (Steps.refl _) (a := a) (argsL := argsL) (rest := rest) hlen hst (by show 2 * 0 + _ ≤ _; omega) hd (fun _ _ => ⟨has, eT, hc, hs⟩)
  dsimp only [Pt.U, Pt.locs, Pt.cells, Pt.slots] at X' l1 y1 z1 stp hQ
  subst l1 y1 z1
  exact Go.step (fun _ q => stp.trans q) (k v T' Lc X' hQ)
theorem Go.callV (X : Stand p l e R s m args below meth c T locs cells slots) (hx : p.tables.exec = Jvm.exec) (hZ : Z.Warmed39 s.vm) {own K : String} {index : Nat} {y z : MethodName} {bytes : ByteArray} {maxL : Nat} {ret : Option FieldType} {rm : Room} {as' : Array Value} {Qc : Option Value → Heap → List Loc → Prop} {W pc : Nat} {Ls : Array Slot} {st : List Value} {a : Addr} {argsL rest : List Value} (hml : Ls.size = c.maxLocals)
    (hown : s.vm.findClass own = some m.cls) (w1 : (Jvm.Cond.methodLink own index y).before a0 Z = true) (w2 : (Jvm.Cond.declares y).before a0 Z = true) (hnf : NotFace s y) (w5 : (Jvm.Cond.selects K y z).before a0 Z = true) (w6 : (Jvm.Cond.instanceMethod z).before a0 Z = true) (w3 : (Jvm.Cond.initialized z.cls).before a0 Z = true) (w4 : (Jvm.Cond.code z bytes maxL ret).before a0 Z = true) (hy : y.cls ≠ "java/lang/invoke/MethodHandle" ∧ y.cls ≠ "java/lang/invoke/VarHandle")
    (hM : Con l Z z bytes maxL ret rm as' h Qc) (eT : T.heap = h) (E : Exa Z h a K) (hd : decode c.code pc = .ok (.invokevirtual index, 3)) (hlen : ∀ sig, parseMethodDescriptor y.desc = some sig → argsL.length = sig.parameters.length) (hst : st = argsL.reverse ++ .ref a :: rest) (has : (Value.ref a :: argsL).toArray = as')
    (hW : (rest.map fun v => v.category).sum ≤ W) (hf : rm.frames + 1 ≤ R.frames) (hl : W + (maxL + 11) + rm.locals ≤ R.locals) (hc : cells + rm.cells ≤ R.cells) (hs : slots + rm.slots ≤ R.slots)
    (k : ∀ (v : Option Value) (T' : State) (L : List Loc), Stand p l e R s m args below meth c T' (locs ++ L) (cells + rm.cells) (slots + rm.slots) → Qc v T'.heap L → Go p e below s C S Q T' (mkF m (pc + 3) Ls (v.toList ++ rest))) :
    Go p e below s C S Q T (mkF m pc Ls st) := by
  obtain ⟨cq, kq, qa, qb, qc⟩ := isOf hZ eT E
  obtain ⟨v, _, ⟨T', L', k', n'⟩, -, X', ⟨Lc, hQ, l1, y1, z1⟩, stp⟩ := X.virtualBack hx (y := y) (z := z) hown (mvT hZ w1) (mvT hZ w2) hnf (mvT hZ w5) (mvT hZ w6) hy (backOf (W := W) hM hZ w4 w3 hf hl) qa qc (g := mkF m pc Ls st) rfl hml (Steps.refl _) (argsL := argsL) (rest := rest) hlen hst (by show 2 * 0 + _ ≤ _; omega) hd (fun _ _ => ⟨has, eT, hc, hs⟩)
  dsimp only [Pt.U, Pt.locs, Pt.cells, Pt.slots] at X' l1 y1 z1 stp hQ
  subst l1 y1 z1
  exact Go.step (fun _ q => stp.trans q) (k v T' Lc X' hQ)
theorem Go.callP (X : Stand p l e R s m args below meth c T locs cells slots) (hx : p.tables.exec = Jvm.exec) (hZ : Z.Warmed39 s.vm) {own : String} {index : Nat} {y : MethodName} {bytes : ByteArray} {maxL : Nat} {ret : Option FieldType} {rm : Room} {as' : Array Value} {Qc : Option Value → Heap → List Loc → Prop} {W pc : Nat} {Ls : Array Slot} {st : List Value} {a : Addr} {argsL rest : List Value} (hml : Ls.size = c.maxLocals)
    (hown : s.vm.findClass own = some m.cls) (w1 : (Jvm.Cond.methodLink own index y).before a0 Z = true) (w6 : (Jvm.Cond.instanceMethod y).before a0 Z = true) {kk : Nat} (w5 : (Jvm.Cond.instantiable y.cls kk).before a0 Z = true) (w7 : (Jvm.Cond.privateMethod y).before a0 Z = true) (w3 : (Jvm.Cond.initialized y.cls).before a0 Z = true) (w4 : (Jvm.Cond.code y bytes maxL ret).before a0 Z = true) (hy : y.cls ≠ "java/lang/invoke/MethodHandle" ∧ y.cls ≠ "java/lang/invoke/VarHandle")
    (hM : Con l Z y bytes maxL ret rm as' h Qc) (eT : T.heap = h) {K : String} (E : Exa Z h a K) (hd : decode c.code pc = .ok (.invokevirtual index, 3)) (hlen : ∀ sig, parseMethodDescriptor y.desc = some sig → argsL.length = sig.parameters.length) (hst : st = argsL.reverse ++ .ref a :: rest) (has : (Value.ref a :: argsL).toArray = as')
    (hW : (rest.map fun v => v.category).sum ≤ W) (hf : rm.frames + 1 ≤ R.frames) (hl : W + (maxL + 11) + rm.locals ≤ R.locals) (hc : cells + rm.cells ≤ R.cells) (hs : slots + rm.slots ≤ R.slots)
    (k : ∀ (v : Option Value) (T' : State) (L : List Loc), Stand p l e R s m args below meth c T' (locs ++ L) (cells + rm.cells) (slots + rm.slots) → Qc v T'.heap L → Go p e below s C S Q T' (mkF m (pc + 3) Ls (v.toList ++ rest))) :
    Go p e below s C S Q T (mkF m pc Ls st) := by
  obtain ⟨cq, q1, q2⟩ := E.cell
  have hpriv : s.PrivateAt y := Cond.privateMethod_at (mvP hZ w7 (args := #[]))
  have w5' : (Jvm.Cond.instantiable y.cls kk).before args s = true := mvT hZ w5
  obtain ⟨c1, k1, i1, i2, -, i4, -⟩ := Cond.instantiable_spec w5'
  have hsel : (Jvm.Cond.selects y.cls y y).before args s = true := selects_self_of_private i1 i2 (by simp only [Bool.or_eq_false_iff] at i4; exact i4.1) hpriv (mvT hZ w6) hy
  obtain ⟨v, _, ⟨T', L', k', n'⟩, -, X', ⟨Lc, hQ, l1, y1, z1⟩, stp⟩ := X.privateBack hx (y := y) hown (mvT hZ w1) (mvT hZ w6) hsel hpriv (mvT hZ w4) hy (backOf (W := W) hM hZ w4 w3 hf hl) (g := mkF m pc Ls st) rfl hml (Steps.refl _) (a := a) (by rw [eT]; exact q1) q2 (argsL := argsL) (rest := rest) hlen hst (by show 2 * 0 + _ ≤ _; omega) hd (fun _ _ => ⟨has, eT, hc, hs⟩)
  dsimp only [Pt.U, Pt.locs, Pt.cells, Pt.slots] at X' l1 y1 z1 stp hQ
  subst l1 y1 z1
  exact Go.step (fun _ q => stp.trans q) (k v T' Lc X' hQ)
end OwnGo
/-! OWN: branches on a comparison of doubles, as javac writes them -/
section OwnCmp
variable {x y : UInt64}
theorem cv_none (o : CmpOp) (h : FP.dcmp x y = none) : cmpValue (FP.dcmp x y) o = (match o with | .l => -1 | .g => 1) := by rw [h]; cases o <;> rfl
theorem gt_y (h : FP.dcmp x y = some .gt) : ifCond.holds .le (cmpValue (FP.dcmp x y) .l) = false := by rw [h]; rfl
theorem gt_n (h : ¬ FP.dcmp x y = some .gt) : ifCond.holds .le (cmpValue (FP.dcmp x y) .l) = true := by
  rcases q : FP.dcmp x y with _ | (_ | _ | _) <;> first | rfl | exact absurd q h
theorem ge_y (h : FP.dcmp x y = some .gt ∨ FP.dcmp x y = some .eq) : ifCond.holds .lt (cmpValue (FP.dcmp x y) .l) = false := by rcases h with h | h <;> rw [h] <;> rfl
theorem ge_n (h : ¬ (FP.dcmp x y = some .gt ∨ FP.dcmp x y = some .eq)) : ifCond.holds .lt (cmpValue (FP.dcmp x y) .l) = true := by
  rcases q : FP.dcmp x y with _ | (_ | _ | _) <;> first | rfl | exact absurd (Or.inl q) h | exact absurd (Or.inr q) h
theorem lt_y (h : FP.dcmp x y = some .lt) : ifCond.holds .ge (cmpValue (FP.dcmp x y) .g) = false := by rw [h]; rfl
theorem lt_n (h : ¬ FP.dcmp x y = some .lt) : ifCond.holds .ge (cmpValue (FP.dcmp x y) .g) = true := by
  rcases q : FP.dcmp x y with _ | (_ | _ | _) <;> first | rfl | exact absurd q h
theorem le_y (h : FP.dcmp x y = some .lt ∨ FP.dcmp x y = some .eq) : ifCond.holds .gt (cmpValue (FP.dcmp x y) .g) = false := by rcases h with h | h <;> rw [h] <;> rfl
theorem le_n (h : ¬ (FP.dcmp x y = some .lt ∨ FP.dcmp x y = some .eq)) : ifCond.holds .gt (cmpValue (FP.dcmp x y) .g) = true := by
  rcases q : FP.dcmp x y with _ | (_ | _ | _) <;> first | rfl | exact absurd (Or.inl q) h | exact absurd (Or.inr q) h
theorem eq_y (o : CmpOp) (h : FP.dcmp x y = some .eq) : ifCond.holds .ne (cmpValue (FP.dcmp x y) o) = false ∧ ifCond.holds .eq (cmpValue (FP.dcmp x y) o) = true := by rw [h]; cases o <;> exact ⟨rfl, rfl⟩
theorem eq_n (o : CmpOp) (h : ¬ FP.dcmp x y = some .eq) : ifCond.holds .ne (cmpValue (FP.dcmp x y) o) = true ∧ ifCond.holds .eq (cmpValue (FP.dcmp x y) o) = false := by
  rcases q : FP.dcmp x y with _ | (_ | _ | _) <;> cases o <;> first | exact ⟨rfl, rfl⟩ | exact absurd q h
/-- x > y, by a taken 'ifgt' over dcmpl -/
theorem gtT_y (h : FP.dcmp x y = some .gt) : ifCond.holds .gt (cmpValue (FP.dcmp x y) .l) = true := by rw [h]; rfl
theorem gtT_n (h : ¬ FP.dcmp x y = some .gt) : ifCond.holds .gt (cmpValue (FP.dcmp x y) .l) = false := by
  rcases q : FP.dcmp x y with _ | (_ | _ | _) <;> first | rfl | exact absurd q h
theorem geT_y (h : FP.dcmp x y = some .gt ∨ FP.dcmp x y = some .eq) : ifCond.holds .ge (cmpValue (FP.dcmp x y) .l) = true := by rcases h with h | h <;> rw [h] <;> rfl
theorem geT_n (h : ¬ (FP.dcmp x y = some .gt ∨ FP.dcmp x y = some .eq)) : ifCond.holds .ge (cmpValue (FP.dcmp x y) .l) = false := by
  rcases q : FP.dcmp x y with _ | (_ | _ | _) <;> first | rfl | exact absurd (Or.inl q) h | exact absurd (Or.inr q) h
theorem ltT_y (h : FP.dcmp x y = some .lt) : ifCond.holds .lt (cmpValue (FP.dcmp x y) .g) = true := by rw [h]; rfl
theorem ltT_n (h : ¬ FP.dcmp x y = some .lt) : ifCond.holds .lt (cmpValue (FP.dcmp x y) .g) = false := by
  rcases q : FP.dcmp x y with _ | (_ | _ | _) <;> first | rfl | exact absurd q h
theorem leT_y (h : FP.dcmp x y = some .lt ∨ FP.dcmp x y = some .eq) : ifCond.holds .le (cmpValue (FP.dcmp x y) .g) = true := by rcases h with h | h <;> rw [h] <;> rfl
theorem leT_n (h : ¬ (FP.dcmp x y = some .lt ∨ FP.dcmp x y = some .eq)) : ifCond.holds .le (cmpValue (FP.dcmp x y) .g) = false := by
  rcases q : FP.dcmp x y with _ | (_ | _ | _) <;> first | rfl | exact absurd (Or.inl q) h | exact absurd (Or.inr q) h
end OwnCmp

/-! OWN: arrays by a function of the place -/
def updN {α : Type} (g : Nat → α) (j : Nat) (x : α) : Nat → α := fun i => if i = j then x else g i
theorem updN_same {α : Type} (g : Nat → α) (j : Nat) (x : α) : updN g j x j = x := by simp [updN]
theorem updN_ne {α : Type} {g : Nat → α} {i j : Nat} {x : α} (h : i ≠ j) : updN g j x i = g i := by simp [updN, h]
def Fv (Z : State) (h : Heap) (a : Addr) (ty : FieldType) (n : Int32) (f : Nat → Value) : Prop :=
  ∃ c : Cell, Arr Z h a c ty ∧ c.slots.size = n.toNatClampNeg ∧ ¬ n < 0 ∧ (∀ i, fits ty (f i) = true) ∧ ∀ i, i < c.slots.size → c.slots[i]? = some (f i)
abbrev Dv (Z : State) (h : Heap) (a : Addr) (n : Int32) (g : Nat → UInt64) : Prop := Fv Z h a .double n (fun i => .double (g i))
abbrev Iv (Z : State) (h : Heap) (a : Addr) (n : Int32) (g : Nat → Int32) : Prop := Fv Z h a .int n (fun i => .int (g i))
section OwnFv
variable {Z : State} {h h' : Heap} {a b : Addr} {ty : FieldType} {n j : Int32} {f : Nat → Value} {v : Value} {sl : Nat} {ws : List Addr}
theorem Fv.lt (F : Fv Z h a ty n f) : a < h.size := by obtain ⟨c, A, -⟩ := F; exact A.lt
theorem Fv.ext (F : Fv Z h a ty n f) (E : Ext h h') : Fv Z h' a ty n f := by obtain ⟨c, A, r⟩ := F; exact ⟨c, A.ext E, r⟩
theorem Fv.other (F : Fv Z h b ty n f) (W : Wr h h' a sl v) (q : b ≠ a) : Fv Z h' b ty n f := by obtain ⟨c, A, r⟩ := F; exact ⟨c, A.other W q, r⟩
theorem Fv.keep (F : Fv Z h a ty n f) (K : Keep h h' ws) (q : a ∉ ws) : Fv Z h' a ty n f := by obtain ⟨c, A, r⟩ := F; exact ⟨c, ⟨K.2.1 a c A.1 q, A.2⟩, r⟩
theorem Fv.new {k : ClassId} (A : Arr Z h a (newA k ty n) ty) (q : ¬ n < 0) : Fv Z h a ty n (fun _ => defaultValue ty) := ⟨_, A, sz_new _ _ _, q, fun i => by cases ty <;> rfl, fun i hi => by
  rw [sz_new] at hi; simp [newA, hi]⟩
theorem own_nat_of {j : Int32} (h : ¬ j < 0) : (j.toNatClampNeg : Int) = j.toInt := by
  rw [Int32.lt_iff_toInt_lt] at h; have e0 : (0 : Int32).toInt = 0 := rfl
  rw [Int32.toNatClampNeg]; omega
theorem Fv.set (F : Fv Z h a ty n f) (W : Wr h h' a j.toNatClampNeg v) (hv : fits ty v = true) : Fv Z h' a ty n (updN f j.toNatClampNeg v) := by
  obtain ⟨c, A, S, P, G, H⟩ := F
  refine ⟨_, A.same W, by rw [sz_set]; exact S, P, fun i => ?_, fun i hi => ?_⟩
  · unfold updN; split
    · exact hv
    · exact G i
  · rw [sz_set] at hi
    unfold updN
    by_cases u : i = j.toNatClampNeg
    · rw [if_pos u, u]; rw [u] at hi; simp [Cell.setSlot, hi]
    · rw [if_neg u]; simp only [Cell.setSlot]; rw [Array.getElem?_setIfInBounds_ne (Ne.symm u)]; exact H i hi
theorem Dv.set {g : Nat → UInt64} {x : UInt64} (F : Dv Z h a n g) (W : Wr h h' a j.toNatClampNeg (.double x)) : Dv Z h' a n (updN g j.toNatClampNeg x) := by
  have := Fv.set F W rfl
  have e : (updN (fun i => Value.double (g i)) j.toNatClampNeg (.double x)) = fun i => Value.double (updN g j.toNatClampNeg x i) := by
    funext i; unfold updN; split <;> rfl
  rw [e] at this; exact this
theorem Iv.set {g : Nat → Int32} {x : Int32} (F : Iv Z h a n g) (W : Wr h h' a j.toNatClampNeg (.int x)) : Iv Z h' a n (updN g j.toNatClampNeg x) := by
  have := Fv.set F W rfl
  have e : (updN (fun i => Value.int (g i)) j.toNatClampNeg (.int x)) = fun i => Value.int (updN g j.toNatClampNeg x i) := by
    funext i; unfold updN; split <;> rfl
  rw [e] at this; exact this
theorem Fv.congr {f' : Nat → Value} (F : Fv Z h a ty n f) (q : ∀ i, f i = f' i) : Fv Z h a ty n f' := by rw [← (funext q : f = f')]; exact F
theorem Fv.inb {c : Cell} (S : c.slots.size = n.toNatClampNeg) (q : ¬ j < 0 ∧ j < n) : ¬ (j < 0 ∨ c.slots.size ≤ j.toNatClampNeg) := inb_of S q
variable {p : Program} {l : Launch} {e : Env} {R : Room} {s : State} {m : MethodId} {args : Array Value} {below : List Frame} {meth : Method} {c : Code} {T : State} {locs : List Loc} {cells slots : Nat} {C S : Nat} {Q : Option Value → Heap → List Loc → Prop} {pc : Nat} {Ls : Array Slot} {rest : List Value}
theorem Go.alen (X : Stand p l e R s m args below meth c T locs cells slots) (hx : p.tables.exec = Jvm.exec) (hZ : Z.Warmed39 s.vm) (eT : T.heap = h) (F : Fv Z h a ty n f) (hd : decode c.code pc = .ok (.arraylength, 1))
    (k : Go p e below s C S Q T (mkF m (pc + 1) Ls (.int n :: rest))) : Go p e below s C S Q T (mkF m pc Ls (.ref a :: rest)) := by
  obtain ⟨cl, A, S', P, -, -⟩ := F
  refine Go.step (X.arraylength hx (cell := cl) (by rw [eT]; exact A.1) (State.isArrayOf_alike hZ.alike A.2.1) (g := mkF m pc Ls (.ref a :: rest)) rfl rfl hd) ?_
  rw [len_of S' P]; exact k
theorem Go.iaload {g : Nat → Int32} {v : Int32} (X : Stand p l e R s m args below meth c T locs cells slots) (hx : p.tables.exec = Jvm.exec) (hZ : Z.Warmed39 s.vm) (eT : T.heap = h) (F : Iv Z h a n g) (hj : ¬ j < 0 ∧ j < n) (hv : g j.toNatClampNeg = v) (hd : decode c.code pc = .ok (.iaload, 1))
    (k : Go p e below s C S Q T (mkF m (pc + 1) Ls (.int v :: rest))) : Go p e below s C S Q T (mkF m pc Ls (.int j :: .ref a :: rest)) := by
  obtain ⟨cl, A, S', P, G, H⟩ := F
  have q := inb_of S' hj
  exact Go.step (fun t r => X.iaload hx (j := j) (v := .int v) (by rw [eT]; exact A.1) (State.isArrayOf_alike hZ.alike A.2.1) A.2.2 q (by rw [← hv]; exact H _ (Nat.lt_of_not_le fun z => q (Or.inr z))) (g := mkF m pc Ls (.int j :: .ref a :: rest)) rfl rfl hd t r) k
theorem Go.daload {g : Nat → UInt64} {v : UInt64} (X : Stand p l e R s m args below meth c T locs cells slots) (hx : p.tables.exec = Jvm.exec) (hZ : Z.Warmed39 s.vm) (eT : T.heap = h) (F : Dv Z h a n g) (hj : ¬ j < 0 ∧ j < n) (hv : g j.toNatClampNeg = v) (hd : decode c.code pc = .ok (.daload, 1))
    (k : Go p e below s C S Q T (mkF m (pc + 1) Ls (.double v :: rest))) : Go p e below s C S Q T (mkF m pc Ls (.int j :: .ref a :: rest)) := by
  obtain ⟨cl, A, S', P, G, H⟩ := F
  have q := inb_of S' hj
  exact Go.step (fun t r => X.daload hx (j := j) (v := .double v) (by rw [eT]; exact A.1) (State.isArrayOf_alike hZ.alike A.2.1) A.2.2 q (by rw [← hv]; exact H _ (Nat.lt_of_not_le fun z => q (Or.inr z))) (g := mkF m pc Ls (.int j :: .ref a :: rest)) rfl rfl hd t r) k
theorem Go.iastore {g : Nat → Int32} {x : Int32} (X : Stand p l e R s m args below meth c T locs cells slots) (hx : p.tables.exec = Jvm.exec) (hZ : Z.Warmed39 s.vm) (eT : T.heap = h) (F : Iv Z h a n g) (hj : ¬ j < 0 ∧ j < n) (hd : decode c.code pc = .ok (.iastore, 1))
    (k : ∀ T' h', Stand p l e R s m args below meth c T' (locs ++ [⟨a, j.toNatClampNeg⟩]) cells slots → T'.heap = h' → Wr h h' a j.toNatClampNeg (.int x) → Iv Z h' a n (updN g j.toNatClampNeg x) → Go p e below s C S Q T' (mkF m (pc + 1) Ls rest)) : Go p e below s C S Q T (mkF m pc Ls (.int x :: .int j :: .ref a :: rest)) := by
  have F0 := F
  obtain ⟨cl, A, S', P, G, H⟩ := F
  obtain ⟨T', h', X', e', W, st⟩ := stI X hx hZ eT A (j := j) (x := x) (inb_of S' hj) (g := mkF m pc Ls (.int x :: .int j :: .ref a :: rest)) rfl rfl hd
  exact Go.step st (k T' h' X' e' W (Iv.set F0 W))
theorem Go.dastore {g : Nat → UInt64} {x : UInt64} (X : Stand p l e R s m args below meth c T locs cells slots) (hx : p.tables.exec = Jvm.exec) (hZ : Z.Warmed39 s.vm) (eT : T.heap = h) (F : Dv Z h a n g) (hj : ¬ j < 0 ∧ j < n) (hd : decode c.code pc = .ok (.dastore, 1))
    (k : ∀ T' h', Stand p l e R s m args below meth c T' (locs ++ [⟨a, j.toNatClampNeg⟩]) cells slots → T'.heap = h' → Wr h h' a j.toNatClampNeg (.double x) → Dv Z h' a n (updN g j.toNatClampNeg x) → Go p e below s C S Q T' (mkF m (pc + 1) Ls rest)) : Go p e below s C S Q T (mkF m pc Ls (.double x :: .int j :: .ref a :: rest)) := by
  have F0 := F
  obtain ⟨cl, A, S', P, G, H⟩ := F
  obtain ⟨T', h', X', e', W, st⟩ := stD X hx hZ eT A (j := j) (x := x) (inb_of S' hj) (g := mkF m pc Ls (.double x :: .int j :: .ref a :: rest)) rfl rfl hd
  exact Go.step st (k T' h' X' e' W (Dv.set F0 W))
abbrev Zv (Z : State) (h : Heap) (a : Addr) (n : Int32) (g : Nat → Int32) : Prop := Fv Z h a .boolean n (fun i => .int (g i))
theorem Zv.set {g : Nat → Int32} {x : Int32} (F : Zv Z h a n g) (W : Wr h h' a j.toNatClampNeg (.int x)) (hb : fits .boolean (.int x) = true) : Zv Z h' a n (updN g j.toNatClampNeg x) := by
  have := Fv.set F W hb
  have e : (updN (fun i => Value.int (g i)) j.toNatClampNeg (.int x)) = fun i => Value.int (updN g j.toNatClampNeg x i) := by
    funext i; unfold updN; split <;> rfl
  rw [e] at this; exact this
theorem Go.zaload {g : Nat → Int32} {v : Int32} (X : Stand p l e R s m args below meth c T locs cells slots) (hx : p.tables.exec = Jvm.exec) (hZ : Z.Warmed39 s.vm) (eT : T.heap = h) (F : Zv Z h a n g) (hj : ¬ j < 0 ∧ j < n) (hv : g j.toNatClampNeg = v) (hd : decode c.code pc = .ok (.baload, 1))
    (k : Go p e below s C S Q T (mkF m (pc + 1) Ls (.int v :: rest))) : Go p e below s C S Q T (mkF m pc Ls (.int j :: .ref a :: rest)) := by
  obtain ⟨cl, A, S', P, G, H⟩ := F
  have q := inb_of S' hj
  exact Go.step (fun t r => X.baloadBooleans hx (j := j) (v := .int v) (by rw [eT]; exact A.1) (State.isArrayOf_alike hZ.alike A.2.1) A.2.2 q (by rw [← hv]; exact H _ (Nat.lt_of_not_le fun z => q (Or.inr z))) (g := mkF m pc Ls (.int j :: .ref a :: rest)) rfl rfl hd t r) k
theorem Go.zastore {g : Nat → Int32} {x : Int32} (X : Stand p l e R s m args below meth c T locs cells slots) (hx : p.tables.exec = Jvm.exec) (hZ : Z.Warmed39 s.vm) (eT : T.heap = h) (F : Zv Z h a n g) (hj : ¬ j < 0 ∧ j < n) (hn : nar .boolean x = x) (hd : decode c.code pc = .ok (.bastore, 1))
    (k : ∀ T' h', Stand p l e R s m args below meth c T' (locs ++ [⟨a, j.toNatClampNeg⟩]) cells slots → T'.heap = h' → Wr h h' a j.toNatClampNeg (.int x) → Zv Z h' a n (updN g j.toNatClampNeg x) → Go p e below s C S Q T' (mkF m (pc + 1) Ls rest)) : Go p e below s C S Q T (mkF m pc Ls (.int x :: .int j :: .ref a :: rest)) := by
  have F0 := F
  obtain ⟨cl, A, S', P, G, H⟩ := F
  have hj' := inb_of S' hj
  obtain ⟨X', st⟩ := bastoreZ X hx (by rw [eT]; exact A.1) (State.isArrayOf_alike hZ.alike A.2.1) A.2.2 hj' (g := mkF m pc Ls (.int x :: .int j :: .ref a :: rest)) rfl rfl hd
  rw [hn] at X' st
  have W : Wr h (T.setCell a (cl.setSlot j.toNatClampNeg (.int x))).heap a j.toNatClampNeg (.int x) := ⟨cl, A.1, A.plain, Nat.lt_of_not_le fun q => hj' (Or.inr q), by rw [← eT]; rfl⟩
  exact Go.step st (k _ _ X' rfl W (Zv.set F0 W (by rw [← hn]; exact fits_nar_bool x)))
/-- clone() of an array -/
theorem Go.clone {a0 : Array Value} {own ad : String} {index W cap : Nat} (X : Stand p l e R s m args below meth c T locs cells slots) (hx : p.tables.exec = Jvm.exec) (hZ : Z.Warmed39 s.vm) (hml : Ls.size = c.maxLocals) (hown : s.vm.findClass own = some m.cls)
    (w1 : (Jvm.Cond.methodLink own index ⟨ad, "clone", "()Ljava/lang/Object;"⟩).before a0 Z = true) (w2 : (Jvm.Cond.sameMethod ad "java/lang/Object" "clone" "()Ljava/lang/Object;").before a0 Z = true) (w3 : (Jvm.Cond.native ⟨"java/lang/Object", "clone", "()Ljava/lang/Object;"⟩).before a0 Z = true)
    (w4 : (Jvm.Cond.instanceMethod ⟨"java/lang/Object", "clone", "()Ljava/lang/Object;"⟩).before a0 Z = true) (w5 : (Jvm.Cond.selects ad ⟨ad, "clone", "()Ljava/lang/Object;"⟩ ⟨"java/lang/Object", "clone", "()Ljava/lang/Object;"⟩).before a0 Z = true) (w6 : (Jvm.Cond.castable ad "java/lang/Cloneable").before a0 Z = true)
    (eT : T.heap = h) (F : Fv Z h a ty n f) (E : Exa Z h a ad) (hd : decode c.code pc = .ok (.invokevirtual index, 3)) (hf : 1 ≤ R.frames) (hW : (rest.map fun v => v.category).sum ≤ W) (hl : W + 14 ≤ R.locals) (hcap : n.toNatClampNeg ≤ cap) (hc : cells + 1 ≤ R.cells) (hsl : slots + cap ≤ R.slots)
    (k : ∀ T' h' b, b = h.size → Stand p l e R s m args below meth c T' locs (cells + 1) (slots + cap) → T'.heap = h' → Ext h h' → Fv Z h' b ty n f → Exa Z h' b ad → Go p e below s C S Q T' (mkF m (pc + 3) Ls (.ref b :: rest))) : Go p e below s C S Q T (mkF m pc Ls (.ref a :: rest)) := by
  obtain ⟨cl, A, S', P, G, H⟩ := F
  have FC : FitC Z cl := fitC_of A fun i hi v hv => by rw [H i hi] at hv; cases hv; exact G i
  obtain ⟨T', h', X', e', ex, A', E', st⟩ := cloneA X hx hZ hown w1 w2 w3 w4 w5 w6 eT A E FC (g := mkF m pc Ls (.ref a :: rest)) rfl hml rfl hd hf (by show 2 * 0 + _ ≤ _; omega) hl (by rw [S']; exact hcap) hc hsl
  exact Go.step st (k T' h' _ rfl X' e' ex ⟨cloneOf cl, A', S', P, G, H⟩ E')
end OwnFv

section OwnConv
open Jvm.FP.Core
theorem own_nnN {a : UInt64} (h : val64 a ≠ .nan) : Jvm.Free.Fl.NoNaN64 a := Jvm.Free.Fl.noNaN64_no.mpr ((notNaN_iff a).mpr h)
theorem own_Nnn {a : UInt64} (h : Jvm.Free.Fl.NoNaN64 a) : val64 a ≠ .nan := (notNaN_iff a).mp (Jvm.Free.Fl.noNaN64_no.mp h)
theorem own_finF {a : UInt64} (h : DFin a) : Jvm.Free.Fl.Fin64 a := Jvm.Free.Fl.fin64_core.mpr h
theorem own_Ffin {a : UInt64} (h : Jvm.Free.Fl.Fin64 a) : DFin a := Jvm.Free.Fl.fin64_core.mp h
theorem own_nnF {a : UInt64} (h : DFin a) : Jvm.Free.Fl.NoNaN64 a := own_nnN h.ne_nan
theorem own_nz {x : Int64} (h : x ≠ 0) : Jvm.Free.Fl.Nz64 (FP.l2d x) := Jvm.Free.Fl.nz64_core.mpr (fun z => l2d_ne_zero h ((zero_bits2 _).mp z))
theorem own_eqD {a b : UInt64} (h : a = b) (n : Jvm.Free.Fl.NoNaN64 a) : FP.dcmp a b = some .eq := by subst h; exact dcmp_self (own_Nnn n)
end OwnConv

section OwnDQ
open Jvm.FP.Core
/-- the heap's order among the first n labels -/
def HI (K : Nat → Int) (a : Nat → Nat) : Nat → Prop
  | 0 => True
  | 1 => True
  | 2 => K (a 0) ≤ K (a 1)
  | 3 => K (a 0) ≤ K (a 1) ∧ K (a 0) ≤ K (a 2)
  | 4 => K (a 0) ≤ K (a 1) ∧ K (a 0) ≤ K (a 2) ∧ K (a 1) ≤ K (a 3)
  | _ => K (a 0) ≤ K (a 1) ∧ K (a 0) ≤ K (a 2) ∧ K (a 1) ≤ K (a 3) ∧ K (a 1) ≤ K (a 4)
def sumA (w : Nat → Int) (a : Nat → Nat) : Nat → Int
  | 0 => 0
  | n + 1 => sumA w a n + w (a n)
theorem own_gtK {T : Nat → UInt64} {K : Nat → Int} (hT : ∀ x y, FP.dcmp (T x) (T y) = some (compare (K x) (K y))) {x y : Nat} (h : FP.dcmp (T x) (T y) = some .gt) : K y < K x := by
  rw [hT] at h; exact (compare_gt_iff _ _).mp (Option.some.inj h)
theorem own_ngtK {T : Nat → UInt64} {K : Nat → Int} (hT : ∀ x y, FP.dcmp (T x) (T y) = some (compare (K x) (K y))) {x y : Nat} (h : ¬ FP.dcmp (T x) (T y) = some .gt) : K x ≤ K y := by
  refine Int.not_lt.mp fun q => h ?_
  rw [hT, (compare_gt_iff _ _).mpr q]
theorem own_ltK {T : Nat → UInt64} {K : Nat → Int} (hT : ∀ x y, FP.dcmp (T x) (T y) = some (compare (K x) (K y))) {x y : Nat} (h : FP.dcmp (T x) (T y) = some .lt) : K x < K y := by
  rw [hT] at h; exact (compare_lt_iff _ _).mp (Option.some.inj h)
theorem own_nltK {T : Nat → UInt64} {K : Nat → Int} (hT : ∀ x y, FP.dcmp (T x) (T y) = some (compare (K x) (K y))) {x y : Nat} (h : ¬ FP.dcmp (T x) (T y) = some .lt) : K y ≤ K x := by
  refine Int.not_lt.mp fun q => h ?_
  rw [hT, (compare_lt_iff _ _).mpr q]
theorem own_geK {T : Nat → UInt64} {K : Nat → Int} (hT : ∀ x y, FP.dcmp (T x) (T y) = some (compare (K x) (K y))) {x y : Nat} (h : FP.dcmp (T x) (T y) = some .gt ∨ FP.dcmp (T x) (T y) = some .eq) : K y ≤ K x := by
  rcases h with h | h
  · exact Int.le_of_lt (own_gtK hT h)
  · rw [hT] at h; rw [(compare_eq_iff _ _).mp (Option.some.inj h)]; exact Int.le_refl _
theorem own_ngeK {T : Nat → UInt64} {K : Nat → Int} (hT : ∀ x y, FP.dcmp (T x) (T y) = some (compare (K x) (K y))) {x y : Nat} (h : ¬ (FP.dcmp (T x) (T y) = some .gt ∨ FP.dcmp (T x) (T y) = some .eq)) : K x < K y := by
  refine Int.not_le.mp fun q => h ?_
  rcases Int.lt_or_eq_of_le q with z | z
  · left; rw [hT, (compare_gt_iff _ _).mpr z]
  · right; rw [hT, (compare_eq_iff _ _).mpr z.symm]
end OwnDQ

section OwnL
def tV (p : Int32) : Nat → Int32 := (updN (updN (updN (updN (fun _ => (0 : Int32)) 0 (p.toInt8.toInt32)) 1 ((p >>> ((8 : Int32) &&& 31)).toInt8.toInt32)) 2 ((p >>> ((16 : Int32) &&& 31)).toInt8.toInt32)) 3 ((p >>> ((24 : Int32) &&& 31)).toInt8.toInt32))
def tT (p : Int32) (x : Nat) : UInt64 := FP.i2d (tV p x)
def tK (p : Int32) (x : Nat) : Int := (tV p x).toInt
def tL (b : Int32) : Nat → Int32
  | 0 => b
  | 1 => b + (1 : Int32)
  | 2 => b + (2 : Int32)
  | _ => b + (3 : Int32)
theorem tH (p : Int32) (x y : Nat) : FP.dcmp (tT p x) (tT p y) = some (compare (tK p x) (tK p y)) := Jvm.FP.Core.dcmp_int (Jvm.FP.Core.i2d_int _) (Jvm.FP.Core.i2d_int _)
def minW (a b : Int32) : Int32 := if b < a then b else a
def maxW (a b : Int32) : Int32 := if a < b then b else a
theorem minW_i (a b : Int32) : (minW a b).toInt = min a.toInt b.toInt := by
  unfold minW; split <;> rename_i h <;> rw [Int32.lt_iff_toInt_lt] at h <;> omega
theorem maxW_i (a b : Int32) : (maxW a b).toInt = max a.toInt b.toInt := by
  unfold maxW; split <;> rename_i h <;> rw [Int32.lt_iff_toInt_lt] at h <;> omega
theorem own_sub (b k : Int32) : b + k - b = k := by
  rw [Int32.add_comm]; exact Int32.add_sub_cancel k b
theorem own_r {b r : Int32} {x : Nat} (hx : x < 4) (hr : r = tL b x) : ¬ (r - b) < (0 : Int32) ∧ (r - b) < (4 : Int32) ∧ ¬ (3 : Int32) < (r - b) ∧ (r - b).toNatClampNeg = x := by
  have e : r - b = Int32.ofNat x := by
    rw [hr]
    rcases (by omega : x = 0 ∨ x = 1 ∨ x = 2 ∨ x = 3) with rfl | rfl | rfl | rfl
    · show b - b = _; rw [Int32.sub_self]; rfl
    · exact own_sub b 1
    · exact own_sub b 2
    · exact own_sub b 3
  rw [e]
  rcases (by omega : x = 0 ∨ x = 1 ∨ x = 2 ∨ x = 3) with rfl | rfl | rfl | rfl <;> decide
theorem own_permF : ∀ a b c d : Fin 4, (5 ^ a.1 + 5 ^ b.1 + 5 ^ c.1 + 5 ^ d.1 = 156) → a.1 ≠ b.1 ∧ a.1 ≠ c.1 ∧ a.1 ≠ d.1 ∧ b.1 ≠ c.1 ∧ b.1 ≠ d.1 ∧ c.1 ≠ d.1 := by first | decide +kernel | (unfold Jvm.Free.Fl.Fin64; decide +kernel) | (unfold Jvm.Free.Fl.Nz64; decide +kernel) | (unfold Jvm.Free.Fl.NoNaN64; decide +kernel)
theorem own_perm {a b c d : Nat} (ha : a < 4) (hb : b < 4) (hc : c < 4) (hd : d < 4) (hw : ∀ w : Nat → Int, w a + w b + w c + w d = w 0 + w 1 + w 2 + w 3) : a ≠ b ∧ a ≠ c ∧ a ≠ d ∧ b ≠ c ∧ b ≠ d ∧ c ≠ d := by
  refine own_permF ⟨a, ha⟩ ⟨b, hb⟩ ⟨c, hc⟩ ⟨d, hd⟩ ?_
  have := hw (fun x => ((5 ^ x : Nat) : Int))
  simp only at this ⊢
  omega
theorem own_sort {v : Nat → Int} {a b c d : Nat} (ha : a < 4) (hb : b < 4) (hc : c < 4) (hd : d < 4) (hp : a ≠ b ∧ a ≠ c ∧ a ≠ d ∧ b ≠ c ∧ b ≠ d ∧ c ≠ d) (h1 : v a ≤ v b) (h2 : v b ≤ v c) (h3 : v c ≤ v d) :
    v a = min (min (v 0) (v 1)) (min (v 2) (v 3)) ∧ v b = min (max (min (v 0) (v 1)) (min (v 2) (v 3))) (min (max (v 0) (v 1)) (max (v 2) (v 3))) ∧ v c = max (max (min (v 0) (v 1)) (min (v 2) (v 3))) (min (max (v 0) (v 1)) (max (v 2) (v 3))) ∧ v d = max (max (v 0) (v 1)) (max (v 2) (v 3)) := by
  generalize e0 : v 0 = v0; generalize e1 : v 1 = v1; generalize e2 : v 2 = v2; generalize e3 : v 3 = v3
  obtain ⟨q1, q2, q3, q4, q5, q6⟩ := hp
  rcases (by omega : a = 0 ∨ a = 1 ∨ a = 2 ∨ a = 3) with rfl | rfl | rfl | rfl <;> rcases (by omega : b = 0 ∨ b = 1 ∨ b = 2 ∨ b = 3) with rfl | rfl | rfl | rfl <;> first | (exact absurd rfl q1) | skip
  all_goals rcases (by omega : c = 0 ∨ c = 1 ∨ c = 2 ∨ c = 3) with rfl | rfl | rfl | rfl <;> first | (exact absurd rfl q2) | (exact absurd rfl q4) | skip
  all_goals rcases (by omega : d = 0 ∨ d = 1 ∨ d = 2 ∨ d = 3) with rfl | rfl | rfl | rfl <;> first | (exact absurd rfl q3) | (exact absurd rfl q5) | (exact absurd rfl q6) | skip
  all_goals simp only [e0, e1, e2, e3] at h1 h2 h3 ⊢
  all_goals omega
theorem own_want {p x y : Int32} {i : Nat} (hi : (x).toNatClampNeg = i) (h : tK p i = y.toInt) : tV p (x).toNatClampNeg = y := by
  rw [hi]; exact Int32.toInt_inj.mp h
theorem own_one {r : Int32} (h : r = 1) : ¬ r = (0 : Int32) := by rw [h]; decide
end OwnL
theorem d3_0 : decode prog_1_method_1_code 0 = .ok (.aload_n 0, 1) := by decide +kernel
theorem d3_1 : decode prog_1_method_1_code 1 = .ok (.invokespecial 1, 3) := by decide +kernel
theorem d3_4 : decode prog_1_method_1_code 4 = .ok (.aload_n 0, 1) := by decide +kernel
theorem d3_5 : decode prog_1_method_1_code 5 = .ok (.bipush 64, 2) := by decide +kernel
theorem d3_7 : decode prog_1_method_1_code 7 = .ok (.newarray .double, 2) := by decide +kernel
theorem d3_9 : decode prog_1_method_1_code 9 = .ok (.putfield 7, 3) := by decide +kernel
theorem d3_12 : decode prog_1_method_1_code 12 = .ok (.aload_n 0, 1) := by decide +kernel
theorem d3_13 : decode prog_1_method_1_code 13 = .ok (.bipush 64, 2) := by decide +kernel
theorem d3_15 : decode prog_1_method_1_code 15 = .ok (.newarray .int, 2) := by decide +kernel
theorem d3_17 : decode prog_1_method_1_code 17 = .ok (.putfield 13, 3) := by decide +kernel
theorem d3_20 : decode prog_1_method_1_code 20 = .ok (.return_, 1) := by decide +kernel
set_option maxRecDepth 65536 in
set_option maxHeartbeats 40000000 in
theorem w3 {p : Program} {l : Launch} {e : Env} {s : State} {m : MethodId} {args : Array Value} {below : List Frame} {meth : Method} {c_ : Code} {T0 : State} {locs : List Loc} {Z : State} {a0 : Array Value} {h0 : Heap} {n0 : Nat} (q : Addr)
    (X0 : Stand p l e ({ frames := 1, cells := 2, slots := 128, locals := 12 } : Room) s m args below meth c_ T0 locs 0 0) (hx : p.tables.exec = Jvm.exec) (hZ : Z.Warmed39 s.vm) (hw : ∀ d ∈ tables_1, d.before a0 Z = true) (hby : c_.code = prog_1_method_1_code) (hml : c_.maxLocals = 1) (hown : s.vm.findClass "com/example/wavegrade/wavegrade/DepartureQueue" = some m.cls) (hnm : meth.name = "<init>") (hret : meth.sig.returnType = none) (hlk : meth.locks = false) (e0 : T0.heap = h0) (Z0 : n0 ≤ h0.size) (N0 : Fr n0 locs) (E_q : Exa Z h0 q "com/example/wavegrade/wavegrade/DepartureQueue") (F_size_q : Fld Z h0 q "com/example/wavegrade/wavegrade/DepartureQueue" "size" "I" (.int (0 : Int32))) (F_times_q : Fld Z h0 q "com/example/wavegrade/wavegrade/DepartureQueue" "times" "[D" .null) (F_lightpaths_q : Fld Z h0 q "com/example/wavegrade/wavegrade/DepartureQueue" "lightpaths" "[I" .null) (ge_q : n0 ≤ q) :
    Go p e below s ({ frames := 1, cells := 2, slots := 128, locals := 12 } : Room).cells ({ frames := 1, cells := 2, slots := 128, locals := 12 } : Room).slots (fun r h L => r = none ∧ Fr n0 L ∧ Keep h0 h [q] ∧ Exa Z h q "com/example/wavegrade/wavegrade/DepartureQueue" ∧ Fld Z h q "com/example/wavegrade/wavegrade/DepartureQueue" "size" "I" (.int (0 : Int32)) ∧ ∃ u v : Addr, Fld Z h q "com/example/wavegrade/wavegrade/DepartureQueue" "times" "[D" (.ref u) ∧ Fld Z h q "com/example/wavegrade/wavegrade/DepartureQueue" "lightpaths" "[I" (.ref v) ∧ Dv Z h u (64 : Int32) (fun _ => 0) ∧ Iv Z h v (64 : Int32) (fun _ => 0) ∧ q ≠ u ∧ q ≠ v ∧ u ≠ v ∧ h0.size ≤ u ∧ h0.size ≤ v) T0 (mkF m 0 #[.val (.ref q)] []) := by
  show Go _ _ _ _ _ _ _ T0 (mkF m 0 #[.val (.ref q)] [])
  refine Go.step (fun _ k => XS.aloadN X0.here hx rfl (hb hby d3_0) rfl rfl k) ?_
  show Go _ _ _ _ _ _ _ T0 (mkF m 1 #[.val (.ref q)] [(.ref q)])
  obtain ⟨T1, X1, e1, st1⟩ := initO X0 hx hZ hown (hw _ (List.mem_of_getElem? (i := 15) rfl)) (hw _ (List.mem_of_getElem? (i := 16) rfl)) (hw _ (List.mem_of_getElem? (i := 17) rfl)) e0 (g := (mkF m 1 #[.val (.ref q)] [(.ref q)])) rfl (by rw [hml]; rfl) rfl (hb hby d3_1) (by decide) (W := 0) (by show 2 * 0 + _ ≤ _; exact Nat.le_of_eq rfl) (by decide)
  refine Go.step st1 ?_
  show Go _ _ _ _ _ _ _ T1 (mkF m 4 #[.val (.ref q)] [])
  refine Go.step (fun _ k => XS.aloadN X1.here hx rfl (hb hby d3_4) rfl rfl k) ?_
  show Go _ _ _ _ _ _ _ T1 (mkF m 5 #[.val (.ref q)] [(.ref q)])
  refine Go.step (fun _ k => XS.bipush X1.here hx rfl (hb hby d3_5) k) ?_
  show Go _ _ _ _ _ _ _ T1 (mkF m 7 #[.val (.ref q)] [(.int (64 : Int32)), (.ref q)])
  obtain ⟨T2, h2, k2, X2, e2, E2, A2, st2⟩ := newP X1 hx hZ (hw _ (List.mem_of_getElem? (i := 18) rfl)) e1 (g := (mkF m 7 #[.val (.ref q)] [(.int (64 : Int32)), (.ref q)])) rfl (hb hby d3_7) rfl (by decide) (cap := 64) (by decide) (by decide) (by decide) (by decide)
  obtain ⟨b2, g2⟩ : ∃ z, z = h0.size := ⟨_, rfl⟩
  rw [← g2] at A2 st2
  refine Go.step st2 ?_
  have K2 : Keep h0 h2 [q] := (Keep.refl h0 [q]).ext E2
  have sz_b2 : h0.size ≤ b2 := Nat.le_trans ((Keep.refl h0 [q]) : Keep h0 h0 [q]).1 (Nat.le_of_eq g2.symm)
  have ge_b2 : n0 ≤ b2 := Nat.le_trans Z0 sz_b2
  have ne_q_b2 : q ≠ b2 := Nat.ne_of_lt (Nat.lt_of_lt_of_le E_q.lt (Nat.le_of_eq g2.symm))
  have E_q_2 := E_q.ext E2
  have F_size_q_2 := F_size_q.ext E2
  have F_times_q_2 := F_times_q.ext E2
  have F_lightpaths_q_2 := F_lightpaths_q.ext E2
  have V_b2 : Dv Z h2 b2 (64 : Int32) (fun _ => (0 : UInt64)) := Fv.new A2 (by decide)
  show Go _ _ _ _ _ _ _ T2 (mkF m 9 #[.val (.ref q)] [(.ref b2), (.ref q)])
  obtain ⟨T3, h3, X3, e3, W3, st3⟩ := putF X2 hx hZ hown (host := "") (Or.inl (hw _ (List.mem_of_getElem? (i := 19) rfl))) Via.refl e2 F_times_q_2 E_q_2 (Or.inl (hw _ (List.mem_of_getElem? (i := 20) rfl))) (hw _ (List.mem_of_getElem? (i := 10) rfl)) (ty := (.array .double)) (by decide) rfl rfl (g := (mkF m 9 #[.val (.ref q)] [(.ref b2), (.ref q)])) rfl rfl (hb hby d3_9)
  refine Go.step st3 ?_
  have N3 := Fr.snoc X3 N0 ge_q
  have F_times_q_3 := F_times_q_2.same W3
  have E_q_3 := E_q_2.wr W3
  have F_size_q_3 := F_size_q_2.other W3 (Or.inr (slot_ne (Or.inl (hw _ (List.mem_of_getElem? (i := 29) rfl))) (Or.inl (hw _ (List.mem_of_getElem? (i := 20) rfl))) (by decide) (t := .int) (t' := (.array .double)) (by decide) (by decide)))
  have F_lightpaths_q_3 := F_lightpaths_q_2.other W3 (Or.inr (slot_ne (Or.inl (hw _ (List.mem_of_getElem? (i := 22) rfl))) (Or.inl (hw _ (List.mem_of_getElem? (i := 20) rfl))) (by decide) (t := (.array .int)) (t' := (.array .double)) (by decide) (by decide)))
  have V_b2_3 := V_b2.other W3 (Ne.symm ne_q_b2)
  have K3 : Keep h0 h3 [q] := K2.wr W3 (Or.inl (List.mem_of_getElem? (i := 0) rfl))
  show Go _ _ _ _ _ _ _ T3 (mkF m 12 #[.val (.ref q)] [])
  refine Go.step (fun _ k => XS.aloadN X3.here hx rfl (hb hby d3_12) rfl rfl k) ?_
  show Go _ _ _ _ _ _ _ T3 (mkF m 13 #[.val (.ref q)] [(.ref q)])
  refine Go.step (fun _ k => XS.bipush X3.here hx rfl (hb hby d3_13) k) ?_
  show Go _ _ _ _ _ _ _ T3 (mkF m 15 #[.val (.ref q)] [(.int (64 : Int32)), (.ref q)])
  obtain ⟨T4, h4, k4, X4, e4, E4, A4, st4⟩ := newP X3 hx hZ (hw _ (List.mem_of_getElem? (i := 0) rfl)) e3 (g := (mkF m 15 #[.val (.ref q)] [(.int (64 : Int32)), (.ref q)])) rfl (hb hby d3_15) rfl (by decide) (cap := 64) (by decide) (by decide) (by decide) (by decide)
  obtain ⟨b4, g4⟩ : ∃ z, z = h3.size := ⟨_, rfl⟩
  rw [← g4] at A4 st4
  refine Go.step st4 ?_
  have K4 : Keep h0 h4 [q] := K3.ext E4
  have sz_b4 : h0.size ≤ b4 := Nat.le_trans (K3 : Keep h0 h3 [q]).1 (Nat.le_of_eq g4.symm)
  have ge_b4 : n0 ≤ b4 := Nat.le_trans Z0 sz_b4
  have ne_q_b4 : q ≠ b4 := Nat.ne_of_lt (Nat.lt_of_lt_of_le E_q_3.lt (Nat.le_of_eq g4.symm))
  have ne_b2_b4 : b2 ≠ b4 := Nat.ne_of_lt (Nat.lt_of_lt_of_le V_b2_3.lt (Nat.le_of_eq g4.symm))
  have E_q_4 := E_q_3.ext E4
  have F_size_q_4 := F_size_q_3.ext E4
  have F_times_q_4 := F_times_q_3.ext E4
  have F_lightpaths_q_4 := F_lightpaths_q_3.ext E4
  have V_b2_4 := V_b2_3.ext E4
  have V_b4 : Iv Z h4 b4 (64 : Int32) (fun _ => (0 : Int32)) := Fv.new A4 (by decide)
  show Go _ _ _ _ _ _ _ T4 (mkF m 17 #[.val (.ref q)] [(.ref b4), (.ref q)])
  obtain ⟨T5, h5, X5, e5, W5, st5⟩ := putF X4 hx hZ hown (host := "") (Or.inl (hw _ (List.mem_of_getElem? (i := 21) rfl))) Via.refl e4 F_lightpaths_q_4 E_q_4 (Or.inl (hw _ (List.mem_of_getElem? (i := 22) rfl))) (hw _ (List.mem_of_getElem? (i := 10) rfl)) (ty := (.array .int)) (by decide) rfl rfl (g := (mkF m 17 #[.val (.ref q)] [(.ref b4), (.ref q)])) rfl rfl (hb hby d3_17)
  refine Go.step st5 ?_
  have N5 := Fr.snoc X5 N3 ge_q
  have F_lightpaths_q_5 := F_lightpaths_q_4.same W5
  have E_q_5 := E_q_4.wr W5
  have F_size_q_5 := F_size_q_4.other W5 (Or.inr (slot_ne (Or.inl (hw _ (List.mem_of_getElem? (i := 29) rfl))) (Or.inl (hw _ (List.mem_of_getElem? (i := 22) rfl))) (by decide) (t := .int) (t' := (.array .int)) (by decide) (by decide)))
  have F_times_q_5 := F_times_q_4.other W5 (Or.inr (slot_ne (Or.inl (hw _ (List.mem_of_getElem? (i := 20) rfl))) (Or.inl (hw _ (List.mem_of_getElem? (i := 22) rfl))) (by decide) (t := (.array .double)) (t' := (.array .int)) (by decide) (by decide)))
  have V_b2_5 := V_b2_4.other W5 (Ne.symm ne_q_b2)
  have V_b4_5 := V_b4.other W5 (Ne.symm ne_q_b4)
  have K5 : Keep h0 h5 [q] := K4.wr W5 (Or.inl (List.mem_of_getElem? (i := 0) rfl))
  show Go _ _ _ _ _ _ _ T5 (mkF m 20 #[.val (.ref q)] [])
  refine Go.retV X5 hx hlk hret (hb hby d3_20) (by decide) (by decide) ?_
  try rw [e5]
  exact ⟨rfl, N5, K5, E_q_5, F_size_q_5, b2, b4, F_times_q_5, F_lightpaths_q_5, V_b2_5, V_b4_5, ne_q_b2, ne_q_b4, ne_b2_b4, sz_b2, sz_b4⟩
theorem pn_3 : plainName "com/example/wavegrade/wavegrade/DepartureQueue" = true := by first | (simp [plainName, overriddenIn]; done) | decide +kernel
theorem ef_rm3 (m : MethodId) (q : Addr) : entryFrame m #[(.ref q)] 1 = mkF m 0 #[.val (.ref q)] [] := by first | (simp [entryFrame, mkF, argsToLocals, Value.category]; done) | rfl
theorem rm3 (l : Launch) (Z : State) (a0 : Array Value) (hw : ∀ d ∈ tables_1, d.before a0 Z = true) (q : Addr) (h0 : Heap) (n0 : Nat) (Z0 : n0 ≤ h0.size) (E_q : Exa Z h0 q "com/example/wavegrade/wavegrade/DepartureQueue") (F_size_q : Fld Z h0 q "com/example/wavegrade/wavegrade/DepartureQueue" "size" "I" (.int (0 : Int32))) (F_times_q : Fld Z h0 q "com/example/wavegrade/wavegrade/DepartureQueue" "times" "[D" .null) (F_lightpaths_q : Fld Z h0 q "com/example/wavegrade/wavegrade/DepartureQueue" "lightpaths" "[I" .null) (ge_q : n0 ≤ q) :
    Con l Z (⟨"com/example/wavegrade/wavegrade/DepartureQueue", "<init>", "()V"⟩ : MethodName) prog_1_method_1_code 1 none ({ frames := 1, cells := 2, slots := 128, locals := 12 } : Room) #[(.ref q)] h0 (fun r h L => r = none ∧ Fr n0 L ∧ Keep h0 h [q] ∧ Exa Z h q "com/example/wavegrade/wavegrade/DepartureQueue" ∧ Fld Z h q "com/example/wavegrade/wavegrade/DepartureQueue" "size" "I" (.int (0 : Int32)) ∧ ∃ u v : Addr, Fld Z h q "com/example/wavegrade/wavegrade/DepartureQueue" "times" "[D" (.ref u) ∧ Fld Z h q "com/example/wavegrade/wavegrade/DepartureQueue" "lightpaths" "[I" (.ref v) ∧ Dv Z h u (64 : Int32) (fun _ => 0) ∧ Iv Z h v (64 : Int32) (fun _ => 0) ∧ q ≠ u ∧ q ≠ v ∧ u ≠ v ∧ h0.size ≤ u ∧ h0.size ≤ v) :=
  con_of (plainFor_of_name pn_3) (fun p_ e_ s_ m_ b_ meth_ c_ T_ X_ hx hZ hby hml hown hnm hret hlk e0 => Go.cast (ef_rm3 m_ q) (w3 q X_ hx hZ hw hby hml hown hnm hret hlk e0 Z0 (Fr.nil n0) E_q F_size_q F_times_q F_lightpaths_q ge_q))
theorem d5_0 : decode prog_1_method_2_code 0 = .ok (.aload_n 0, 1) := by decide +kernel
theorem d5_1 : decode prog_1_method_2_code 1 = .ok (.getfield 17, 3) := by decide +kernel
theorem d5_4 : decode prog_1_method_2_code 4 = .ok (.ifCond .ne 7, 3) := by decide +kernel
theorem d5_7 : decode prog_1_method_2_code 7 = .ok (.iconst 1, 1) := by decide +kernel
theorem d5_8 : decode prog_1_method_2_code 8 = .ok (.goto 4, 3) := by decide +kernel
theorem d5_12 : decode prog_1_method_2_code 12 = .ok (.ireturn, 1) := by decide +kernel
set_option maxRecDepth 65536 in
set_option maxHeartbeats 40000000 in
theorem w_empty0 {p : Program} {l : Launch} {e : Env} {s : State} {m : MethodId} {args : Array Value} {below : List Frame} {meth : Method} {c_ : Code} {T0 : State} {locs : List Loc} {Z : State} {a0 : Array Value} {h0 : Heap} {n0 : Nat} (q : Addr)
    (X0 : Stand p l e ({ frames := 0, cells := 0, slots := 0, locals := 0 } : Room) s m args below meth c_ T0 locs 0 0) (hx : p.tables.exec = Jvm.exec) (hZ : Z.Warmed39 s.vm) (hw : ∀ d ∈ tables_1, d.before a0 Z = true) (hby : c_.code = prog_1_method_2_code) (hml : c_.maxLocals = 1) (hown : s.vm.findClass "com/example/wavegrade/wavegrade/DepartureQueue" = some m.cls) (hnm : meth.name = "isEmpty") (hret : meth.sig.returnType = some .boolean) (hlk : meth.locks = false) (e0 : T0.heap = h0) (Z0 : n0 ≤ h0.size) (N0 : Fr n0 locs) (F_size_q : Fld Z h0 q "com/example/wavegrade/wavegrade/DepartureQueue" "size" "I" (.int (0 : Int32))) :
    Go p e below s ({ frames := 0, cells := 0, slots := 0, locals := 0 } : Room).cells ({ frames := 0, cells := 0, slots := 0, locals := 0 } : Room).slots (fun r h L => r = some (.int (1 : Int32)) ∧ Fr n0 L ∧ h = h0) T0 (mkF m 0 #[.val (.ref q)] []) := by
  show Go _ _ _ _ _ _ _ T0 (mkF m 0 #[.val (.ref q)] [])
  refine Go.step (fun _ k => XS.aloadN X0.here hx rfl (hb hby d5_0) rfl rfl k) ?_
  show Go _ _ _ _ _ _ _ T0 (mkF m 1 #[.val (.ref q)] [(.ref q)])
  obtain ⟨T1, X1, e1, st1⟩ := getF X0 hx hZ hown (host := "") (Or.inl (hw _ (List.mem_of_getElem? (i := 28) rfl))) Via.refl e0 F_size_q (g := (mkF m 1 #[.val (.ref q)] [(.ref q)])) rfl rfl (hb hby d5_1)
  refine Go.step st1 ?_
  show Go _ _ _ _ _ _ _ T1 (mkF m 4 #[.val (.ref q)] [(.int (0 : Int32))])
  refine Go.step (fun _ k => XS.ifNo X1.here hx rfl (hb hby d5_4) rfl ((if0 _ _).trans (teq (by decide : (0 : Int32) = (0 : Int32))).2) k) ?_
  show Go _ _ _ _ _ _ _ T1 (mkF m 7 #[.val (.ref q)] [])
  refine Go.step (fun _ k => XS.iconst X1.here hx rfl (hb hby d5_7) k) ?_
  show Go _ _ _ _ _ _ _ T1 (mkF m 8 #[.val (.ref q)] [(.int (1 : Int32))])
  refine Go.step (fun _ k => XS.goto X1.here hx rfl (pc0 := 8) (pc' := 12) rfl (hb hby d5_8) (by decide) (by decide) k) ?_
  show Go _ _ _ _ _ _ _ T1 (mkF m 12 #[.val (.ref q)] [(.int (1 : Int32))])
  refine Go.retZ X1 hx hlk hret (by decide) (hb hby d5_12) (by decide) (by decide) ?_
  try rw [e1]
  exact ⟨rfl, N0, rfl⟩
theorem ef_rm_empty0 (m : MethodId) (q : Addr) : entryFrame m #[(.ref q)] 1 = mkF m 0 #[.val (.ref q)] [] := by first | (simp [entryFrame, mkF, argsToLocals, Value.category]; done) | rfl
theorem rm_empty0 (l : Launch) (Z : State) (a0 : Array Value) (hw : ∀ d ∈ tables_1, d.before a0 Z = true) (q : Addr) (h0 : Heap) (n0 : Nat) (Z0 : n0 ≤ h0.size) (F_size_q : Fld Z h0 q "com/example/wavegrade/wavegrade/DepartureQueue" "size" "I" (.int (0 : Int32))) :
    Con l Z (⟨"com/example/wavegrade/wavegrade/DepartureQueue", "isEmpty", "()Z"⟩ : MethodName) prog_1_method_2_code 1 (some .boolean) ({ frames := 0, cells := 0, slots := 0, locals := 0 } : Room) #[(.ref q)] h0 (fun r h L => r = some (.int (1 : Int32)) ∧ Fr n0 L ∧ h = h0) :=
  con_of (plainFor_of_name pn_3) (fun p_ e_ s_ m_ b_ meth_ c_ T_ X_ hx hZ hby hml hown hnm hret hlk e0 => Go.cast (ef_rm_empty0 m_ q) (w_empty0 q X_ hx hZ hw hby hml hown hnm hret hlk e0 Z0 (Fr.nil n0) F_size_q))
theorem d6_0 : decode prog_1_method_4_code 0 = .ok (.aload_n 0, 1) := by decide +kernel
theorem d6_1 : decode prog_1_method_4_code 1 = .ok (.getfield 17, 3) := by decide +kernel
theorem d6_4 : decode prog_1_method_4_code 4 = .ok (.aload_n 0, 1) := by decide +kernel
theorem d6_5 : decode prog_1_method_4_code 5 = .ok (.getfield 7, 3) := by decide +kernel
theorem d6_8 : decode prog_1_method_4_code 8 = .ok (.arraylength, 1) := by decide +kernel
theorem d6_9 : decode prog_1_method_4_code 9 = .ok (.if_icmp .ne 37, 3) := by decide +kernel
theorem d6_46 : decode prog_1_method_4_code 46 = .ok (.aload_n 0, 1) := by decide +kernel
theorem d6_47 : decode prog_1_method_4_code 47 = .ok (.dup, 1) := by decide +kernel
theorem d6_48 : decode prog_1_method_4_code 48 = .ok (.getfield 17, 3) := by decide +kernel
theorem d6_51 : decode prog_1_method_4_code 51 = .ok (.dup_x1, 1) := by decide +kernel
theorem d6_52 : decode prog_1_method_4_code 52 = .ok (.iconst 1, 1) := by decide +kernel
theorem d6_53 : decode prog_1_method_4_code 53 = .ok (.iadd, 1) := by decide +kernel
theorem d6_54 : decode prog_1_method_4_code 54 = .ok (.putfield 17, 3) := by decide +kernel
theorem d6_57 : decode prog_1_method_4_code 57 = .ok (.istore 4, 2) := by decide +kernel
theorem d6_59 : decode prog_1_method_4_code 59 = .ok (.iload 4, 2) := by decide +kernel
theorem d6_61 : decode prog_1_method_4_code 61 = .ok (.ifCond .le 62, 3) := by decide +kernel
theorem d6_123 : decode prog_1_method_4_code 123 = .ok (.aload_n 0, 1) := by decide +kernel
theorem d6_124 : decode prog_1_method_4_code 124 = .ok (.getfield 7, 3) := by decide +kernel
theorem d6_127 : decode prog_1_method_4_code 127 = .ok (.iload 4, 2) := by decide +kernel
theorem d6_129 : decode prog_1_method_4_code 129 = .ok (.dload_n 1, 1) := by decide +kernel
theorem d6_130 : decode prog_1_method_4_code 130 = .ok (.dastore, 1) := by decide +kernel
theorem d6_131 : decode prog_1_method_4_code 131 = .ok (.aload_n 0, 1) := by decide +kernel
theorem d6_132 : decode prog_1_method_4_code 132 = .ok (.getfield 13, 3) := by decide +kernel
theorem d6_135 : decode prog_1_method_4_code 135 = .ok (.iload 4, 2) := by decide +kernel
theorem d6_137 : decode prog_1_method_4_code 137 = .ok (.iload_n 3, 1) := by decide +kernel
theorem d6_138 : decode prog_1_method_4_code 138 = .ok (.iastore, 1) := by decide +kernel
theorem d6_139 : decode prog_1_method_4_code 139 = .ok (.return_, 1) := by decide +kernel
set_option maxRecDepth 65536 in
set_option maxHeartbeats 40000000 in
theorem w_add0 {p : Program} {l : Launch} {e : Env} {s : State} {m : MethodId} {args : Array Value} {below : List Frame} {meth : Method} {c_ : Code} {T0 : State} {locs : List Loc} {Z : State} {a0 : Array Value} {h0 : Heap} {n0 : Nat} (q u v : Addr) (g : Nat → UInt64) (l' : Nat → Int32) (T : Nat → UInt64) (Lp : Nat → Int32) (K : Nat → Int) (a : Nat → Nat) (lam : Nat)
    (X0 : Stand p l e ({ frames := 0, cells := 0, slots := 0, locals := 0 } : Room) s m args below meth c_ T0 locs 0 0) (hx : p.tables.exec = Jvm.exec) (hZ : Z.Warmed39 s.vm) (hw : ∀ d ∈ tables_1, d.before a0 Z = true) (hby : c_.code = prog_1_method_4_code) (hml : c_.maxLocals = 6) (hown : s.vm.findClass "com/example/wavegrade/wavegrade/DepartureQueue" = some m.cls) (hnm : meth.name = "add") (hret : meth.sig.returnType = none) (hlk : meth.locks = false) (e0 : T0.heap = h0) (Z0 : n0 ≤ h0.size) (N0 : Fr n0 locs) (E_q : Exa Z h0 q "com/example/wavegrade/wavegrade/DepartureQueue") (F_size_q : Fld Z h0 q "com/example/wavegrade/wavegrade/DepartureQueue" "size" "I" (.int (0 : Int32))) (F_times_q : Fld Z h0 q "com/example/wavegrade/wavegrade/DepartureQueue" "times" "[D" (.ref u)) (F_lightpaths_q : Fld Z h0 q "com/example/wavegrade/wavegrade/DepartureQueue" "lightpaths" "[I" (.ref v)) (V_u : Dv Z h0 u (64 : Int32) g) (V_v : Iv Z h0 v (64 : Int32) l') (ne_q_u : q ≠ u) (ne_q_v : q ≠ v) (ne_u_v : u ≠ v) (ge_q : n0 ≤ q) (ge_u : n0 ≤ u) (ge_v : n0 ≤ v) (hT : ∀ x y, FP.dcmp (T x) (T y) = some (compare (K x) (K y))) (hg : ∀ i, i < 0 → g i = T (a i)) (hl : ∀ i, i < 0 → l' i = Lp (a i)) (hi : HI K a 0) :
    Go p e below s ({ frames := 0, cells := 0, slots := 0, locals := 0 } : Room).cells ({ frames := 0, cells := 0, slots := 0, locals := 0 } : Room).slots (fun r h L => r = none ∧ Fr n0 L ∧ Keep h0 h [q, u, v] ∧ Exa Z h q "com/example/wavegrade/wavegrade/DepartureQueue" ∧ Fld Z h q "com/example/wavegrade/wavegrade/DepartureQueue" "size" "I" (.int (1 : Int32)) ∧ Fld Z h q "com/example/wavegrade/wavegrade/DepartureQueue" "times" "[D" (.ref u) ∧ Fld Z h q "com/example/wavegrade/wavegrade/DepartureQueue" "lightpaths" "[I" (.ref v) ∧ ∃ (g2 : Nat → UInt64) (l2 : Nat → Int32) (a2 : Nat → Nat), Dv Z h u (64 : Int32) g2 ∧ Iv Z h v (64 : Int32) l2 ∧ (∀ i, i < 1 → g2 i = T (a2 i)) ∧ (∀ i, i < 1 → l2 i = Lp (a2 i)) ∧ HI K a2 1 ∧ (∀ w : Nat → Int, sumA w a2 1 = sumA w a 0 + w lam) ∧ ∀ P : Nat → Prop, (∀ i, i < 0 → P (a i)) → P lam → ∀ i, i < 1 → P (a2 i)) T0 (mkF m 0 #[.val (.ref q), .val (.double (T lam)), .second, .val (.int (Lp lam)), .unset, .unset] []) := by
  simp only [HI] at hi
  show Go _ _ _ _ _ _ _ T0 (mkF m 0 #[.val (.ref q), .val (.double (T lam)), .second, .val (.int (Lp lam)), .unset, .unset] [])
  refine Go.step (fun _ k => XS.aloadN X0.here hx rfl (hb hby d6_0) rfl rfl k) ?_
  show Go _ _ _ _ _ _ _ T0 (mkF m 1 #[.val (.ref q), .val (.double (T lam)), .second, .val (.int (Lp lam)), .unset, .unset] [(.ref q)])
  obtain ⟨T1, X1, e1, st1⟩ := getF X0 hx hZ hown (host := "") (Or.inl (hw _ (List.mem_of_getElem? (i := 28) rfl))) Via.refl e0 F_size_q (g := (mkF m 1 #[.val (.ref q), .val (.double (T lam)), .second, .val (.int (Lp lam)), .unset, .unset] [(.ref q)])) rfl rfl (hb hby d6_1)
  refine Go.step st1 ?_
  show Go _ _ _ _ _ _ _ T1 (mkF m 4 #[.val (.ref q), .val (.double (T lam)), .second, .val (.int (Lp lam)), .unset, .unset] [(.int (0 : Int32))])
  refine Go.step (fun _ k => XS.aloadN X1.here hx rfl (hb hby d6_4) rfl rfl k) ?_
  show Go _ _ _ _ _ _ _ T1 (mkF m 5 #[.val (.ref q), .val (.double (T lam)), .second, .val (.int (Lp lam)), .unset, .unset] [(.ref q), (.int (0 : Int32))])
  obtain ⟨T2, X2, e2, st2⟩ := getF X1 hx hZ hown (host := "") (Or.inl (hw _ (List.mem_of_getElem? (i := 19) rfl))) Via.refl e1 F_times_q (g := (mkF m 5 #[.val (.ref q), .val (.double (T lam)), .second, .val (.int (Lp lam)), .unset, .unset] [(.ref q), (.int (0 : Int32))])) rfl rfl (hb hby d6_5)
  refine Go.step st2 ?_
  show Go _ _ _ _ _ _ _ T2 (mkF m 8 #[.val (.ref q), .val (.double (T lam)), .second, .val (.int (Lp lam)), .unset, .unset] [(.ref u), (.int (0 : Int32))])
  refine Go.alen X2 hx hZ e2 V_u (hb hby d6_8) ?_
  show Go _ _ _ _ _ _ _ T2 (mkF m 9 #[.val (.ref q), .val (.double (T lam)), .second, .val (.int (Lp lam)), .unset, .unset] [(.int (64 : Int32)), (.int (0 : Int32))])
  refine Go.step (fun _ k => XS.icmpYes X2.here hx rfl (pc0 := 9) (pc' := 46) rfl (hb hby d6_9) rfl (feq (by decide : ¬ ((0 : Int32) = (64 : Int32)))).2 (by decide) (by decide) k) ?_
  show Go _ _ _ _ _ _ _ T2 (mkF m 46 #[.val (.ref q), .val (.double (T lam)), .second, .val (.int (Lp lam)), .unset, .unset] [])
  refine Go.step (fun _ k => XS.aloadN X2.here hx rfl (hb hby d6_46) rfl rfl k) ?_
  show Go _ _ _ _ _ _ _ T2 (mkF m 47 #[.val (.ref q), .val (.double (T lam)), .second, .val (.int (Lp lam)), .unset, .unset] [(.ref q)])
  refine Go.step (fun _ k => XS.dup X2.here hx rfl (hb hby d6_47) rfl rfl k) ?_
  show Go _ _ _ _ _ _ _ T2 (mkF m 48 #[.val (.ref q), .val (.double (T lam)), .second, .val (.int (Lp lam)), .unset, .unset] [(.ref q), (.ref q)])
  obtain ⟨T3, X3, e3, st3⟩ := getF X2 hx hZ hown (host := "") (Or.inl (hw _ (List.mem_of_getElem? (i := 28) rfl))) Via.refl e2 F_size_q (g := (mkF m 48 #[.val (.ref q), .val (.double (T lam)), .second, .val (.int (Lp lam)), .unset, .unset] [(.ref q), (.ref q)])) rfl rfl (hb hby d6_48)
  refine Go.step st3 ?_
  show Go _ _ _ _ _ _ _ T3 (mkF m 51 #[.val (.ref q), .val (.double (T lam)), .second, .val (.int (Lp lam)), .unset, .unset] [(.int (0 : Int32)), (.ref q)])
  refine Go.step (fun _ k => XS.dupX1 X3.here hx rfl (hb hby d6_51) rfl rfl rfl k) ?_
  show Go _ _ _ _ _ _ _ T3 (mkF m 52 #[.val (.ref q), .val (.double (T lam)), .second, .val (.int (Lp lam)), .unset, .unset] [(.int (0 : Int32)), (.ref q), (.int (0 : Int32))])
  refine Go.step (fun _ k => XS.iconst X3.here hx rfl (hb hby d6_52) k) ?_
  show Go _ _ _ _ _ _ _ T3 (mkF m 53 #[.val (.ref q), .val (.double (T lam)), .second, .val (.int (Lp lam)), .unset, .unset] [(.int (1 : Int32)), (.int (0 : Int32)), (.ref q), (.int (0 : Int32))])
  refine Go.step (fun _ k => XS.iadd X3.here hx rfl (hb hby d6_53) rfl k) ?_
  show Go _ _ _ _ _ _ _ T3 (mkF m 54 #[.val (.ref q), .val (.double (T lam)), .second, .val (.int (Lp lam)), .unset, .unset] [(.int (1 : Int32)), (.ref q), (.int (0 : Int32))])
  obtain ⟨T4, h4, X4, e4, W4, st4⟩ := putF X3 hx hZ hown (host := "") (Or.inl (hw _ (List.mem_of_getElem? (i := 28) rfl))) Via.refl e3 F_size_q E_q (Or.inl (hw _ (List.mem_of_getElem? (i := 29) rfl))) (hw _ (List.mem_of_getElem? (i := 10) rfl)) (ty := .int) (by decide) rfl rfl (g := (mkF m 54 #[.val (.ref q), .val (.double (T lam)), .second, .val (.int (Lp lam)), .unset, .unset] [(.int (1 : Int32)), (.ref q), (.int (0 : Int32))])) rfl rfl (hb hby d6_54)
  refine Go.step st4 ?_
  have N4 := Fr.snoc X4 N0 ge_q
  have F_size_q_4 := F_size_q.same W4
  have E_q_4 := E_q.wr W4
  have F_times_q_4 := F_times_q.other W4 (Or.inr (slot_ne (Or.inl (hw _ (List.mem_of_getElem? (i := 20) rfl))) (Or.inl (hw _ (List.mem_of_getElem? (i := 29) rfl))) (by decide) (t := (.array .double)) (t' := .int) (by decide) (by decide)))
  have F_lightpaths_q_4 := F_lightpaths_q.other W4 (Or.inr (slot_ne (Or.inl (hw _ (List.mem_of_getElem? (i := 22) rfl))) (Or.inl (hw _ (List.mem_of_getElem? (i := 29) rfl))) (by decide) (t := (.array .int)) (t' := .int) (by decide) (by decide)))
  have V_u_4 := V_u.other W4 (Ne.symm ne_q_u)
  have V_v_4 := V_v.other W4 (Ne.symm ne_q_v)
  have K4 : Keep h0 h4 [q, u, v] := (Keep.refl h0 [q, u, v]).wr W4 (Or.inl (List.mem_of_getElem? (i := 0) rfl))
  show Go _ _ _ _ _ _ _ T4 (mkF m 57 #[.val (.ref q), .val (.double (T lam)), .second, .val (.int (Lp lam)), .unset, .unset] [(.int (0 : Int32))])
  refine Go.step (fun _ k => XS.istore X4.here hx rfl (hb hby d6_57) rfl (l' := #[.val (.ref q), .val (.double (T lam)), .second, .val (.int (Lp lam)), .val (.int (0 : Int32)), .unset]) rfl k) ?_
  show Go _ _ _ _ _ _ _ T4 (mkF m 59 #[.val (.ref q), .val (.double (T lam)), .second, .val (.int (Lp lam)), .val (.int (0 : Int32)), .unset] [])
  refine Go.step (fun _ k => XS.iload X4.here hx rfl (hb hby d6_59) rfl k) ?_
  show Go _ _ _ _ _ _ _ T4 (mkF m 61 #[.val (.ref q), .val (.double (T lam)), .second, .val (.int (Lp lam)), .val (.int (0 : Int32)), .unset] [(.int (0 : Int32))])
  refine Go.step (fun _ k => XS.ifYes X4.here hx rfl (pc0 := 61) (pc' := 123) rfl (hb hby d6_61) rfl ((if0 _ _).trans (flt (by decide : ¬ ((0 : Int32) < (0 : Int32)))).2.2.2) (by decide) (by decide) k) ?_
  show Go _ _ _ _ _ _ _ T4 (mkF m 123 #[.val (.ref q), .val (.double (T lam)), .second, .val (.int (Lp lam)), .val (.int (0 : Int32)), .unset] [])
  refine Go.step (fun _ k => XS.aloadN X4.here hx rfl (hb hby d6_123) rfl rfl k) ?_
  show Go _ _ _ _ _ _ _ T4 (mkF m 124 #[.val (.ref q), .val (.double (T lam)), .second, .val (.int (Lp lam)), .val (.int (0 : Int32)), .unset] [(.ref q)])
  obtain ⟨T5, X5, e5, st5⟩ := getF X4 hx hZ hown (host := "") (Or.inl (hw _ (List.mem_of_getElem? (i := 19) rfl))) Via.refl e4 F_times_q_4 (g := (mkF m 124 #[.val (.ref q), .val (.double (T lam)), .second, .val (.int (Lp lam)), .val (.int (0 : Int32)), .unset] [(.ref q)])) rfl rfl (hb hby d6_124)
  refine Go.step st5 ?_
  show Go _ _ _ _ _ _ _ T5 (mkF m 127 #[.val (.ref q), .val (.double (T lam)), .second, .val (.int (Lp lam)), .val (.int (0 : Int32)), .unset] [(.ref u)])
  refine Go.step (fun _ k => XS.iload X5.here hx rfl (hb hby d6_127) rfl k) ?_
  show Go _ _ _ _ _ _ _ T5 (mkF m 129 #[.val (.ref q), .val (.double (T lam)), .second, .val (.int (Lp lam)), .val (.int (0 : Int32)), .unset] [(.int (0 : Int32)), (.ref u)])
  refine Go.step (fun _ k => XS.dloadN X5.here hx rfl (hb hby d6_129) rfl k) ?_
  show Go _ _ _ _ _ _ _ T5 (mkF m 130 #[.val (.ref q), .val (.double (T lam)), .second, .val (.int (Lp lam)), .val (.int (0 : Int32)), .unset] [(.double (T lam)), (.int (0 : Int32)), (.ref u)])
  refine Go.dastore X5 hx hZ e5 V_u_4 (j := (0 : Int32)) (x := (T lam)) (by decide) (hb hby d6_130) ?_
  intro T6 h6 X6 e6 W6 Vn6
  have V_u_6 : Dv Z h6 u (64 : Int32) (updN g 0 (T lam)) := Vn6
  have N6 := Fr.snoc X6 N4 ge_u
  have E_q_6 := E_q_4.wr W6
  have F_size_q_6 := F_size_q_4.other W6 (Or.inl ne_q_u)
  have F_times_q_6 := F_times_q_4.other W6 (Or.inl ne_q_u)
  have F_lightpaths_q_6 := F_lightpaths_q_4.other W6 (Or.inl ne_q_u)
  have V_v_6 := V_v_4.other W6 (Ne.symm ne_u_v)
  have K6 : Keep h0 h6 [q, u, v] := K4.wr W6 (Or.inl (List.mem_of_getElem? (i := 1) rfl))
  show Go _ _ _ _ _ _ _ T6 (mkF m 131 #[.val (.ref q), .val (.double (T lam)), .second, .val (.int (Lp lam)), .val (.int (0 : Int32)), .unset] [])
  refine Go.step (fun _ k => XS.aloadN X6.here hx rfl (hb hby d6_131) rfl rfl k) ?_
  show Go _ _ _ _ _ _ _ T6 (mkF m 132 #[.val (.ref q), .val (.double (T lam)), .second, .val (.int (Lp lam)), .val (.int (0 : Int32)), .unset] [(.ref q)])
  obtain ⟨T7, X7, e7, st7⟩ := getF X6 hx hZ hown (host := "") (Or.inl (hw _ (List.mem_of_getElem? (i := 21) rfl))) Via.refl e6 F_lightpaths_q_6 (g := (mkF m 132 #[.val (.ref q), .val (.double (T lam)), .second, .val (.int (Lp lam)), .val (.int (0 : Int32)), .unset] [(.ref q)])) rfl rfl (hb hby d6_132)
  refine Go.step st7 ?_
  show Go _ _ _ _ _ _ _ T7 (mkF m 135 #[.val (.ref q), .val (.double (T lam)), .second, .val (.int (Lp lam)), .val (.int (0 : Int32)), .unset] [(.ref v)])
  refine Go.step (fun _ k => XS.iload X7.here hx rfl (hb hby d6_135) rfl k) ?_
  show Go _ _ _ _ _ _ _ T7 (mkF m 137 #[.val (.ref q), .val (.double (T lam)), .second, .val (.int (Lp lam)), .val (.int (0 : Int32)), .unset] [(.int (0 : Int32)), (.ref v)])
  refine Go.step (fun _ k => XS.iloadN X7.here hx rfl (hb hby d6_137) rfl k) ?_
  show Go _ _ _ _ _ _ _ T7 (mkF m 138 #[.val (.ref q), .val (.double (T lam)), .second, .val (.int (Lp lam)), .val (.int (0 : Int32)), .unset] [(.int (Lp lam)), (.int (0 : Int32)), (.ref v)])
  refine Go.iastore X7 hx hZ e7 V_v_6 (j := (0 : Int32)) (x := (Lp lam)) (by decide) (hb hby d6_138) ?_
  intro T8 h8 X8 e8 W8 Vn8
  have V_v_8 : Iv Z h8 v (64 : Int32) (updN l' 0 (Lp lam)) := Vn8
  have N8 := Fr.snoc X8 N6 ge_v
  have E_q_8 := E_q_6.wr W8
  have F_size_q_8 := F_size_q_6.other W8 (Or.inl ne_q_v)
  have F_times_q_8 := F_times_q_6.other W8 (Or.inl ne_q_v)
  have F_lightpaths_q_8 := F_lightpaths_q_6.other W8 (Or.inl ne_q_v)
  have V_u_8 := V_u_6.other W8 ne_u_v
  have K8 : Keep h0 h8 [q, u, v] := K6.wr W8 (Or.inl (List.mem_of_getElem? (i := 2) rfl))
  show Go _ _ _ _ _ _ _ T8 (mkF m 139 #[.val (.ref q), .val (.double (T lam)), .second, .val (.int (Lp lam)), .val (.int (0 : Int32)), .unset] [])
  refine Go.retV X8 hx hlk hret (hb hby d6_139) (by decide) (by decide) ?_
  try rw [e8]
  refine ⟨rfl, N8, K8, E_q_8, F_size_q_8, F_times_q_8, F_lightpaths_q_8, _, _, (updN a 0 lam), V_u_8, V_v_8, fun i hi' => by rcases (by omega : i = 0) with rfl <;> first | rfl | simp [updN], fun i hi' => by rcases (by omega : i = 0) with rfl <;> first | rfl | simp [updN], ?_, ?_, fun P hP hP' => ?_⟩
  · simp only [HI, updN]; try simp; try omega
  · intro w; simp [sumA, updN]; try omega
  · intro i hi'; rcases (by omega : i = 0) with rfl <;> simp [updN] <;> first | exact hP' | exact hP _ (by decide)
theorem ef_rm_add0 (m : MethodId) (q : Addr) (T : Nat → UInt64) (Lp : Nat → Int32) (lam : Nat) : entryFrame m #[(.ref q), (.double (T lam)), (.int (Lp lam))] 6 = mkF m 0 #[.val (.ref q), .val (.double (T lam)), .second, .val (.int (Lp lam)), .unset, .unset] [] := by first | (simp [entryFrame, mkF, argsToLocals, Value.category]; done) | rfl
theorem rm_add0 (l : Launch) (Z : State) (a0 : Array Value) (hw : ∀ d ∈ tables_1, d.before a0 Z = true) (q u v : Addr) (g : Nat → UInt64) (l' : Nat → Int32) (T : Nat → UInt64) (Lp : Nat → Int32) (K : Nat → Int) (a : Nat → Nat) (lam : Nat) (h0 : Heap) (n0 : Nat) (Z0 : n0 ≤ h0.size) (E_q : Exa Z h0 q "com/example/wavegrade/wavegrade/DepartureQueue") (F_size_q : Fld Z h0 q "com/example/wavegrade/wavegrade/DepartureQueue" "size" "I" (.int (0 : Int32))) (F_times_q : Fld Z h0 q "com/example/wavegrade/wavegrade/DepartureQueue" "times" "[D" (.ref u)) (F_lightpaths_q : Fld Z h0 q "com/example/wavegrade/wavegrade/DepartureQueue" "lightpaths" "[I" (.ref v)) (V_u : Dv Z h0 u (64 : Int32) g) (V_v : Iv Z h0 v (64 : Int32) l') (ne_q_u : q ≠ u) (ne_q_v : q ≠ v) (ne_u_v : u ≠ v) (ge_q : n0 ≤ q) (ge_u : n0 ≤ u) (ge_v : n0 ≤ v) (hT : ∀ x y, FP.dcmp (T x) (T y) = some (compare (K x) (K y))) (hg : ∀ i, i < 0 → g i = T (a i)) (hl : ∀ i, i < 0 → l' i = Lp (a i)) (hi : HI K a 0) :
    Con l Z (⟨"com/example/wavegrade/wavegrade/DepartureQueue", "add", "(DI)V"⟩ : MethodName) prog_1_method_4_code 6 none ({ frames := 0, cells := 0, slots := 0, locals := 0 } : Room) #[(.ref q), (.double (T lam)), (.int (Lp lam))] h0 (fun r h L => r = none ∧ Fr n0 L ∧ Keep h0 h [q, u, v] ∧ Exa Z h q "com/example/wavegrade/wavegrade/DepartureQueue" ∧ Fld Z h q "com/example/wavegrade/wavegrade/DepartureQueue" "size" "I" (.int (1 : Int32)) ∧ Fld Z h q "com/example/wavegrade/wavegrade/DepartureQueue" "times" "[D" (.ref u) ∧ Fld Z h q "com/example/wavegrade/wavegrade/DepartureQueue" "lightpaths" "[I" (.ref v) ∧ ∃ (g2 : Nat → UInt64) (l2 : Nat → Int32) (a2 : Nat → Nat), Dv Z h u (64 : Int32) g2 ∧ Iv Z h v (64 : Int32) l2 ∧ (∀ i, i < 1 → g2 i = T (a2 i)) ∧ (∀ i, i < 1 → l2 i = Lp (a2 i)) ∧ HI K a2 1 ∧ (∀ w : Nat → Int, sumA w a2 1 = sumA w a 0 + w lam) ∧ ∀ P : Nat → Prop, (∀ i, i < 0 → P (a i)) → P lam → ∀ i, i < 1 → P (a2 i)) :=
  con_of (plainFor_of_name pn_3) (fun p_ e_ s_ m_ b_ meth_ c_ T_ X_ hx hZ hby hml hown hnm hret hlk e0 => Go.cast (ef_rm_add0 m_ q T Lp lam) (w_add0 q u v g l' T Lp K a lam X_ hx hZ hw hby hml hown hnm hret hlk e0 Z0 (Fr.nil n0) E_q F_size_q F_times_q F_lightpaths_q V_u V_v ne_q_u ne_q_v ne_u_v ge_q ge_u ge_v hT hg hl hi))
theorem d6_64 : decode prog_1_method_4_code 64 = .ok (.aload_n 0, 1) := by decide +kernel
theorem d6_65 : decode prog_1_method_4_code 65 = .ok (.getfield 7, 3) := by decide +kernel
theorem d6_68 : decode prog_1_method_4_code 68 = .ok (.iload 4, 2) := by decide +kernel
theorem d6_70 : decode prog_1_method_4_code 70 = .ok (.iconst 1, 1) := by decide +kernel
theorem d6_71 : decode prog_1_method_4_code 71 = .ok (.isub, 1) := by decide +kernel
theorem d6_72 : decode prog_1_method_4_code 72 = .ok (.iconst 2, 1) := by decide +kernel
theorem d6_73 : decode prog_1_method_4_code 73 = .ok (.idiv, 1) := by decide +kernel
theorem d6_74 : decode prog_1_method_4_code 74 = .ok (.daload, 1) := by decide +kernel
theorem d6_75 : decode prog_1_method_4_code 75 = .ok (.dload_n 1, 1) := by decide +kernel
theorem d6_76 : decode prog_1_method_4_code 76 = .ok (.dcmp .l, 1) := by decide +kernel
theorem d6_77 : decode prog_1_method_4_code 77 = .ok (.ifCond .le 46, 3) := by decide +kernel
theorem d6_80 : decode prog_1_method_4_code 80 = .ok (.iload 4, 2) := by decide +kernel
theorem d6_82 : decode prog_1_method_4_code 82 = .ok (.iconst 1, 1) := by decide +kernel
theorem d6_83 : decode prog_1_method_4_code 83 = .ok (.isub, 1) := by decide +kernel
theorem d6_84 : decode prog_1_method_4_code 84 = .ok (.iconst 2, 1) := by decide +kernel
theorem d6_85 : decode prog_1_method_4_code 85 = .ok (.idiv, 1) := by decide +kernel
theorem d6_86 : decode prog_1_method_4_code 86 = .ok (.istore 5, 2) := by decide +kernel
theorem d6_88 : decode prog_1_method_4_code 88 = .ok (.aload_n 0, 1) := by decide +kernel
theorem d6_89 : decode prog_1_method_4_code 89 = .ok (.getfield 7, 3) := by decide +kernel
theorem d6_92 : decode prog_1_method_4_code 92 = .ok (.iload 4, 2) := by decide +kernel
theorem d6_94 : decode prog_1_method_4_code 94 = .ok (.aload_n 0, 1) := by decide +kernel
theorem d6_95 : decode prog_1_method_4_code 95 = .ok (.getfield 7, 3) := by decide +kernel
theorem d6_98 : decode prog_1_method_4_code 98 = .ok (.iload 5, 2) := by decide +kernel
theorem d6_100 : decode prog_1_method_4_code 100 = .ok (.daload, 1) := by decide +kernel
theorem d6_101 : decode prog_1_method_4_code 101 = .ok (.dastore, 1) := by decide +kernel
theorem d6_102 : decode prog_1_method_4_code 102 = .ok (.aload_n 0, 1) := by decide +kernel
theorem d6_103 : decode prog_1_method_4_code 103 = .ok (.getfield 13, 3) := by decide +kernel
theorem d6_106 : decode prog_1_method_4_code 106 = .ok (.iload 4, 2) := by decide +kernel
theorem d6_108 : decode prog_1_method_4_code 108 = .ok (.aload_n 0, 1) := by decide +kernel
theorem d6_109 : decode prog_1_method_4_code 109 = .ok (.getfield 13, 3) := by decide +kernel
theorem d6_112 : decode prog_1_method_4_code 112 = .ok (.iload 5, 2) := by decide +kernel
theorem d6_114 : decode prog_1_method_4_code 114 = .ok (.iaload, 1) := by decide +kernel
theorem d6_115 : decode prog_1_method_4_code 115 = .ok (.iastore, 1) := by decide +kernel
theorem d6_116 : decode prog_1_method_4_code 116 = .ok (.iload 5, 2) := by decide +kernel
theorem d6_118 : decode prog_1_method_4_code 118 = .ok (.istore 4, 2) := by decide +kernel
theorem d6_120 : decode prog_1_method_4_code 120 = .ok (.goto (-61), 3) := by decide +kernel
set_option maxRecDepth 65536 in
set_option maxHeartbeats 40000000 in
theorem w_add1 {p : Program} {l : Launch} {e : Env} {s : State} {m : MethodId} {args : Array Value} {below : List Frame} {meth : Method} {c_ : Code} {T0 : State} {locs : List Loc} {Z : State} {a0 : Array Value} {h0 : Heap} {n0 : Nat} (q u v : Addr) (g : Nat → UInt64) (l' : Nat → Int32) (T : Nat → UInt64) (Lp : Nat → Int32) (K : Nat → Int) (a : Nat → Nat) (lam : Nat)
    (X0 : Stand p l e ({ frames := 0, cells := 0, slots := 0, locals := 0 } : Room) s m args below meth c_ T0 locs 0 0) (hx : p.tables.exec = Jvm.exec) (hZ : Z.Warmed39 s.vm) (hw : ∀ d ∈ tables_1, d.before a0 Z = true) (hby : c_.code = prog_1_method_4_code) (hml : c_.maxLocals = 6) (hown : s.vm.findClass "com/example/wavegrade/wavegrade/DepartureQueue" = some m.cls) (hnm : meth.name = "add") (hret : meth.sig.returnType = none) (hlk : meth.locks = false) (e0 : T0.heap = h0) (Z0 : n0 ≤ h0.size) (N0 : Fr n0 locs) (E_q : Exa Z h0 q "com/example/wavegrade/wavegrade/DepartureQueue") (F_size_q : Fld Z h0 q "com/example/wavegrade/wavegrade/DepartureQueue" "size" "I" (.int (1 : Int32))) (F_times_q : Fld Z h0 q "com/example/wavegrade/wavegrade/DepartureQueue" "times" "[D" (.ref u)) (F_lightpaths_q : Fld Z h0 q "com/example/wavegrade/wavegrade/DepartureQueue" "lightpaths" "[I" (.ref v)) (V_u : Dv Z h0 u (64 : Int32) g) (V_v : Iv Z h0 v (64 : Int32) l') (ne_q_u : q ≠ u) (ne_q_v : q ≠ v) (ne_u_v : u ≠ v) (ge_q : n0 ≤ q) (ge_u : n0 ≤ u) (ge_v : n0 ≤ v) (hT : ∀ x y, FP.dcmp (T x) (T y) = some (compare (K x) (K y))) (hg : ∀ i, i < 1 → g i = T (a i)) (hl : ∀ i, i < 1 → l' i = Lp (a i)) (hi : HI K a 1) :
    Go p e below s ({ frames := 0, cells := 0, slots := 0, locals := 0 } : Room).cells ({ frames := 0, cells := 0, slots := 0, locals := 0 } : Room).slots (fun r h L => r = none ∧ Fr n0 L ∧ Keep h0 h [q, u, v] ∧ Exa Z h q "com/example/wavegrade/wavegrade/DepartureQueue" ∧ Fld Z h q "com/example/wavegrade/wavegrade/DepartureQueue" "size" "I" (.int (2 : Int32)) ∧ Fld Z h q "com/example/wavegrade/wavegrade/DepartureQueue" "times" "[D" (.ref u) ∧ Fld Z h q "com/example/wavegrade/wavegrade/DepartureQueue" "lightpaths" "[I" (.ref v) ∧ ∃ (g2 : Nat → UInt64) (l2 : Nat → Int32) (a2 : Nat → Nat), Dv Z h u (64 : Int32) g2 ∧ Iv Z h v (64 : Int32) l2 ∧ (∀ i, i < 2 → g2 i = T (a2 i)) ∧ (∀ i, i < 2 → l2 i = Lp (a2 i)) ∧ HI K a2 2 ∧ (∀ w : Nat → Int, sumA w a2 2 = sumA w a 1 + w lam) ∧ ∀ P : Nat → Prop, (∀ i, i < 1 → P (a i)) → P lam → ∀ i, i < 2 → P (a2 i)) T0 (mkF m 0 #[.val (.ref q), .val (.double (T lam)), .second, .val (.int (Lp lam)), .unset, .unset] []) := by
  have hg0 := hg 0 (by decide)
  have hl0 := hl 0 (by decide)
  simp only [HI] at hi
  show Go _ _ _ _ _ _ _ T0 (mkF m 0 #[.val (.ref q), .val (.double (T lam)), .second, .val (.int (Lp lam)), .unset, .unset] [])
  refine Go.step (fun _ k => XS.aloadN X0.here hx rfl (hb hby d6_0) rfl rfl k) ?_
  show Go _ _ _ _ _ _ _ T0 (mkF m 1 #[.val (.ref q), .val (.double (T lam)), .second, .val (.int (Lp lam)), .unset, .unset] [(.ref q)])
  obtain ⟨T1, X1, e1, st1⟩ := getF X0 hx hZ hown (host := "") (Or.inl (hw _ (List.mem_of_getElem? (i := 28) rfl))) Via.refl e0 F_size_q (g := (mkF m 1 #[.val (.ref q), .val (.double (T lam)), .second, .val (.int (Lp lam)), .unset, .unset] [(.ref q)])) rfl rfl (hb hby d6_1)
  refine Go.step st1 ?_
  show Go _ _ _ _ _ _ _ T1 (mkF m 4 #[.val (.ref q), .val (.double (T lam)), .second, .val (.int (Lp lam)), .unset, .unset] [(.int (1 : Int32))])
  refine Go.step (fun _ k => XS.aloadN X1.here hx rfl (hb hby d6_4) rfl rfl k) ?_
  show Go _ _ _ _ _ _ _ T1 (mkF m 5 #[.val (.ref q), .val (.double (T lam)), .second, .val (.int (Lp lam)), .unset, .unset] [(.ref q), (.int (1 : Int32))])
  obtain ⟨T2, X2, e2, st2⟩ := getF X1 hx hZ hown (host := "") (Or.inl (hw _ (List.mem_of_getElem? (i := 19) rfl))) Via.refl e1 F_times_q (g := (mkF m 5 #[.val (.ref q), .val (.double (T lam)), .second, .val (.int (Lp lam)), .unset, .unset] [(.ref q), (.int (1 : Int32))])) rfl rfl (hb hby d6_5)
  refine Go.step st2 ?_
  show Go _ _ _ _ _ _ _ T2 (mkF m 8 #[.val (.ref q), .val (.double (T lam)), .second, .val (.int (Lp lam)), .unset, .unset] [(.ref u), (.int (1 : Int32))])
  refine Go.alen X2 hx hZ e2 V_u (hb hby d6_8) ?_
  show Go _ _ _ _ _ _ _ T2 (mkF m 9 #[.val (.ref q), .val (.double (T lam)), .second, .val (.int (Lp lam)), .unset, .unset] [(.int (64 : Int32)), (.int (1 : Int32))])
  refine Go.step (fun _ k => XS.icmpYes X2.here hx rfl (pc0 := 9) (pc' := 46) rfl (hb hby d6_9) rfl (feq (by decide : ¬ ((1 : Int32) = (64 : Int32)))).2 (by decide) (by decide) k) ?_
  show Go _ _ _ _ _ _ _ T2 (mkF m 46 #[.val (.ref q), .val (.double (T lam)), .second, .val (.int (Lp lam)), .unset, .unset] [])
  refine Go.step (fun _ k => XS.aloadN X2.here hx rfl (hb hby d6_46) rfl rfl k) ?_
  show Go _ _ _ _ _ _ _ T2 (mkF m 47 #[.val (.ref q), .val (.double (T lam)), .second, .val (.int (Lp lam)), .unset, .unset] [(.ref q)])
  refine Go.step (fun _ k => XS.dup X2.here hx rfl (hb hby d6_47) rfl rfl k) ?_
  show Go _ _ _ _ _ _ _ T2 (mkF m 48 #[.val (.ref q), .val (.double (T lam)), .second, .val (.int (Lp lam)), .unset, .unset] [(.ref q), (.ref q)])
  obtain ⟨T3, X3, e3, st3⟩ := getF X2 hx hZ hown (host := "") (Or.inl (hw _ (List.mem_of_getElem? (i := 28) rfl))) Via.refl e2 F_size_q (g := (mkF m 48 #[.val (.ref q), .val (.double (T lam)), .second, .val (.int (Lp lam)), .unset, .unset] [(.ref q), (.ref q)])) rfl rfl (hb hby d6_48)
  refine Go.step st3 ?_
  show Go _ _ _ _ _ _ _ T3 (mkF m 51 #[.val (.ref q), .val (.double (T lam)), .second, .val (.int (Lp lam)), .unset, .unset] [(.int (1 : Int32)), (.ref q)])
  refine Go.step (fun _ k => XS.dupX1 X3.here hx rfl (hb hby d6_51) rfl rfl rfl k) ?_
  show Go _ _ _ _ _ _ _ T3 (mkF m 52 #[.val (.ref q), .val (.double (T lam)), .second, .val (.int (Lp lam)), .unset, .unset] [(.int (1 : Int32)), (.ref q), (.int (1 : Int32))])
  refine Go.step (fun _ k => XS.iconst X3.here hx rfl (hb hby d6_52) k) ?_
  show Go _ _ _ _ _ _ _ T3 (mkF m 53 #[.val (.ref q), .val (.double (T lam)), .second, .val (.int (Lp lam)), .unset, .unset] [(.int (1 : Int32)), (.int (1 : Int32)), (.ref q), (.int (1 : Int32))])
  refine Go.step (fun _ k => XS.iadd X3.here hx rfl (hb hby d6_53) rfl k) ?_
  show Go _ _ _ _ _ _ _ T3 (mkF m 54 #[.val (.ref q), .val (.double (T lam)), .second, .val (.int (Lp lam)), .unset, .unset] [(.int (2 : Int32)), (.ref q), (.int (1 : Int32))])
  obtain ⟨T4, h4, X4, e4, W4, st4⟩ := putF X3 hx hZ hown (host := "") (Or.inl (hw _ (List.mem_of_getElem? (i := 28) rfl))) Via.refl e3 F_size_q E_q (Or.inl (hw _ (List.mem_of_getElem? (i := 29) rfl))) (hw _ (List.mem_of_getElem? (i := 10) rfl)) (ty := .int) (by decide) rfl rfl (g := (mkF m 54 #[.val (.ref q), .val (.double (T lam)), .second, .val (.int (Lp lam)), .unset, .unset] [(.int (2 : Int32)), (.ref q), (.int (1 : Int32))])) rfl rfl (hb hby d6_54)
  refine Go.step st4 ?_
  have N4 := Fr.snoc X4 N0 ge_q
  have F_size_q_4 := F_size_q.same W4
  have E_q_4 := E_q.wr W4
  have F_times_q_4 := F_times_q.other W4 (Or.inr (slot_ne (Or.inl (hw _ (List.mem_of_getElem? (i := 20) rfl))) (Or.inl (hw _ (List.mem_of_getElem? (i := 29) rfl))) (by decide) (t := (.array .double)) (t' := .int) (by decide) (by decide)))
  have F_lightpaths_q_4 := F_lightpaths_q.other W4 (Or.inr (slot_ne (Or.inl (hw _ (List.mem_of_getElem? (i := 22) rfl))) (Or.inl (hw _ (List.mem_of_getElem? (i := 29) rfl))) (by decide) (t := (.array .int)) (t' := .int) (by decide) (by decide)))
  have V_u_4 := V_u.other W4 (Ne.symm ne_q_u)
  have V_v_4 := V_v.other W4 (Ne.symm ne_q_v)
  have K4 : Keep h0 h4 [q, u, v] := (Keep.refl h0 [q, u, v]).wr W4 (Or.inl (List.mem_of_getElem? (i := 0) rfl))
  show Go _ _ _ _ _ _ _ T4 (mkF m 57 #[.val (.ref q), .val (.double (T lam)), .second, .val (.int (Lp lam)), .unset, .unset] [(.int (1 : Int32))])
  refine Go.step (fun _ k => XS.istore X4.here hx rfl (hb hby d6_57) rfl (l' := #[.val (.ref q), .val (.double (T lam)), .second, .val (.int (Lp lam)), .val (.int (1 : Int32)), .unset]) rfl k) ?_
  show Go _ _ _ _ _ _ _ T4 (mkF m 59 #[.val (.ref q), .val (.double (T lam)), .second, .val (.int (Lp lam)), .val (.int (1 : Int32)), .unset] [])
  refine Go.step (fun _ k => XS.iload X4.here hx rfl (hb hby d6_59) rfl k) ?_
  show Go _ _ _ _ _ _ _ T4 (mkF m 61 #[.val (.ref q), .val (.double (T lam)), .second, .val (.int (Lp lam)), .val (.int (1 : Int32)), .unset] [(.int (1 : Int32))])
  refine Go.step (fun _ k => XS.ifNo X4.here hx rfl (hb hby d6_61) rfl ((if0 _ _).trans (tlt (by decide : (0 : Int32) < (1 : Int32))).2.2.2) k) ?_
  show Go _ _ _ _ _ _ _ T4 (mkF m 64 #[.val (.ref q), .val (.double (T lam)), .second, .val (.int (Lp lam)), .val (.int (1 : Int32)), .unset] [])
  refine Go.step (fun _ k => XS.aloadN X4.here hx rfl (hb hby d6_64) rfl rfl k) ?_
  show Go _ _ _ _ _ _ _ T4 (mkF m 65 #[.val (.ref q), .val (.double (T lam)), .second, .val (.int (Lp lam)), .val (.int (1 : Int32)), .unset] [(.ref q)])
  obtain ⟨T5, X5, e5, st5⟩ := getF X4 hx hZ hown (host := "") (Or.inl (hw _ (List.mem_of_getElem? (i := 19) rfl))) Via.refl e4 F_times_q_4 (g := (mkF m 65 #[.val (.ref q), .val (.double (T lam)), .second, .val (.int (Lp lam)), .val (.int (1 : Int32)), .unset] [(.ref q)])) rfl rfl (hb hby d6_65)
  refine Go.step st5 ?_
  show Go _ _ _ _ _ _ _ T5 (mkF m 68 #[.val (.ref q), .val (.double (T lam)), .second, .val (.int (Lp lam)), .val (.int (1 : Int32)), .unset] [(.ref u)])
  refine Go.step (fun _ k => XS.iload X5.here hx rfl (hb hby d6_68) rfl k) ?_
  show Go _ _ _ _ _ _ _ T5 (mkF m 70 #[.val (.ref q), .val (.double (T lam)), .second, .val (.int (Lp lam)), .val (.int (1 : Int32)), .unset] [(.int (1 : Int32)), (.ref u)])
  refine Go.step (fun _ k => XS.iconst X5.here hx rfl (hb hby d6_70) k) ?_
  show Go _ _ _ _ _ _ _ T5 (mkF m 71 #[.val (.ref q), .val (.double (T lam)), .second, .val (.int (Lp lam)), .val (.int (1 : Int32)), .unset] [(.int (1 : Int32)), (.int (1 : Int32)), (.ref u)])
  refine Go.step (fun _ k => XS.isub X5.here hx rfl (hb hby d6_71) rfl k) ?_
  show Go _ _ _ _ _ _ _ T5 (mkF m 72 #[.val (.ref q), .val (.double (T lam)), .second, .val (.int (Lp lam)), .val (.int (1 : Int32)), .unset] [(.int (0 : Int32)), (.ref u)])
  refine Go.step (fun _ k => XS.iconst X5.here hx rfl (hb hby d6_72) k) ?_
  show Go _ _ _ _ _ _ _ T5 (mkF m 73 #[.val (.ref q), .val (.double (T lam)), .second, .val (.int (Lp lam)), .val (.int (1 : Int32)), .unset] [(.int (2 : Int32)), (.int (0 : Int32)), (.ref u)])
  refine Go.step (fun _ k => XS.idiv X5.here hx rfl (hb hby d6_73) rfl (by decide) k) ?_
  show Go _ _ _ _ _ _ _ T5 (mkF m 74 #[.val (.ref q), .val (.double (T lam)), .second, .val (.int (Lp lam)), .val (.int (1 : Int32)), .unset] [(.int (0 : Int32)), (.ref u)])
  refine Go.daload X5 hx hZ e5 V_u_4 (j := (0 : Int32)) (v := (T (a 0))) (by decide) (by first | rfl | simp [updN, hg0, hl0]) (hb hby d6_74) ?_
  show Go _ _ _ _ _ _ _ T5 (mkF m 75 #[.val (.ref q), .val (.double (T lam)), .second, .val (.int (Lp lam)), .val (.int (1 : Int32)), .unset] [(.double (T (a 0)))])
  refine Go.step (fun _ k => XS.dloadN X5.here hx rfl (hb hby d6_75) rfl k) ?_
  show Go _ _ _ _ _ _ _ T5 (mkF m 76 #[.val (.ref q), .val (.double (T lam)), .second, .val (.int (Lp lam)), .val (.int (1 : Int32)), .unset] [(.double (T lam)), (.double (T (a 0)))])
  refine Go.step (fun _ k => XS.dcmpS X5.here hx rfl (hb hby d6_76) rfl rfl k) ?_
  show Go _ _ _ _ _ _ _ T5 (mkF m 77 #[.val (.ref q), .val (.double (T lam)), .second, .val (.int (Lp lam)), .val (.int (1 : Int32)), .unset] [(.int (cmpValue (FP.dcmp (T (a 0)) (T lam)) .l))])
  by_cases hd77_6 : FP.dcmp (T (a 0)) (T lam) = some .gt
  · refine Go.step (fun _ k => XS.ifNo X5.here hx rfl (hb hby d6_77) rfl (gt_y hd77_6) k) ?_
    show Go _ _ _ _ _ _ _ T5 (mkF m 80 #[.val (.ref q), .val (.double (T lam)), .second, .val (.int (Lp lam)), .val (.int (1 : Int32)), .unset] [])
    refine Go.step (fun _ k => XS.iload X5.here hx rfl (hb hby d6_80) rfl k) ?_
    show Go _ _ _ _ _ _ _ T5 (mkF m 82 #[.val (.ref q), .val (.double (T lam)), .second, .val (.int (Lp lam)), .val (.int (1 : Int32)), .unset] [(.int (1 : Int32))])
    refine Go.step (fun _ k => XS.iconst X5.here hx rfl (hb hby d6_82) k) ?_
    show Go _ _ _ _ _ _ _ T5 (mkF m 83 #[.val (.ref q), .val (.double (T lam)), .second, .val (.int (Lp lam)), .val (.int (1 : Int32)), .unset] [(.int (1 : Int32)), (.int (1 : Int32))])
    refine Go.step (fun _ k => XS.isub X5.here hx rfl (hb hby d6_83) rfl k) ?_
    show Go _ _ _ _ _ _ _ T5 (mkF m 84 #[.val (.ref q), .val (.double (T lam)), .second, .val (.int (Lp lam)), .val (.int (1 : Int32)), .unset] [(.int (0 : Int32))])
    refine Go.step (fun _ k => XS.iconst X5.here hx rfl (hb hby d6_84) k) ?_
    show Go _ _ _ _ _ _ _ T5 (mkF m 85 #[.val (.ref q), .val (.double (T lam)), .second, .val (.int (Lp lam)), .val (.int (1 : Int32)), .unset] [(.int (2 : Int32)), (.int (0 : Int32))])
    refine Go.step (fun _ k => XS.idiv X5.here hx rfl (hb hby d6_85) rfl (by decide) k) ?_
    show Go _ _ _ _ _ _ _ T5 (mkF m 86 #[.val (.ref q), .val (.double (T lam)), .second, .val (.int (Lp lam)), .val (.int (1 : Int32)), .unset] [(.int (0 : Int32))])
    refine Go.step (fun _ k => XS.istore X5.here hx rfl (hb hby d6_86) rfl (l' := #[.val (.ref q), .val (.double (T lam)), .second, .val (.int (Lp lam)), .val (.int (1 : Int32)), .val (.int (0 : Int32))]) rfl k) ?_
    show Go _ _ _ _ _ _ _ T5 (mkF m 88 #[.val (.ref q), .val (.double (T lam)), .second, .val (.int (Lp lam)), .val (.int (1 : Int32)), .val (.int (0 : Int32))] [])
    refine Go.step (fun _ k => XS.aloadN X5.here hx rfl (hb hby d6_88) rfl rfl k) ?_
    show Go _ _ _ _ _ _ _ T5 (mkF m 89 #[.val (.ref q), .val (.double (T lam)), .second, .val (.int (Lp lam)), .val (.int (1 : Int32)), .val (.int (0 : Int32))] [(.ref q)])
    obtain ⟨T7, X7, e7, st7⟩ := getF X5 hx hZ hown (host := "") (Or.inl (hw _ (List.mem_of_getElem? (i := 19) rfl))) Via.refl e5 F_times_q_4 (g := (mkF m 89 #[.val (.ref q), .val (.double (T lam)), .second, .val (.int (Lp lam)), .val (.int (1 : Int32)), .val (.int (0 : Int32))] [(.ref q)])) rfl rfl (hb hby d6_89)
    refine Go.step st7 ?_
    show Go _ _ _ _ _ _ _ T7 (mkF m 92 #[.val (.ref q), .val (.double (T lam)), .second, .val (.int (Lp lam)), .val (.int (1 : Int32)), .val (.int (0 : Int32))] [(.ref u)])
    refine Go.step (fun _ k => XS.iload X7.here hx rfl (hb hby d6_92) rfl k) ?_
    show Go _ _ _ _ _ _ _ T7 (mkF m 94 #[.val (.ref q), .val (.double (T lam)), .second, .val (.int (Lp lam)), .val (.int (1 : Int32)), .val (.int (0 : Int32))] [(.int (1 : Int32)), (.ref u)])
    refine Go.step (fun _ k => XS.aloadN X7.here hx rfl (hb hby d6_94) rfl rfl k) ?_
    show Go _ _ _ _ _ _ _ T7 (mkF m 95 #[.val (.ref q), .val (.double (T lam)), .second, .val (.int (Lp lam)), .val (.int (1 : Int32)), .val (.int (0 : Int32))] [(.ref q), (.int (1 : Int32)), (.ref u)])
    obtain ⟨T8, X8, e8, st8⟩ := getF X7 hx hZ hown (host := "") (Or.inl (hw _ (List.mem_of_getElem? (i := 19) rfl))) Via.refl e7 F_times_q_4 (g := (mkF m 95 #[.val (.ref q), .val (.double (T lam)), .second, .val (.int (Lp lam)), .val (.int (1 : Int32)), .val (.int (0 : Int32))] [(.ref q), (.int (1 : Int32)), (.ref u)])) rfl rfl (hb hby d6_95)
    refine Go.step st8 ?_
    show Go _ _ _ _ _ _ _ T8 (mkF m 98 #[.val (.ref q), .val (.double (T lam)), .second, .val (.int (Lp lam)), .val (.int (1 : Int32)), .val (.int (0 : Int32))] [(.ref u), (.int (1 : Int32)), (.ref u)])
    refine Go.step (fun _ k => XS.iload X8.here hx rfl (hb hby d6_98) rfl k) ?_
    show Go _ _ _ _ _ _ _ T8 (mkF m 100 #[.val (.ref q), .val (.double (T lam)), .second, .val (.int (Lp lam)), .val (.int (1 : Int32)), .val (.int (0 : Int32))] [(.int (0 : Int32)), (.ref u), (.int (1 : Int32)), (.ref u)])
    refine Go.daload X8 hx hZ e8 V_u_4 (j := (0 : Int32)) (v := (T (a 0))) (by decide) (by first | rfl | simp [updN, hg0, hl0]) (hb hby d6_100) ?_
    show Go _ _ _ _ _ _ _ T8 (mkF m 101 #[.val (.ref q), .val (.double (T lam)), .second, .val (.int (Lp lam)), .val (.int (1 : Int32)), .val (.int (0 : Int32))] [(.double (T (a 0))), (.int (1 : Int32)), (.ref u)])
    refine Go.dastore X8 hx hZ e8 V_u_4 (j := (1 : Int32)) (x := (T (a 0))) (by decide) (hb hby d6_101) ?_
    intro T9 h9 X9 e9 W9 Vn9
    have V_u_9 : Dv Z h9 u (64 : Int32) (updN g 1 (T (a 0))) := Vn9
    have N9 := Fr.snoc X9 N4 ge_u
    have E_q_9 := E_q_4.wr W9
    have F_size_q_9 := F_size_q_4.other W9 (Or.inl ne_q_u)
    have F_times_q_9 := F_times_q_4.other W9 (Or.inl ne_q_u)
    have F_lightpaths_q_9 := F_lightpaths_q_4.other W9 (Or.inl ne_q_u)
    have V_v_9 := V_v_4.other W9 (Ne.symm ne_u_v)
    have K9 : Keep h0 h9 [q, u, v] := K4.wr W9 (Or.inl (List.mem_of_getElem? (i := 1) rfl))
    show Go _ _ _ _ _ _ _ T9 (mkF m 102 #[.val (.ref q), .val (.double (T lam)), .second, .val (.int (Lp lam)), .val (.int (1 : Int32)), .val (.int (0 : Int32))] [])
    refine Go.step (fun _ k => XS.aloadN X9.here hx rfl (hb hby d6_102) rfl rfl k) ?_
    show Go _ _ _ _ _ _ _ T9 (mkF m 103 #[.val (.ref q), .val (.double (T lam)), .second, .val (.int (Lp lam)), .val (.int (1 : Int32)), .val (.int (0 : Int32))] [(.ref q)])
    obtain ⟨T10, X10, e10, st10⟩ := getF X9 hx hZ hown (host := "") (Or.inl (hw _ (List.mem_of_getElem? (i := 21) rfl))) Via.refl e9 F_lightpaths_q_9 (g := (mkF m 103 #[.val (.ref q), .val (.double (T lam)), .second, .val (.int (Lp lam)), .val (.int (1 : Int32)), .val (.int (0 : Int32))] [(.ref q)])) rfl rfl (hb hby d6_103)
    refine Go.step st10 ?_
    show Go _ _ _ _ _ _ _ T10 (mkF m 106 #[.val (.ref q), .val (.double (T lam)), .second, .val (.int (Lp lam)), .val (.int (1 : Int32)), .val (.int (0 : Int32))] [(.ref v)])
    refine Go.step (fun _ k => XS.iload X10.here hx rfl (hb hby d6_106) rfl k) ?_
    show Go _ _ _ _ _ _ _ T10 (mkF m 108 #[.val (.ref q), .val (.double (T lam)), .second, .val (.int (Lp lam)), .val (.int (1 : Int32)), .val (.int (0 : Int32))] [(.int (1 : Int32)), (.ref v)])
    refine Go.step (fun _ k => XS.aloadN X10.here hx rfl (hb hby d6_108) rfl rfl k) ?_
    show Go _ _ _ _ _ _ _ T10 (mkF m 109 #[.val (.ref q), .val (.double (T lam)), .second, .val (.int (Lp lam)), .val (.int (1 : Int32)), .val (.int (0 : Int32))] [(.ref q), (.int (1 : Int32)), (.ref v)])
    obtain ⟨T11, X11, e11, st11⟩ := getF X10 hx hZ hown (host := "") (Or.inl (hw _ (List.mem_of_getElem? (i := 21) rfl))) Via.refl e10 F_lightpaths_q_9 (g := (mkF m 109 #[.val (.ref q), .val (.double (T lam)), .second, .val (.int (Lp lam)), .val (.int (1 : Int32)), .val (.int (0 : Int32))] [(.ref q), (.int (1 : Int32)), (.ref v)])) rfl rfl (hb hby d6_109)
    refine Go.step st11 ?_
    show Go _ _ _ _ _ _ _ T11 (mkF m 112 #[.val (.ref q), .val (.double (T lam)), .second, .val (.int (Lp lam)), .val (.int (1 : Int32)), .val (.int (0 : Int32))] [(.ref v), (.int (1 : Int32)), (.ref v)])
    refine Go.step (fun _ k => XS.iload X11.here hx rfl (hb hby d6_112) rfl k) ?_
    show Go _ _ _ _ _ _ _ T11 (mkF m 114 #[.val (.ref q), .val (.double (T lam)), .second, .val (.int (Lp lam)), .val (.int (1 : Int32)), .val (.int (0 : Int32))] [(.int (0 : Int32)), (.ref v), (.int (1 : Int32)), (.ref v)])
    refine Go.iaload X11 hx hZ e11 V_v_9 (j := (0 : Int32)) (v := (Lp (a 0))) (by decide) (by first | rfl | simp [updN, hg0, hl0]) (hb hby d6_114) ?_
    show Go _ _ _ _ _ _ _ T11 (mkF m 115 #[.val (.ref q), .val (.double (T lam)), .second, .val (.int (Lp lam)), .val (.int (1 : Int32)), .val (.int (0 : Int32))] [(.int (Lp (a 0))), (.int (1 : Int32)), (.ref v)])
    refine Go.iastore X11 hx hZ e11 V_v_9 (j := (1 : Int32)) (x := (Lp (a 0))) (by decide) (hb hby d6_115) ?_
    intro T12 h12 X12 e12 W12 Vn12
    have V_v_12 : Iv Z h12 v (64 : Int32) (updN l' 1 (Lp (a 0))) := Vn12
    have N12 := Fr.snoc X12 N9 ge_v
    have E_q_12 := E_q_9.wr W12
    have F_size_q_12 := F_size_q_9.other W12 (Or.inl ne_q_v)
    have F_times_q_12 := F_times_q_9.other W12 (Or.inl ne_q_v)
    have F_lightpaths_q_12 := F_lightpaths_q_9.other W12 (Or.inl ne_q_v)
    have V_u_12 := V_u_9.other W12 ne_u_v
    have K12 : Keep h0 h12 [q, u, v] := K9.wr W12 (Or.inl (List.mem_of_getElem? (i := 2) rfl))
    show Go _ _ _ _ _ _ _ T12 (mkF m 116 #[.val (.ref q), .val (.double (T lam)), .second, .val (.int (Lp lam)), .val (.int (1 : Int32)), .val (.int (0 : Int32))] [])
    refine Go.step (fun _ k => XS.iload X12.here hx rfl (hb hby d6_116) rfl k) ?_
    show Go _ _ _ _ _ _ _ T12 (mkF m 118 #[.val (.ref q), .val (.double (T lam)), .second, .val (.int (Lp lam)), .val (.int (1 : Int32)), .val (.int (0 : Int32))] [(.int (0 : Int32))])
    refine Go.step (fun _ k => XS.istore X12.here hx rfl (hb hby d6_118) rfl (l' := #[.val (.ref q), .val (.double (T lam)), .second, .val (.int (Lp lam)), .val (.int (0 : Int32)), .val (.int (0 : Int32))]) rfl k) ?_
    show Go _ _ _ _ _ _ _ T12 (mkF m 120 #[.val (.ref q), .val (.double (T lam)), .second, .val (.int (Lp lam)), .val (.int (0 : Int32)), .val (.int (0 : Int32))] [])
    refine Go.step (fun _ k => XS.goto X12.here hx rfl (pc0 := 120) (pc' := 59) rfl (hb hby d6_120) (by decide) (by decide) k) ?_
    show Go _ _ _ _ _ _ _ T12 (mkF m 59 #[.val (.ref q), .val (.double (T lam)), .second, .val (.int (Lp lam)), .val (.int (0 : Int32)), .val (.int (0 : Int32))] [])
    refine Go.step (fun _ k => XS.iload X12.here hx rfl (hb hby d6_59) rfl k) ?_
    show Go _ _ _ _ _ _ _ T12 (mkF m 61 #[.val (.ref q), .val (.double (T lam)), .second, .val (.int (Lp lam)), .val (.int (0 : Int32)), .val (.int (0 : Int32))] [(.int (0 : Int32))])
    refine Go.step (fun _ k => XS.ifYes X12.here hx rfl (pc0 := 61) (pc' := 123) rfl (hb hby d6_61) rfl ((if0 _ _).trans (flt (by decide : ¬ ((0 : Int32) < (0 : Int32)))).2.2.2) (by decide) (by decide) k) ?_
    show Go _ _ _ _ _ _ _ T12 (mkF m 123 #[.val (.ref q), .val (.double (T lam)), .second, .val (.int (Lp lam)), .val (.int (0 : Int32)), .val (.int (0 : Int32))] [])
    refine Go.step (fun _ k => XS.aloadN X12.here hx rfl (hb hby d6_123) rfl rfl k) ?_
    show Go _ _ _ _ _ _ _ T12 (mkF m 124 #[.val (.ref q), .val (.double (T lam)), .second, .val (.int (Lp lam)), .val (.int (0 : Int32)), .val (.int (0 : Int32))] [(.ref q)])
    obtain ⟨T13, X13, e13, st13⟩ := getF X12 hx hZ hown (host := "") (Or.inl (hw _ (List.mem_of_getElem? (i := 19) rfl))) Via.refl e12 F_times_q_12 (g := (mkF m 124 #[.val (.ref q), .val (.double (T lam)), .second, .val (.int (Lp lam)), .val (.int (0 : Int32)), .val (.int (0 : Int32))] [(.ref q)])) rfl rfl (hb hby d6_124)
    refine Go.step st13 ?_
    show Go _ _ _ _ _ _ _ T13 (mkF m 127 #[.val (.ref q), .val (.double (T lam)), .second, .val (.int (Lp lam)), .val (.int (0 : Int32)), .val (.int (0 : Int32))] [(.ref u)])
    refine Go.step (fun _ k => XS.iload X13.here hx rfl (hb hby d6_127) rfl k) ?_
    show Go _ _ _ _ _ _ _ T13 (mkF m 129 #[.val (.ref q), .val (.double (T lam)), .second, .val (.int (Lp lam)), .val (.int (0 : Int32)), .val (.int (0 : Int32))] [(.int (0 : Int32)), (.ref u)])
    refine Go.step (fun _ k => XS.dloadN X13.here hx rfl (hb hby d6_129) rfl k) ?_
    show Go _ _ _ _ _ _ _ T13 (mkF m 130 #[.val (.ref q), .val (.double (T lam)), .second, .val (.int (Lp lam)), .val (.int (0 : Int32)), .val (.int (0 : Int32))] [(.double (T lam)), (.int (0 : Int32)), (.ref u)])
    refine Go.dastore X13 hx hZ e13 V_u_12 (j := (0 : Int32)) (x := (T lam)) (by decide) (hb hby d6_130) ?_
    intro T14 h14 X14 e14 W14 Vn14
    have V_u_14 : Dv Z h14 u (64 : Int32) (updN (updN g 1 (T (a 0))) 0 (T lam)) := Vn14
    have N14 := Fr.snoc X14 N12 ge_u
    have E_q_14 := E_q_12.wr W14
    have F_size_q_14 := F_size_q_12.other W14 (Or.inl ne_q_u)
    have F_times_q_14 := F_times_q_12.other W14 (Or.inl ne_q_u)
    have F_lightpaths_q_14 := F_lightpaths_q_12.other W14 (Or.inl ne_q_u)
    have V_v_14 := V_v_12.other W14 (Ne.symm ne_u_v)
    have K14 : Keep h0 h14 [q, u, v] := K12.wr W14 (Or.inl (List.mem_of_getElem? (i := 1) rfl))
    show Go _ _ _ _ _ _ _ T14 (mkF m 131 #[.val (.ref q), .val (.double (T lam)), .second, .val (.int (Lp lam)), .val (.int (0 : Int32)), .val (.int (0 : Int32))] [])
    refine Go.step (fun _ k => XS.aloadN X14.here hx rfl (hb hby d6_131) rfl rfl k) ?_
    show Go _ _ _ _ _ _ _ T14 (mkF m 132 #[.val (.ref q), .val (.double (T lam)), .second, .val (.int (Lp lam)), .val (.int (0 : Int32)), .val (.int (0 : Int32))] [(.ref q)])
    obtain ⟨T15, X15, e15, st15⟩ := getF X14 hx hZ hown (host := "") (Or.inl (hw _ (List.mem_of_getElem? (i := 21) rfl))) Via.refl e14 F_lightpaths_q_14 (g := (mkF m 132 #[.val (.ref q), .val (.double (T lam)), .second, .val (.int (Lp lam)), .val (.int (0 : Int32)), .val (.int (0 : Int32))] [(.ref q)])) rfl rfl (hb hby d6_132)
    refine Go.step st15 ?_
    show Go _ _ _ _ _ _ _ T15 (mkF m 135 #[.val (.ref q), .val (.double (T lam)), .second, .val (.int (Lp lam)), .val (.int (0 : Int32)), .val (.int (0 : Int32))] [(.ref v)])
    refine Go.step (fun _ k => XS.iload X15.here hx rfl (hb hby d6_135) rfl k) ?_
    show Go _ _ _ _ _ _ _ T15 (mkF m 137 #[.val (.ref q), .val (.double (T lam)), .second, .val (.int (Lp lam)), .val (.int (0 : Int32)), .val (.int (0 : Int32))] [(.int (0 : Int32)), (.ref v)])
    refine Go.step (fun _ k => XS.iloadN X15.here hx rfl (hb hby d6_137) rfl k) ?_
    show Go _ _ _ _ _ _ _ T15 (mkF m 138 #[.val (.ref q), .val (.double (T lam)), .second, .val (.int (Lp lam)), .val (.int (0 : Int32)), .val (.int (0 : Int32))] [(.int (Lp lam)), (.int (0 : Int32)), (.ref v)])
    refine Go.iastore X15 hx hZ e15 V_v_14 (j := (0 : Int32)) (x := (Lp lam)) (by decide) (hb hby d6_138) ?_
    intro T16 h16 X16 e16 W16 Vn16
    have V_v_16 : Iv Z h16 v (64 : Int32) (updN (updN l' 1 (Lp (a 0))) 0 (Lp lam)) := Vn16
    have N16 := Fr.snoc X16 N14 ge_v
    have E_q_16 := E_q_14.wr W16
    have F_size_q_16 := F_size_q_14.other W16 (Or.inl ne_q_v)
    have F_times_q_16 := F_times_q_14.other W16 (Or.inl ne_q_v)
    have F_lightpaths_q_16 := F_lightpaths_q_14.other W16 (Or.inl ne_q_v)
    have V_u_16 := V_u_14.other W16 ne_u_v
    have K16 : Keep h0 h16 [q, u, v] := K14.wr W16 (Or.inl (List.mem_of_getElem? (i := 2) rfl))
    show Go _ _ _ _ _ _ _ T16 (mkF m 139 #[.val (.ref q), .val (.double (T lam)), .second, .val (.int (Lp lam)), .val (.int (0 : Int32)), .val (.int (0 : Int32))] [])
    refine Go.retV X16 hx hlk hret (hb hby d6_139) (by decide) (by decide) ?_
    try rw [e16]
    have := own_gtK hT hd77_6
    refine ⟨rfl, N16, K16, E_q_16, F_size_q_16, F_times_q_16, F_lightpaths_q_16, _, _, (updN (updN a 1 (a 0)) 0 lam), V_u_16, V_v_16, fun i hi' => by rcases (by omega : i = 0 ∨ i = 1) with rfl | rfl <;> first | rfl | simp [updN, hg0, hl0], fun i hi' => by rcases (by omega : i = 0 ∨ i = 1) with rfl | rfl <;> first | rfl | simp [updN, hg0, hl0], ?_, ?_, fun P hP hP' => ?_⟩
    · simp only [HI, updN]; try simp; try omega
    · intro w; simp [sumA, updN]; try omega
    · intro i hi'; rcases (by omega : i = 0 ∨ i = 1) with rfl | rfl <;> simp [updN] <;> first | exact hP' | exact hP _ (by decide)
  · refine Go.step (fun _ k => XS.ifYes X5.here hx rfl (pc0 := 77) (pc' := 123) rfl (hb hby d6_77) rfl (gt_n hd77_6) (by decide) (by decide) k) ?_
    show Go _ _ _ _ _ _ _ T5 (mkF m 123 #[.val (.ref q), .val (.double (T lam)), .second, .val (.int (Lp lam)), .val (.int (1 : Int32)), .unset] [])
    refine Go.step (fun _ k => XS.aloadN X5.here hx rfl (hb hby d6_123) rfl rfl k) ?_
    show Go _ _ _ _ _ _ _ T5 (mkF m 124 #[.val (.ref q), .val (.double (T lam)), .second, .val (.int (Lp lam)), .val (.int (1 : Int32)), .unset] [(.ref q)])
    obtain ⟨T17, X17, e17, st17⟩ := getF X5 hx hZ hown (host := "") (Or.inl (hw _ (List.mem_of_getElem? (i := 19) rfl))) Via.refl e5 F_times_q_4 (g := (mkF m 124 #[.val (.ref q), .val (.double (T lam)), .second, .val (.int (Lp lam)), .val (.int (1 : Int32)), .unset] [(.ref q)])) rfl rfl (hb hby d6_124)
    refine Go.step st17 ?_
    show Go _ _ _ _ _ _ _ T17 (mkF m 127 #[.val (.ref q), .val (.double (T lam)), .second, .val (.int (Lp lam)), .val (.int (1 : Int32)), .unset] [(.ref u)])
    refine Go.step (fun _ k => XS.iload X17.here hx rfl (hb hby d6_127) rfl k) ?_
    show Go _ _ _ _ _ _ _ T17 (mkF m 129 #[.val (.ref q), .val (.double (T lam)), .second, .val (.int (Lp lam)), .val (.int (1 : Int32)), .unset] [(.int (1 : Int32)), (.ref u)])
    refine Go.step (fun _ k => XS.dloadN X17.here hx rfl (hb hby d6_129) rfl k) ?_
    show Go _ _ _ _ _ _ _ T17 (mkF m 130 #[.val (.ref q), .val (.double (T lam)), .second, .val (.int (Lp lam)), .val (.int (1 : Int32)), .unset] [(.double (T lam)), (.int (1 : Int32)), (.ref u)])
    refine Go.dastore X17 hx hZ e17 V_u_4 (j := (1 : Int32)) (x := (T lam)) (by decide) (hb hby d6_130) ?_
    intro T18 h18 X18 e18 W18 Vn18
    have V_u_18 : Dv Z h18 u (64 : Int32) (updN g 1 (T lam)) := Vn18
    have N18 := Fr.snoc X18 N4 ge_u
    have E_q_18 := E_q_4.wr W18
    have F_size_q_18 := F_size_q_4.other W18 (Or.inl ne_q_u)
    have F_times_q_18 := F_times_q_4.other W18 (Or.inl ne_q_u)
    have F_lightpaths_q_18 := F_lightpaths_q_4.other W18 (Or.inl ne_q_u)
    have V_v_18 := V_v_4.other W18 (Ne.symm ne_u_v)
    have K18 : Keep h0 h18 [q, u, v] := K4.wr W18 (Or.inl (List.mem_of_getElem? (i := 1) rfl))
    show Go _ _ _ _ _ _ _ T18 (mkF m 131 #[.val (.ref q), .val (.double (T lam)), .second, .val (.int (Lp lam)), .val (.int (1 : Int32)), .unset] [])
    refine Go.step (fun _ k => XS.aloadN X18.here hx rfl (hb hby d6_131) rfl rfl k) ?_
    show Go _ _ _ _ _ _ _ T18 (mkF m 132 #[.val (.ref q), .val (.double (T lam)), .second, .val (.int (Lp lam)), .val (.int (1 : Int32)), .unset] [(.ref q)])
    obtain ⟨T19, X19, e19, st19⟩ := getF X18 hx hZ hown (host := "") (Or.inl (hw _ (List.mem_of_getElem? (i := 21) rfl))) Via.refl e18 F_lightpaths_q_18 (g := (mkF m 132 #[.val (.ref q), .val (.double (T lam)), .second, .val (.int (Lp lam)), .val (.int (1 : Int32)), .unset] [(.ref q)])) rfl rfl (hb hby d6_132)
    refine Go.step st19 ?_
    show Go _ _ _ _ _ _ _ T19 (mkF m 135 #[.val (.ref q), .val (.double (T lam)), .second, .val (.int (Lp lam)), .val (.int (1 : Int32)), .unset] [(.ref v)])
    refine Go.step (fun _ k => XS.iload X19.here hx rfl (hb hby d6_135) rfl k) ?_
    show Go _ _ _ _ _ _ _ T19 (mkF m 137 #[.val (.ref q), .val (.double (T lam)), .second, .val (.int (Lp lam)), .val (.int (1 : Int32)), .unset] [(.int (1 : Int32)), (.ref v)])
    refine Go.step (fun _ k => XS.iloadN X19.here hx rfl (hb hby d6_137) rfl k) ?_
    show Go _ _ _ _ _ _ _ T19 (mkF m 138 #[.val (.ref q), .val (.double (T lam)), .second, .val (.int (Lp lam)), .val (.int (1 : Int32)), .unset] [(.int (Lp lam)), (.int (1 : Int32)), (.ref v)])
    refine Go.iastore X19 hx hZ e19 V_v_18 (j := (1 : Int32)) (x := (Lp lam)) (by decide) (hb hby d6_138) ?_
    intro T20 h20 X20 e20 W20 Vn20
    have V_v_20 : Iv Z h20 v (64 : Int32) (updN l' 1 (Lp lam)) := Vn20
    have N20 := Fr.snoc X20 N18 ge_v
    have E_q_20 := E_q_18.wr W20
    have F_size_q_20 := F_size_q_18.other W20 (Or.inl ne_q_v)
    have F_times_q_20 := F_times_q_18.other W20 (Or.inl ne_q_v)
    have F_lightpaths_q_20 := F_lightpaths_q_18.other W20 (Or.inl ne_q_v)
    have V_u_20 := V_u_18.other W20 ne_u_v
    have K20 : Keep h0 h20 [q, u, v] := K18.wr W20 (Or.inl (List.mem_of_getElem? (i := 2) rfl))
    show Go _ _ _ _ _ _ _ T20 (mkF m 139 #[.val (.ref q), .val (.double (T lam)), .second, .val (.int (Lp lam)), .val (.int (1 : Int32)), .unset] [])
    refine Go.retV X20 hx hlk hret (hb hby d6_139) (by decide) (by decide) ?_
    try rw [e20]
    have := own_ngtK hT hd77_6
    refine ⟨rfl, N20, K20, E_q_20, F_size_q_20, F_times_q_20, F_lightpaths_q_20, _, _, (updN a 1 lam), V_u_20, V_v_20, fun i hi' => by rcases (by omega : i = 0 ∨ i = 1) with rfl | rfl <;> first | rfl | simp [updN, hg0, hl0], fun i hi' => by rcases (by omega : i = 0 ∨ i = 1) with rfl | rfl <;> first | rfl | simp [updN, hg0, hl0], ?_, ?_, fun P hP hP' => ?_⟩
    · simp only [HI, updN]; try simp; try omega
    · intro w; simp [sumA, updN]; try omega
    · intro i hi'; rcases (by omega : i = 0 ∨ i = 1) with rfl | rfl <;> simp [updN] <;> first | exact hP' | exact hP _ (by decide)
theorem ef_rm_add1 (m : MethodId) (q : Addr) (T : Nat → UInt64) (Lp : Nat → Int32) (lam : Nat) : entryFrame m #[(.ref q), (.double (T lam)), (.int (Lp lam))] 6 = mkF m 0 #[.val (.ref q), .val (.double (T lam)), .second, .val (.int (Lp lam)), .unset, .unset] [] := by first | (simp [entryFrame, mkF, argsToLocals, Value.category]; done) | rfl
theorem rm_add1 (l : Launch) (Z : State) (a0 : Array Value) (hw : ∀ d ∈ tables_1, d.before a0 Z = true) (q u v : Addr) (g : Nat → UInt64) (l' : Nat → Int32) (T : Nat → UInt64) (Lp : Nat → Int32) (K : Nat → Int) (a : Nat → Nat) (lam : Nat) (h0 : Heap) (n0 : Nat) (Z0 : n0 ≤ h0.size) (E_q : Exa Z h0 q "com/example/wavegrade/wavegrade/DepartureQueue") (F_size_q : Fld Z h0 q "com/example/wavegrade/wavegrade/DepartureQueue" "size" "I" (.int (1 : Int32))) (F_times_q : Fld Z h0 q "com/example/wavegrade/wavegrade/DepartureQueue" "times" "[D" (.ref u)) (F_lightpaths_q : Fld Z h0 q "com/example/wavegrade/wavegrade/DepartureQueue" "lightpaths" "[I" (.ref v)) (V_u : Dv Z h0 u (64 : Int32) g) (V_v : Iv Z h0 v (64 : Int32) l') (ne_q_u : q ≠ u) (ne_q_v : q ≠ v) (ne_u_v : u ≠ v) (ge_q : n0 ≤ q) (ge_u : n0 ≤ u) (ge_v : n0 ≤ v) (hT : ∀ x y, FP.dcmp (T x) (T y) = some (compare (K x) (K y))) (hg : ∀ i, i < 1 → g i = T (a i)) (hl : ∀ i, i < 1 → l' i = Lp (a i)) (hi : HI K a 1) :
    Con l Z (⟨"com/example/wavegrade/wavegrade/DepartureQueue", "add", "(DI)V"⟩ : MethodName) prog_1_method_4_code 6 none ({ frames := 0, cells := 0, slots := 0, locals := 0 } : Room) #[(.ref q), (.double (T lam)), (.int (Lp lam))] h0 (fun r h L => r = none ∧ Fr n0 L ∧ Keep h0 h [q, u, v] ∧ Exa Z h q "com/example/wavegrade/wavegrade/DepartureQueue" ∧ Fld Z h q "com/example/wavegrade/wavegrade/DepartureQueue" "size" "I" (.int (2 : Int32)) ∧ Fld Z h q "com/example/wavegrade/wavegrade/DepartureQueue" "times" "[D" (.ref u) ∧ Fld Z h q "com/example/wavegrade/wavegrade/DepartureQueue" "lightpaths" "[I" (.ref v) ∧ ∃ (g2 : Nat → UInt64) (l2 : Nat → Int32) (a2 : Nat → Nat), Dv Z h u (64 : Int32) g2 ∧ Iv Z h v (64 : Int32) l2 ∧ (∀ i, i < 2 → g2 i = T (a2 i)) ∧ (∀ i, i < 2 → l2 i = Lp (a2 i)) ∧ HI K a2 2 ∧ (∀ w : Nat → Int, sumA w a2 2 = sumA w a 1 + w lam) ∧ ∀ P : Nat → Prop, (∀ i, i < 1 → P (a i)) → P lam → ∀ i, i < 2 → P (a2 i)) :=
  con_of (plainFor_of_name pn_3) (fun p_ e_ s_ m_ b_ meth_ c_ T_ X_ hx hZ hby hml hown hnm hret hlk e0 => Go.cast (ef_rm_add1 m_ q T Lp lam) (w_add1 q u v g l' T Lp K a lam X_ hx hZ hw hby hml hown hnm hret hlk e0 Z0 (Fr.nil n0) E_q F_size_q F_times_q F_lightpaths_q V_u V_v ne_q_u ne_q_v ne_u_v ge_q ge_u ge_v hT hg hl hi))
set_option maxRecDepth 65536 in
set_option maxHeartbeats 40000000 in
theorem w_add2 {p : Program} {l : Launch} {e : Env} {s : State} {m : MethodId} {args : Array Value} {below : List Frame} {meth : Method} {c_ : Code} {T0 : State} {locs : List Loc} {Z : State} {a0 : Array Value} {h0 : Heap} {n0 : Nat} (q u v : Addr) (g : Nat → UInt64) (l' : Nat → Int32) (T : Nat → UInt64) (Lp : Nat → Int32) (K : Nat → Int) (a : Nat → Nat) (lam : Nat)
    (X0 : Stand p l e ({ frames := 0, cells := 0, slots := 0, locals := 0 } : Room) s m args below meth c_ T0 locs 0 0) (hx : p.tables.exec = Jvm.exec) (hZ : Z.Warmed39 s.vm) (hw : ∀ d ∈ tables_1, d.before a0 Z = true) (hby : c_.code = prog_1_method_4_code) (hml : c_.maxLocals = 6) (hown : s.vm.findClass "com/example/wavegrade/wavegrade/DepartureQueue" = some m.cls) (hnm : meth.name = "add") (hret : meth.sig.returnType = none) (hlk : meth.locks = false) (e0 : T0.heap = h0) (Z0 : n0 ≤ h0.size) (N0 : Fr n0 locs) (E_q : Exa Z h0 q "com/example/wavegrade/wavegrade/DepartureQueue") (F_size_q : Fld Z h0 q "com/example/wavegrade/wavegrade/DepartureQueue" "size" "I" (.int (2 : Int32))) (F_times_q : Fld Z h0 q "com/example/wavegrade/wavegrade/DepartureQueue" "times" "[D" (.ref u)) (F_lightpaths_q : Fld Z h0 q "com/example/wavegrade/wavegrade/DepartureQueue" "lightpaths" "[I" (.ref v)) (V_u : Dv Z h0 u (64 : Int32) g) (V_v : Iv Z h0 v (64 : Int32) l') (ne_q_u : q ≠ u) (ne_q_v : q ≠ v) (ne_u_v : u ≠ v) (ge_q : n0 ≤ q) (ge_u : n0 ≤ u) (ge_v : n0 ≤ v) (hT : ∀ x y, FP.dcmp (T x) (T y) = some (compare (K x) (K y))) (hg : ∀ i, i < 2 → g i = T (a i)) (hl : ∀ i, i < 2 → l' i = Lp (a i)) (hi : HI K a 2) :
    Go p e below s ({ frames := 0, cells := 0, slots := 0, locals := 0 } : Room).cells ({ frames := 0, cells := 0, slots := 0, locals := 0 } : Room).slots (fun r h L => r = none ∧ Fr n0 L ∧ Keep h0 h [q, u, v] ∧ Exa Z h q "com/example/wavegrade/wavegrade/DepartureQueue" ∧ Fld Z h q "com/example/wavegrade/wavegrade/DepartureQueue" "size" "I" (.int (3 : Int32)) ∧ Fld Z h q "com/example/wavegrade/wavegrade/DepartureQueue" "times" "[D" (.ref u) ∧ Fld Z h q "com/example/wavegrade/wavegrade/DepartureQueue" "lightpaths" "[I" (.ref v) ∧ ∃ (g2 : Nat → UInt64) (l2 : Nat → Int32) (a2 : Nat → Nat), Dv Z h u (64 : Int32) g2 ∧ Iv Z h v (64 : Int32) l2 ∧ (∀ i, i < 3 → g2 i = T (a2 i)) ∧ (∀ i, i < 3 → l2 i = Lp (a2 i)) ∧ HI K a2 3 ∧ (∀ w : Nat → Int, sumA w a2 3 = sumA w a 2 + w lam) ∧ ∀ P : Nat → Prop, (∀ i, i < 2 → P (a i)) → P lam → ∀ i, i < 3 → P (a2 i)) T0 (mkF m 0 #[.val (.ref q), .val (.double (T lam)), .second, .val (.int (Lp lam)), .unset, .unset] []) := by
  have hg0 := hg 0 (by decide)
  have hg1 := hg 1 (by decide)
  have hl0 := hl 0 (by decide)
  have hl1 := hl 1 (by decide)
  simp only [HI] at hi
  show Go _ _ _ _ _ _ _ T0 (mkF m 0 #[.val (.ref q), .val (.double (T lam)), .second, .val (.int (Lp lam)), .unset, .unset] [])
  refine Go.step (fun _ k => XS.aloadN X0.here hx rfl (hb hby d6_0) rfl rfl k) ?_
  show Go _ _ _ _ _ _ _ T0 (mkF m 1 #[.val (.ref q), .val (.double (T lam)), .second, .val (.int (Lp lam)), .unset, .unset] [(.ref q)])
  obtain ⟨T1, X1, e1, st1⟩ := getF X0 hx hZ hown (host := "") (Or.inl (hw _ (List.mem_of_getElem? (i := 28) rfl))) Via.refl e0 F_size_q (g := (mkF m 1 #[.val (.ref q), .val (.double (T lam)), .second, .val (.int (Lp lam)), .unset, .unset] [(.ref q)])) rfl rfl (hb hby d6_1)
  refine Go.step st1 ?_
  show Go _ _ _ _ _ _ _ T1 (mkF m 4 #[.val (.ref q), .val (.double (T lam)), .second, .val (.int (Lp lam)), .unset, .unset] [(.int (2 : Int32))])
  refine Go.step (fun _ k => XS.aloadN X1.here hx rfl (hb hby d6_4) rfl rfl k) ?_
  show Go _ _ _ _ _ _ _ T1 (mkF m 5 #[.val (.ref q), .val (.double (T lam)), .second, .val (.int (Lp lam)), .unset, .unset] [(.ref q), (.int (2 : Int32))])
  obtain ⟨T2, X2, e2, st2⟩ := getF X1 hx hZ hown (host := "") (Or.inl (hw _ (List.mem_of_getElem? (i := 19) rfl))) Via.refl e1 F_times_q (g := (mkF m 5 #[.val (.ref q), .val (.double (T lam)), .second, .val (.int (Lp lam)), .unset, .unset] [(.ref q), (.int (2 : Int32))])) rfl rfl (hb hby d6_5)
  refine Go.step st2 ?_
  show Go _ _ _ _ _ _ _ T2 (mkF m 8 #[.val (.ref q), .val (.double (T lam)), .second, .val (.int (Lp lam)), .unset, .unset] [(.ref u), (.int (2 : Int32))])
  refine Go.alen X2 hx hZ e2 V_u (hb hby d6_8) ?_
  show Go _ _ _ _ _ _ _ T2 (mkF m 9 #[.val (.ref q), .val (.double (T lam)), .second, .val (.int (Lp lam)), .unset, .unset] [(.int (64 : Int32)), (.int (2 : Int32))])
  refine Go.step (fun _ k => XS.icmpYes X2.here hx rfl (pc0 := 9) (pc' := 46) rfl (hb hby d6_9) rfl (feq (by decide : ¬ ((2 : Int32) = (64 : Int32)))).2 (by decide) (by decide) k) ?_
  show Go _ _ _ _ _ _ _ T2 (mkF m 46 #[.val (.ref q), .val (.double (T lam)), .second, .val (.int (Lp lam)), .unset, .unset] [])
  refine Go.step (fun _ k => XS.aloadN X2.here hx rfl (hb hby d6_46) rfl rfl k) ?_
  show Go _ _ _ _ _ _ _ T2 (mkF m 47 #[.val (.ref q), .val (.double (T lam)), .second, .val (.int (Lp lam)), .unset, .unset] [(.ref q)])
  refine Go.step (fun _ k => XS.dup X2.here hx rfl (hb hby d6_47) rfl rfl k) ?_
  show Go _ _ _ _ _ _ _ T2 (mkF m 48 #[.val (.ref q), .val (.double (T lam)), .second, .val (.int (Lp lam)), .unset, .unset] [(.ref q), (.ref q)])
  obtain ⟨T3, X3, e3, st3⟩ := getF X2 hx hZ hown (host := "") (Or.inl (hw _ (List.mem_of_getElem? (i := 28) rfl))) Via.refl e2 F_size_q (g := (mkF m 48 #[.val (.ref q), .val (.double (T lam)), .second, .val (.int (Lp lam)), .unset, .unset] [(.ref q), (.ref q)])) rfl rfl (hb hby d6_48)
  refine Go.step st3 ?_
  show Go _ _ _ _ _ _ _ T3 (mkF m 51 #[.val (.ref q), .val (.double (T lam)), .second, .val (.int (Lp lam)), .unset, .unset] [(.int (2 : Int32)), (.ref q)])
  refine Go.step (fun _ k => XS.dupX1 X3.here hx rfl (hb hby d6_51) rfl rfl rfl k) ?_
  show Go _ _ _ _ _ _ _ T3 (mkF m 52 #[.val (.ref q), .val (.double (T lam)), .second, .val (.int (Lp lam)), .unset, .unset] [(.int (2 : Int32)), (.ref q), (.int (2 : Int32))])
  refine Go.step (fun _ k => XS.iconst X3.here hx rfl (hb hby d6_52) k) ?_
  show Go _ _ _ _ _ _ _ T3 (mkF m 53 #[.val (.ref q), .val (.double (T lam)), .second, .val (.int (Lp lam)), .unset, .unset] [(.int (1 : Int32)), (.int (2 : Int32)), (.ref q), (.int (2 : Int32))])
  refine Go.step (fun _ k => XS.iadd X3.here hx rfl (hb hby d6_53) rfl k) ?_
  show Go _ _ _ _ _ _ _ T3 (mkF m 54 #[.val (.ref q), .val (.double (T lam)), .second, .val (.int (Lp lam)), .unset, .unset] [(.int (3 : Int32)), (.ref q), (.int (2 : Int32))])
  obtain ⟨T4, h4, X4, e4, W4, st4⟩ := putF X3 hx hZ hown (host := "") (Or.inl (hw _ (List.mem_of_getElem? (i := 28) rfl))) Via.refl e3 F_size_q E_q (Or.inl (hw _ (List.mem_of_getElem? (i := 29) rfl))) (hw _ (List.mem_of_getElem? (i := 10) rfl)) (ty := .int) (by decide) rfl rfl (g := (mkF m 54 #[.val (.ref q), .val (.double (T lam)), .second, .val (.int (Lp lam)), .unset, .unset] [(.int (3 : Int32)), (.ref q), (.int (2 : Int32))])) rfl rfl (hb hby d6_54)
  refine Go.step st4 ?_
  have N4 := Fr.snoc X4 N0 ge_q
  have F_size_q_4 := F_size_q.same W4
  have E_q_4 := E_q.wr W4
  have F_times_q_4 := F_times_q.other W4 (Or.inr (slot_ne (Or.inl (hw _ (List.mem_of_getElem? (i := 20) rfl))) (Or.inl (hw _ (List.mem_of_getElem? (i := 29) rfl))) (by decide) (t := (.array .double)) (t' := .int) (by decide) (by decide)))
  have F_lightpaths_q_4 := F_lightpaths_q.other W4 (Or.inr (slot_ne (Or.inl (hw _ (List.mem_of_getElem? (i := 22) rfl))) (Or.inl (hw _ (List.mem_of_getElem? (i := 29) rfl))) (by decide) (t := (.array .int)) (t' := .int) (by decide) (by decide)))
  have V_u_4 := V_u.other W4 (Ne.symm ne_q_u)
  have V_v_4 := V_v.other W4 (Ne.symm ne_q_v)
  have K4 : Keep h0 h4 [q, u, v] := (Keep.refl h0 [q, u, v]).wr W4 (Or.inl (List.mem_of_getElem? (i := 0) rfl))
  show Go _ _ _ _ _ _ _ T4 (mkF m 57 #[.val (.ref q), .val (.double (T lam)), .second, .val (.int (Lp lam)), .unset, .unset] [(.int (2 : Int32))])
  refine Go.step (fun _ k => XS.istore X4.here hx rfl (hb hby d6_57) rfl (l' := #[.val (.ref q), .val (.double (T lam)), .second, .val (.int (Lp lam)), .val (.int (2 : Int32)), .unset]) rfl k) ?_
  show Go _ _ _ _ _ _ _ T4 (mkF m 59 #[.val (.ref q), .val (.double (T lam)), .second, .val (.int (Lp lam)), .val (.int (2 : Int32)), .unset] [])
  refine Go.step (fun _ k => XS.iload X4.here hx rfl (hb hby d6_59) rfl k) ?_
  show Go _ _ _ _ _ _ _ T4 (mkF m 61 #[.val (.ref q), .val (.double (T lam)), .second, .val (.int (Lp lam)), .val (.int (2 : Int32)), .unset] [(.int (2 : Int32))])
  refine Go.step (fun _ k => XS.ifNo X4.here hx rfl (hb hby d6_61) rfl ((if0 _ _).trans (tlt (by decide : (0 : Int32) < (2 : Int32))).2.2.2) k) ?_
  show Go _ _ _ _ _ _ _ T4 (mkF m 64 #[.val (.ref q), .val (.double (T lam)), .second, .val (.int (Lp lam)), .val (.int (2 : Int32)), .unset] [])
  refine Go.step (fun _ k => XS.aloadN X4.here hx rfl (hb hby d6_64) rfl rfl k) ?_
  show Go _ _ _ _ _ _ _ T4 (mkF m 65 #[.val (.ref q), .val (.double (T lam)), .second, .val (.int (Lp lam)), .val (.int (2 : Int32)), .unset] [(.ref q)])
  obtain ⟨T5, X5, e5, st5⟩ := getF X4 hx hZ hown (host := "") (Or.inl (hw _ (List.mem_of_getElem? (i := 19) rfl))) Via.refl e4 F_times_q_4 (g := (mkF m 65 #[.val (.ref q), .val (.double (T lam)), .second, .val (.int (Lp lam)), .val (.int (2 : Int32)), .unset] [(.ref q)])) rfl rfl (hb hby d6_65)
  refine Go.step st5 ?_
  show Go _ _ _ _ _ _ _ T5 (mkF m 68 #[.val (.ref q), .val (.double (T lam)), .second, .val (.int (Lp lam)), .val (.int (2 : Int32)), .unset] [(.ref u)])
  refine Go.step (fun _ k => XS.iload X5.here hx rfl (hb hby d6_68) rfl k) ?_
  show Go _ _ _ _ _ _ _ T5 (mkF m 70 #[.val (.ref q), .val (.double (T lam)), .second, .val (.int (Lp lam)), .val (.int (2 : Int32)), .unset] [(.int (2 : Int32)), (.ref u)])
  refine Go.step (fun _ k => XS.iconst X5.here hx rfl (hb hby d6_70) k) ?_
  show Go _ _ _ _ _ _ _ T5 (mkF m 71 #[.val (.ref q), .val (.double (T lam)), .second, .val (.int (Lp lam)), .val (.int (2 : Int32)), .unset] [(.int (1 : Int32)), (.int (2 : Int32)), (.ref u)])
  refine Go.step (fun _ k => XS.isub X5.here hx rfl (hb hby d6_71) rfl k) ?_
  show Go _ _ _ _ _ _ _ T5 (mkF m 72 #[.val (.ref q), .val (.double (T lam)), .second, .val (.int (Lp lam)), .val (.int (2 : Int32)), .unset] [(.int (1 : Int32)), (.ref u)])
  refine Go.step (fun _ k => XS.iconst X5.here hx rfl (hb hby d6_72) k) ?_
  show Go _ _ _ _ _ _ _ T5 (mkF m 73 #[.val (.ref q), .val (.double (T lam)), .second, .val (.int (Lp lam)), .val (.int (2 : Int32)), .unset] [(.int (2 : Int32)), (.int (1 : Int32)), (.ref u)])
  refine Go.step (fun _ k => XS.idiv X5.here hx rfl (hb hby d6_73) rfl (by decide) k) ?_
  show Go _ _ _ _ _ _ _ T5 (mkF m 74 #[.val (.ref q), .val (.double (T lam)), .second, .val (.int (Lp lam)), .val (.int (2 : Int32)), .unset] [(.int (0 : Int32)), (.ref u)])
  refine Go.daload X5 hx hZ e5 V_u_4 (j := (0 : Int32)) (v := (T (a 0))) (by decide) (by first | rfl | simp [updN, hg0, hg1, hl0, hl1]) (hb hby d6_74) ?_
  show Go _ _ _ _ _ _ _ T5 (mkF m 75 #[.val (.ref q), .val (.double (T lam)), .second, .val (.int (Lp lam)), .val (.int (2 : Int32)), .unset] [(.double (T (a 0)))])
  refine Go.step (fun _ k => XS.dloadN X5.here hx rfl (hb hby d6_75) rfl k) ?_
  show Go _ _ _ _ _ _ _ T5 (mkF m 76 #[.val (.ref q), .val (.double (T lam)), .second, .val (.int (Lp lam)), .val (.int (2 : Int32)), .unset] [(.double (T lam)), (.double (T (a 0)))])
  refine Go.step (fun _ k => XS.dcmpS X5.here hx rfl (hb hby d6_76) rfl rfl k) ?_
  show Go _ _ _ _ _ _ _ T5 (mkF m 77 #[.val (.ref q), .val (.double (T lam)), .second, .val (.int (Lp lam)), .val (.int (2 : Int32)), .unset] [(.int (cmpValue (FP.dcmp (T (a 0)) (T lam)) .l))])
  by_cases hd77_6 : FP.dcmp (T (a 0)) (T lam) = some .gt
  · refine Go.step (fun _ k => XS.ifNo X5.here hx rfl (hb hby d6_77) rfl (gt_y hd77_6) k) ?_
    show Go _ _ _ _ _ _ _ T5 (mkF m 80 #[.val (.ref q), .val (.double (T lam)), .second, .val (.int (Lp lam)), .val (.int (2 : Int32)), .unset] [])
    refine Go.step (fun _ k => XS.iload X5.here hx rfl (hb hby d6_80) rfl k) ?_
    show Go _ _ _ _ _ _ _ T5 (mkF m 82 #[.val (.ref q), .val (.double (T lam)), .second, .val (.int (Lp lam)), .val (.int (2 : Int32)), .unset] [(.int (2 : Int32))])
    refine Go.step (fun _ k => XS.iconst X5.here hx rfl (hb hby d6_82) k) ?_
    show Go _ _ _ _ _ _ _ T5 (mkF m 83 #[.val (.ref q), .val (.double (T lam)), .second, .val (.int (Lp lam)), .val (.int (2 : Int32)), .unset] [(.int (1 : Int32)), (.int (2 : Int32))])
    refine Go.step (fun _ k => XS.isub X5.here hx rfl (hb hby d6_83) rfl k) ?_
    show Go _ _ _ _ _ _ _ T5 (mkF m 84 #[.val (.ref q), .val (.double (T lam)), .second, .val (.int (Lp lam)), .val (.int (2 : Int32)), .unset] [(.int (1 : Int32))])
    refine Go.step (fun _ k => XS.iconst X5.here hx rfl (hb hby d6_84) k) ?_
    show Go _ _ _ _ _ _ _ T5 (mkF m 85 #[.val (.ref q), .val (.double (T lam)), .second, .val (.int (Lp lam)), .val (.int (2 : Int32)), .unset] [(.int (2 : Int32)), (.int (1 : Int32))])
    refine Go.step (fun _ k => XS.idiv X5.here hx rfl (hb hby d6_85) rfl (by decide) k) ?_
    show Go _ _ _ _ _ _ _ T5 (mkF m 86 #[.val (.ref q), .val (.double (T lam)), .second, .val (.int (Lp lam)), .val (.int (2 : Int32)), .unset] [(.int (0 : Int32))])
    refine Go.step (fun _ k => XS.istore X5.here hx rfl (hb hby d6_86) rfl (l' := #[.val (.ref q), .val (.double (T lam)), .second, .val (.int (Lp lam)), .val (.int (2 : Int32)), .val (.int (0 : Int32))]) rfl k) ?_
    show Go _ _ _ _ _ _ _ T5 (mkF m 88 #[.val (.ref q), .val (.double (T lam)), .second, .val (.int (Lp lam)), .val (.int (2 : Int32)), .val (.int (0 : Int32))] [])
    refine Go.step (fun _ k => XS.aloadN X5.here hx rfl (hb hby d6_88) rfl rfl k) ?_
    show Go _ _ _ _ _ _ _ T5 (mkF m 89 #[.val (.ref q), .val (.double (T lam)), .second, .val (.int (Lp lam)), .val (.int (2 : Int32)), .val (.int (0 : Int32))] [(.ref q)])
    obtain ⟨T7, X7, e7, st7⟩ := getF X5 hx hZ hown (host := "") (Or.inl (hw _ (List.mem_of_getElem? (i := 19) rfl))) Via.refl e5 F_times_q_4 (g := (mkF m 89 #[.val (.ref q), .val (.double (T lam)), .second, .val (.int (Lp lam)), .val (.int (2 : Int32)), .val (.int (0 : Int32))] [(.ref q)])) rfl rfl (hb hby d6_89)
    refine Go.step st7 ?_
    show Go _ _ _ _ _ _ _ T7 (mkF m 92 #[.val (.ref q), .val (.double (T lam)), .second, .val (.int (Lp lam)), .val (.int (2 : Int32)), .val (.int (0 : Int32))] [(.ref u)])
    refine Go.step (fun _ k => XS.iload X7.here hx rfl (hb hby d6_92) rfl k) ?_
    show Go _ _ _ _ _ _ _ T7 (mkF m 94 #[.val (.ref q), .val (.double (T lam)), .second, .val (.int (Lp lam)), .val (.int (2 : Int32)), .val (.int (0 : Int32))] [(.int (2 : Int32)), (.ref u)])
    refine Go.step (fun _ k => XS.aloadN X7.here hx rfl (hb hby d6_94) rfl rfl k) ?_
    show Go _ _ _ _ _ _ _ T7 (mkF m 95 #[.val (.ref q), .val (.double (T lam)), .second, .val (.int (Lp lam)), .val (.int (2 : Int32)), .val (.int (0 : Int32))] [(.ref q), (.int (2 : Int32)), (.ref u)])
    obtain ⟨T8, X8, e8, st8⟩ := getF X7 hx hZ hown (host := "") (Or.inl (hw _ (List.mem_of_getElem? (i := 19) rfl))) Via.refl e7 F_times_q_4 (g := (mkF m 95 #[.val (.ref q), .val (.double (T lam)), .second, .val (.int (Lp lam)), .val (.int (2 : Int32)), .val (.int (0 : Int32))] [(.ref q), (.int (2 : Int32)), (.ref u)])) rfl rfl (hb hby d6_95)
    refine Go.step st8 ?_
    show Go _ _ _ _ _ _ _ T8 (mkF m 98 #[.val (.ref q), .val (.double (T lam)), .second, .val (.int (Lp lam)), .val (.int (2 : Int32)), .val (.int (0 : Int32))] [(.ref u), (.int (2 : Int32)), (.ref u)])
    refine Go.step (fun _ k => XS.iload X8.here hx rfl (hb hby d6_98) rfl k) ?_
    show Go _ _ _ _ _ _ _ T8 (mkF m 100 #[.val (.ref q), .val (.double (T lam)), .second, .val (.int (Lp lam)), .val (.int (2 : Int32)), .val (.int (0 : Int32))] [(.int (0 : Int32)), (.ref u), (.int (2 : Int32)), (.ref u)])
    refine Go.daload X8 hx hZ e8 V_u_4 (j := (0 : Int32)) (v := (T (a 0))) (by decide) (by first | rfl | simp [updN, hg0, hg1, hl0, hl1]) (hb hby d6_100) ?_
    show Go _ _ _ _ _ _ _ T8 (mkF m 101 #[.val (.ref q), .val (.double (T lam)), .second, .val (.int (Lp lam)), .val (.int (2 : Int32)), .val (.int (0 : Int32))] [(.double (T (a 0))), (.int (2 : Int32)), (.ref u)])
    refine Go.dastore X8 hx hZ e8 V_u_4 (j := (2 : Int32)) (x := (T (a 0))) (by decide) (hb hby d6_101) ?_
    intro T9 h9 X9 e9 W9 Vn9
    have V_u_9 : Dv Z h9 u (64 : Int32) (updN g 2 (T (a 0))) := Vn9
    have N9 := Fr.snoc X9 N4 ge_u
    have E_q_9 := E_q_4.wr W9
    have F_size_q_9 := F_size_q_4.other W9 (Or.inl ne_q_u)
    have F_times_q_9 := F_times_q_4.other W9 (Or.inl ne_q_u)
    have F_lightpaths_q_9 := F_lightpaths_q_4.other W9 (Or.inl ne_q_u)
    have V_v_9 := V_v_4.other W9 (Ne.symm ne_u_v)
    have K9 : Keep h0 h9 [q, u, v] := K4.wr W9 (Or.inl (List.mem_of_getElem? (i := 1) rfl))
    show Go _ _ _ _ _ _ _ T9 (mkF m 102 #[.val (.ref q), .val (.double (T lam)), .second, .val (.int (Lp lam)), .val (.int (2 : Int32)), .val (.int (0 : Int32))] [])
    refine Go.step (fun _ k => XS.aloadN X9.here hx rfl (hb hby d6_102) rfl rfl k) ?_
    show Go _ _ _ _ _ _ _ T9 (mkF m 103 #[.val (.ref q), .val (.double (T lam)), .second, .val (.int (Lp lam)), .val (.int (2 : Int32)), .val (.int (0 : Int32))] [(.ref q)])
    obtain ⟨T10, X10, e10, st10⟩ := getF X9 hx hZ hown (host := "") (Or.inl (hw _ (List.mem_of_getElem? (i := 21) rfl))) Via.refl e9 F_lightpaths_q_9 (g := (mkF m 103 #[.val (.ref q), .val (.double (T lam)), .second, .val (.int (Lp lam)), .val (.int (2 : Int32)), .val (.int (0 : Int32))] [(.ref q)])) rfl rfl (hb hby d6_103)
    refine Go.step st10 ?_
    show Go _ _ _ _ _ _ _ T10 (mkF m 106 #[.val (.ref q), .val (.double (T lam)), .second, .val (.int (Lp lam)), .val (.int (2 : Int32)), .val (.int (0 : Int32))] [(.ref v)])
    refine Go.step (fun _ k => XS.iload X10.here hx rfl (hb hby d6_106) rfl k) ?_
    show Go _ _ _ _ _ _ _ T10 (mkF m 108 #[.val (.ref q), .val (.double (T lam)), .second, .val (.int (Lp lam)), .val (.int (2 : Int32)), .val (.int (0 : Int32))] [(.int (2 : Int32)), (.ref v)])
    refine Go.step (fun _ k => XS.aloadN X10.here hx rfl (hb hby d6_108) rfl rfl k) ?_
    show Go _ _ _ _ _ _ _ T10 (mkF m 109 #[.val (.ref q), .val (.double (T lam)), .second, .val (.int (Lp lam)), .val (.int (2 : Int32)), .val (.int (0 : Int32))] [(.ref q), (.int (2 : Int32)), (.ref v)])
    obtain ⟨T11, X11, e11, st11⟩ := getF X10 hx hZ hown (host := "") (Or.inl (hw _ (List.mem_of_getElem? (i := 21) rfl))) Via.refl e10 F_lightpaths_q_9 (g := (mkF m 109 #[.val (.ref q), .val (.double (T lam)), .second, .val (.int (Lp lam)), .val (.int (2 : Int32)), .val (.int (0 : Int32))] [(.ref q), (.int (2 : Int32)), (.ref v)])) rfl rfl (hb hby d6_109)
    refine Go.step st11 ?_
    show Go _ _ _ _ _ _ _ T11 (mkF m 112 #[.val (.ref q), .val (.double (T lam)), .second, .val (.int (Lp lam)), .val (.int (2 : Int32)), .val (.int (0 : Int32))] [(.ref v), (.int (2 : Int32)), (.ref v)])
    refine Go.step (fun _ k => XS.iload X11.here hx rfl (hb hby d6_112) rfl k) ?_
    show Go _ _ _ _ _ _ _ T11 (mkF m 114 #[.val (.ref q), .val (.double (T lam)), .second, .val (.int (Lp lam)), .val (.int (2 : Int32)), .val (.int (0 : Int32))] [(.int (0 : Int32)), (.ref v), (.int (2 : Int32)), (.ref v)])
    refine Go.iaload X11 hx hZ e11 V_v_9 (j := (0 : Int32)) (v := (Lp (a 0))) (by decide) (by first | rfl | simp [updN, hg0, hg1, hl0, hl1]) (hb hby d6_114) ?_
    show Go _ _ _ _ _ _ _ T11 (mkF m 115 #[.val (.ref q), .val (.double (T lam)), .second, .val (.int (Lp lam)), .val (.int (2 : Int32)), .val (.int (0 : Int32))] [(.int (Lp (a 0))), (.int (2 : Int32)), (.ref v)])
    refine Go.iastore X11 hx hZ e11 V_v_9 (j := (2 : Int32)) (x := (Lp (a 0))) (by decide) (hb hby d6_115) ?_
    intro T12 h12 X12 e12 W12 Vn12
    have V_v_12 : Iv Z h12 v (64 : Int32) (updN l' 2 (Lp (a 0))) := Vn12
    have N12 := Fr.snoc X12 N9 ge_v
    have E_q_12 := E_q_9.wr W12
    have F_size_q_12 := F_size_q_9.other W12 (Or.inl ne_q_v)
    have F_times_q_12 := F_times_q_9.other W12 (Or.inl ne_q_v)
    have F_lightpaths_q_12 := F_lightpaths_q_9.other W12 (Or.inl ne_q_v)
    have V_u_12 := V_u_9.other W12 ne_u_v
    have K12 : Keep h0 h12 [q, u, v] := K9.wr W12 (Or.inl (List.mem_of_getElem? (i := 2) rfl))
    show Go _ _ _ _ _ _ _ T12 (mkF m 116 #[.val (.ref q), .val (.double (T lam)), .second, .val (.int (Lp lam)), .val (.int (2 : Int32)), .val (.int (0 : Int32))] [])
    refine Go.step (fun _ k => XS.iload X12.here hx rfl (hb hby d6_116) rfl k) ?_
    show Go _ _ _ _ _ _ _ T12 (mkF m 118 #[.val (.ref q), .val (.double (T lam)), .second, .val (.int (Lp lam)), .val (.int (2 : Int32)), .val (.int (0 : Int32))] [(.int (0 : Int32))])
    refine Go.step (fun _ k => XS.istore X12.here hx rfl (hb hby d6_118) rfl (l' := #[.val (.ref q), .val (.double (T lam)), .second, .val (.int (Lp lam)), .val (.int (0 : Int32)), .val (.int (0 : Int32))]) rfl k) ?_
    show Go _ _ _ _ _ _ _ T12 (mkF m 120 #[.val (.ref q), .val (.double (T lam)), .second, .val (.int (Lp lam)), .val (.int (0 : Int32)), .val (.int (0 : Int32))] [])
    refine Go.step (fun _ k => XS.goto X12.here hx rfl (pc0 := 120) (pc' := 59) rfl (hb hby d6_120) (by decide) (by decide) k) ?_
    show Go _ _ _ _ _ _ _ T12 (mkF m 59 #[.val (.ref q), .val (.double (T lam)), .second, .val (.int (Lp lam)), .val (.int (0 : Int32)), .val (.int (0 : Int32))] [])
    refine Go.step (fun _ k => XS.iload X12.here hx rfl (hb hby d6_59) rfl k) ?_
    show Go _ _ _ _ _ _ _ T12 (mkF m 61 #[.val (.ref q), .val (.double (T lam)), .second, .val (.int (Lp lam)), .val (.int (0 : Int32)), .val (.int (0 : Int32))] [(.int (0 : Int32))])
    refine Go.step (fun _ k => XS.ifYes X12.here hx rfl (pc0 := 61) (pc' := 123) rfl (hb hby d6_61) rfl ((if0 _ _).trans (flt (by decide : ¬ ((0 : Int32) < (0 : Int32)))).2.2.2) (by decide) (by decide) k) ?_
    show Go _ _ _ _ _ _ _ T12 (mkF m 123 #[.val (.ref q), .val (.double (T lam)), .second, .val (.int (Lp lam)), .val (.int (0 : Int32)), .val (.int (0 : Int32))] [])
    refine Go.step (fun _ k => XS.aloadN X12.here hx rfl (hb hby d6_123) rfl rfl k) ?_
    show Go _ _ _ _ _ _ _ T12 (mkF m 124 #[.val (.ref q), .val (.double (T lam)), .second, .val (.int (Lp lam)), .val (.int (0 : Int32)), .val (.int (0 : Int32))] [(.ref q)])
    obtain ⟨T13, X13, e13, st13⟩ := getF X12 hx hZ hown (host := "") (Or.inl (hw _ (List.mem_of_getElem? (i := 19) rfl))) Via.refl e12 F_times_q_12 (g := (mkF m 124 #[.val (.ref q), .val (.double (T lam)), .second, .val (.int (Lp lam)), .val (.int (0 : Int32)), .val (.int (0 : Int32))] [(.ref q)])) rfl rfl (hb hby d6_124)
    refine Go.step st13 ?_
    show Go _ _ _ _ _ _ _ T13 (mkF m 127 #[.val (.ref q), .val (.double (T lam)), .second, .val (.int (Lp lam)), .val (.int (0 : Int32)), .val (.int (0 : Int32))] [(.ref u)])
    refine Go.step (fun _ k => XS.iload X13.here hx rfl (hb hby d6_127) rfl k) ?_
    show Go _ _ _ _ _ _ _ T13 (mkF m 129 #[.val (.ref q), .val (.double (T lam)), .second, .val (.int (Lp lam)), .val (.int (0 : Int32)), .val (.int (0 : Int32))] [(.int (0 : Int32)), (.ref u)])
    refine Go.step (fun _ k => XS.dloadN X13.here hx rfl (hb hby d6_129) rfl k) ?_
    show Go _ _ _ _ _ _ _ T13 (mkF m 130 #[.val (.ref q), .val (.double (T lam)), .second, .val (.int (Lp lam)), .val (.int (0 : Int32)), .val (.int (0 : Int32))] [(.double (T lam)), (.int (0 : Int32)), (.ref u)])
    refine Go.dastore X13 hx hZ e13 V_u_12 (j := (0 : Int32)) (x := (T lam)) (by decide) (hb hby d6_130) ?_
    intro T14 h14 X14 e14 W14 Vn14
    have V_u_14 : Dv Z h14 u (64 : Int32) (updN (updN g 2 (T (a 0))) 0 (T lam)) := Vn14
    have N14 := Fr.snoc X14 N12 ge_u
    have E_q_14 := E_q_12.wr W14
    have F_size_q_14 := F_size_q_12.other W14 (Or.inl ne_q_u)
    have F_times_q_14 := F_times_q_12.other W14 (Or.inl ne_q_u)
    have F_lightpaths_q_14 := F_lightpaths_q_12.other W14 (Or.inl ne_q_u)
    have V_v_14 := V_v_12.other W14 (Ne.symm ne_u_v)
    have K14 : Keep h0 h14 [q, u, v] := K12.wr W14 (Or.inl (List.mem_of_getElem? (i := 1) rfl))
    show Go _ _ _ _ _ _ _ T14 (mkF m 131 #[.val (.ref q), .val (.double (T lam)), .second, .val (.int (Lp lam)), .val (.int (0 : Int32)), .val (.int (0 : Int32))] [])
    refine Go.step (fun _ k => XS.aloadN X14.here hx rfl (hb hby d6_131) rfl rfl k) ?_
    show Go _ _ _ _ _ _ _ T14 (mkF m 132 #[.val (.ref q), .val (.double (T lam)), .second, .val (.int (Lp lam)), .val (.int (0 : Int32)), .val (.int (0 : Int32))] [(.ref q)])
    obtain ⟨T15, X15, e15, st15⟩ := getF X14 hx hZ hown (host := "") (Or.inl (hw _ (List.mem_of_getElem? (i := 21) rfl))) Via.refl e14 F_lightpaths_q_14 (g := (mkF m 132 #[.val (.ref q), .val (.double (T lam)), .second, .val (.int (Lp lam)), .val (.int (0 : Int32)), .val (.int (0 : Int32))] [(.ref q)])) rfl rfl (hb hby d6_132)
    refine Go.step st15 ?_
    show Go _ _ _ _ _ _ _ T15 (mkF m 135 #[.val (.ref q), .val (.double (T lam)), .second, .val (.int (Lp lam)), .val (.int (0 : Int32)), .val (.int (0 : Int32))] [(.ref v)])
    refine Go.step (fun _ k => XS.iload X15.here hx rfl (hb hby d6_135) rfl k) ?_
    show Go _ _ _ _ _ _ _ T15 (mkF m 137 #[.val (.ref q), .val (.double (T lam)), .second, .val (.int (Lp lam)), .val (.int (0 : Int32)), .val (.int (0 : Int32))] [(.int (0 : Int32)), (.ref v)])
    refine Go.step (fun _ k => XS.iloadN X15.here hx rfl (hb hby d6_137) rfl k) ?_
    show Go _ _ _ _ _ _ _ T15 (mkF m 138 #[.val (.ref q), .val (.double (T lam)), .second, .val (.int (Lp lam)), .val (.int (0 : Int32)), .val (.int (0 : Int32))] [(.int (Lp lam)), (.int (0 : Int32)), (.ref v)])
    refine Go.iastore X15 hx hZ e15 V_v_14 (j := (0 : Int32)) (x := (Lp lam)) (by decide) (hb hby d6_138) ?_
    intro T16 h16 X16 e16 W16 Vn16
    have V_v_16 : Iv Z h16 v (64 : Int32) (updN (updN l' 2 (Lp (a 0))) 0 (Lp lam)) := Vn16
    have N16 := Fr.snoc X16 N14 ge_v
    have E_q_16 := E_q_14.wr W16
    have F_size_q_16 := F_size_q_14.other W16 (Or.inl ne_q_v)
    have F_times_q_16 := F_times_q_14.other W16 (Or.inl ne_q_v)
    have F_lightpaths_q_16 := F_lightpaths_q_14.other W16 (Or.inl ne_q_v)
    have V_u_16 := V_u_14.other W16 ne_u_v
    have K16 : Keep h0 h16 [q, u, v] := K14.wr W16 (Or.inl (List.mem_of_getElem? (i := 2) rfl))
    show Go _ _ _ _ _ _ _ T16 (mkF m 139 #[.val (.ref q), .val (.double (T lam)), .second, .val (.int (Lp lam)), .val (.int (0 : Int32)), .val (.int (0 : Int32))] [])
    refine Go.retV X16 hx hlk hret (hb hby d6_139) (by decide) (by decide) ?_
    try rw [e16]
    have := own_gtK hT hd77_6
    refine ⟨rfl, N16, K16, E_q_16, F_size_q_16, F_times_q_16, F_lightpaths_q_16, _, _, (updN (updN a 2 (a 0)) 0 lam), V_u_16, V_v_16, fun i hi' => by rcases (by omega : i = 0 ∨ i = 1 ∨ i = 2) with rfl | rfl | rfl <;> first | rfl | simp [updN, hg0, hg1, hl0, hl1], fun i hi' => by rcases (by omega : i = 0 ∨ i = 1 ∨ i = 2) with rfl | rfl | rfl <;> first | rfl | simp [updN, hg0, hg1, hl0, hl1], ?_, ?_, fun P hP hP' => ?_⟩
    · simp only [HI, updN]; try simp; try omega
    · intro w; simp [sumA, updN]; try omega
    · intro i hi'; rcases (by omega : i = 0 ∨ i = 1 ∨ i = 2) with rfl | rfl | rfl <;> simp [updN] <;> first | exact hP' | exact hP _ (by decide)
  · refine Go.step (fun _ k => XS.ifYes X5.here hx rfl (pc0 := 77) (pc' := 123) rfl (hb hby d6_77) rfl (gt_n hd77_6) (by decide) (by decide) k) ?_
    show Go _ _ _ _ _ _ _ T5 (mkF m 123 #[.val (.ref q), .val (.double (T lam)), .second, .val (.int (Lp lam)), .val (.int (2 : Int32)), .unset] [])
    refine Go.step (fun _ k => XS.aloadN X5.here hx rfl (hb hby d6_123) rfl rfl k) ?_
    show Go _ _ _ _ _ _ _ T5 (mkF m 124 #[.val (.ref q), .val (.double (T lam)), .second, .val (.int (Lp lam)), .val (.int (2 : Int32)), .unset] [(.ref q)])
    obtain ⟨T17, X17, e17, st17⟩ := getF X5 hx hZ hown (host := "") (Or.inl (hw _ (List.mem_of_getElem? (i := 19) rfl))) Via.refl e5 F_times_q_4 (g := (mkF m 124 #[.val (.ref q), .val (.double (T lam)), .second, .val (.int (Lp lam)), .val (.int (2 : Int32)), .unset] [(.ref q)])) rfl rfl (hb hby d6_124)
    refine Go.step st17 ?_
    show Go _ _ _ _ _ _ _ T17 (mkF m 127 #[.val (.ref q), .val (.double (T lam)), .second, .val (.int (Lp lam)), .val (.int (2 : Int32)), .unset] [(.ref u)])
    refine Go.step (fun _ k => XS.iload X17.here hx rfl (hb hby d6_127) rfl k) ?_
    show Go _ _ _ _ _ _ _ T17 (mkF m 129 #[.val (.ref q), .val (.double (T lam)), .second, .val (.int (Lp lam)), .val (.int (2 : Int32)), .unset] [(.int (2 : Int32)), (.ref u)])
    refine Go.step (fun _ k => XS.dloadN X17.here hx rfl (hb hby d6_129) rfl k) ?_
    show Go _ _ _ _ _ _ _ T17 (mkF m 130 #[.val (.ref q), .val (.double (T lam)), .second, .val (.int (Lp lam)), .val (.int (2 : Int32)), .unset] [(.double (T lam)), (.int (2 : Int32)), (.ref u)])
    refine Go.dastore X17 hx hZ e17 V_u_4 (j := (2 : Int32)) (x := (T lam)) (by decide) (hb hby d6_130) ?_
    intro T18 h18 X18 e18 W18 Vn18
    have V_u_18 : Dv Z h18 u (64 : Int32) (updN g 2 (T lam)) := Vn18
    have N18 := Fr.snoc X18 N4 ge_u
    have E_q_18 := E_q_4.wr W18
    have F_size_q_18 := F_size_q_4.other W18 (Or.inl ne_q_u)
    have F_times_q_18 := F_times_q_4.other W18 (Or.inl ne_q_u)
    have F_lightpaths_q_18 := F_lightpaths_q_4.other W18 (Or.inl ne_q_u)
    have V_v_18 := V_v_4.other W18 (Ne.symm ne_u_v)
    have K18 : Keep h0 h18 [q, u, v] := K4.wr W18 (Or.inl (List.mem_of_getElem? (i := 1) rfl))
    show Go _ _ _ _ _ _ _ T18 (mkF m 131 #[.val (.ref q), .val (.double (T lam)), .second, .val (.int (Lp lam)), .val (.int (2 : Int32)), .unset] [])
    refine Go.step (fun _ k => XS.aloadN X18.here hx rfl (hb hby d6_131) rfl rfl k) ?_
    show Go _ _ _ _ _ _ _ T18 (mkF m 132 #[.val (.ref q), .val (.double (T lam)), .second, .val (.int (Lp lam)), .val (.int (2 : Int32)), .unset] [(.ref q)])
    obtain ⟨T19, X19, e19, st19⟩ := getF X18 hx hZ hown (host := "") (Or.inl (hw _ (List.mem_of_getElem? (i := 21) rfl))) Via.refl e18 F_lightpaths_q_18 (g := (mkF m 132 #[.val (.ref q), .val (.double (T lam)), .second, .val (.int (Lp lam)), .val (.int (2 : Int32)), .unset] [(.ref q)])) rfl rfl (hb hby d6_132)
    refine Go.step st19 ?_
    show Go _ _ _ _ _ _ _ T19 (mkF m 135 #[.val (.ref q), .val (.double (T lam)), .second, .val (.int (Lp lam)), .val (.int (2 : Int32)), .unset] [(.ref v)])
    refine Go.step (fun _ k => XS.iload X19.here hx rfl (hb hby d6_135) rfl k) ?_
    show Go _ _ _ _ _ _ _ T19 (mkF m 137 #[.val (.ref q), .val (.double (T lam)), .second, .val (.int (Lp lam)), .val (.int (2 : Int32)), .unset] [(.int (2 : Int32)), (.ref v)])
    refine Go.step (fun _ k => XS.iloadN X19.here hx rfl (hb hby d6_137) rfl k) ?_
    show Go _ _ _ _ _ _ _ T19 (mkF m 138 #[.val (.ref q), .val (.double (T lam)), .second, .val (.int (Lp lam)), .val (.int (2 : Int32)), .unset] [(.int (Lp lam)), (.int (2 : Int32)), (.ref v)])
    refine Go.iastore X19 hx hZ e19 V_v_18 (j := (2 : Int32)) (x := (Lp lam)) (by decide) (hb hby d6_138) ?_
    intro T20 h20 X20 e20 W20 Vn20
    have V_v_20 : Iv Z h20 v (64 : Int32) (updN l' 2 (Lp lam)) := Vn20
    have N20 := Fr.snoc X20 N18 ge_v
    have E_q_20 := E_q_18.wr W20
    have F_size_q_20 := F_size_q_18.other W20 (Or.inl ne_q_v)
    have F_times_q_20 := F_times_q_18.other W20 (Or.inl ne_q_v)
    have F_lightpaths_q_20 := F_lightpaths_q_18.other W20 (Or.inl ne_q_v)
    have V_u_20 := V_u_18.other W20 ne_u_v
    have K20 : Keep h0 h20 [q, u, v] := K18.wr W20 (Or.inl (List.mem_of_getElem? (i := 2) rfl))
    show Go _ _ _ _ _ _ _ T20 (mkF m 139 #[.val (.ref q), .val (.double (T lam)), .second, .val (.int (Lp lam)), .val (.int (2 : Int32)), .unset] [])
    refine Go.retV X20 hx hlk hret (hb hby d6_139) (by decide) (by decide) ?_
    try rw [e20]
    have := own_ngtK hT hd77_6
    refine ⟨rfl, N20, K20, E_q_20, F_size_q_20, F_times_q_20, F_lightpaths_q_20, _, _, (updN a 2 lam), V_u_20, V_v_20, fun i hi' => by rcases (by omega : i = 0 ∨ i = 1 ∨ i = 2) with rfl | rfl | rfl <;> first | rfl | simp [updN, hg0, hg1, hl0, hl1], fun i hi' => by rcases (by omega : i = 0 ∨ i = 1 ∨ i = 2) with rfl | rfl | rfl <;> first | rfl | simp [updN, hg0, hg1, hl0, hl1], ?_, ?_, fun P hP hP' => ?_⟩
    · simp only [HI, updN]; try simp; try omega
    · intro w; simp [sumA, updN]; try omega
    · intro i hi'; rcases (by omega : i = 0 ∨ i = 1 ∨ i = 2) with rfl | rfl | rfl <;> simp [updN] <;> first | exact hP' | exact hP _ (by decide)
theorem ef_rm_add2 (m : MethodId) (q : Addr) (T : Nat → UInt64) (Lp : Nat → Int32) (lam : Nat) : entryFrame m #[(.ref q), (.double (T lam)), (.int (Lp lam))] 6 = mkF m 0 #[.val (.ref q), .val (.double (T lam)), .second, .val (.int (Lp lam)), .unset, .unset] [] := by first | (simp [entryFrame, mkF, argsToLocals, Value.category]; done) | rfl
theorem rm_add2 (l : Launch) (Z : State) (a0 : Array Value) (hw : ∀ d ∈ tables_1, d.before a0 Z = true) (q u v : Addr) (g : Nat → UInt64) (l' : Nat → Int32) (T : Nat → UInt64) (Lp : Nat → Int32) (K : Nat → Int) (a : Nat → Nat) (lam : Nat) (h0 : Heap) (n0 : Nat) (Z0 : n0 ≤ h0.size) (E_q : Exa Z h0 q "com/example/wavegrade/wavegrade/DepartureQueue") (F_size_q : Fld Z h0 q "com/example/wavegrade/wavegrade/DepartureQueue" "size" "I" (.int (2 : Int32))) (F_times_q : Fld Z h0 q "com/example/wavegrade/wavegrade/DepartureQueue" "times" "[D" (.ref u)) (F_lightpaths_q : Fld Z h0 q "com/example/wavegrade/wavegrade/DepartureQueue" "lightpaths" "[I" (.ref v)) (V_u : Dv Z h0 u (64 : Int32) g) (V_v : Iv Z h0 v (64 : Int32) l') (ne_q_u : q ≠ u) (ne_q_v : q ≠ v) (ne_u_v : u ≠ v) (ge_q : n0 ≤ q) (ge_u : n0 ≤ u) (ge_v : n0 ≤ v) (hT : ∀ x y, FP.dcmp (T x) (T y) = some (compare (K x) (K y))) (hg : ∀ i, i < 2 → g i = T (a i)) (hl : ∀ i, i < 2 → l' i = Lp (a i)) (hi : HI K a 2) :
    Con l Z (⟨"com/example/wavegrade/wavegrade/DepartureQueue", "add", "(DI)V"⟩ : MethodName) prog_1_method_4_code 6 none ({ frames := 0, cells := 0, slots := 0, locals := 0 } : Room) #[(.ref q), (.double (T lam)), (.int (Lp lam))] h0 (fun r h L => r = none ∧ Fr n0 L ∧ Keep h0 h [q, u, v] ∧ Exa Z h q "com/example/wavegrade/wavegrade/DepartureQueue" ∧ Fld Z h q "com/example/wavegrade/wavegrade/DepartureQueue" "size" "I" (.int (3 : Int32)) ∧ Fld Z h q "com/example/wavegrade/wavegrade/DepartureQueue" "times" "[D" (.ref u) ∧ Fld Z h q "com/example/wavegrade/wavegrade/DepartureQueue" "lightpaths" "[I" (.ref v) ∧ ∃ (g2 : Nat → UInt64) (l2 : Nat → Int32) (a2 : Nat → Nat), Dv Z h u (64 : Int32) g2 ∧ Iv Z h v (64 : Int32) l2 ∧ (∀ i, i < 3 → g2 i = T (a2 i)) ∧ (∀ i, i < 3 → l2 i = Lp (a2 i)) ∧ HI K a2 3 ∧ (∀ w : Nat → Int, sumA w a2 3 = sumA w a 2 + w lam) ∧ ∀ P : Nat → Prop, (∀ i, i < 2 → P (a i)) → P lam → ∀ i, i < 3 → P (a2 i)) :=
  con_of (plainFor_of_name pn_3) (fun p_ e_ s_ m_ b_ meth_ c_ T_ X_ hx hZ hby hml hown hnm hret hlk e0 => Go.cast (ef_rm_add2 m_ q T Lp lam) (w_add2 q u v g l' T Lp K a lam X_ hx hZ hw hby hml hown hnm hret hlk e0 Z0 (Fr.nil n0) E_q F_size_q F_times_q F_lightpaths_q V_u V_v ne_q_u ne_q_v ne_u_v ge_q ge_u ge_v hT hg hl hi))
set_option maxRecDepth 65536 in
set_option maxHeartbeats 40000000 in
theorem w_add3 {p : Program} {l : Launch} {e : Env} {s : State} {m : MethodId} {args : Array Value} {below : List Frame} {meth : Method} {c_ : Code} {T0 : State} {locs : List Loc} {Z : State} {a0 : Array Value} {h0 : Heap} {n0 : Nat} (q u v : Addr) (g : Nat → UInt64) (l' : Nat → Int32) (T : Nat → UInt64) (Lp : Nat → Int32) (K : Nat → Int) (a : Nat → Nat) (lam : Nat)
    (X0 : Stand p l e ({ frames := 0, cells := 0, slots := 0, locals := 0 } : Room) s m args below meth c_ T0 locs 0 0) (hx : p.tables.exec = Jvm.exec) (hZ : Z.Warmed39 s.vm) (hw : ∀ d ∈ tables_1, d.before a0 Z = true) (hby : c_.code = prog_1_method_4_code) (hml : c_.maxLocals = 6) (hown : s.vm.findClass "com/example/wavegrade/wavegrade/DepartureQueue" = some m.cls) (hnm : meth.name = "add") (hret : meth.sig.returnType = none) (hlk : meth.locks = false) (e0 : T0.heap = h0) (Z0 : n0 ≤ h0.size) (N0 : Fr n0 locs) (E_q : Exa Z h0 q "com/example/wavegrade/wavegrade/DepartureQueue") (F_size_q : Fld Z h0 q "com/example/wavegrade/wavegrade/DepartureQueue" "size" "I" (.int (3 : Int32))) (F_times_q : Fld Z h0 q "com/example/wavegrade/wavegrade/DepartureQueue" "times" "[D" (.ref u)) (F_lightpaths_q : Fld Z h0 q "com/example/wavegrade/wavegrade/DepartureQueue" "lightpaths" "[I" (.ref v)) (V_u : Dv Z h0 u (64 : Int32) g) (V_v : Iv Z h0 v (64 : Int32) l') (ne_q_u : q ≠ u) (ne_q_v : q ≠ v) (ne_u_v : u ≠ v) (ge_q : n0 ≤ q) (ge_u : n0 ≤ u) (ge_v : n0 ≤ v) (hT : ∀ x y, FP.dcmp (T x) (T y) = some (compare (K x) (K y))) (hg : ∀ i, i < 3 → g i = T (a i)) (hl : ∀ i, i < 3 → l' i = Lp (a i)) (hi : HI K a 3) :
    Go p e below s ({ frames := 0, cells := 0, slots := 0, locals := 0 } : Room).cells ({ frames := 0, cells := 0, slots := 0, locals := 0 } : Room).slots (fun r h L => r = none ∧ Fr n0 L ∧ Keep h0 h [q, u, v] ∧ Exa Z h q "com/example/wavegrade/wavegrade/DepartureQueue" ∧ Fld Z h q "com/example/wavegrade/wavegrade/DepartureQueue" "size" "I" (.int (4 : Int32)) ∧ Fld Z h q "com/example/wavegrade/wavegrade/DepartureQueue" "times" "[D" (.ref u) ∧ Fld Z h q "com/example/wavegrade/wavegrade/DepartureQueue" "lightpaths" "[I" (.ref v) ∧ ∃ (g2 : Nat → UInt64) (l2 : Nat → Int32) (a2 : Nat → Nat), Dv Z h u (64 : Int32) g2 ∧ Iv Z h v (64 : Int32) l2 ∧ (∀ i, i < 4 → g2 i = T (a2 i)) ∧ (∀ i, i < 4 → l2 i = Lp (a2 i)) ∧ HI K a2 4 ∧ (∀ w : Nat → Int, sumA w a2 4 = sumA w a 3 + w lam) ∧ ∀ P : Nat → Prop, (∀ i, i < 3 → P (a i)) → P lam → ∀ i, i < 4 → P (a2 i)) T0 (mkF m 0 #[.val (.ref q), .val (.double (T lam)), .second, .val (.int (Lp lam)), .unset, .unset] []) := by
  have hg0 := hg 0 (by decide)
  have hg1 := hg 1 (by decide)
  have hg2 := hg 2 (by decide)
  have hl0 := hl 0 (by decide)
  have hl1 := hl 1 (by decide)
  have hl2 := hl 2 (by decide)
  simp only [HI] at hi
  show Go _ _ _ _ _ _ _ T0 (mkF m 0 #[.val (.ref q), .val (.double (T lam)), .second, .val (.int (Lp lam)), .unset, .unset] [])
  refine Go.step (fun _ k => XS.aloadN X0.here hx rfl (hb hby d6_0) rfl rfl k) ?_
  show Go _ _ _ _ _ _ _ T0 (mkF m 1 #[.val (.ref q), .val (.double (T lam)), .second, .val (.int (Lp lam)), .unset, .unset] [(.ref q)])
  obtain ⟨T1, X1, e1, st1⟩ := getF X0 hx hZ hown (host := "") (Or.inl (hw _ (List.mem_of_getElem? (i := 28) rfl))) Via.refl e0 F_size_q (g := (mkF m 1 #[.val (.ref q), .val (.double (T lam)), .second, .val (.int (Lp lam)), .unset, .unset] [(.ref q)])) rfl rfl (hb hby d6_1)
  refine Go.step st1 ?_
  show Go _ _ _ _ _ _ _ T1 (mkF m 4 #[.val (.ref q), .val (.double (T lam)), .second, .val (.int (Lp lam)), .unset, .unset] [(.int (3 : Int32))])
  refine Go.step (fun _ k => XS.aloadN X1.here hx rfl (hb hby d6_4) rfl rfl k) ?_
  show Go _ _ _ _ _ _ _ T1 (mkF m 5 #[.val (.ref q), .val (.double (T lam)), .second, .val (.int (Lp lam)), .unset, .unset] [(.ref q), (.int (3 : Int32))])
  obtain ⟨T2, X2, e2, st2⟩ := getF X1 hx hZ hown (host := "") (Or.inl (hw _ (List.mem_of_getElem? (i := 19) rfl))) Via.refl e1 F_times_q (g := (mkF m 5 #[.val (.ref q), .val (.double (T lam)), .second, .val (.int (Lp lam)), .unset, .unset] [(.ref q), (.int (3 : Int32))])) rfl rfl (hb hby d6_5)
  refine Go.step st2 ?_
  show Go _ _ _ _ _ _ _ T2 (mkF m 8 #[.val (.ref q), .val (.double (T lam)), .second, .val (.int (Lp lam)), .unset, .unset] [(.ref u), (.int (3 : Int32))])
  refine Go.alen X2 hx hZ e2 V_u (hb hby d6_8) ?_
  show Go _ _ _ _ _ _ _ T2 (mkF m 9 #[.val (.ref q), .val (.double (T lam)), .second, .val (.int (Lp lam)), .unset, .unset] [(.int (64 : Int32)), (.int (3 : Int32))])
  refine Go.step (fun _ k => XS.icmpYes X2.here hx rfl (pc0 := 9) (pc' := 46) rfl (hb hby d6_9) rfl (feq (by decide : ¬ ((3 : Int32) = (64 : Int32)))).2 (by decide) (by decide) k) ?_
  show Go _ _ _ _ _ _ _ T2 (mkF m 46 #[.val (.ref q), .val (.double (T lam)), .second, .val (.int (Lp lam)), .unset, .unset] [])
  refine Go.step (fun _ k => XS.aloadN X2.here hx rfl (hb hby d6_46) rfl rfl k) ?_
  show Go _ _ _ _ _ _ _ T2 (mkF m 47 #[.val (.ref q), .val (.double (T lam)), .second, .val (.int (Lp lam)), .unset, .unset] [(.ref q)])
  refine Go.step (fun _ k => XS.dup X2.here hx rfl (hb hby d6_47) rfl rfl k) ?_
  show Go _ _ _ _ _ _ _ T2 (mkF m 48 #[.val (.ref q), .val (.double (T lam)), .second, .val (.int (Lp lam)), .unset, .unset] [(.ref q), (.ref q)])
  obtain ⟨T3, X3, e3, st3⟩ := getF X2 hx hZ hown (host := "") (Or.inl (hw _ (List.mem_of_getElem? (i := 28) rfl))) Via.refl e2 F_size_q (g := (mkF m 48 #[.val (.ref q), .val (.double (T lam)), .second, .val (.int (Lp lam)), .unset, .unset] [(.ref q), (.ref q)])) rfl rfl (hb hby d6_48)
  refine Go.step st3 ?_
  show Go _ _ _ _ _ _ _ T3 (mkF m 51 #[.val (.ref q), .val (.double (T lam)), .second, .val (.int (Lp lam)), .unset, .unset] [(.int (3 : Int32)), (.ref q)])
  refine Go.step (fun _ k => XS.dupX1 X3.here hx rfl (hb hby d6_51) rfl rfl rfl k) ?_
  show Go _ _ _ _ _ _ _ T3 (mkF m 52 #[.val (.ref q), .val (.double (T lam)), .second, .val (.int (Lp lam)), .unset, .unset] [(.int (3 : Int32)), (.ref q), (.int (3 : Int32))])
  refine Go.step (fun _ k => XS.iconst X3.here hx rfl (hb hby d6_52) k) ?_
  show Go _ _ _ _ _ _ _ T3 (mkF m 53 #[.val (.ref q), .val (.double (T lam)), .second, .val (.int (Lp lam)), .unset, .unset] [(.int (1 : Int32)), (.int (3 : Int32)), (.ref q), (.int (3 : Int32))])
  refine Go.step (fun _ k => XS.iadd X3.here hx rfl (hb hby d6_53) rfl k) ?_
  show Go _ _ _ _ _ _ _ T3 (mkF m 54 #[.val (.ref q), .val (.double (T lam)), .second, .val (.int (Lp lam)), .unset, .unset] [(.int (4 : Int32)), (.ref q), (.int (3 : Int32))])
  obtain ⟨T4, h4, X4, e4, W4, st4⟩ := putF X3 hx hZ hown (host := "") (Or.inl (hw _ (List.mem_of_getElem? (i := 28) rfl))) Via.refl e3 F_size_q E_q (Or.inl (hw _ (List.mem_of_getElem? (i := 29) rfl))) (hw _ (List.mem_of_getElem? (i := 10) rfl)) (ty := .int) (by decide) rfl rfl (g := (mkF m 54 #[.val (.ref q), .val (.double (T lam)), .second, .val (.int (Lp lam)), .unset, .unset] [(.int (4 : Int32)), (.ref q), (.int (3 : Int32))])) rfl rfl (hb hby d6_54)
  refine Go.step st4 ?_
  have N4 := Fr.snoc X4 N0 ge_q
  have F_size_q_4 := F_size_q.same W4
  have E_q_4 := E_q.wr W4
  have F_times_q_4 := F_times_q.other W4 (Or.inr (slot_ne (Or.inl (hw _ (List.mem_of_getElem? (i := 20) rfl))) (Or.inl (hw _ (List.mem_of_getElem? (i := 29) rfl))) (by decide) (t := (.array .double)) (t' := .int) (by decide) (by decide)))
  have F_lightpaths_q_4 := F_lightpaths_q.other W4 (Or.inr (slot_ne (Or.inl (hw _ (List.mem_of_getElem? (i := 22) rfl))) (Or.inl (hw _ (List.mem_of_getElem? (i := 29) rfl))) (by decide) (t := (.array .int)) (t' := .int) (by decide) (by decide)))
  have V_u_4 := V_u.other W4 (Ne.symm ne_q_u)
  have V_v_4 := V_v.other W4 (Ne.symm ne_q_v)
  have K4 : Keep h0 h4 [q, u, v] := (Keep.refl h0 [q, u, v]).wr W4 (Or.inl (List.mem_of_getElem? (i := 0) rfl))
  show Go _ _ _ _ _ _ _ T4 (mkF m 57 #[.val (.ref q), .val (.double (T lam)), .second, .val (.int (Lp lam)), .unset, .unset] [(.int (3 : Int32))])
  refine Go.step (fun _ k => XS.istore X4.here hx rfl (hb hby d6_57) rfl (l' := #[.val (.ref q), .val (.double (T lam)), .second, .val (.int (Lp lam)), .val (.int (3 : Int32)), .unset]) rfl k) ?_
  show Go _ _ _ _ _ _ _ T4 (mkF m 59 #[.val (.ref q), .val (.double (T lam)), .second, .val (.int (Lp lam)), .val (.int (3 : Int32)), .unset] [])
  refine Go.step (fun _ k => XS.iload X4.here hx rfl (hb hby d6_59) rfl k) ?_
  show Go _ _ _ _ _ _ _ T4 (mkF m 61 #[.val (.ref q), .val (.double (T lam)), .second, .val (.int (Lp lam)), .val (.int (3 : Int32)), .unset] [(.int (3 : Int32))])
  refine Go.step (fun _ k => XS.ifNo X4.here hx rfl (hb hby d6_61) rfl ((if0 _ _).trans (tlt (by decide : (0 : Int32) < (3 : Int32))).2.2.2) k) ?_
  show Go _ _ _ _ _ _ _ T4 (mkF m 64 #[.val (.ref q), .val (.double (T lam)), .second, .val (.int (Lp lam)), .val (.int (3 : Int32)), .unset] [])
  refine Go.step (fun _ k => XS.aloadN X4.here hx rfl (hb hby d6_64) rfl rfl k) ?_
  show Go _ _ _ _ _ _ _ T4 (mkF m 65 #[.val (.ref q), .val (.double (T lam)), .second, .val (.int (Lp lam)), .val (.int (3 : Int32)), .unset] [(.ref q)])
  obtain ⟨T5, X5, e5, st5⟩ := getF X4 hx hZ hown (host := "") (Or.inl (hw _ (List.mem_of_getElem? (i := 19) rfl))) Via.refl e4 F_times_q_4 (g := (mkF m 65 #[.val (.ref q), .val (.double (T lam)), .second, .val (.int (Lp lam)), .val (.int (3 : Int32)), .unset] [(.ref q)])) rfl rfl (hb hby d6_65)
  refine Go.step st5 ?_
  show Go _ _ _ _ _ _ _ T5 (mkF m 68 #[.val (.ref q), .val (.double (T lam)), .second, .val (.int (Lp lam)), .val (.int (3 : Int32)), .unset] [(.ref u)])
  refine Go.step (fun _ k => XS.iload X5.here hx rfl (hb hby d6_68) rfl k) ?_
  show Go _ _ _ _ _ _ _ T5 (mkF m 70 #[.val (.ref q), .val (.double (T lam)), .second, .val (.int (Lp lam)), .val (.int (3 : Int32)), .unset] [(.int (3 : Int32)), (.ref u)])
  refine Go.step (fun _ k => XS.iconst X5.here hx rfl (hb hby d6_70) k) ?_
  show Go _ _ _ _ _ _ _ T5 (mkF m 71 #[.val (.ref q), .val (.double (T lam)), .second, .val (.int (Lp lam)), .val (.int (3 : Int32)), .unset] [(.int (1 : Int32)), (.int (3 : Int32)), (.ref u)])
  refine Go.step (fun _ k => XS.isub X5.here hx rfl (hb hby d6_71) rfl k) ?_
  show Go _ _ _ _ _ _ _ T5 (mkF m 72 #[.val (.ref q), .val (.double (T lam)), .second, .val (.int (Lp lam)), .val (.int (3 : Int32)), .unset] [(.int (2 : Int32)), (.ref u)])
  refine Go.step (fun _ k => XS.iconst X5.here hx rfl (hb hby d6_72) k) ?_
  show Go _ _ _ _ _ _ _ T5 (mkF m 73 #[.val (.ref q), .val (.double (T lam)), .second, .val (.int (Lp lam)), .val (.int (3 : Int32)), .unset] [(.int (2 : Int32)), (.int (2 : Int32)), (.ref u)])
  refine Go.step (fun _ k => XS.idiv X5.here hx rfl (hb hby d6_73) rfl (by decide) k) ?_
  show Go _ _ _ _ _ _ _ T5 (mkF m 74 #[.val (.ref q), .val (.double (T lam)), .second, .val (.int (Lp lam)), .val (.int (3 : Int32)), .unset] [(.int (1 : Int32)), (.ref u)])
  refine Go.daload X5 hx hZ e5 V_u_4 (j := (1 : Int32)) (v := (T (a 1))) (by decide) (by first | rfl | simp [updN, hg0, hg1, hg2, hl0, hl1, hl2]) (hb hby d6_74) ?_
  show Go _ _ _ _ _ _ _ T5 (mkF m 75 #[.val (.ref q), .val (.double (T lam)), .second, .val (.int (Lp lam)), .val (.int (3 : Int32)), .unset] [(.double (T (a 1)))])
  refine Go.step (fun _ k => XS.dloadN X5.here hx rfl (hb hby d6_75) rfl k) ?_
  show Go _ _ _ _ _ _ _ T5 (mkF m 76 #[.val (.ref q), .val (.double (T lam)), .second, .val (.int (Lp lam)), .val (.int (3 : Int32)), .unset] [(.double (T lam)), (.double (T (a 1)))])
  refine Go.step (fun _ k => XS.dcmpS X5.here hx rfl (hb hby d6_76) rfl rfl k) ?_
  show Go _ _ _ _ _ _ _ T5 (mkF m 77 #[.val (.ref q), .val (.double (T lam)), .second, .val (.int (Lp lam)), .val (.int (3 : Int32)), .unset] [(.int (cmpValue (FP.dcmp (T (a 1)) (T lam)) .l))])
  by_cases hd77_6 : FP.dcmp (T (a 1)) (T lam) = some .gt
  · refine Go.step (fun _ k => XS.ifNo X5.here hx rfl (hb hby d6_77) rfl (gt_y hd77_6) k) ?_
    show Go _ _ _ _ _ _ _ T5 (mkF m 80 #[.val (.ref q), .val (.double (T lam)), .second, .val (.int (Lp lam)), .val (.int (3 : Int32)), .unset] [])
    refine Go.step (fun _ k => XS.iload X5.here hx rfl (hb hby d6_80) rfl k) ?_
    show Go _ _ _ _ _ _ _ T5 (mkF m 82 #[.val (.ref q), .val (.double (T lam)), .second, .val (.int (Lp lam)), .val (.int (3 : Int32)), .unset] [(.int (3 : Int32))])
    refine Go.step (fun _ k => XS.iconst X5.here hx rfl (hb hby d6_82) k) ?_
    show Go _ _ _ _ _ _ _ T5 (mkF m 83 #[.val (.ref q), .val (.double (T lam)), .second, .val (.int (Lp lam)), .val (.int (3 : Int32)), .unset] [(.int (1 : Int32)), (.int (3 : Int32))])
    refine Go.step (fun _ k => XS.isub X5.here hx rfl (hb hby d6_83) rfl k) ?_
    show Go _ _ _ _ _ _ _ T5 (mkF m 84 #[.val (.ref q), .val (.double (T lam)), .second, .val (.int (Lp lam)), .val (.int (3 : Int32)), .unset] [(.int (2 : Int32))])
    refine Go.step (fun _ k => XS.iconst X5.here hx rfl (hb hby d6_84) k) ?_
    show Go _ _ _ _ _ _ _ T5 (mkF m 85 #[.val (.ref q), .val (.double (T lam)), .second, .val (.int (Lp lam)), .val (.int (3 : Int32)), .unset] [(.int (2 : Int32)), (.int (2 : Int32))])
    refine Go.step (fun _ k => XS.idiv X5.here hx rfl (hb hby d6_85) rfl (by decide) k) ?_
    show Go _ _ _ _ _ _ _ T5 (mkF m 86 #[.val (.ref q), .val (.double (T lam)), .second, .val (.int (Lp lam)), .val (.int (3 : Int32)), .unset] [(.int (1 : Int32))])
    refine Go.step (fun _ k => XS.istore X5.here hx rfl (hb hby d6_86) rfl (l' := #[.val (.ref q), .val (.double (T lam)), .second, .val (.int (Lp lam)), .val (.int (3 : Int32)), .val (.int (1 : Int32))]) rfl k) ?_
    show Go _ _ _ _ _ _ _ T5 (mkF m 88 #[.val (.ref q), .val (.double (T lam)), .second, .val (.int (Lp lam)), .val (.int (3 : Int32)), .val (.int (1 : Int32))] [])
    refine Go.step (fun _ k => XS.aloadN X5.here hx rfl (hb hby d6_88) rfl rfl k) ?_
    show Go _ _ _ _ _ _ _ T5 (mkF m 89 #[.val (.ref q), .val (.double (T lam)), .second, .val (.int (Lp lam)), .val (.int (3 : Int32)), .val (.int (1 : Int32))] [(.ref q)])
    obtain ⟨T7, X7, e7, st7⟩ := getF X5 hx hZ hown (host := "") (Or.inl (hw _ (List.mem_of_getElem? (i := 19) rfl))) Via.refl e5 F_times_q_4 (g := (mkF m 89 #[.val (.ref q), .val (.double (T lam)), .second, .val (.int (Lp lam)), .val (.int (3 : Int32)), .val (.int (1 : Int32))] [(.ref q)])) rfl rfl (hb hby d6_89)
    refine Go.step st7 ?_
    show Go _ _ _ _ _ _ _ T7 (mkF m 92 #[.val (.ref q), .val (.double (T lam)), .second, .val (.int (Lp lam)), .val (.int (3 : Int32)), .val (.int (1 : Int32))] [(.ref u)])
    refine Go.step (fun _ k => XS.iload X7.here hx rfl (hb hby d6_92) rfl k) ?_
    show Go _ _ _ _ _ _ _ T7 (mkF m 94 #[.val (.ref q), .val (.double (T lam)), .second, .val (.int (Lp lam)), .val (.int (3 : Int32)), .val (.int (1 : Int32))] [(.int (3 : Int32)), (.ref u)])
    refine Go.step (fun _ k => XS.aloadN X7.here hx rfl (hb hby d6_94) rfl rfl k) ?_
    show Go _ _ _ _ _ _ _ T7 (mkF m 95 #[.val (.ref q), .val (.double (T lam)), .second, .val (.int (Lp lam)), .val (.int (3 : Int32)), .val (.int (1 : Int32))] [(.ref q), (.int (3 : Int32)), (.ref u)])
    obtain ⟨T8, X8, e8, st8⟩ := getF X7 hx hZ hown (host := "") (Or.inl (hw _ (List.mem_of_getElem? (i := 19) rfl))) Via.refl e7 F_times_q_4 (g := (mkF m 95 #[.val (.ref q), .val (.double (T lam)), .second, .val (.int (Lp lam)), .val (.int (3 : Int32)), .val (.int (1 : Int32))] [(.ref q), (.int (3 : Int32)), (.ref u)])) rfl rfl (hb hby d6_95)
    refine Go.step st8 ?_
    show Go _ _ _ _ _ _ _ T8 (mkF m 98 #[.val (.ref q), .val (.double (T lam)), .second, .val (.int (Lp lam)), .val (.int (3 : Int32)), .val (.int (1 : Int32))] [(.ref u), (.int (3 : Int32)), (.ref u)])
    refine Go.step (fun _ k => XS.iload X8.here hx rfl (hb hby d6_98) rfl k) ?_
    show Go _ _ _ _ _ _ _ T8 (mkF m 100 #[.val (.ref q), .val (.double (T lam)), .second, .val (.int (Lp lam)), .val (.int (3 : Int32)), .val (.int (1 : Int32))] [(.int (1 : Int32)), (.ref u), (.int (3 : Int32)), (.ref u)])
    refine Go.daload X8 hx hZ e8 V_u_4 (j := (1 : Int32)) (v := (T (a 1))) (by decide) (by first | rfl | simp [updN, hg0, hg1, hg2, hl0, hl1, hl2]) (hb hby d6_100) ?_
    show Go _ _ _ _ _ _ _ T8 (mkF m 101 #[.val (.ref q), .val (.double (T lam)), .second, .val (.int (Lp lam)), .val (.int (3 : Int32)), .val (.int (1 : Int32))] [(.double (T (a 1))), (.int (3 : Int32)), (.ref u)])
    refine Go.dastore X8 hx hZ e8 V_u_4 (j := (3 : Int32)) (x := (T (a 1))) (by decide) (hb hby d6_101) ?_
    intro T9 h9 X9 e9 W9 Vn9
    have V_u_9 : Dv Z h9 u (64 : Int32) (updN g 3 (T (a 1))) := Vn9
    have N9 := Fr.snoc X9 N4 ge_u
    have E_q_9 := E_q_4.wr W9
    have F_size_q_9 := F_size_q_4.other W9 (Or.inl ne_q_u)
    have F_times_q_9 := F_times_q_4.other W9 (Or.inl ne_q_u)
    have F_lightpaths_q_9 := F_lightpaths_q_4.other W9 (Or.inl ne_q_u)
    have V_v_9 := V_v_4.other W9 (Ne.symm ne_u_v)
    have K9 : Keep h0 h9 [q, u, v] := K4.wr W9 (Or.inl (List.mem_of_getElem? (i := 1) rfl))
    show Go _ _ _ _ _ _ _ T9 (mkF m 102 #[.val (.ref q), .val (.double (T lam)), .second, .val (.int (Lp lam)), .val (.int (3 : Int32)), .val (.int (1 : Int32))] [])
    refine Go.step (fun _ k => XS.aloadN X9.here hx rfl (hb hby d6_102) rfl rfl k) ?_
    show Go _ _ _ _ _ _ _ T9 (mkF m 103 #[.val (.ref q), .val (.double (T lam)), .second, .val (.int (Lp lam)), .val (.int (3 : Int32)), .val (.int (1 : Int32))] [(.ref q)])
    obtain ⟨T10, X10, e10, st10⟩ := getF X9 hx hZ hown (host := "") (Or.inl (hw _ (List.mem_of_getElem? (i := 21) rfl))) Via.refl e9 F_lightpaths_q_9 (g := (mkF m 103 #[.val (.ref q), .val (.double (T lam)), .second, .val (.int (Lp lam)), .val (.int (3 : Int32)), .val (.int (1 : Int32))] [(.ref q)])) rfl rfl (hb hby d6_103)
    refine Go.step st10 ?_
    show Go _ _ _ _ _ _ _ T10 (mkF m 106 #[.val (.ref q), .val (.double (T lam)), .second, .val (.int (Lp lam)), .val (.int (3 : Int32)), .val (.int (1 : Int32))] [(.ref v)])
    refine Go.step (fun _ k => XS.iload X10.here hx rfl (hb hby d6_106) rfl k) ?_
    show Go _ _ _ _ _ _ _ T10 (mkF m 108 #[.val (.ref q), .val (.double (T lam)), .second, .val (.int (Lp lam)), .val (.int (3 : Int32)), .val (.int (1 : Int32))] [(.int (3 : Int32)), (.ref v)])
    refine Go.step (fun _ k => XS.aloadN X10.here hx rfl (hb hby d6_108) rfl rfl k) ?_
    show Go _ _ _ _ _ _ _ T10 (mkF m 109 #[.val (.ref q), .val (.double (T lam)), .second, .val (.int (Lp lam)), .val (.int (3 : Int32)), .val (.int (1 : Int32))] [(.ref q), (.int (3 : Int32)), (.ref v)])
    obtain ⟨T11, X11, e11, st11⟩ := getF X10 hx hZ hown (host := "") (Or.inl (hw _ (List.mem_of_getElem? (i := 21) rfl))) Via.refl e10 F_lightpaths_q_9 (g := (mkF m 109 #[.val (.ref q), .val (.double (T lam)), .second, .val (.int (Lp lam)), .val (.int (3 : Int32)), .val (.int (1 : Int32))] [(.ref q), (.int (3 : Int32)), (.ref v)])) rfl rfl (hb hby d6_109)
    refine Go.step st11 ?_
    show Go _ _ _ _ _ _ _ T11 (mkF m 112 #[.val (.ref q), .val (.double (T lam)), .second, .val (.int (Lp lam)), .val (.int (3 : Int32)), .val (.int (1 : Int32))] [(.ref v), (.int (3 : Int32)), (.ref v)])
    refine Go.step (fun _ k => XS.iload X11.here hx rfl (hb hby d6_112) rfl k) ?_
    show Go _ _ _ _ _ _ _ T11 (mkF m 114 #[.val (.ref q), .val (.double (T lam)), .second, .val (.int (Lp lam)), .val (.int (3 : Int32)), .val (.int (1 : Int32))] [(.int (1 : Int32)), (.ref v), (.int (3 : Int32)), (.ref v)])
    refine Go.iaload X11 hx hZ e11 V_v_9 (j := (1 : Int32)) (v := (Lp (a 1))) (by decide) (by first | rfl | simp [updN, hg0, hg1, hg2, hl0, hl1, hl2]) (hb hby d6_114) ?_
    show Go _ _ _ _ _ _ _ T11 (mkF m 115 #[.val (.ref q), .val (.double (T lam)), .second, .val (.int (Lp lam)), .val (.int (3 : Int32)), .val (.int (1 : Int32))] [(.int (Lp (a 1))), (.int (3 : Int32)), (.ref v)])
    refine Go.iastore X11 hx hZ e11 V_v_9 (j := (3 : Int32)) (x := (Lp (a 1))) (by decide) (hb hby d6_115) ?_
    intro T12 h12 X12 e12 W12 Vn12
    have V_v_12 : Iv Z h12 v (64 : Int32) (updN l' 3 (Lp (a 1))) := Vn12
    have N12 := Fr.snoc X12 N9 ge_v
    have E_q_12 := E_q_9.wr W12
    have F_size_q_12 := F_size_q_9.other W12 (Or.inl ne_q_v)
    have F_times_q_12 := F_times_q_9.other W12 (Or.inl ne_q_v)
    have F_lightpaths_q_12 := F_lightpaths_q_9.other W12 (Or.inl ne_q_v)
    have V_u_12 := V_u_9.other W12 ne_u_v
    have K12 : Keep h0 h12 [q, u, v] := K9.wr W12 (Or.inl (List.mem_of_getElem? (i := 2) rfl))
    show Go _ _ _ _ _ _ _ T12 (mkF m 116 #[.val (.ref q), .val (.double (T lam)), .second, .val (.int (Lp lam)), .val (.int (3 : Int32)), .val (.int (1 : Int32))] [])
    refine Go.step (fun _ k => XS.iload X12.here hx rfl (hb hby d6_116) rfl k) ?_
    show Go _ _ _ _ _ _ _ T12 (mkF m 118 #[.val (.ref q), .val (.double (T lam)), .second, .val (.int (Lp lam)), .val (.int (3 : Int32)), .val (.int (1 : Int32))] [(.int (1 : Int32))])
    refine Go.step (fun _ k => XS.istore X12.here hx rfl (hb hby d6_118) rfl (l' := #[.val (.ref q), .val (.double (T lam)), .second, .val (.int (Lp lam)), .val (.int (1 : Int32)), .val (.int (1 : Int32))]) rfl k) ?_
    show Go _ _ _ _ _ _ _ T12 (mkF m 120 #[.val (.ref q), .val (.double (T lam)), .second, .val (.int (Lp lam)), .val (.int (1 : Int32)), .val (.int (1 : Int32))] [])
    refine Go.step (fun _ k => XS.goto X12.here hx rfl (pc0 := 120) (pc' := 59) rfl (hb hby d6_120) (by decide) (by decide) k) ?_
    show Go _ _ _ _ _ _ _ T12 (mkF m 59 #[.val (.ref q), .val (.double (T lam)), .second, .val (.int (Lp lam)), .val (.int (1 : Int32)), .val (.int (1 : Int32))] [])
    refine Go.step (fun _ k => XS.iload X12.here hx rfl (hb hby d6_59) rfl k) ?_
    show Go _ _ _ _ _ _ _ T12 (mkF m 61 #[.val (.ref q), .val (.double (T lam)), .second, .val (.int (Lp lam)), .val (.int (1 : Int32)), .val (.int (1 : Int32))] [(.int (1 : Int32))])
    refine Go.step (fun _ k => XS.ifNo X12.here hx rfl (hb hby d6_61) rfl ((if0 _ _).trans (tlt (by decide : (0 : Int32) < (1 : Int32))).2.2.2) k) ?_
    show Go _ _ _ _ _ _ _ T12 (mkF m 64 #[.val (.ref q), .val (.double (T lam)), .second, .val (.int (Lp lam)), .val (.int (1 : Int32)), .val (.int (1 : Int32))] [])
    refine Go.step (fun _ k => XS.aloadN X12.here hx rfl (hb hby d6_64) rfl rfl k) ?_
    show Go _ _ _ _ _ _ _ T12 (mkF m 65 #[.val (.ref q), .val (.double (T lam)), .second, .val (.int (Lp lam)), .val (.int (1 : Int32)), .val (.int (1 : Int32))] [(.ref q)])
    obtain ⟨T13, X13, e13, st13⟩ := getF X12 hx hZ hown (host := "") (Or.inl (hw _ (List.mem_of_getElem? (i := 19) rfl))) Via.refl e12 F_times_q_12 (g := (mkF m 65 #[.val (.ref q), .val (.double (T lam)), .second, .val (.int (Lp lam)), .val (.int (1 : Int32)), .val (.int (1 : Int32))] [(.ref q)])) rfl rfl (hb hby d6_65)
    refine Go.step st13 ?_
    show Go _ _ _ _ _ _ _ T13 (mkF m 68 #[.val (.ref q), .val (.double (T lam)), .second, .val (.int (Lp lam)), .val (.int (1 : Int32)), .val (.int (1 : Int32))] [(.ref u)])
    refine Go.step (fun _ k => XS.iload X13.here hx rfl (hb hby d6_68) rfl k) ?_
    show Go _ _ _ _ _ _ _ T13 (mkF m 70 #[.val (.ref q), .val (.double (T lam)), .second, .val (.int (Lp lam)), .val (.int (1 : Int32)), .val (.int (1 : Int32))] [(.int (1 : Int32)), (.ref u)])
    refine Go.step (fun _ k => XS.iconst X13.here hx rfl (hb hby d6_70) k) ?_
    show Go _ _ _ _ _ _ _ T13 (mkF m 71 #[.val (.ref q), .val (.double (T lam)), .second, .val (.int (Lp lam)), .val (.int (1 : Int32)), .val (.int (1 : Int32))] [(.int (1 : Int32)), (.int (1 : Int32)), (.ref u)])
    refine Go.step (fun _ k => XS.isub X13.here hx rfl (hb hby d6_71) rfl k) ?_
    show Go _ _ _ _ _ _ _ T13 (mkF m 72 #[.val (.ref q), .val (.double (T lam)), .second, .val (.int (Lp lam)), .val (.int (1 : Int32)), .val (.int (1 : Int32))] [(.int (0 : Int32)), (.ref u)])
    refine Go.step (fun _ k => XS.iconst X13.here hx rfl (hb hby d6_72) k) ?_
    show Go _ _ _ _ _ _ _ T13 (mkF m 73 #[.val (.ref q), .val (.double (T lam)), .second, .val (.int (Lp lam)), .val (.int (1 : Int32)), .val (.int (1 : Int32))] [(.int (2 : Int32)), (.int (0 : Int32)), (.ref u)])
    refine Go.step (fun _ k => XS.idiv X13.here hx rfl (hb hby d6_73) rfl (by decide) k) ?_
    show Go _ _ _ _ _ _ _ T13 (mkF m 74 #[.val (.ref q), .val (.double (T lam)), .second, .val (.int (Lp lam)), .val (.int (1 : Int32)), .val (.int (1 : Int32))] [(.int (0 : Int32)), (.ref u)])
    refine Go.daload X13 hx hZ e13 V_u_12 (j := (0 : Int32)) (v := (T (a 0))) (by decide) (by first | rfl | simp [updN, hg0, hg1, hg2, hl0, hl1, hl2]) (hb hby d6_74) ?_
    show Go _ _ _ _ _ _ _ T13 (mkF m 75 #[.val (.ref q), .val (.double (T lam)), .second, .val (.int (Lp lam)), .val (.int (1 : Int32)), .val (.int (1 : Int32))] [(.double (T (a 0)))])
    refine Go.step (fun _ k => XS.dloadN X13.here hx rfl (hb hby d6_75) rfl k) ?_
    show Go _ _ _ _ _ _ _ T13 (mkF m 76 #[.val (.ref q), .val (.double (T lam)), .second, .val (.int (Lp lam)), .val (.int (1 : Int32)), .val (.int (1 : Int32))] [(.double (T lam)), (.double (T (a 0)))])
    refine Go.step (fun _ k => XS.dcmpS X13.here hx rfl (hb hby d6_76) rfl rfl k) ?_
    show Go _ _ _ _ _ _ _ T13 (mkF m 77 #[.val (.ref q), .val (.double (T lam)), .second, .val (.int (Lp lam)), .val (.int (1 : Int32)), .val (.int (1 : Int32))] [(.int (cmpValue (FP.dcmp (T (a 0)) (T lam)) .l))])
    by_cases hd77_14 : FP.dcmp (T (a 0)) (T lam) = some .gt
    · refine Go.step (fun _ k => XS.ifNo X13.here hx rfl (hb hby d6_77) rfl (gt_y hd77_14) k) ?_
      show Go _ _ _ _ _ _ _ T13 (mkF m 80 #[.val (.ref q), .val (.double (T lam)), .second, .val (.int (Lp lam)), .val (.int (1 : Int32)), .val (.int (1 : Int32))] [])
      refine Go.step (fun _ k => XS.iload X13.here hx rfl (hb hby d6_80) rfl k) ?_
      show Go _ _ _ _ _ _ _ T13 (mkF m 82 #[.val (.ref q), .val (.double (T lam)), .second, .val (.int (Lp lam)), .val (.int (1 : Int32)), .val (.int (1 : Int32))] [(.int (1 : Int32))])
      refine Go.step (fun _ k => XS.iconst X13.here hx rfl (hb hby d6_82) k) ?_
      show Go _ _ _ _ _ _ _ T13 (mkF m 83 #[.val (.ref q), .val (.double (T lam)), .second, .val (.int (Lp lam)), .val (.int (1 : Int32)), .val (.int (1 : Int32))] [(.int (1 : Int32)), (.int (1 : Int32))])
      refine Go.step (fun _ k => XS.isub X13.here hx rfl (hb hby d6_83) rfl k) ?_
      show Go _ _ _ _ _ _ _ T13 (mkF m 84 #[.val (.ref q), .val (.double (T lam)), .second, .val (.int (Lp lam)), .val (.int (1 : Int32)), .val (.int (1 : Int32))] [(.int (0 : Int32))])
      refine Go.step (fun _ k => XS.iconst X13.here hx rfl (hb hby d6_84) k) ?_
      show Go _ _ _ _ _ _ _ T13 (mkF m 85 #[.val (.ref q), .val (.double (T lam)), .second, .val (.int (Lp lam)), .val (.int (1 : Int32)), .val (.int (1 : Int32))] [(.int (2 : Int32)), (.int (0 : Int32))])
      refine Go.step (fun _ k => XS.idiv X13.here hx rfl (hb hby d6_85) rfl (by decide) k) ?_
      show Go _ _ _ _ _ _ _ T13 (mkF m 86 #[.val (.ref q), .val (.double (T lam)), .second, .val (.int (Lp lam)), .val (.int (1 : Int32)), .val (.int (1 : Int32))] [(.int (0 : Int32))])
      refine Go.step (fun _ k => XS.istore X13.here hx rfl (hb hby d6_86) rfl (l' := #[.val (.ref q), .val (.double (T lam)), .second, .val (.int (Lp lam)), .val (.int (1 : Int32)), .val (.int (0 : Int32))]) rfl k) ?_
      show Go _ _ _ _ _ _ _ T13 (mkF m 88 #[.val (.ref q), .val (.double (T lam)), .second, .val (.int (Lp lam)), .val (.int (1 : Int32)), .val (.int (0 : Int32))] [])
      refine Go.step (fun _ k => XS.aloadN X13.here hx rfl (hb hby d6_88) rfl rfl k) ?_
      show Go _ _ _ _ _ _ _ T13 (mkF m 89 #[.val (.ref q), .val (.double (T lam)), .second, .val (.int (Lp lam)), .val (.int (1 : Int32)), .val (.int (0 : Int32))] [(.ref q)])
      obtain ⟨T15, X15, e15, st15⟩ := getF X13 hx hZ hown (host := "") (Or.inl (hw _ (List.mem_of_getElem? (i := 19) rfl))) Via.refl e13 F_times_q_12 (g := (mkF m 89 #[.val (.ref q), .val (.double (T lam)), .second, .val (.int (Lp lam)), .val (.int (1 : Int32)), .val (.int (0 : Int32))] [(.ref q)])) rfl rfl (hb hby d6_89)
      refine Go.step st15 ?_
      show Go _ _ _ _ _ _ _ T15 (mkF m 92 #[.val (.ref q), .val (.double (T lam)), .second, .val (.int (Lp lam)), .val (.int (1 : Int32)), .val (.int (0 : Int32))] [(.ref u)])
      refine Go.step (fun _ k => XS.iload X15.here hx rfl (hb hby d6_92) rfl k) ?_
      show Go _ _ _ _ _ _ _ T15 (mkF m 94 #[.val (.ref q), .val (.double (T lam)), .second, .val (.int (Lp lam)), .val (.int (1 : Int32)), .val (.int (0 : Int32))] [(.int (1 : Int32)), (.ref u)])
      refine Go.step (fun _ k => XS.aloadN X15.here hx rfl (hb hby d6_94) rfl rfl k) ?_
      show Go _ _ _ _ _ _ _ T15 (mkF m 95 #[.val (.ref q), .val (.double (T lam)), .second, .val (.int (Lp lam)), .val (.int (1 : Int32)), .val (.int (0 : Int32))] [(.ref q), (.int (1 : Int32)), (.ref u)])
      obtain ⟨T16, X16, e16, st16⟩ := getF X15 hx hZ hown (host := "") (Or.inl (hw _ (List.mem_of_getElem? (i := 19) rfl))) Via.refl e15 F_times_q_12 (g := (mkF m 95 #[.val (.ref q), .val (.double (T lam)), .second, .val (.int (Lp lam)), .val (.int (1 : Int32)), .val (.int (0 : Int32))] [(.ref q), (.int (1 : Int32)), (.ref u)])) rfl rfl (hb hby d6_95)
      refine Go.step st16 ?_
      show Go _ _ _ _ _ _ _ T16 (mkF m 98 #[.val (.ref q), .val (.double (T lam)), .second, .val (.int (Lp lam)), .val (.int (1 : Int32)), .val (.int (0 : Int32))] [(.ref u), (.int (1 : Int32)), (.ref u)])
      refine Go.step (fun _ k => XS.iload X16.here hx rfl (hb hby d6_98) rfl k) ?_
      show Go _ _ _ _ _ _ _ T16 (mkF m 100 #[.val (.ref q), .val (.double (T lam)), .second, .val (.int (Lp lam)), .val (.int (1 : Int32)), .val (.int (0 : Int32))] [(.int (0 : Int32)), (.ref u), (.int (1 : Int32)), (.ref u)])
      refine Go.daload X16 hx hZ e16 V_u_12 (j := (0 : Int32)) (v := (T (a 0))) (by decide) (by first | rfl | simp [updN, hg0, hg1, hg2, hl0, hl1, hl2]) (hb hby d6_100) ?_
      show Go _ _ _ _ _ _ _ T16 (mkF m 101 #[.val (.ref q), .val (.double (T lam)), .second, .val (.int (Lp lam)), .val (.int (1 : Int32)), .val (.int (0 : Int32))] [(.double (T (a 0))), (.int (1 : Int32)), (.ref u)])
      refine Go.dastore X16 hx hZ e16 V_u_12 (j := (1 : Int32)) (x := (T (a 0))) (by decide) (hb hby d6_101) ?_
      intro T17 h17 X17 e17 W17 Vn17
      have V_u_17 : Dv Z h17 u (64 : Int32) (updN (updN g 3 (T (a 1))) 1 (T (a 0))) := Vn17
      have N17 := Fr.snoc X17 N12 ge_u
      have E_q_17 := E_q_12.wr W17
      have F_size_q_17 := F_size_q_12.other W17 (Or.inl ne_q_u)
      have F_times_q_17 := F_times_q_12.other W17 (Or.inl ne_q_u)
      have F_lightpaths_q_17 := F_lightpaths_q_12.other W17 (Or.inl ne_q_u)
      have V_v_17 := V_v_12.other W17 (Ne.symm ne_u_v)
      have K17 : Keep h0 h17 [q, u, v] := K12.wr W17 (Or.inl (List.mem_of_getElem? (i := 1) rfl))
      show Go _ _ _ _ _ _ _ T17 (mkF m 102 #[.val (.ref q), .val (.double (T lam)), .second, .val (.int (Lp lam)), .val (.int (1 : Int32)), .val (.int (0 : Int32))] [])
      refine Go.step (fun _ k => XS.aloadN X17.here hx rfl (hb hby d6_102) rfl rfl k) ?_
      show Go _ _ _ _ _ _ _ T17 (mkF m 103 #[.val (.ref q), .val (.double (T lam)), .second, .val (.int (Lp lam)), .val (.int (1 : Int32)), .val (.int (0 : Int32))] [(.ref q)])
      obtain ⟨T18, X18, e18, st18⟩ := getF X17 hx hZ hown (host := "") (Or.inl (hw _ (List.mem_of_getElem? (i := 21) rfl))) Via.refl e17 F_lightpaths_q_17 (g := (mkF m 103 #[.val (.ref q), .val (.double (T lam)), .second, .val (.int (Lp lam)), .val (.int (1 : Int32)), .val (.int (0 : Int32))] [(.ref q)])) rfl rfl (hb hby d6_103)
      refine Go.step st18 ?_
      show Go _ _ _ _ _ _ _ T18 (mkF m 106 #[.val (.ref q), .val (.double (T lam)), .second, .val (.int (Lp lam)), .val (.int (1 : Int32)), .val (.int (0 : Int32))] [(.ref v)])
      refine Go.step (fun _ k => XS.iload X18.here hx rfl (hb hby d6_106) rfl k) ?_
      show Go _ _ _ _ _ _ _ T18 (mkF m 108 #[.val (.ref q), .val (.double (T lam)), .second, .val (.int (Lp lam)), .val (.int (1 : Int32)), .val (.int (0 : Int32))] [(.int (1 : Int32)), (.ref v)])
      refine Go.step (fun _ k => XS.aloadN X18.here hx rfl (hb hby d6_108) rfl rfl k) ?_
      show Go _ _ _ _ _ _ _ T18 (mkF m 109 #[.val (.ref q), .val (.double (T lam)), .second, .val (.int (Lp lam)), .val (.int (1 : Int32)), .val (.int (0 : Int32))] [(.ref q), (.int (1 : Int32)), (.ref v)])
      obtain ⟨T19, X19, e19, st19⟩ := getF X18 hx hZ hown (host := "") (Or.inl (hw _ (List.mem_of_getElem? (i := 21) rfl))) Via.refl e18 F_lightpaths_q_17 (g := (mkF m 109 #[.val (.ref q), .val (.double (T lam)), .second, .val (.int (Lp lam)), .val (.int (1 : Int32)), .val (.int (0 : Int32))] [(.ref q), (.int (1 : Int32)), (.ref v)])) rfl rfl (hb hby d6_109)
      refine Go.step st19 ?_
      show Go _ _ _ _ _ _ _ T19 (mkF m 112 #[.val (.ref q), .val (.double (T lam)), .second, .val (.int (Lp lam)), .val (.int (1 : Int32)), .val (.int (0 : Int32))] [(.ref v), (.int (1 : Int32)), (.ref v)])
      refine Go.step (fun _ k => XS.iload X19.here hx rfl (hb hby d6_112) rfl k) ?_
      show Go _ _ _ _ _ _ _ T19 (mkF m 114 #[.val (.ref q), .val (.double (T lam)), .second, .val (.int (Lp lam)), .val (.int (1 : Int32)), .val (.int (0 : Int32))] [(.int (0 : Int32)), (.ref v), (.int (1 : Int32)), (.ref v)])
      refine Go.iaload X19 hx hZ e19 V_v_17 (j := (0 : Int32)) (v := (Lp (a 0))) (by decide) (by first | rfl | simp [updN, hg0, hg1, hg2, hl0, hl1, hl2]) (hb hby d6_114) ?_
      show Go _ _ _ _ _ _ _ T19 (mkF m 115 #[.val (.ref q), .val (.double (T lam)), .second, .val (.int (Lp lam)), .val (.int (1 : Int32)), .val (.int (0 : Int32))] [(.int (Lp (a 0))), (.int (1 : Int32)), (.ref v)])
      refine Go.iastore X19 hx hZ e19 V_v_17 (j := (1 : Int32)) (x := (Lp (a 0))) (by decide) (hb hby d6_115) ?_
      intro T20 h20 X20 e20 W20 Vn20
      have V_v_20 : Iv Z h20 v (64 : Int32) (updN (updN l' 3 (Lp (a 1))) 1 (Lp (a 0))) := Vn20
      have N20 := Fr.snoc X20 N17 ge_v
      have E_q_20 := E_q_17.wr W20
      have F_size_q_20 := F_size_q_17.other W20 (Or.inl ne_q_v)
      have F_times_q_20 := F_times_q_17.other W20 (Or.inl ne_q_v)
      have F_lightpaths_q_20 := F_lightpaths_q_17.other W20 (Or.inl ne_q_v)
      have V_u_20 := V_u_17.other W20 ne_u_v
      have K20 : Keep h0 h20 [q, u, v] := K17.wr W20 (Or.inl (List.mem_of_getElem? (i := 2) rfl))
      show Go _ _ _ _ _ _ _ T20 (mkF m 116 #[.val (.ref q), .val (.double (T lam)), .second, .val (.int (Lp lam)), .val (.int (1 : Int32)), .val (.int (0 : Int32))] [])
      refine Go.step (fun _ k => XS.iload X20.here hx rfl (hb hby d6_116) rfl k) ?_
      show Go _ _ _ _ _ _ _ T20 (mkF m 118 #[.val (.ref q), .val (.double (T lam)), .second, .val (.int (Lp lam)), .val (.int (1 : Int32)), .val (.int (0 : Int32))] [(.int (0 : Int32))])
      refine Go.step (fun _ k => XS.istore X20.here hx rfl (hb hby d6_118) rfl (l' := #[.val (.ref q), .val (.double (T lam)), .second, .val (.int (Lp lam)), .val (.int (0 : Int32)), .val (.int (0 : Int32))]) rfl k) ?_
      show Go _ _ _ _ _ _ _ T20 (mkF m 120 #[.val (.ref q), .val (.double (T lam)), .second, .val (.int (Lp lam)), .val (.int (0 : Int32)), .val (.int (0 : Int32))] [])
      refine Go.step (fun _ k => XS.goto X20.here hx rfl (pc0 := 120) (pc' := 59) rfl (hb hby d6_120) (by decide) (by decide) k) ?_
      show Go _ _ _ _ _ _ _ T20 (mkF m 59 #[.val (.ref q), .val (.double (T lam)), .second, .val (.int (Lp lam)), .val (.int (0 : Int32)), .val (.int (0 : Int32))] [])
      refine Go.step (fun _ k => XS.iload X20.here hx rfl (hb hby d6_59) rfl k) ?_
      show Go _ _ _ _ _ _ _ T20 (mkF m 61 #[.val (.ref q), .val (.double (T lam)), .second, .val (.int (Lp lam)), .val (.int (0 : Int32)), .val (.int (0 : Int32))] [(.int (0 : Int32))])
      refine Go.step (fun _ k => XS.ifYes X20.here hx rfl (pc0 := 61) (pc' := 123) rfl (hb hby d6_61) rfl ((if0 _ _).trans (flt (by decide : ¬ ((0 : Int32) < (0 : Int32)))).2.2.2) (by decide) (by decide) k) ?_
      show Go _ _ _ _ _ _ _ T20 (mkF m 123 #[.val (.ref q), .val (.double (T lam)), .second, .val (.int (Lp lam)), .val (.int (0 : Int32)), .val (.int (0 : Int32))] [])
      refine Go.step (fun _ k => XS.aloadN X20.here hx rfl (hb hby d6_123) rfl rfl k) ?_
      show Go _ _ _ _ _ _ _ T20 (mkF m 124 #[.val (.ref q), .val (.double (T lam)), .second, .val (.int (Lp lam)), .val (.int (0 : Int32)), .val (.int (0 : Int32))] [(.ref q)])
      obtain ⟨T21, X21, e21, st21⟩ := getF X20 hx hZ hown (host := "") (Or.inl (hw _ (List.mem_of_getElem? (i := 19) rfl))) Via.refl e20 F_times_q_20 (g := (mkF m 124 #[.val (.ref q), .val (.double (T lam)), .second, .val (.int (Lp lam)), .val (.int (0 : Int32)), .val (.int (0 : Int32))] [(.ref q)])) rfl rfl (hb hby d6_124)
      refine Go.step st21 ?_
      show Go _ _ _ _ _ _ _ T21 (mkF m 127 #[.val (.ref q), .val (.double (T lam)), .second, .val (.int (Lp lam)), .val (.int (0 : Int32)), .val (.int (0 : Int32))] [(.ref u)])
      refine Go.step (fun _ k => XS.iload X21.here hx rfl (hb hby d6_127) rfl k) ?_
      show Go _ _ _ _ _ _ _ T21 (mkF m 129 #[.val (.ref q), .val (.double (T lam)), .second, .val (.int (Lp lam)), .val (.int (0 : Int32)), .val (.int (0 : Int32))] [(.int (0 : Int32)), (.ref u)])
      refine Go.step (fun _ k => XS.dloadN X21.here hx rfl (hb hby d6_129) rfl k) ?_
      show Go _ _ _ _ _ _ _ T21 (mkF m 130 #[.val (.ref q), .val (.double (T lam)), .second, .val (.int (Lp lam)), .val (.int (0 : Int32)), .val (.int (0 : Int32))] [(.double (T lam)), (.int (0 : Int32)), (.ref u)])
      refine Go.dastore X21 hx hZ e21 V_u_20 (j := (0 : Int32)) (x := (T lam)) (by decide) (hb hby d6_130) ?_
      intro T22 h22 X22 e22 W22 Vn22
      have V_u_22 : Dv Z h22 u (64 : Int32) (updN (updN (updN g 3 (T (a 1))) 1 (T (a 0))) 0 (T lam)) := Vn22
      have N22 := Fr.snoc X22 N20 ge_u
      have E_q_22 := E_q_20.wr W22
      have F_size_q_22 := F_size_q_20.other W22 (Or.inl ne_q_u)
      have F_times_q_22 := F_times_q_20.other W22 (Or.inl ne_q_u)
      have F_lightpaths_q_22 := F_lightpaths_q_20.other W22 (Or.inl ne_q_u)
      have V_v_22 := V_v_20.other W22 (Ne.symm ne_u_v)
      have K22 : Keep h0 h22 [q, u, v] := K20.wr W22 (Or.inl (List.mem_of_getElem? (i := 1) rfl))
      show Go _ _ _ _ _ _ _ T22 (mkF m 131 #[.val (.ref q), .val (.double (T lam)), .second, .val (.int (Lp lam)), .val (.int (0 : Int32)), .val (.int (0 : Int32))] [])
      refine Go.step (fun _ k => XS.aloadN X22.here hx rfl (hb hby d6_131) rfl rfl k) ?_
      show Go _ _ _ _ _ _ _ T22 (mkF m 132 #[.val (.ref q), .val (.double (T lam)), .second, .val (.int (Lp lam)), .val (.int (0 : Int32)), .val (.int (0 : Int32))] [(.ref q)])
      obtain ⟨T23, X23, e23, st23⟩ := getF X22 hx hZ hown (host := "") (Or.inl (hw _ (List.mem_of_getElem? (i := 21) rfl))) Via.refl e22 F_lightpaths_q_22 (g := (mkF m 132 #[.val (.ref q), .val (.double (T lam)), .second, .val (.int (Lp lam)), .val (.int (0 : Int32)), .val (.int (0 : Int32))] [(.ref q)])) rfl rfl (hb hby d6_132)
      refine Go.step st23 ?_
      show Go _ _ _ _ _ _ _ T23 (mkF m 135 #[.val (.ref q), .val (.double (T lam)), .second, .val (.int (Lp lam)), .val (.int (0 : Int32)), .val (.int (0 : Int32))] [(.ref v)])
      refine Go.step (fun _ k => XS.iload X23.here hx rfl (hb hby d6_135) rfl k) ?_
      show Go _ _ _ _ _ _ _ T23 (mkF m 137 #[.val (.ref q), .val (.double (T lam)), .second, .val (.int (Lp lam)), .val (.int (0 : Int32)), .val (.int (0 : Int32))] [(.int (0 : Int32)), (.ref v)])
      refine Go.step (fun _ k => XS.iloadN X23.here hx rfl (hb hby d6_137) rfl k) ?_
      show Go _ _ _ _ _ _ _ T23 (mkF m 138 #[.val (.ref q), .val (.double (T lam)), .second, .val (.int (Lp lam)), .val (.int (0 : Int32)), .val (.int (0 : Int32))] [(.int (Lp lam)), (.int (0 : Int32)), (.ref v)])
      refine Go.iastore X23 hx hZ e23 V_v_22 (j := (0 : Int32)) (x := (Lp lam)) (by decide) (hb hby d6_138) ?_
      intro T24 h24 X24 e24 W24 Vn24
      have V_v_24 : Iv Z h24 v (64 : Int32) (updN (updN (updN l' 3 (Lp (a 1))) 1 (Lp (a 0))) 0 (Lp lam)) := Vn24
      have N24 := Fr.snoc X24 N22 ge_v
      have E_q_24 := E_q_22.wr W24
      have F_size_q_24 := F_size_q_22.other W24 (Or.inl ne_q_v)
      have F_times_q_24 := F_times_q_22.other W24 (Or.inl ne_q_v)
      have F_lightpaths_q_24 := F_lightpaths_q_22.other W24 (Or.inl ne_q_v)
      have V_u_24 := V_u_22.other W24 ne_u_v
      have K24 : Keep h0 h24 [q, u, v] := K22.wr W24 (Or.inl (List.mem_of_getElem? (i := 2) rfl))
      show Go _ _ _ _ _ _ _ T24 (mkF m 139 #[.val (.ref q), .val (.double (T lam)), .second, .val (.int (Lp lam)), .val (.int (0 : Int32)), .val (.int (0 : Int32))] [])
      refine Go.retV X24 hx hlk hret (hb hby d6_139) (by decide) (by decide) ?_
      try rw [e24]
      have := own_gtK hT hd77_6
      have := own_gtK hT hd77_14
      refine ⟨rfl, N24, K24, E_q_24, F_size_q_24, F_times_q_24, F_lightpaths_q_24, _, _, (updN (updN (updN a 3 (a 1)) 1 (a 0)) 0 lam), V_u_24, V_v_24, fun i hi' => by rcases (by omega : i = 0 ∨ i = 1 ∨ i = 2 ∨ i = 3) with rfl | rfl | rfl | rfl <;> first | rfl | simp [updN, hg0, hg1, hg2, hl0, hl1, hl2], fun i hi' => by rcases (by omega : i = 0 ∨ i = 1 ∨ i = 2 ∨ i = 3) with rfl | rfl | rfl | rfl <;> first | rfl | simp [updN, hg0, hg1, hg2, hl0, hl1, hl2], ?_, ?_, fun P hP hP' => ?_⟩
      · simp only [HI, updN]; try simp; try omega
      · intro w; simp [sumA, updN]; try omega
      · intro i hi'; rcases (by omega : i = 0 ∨ i = 1 ∨ i = 2 ∨ i = 3) with rfl | rfl | rfl | rfl <;> simp [updN] <;> first | exact hP' | exact hP _ (by decide)
    · refine Go.step (fun _ k => XS.ifYes X13.here hx rfl (pc0 := 77) (pc' := 123) rfl (hb hby d6_77) rfl (gt_n hd77_14) (by decide) (by decide) k) ?_
      show Go _ _ _ _ _ _ _ T13 (mkF m 123 #[.val (.ref q), .val (.double (T lam)), .second, .val (.int (Lp lam)), .val (.int (1 : Int32)), .val (.int (1 : Int32))] [])
      refine Go.step (fun _ k => XS.aloadN X13.here hx rfl (hb hby d6_123) rfl rfl k) ?_
      show Go _ _ _ _ _ _ _ T13 (mkF m 124 #[.val (.ref q), .val (.double (T lam)), .second, .val (.int (Lp lam)), .val (.int (1 : Int32)), .val (.int (1 : Int32))] [(.ref q)])
      obtain ⟨T25, X25, e25, st25⟩ := getF X13 hx hZ hown (host := "") (Or.inl (hw _ (List.mem_of_getElem? (i := 19) rfl))) Via.refl e13 F_times_q_12 (g := (mkF m 124 #[.val (.ref q), .val (.double (T lam)), .second, .val (.int (Lp lam)), .val (.int (1 : Int32)), .val (.int (1 : Int32))] [(.ref q)])) rfl rfl (hb hby d6_124)
      refine Go.step st25 ?_
      show Go _ _ _ _ _ _ _ T25 (mkF m 127 #[.val (.ref q), .val (.double (T lam)), .second, .val (.int (Lp lam)), .val (.int (1 : Int32)), .val (.int (1 : Int32))] [(.ref u)])
      refine Go.step (fun _ k => XS.iload X25.here hx rfl (hb hby d6_127) rfl k) ?_
      show Go _ _ _ _ _ _ _ T25 (mkF m 129 #[.val (.ref q), .val (.double (T lam)), .second, .val (.int (Lp lam)), .val (.int (1 : Int32)), .val (.int (1 : Int32))] [(.int (1 : Int32)), (.ref u)])
      refine Go.step (fun _ k => XS.dloadN X25.here hx rfl (hb hby d6_129) rfl k) ?_
      show Go _ _ _ _ _ _ _ T25 (mkF m 130 #[.val (.ref q), .val (.double (T lam)), .second, .val (.int (Lp lam)), .val (.int (1 : Int32)), .val (.int (1 : Int32))] [(.double (T lam)), (.int (1 : Int32)), (.ref u)])
      refine Go.dastore X25 hx hZ e25 V_u_12 (j := (1 : Int32)) (x := (T lam)) (by decide) (hb hby d6_130) ?_
      intro T26 h26 X26 e26 W26 Vn26
      have V_u_26 : Dv Z h26 u (64 : Int32) (updN (updN g 3 (T (a 1))) 1 (T lam)) := Vn26
      have N26 := Fr.snoc X26 N12 ge_u
      have E_q_26 := E_q_12.wr W26
      have F_size_q_26 := F_size_q_12.other W26 (Or.inl ne_q_u)
      have F_times_q_26 := F_times_q_12.other W26 (Or.inl ne_q_u)
      have F_lightpaths_q_26 := F_lightpaths_q_12.other W26 (Or.inl ne_q_u)
      have V_v_26 := V_v_12.other W26 (Ne.symm ne_u_v)
      have K26 : Keep h0 h26 [q, u, v] := K12.wr W26 (Or.inl (List.mem_of_getElem? (i := 1) rfl))
      show Go _ _ _ _ _ _ _ T26 (mkF m 131 #[.val (.ref q), .val (.double (T lam)), .second, .val (.int (Lp lam)), .val (.int (1 : Int32)), .val (.int (1 : Int32))] [])
      refine Go.step (fun _ k => XS.aloadN X26.here hx rfl (hb hby d6_131) rfl rfl k) ?_
      show Go _ _ _ _ _ _ _ T26 (mkF m 132 #[.val (.ref q), .val (.double (T lam)), .second, .val (.int (Lp lam)), .val (.int (1 : Int32)), .val (.int (1 : Int32))] [(.ref q)])
      obtain ⟨T27, X27, e27, st27⟩ := getF X26 hx hZ hown (host := "") (Or.inl (hw _ (List.mem_of_getElem? (i := 21) rfl))) Via.refl e26 F_lightpaths_q_26 (g := (mkF m 132 #[.val (.ref q), .val (.double (T lam)), .second, .val (.int (Lp lam)), .val (.int (1 : Int32)), .val (.int (1 : Int32))] [(.ref q)])) rfl rfl (hb hby d6_132)
      refine Go.step st27 ?_
      show Go _ _ _ _ _ _ _ T27 (mkF m 135 #[.val (.ref q), .val (.double (T lam)), .second, .val (.int (Lp lam)), .val (.int (1 : Int32)), .val (.int (1 : Int32))] [(.ref v)])
      refine Go.step (fun _ k => XS.iload X27.here hx rfl (hb hby d6_135) rfl k) ?_
      show Go _ _ _ _ _ _ _ T27 (mkF m 137 #[.val (.ref q), .val (.double (T lam)), .second, .val (.int (Lp lam)), .val (.int (1 : Int32)), .val (.int (1 : Int32))] [(.int (1 : Int32)), (.ref v)])
      refine Go.step (fun _ k => XS.iloadN X27.here hx rfl (hb hby d6_137) rfl k) ?_
      show Go _ _ _ _ _ _ _ T27 (mkF m 138 #[.val (.ref q), .val (.double (T lam)), .second, .val (.int (Lp lam)), .val (.int (1 : Int32)), .val (.int (1 : Int32))] [(.int (Lp lam)), (.int (1 : Int32)), (.ref v)])
      refine Go.iastore X27 hx hZ e27 V_v_26 (j := (1 : Int32)) (x := (Lp lam)) (by decide) (hb hby d6_138) ?_
      intro T28 h28 X28 e28 W28 Vn28
      have V_v_28 : Iv Z h28 v (64 : Int32) (updN (updN l' 3 (Lp (a 1))) 1 (Lp lam)) := Vn28
      have N28 := Fr.snoc X28 N26 ge_v
      have E_q_28 := E_q_26.wr W28
      have F_size_q_28 := F_size_q_26.other W28 (Or.inl ne_q_v)
      have F_times_q_28 := F_times_q_26.other W28 (Or.inl ne_q_v)
      have F_lightpaths_q_28 := F_lightpaths_q_26.other W28 (Or.inl ne_q_v)
      have V_u_28 := V_u_26.other W28 ne_u_v
      have K28 : Keep h0 h28 [q, u, v] := K26.wr W28 (Or.inl (List.mem_of_getElem? (i := 2) rfl))
      show Go _ _ _ _ _ _ _ T28 (mkF m 139 #[.val (.ref q), .val (.double (T lam)), .second, .val (.int (Lp lam)), .val (.int (1 : Int32)), .val (.int (1 : Int32))] [])
      refine Go.retV X28 hx hlk hret (hb hby d6_139) (by decide) (by decide) ?_
      try rw [e28]
      have := own_gtK hT hd77_6
      have := own_ngtK hT hd77_14
      refine ⟨rfl, N28, K28, E_q_28, F_size_q_28, F_times_q_28, F_lightpaths_q_28, _, _, (updN (updN a 3 (a 1)) 1 lam), V_u_28, V_v_28, fun i hi' => by rcases (by omega : i = 0 ∨ i = 1 ∨ i = 2 ∨ i = 3) with rfl | rfl | rfl | rfl <;> first | rfl | simp [updN, hg0, hg1, hg2, hl0, hl1, hl2], fun i hi' => by rcases (by omega : i = 0 ∨ i = 1 ∨ i = 2 ∨ i = 3) with rfl | rfl | rfl | rfl <;> first | rfl | simp [updN, hg0, hg1, hg2, hl0, hl1, hl2], ?_, ?_, fun P hP hP' => ?_⟩
      · simp only [HI, updN]; try simp; try omega
      · intro w; simp [sumA, updN]; try omega
      · intro i hi'; rcases (by omega : i = 0 ∨ i = 1 ∨ i = 2 ∨ i = 3) with rfl | rfl | rfl | rfl <;> simp [updN] <;> first | exact hP' | exact hP _ (by decide)
  · refine Go.step (fun _ k => XS.ifYes X5.here hx rfl (pc0 := 77) (pc' := 123) rfl (hb hby d6_77) rfl (gt_n hd77_6) (by decide) (by decide) k) ?_
    show Go _ _ _ _ _ _ _ T5 (mkF m 123 #[.val (.ref q), .val (.double (T lam)), .second, .val (.int (Lp lam)), .val (.int (3 : Int32)), .unset] [])
    refine Go.step (fun _ k => XS.aloadN X5.here hx rfl (hb hby d6_123) rfl rfl k) ?_
    show Go _ _ _ _ _ _ _ T5 (mkF m 124 #[.val (.ref q), .val (.double (T lam)), .second, .val (.int (Lp lam)), .val (.int (3 : Int32)), .unset] [(.ref q)])
    obtain ⟨T29, X29, e29, st29⟩ := getF X5 hx hZ hown (host := "") (Or.inl (hw _ (List.mem_of_getElem? (i := 19) rfl))) Via.refl e5 F_times_q_4 (g := (mkF m 124 #[.val (.ref q), .val (.double (T lam)), .second, .val (.int (Lp lam)), .val (.int (3 : Int32)), .unset] [(.ref q)])) rfl rfl (hb hby d6_124)
    refine Go.step st29 ?_
    show Go _ _ _ _ _ _ _ T29 (mkF m 127 #[.val (.ref q), .val (.double (T lam)), .second, .val (.int (Lp lam)), .val (.int (3 : Int32)), .unset] [(.ref u)])
    refine Go.step (fun _ k => XS.iload X29.here hx rfl (hb hby d6_127) rfl k) ?_
    show Go _ _ _ _ _ _ _ T29 (mkF m 129 #[.val (.ref q), .val (.double (T lam)), .second, .val (.int (Lp lam)), .val (.int (3 : Int32)), .unset] [(.int (3 : Int32)), (.ref u)])
    refine Go.step (fun _ k => XS.dloadN X29.here hx rfl (hb hby d6_129) rfl k) ?_
    show Go _ _ _ _ _ _ _ T29 (mkF m 130 #[.val (.ref q), .val (.double (T lam)), .second, .val (.int (Lp lam)), .val (.int (3 : Int32)), .unset] [(.double (T lam)), (.int (3 : Int32)), (.ref u)])
    refine Go.dastore X29 hx hZ e29 V_u_4 (j := (3 : Int32)) (x := (T lam)) (by decide) (hb hby d6_130) ?_
    intro T30 h30 X30 e30 W30 Vn30
    have V_u_30 : Dv Z h30 u (64 : Int32) (updN g 3 (T lam)) := Vn30
    have N30 := Fr.snoc X30 N4 ge_u
    have E_q_30 := E_q_4.wr W30
    have F_size_q_30 := F_size_q_4.other W30 (Or.inl ne_q_u)
    have F_times_q_30 := F_times_q_4.other W30 (Or.inl ne_q_u)
    have F_lightpaths_q_30 := F_lightpaths_q_4.other W30 (Or.inl ne_q_u)
    have V_v_30 := V_v_4.other W30 (Ne.symm ne_u_v)
    have K30 : Keep h0 h30 [q, u, v] := K4.wr W30 (Or.inl (List.mem_of_getElem? (i := 1) rfl))
    show Go _ _ _ _ _ _ _ T30 (mkF m 131 #[.val (.ref q), .val (.double (T lam)), .second, .val (.int (Lp lam)), .val (.int (3 : Int32)), .unset] [])
    refine Go.step (fun _ k => XS.aloadN X30.here hx rfl (hb hby d6_131) rfl rfl k) ?_
    show Go _ _ _ _ _ _ _ T30 (mkF m 132 #[.val (.ref q), .val (.double (T lam)), .second, .val (.int (Lp lam)), .val (.int (3 : Int32)), .unset] [(.ref q)])
    obtain ⟨T31, X31, e31, st31⟩ := getF X30 hx hZ hown (host := "") (Or.inl (hw _ (List.mem_of_getElem? (i := 21) rfl))) Via.refl e30 F_lightpaths_q_30 (g := (mkF m 132 #[.val (.ref q), .val (.double (T lam)), .second, .val (.int (Lp lam)), .val (.int (3 : Int32)), .unset] [(.ref q)])) rfl rfl (hb hby d6_132)
    refine Go.step st31 ?_
    show Go _ _ _ _ _ _ _ T31 (mkF m 135 #[.val (.ref q), .val (.double (T lam)), .second, .val (.int (Lp lam)), .val (.int (3 : Int32)), .unset] [(.ref v)])
    refine Go.step (fun _ k => XS.iload X31.here hx rfl (hb hby d6_135) rfl k) ?_
    show Go _ _ _ _ _ _ _ T31 (mkF m 137 #[.val (.ref q), .val (.double (T lam)), .second, .val (.int (Lp lam)), .val (.int (3 : Int32)), .unset] [(.int (3 : Int32)), (.ref v)])
    refine Go.step (fun _ k => XS.iloadN X31.here hx rfl (hb hby d6_137) rfl k) ?_
    show Go _ _ _ _ _ _ _ T31 (mkF m 138 #[.val (.ref q), .val (.double (T lam)), .second, .val (.int (Lp lam)), .val (.int (3 : Int32)), .unset] [(.int (Lp lam)), (.int (3 : Int32)), (.ref v)])
    refine Go.iastore X31 hx hZ e31 V_v_30 (j := (3 : Int32)) (x := (Lp lam)) (by decide) (hb hby d6_138) ?_
    intro T32 h32 X32 e32 W32 Vn32
    have V_v_32 : Iv Z h32 v (64 : Int32) (updN l' 3 (Lp lam)) := Vn32
    have N32 := Fr.snoc X32 N30 ge_v
    have E_q_32 := E_q_30.wr W32
    have F_size_q_32 := F_size_q_30.other W32 (Or.inl ne_q_v)
    have F_times_q_32 := F_times_q_30.other W32 (Or.inl ne_q_v)
    have F_lightpaths_q_32 := F_lightpaths_q_30.other W32 (Or.inl ne_q_v)
    have V_u_32 := V_u_30.other W32 ne_u_v
    have K32 : Keep h0 h32 [q, u, v] := K30.wr W32 (Or.inl (List.mem_of_getElem? (i := 2) rfl))
    show Go _ _ _ _ _ _ _ T32 (mkF m 139 #[.val (.ref q), .val (.double (T lam)), .second, .val (.int (Lp lam)), .val (.int (3 : Int32)), .unset] [])
    refine Go.retV X32 hx hlk hret (hb hby d6_139) (by decide) (by decide) ?_
    try rw [e32]
    have := own_ngtK hT hd77_6
    refine ⟨rfl, N32, K32, E_q_32, F_size_q_32, F_times_q_32, F_lightpaths_q_32, _, _, (updN a 3 lam), V_u_32, V_v_32, fun i hi' => by rcases (by omega : i = 0 ∨ i = 1 ∨ i = 2 ∨ i = 3) with rfl | rfl | rfl | rfl <;> first | rfl | simp [updN, hg0, hg1, hg2, hl0, hl1, hl2], fun i hi' => by rcases (by omega : i = 0 ∨ i = 1 ∨ i = 2 ∨ i = 3) with rfl | rfl | rfl | rfl <;> first | rfl | simp [updN, hg0, hg1, hg2, hl0, hl1, hl2], ?_, ?_, fun P hP hP' => ?_⟩
    · simp only [HI, updN]; try simp; try omega
    · intro w; simp [sumA, updN]; try omega
    · intro i hi'; rcases (by omega : i = 0 ∨ i = 1 ∨ i = 2 ∨ i = 3) with rfl | rfl | rfl | rfl <;> simp [updN] <;> first | exact hP' | exact hP _ (by decide)
theorem ef_rm_add3 (m : MethodId) (q : Addr) (T : Nat → UInt64) (Lp : Nat → Int32) (lam : Nat) : entryFrame m #[(.ref q), (.double (T lam)), (.int (Lp lam))] 6 = mkF m 0 #[.val (.ref q), .val (.double (T lam)), .second, .val (.int (Lp lam)), .unset, .unset] [] := by first | (simp [entryFrame, mkF, argsToLocals, Value.category]; done) | rfl
theorem rm_add3 (l : Launch) (Z : State) (a0 : Array Value) (hw : ∀ d ∈ tables_1, d.before a0 Z = true) (q u v : Addr) (g : Nat → UInt64) (l' : Nat → Int32) (T : Nat → UInt64) (Lp : Nat → Int32) (K : Nat → Int) (a : Nat → Nat) (lam : Nat) (h0 : Heap) (n0 : Nat) (Z0 : n0 ≤ h0.size) (E_q : Exa Z h0 q "com/example/wavegrade/wavegrade/DepartureQueue") (F_size_q : Fld Z h0 q "com/example/wavegrade/wavegrade/DepartureQueue" "size" "I" (.int (3 : Int32))) (F_times_q : Fld Z h0 q "com/example/wavegrade/wavegrade/DepartureQueue" "times" "[D" (.ref u)) (F_lightpaths_q : Fld Z h0 q "com/example/wavegrade/wavegrade/DepartureQueue" "lightpaths" "[I" (.ref v)) (V_u : Dv Z h0 u (64 : Int32) g) (V_v : Iv Z h0 v (64 : Int32) l') (ne_q_u : q ≠ u) (ne_q_v : q ≠ v) (ne_u_v : u ≠ v) (ge_q : n0 ≤ q) (ge_u : n0 ≤ u) (ge_v : n0 ≤ v) (hT : ∀ x y, FP.dcmp (T x) (T y) = some (compare (K x) (K y))) (hg : ∀ i, i < 3 → g i = T (a i)) (hl : ∀ i, i < 3 → l' i = Lp (a i)) (hi : HI K a 3) :
    Con l Z (⟨"com/example/wavegrade/wavegrade/DepartureQueue", "add", "(DI)V"⟩ : MethodName) prog_1_method_4_code 6 none ({ frames := 0, cells := 0, slots := 0, locals := 0 } : Room) #[(.ref q), (.double (T lam)), (.int (Lp lam))] h0 (fun r h L => r = none ∧ Fr n0 L ∧ Keep h0 h [q, u, v] ∧ Exa Z h q "com/example/wavegrade/wavegrade/DepartureQueue" ∧ Fld Z h q "com/example/wavegrade/wavegrade/DepartureQueue" "size" "I" (.int (4 : Int32)) ∧ Fld Z h q "com/example/wavegrade/wavegrade/DepartureQueue" "times" "[D" (.ref u) ∧ Fld Z h q "com/example/wavegrade/wavegrade/DepartureQueue" "lightpaths" "[I" (.ref v) ∧ ∃ (g2 : Nat → UInt64) (l2 : Nat → Int32) (a2 : Nat → Nat), Dv Z h u (64 : Int32) g2 ∧ Iv Z h v (64 : Int32) l2 ∧ (∀ i, i < 4 → g2 i = T (a2 i)) ∧ (∀ i, i < 4 → l2 i = Lp (a2 i)) ∧ HI K a2 4 ∧ (∀ w : Nat → Int, sumA w a2 4 = sumA w a 3 + w lam) ∧ ∀ P : Nat → Prop, (∀ i, i < 3 → P (a i)) → P lam → ∀ i, i < 4 → P (a2 i)) :=
  con_of (plainFor_of_name pn_3) (fun p_ e_ s_ m_ b_ meth_ c_ T_ X_ hx hZ hby hml hown hnm hret hlk e0 => Go.cast (ef_rm_add3 m_ q T Lp lam) (w_add3 q u v g l' T Lp K a lam X_ hx hZ hw hby hml hown hnm hret hlk e0 Z0 (Fr.nil n0) E_q F_size_q F_times_q F_lightpaths_q V_u V_v ne_q_u ne_q_v ne_u_v ge_q ge_u ge_v hT hg hl hi))
theorem d7_0 : decode prog_1_method_5_code 0 = .ok (.aload_n 0, 1) := by decide +kernel
theorem d7_1 : decode prog_1_method_5_code 1 = .ok (.getfield 13, 3) := by decide +kernel
theorem d7_4 : decode prog_1_method_5_code 4 = .ok (.iconst 0, 1) := by decide +kernel
theorem d7_5 : decode prog_1_method_5_code 5 = .ok (.iaload, 1) := by decide +kernel
theorem d7_6 : decode prog_1_method_5_code 6 = .ok (.istore_n 1, 1) := by decide +kernel
theorem d7_7 : decode prog_1_method_5_code 7 = .ok (.aload_n 0, 1) := by decide +kernel
theorem d7_8 : decode prog_1_method_5_code 8 = .ok (.dup, 1) := by decide +kernel
theorem d7_9 : decode prog_1_method_5_code 9 = .ok (.getfield 17, 3) := by decide +kernel
theorem d7_12 : decode prog_1_method_5_code 12 = .ok (.iconst 1, 1) := by decide +kernel
theorem d7_13 : decode prog_1_method_5_code 13 = .ok (.isub, 1) := by decide +kernel
theorem d7_14 : decode prog_1_method_5_code 14 = .ok (.putfield 17, 3) := by decide +kernel
theorem d7_17 : decode prog_1_method_5_code 17 = .ok (.aload_n 0, 1) := by decide +kernel
theorem d7_18 : decode prog_1_method_5_code 18 = .ok (.getfield 7, 3) := by decide +kernel
theorem d7_21 : decode prog_1_method_5_code 21 = .ok (.aload_n 0, 1) := by decide +kernel
theorem d7_22 : decode prog_1_method_5_code 22 = .ok (.getfield 17, 3) := by decide +kernel
theorem d7_25 : decode prog_1_method_5_code 25 = .ok (.daload, 1) := by decide +kernel
theorem d7_26 : decode prog_1_method_5_code 26 = .ok (.dstore_n 2, 1) := by decide +kernel
theorem d7_27 : decode prog_1_method_5_code 27 = .ok (.aload_n 0, 1) := by decide +kernel
theorem d7_28 : decode prog_1_method_5_code 28 = .ok (.getfield 13, 3) := by decide +kernel
theorem d7_31 : decode prog_1_method_5_code 31 = .ok (.aload_n 0, 1) := by decide +kernel
theorem d7_32 : decode prog_1_method_5_code 32 = .ok (.getfield 17, 3) := by decide +kernel
theorem d7_35 : decode prog_1_method_5_code 35 = .ok (.iaload, 1) := by decide +kernel
theorem d7_36 : decode prog_1_method_5_code 36 = .ok (.istore 4, 2) := by decide +kernel
theorem d7_38 : decode prog_1_method_5_code 38 = .ok (.iconst 0, 1) := by decide +kernel
theorem d7_39 : decode prog_1_method_5_code 39 = .ok (.istore 5, 2) := by decide +kernel
theorem d7_41 : decode prog_1_method_5_code 41 = .ok (.iconst 2, 1) := by decide +kernel
theorem d7_42 : decode prog_1_method_5_code 42 = .ok (.iload 5, 2) := by decide +kernel
theorem d7_44 : decode prog_1_method_5_code 44 = .ok (.imul, 1) := by decide +kernel
theorem d7_45 : decode prog_1_method_5_code 45 = .ok (.iconst 1, 1) := by decide +kernel
theorem d7_46 : decode prog_1_method_5_code 46 = .ok (.iadd, 1) := by decide +kernel
theorem d7_47 : decode prog_1_method_5_code 47 = .ok (.istore 6, 2) := by decide +kernel
theorem d7_49 : decode prog_1_method_5_code 49 = .ok (.iload 6, 2) := by decide +kernel
theorem d7_51 : decode prog_1_method_5_code 51 = .ok (.aload_n 0, 1) := by decide +kernel
theorem d7_52 : decode prog_1_method_5_code 52 = .ok (.getfield 17, 3) := by decide +kernel
theorem d7_55 : decode prog_1_method_5_code 55 = .ok (.if_icmp .lt 6, 3) := by decide +kernel
theorem d7_61 : decode prog_1_method_5_code 61 = .ok (.iload 6, 2) := by decide +kernel
theorem d7_63 : decode prog_1_method_5_code 63 = .ok (.iconst 1, 1) := by decide +kernel
theorem d7_64 : decode prog_1_method_5_code 64 = .ok (.iadd, 1) := by decide +kernel
theorem d7_65 : decode prog_1_method_5_code 65 = .ok (.aload_n 0, 1) := by decide +kernel
theorem d7_66 : decode prog_1_method_5_code 66 = .ok (.getfield 17, 3) := by decide +kernel
theorem d7_69 : decode prog_1_method_5_code 69 = .ok (.if_icmp .ge 26, 3) := by decide +kernel
theorem d7_72 : decode prog_1_method_5_code 72 = .ok (.aload_n 0, 1) := by decide +kernel
theorem d7_73 : decode prog_1_method_5_code 73 = .ok (.getfield 7, 3) := by decide +kernel
theorem d7_76 : decode prog_1_method_5_code 76 = .ok (.iload 6, 2) := by decide +kernel
theorem d7_78 : decode prog_1_method_5_code 78 = .ok (.iconst 1, 1) := by decide +kernel
theorem d7_79 : decode prog_1_method_5_code 79 = .ok (.iadd, 1) := by decide +kernel
theorem d7_80 : decode prog_1_method_5_code 80 = .ok (.daload, 1) := by decide +kernel
theorem d7_81 : decode prog_1_method_5_code 81 = .ok (.aload_n 0, 1) := by decide +kernel
theorem d7_82 : decode prog_1_method_5_code 82 = .ok (.getfield 7, 3) := by decide +kernel
theorem d7_85 : decode prog_1_method_5_code 85 = .ok (.iload 6, 2) := by decide +kernel
theorem d7_87 : decode prog_1_method_5_code 87 = .ok (.daload, 1) := by decide +kernel
theorem d7_88 : decode prog_1_method_5_code 88 = .ok (.dcmp .g, 1) := by decide +kernel
theorem d7_89 : decode prog_1_method_5_code 89 = .ok (.ifCond .ge 6, 3) := by decide +kernel
theorem d7_92 : decode prog_1_method_5_code 92 = .ok (.iinc 6 1, 3) := by decide +kernel
theorem d7_95 : decode prog_1_method_5_code 95 = .ok (.aload_n 0, 1) := by decide +kernel
theorem d7_96 : decode prog_1_method_5_code 96 = .ok (.getfield 7, 3) := by decide +kernel
theorem d7_99 : decode prog_1_method_5_code 99 = .ok (.iload 6, 2) := by decide +kernel
theorem d7_101 : decode prog_1_method_5_code 101 = .ok (.daload, 1) := by decide +kernel
theorem d7_102 : decode prog_1_method_5_code 102 = .ok (.dload_n 2, 1) := by decide +kernel
theorem d7_103 : decode prog_1_method_5_code 103 = .ok (.dcmp .l, 1) := by decide +kernel
theorem d7_104 : decode prog_1_method_5_code 104 = .ok (.ifCond .lt 6, 3) := by decide +kernel
theorem d7_107 : decode prog_1_method_5_code 107 = .ok (.goto 38, 3) := by decide +kernel
theorem d7_145 : decode prog_1_method_5_code 145 = .ok (.aload_n 0, 1) := by decide +kernel
theorem d7_146 : decode prog_1_method_5_code 146 = .ok (.getfield 7, 3) := by decide +kernel
theorem d7_149 : decode prog_1_method_5_code 149 = .ok (.iload 5, 2) := by decide +kernel
theorem d7_151 : decode prog_1_method_5_code 151 = .ok (.dload_n 2, 1) := by decide +kernel
theorem d7_152 : decode prog_1_method_5_code 152 = .ok (.dastore, 1) := by decide +kernel
theorem d7_153 : decode prog_1_method_5_code 153 = .ok (.aload_n 0, 1) := by decide +kernel
theorem d7_154 : decode prog_1_method_5_code 154 = .ok (.getfield 13, 3) := by decide +kernel
theorem d7_157 : decode prog_1_method_5_code 157 = .ok (.iload 5, 2) := by decide +kernel
theorem d7_159 : decode prog_1_method_5_code 159 = .ok (.iload 4, 2) := by decide +kernel
theorem d7_161 : decode prog_1_method_5_code 161 = .ok (.iastore, 1) := by decide +kernel
theorem d7_162 : decode prog_1_method_5_code 162 = .ok (.iload_n 1, 1) := by decide +kernel
theorem d7_163 : decode prog_1_method_5_code 163 = .ok (.ireturn, 1) := by decide +kernel
theorem d7_110 : decode prog_1_method_5_code 110 = .ok (.aload_n 0, 1) := by decide +kernel
theorem d7_111 : decode prog_1_method_5_code 111 = .ok (.getfield 7, 3) := by decide +kernel
theorem d7_114 : decode prog_1_method_5_code 114 = .ok (.iload 5, 2) := by decide +kernel
theorem d7_116 : decode prog_1_method_5_code 116 = .ok (.aload_n 0, 1) := by decide +kernel
theorem d7_117 : decode prog_1_method_5_code 117 = .ok (.getfield 7, 3) := by decide +kernel
theorem d7_120 : decode prog_1_method_5_code 120 = .ok (.iload 6, 2) := by decide +kernel
theorem d7_122 : decode prog_1_method_5_code 122 = .ok (.daload, 1) := by decide +kernel
theorem d7_123 : decode prog_1_method_5_code 123 = .ok (.dastore, 1) := by decide +kernel
theorem d7_124 : decode prog_1_method_5_code 124 = .ok (.aload_n 0, 1) := by decide +kernel
theorem d7_125 : decode prog_1_method_5_code 125 = .ok (.getfield 13, 3) := by decide +kernel
theorem d7_128 : decode prog_1_method_5_code 128 = .ok (.iload 5, 2) := by decide +kernel
theorem d7_130 : decode prog_1_method_5_code 130 = .ok (.aload_n 0, 1) := by decide +kernel
theorem d7_131 : decode prog_1_method_5_code 131 = .ok (.getfield 13, 3) := by decide +kernel
theorem d7_134 : decode prog_1_method_5_code 134 = .ok (.iload 6, 2) := by decide +kernel
theorem d7_136 : decode prog_1_method_5_code 136 = .ok (.iaload, 1) := by decide +kernel
theorem d7_137 : decode prog_1_method_5_code 137 = .ok (.iastore, 1) := by decide +kernel
theorem d7_138 : decode prog_1_method_5_code 138 = .ok (.iload 6, 2) := by decide +kernel
theorem d7_140 : decode prog_1_method_5_code 140 = .ok (.istore 5, 2) := by decide +kernel
theorem d7_142 : decode prog_1_method_5_code 142 = .ok (.goto (-101), 3) := by decide +kernel
theorem d7_58 : decode prog_1_method_5_code 58 = .ok (.goto 87, 3) := by decide +kernel
set_option maxRecDepth 65536 in
set_option maxHeartbeats 40000000 in
theorem w_rem4 {p : Program} {l : Launch} {e : Env} {s : State} {m : MethodId} {args : Array Value} {below : List Frame} {meth : Method} {c_ : Code} {T0 : State} {locs : List Loc} {Z : State} {a0 : Array Value} {h0 : Heap} {n0 : Nat} (q u v : Addr) (g : Nat → UInt64) (l' : Nat → Int32) (T : Nat → UInt64) (Lp : Nat → Int32) (K : Nat → Int) (a : Nat → Nat)
    (X0 : Stand p l e ({ frames := 0, cells := 0, slots := 0, locals := 0 } : Room) s m args below meth c_ T0 locs 0 0) (hx : p.tables.exec = Jvm.exec) (hZ : Z.Warmed39 s.vm) (hw : ∀ d ∈ tables_1, d.before a0 Z = true) (hby : c_.code = prog_1_method_5_code) (hml : c_.maxLocals = 7) (hown : s.vm.findClass "com/example/wavegrade/wavegrade/DepartureQueue" = some m.cls) (hnm : meth.name = "removeFirst") (hret : meth.sig.returnType = some .int) (hlk : meth.locks = false) (e0 : T0.heap = h0) (Z0 : n0 ≤ h0.size) (N0 : Fr n0 locs) (E_q : Exa Z h0 q "com/example/wavegrade/wavegrade/DepartureQueue") (F_size_q : Fld Z h0 q "com/example/wavegrade/wavegrade/DepartureQueue" "size" "I" (.int (4 : Int32))) (F_times_q : Fld Z h0 q "com/example/wavegrade/wavegrade/DepartureQueue" "times" "[D" (.ref u)) (F_lightpaths_q : Fld Z h0 q "com/example/wavegrade/wavegrade/DepartureQueue" "lightpaths" "[I" (.ref v)) (V_u : Dv Z h0 u (64 : Int32) g) (V_v : Iv Z h0 v (64 : Int32) l') (ne_q_u : q ≠ u) (ne_q_v : q ≠ v) (ne_u_v : u ≠ v) (ge_q : n0 ≤ q) (ge_u : n0 ≤ u) (ge_v : n0 ≤ v) (hT : ∀ x y, FP.dcmp (T x) (T y) = some (compare (K x) (K y))) (hg : ∀ i, i < 4 → g i = T (a i)) (hl : ∀ i, i < 4 → l' i = Lp (a i)) (hi : HI K a 4) :
    Go p e below s ({ frames := 0, cells := 0, slots := 0, locals := 0 } : Room).cells ({ frames := 0, cells := 0, slots := 0, locals := 0 } : Room).slots (fun r h L => r = some (.int (Lp (a 0))) ∧ Fr n0 L ∧ Keep h0 h [q, u, v] ∧ Exa Z h q "com/example/wavegrade/wavegrade/DepartureQueue" ∧ Fld Z h q "com/example/wavegrade/wavegrade/DepartureQueue" "size" "I" (.int (3 : Int32)) ∧ Fld Z h q "com/example/wavegrade/wavegrade/DepartureQueue" "times" "[D" (.ref u) ∧ Fld Z h q "com/example/wavegrade/wavegrade/DepartureQueue" "lightpaths" "[I" (.ref v) ∧ ∃ (g2 : Nat → UInt64) (l2 : Nat → Int32) (a2 : Nat → Nat), Dv Z h u (64 : Int32) g2 ∧ Iv Z h v (64 : Int32) l2 ∧ (∀ i, i < 3 → g2 i = T (a2 i)) ∧ (∀ i, i < 3 → l2 i = Lp (a2 i)) ∧ HI K a2 3 ∧ ((∀ i, i < 3 → K (a 0) ≤ K (a2 i)) ∧ ∀ w : Nat → Int, sumA w a2 3 + w (a 0) = sumA w a 4) ∧ ∀ P : Nat → Prop, (∀ i, i < 4 → P (a i)) → ∀ i, i < 3 → P (a2 i)) T0 (mkF m 0 #[.val (.ref q), .unset, .unset, .unset, .unset, .unset, .unset] []) := by
  have hg0 := hg 0 (by decide)
  have hg1 := hg 1 (by decide)
  have hg2 := hg 2 (by decide)
  have hg3 := hg 3 (by decide)
  have hl0 := hl 0 (by decide)
  have hl1 := hl 1 (by decide)
  have hl2 := hl 2 (by decide)
  have hl3 := hl 3 (by decide)
  simp only [HI] at hi
  show Go _ _ _ _ _ _ _ T0 (mkF m 0 #[.val (.ref q), .unset, .unset, .unset, .unset, .unset, .unset] [])
  refine Go.step (fun _ k => XS.aloadN X0.here hx rfl (hb hby d7_0) rfl rfl k) ?_
  show Go _ _ _ _ _ _ _ T0 (mkF m 1 #[.val (.ref q), .unset, .unset, .unset, .unset, .unset, .unset] [(.ref q)])
  obtain ⟨T1, X1, e1, st1⟩ := getF X0 hx hZ hown (host := "") (Or.inl (hw _ (List.mem_of_getElem? (i := 21) rfl))) Via.refl e0 F_lightpaths_q (g := (mkF m 1 #[.val (.ref q), .unset, .unset, .unset, .unset, .unset, .unset] [(.ref q)])) rfl rfl (hb hby d7_1)
  refine Go.step st1 ?_
  show Go _ _ _ _ _ _ _ T1 (mkF m 4 #[.val (.ref q), .unset, .unset, .unset, .unset, .unset, .unset] [(.ref v)])
  refine Go.step (fun _ k => XS.iconst X1.here hx rfl (hb hby d7_4) k) ?_
  show Go _ _ _ _ _ _ _ T1 (mkF m 5 #[.val (.ref q), .unset, .unset, .unset, .unset, .unset, .unset] [(.int (0 : Int32)), (.ref v)])
  refine Go.iaload X1 hx hZ e1 V_v (j := (0 : Int32)) (v := (Lp (a 0))) (by decide) (by first | rfl | simp [updN, hg0, hg1, hg2, hg3, hl0, hl1, hl2, hl3]) (hb hby d7_5) ?_
  show Go _ _ _ _ _ _ _ T1 (mkF m 6 #[.val (.ref q), .unset, .unset, .unset, .unset, .unset, .unset] [(.int (Lp (a 0)))])
  refine Go.step (fun _ k => XS.istoreN X1.here hx rfl (hb hby d7_6) rfl (l' := #[.val (.ref q), .val (.int (Lp (a 0))), .unset, .unset, .unset, .unset, .unset]) rfl k) ?_
  show Go _ _ _ _ _ _ _ T1 (mkF m 7 #[.val (.ref q), .val (.int (Lp (a 0))), .unset, .unset, .unset, .unset, .unset] [])
  refine Go.step (fun _ k => XS.aloadN X1.here hx rfl (hb hby d7_7) rfl rfl k) ?_
  show Go _ _ _ _ _ _ _ T1 (mkF m 8 #[.val (.ref q), .val (.int (Lp (a 0))), .unset, .unset, .unset, .unset, .unset] [(.ref q)])
  refine Go.step (fun _ k => XS.dup X1.here hx rfl (hb hby d7_8) rfl rfl k) ?_
  show Go _ _ _ _ _ _ _ T1 (mkF m 9 #[.val (.ref q), .val (.int (Lp (a 0))), .unset, .unset, .unset, .unset, .unset] [(.ref q), (.ref q)])
  obtain ⟨T2, X2, e2, st2⟩ := getF X1 hx hZ hown (host := "") (Or.inl (hw _ (List.mem_of_getElem? (i := 28) rfl))) Via.refl e1 F_size_q (g := (mkF m 9 #[.val (.ref q), .val (.int (Lp (a 0))), .unset, .unset, .unset, .unset, .unset] [(.ref q), (.ref q)])) rfl rfl (hb hby d7_9)
  refine Go.step st2 ?_
  show Go _ _ _ _ _ _ _ T2 (mkF m 12 #[.val (.ref q), .val (.int (Lp (a 0))), .unset, .unset, .unset, .unset, .unset] [(.int (4 : Int32)), (.ref q)])
  refine Go.step (fun _ k => XS.iconst X2.here hx rfl (hb hby d7_12) k) ?_
  show Go _ _ _ _ _ _ _ T2 (mkF m 13 #[.val (.ref q), .val (.int (Lp (a 0))), .unset, .unset, .unset, .unset, .unset] [(.int (1 : Int32)), (.int (4 : Int32)), (.ref q)])
  refine Go.step (fun _ k => XS.isub X2.here hx rfl (hb hby d7_13) rfl k) ?_
  show Go _ _ _ _ _ _ _ T2 (mkF m 14 #[.val (.ref q), .val (.int (Lp (a 0))), .unset, .unset, .unset, .unset, .unset] [(.int (3 : Int32)), (.ref q)])
  obtain ⟨T3, h3, X3, e3, W3, st3⟩ := putF X2 hx hZ hown (host := "") (Or.inl (hw _ (List.mem_of_getElem? (i := 28) rfl))) Via.refl e2 F_size_q E_q (Or.inl (hw _ (List.mem_of_getElem? (i := 29) rfl))) (hw _ (List.mem_of_getElem? (i := 10) rfl)) (ty := .int) (by decide) rfl rfl (g := (mkF m 14 #[.val (.ref q), .val (.int (Lp (a 0))), .unset, .unset, .unset, .unset, .unset] [(.int (3 : Int32)), (.ref q)])) rfl rfl (hb hby d7_14)
  refine Go.step st3 ?_
  have N3 := Fr.snoc X3 N0 ge_q
  have F_size_q_3 := F_size_q.same W3
  have E_q_3 := E_q.wr W3
  have F_times_q_3 := F_times_q.other W3 (Or.inr (slot_ne (Or.inl (hw _ (List.mem_of_getElem? (i := 20) rfl))) (Or.inl (hw _ (List.mem_of_getElem? (i := 29) rfl))) (by decide) (t := (.array .double)) (t' := .int) (by decide) (by decide)))
  have F_lightpaths_q_3 := F_lightpaths_q.other W3 (Or.inr (slot_ne (Or.inl (hw _ (List.mem_of_getElem? (i := 22) rfl))) (Or.inl (hw _ (List.mem_of_getElem? (i := 29) rfl))) (by decide) (t := (.array .int)) (t' := .int) (by decide) (by decide)))
  have V_u_3 := V_u.other W3 (Ne.symm ne_q_u)
  have V_v_3 := V_v.other W3 (Ne.symm ne_q_v)
  have K3 : Keep h0 h3 [q, u, v] := (Keep.refl h0 [q, u, v]).wr W3 (Or.inl (List.mem_of_getElem? (i := 0) rfl))
  show Go _ _ _ _ _ _ _ T3 (mkF m 17 #[.val (.ref q), .val (.int (Lp (a 0))), .unset, .unset, .unset, .unset, .unset] [])
  refine Go.step (fun _ k => XS.aloadN X3.here hx rfl (hb hby d7_17) rfl rfl k) ?_
  show Go _ _ _ _ _ _ _ T3 (mkF m 18 #[.val (.ref q), .val (.int (Lp (a 0))), .unset, .unset, .unset, .unset, .unset] [(.ref q)])
  obtain ⟨T4, X4, e4, st4⟩ := getF X3 hx hZ hown (host := "") (Or.inl (hw _ (List.mem_of_getElem? (i := 19) rfl))) Via.refl e3 F_times_q_3 (g := (mkF m 18 #[.val (.ref q), .val (.int (Lp (a 0))), .unset, .unset, .unset, .unset, .unset] [(.ref q)])) rfl rfl (hb hby d7_18)
  refine Go.step st4 ?_
  show Go _ _ _ _ _ _ _ T4 (mkF m 21 #[.val (.ref q), .val (.int (Lp (a 0))), .unset, .unset, .unset, .unset, .unset] [(.ref u)])
  refine Go.step (fun _ k => XS.aloadN X4.here hx rfl (hb hby d7_21) rfl rfl k) ?_
  show Go _ _ _ _ _ _ _ T4 (mkF m 22 #[.val (.ref q), .val (.int (Lp (a 0))), .unset, .unset, .unset, .unset, .unset] [(.ref q), (.ref u)])
  obtain ⟨T5, X5, e5, st5⟩ := getF X4 hx hZ hown (host := "") (Or.inl (hw _ (List.mem_of_getElem? (i := 28) rfl))) Via.refl e4 F_size_q_3 (g := (mkF m 22 #[.val (.ref q), .val (.int (Lp (a 0))), .unset, .unset, .unset, .unset, .unset] [(.ref q), (.ref u)])) rfl rfl (hb hby d7_22)
  refine Go.step st5 ?_
  show Go _ _ _ _ _ _ _ T5 (mkF m 25 #[.val (.ref q), .val (.int (Lp (a 0))), .unset, .unset, .unset, .unset, .unset] [(.int (3 : Int32)), (.ref u)])
  refine Go.daload X5 hx hZ e5 V_u_3 (j := (3 : Int32)) (v := (T (a 3))) (by decide) (by first | rfl | simp [updN, hg0, hg1, hg2, hg3, hl0, hl1, hl2, hl3]) (hb hby d7_25) ?_
  show Go _ _ _ _ _ _ _ T5 (mkF m 26 #[.val (.ref q), .val (.int (Lp (a 0))), .unset, .unset, .unset, .unset, .unset] [(.double (T (a 3)))])
  refine Go.step (fun _ k => XS.dstoreN X5.here hx rfl (hb hby d7_26) rfl (l' := #[.val (.ref q), .val (.int (Lp (a 0))), .val (.double (T (a 3))), .second, .unset, .unset, .unset]) rfl k) ?_
  show Go _ _ _ _ _ _ _ T5 (mkF m 27 #[.val (.ref q), .val (.int (Lp (a 0))), .val (.double (T (a 3))), .second, .unset, .unset, .unset] [])
  refine Go.step (fun _ k => XS.aloadN X5.here hx rfl (hb hby d7_27) rfl rfl k) ?_
  show Go _ _ _ _ _ _ _ T5 (mkF m 28 #[.val (.ref q), .val (.int (Lp (a 0))), .val (.double (T (a 3))), .second, .unset, .unset, .unset] [(.ref q)])
  obtain ⟨T6, X6, e6, st6⟩ := getF X5 hx hZ hown (host := "") (Or.inl (hw _ (List.mem_of_getElem? (i := 21) rfl))) Via.refl e5 F_lightpaths_q_3 (g := (mkF m 28 #[.val (.ref q), .val (.int (Lp (a 0))), .val (.double (T (a 3))), .second, .unset, .unset, .unset] [(.ref q)])) rfl rfl (hb hby d7_28)
  refine Go.step st6 ?_
  show Go _ _ _ _ _ _ _ T6 (mkF m 31 #[.val (.ref q), .val (.int (Lp (a 0))), .val (.double (T (a 3))), .second, .unset, .unset, .unset] [(.ref v)])
  refine Go.step (fun _ k => XS.aloadN X6.here hx rfl (hb hby d7_31) rfl rfl k) ?_
  show Go _ _ _ _ _ _ _ T6 (mkF m 32 #[.val (.ref q), .val (.int (Lp (a 0))), .val (.double (T (a 3))), .second, .unset, .unset, .unset] [(.ref q), (.ref v)])
  obtain ⟨T7, X7, e7, st7⟩ := getF X6 hx hZ hown (host := "") (Or.inl (hw _ (List.mem_of_getElem? (i := 28) rfl))) Via.refl e6 F_size_q_3 (g := (mkF m 32 #[.val (.ref q), .val (.int (Lp (a 0))), .val (.double (T (a 3))), .second, .unset, .unset, .unset] [(.ref q), (.ref v)])) rfl rfl (hb hby d7_32)
  refine Go.step st7 ?_
  show Go _ _ _ _ _ _ _ T7 (mkF m 35 #[.val (.ref q), .val (.int (Lp (a 0))), .val (.double (T (a 3))), .second, .unset, .unset, .unset] [(.int (3 : Int32)), (.ref v)])
  refine Go.iaload X7 hx hZ e7 V_v_3 (j := (3 : Int32)) (v := (Lp (a 3))) (by decide) (by first | rfl | simp [updN, hg0, hg1, hg2, hg3, hl0, hl1, hl2, hl3]) (hb hby d7_35) ?_
  show Go _ _ _ _ _ _ _ T7 (mkF m 36 #[.val (.ref q), .val (.int (Lp (a 0))), .val (.double (T (a 3))), .second, .unset, .unset, .unset] [(.int (Lp (a 3)))])
  refine Go.step (fun _ k => XS.istore X7.here hx rfl (hb hby d7_36) rfl (l' := #[.val (.ref q), .val (.int (Lp (a 0))), .val (.double (T (a 3))), .second, .val (.int (Lp (a 3))), .unset, .unset]) rfl k) ?_
  show Go _ _ _ _ _ _ _ T7 (mkF m 38 #[.val (.ref q), .val (.int (Lp (a 0))), .val (.double (T (a 3))), .second, .val (.int (Lp (a 3))), .unset, .unset] [])
  refine Go.step (fun _ k => XS.iconst X7.here hx rfl (hb hby d7_38) k) ?_
  show Go _ _ _ _ _ _ _ T7 (mkF m 39 #[.val (.ref q), .val (.int (Lp (a 0))), .val (.double (T (a 3))), .second, .val (.int (Lp (a 3))), .unset, .unset] [(.int (0 : Int32))])
  refine Go.step (fun _ k => XS.istore X7.here hx rfl (hb hby d7_39) rfl (l' := #[.val (.ref q), .val (.int (Lp (a 0))), .val (.double (T (a 3))), .second, .val (.int (Lp (a 3))), .val (.int (0 : Int32)), .unset]) rfl k) ?_
  show Go _ _ _ _ _ _ _ T7 (mkF m 41 #[.val (.ref q), .val (.int (Lp (a 0))), .val (.double (T (a 3))), .second, .val (.int (Lp (a 3))), .val (.int (0 : Int32)), .unset] [])
  refine Go.step (fun _ k => XS.iconst X7.here hx rfl (hb hby d7_41) k) ?_
  show Go _ _ _ _ _ _ _ T7 (mkF m 42 #[.val (.ref q), .val (.int (Lp (a 0))), .val (.double (T (a 3))), .second, .val (.int (Lp (a 3))), .val (.int (0 : Int32)), .unset] [(.int (2 : Int32))])
  refine Go.step (fun _ k => XS.iload X7.here hx rfl (hb hby d7_42) rfl k) ?_
  show Go _ _ _ _ _ _ _ T7 (mkF m 44 #[.val (.ref q), .val (.int (Lp (a 0))), .val (.double (T (a 3))), .second, .val (.int (Lp (a 3))), .val (.int (0 : Int32)), .unset] [(.int (0 : Int32)), (.int (2 : Int32))])
  refine Go.step (fun _ k => XS.imul X7.here hx rfl (hb hby d7_44) rfl k) ?_
  show Go _ _ _ _ _ _ _ T7 (mkF m 45 #[.val (.ref q), .val (.int (Lp (a 0))), .val (.double (T (a 3))), .second, .val (.int (Lp (a 3))), .val (.int (0 : Int32)), .unset] [(.int (0 : Int32))])
  refine Go.step (fun _ k => XS.iconst X7.here hx rfl (hb hby d7_45) k) ?_
  show Go _ _ _ _ _ _ _ T7 (mkF m 46 #[.val (.ref q), .val (.int (Lp (a 0))), .val (.double (T (a 3))), .second, .val (.int (Lp (a 3))), .val (.int (0 : Int32)), .unset] [(.int (1 : Int32)), (.int (0 : Int32))])
  refine Go.step (fun _ k => XS.iadd X7.here hx rfl (hb hby d7_46) rfl k) ?_
  show Go _ _ _ _ _ _ _ T7 (mkF m 47 #[.val (.ref q), .val (.int (Lp (a 0))), .val (.double (T (a 3))), .second, .val (.int (Lp (a 3))), .val (.int (0 : Int32)), .unset] [(.int (1 : Int32))])
  refine Go.step (fun _ k => XS.istore X7.here hx rfl (hb hby d7_47) rfl (l' := #[.val (.ref q), .val (.int (Lp (a 0))), .val (.double (T (a 3))), .second, .val (.int (Lp (a 3))), .val (.int (0 : Int32)), .val (.int (1 : Int32))]) rfl k) ?_
  show Go _ _ _ _ _ _ _ T7 (mkF m 49 #[.val (.ref q), .val (.int (Lp (a 0))), .val (.double (T (a 3))), .second, .val (.int (Lp (a 3))), .val (.int (0 : Int32)), .val (.int (1 : Int32))] [])
  refine Go.step (fun _ k => XS.iload X7.here hx rfl (hb hby d7_49) rfl k) ?_
  show Go _ _ _ _ _ _ _ T7 (mkF m 51 #[.val (.ref q), .val (.int (Lp (a 0))), .val (.double (T (a 3))), .second, .val (.int (Lp (a 3))), .val (.int (0 : Int32)), .val (.int (1 : Int32))] [(.int (1 : Int32))])
  refine Go.step (fun _ k => XS.aloadN X7.here hx rfl (hb hby d7_51) rfl rfl k) ?_
  show Go _ _ _ _ _ _ _ T7 (mkF m 52 #[.val (.ref q), .val (.int (Lp (a 0))), .val (.double (T (a 3))), .second, .val (.int (Lp (a 3))), .val (.int (0 : Int32)), .val (.int (1 : Int32))] [(.ref q), (.int (1 : Int32))])
  obtain ⟨T8, X8, e8, st8⟩ := getF X7 hx hZ hown (host := "") (Or.inl (hw _ (List.mem_of_getElem? (i := 28) rfl))) Via.refl e7 F_size_q_3 (g := (mkF m 52 #[.val (.ref q), .val (.int (Lp (a 0))), .val (.double (T (a 3))), .second, .val (.int (Lp (a 3))), .val (.int (0 : Int32)), .val (.int (1 : Int32))] [(.ref q), (.int (1 : Int32))])) rfl rfl (hb hby d7_52)
  refine Go.step st8 ?_
  show Go _ _ _ _ _ _ _ T8 (mkF m 55 #[.val (.ref q), .val (.int (Lp (a 0))), .val (.double (T (a 3))), .second, .val (.int (Lp (a 3))), .val (.int (0 : Int32)), .val (.int (1 : Int32))] [(.int (3 : Int32)), (.int (1 : Int32))])
  refine Go.step (fun _ k => XS.icmpYes X8.here hx rfl (pc0 := 55) (pc' := 61) rfl (hb hby d7_55) rfl (tlt (by decide : (1 : Int32) < (3 : Int32))).1 (by decide) (by decide) k) ?_
  show Go _ _ _ _ _ _ _ T8 (mkF m 61 #[.val (.ref q), .val (.int (Lp (a 0))), .val (.double (T (a 3))), .second, .val (.int (Lp (a 3))), .val (.int (0 : Int32)), .val (.int (1 : Int32))] [])
  refine Go.step (fun _ k => XS.iload X8.here hx rfl (hb hby d7_61) rfl k) ?_
  show Go _ _ _ _ _ _ _ T8 (mkF m 63 #[.val (.ref q), .val (.int (Lp (a 0))), .val (.double (T (a 3))), .second, .val (.int (Lp (a 3))), .val (.int (0 : Int32)), .val (.int (1 : Int32))] [(.int (1 : Int32))])
  refine Go.step (fun _ k => XS.iconst X8.here hx rfl (hb hby d7_63) k) ?_
  show Go _ _ _ _ _ _ _ T8 (mkF m 64 #[.val (.ref q), .val (.int (Lp (a 0))), .val (.double (T (a 3))), .second, .val (.int (Lp (a 3))), .val (.int (0 : Int32)), .val (.int (1 : Int32))] [(.int (1 : Int32)), (.int (1 : Int32))])
  refine Go.step (fun _ k => XS.iadd X8.here hx rfl (hb hby d7_64) rfl k) ?_
  show Go _ _ _ _ _ _ _ T8 (mkF m 65 #[.val (.ref q), .val (.int (Lp (a 0))), .val (.double (T (a 3))), .second, .val (.int (Lp (a 3))), .val (.int (0 : Int32)), .val (.int (1 : Int32))] [(.int (2 : Int32))])
  refine Go.step (fun _ k => XS.aloadN X8.here hx rfl (hb hby d7_65) rfl rfl k) ?_
  show Go _ _ _ _ _ _ _ T8 (mkF m 66 #[.val (.ref q), .val (.int (Lp (a 0))), .val (.double (T (a 3))), .second, .val (.int (Lp (a 3))), .val (.int (0 : Int32)), .val (.int (1 : Int32))] [(.ref q), (.int (2 : Int32))])
  obtain ⟨T9, X9, e9, st9⟩ := getF X8 hx hZ hown (host := "") (Or.inl (hw _ (List.mem_of_getElem? (i := 28) rfl))) Via.refl e8 F_size_q_3 (g := (mkF m 66 #[.val (.ref q), .val (.int (Lp (a 0))), .val (.double (T (a 3))), .second, .val (.int (Lp (a 3))), .val (.int (0 : Int32)), .val (.int (1 : Int32))] [(.ref q), (.int (2 : Int32))])) rfl rfl (hb hby d7_66)
  refine Go.step st9 ?_
  show Go _ _ _ _ _ _ _ T9 (mkF m 69 #[.val (.ref q), .val (.int (Lp (a 0))), .val (.double (T (a 3))), .second, .val (.int (Lp (a 3))), .val (.int (0 : Int32)), .val (.int (1 : Int32))] [(.int (3 : Int32)), (.int (2 : Int32))])
  refine Go.step (fun _ k => XS.icmpNo X9.here hx rfl (hb hby d7_69) rfl (tlt (by decide : (2 : Int32) < (3 : Int32))).2.1 k) ?_
  show Go _ _ _ _ _ _ _ T9 (mkF m 72 #[.val (.ref q), .val (.int (Lp (a 0))), .val (.double (T (a 3))), .second, .val (.int (Lp (a 3))), .val (.int (0 : Int32)), .val (.int (1 : Int32))] [])
  refine Go.step (fun _ k => XS.aloadN X9.here hx rfl (hb hby d7_72) rfl rfl k) ?_
  show Go _ _ _ _ _ _ _ T9 (mkF m 73 #[.val (.ref q), .val (.int (Lp (a 0))), .val (.double (T (a 3))), .second, .val (.int (Lp (a 3))), .val (.int (0 : Int32)), .val (.int (1 : Int32))] [(.ref q)])
  obtain ⟨T10, X10, e10, st10⟩ := getF X9 hx hZ hown (host := "") (Or.inl (hw _ (List.mem_of_getElem? (i := 19) rfl))) Via.refl e9 F_times_q_3 (g := (mkF m 73 #[.val (.ref q), .val (.int (Lp (a 0))), .val (.double (T (a 3))), .second, .val (.int (Lp (a 3))), .val (.int (0 : Int32)), .val (.int (1 : Int32))] [(.ref q)])) rfl rfl (hb hby d7_73)
  refine Go.step st10 ?_
  show Go _ _ _ _ _ _ _ T10 (mkF m 76 #[.val (.ref q), .val (.int (Lp (a 0))), .val (.double (T (a 3))), .second, .val (.int (Lp (a 3))), .val (.int (0 : Int32)), .val (.int (1 : Int32))] [(.ref u)])
  refine Go.step (fun _ k => XS.iload X10.here hx rfl (hb hby d7_76) rfl k) ?_
  show Go _ _ _ _ _ _ _ T10 (mkF m 78 #[.val (.ref q), .val (.int (Lp (a 0))), .val (.double (T (a 3))), .second, .val (.int (Lp (a 3))), .val (.int (0 : Int32)), .val (.int (1 : Int32))] [(.int (1 : Int32)), (.ref u)])
  refine Go.step (fun _ k => XS.iconst X10.here hx rfl (hb hby d7_78) k) ?_
  show Go _ _ _ _ _ _ _ T10 (mkF m 79 #[.val (.ref q), .val (.int (Lp (a 0))), .val (.double (T (a 3))), .second, .val (.int (Lp (a 3))), .val (.int (0 : Int32)), .val (.int (1 : Int32))] [(.int (1 : Int32)), (.int (1 : Int32)), (.ref u)])
  refine Go.step (fun _ k => XS.iadd X10.here hx rfl (hb hby d7_79) rfl k) ?_
  show Go _ _ _ _ _ _ _ T10 (mkF m 80 #[.val (.ref q), .val (.int (Lp (a 0))), .val (.double (T (a 3))), .second, .val (.int (Lp (a 3))), .val (.int (0 : Int32)), .val (.int (1 : Int32))] [(.int (2 : Int32)), (.ref u)])
  refine Go.daload X10 hx hZ e10 V_u_3 (j := (2 : Int32)) (v := (T (a 2))) (by decide) (by first | rfl | simp [updN, hg0, hg1, hg2, hg3, hl0, hl1, hl2, hl3]) (hb hby d7_80) ?_
  show Go _ _ _ _ _ _ _ T10 (mkF m 81 #[.val (.ref q), .val (.int (Lp (a 0))), .val (.double (T (a 3))), .second, .val (.int (Lp (a 3))), .val (.int (0 : Int32)), .val (.int (1 : Int32))] [(.double (T (a 2)))])
  refine Go.step (fun _ k => XS.aloadN X10.here hx rfl (hb hby d7_81) rfl rfl k) ?_
  show Go _ _ _ _ _ _ _ T10 (mkF m 82 #[.val (.ref q), .val (.int (Lp (a 0))), .val (.double (T (a 3))), .second, .val (.int (Lp (a 3))), .val (.int (0 : Int32)), .val (.int (1 : Int32))] [(.ref q), (.double (T (a 2)))])
  obtain ⟨T11, X11, e11, st11⟩ := getF X10 hx hZ hown (host := "") (Or.inl (hw _ (List.mem_of_getElem? (i := 19) rfl))) Via.refl e10 F_times_q_3 (g := (mkF m 82 #[.val (.ref q), .val (.int (Lp (a 0))), .val (.double (T (a 3))), .second, .val (.int (Lp (a 3))), .val (.int (0 : Int32)), .val (.int (1 : Int32))] [(.ref q), (.double (T (a 2)))])) rfl rfl (hb hby d7_82)
  refine Go.step st11 ?_
  show Go _ _ _ _ _ _ _ T11 (mkF m 85 #[.val (.ref q), .val (.int (Lp (a 0))), .val (.double (T (a 3))), .second, .val (.int (Lp (a 3))), .val (.int (0 : Int32)), .val (.int (1 : Int32))] [(.ref u), (.double (T (a 2)))])
  refine Go.step (fun _ k => XS.iload X11.here hx rfl (hb hby d7_85) rfl k) ?_
  show Go _ _ _ _ _ _ _ T11 (mkF m 87 #[.val (.ref q), .val (.int (Lp (a 0))), .val (.double (T (a 3))), .second, .val (.int (Lp (a 3))), .val (.int (0 : Int32)), .val (.int (1 : Int32))] [(.int (1 : Int32)), (.ref u), (.double (T (a 2)))])
  refine Go.daload X11 hx hZ e11 V_u_3 (j := (1 : Int32)) (v := (T (a 1))) (by decide) (by first | rfl | simp [updN, hg0, hg1, hg2, hg3, hl0, hl1, hl2, hl3]) (hb hby d7_87) ?_
  show Go _ _ _ _ _ _ _ T11 (mkF m 88 #[.val (.ref q), .val (.int (Lp (a 0))), .val (.double (T (a 3))), .second, .val (.int (Lp (a 3))), .val (.int (0 : Int32)), .val (.int (1 : Int32))] [(.double (T (a 1))), (.double (T (a 2)))])
  refine Go.step (fun _ k => XS.dcmpS X11.here hx rfl (hb hby d7_88) rfl rfl k) ?_
  show Go _ _ _ _ _ _ _ T11 (mkF m 89 #[.val (.ref q), .val (.int (Lp (a 0))), .val (.double (T (a 3))), .second, .val (.int (Lp (a 3))), .val (.int (0 : Int32)), .val (.int (1 : Int32))] [(.int (cmpValue (FP.dcmp (T (a 2)) (T (a 1))) .g))])
  by_cases hd89_12 : FP.dcmp (T (a 2)) (T (a 1)) = some .lt
  · refine Go.step (fun _ k => XS.ifNo X11.here hx rfl (hb hby d7_89) rfl (lt_y hd89_12) k) ?_
    show Go _ _ _ _ _ _ _ T11 (mkF m 92 #[.val (.ref q), .val (.int (Lp (a 0))), .val (.double (T (a 3))), .second, .val (.int (Lp (a 3))), .val (.int (0 : Int32)), .val (.int (1 : Int32))] [])
    refine Go.step (fun _ k => XS.iinc X11.here hx rfl (hb hby d7_92) rfl (l' := #[.val (.ref q), .val (.int (Lp (a 0))), .val (.double (T (a 3))), .second, .val (.int (Lp (a 3))), .val (.int (0 : Int32)), .val (.int (2 : Int32))]) rfl k) ?_
    show Go _ _ _ _ _ _ _ T11 (mkF m 95 #[.val (.ref q), .val (.int (Lp (a 0))), .val (.double (T (a 3))), .second, .val (.int (Lp (a 3))), .val (.int (0 : Int32)), .val (.int (2 : Int32))] [])
    refine Go.step (fun _ k => XS.aloadN X11.here hx rfl (hb hby d7_95) rfl rfl k) ?_
    show Go _ _ _ _ _ _ _ T11 (mkF m 96 #[.val (.ref q), .val (.int (Lp (a 0))), .val (.double (T (a 3))), .second, .val (.int (Lp (a 3))), .val (.int (0 : Int32)), .val (.int (2 : Int32))] [(.ref q)])
    obtain ⟨T13, X13, e13, st13⟩ := getF X11 hx hZ hown (host := "") (Or.inl (hw _ (List.mem_of_getElem? (i := 19) rfl))) Via.refl e11 F_times_q_3 (g := (mkF m 96 #[.val (.ref q), .val (.int (Lp (a 0))), .val (.double (T (a 3))), .second, .val (.int (Lp (a 3))), .val (.int (0 : Int32)), .val (.int (2 : Int32))] [(.ref q)])) rfl rfl (hb hby d7_96)
    refine Go.step st13 ?_
    show Go _ _ _ _ _ _ _ T13 (mkF m 99 #[.val (.ref q), .val (.int (Lp (a 0))), .val (.double (T (a 3))), .second, .val (.int (Lp (a 3))), .val (.int (0 : Int32)), .val (.int (2 : Int32))] [(.ref u)])
    refine Go.step (fun _ k => XS.iload X13.here hx rfl (hb hby d7_99) rfl k) ?_
    show Go _ _ _ _ _ _ _ T13 (mkF m 101 #[.val (.ref q), .val (.int (Lp (a 0))), .val (.double (T (a 3))), .second, .val (.int (Lp (a 3))), .val (.int (0 : Int32)), .val (.int (2 : Int32))] [(.int (2 : Int32)), (.ref u)])
    refine Go.daload X13 hx hZ e13 V_u_3 (j := (2 : Int32)) (v := (T (a 2))) (by decide) (by first | rfl | simp [updN, hg0, hg1, hg2, hg3, hl0, hl1, hl2, hl3]) (hb hby d7_101) ?_
    show Go _ _ _ _ _ _ _ T13 (mkF m 102 #[.val (.ref q), .val (.int (Lp (a 0))), .val (.double (T (a 3))), .second, .val (.int (Lp (a 3))), .val (.int (0 : Int32)), .val (.int (2 : Int32))] [(.double (T (a 2)))])
    refine Go.step (fun _ k => XS.dloadN X13.here hx rfl (hb hby d7_102) rfl k) ?_
    show Go _ _ _ _ _ _ _ T13 (mkF m 103 #[.val (.ref q), .val (.int (Lp (a 0))), .val (.double (T (a 3))), .second, .val (.int (Lp (a 3))), .val (.int (0 : Int32)), .val (.int (2 : Int32))] [(.double (T (a 3))), (.double (T (a 2)))])
    refine Go.step (fun _ k => XS.dcmpS X13.here hx rfl (hb hby d7_103) rfl rfl k) ?_
    show Go _ _ _ _ _ _ _ T13 (mkF m 104 #[.val (.ref q), .val (.int (Lp (a 0))), .val (.double (T (a 3))), .second, .val (.int (Lp (a 3))), .val (.int (0 : Int32)), .val (.int (2 : Int32))] [(.int (cmpValue (FP.dcmp (T (a 2)) (T (a 3))) .l))])
    by_cases hd104_14 : (FP.dcmp (T (a 2)) (T (a 3)) = some .gt ∨ FP.dcmp (T (a 2)) (T (a 3)) = some .eq)
    · refine Go.step (fun _ k => XS.ifNo X13.here hx rfl (hb hby d7_104) rfl (ge_y hd104_14) k) ?_
      show Go _ _ _ _ _ _ _ T13 (mkF m 107 #[.val (.ref q), .val (.int (Lp (a 0))), .val (.double (T (a 3))), .second, .val (.int (Lp (a 3))), .val (.int (0 : Int32)), .val (.int (2 : Int32))] [])
      refine Go.step (fun _ k => XS.goto X13.here hx rfl (pc0 := 107) (pc' := 145) rfl (hb hby d7_107) (by decide) (by decide) k) ?_
      show Go _ _ _ _ _ _ _ T13 (mkF m 145 #[.val (.ref q), .val (.int (Lp (a 0))), .val (.double (T (a 3))), .second, .val (.int (Lp (a 3))), .val (.int (0 : Int32)), .val (.int (2 : Int32))] [])
      refine Go.step (fun _ k => XS.aloadN X13.here hx rfl (hb hby d7_145) rfl rfl k) ?_
      show Go _ _ _ _ _ _ _ T13 (mkF m 146 #[.val (.ref q), .val (.int (Lp (a 0))), .val (.double (T (a 3))), .second, .val (.int (Lp (a 3))), .val (.int (0 : Int32)), .val (.int (2 : Int32))] [(.ref q)])
      obtain ⟨T15, X15, e15, st15⟩ := getF X13 hx hZ hown (host := "") (Or.inl (hw _ (List.mem_of_getElem? (i := 19) rfl))) Via.refl e13 F_times_q_3 (g := (mkF m 146 #[.val (.ref q), .val (.int (Lp (a 0))), .val (.double (T (a 3))), .second, .val (.int (Lp (a 3))), .val (.int (0 : Int32)), .val (.int (2 : Int32))] [(.ref q)])) rfl rfl (hb hby d7_146)
      refine Go.step st15 ?_
      show Go _ _ _ _ _ _ _ T15 (mkF m 149 #[.val (.ref q), .val (.int (Lp (a 0))), .val (.double (T (a 3))), .second, .val (.int (Lp (a 3))), .val (.int (0 : Int32)), .val (.int (2 : Int32))] [(.ref u)])
      refine Go.step (fun _ k => XS.iload X15.here hx rfl (hb hby d7_149) rfl k) ?_
      show Go _ _ _ _ _ _ _ T15 (mkF m 151 #[.val (.ref q), .val (.int (Lp (a 0))), .val (.double (T (a 3))), .second, .val (.int (Lp (a 3))), .val (.int (0 : Int32)), .val (.int (2 : Int32))] [(.int (0 : Int32)), (.ref u)])
      refine Go.step (fun _ k => XS.dloadN X15.here hx rfl (hb hby d7_151) rfl k) ?_
      show Go _ _ _ _ _ _ _ T15 (mkF m 152 #[.val (.ref q), .val (.int (Lp (a 0))), .val (.double (T (a 3))), .second, .val (.int (Lp (a 3))), .val (.int (0 : Int32)), .val (.int (2 : Int32))] [(.double (T (a 3))), (.int (0 : Int32)), (.ref u)])
      refine Go.dastore X15 hx hZ e15 V_u_3 (j := (0 : Int32)) (x := (T (a 3))) (by decide) (hb hby d7_152) ?_
      intro T16 h16 X16 e16 W16 Vn16
      have V_u_16 : Dv Z h16 u (64 : Int32) (updN g 0 (T (a 3))) := Vn16
      have N16 := Fr.snoc X16 N3 ge_u
      have E_q_16 := E_q_3.wr W16
      have F_size_q_16 := F_size_q_3.other W16 (Or.inl ne_q_u)
      have F_times_q_16 := F_times_q_3.other W16 (Or.inl ne_q_u)
      have F_lightpaths_q_16 := F_lightpaths_q_3.other W16 (Or.inl ne_q_u)
      have V_v_16 := V_v_3.other W16 (Ne.symm ne_u_v)
      have K16 : Keep h0 h16 [q, u, v] := K3.wr W16 (Or.inl (List.mem_of_getElem? (i := 1) rfl))
      show Go _ _ _ _ _ _ _ T16 (mkF m 153 #[.val (.ref q), .val (.int (Lp (a 0))), .val (.double (T (a 3))), .second, .val (.int (Lp (a 3))), .val (.int (0 : Int32)), .val (.int (2 : Int32))] [])
      refine Go.step (fun _ k => XS.aloadN X16.here hx rfl (hb hby d7_153) rfl rfl k) ?_
      show Go _ _ _ _ _ _ _ T16 (mkF m 154 #[.val (.ref q), .val (.int (Lp (a 0))), .val (.double (T (a 3))), .second, .val (.int (Lp (a 3))), .val (.int (0 : Int32)), .val (.int (2 : Int32))] [(.ref q)])
      obtain ⟨T17, X17, e17, st17⟩ := getF X16 hx hZ hown (host := "") (Or.inl (hw _ (List.mem_of_getElem? (i := 21) rfl))) Via.refl e16 F_lightpaths_q_16 (g := (mkF m 154 #[.val (.ref q), .val (.int (Lp (a 0))), .val (.double (T (a 3))), .second, .val (.int (Lp (a 3))), .val (.int (0 : Int32)), .val (.int (2 : Int32))] [(.ref q)])) rfl rfl (hb hby d7_154)
      refine Go.step st17 ?_
      show Go _ _ _ _ _ _ _ T17 (mkF m 157 #[.val (.ref q), .val (.int (Lp (a 0))), .val (.double (T (a 3))), .second, .val (.int (Lp (a 3))), .val (.int (0 : Int32)), .val (.int (2 : Int32))] [(.ref v)])
      refine Go.step (fun _ k => XS.iload X17.here hx rfl (hb hby d7_157) rfl k) ?_
      show Go _ _ _ _ _ _ _ T17 (mkF m 159 #[.val (.ref q), .val (.int (Lp (a 0))), .val (.double (T (a 3))), .second, .val (.int (Lp (a 3))), .val (.int (0 : Int32)), .val (.int (2 : Int32))] [(.int (0 : Int32)), (.ref v)])
      refine Go.step (fun _ k => XS.iload X17.here hx rfl (hb hby d7_159) rfl k) ?_
      show Go _ _ _ _ _ _ _ T17 (mkF m 161 #[.val (.ref q), .val (.int (Lp (a 0))), .val (.double (T (a 3))), .second, .val (.int (Lp (a 3))), .val (.int (0 : Int32)), .val (.int (2 : Int32))] [(.int (Lp (a 3))), (.int (0 : Int32)), (.ref v)])
      refine Go.iastore X17 hx hZ e17 V_v_16 (j := (0 : Int32)) (x := (Lp (a 3))) (by decide) (hb hby d7_161) ?_
      intro T18 h18 X18 e18 W18 Vn18
      have V_v_18 : Iv Z h18 v (64 : Int32) (updN l' 0 (Lp (a 3))) := Vn18
      have N18 := Fr.snoc X18 N16 ge_v
      have E_q_18 := E_q_16.wr W18
      have F_size_q_18 := F_size_q_16.other W18 (Or.inl ne_q_v)
      have F_times_q_18 := F_times_q_16.other W18 (Or.inl ne_q_v)
      have F_lightpaths_q_18 := F_lightpaths_q_16.other W18 (Or.inl ne_q_v)
      have V_u_18 := V_u_16.other W18 ne_u_v
      have K18 : Keep h0 h18 [q, u, v] := K16.wr W18 (Or.inl (List.mem_of_getElem? (i := 2) rfl))
      show Go _ _ _ _ _ _ _ T18 (mkF m 162 #[.val (.ref q), .val (.int (Lp (a 0))), .val (.double (T (a 3))), .second, .val (.int (Lp (a 3))), .val (.int (0 : Int32)), .val (.int (2 : Int32))] [])
      refine Go.step (fun _ k => XS.iloadN X18.here hx rfl (hb hby d7_162) rfl k) ?_
      show Go _ _ _ _ _ _ _ T18 (mkF m 163 #[.val (.ref q), .val (.int (Lp (a 0))), .val (.double (T (a 3))), .second, .val (.int (Lp (a 3))), .val (.int (0 : Int32)), .val (.int (2 : Int32))] [(.int (Lp (a 0)))])
      refine Go.retI X18 hx hlk hret (hb hby d7_163) (by decide) (by decide) ?_
      try rw [e18]
      have := own_ltK hT hd89_12
      have := own_geK hT hd104_14
      refine ⟨rfl, N18, K18, E_q_18, F_size_q_18, F_times_q_18, F_lightpaths_q_18, _, _, (updN a 0 (a 3)), V_u_18, V_v_18, fun i hi' => by rcases (by omega : i = 0 ∨ i = 1 ∨ i = 2) with rfl | rfl | rfl <;> first | rfl | simp [updN, hg0, hg1, hg2, hg3, hl0, hl1, hl2, hl3], fun i hi' => by rcases (by omega : i = 0 ∨ i = 1 ∨ i = 2) with rfl | rfl | rfl <;> first | rfl | simp [updN, hg0, hg1, hg2, hg3, hl0, hl1, hl2, hl3], ?_, ?_, fun P hP => ?_⟩
      · simp only [HI, updN]; try simp; try omega
      · exact ⟨fun i hi' => by rcases (by omega : i = 0 ∨ i = 1 ∨ i = 2) with rfl | rfl | rfl <;> simp [updN] <;> omega, fun w => by simp [sumA, updN]; try omega⟩
      · intro i hi'; rcases (by omega : i = 0 ∨ i = 1 ∨ i = 2) with rfl | rfl | rfl <;> simp [updN] <;> exact hP _ (by decide)
    · refine Go.step (fun _ k => XS.ifYes X13.here hx rfl (pc0 := 104) (pc' := 110) rfl (hb hby d7_104) rfl (ge_n hd104_14) (by decide) (by decide) k) ?_
      show Go _ _ _ _ _ _ _ T13 (mkF m 110 #[.val (.ref q), .val (.int (Lp (a 0))), .val (.double (T (a 3))), .second, .val (.int (Lp (a 3))), .val (.int (0 : Int32)), .val (.int (2 : Int32))] [])
      refine Go.step (fun _ k => XS.aloadN X13.here hx rfl (hb hby d7_110) rfl rfl k) ?_
      show Go _ _ _ _ _ _ _ T13 (mkF m 111 #[.val (.ref q), .val (.int (Lp (a 0))), .val (.double (T (a 3))), .second, .val (.int (Lp (a 3))), .val (.int (0 : Int32)), .val (.int (2 : Int32))] [(.ref q)])
      obtain ⟨T19, X19, e19, st19⟩ := getF X13 hx hZ hown (host := "") (Or.inl (hw _ (List.mem_of_getElem? (i := 19) rfl))) Via.refl e13 F_times_q_3 (g := (mkF m 111 #[.val (.ref q), .val (.int (Lp (a 0))), .val (.double (T (a 3))), .second, .val (.int (Lp (a 3))), .val (.int (0 : Int32)), .val (.int (2 : Int32))] [(.ref q)])) rfl rfl (hb hby d7_111)
      refine Go.step st19 ?_
      show Go _ _ _ _ _ _ _ T19 (mkF m 114 #[.val (.ref q), .val (.int (Lp (a 0))), .val (.double (T (a 3))), .second, .val (.int (Lp (a 3))), .val (.int (0 : Int32)), .val (.int (2 : Int32))] [(.ref u)])
      refine Go.step (fun _ k => XS.iload X19.here hx rfl (hb hby d7_114) rfl k) ?_
      show Go _ _ _ _ _ _ _ T19 (mkF m 116 #[.val (.ref q), .val (.int (Lp (a 0))), .val (.double (T (a 3))), .second, .val (.int (Lp (a 3))), .val (.int (0 : Int32)), .val (.int (2 : Int32))] [(.int (0 : Int32)), (.ref u)])
      refine Go.step (fun _ k => XS.aloadN X19.here hx rfl (hb hby d7_116) rfl rfl k) ?_
      show Go _ _ _ _ _ _ _ T19 (mkF m 117 #[.val (.ref q), .val (.int (Lp (a 0))), .val (.double (T (a 3))), .second, .val (.int (Lp (a 3))), .val (.int (0 : Int32)), .val (.int (2 : Int32))] [(.ref q), (.int (0 : Int32)), (.ref u)])
      obtain ⟨T20, X20, e20, st20⟩ := getF X19 hx hZ hown (host := "") (Or.inl (hw _ (List.mem_of_getElem? (i := 19) rfl))) Via.refl e19 F_times_q_3 (g := (mkF m 117 #[.val (.ref q), .val (.int (Lp (a 0))), .val (.double (T (a 3))), .second, .val (.int (Lp (a 3))), .val (.int (0 : Int32)), .val (.int (2 : Int32))] [(.ref q), (.int (0 : Int32)), (.ref u)])) rfl rfl (hb hby d7_117)
      refine Go.step st20 ?_
      show Go _ _ _ _ _ _ _ T20 (mkF m 120 #[.val (.ref q), .val (.int (Lp (a 0))), .val (.double (T (a 3))), .second, .val (.int (Lp (a 3))), .val (.int (0 : Int32)), .val (.int (2 : Int32))] [(.ref u), (.int (0 : Int32)), (.ref u)])
      refine Go.step (fun _ k => XS.iload X20.here hx rfl (hb hby d7_120) rfl k) ?_
      show Go _ _ _ _ _ _ _ T20 (mkF m 122 #[.val (.ref q), .val (.int (Lp (a 0))), .val (.double (T (a 3))), .second, .val (.int (Lp (a 3))), .val (.int (0 : Int32)), .val (.int (2 : Int32))] [(.int (2 : Int32)), (.ref u), (.int (0 : Int32)), (.ref u)])
      refine Go.daload X20 hx hZ e20 V_u_3 (j := (2 : Int32)) (v := (T (a 2))) (by decide) (by first | rfl | simp [updN, hg0, hg1, hg2, hg3, hl0, hl1, hl2, hl3]) (hb hby d7_122) ?_
      show Go _ _ _ _ _ _ _ T20 (mkF m 123 #[.val (.ref q), .val (.int (Lp (a 0))), .val (.double (T (a 3))), .second, .val (.int (Lp (a 3))), .val (.int (0 : Int32)), .val (.int (2 : Int32))] [(.double (T (a 2))), (.int (0 : Int32)), (.ref u)])
      refine Go.dastore X20 hx hZ e20 V_u_3 (j := (0 : Int32)) (x := (T (a 2))) (by decide) (hb hby d7_123) ?_
      intro T21 h21 X21 e21 W21 Vn21
      have V_u_21 : Dv Z h21 u (64 : Int32) (updN g 0 (T (a 2))) := Vn21
      have N21 := Fr.snoc X21 N3 ge_u
      have E_q_21 := E_q_3.wr W21
      have F_size_q_21 := F_size_q_3.other W21 (Or.inl ne_q_u)
      have F_times_q_21 := F_times_q_3.other W21 (Or.inl ne_q_u)
      have F_lightpaths_q_21 := F_lightpaths_q_3.other W21 (Or.inl ne_q_u)
      have V_v_21 := V_v_3.other W21 (Ne.symm ne_u_v)
      have K21 : Keep h0 h21 [q, u, v] := K3.wr W21 (Or.inl (List.mem_of_getElem? (i := 1) rfl))
      show Go _ _ _ _ _ _ _ T21 (mkF m 124 #[.val (.ref q), .val (.int (Lp (a 0))), .val (.double (T (a 3))), .second, .val (.int (Lp (a 3))), .val (.int (0 : Int32)), .val (.int (2 : Int32))] [])
      refine Go.step (fun _ k => XS.aloadN X21.here hx rfl (hb hby d7_124) rfl rfl k) ?_
      show Go _ _ _ _ _ _ _ T21 (mkF m 125 #[.val (.ref q), .val (.int (Lp (a 0))), .val (.double (T (a 3))), .second, .val (.int (Lp (a 3))), .val (.int (0 : Int32)), .val (.int (2 : Int32))] [(.ref q)])
      obtain ⟨T22, X22, e22, st22⟩ := getF X21 hx hZ hown (host := "") (Or.inl (hw _ (List.mem_of_getElem? (i := 21) rfl))) Via.refl e21 F_lightpaths_q_21 (g := (mkF m 125 #[.val (.ref q), .val (.int (Lp (a 0))), .val (.double (T (a 3))), .second, .val (.int (Lp (a 3))), .val (.int (0 : Int32)), .val (.int (2 : Int32))] [(.ref q)])) rfl rfl (hb hby d7_125)
      refine Go.step st22 ?_
      show Go _ _ _ _ _ _ _ T22 (mkF m 128 #[.val (.ref q), .val (.int (Lp (a 0))), .val (.double (T (a 3))), .second, .val (.int (Lp (a 3))), .val (.int (0 : Int32)), .val (.int (2 : Int32))] [(.ref v)])
      refine Go.step (fun _ k => XS.iload X22.here hx rfl (hb hby d7_128) rfl k) ?_
      show Go _ _ _ _ _ _ _ T22 (mkF m 130 #[.val (.ref q), .val (.int (Lp (a 0))), .val (.double (T (a 3))), .second, .val (.int (Lp (a 3))), .val (.int (0 : Int32)), .val (.int (2 : Int32))] [(.int (0 : Int32)), (.ref v)])
      refine Go.step (fun _ k => XS.aloadN X22.here hx rfl (hb hby d7_130) rfl rfl k) ?_
      show Go _ _ _ _ _ _ _ T22 (mkF m 131 #[.val (.ref q), .val (.int (Lp (a 0))), .val (.double (T (a 3))), .second, .val (.int (Lp (a 3))), .val (.int (0 : Int32)), .val (.int (2 : Int32))] [(.ref q), (.int (0 : Int32)), (.ref v)])
      obtain ⟨T23, X23, e23, st23⟩ := getF X22 hx hZ hown (host := "") (Or.inl (hw _ (List.mem_of_getElem? (i := 21) rfl))) Via.refl e22 F_lightpaths_q_21 (g := (mkF m 131 #[.val (.ref q), .val (.int (Lp (a 0))), .val (.double (T (a 3))), .second, .val (.int (Lp (a 3))), .val (.int (0 : Int32)), .val (.int (2 : Int32))] [(.ref q), (.int (0 : Int32)), (.ref v)])) rfl rfl (hb hby d7_131)
      refine Go.step st23 ?_
      show Go _ _ _ _ _ _ _ T23 (mkF m 134 #[.val (.ref q), .val (.int (Lp (a 0))), .val (.double (T (a 3))), .second, .val (.int (Lp (a 3))), .val (.int (0 : Int32)), .val (.int (2 : Int32))] [(.ref v), (.int (0 : Int32)), (.ref v)])
      refine Go.step (fun _ k => XS.iload X23.here hx rfl (hb hby d7_134) rfl k) ?_
      show Go _ _ _ _ _ _ _ T23 (mkF m 136 #[.val (.ref q), .val (.int (Lp (a 0))), .val (.double (T (a 3))), .second, .val (.int (Lp (a 3))), .val (.int (0 : Int32)), .val (.int (2 : Int32))] [(.int (2 : Int32)), (.ref v), (.int (0 : Int32)), (.ref v)])
      refine Go.iaload X23 hx hZ e23 V_v_21 (j := (2 : Int32)) (v := (Lp (a 2))) (by decide) (by first | rfl | simp [updN, hg0, hg1, hg2, hg3, hl0, hl1, hl2, hl3]) (hb hby d7_136) ?_
      show Go _ _ _ _ _ _ _ T23 (mkF m 137 #[.val (.ref q), .val (.int (Lp (a 0))), .val (.double (T (a 3))), .second, .val (.int (Lp (a 3))), .val (.int (0 : Int32)), .val (.int (2 : Int32))] [(.int (Lp (a 2))), (.int (0 : Int32)), (.ref v)])
      refine Go.iastore X23 hx hZ e23 V_v_21 (j := (0 : Int32)) (x := (Lp (a 2))) (by decide) (hb hby d7_137) ?_
      intro T24 h24 X24 e24 W24 Vn24
      have V_v_24 : Iv Z h24 v (64 : Int32) (updN l' 0 (Lp (a 2))) := Vn24
      have N24 := Fr.snoc X24 N21 ge_v
      have E_q_24 := E_q_21.wr W24
      have F_size_q_24 := F_size_q_21.other W24 (Or.inl ne_q_v)
      have F_times_q_24 := F_times_q_21.other W24 (Or.inl ne_q_v)
      have F_lightpaths_q_24 := F_lightpaths_q_21.other W24 (Or.inl ne_q_v)
      have V_u_24 := V_u_21.other W24 ne_u_v
      have K24 : Keep h0 h24 [q, u, v] := K21.wr W24 (Or.inl (List.mem_of_getElem? (i := 2) rfl))
      show Go _ _ _ _ _ _ _ T24 (mkF m 138 #[.val (.ref q), .val (.int (Lp (a 0))), .val (.double (T (a 3))), .second, .val (.int (Lp (a 3))), .val (.int (0 : Int32)), .val (.int (2 : Int32))] [])
      refine Go.step (fun _ k => XS.iload X24.here hx rfl (hb hby d7_138) rfl k) ?_
      show Go _ _ _ _ _ _ _ T24 (mkF m 140 #[.val (.ref q), .val (.int (Lp (a 0))), .val (.double (T (a 3))), .second, .val (.int (Lp (a 3))), .val (.int (0 : Int32)), .val (.int (2 : Int32))] [(.int (2 : Int32))])
      refine Go.step (fun _ k => XS.istore X24.here hx rfl (hb hby d7_140) rfl (l' := #[.val (.ref q), .val (.int (Lp (a 0))), .val (.double (T (a 3))), .second, .val (.int (Lp (a 3))), .val (.int (2 : Int32)), .val (.int (2 : Int32))]) rfl k) ?_
      show Go _ _ _ _ _ _ _ T24 (mkF m 142 #[.val (.ref q), .val (.int (Lp (a 0))), .val (.double (T (a 3))), .second, .val (.int (Lp (a 3))), .val (.int (2 : Int32)), .val (.int (2 : Int32))] [])
      refine Go.step (fun _ k => XS.goto X24.here hx rfl (pc0 := 142) (pc' := 41) rfl (hb hby d7_142) (by decide) (by decide) k) ?_
      show Go _ _ _ _ _ _ _ T24 (mkF m 41 #[.val (.ref q), .val (.int (Lp (a 0))), .val (.double (T (a 3))), .second, .val (.int (Lp (a 3))), .val (.int (2 : Int32)), .val (.int (2 : Int32))] [])
      refine Go.step (fun _ k => XS.iconst X24.here hx rfl (hb hby d7_41) k) ?_
      show Go _ _ _ _ _ _ _ T24 (mkF m 42 #[.val (.ref q), .val (.int (Lp (a 0))), .val (.double (T (a 3))), .second, .val (.int (Lp (a 3))), .val (.int (2 : Int32)), .val (.int (2 : Int32))] [(.int (2 : Int32))])
      refine Go.step (fun _ k => XS.iload X24.here hx rfl (hb hby d7_42) rfl k) ?_
      show Go _ _ _ _ _ _ _ T24 (mkF m 44 #[.val (.ref q), .val (.int (Lp (a 0))), .val (.double (T (a 3))), .second, .val (.int (Lp (a 3))), .val (.int (2 : Int32)), .val (.int (2 : Int32))] [(.int (2 : Int32)), (.int (2 : Int32))])
      refine Go.step (fun _ k => XS.imul X24.here hx rfl (hb hby d7_44) rfl k) ?_
      show Go _ _ _ _ _ _ _ T24 (mkF m 45 #[.val (.ref q), .val (.int (Lp (a 0))), .val (.double (T (a 3))), .second, .val (.int (Lp (a 3))), .val (.int (2 : Int32)), .val (.int (2 : Int32))] [(.int (4 : Int32))])
      refine Go.step (fun _ k => XS.iconst X24.here hx rfl (hb hby d7_45) k) ?_
      show Go _ _ _ _ _ _ _ T24 (mkF m 46 #[.val (.ref q), .val (.int (Lp (a 0))), .val (.double (T (a 3))), .second, .val (.int (Lp (a 3))), .val (.int (2 : Int32)), .val (.int (2 : Int32))] [(.int (1 : Int32)), (.int (4 : Int32))])
      refine Go.step (fun _ k => XS.iadd X24.here hx rfl (hb hby d7_46) rfl k) ?_
      show Go _ _ _ _ _ _ _ T24 (mkF m 47 #[.val (.ref q), .val (.int (Lp (a 0))), .val (.double (T (a 3))), .second, .val (.int (Lp (a 3))), .val (.int (2 : Int32)), .val (.int (2 : Int32))] [(.int (5 : Int32))])
      refine Go.step (fun _ k => XS.istore X24.here hx rfl (hb hby d7_47) rfl (l' := #[.val (.ref q), .val (.int (Lp (a 0))), .val (.double (T (a 3))), .second, .val (.int (Lp (a 3))), .val (.int (2 : Int32)), .val (.int (5 : Int32))]) rfl k) ?_
      show Go _ _ _ _ _ _ _ T24 (mkF m 49 #[.val (.ref q), .val (.int (Lp (a 0))), .val (.double (T (a 3))), .second, .val (.int (Lp (a 3))), .val (.int (2 : Int32)), .val (.int (5 : Int32))] [])
      refine Go.step (fun _ k => XS.iload X24.here hx rfl (hb hby d7_49) rfl k) ?_
      show Go _ _ _ _ _ _ _ T24 (mkF m 51 #[.val (.ref q), .val (.int (Lp (a 0))), .val (.double (T (a 3))), .second, .val (.int (Lp (a 3))), .val (.int (2 : Int32)), .val (.int (5 : Int32))] [(.int (5 : Int32))])
      refine Go.step (fun _ k => XS.aloadN X24.here hx rfl (hb hby d7_51) rfl rfl k) ?_
      show Go _ _ _ _ _ _ _ T24 (mkF m 52 #[.val (.ref q), .val (.int (Lp (a 0))), .val (.double (T (a 3))), .second, .val (.int (Lp (a 3))), .val (.int (2 : Int32)), .val (.int (5 : Int32))] [(.ref q), (.int (5 : Int32))])
      obtain ⟨T25, X25, e25, st25⟩ := getF X24 hx hZ hown (host := "") (Or.inl (hw _ (List.mem_of_getElem? (i := 28) rfl))) Via.refl e24 F_size_q_24 (g := (mkF m 52 #[.val (.ref q), .val (.int (Lp (a 0))), .val (.double (T (a 3))), .second, .val (.int (Lp (a 3))), .val (.int (2 : Int32)), .val (.int (5 : Int32))] [(.ref q), (.int (5 : Int32))])) rfl rfl (hb hby d7_52)
      refine Go.step st25 ?_
      show Go _ _ _ _ _ _ _ T25 (mkF m 55 #[.val (.ref q), .val (.int (Lp (a 0))), .val (.double (T (a 3))), .second, .val (.int (Lp (a 3))), .val (.int (2 : Int32)), .val (.int (5 : Int32))] [(.int (3 : Int32)), (.int (5 : Int32))])
      refine Go.step (fun _ k => XS.icmpNo X25.here hx rfl (hb hby d7_55) rfl (flt (by decide : ¬ ((5 : Int32) < (3 : Int32)))).1 k) ?_
      show Go _ _ _ _ _ _ _ T25 (mkF m 58 #[.val (.ref q), .val (.int (Lp (a 0))), .val (.double (T (a 3))), .second, .val (.int (Lp (a 3))), .val (.int (2 : Int32)), .val (.int (5 : Int32))] [])
      refine Go.step (fun _ k => XS.goto X25.here hx rfl (pc0 := 58) (pc' := 145) rfl (hb hby d7_58) (by decide) (by decide) k) ?_
      show Go _ _ _ _ _ _ _ T25 (mkF m 145 #[.val (.ref q), .val (.int (Lp (a 0))), .val (.double (T (a 3))), .second, .val (.int (Lp (a 3))), .val (.int (2 : Int32)), .val (.int (5 : Int32))] [])
      refine Go.step (fun _ k => XS.aloadN X25.here hx rfl (hb hby d7_145) rfl rfl k) ?_
      show Go _ _ _ _ _ _ _ T25 (mkF m 146 #[.val (.ref q), .val (.int (Lp (a 0))), .val (.double (T (a 3))), .second, .val (.int (Lp (a 3))), .val (.int (2 : Int32)), .val (.int (5 : Int32))] [(.ref q)])
      obtain ⟨T26, X26, e26, st26⟩ := getF X25 hx hZ hown (host := "") (Or.inl (hw _ (List.mem_of_getElem? (i := 19) rfl))) Via.refl e25 F_times_q_24 (g := (mkF m 146 #[.val (.ref q), .val (.int (Lp (a 0))), .val (.double (T (a 3))), .second, .val (.int (Lp (a 3))), .val (.int (2 : Int32)), .val (.int (5 : Int32))] [(.ref q)])) rfl rfl (hb hby d7_146)
      refine Go.step st26 ?_
      show Go _ _ _ _ _ _ _ T26 (mkF m 149 #[.val (.ref q), .val (.int (Lp (a 0))), .val (.double (T (a 3))), .second, .val (.int (Lp (a 3))), .val (.int (2 : Int32)), .val (.int (5 : Int32))] [(.ref u)])
      refine Go.step (fun _ k => XS.iload X26.here hx rfl (hb hby d7_149) rfl k) ?_
      show Go _ _ _ _ _ _ _ T26 (mkF m 151 #[.val (.ref q), .val (.int (Lp (a 0))), .val (.double (T (a 3))), .second, .val (.int (Lp (a 3))), .val (.int (2 : Int32)), .val (.int (5 : Int32))] [(.int (2 : Int32)), (.ref u)])
      refine Go.step (fun _ k => XS.dloadN X26.here hx rfl (hb hby d7_151) rfl k) ?_
      show Go _ _ _ _ _ _ _ T26 (mkF m 152 #[.val (.ref q), .val (.int (Lp (a 0))), .val (.double (T (a 3))), .second, .val (.int (Lp (a 3))), .val (.int (2 : Int32)), .val (.int (5 : Int32))] [(.double (T (a 3))), (.int (2 : Int32)), (.ref u)])
      refine Go.dastore X26 hx hZ e26 V_u_24 (j := (2 : Int32)) (x := (T (a 3))) (by decide) (hb hby d7_152) ?_
      intro T27 h27 X27 e27 W27 Vn27
      have V_u_27 : Dv Z h27 u (64 : Int32) (updN (updN g 0 (T (a 2))) 2 (T (a 3))) := Vn27
      have N27 := Fr.snoc X27 N24 ge_u
      have E_q_27 := E_q_24.wr W27
      have F_size_q_27 := F_size_q_24.other W27 (Or.inl ne_q_u)
      have F_times_q_27 := F_times_q_24.other W27 (Or.inl ne_q_u)
      have F_lightpaths_q_27 := F_lightpaths_q_24.other W27 (Or.inl ne_q_u)
      have V_v_27 := V_v_24.other W27 (Ne.symm ne_u_v)
      have K27 : Keep h0 h27 [q, u, v] := K24.wr W27 (Or.inl (List.mem_of_getElem? (i := 1) rfl))
      show Go _ _ _ _ _ _ _ T27 (mkF m 153 #[.val (.ref q), .val (.int (Lp (a 0))), .val (.double (T (a 3))), .second, .val (.int (Lp (a 3))), .val (.int (2 : Int32)), .val (.int (5 : Int32))] [])
      refine Go.step (fun _ k => XS.aloadN X27.here hx rfl (hb hby d7_153) rfl rfl k) ?_
      show Go _ _ _ _ _ _ _ T27 (mkF m 154 #[.val (.ref q), .val (.int (Lp (a 0))), .val (.double (T (a 3))), .second, .val (.int (Lp (a 3))), .val (.int (2 : Int32)), .val (.int (5 : Int32))] [(.ref q)])
      obtain ⟨T28, X28, e28, st28⟩ := getF X27 hx hZ hown (host := "") (Or.inl (hw _ (List.mem_of_getElem? (i := 21) rfl))) Via.refl e27 F_lightpaths_q_27 (g := (mkF m 154 #[.val (.ref q), .val (.int (Lp (a 0))), .val (.double (T (a 3))), .second, .val (.int (Lp (a 3))), .val (.int (2 : Int32)), .val (.int (5 : Int32))] [(.ref q)])) rfl rfl (hb hby d7_154)
      refine Go.step st28 ?_
      show Go _ _ _ _ _ _ _ T28 (mkF m 157 #[.val (.ref q), .val (.int (Lp (a 0))), .val (.double (T (a 3))), .second, .val (.int (Lp (a 3))), .val (.int (2 : Int32)), .val (.int (5 : Int32))] [(.ref v)])
      refine Go.step (fun _ k => XS.iload X28.here hx rfl (hb hby d7_157) rfl k) ?_
      show Go _ _ _ _ _ _ _ T28 (mkF m 159 #[.val (.ref q), .val (.int (Lp (a 0))), .val (.double (T (a 3))), .second, .val (.int (Lp (a 3))), .val (.int (2 : Int32)), .val (.int (5 : Int32))] [(.int (2 : Int32)), (.ref v)])
      refine Go.step (fun _ k => XS.iload X28.here hx rfl (hb hby d7_159) rfl k) ?_
      show Go _ _ _ _ _ _ _ T28 (mkF m 161 #[.val (.ref q), .val (.int (Lp (a 0))), .val (.double (T (a 3))), .second, .val (.int (Lp (a 3))), .val (.int (2 : Int32)), .val (.int (5 : Int32))] [(.int (Lp (a 3))), (.int (2 : Int32)), (.ref v)])
      refine Go.iastore X28 hx hZ e28 V_v_27 (j := (2 : Int32)) (x := (Lp (a 3))) (by decide) (hb hby d7_161) ?_
      intro T29 h29 X29 e29 W29 Vn29
      have V_v_29 : Iv Z h29 v (64 : Int32) (updN (updN l' 0 (Lp (a 2))) 2 (Lp (a 3))) := Vn29
      have N29 := Fr.snoc X29 N27 ge_v
      have E_q_29 := E_q_27.wr W29
      have F_size_q_29 := F_size_q_27.other W29 (Or.inl ne_q_v)
      have F_times_q_29 := F_times_q_27.other W29 (Or.inl ne_q_v)
      have F_lightpaths_q_29 := F_lightpaths_q_27.other W29 (Or.inl ne_q_v)
      have V_u_29 := V_u_27.other W29 ne_u_v
      have K29 : Keep h0 h29 [q, u, v] := K27.wr W29 (Or.inl (List.mem_of_getElem? (i := 2) rfl))
      show Go _ _ _ _ _ _ _ T29 (mkF m 162 #[.val (.ref q), .val (.int (Lp (a 0))), .val (.double (T (a 3))), .second, .val (.int (Lp (a 3))), .val (.int (2 : Int32)), .val (.int (5 : Int32))] [])
      refine Go.step (fun _ k => XS.iloadN X29.here hx rfl (hb hby d7_162) rfl k) ?_
      show Go _ _ _ _ _ _ _ T29 (mkF m 163 #[.val (.ref q), .val (.int (Lp (a 0))), .val (.double (T (a 3))), .second, .val (.int (Lp (a 3))), .val (.int (2 : Int32)), .val (.int (5 : Int32))] [(.int (Lp (a 0)))])
      refine Go.retI X29 hx hlk hret (hb hby d7_163) (by decide) (by decide) ?_
      try rw [e29]
      have := own_ltK hT hd89_12
      have := own_ngeK hT hd104_14
      refine ⟨rfl, N29, K29, E_q_29, F_size_q_29, F_times_q_29, F_lightpaths_q_29, _, _, (updN (updN a 0 (a 2)) 2 (a 3)), V_u_29, V_v_29, fun i hi' => by rcases (by omega : i = 0 ∨ i = 1 ∨ i = 2) with rfl | rfl | rfl <;> first | rfl | simp [updN, hg0, hg1, hg2, hg3, hl0, hl1, hl2, hl3], fun i hi' => by rcases (by omega : i = 0 ∨ i = 1 ∨ i = 2) with rfl | rfl | rfl <;> first | rfl | simp [updN, hg0, hg1, hg2, hg3, hl0, hl1, hl2, hl3], ?_, ?_, fun P hP => ?_⟩
      · simp only [HI, updN]; try simp; try omega
      · exact ⟨fun i hi' => by rcases (by omega : i = 0 ∨ i = 1 ∨ i = 2) with rfl | rfl | rfl <;> simp [updN] <;> omega, fun w => by simp [sumA, updN]; try omega⟩
      · intro i hi'; rcases (by omega : i = 0 ∨ i = 1 ∨ i = 2) with rfl | rfl | rfl <;> simp [updN] <;> exact hP _ (by decide)
  · refine Go.step (fun _ k => XS.ifYes X11.here hx rfl (pc0 := 89) (pc' := 95) rfl (hb hby d7_89) rfl (lt_n hd89_12) (by decide) (by decide) k) ?_
    show Go _ _ _ _ _ _ _ T11 (mkF m 95 #[.val (.ref q), .val (.int (Lp (a 0))), .val (.double (T (a 3))), .second, .val (.int (Lp (a 3))), .val (.int (0 : Int32)), .val (.int (1 : Int32))] [])
    refine Go.step (fun _ k => XS.aloadN X11.here hx rfl (hb hby d7_95) rfl rfl k) ?_
    show Go _ _ _ _ _ _ _ T11 (mkF m 96 #[.val (.ref q), .val (.int (Lp (a 0))), .val (.double (T (a 3))), .second, .val (.int (Lp (a 3))), .val (.int (0 : Int32)), .val (.int (1 : Int32))] [(.ref q)])
    obtain ⟨T30, X30, e30, st30⟩ := getF X11 hx hZ hown (host := "") (Or.inl (hw _ (List.mem_of_getElem? (i := 19) rfl))) Via.refl e11 F_times_q_3 (g := (mkF m 96 #[.val (.ref q), .val (.int (Lp (a 0))), .val (.double (T (a 3))), .second, .val (.int (Lp (a 3))), .val (.int (0 : Int32)), .val (.int (1 : Int32))] [(.ref q)])) rfl rfl (hb hby d7_96)
    refine Go.step st30 ?_
    show Go _ _ _ _ _ _ _ T30 (mkF m 99 #[.val (.ref q), .val (.int (Lp (a 0))), .val (.double (T (a 3))), .second, .val (.int (Lp (a 3))), .val (.int (0 : Int32)), .val (.int (1 : Int32))] [(.ref u)])
    refine Go.step (fun _ k => XS.iload X30.here hx rfl (hb hby d7_99) rfl k) ?_
    show Go _ _ _ _ _ _ _ T30 (mkF m 101 #[.val (.ref q), .val (.int (Lp (a 0))), .val (.double (T (a 3))), .second, .val (.int (Lp (a 3))), .val (.int (0 : Int32)), .val (.int (1 : Int32))] [(.int (1 : Int32)), (.ref u)])
    refine Go.daload X30 hx hZ e30 V_u_3 (j := (1 : Int32)) (v := (T (a 1))) (by decide) (by first | rfl | simp [updN, hg0, hg1, hg2, hg3, hl0, hl1, hl2, hl3]) (hb hby d7_101) ?_
    show Go _ _ _ _ _ _ _ T30 (mkF m 102 #[.val (.ref q), .val (.int (Lp (a 0))), .val (.double (T (a 3))), .second, .val (.int (Lp (a 3))), .val (.int (0 : Int32)), .val (.int (1 : Int32))] [(.double (T (a 1)))])
    refine Go.step (fun _ k => XS.dloadN X30.here hx rfl (hb hby d7_102) rfl k) ?_
    show Go _ _ _ _ _ _ _ T30 (mkF m 103 #[.val (.ref q), .val (.int (Lp (a 0))), .val (.double (T (a 3))), .second, .val (.int (Lp (a 3))), .val (.int (0 : Int32)), .val (.int (1 : Int32))] [(.double (T (a 3))), (.double (T (a 1)))])
    refine Go.step (fun _ k => XS.dcmpS X30.here hx rfl (hb hby d7_103) rfl rfl k) ?_
    show Go _ _ _ _ _ _ _ T30 (mkF m 104 #[.val (.ref q), .val (.int (Lp (a 0))), .val (.double (T (a 3))), .second, .val (.int (Lp (a 3))), .val (.int (0 : Int32)), .val (.int (1 : Int32))] [(.int (cmpValue (FP.dcmp (T (a 1)) (T (a 3))) .l))])
    by_cases hd104_31 : (FP.dcmp (T (a 1)) (T (a 3)) = some .gt ∨ FP.dcmp (T (a 1)) (T (a 3)) = some .eq)
    · refine Go.step (fun _ k => XS.ifNo X30.here hx rfl (hb hby d7_104) rfl (ge_y hd104_31) k) ?_
      show Go _ _ _ _ _ _ _ T30 (mkF m 107 #[.val (.ref q), .val (.int (Lp (a 0))), .val (.double (T (a 3))), .second, .val (.int (Lp (a 3))), .val (.int (0 : Int32)), .val (.int (1 : Int32))] [])
      refine Go.step (fun _ k => XS.goto X30.here hx rfl (pc0 := 107) (pc' := 145) rfl (hb hby d7_107) (by decide) (by decide) k) ?_
      show Go _ _ _ _ _ _ _ T30 (mkF m 145 #[.val (.ref q), .val (.int (Lp (a 0))), .val (.double (T (a 3))), .second, .val (.int (Lp (a 3))), .val (.int (0 : Int32)), .val (.int (1 : Int32))] [])
      refine Go.step (fun _ k => XS.aloadN X30.here hx rfl (hb hby d7_145) rfl rfl k) ?_
      show Go _ _ _ _ _ _ _ T30 (mkF m 146 #[.val (.ref q), .val (.int (Lp (a 0))), .val (.double (T (a 3))), .second, .val (.int (Lp (a 3))), .val (.int (0 : Int32)), .val (.int (1 : Int32))] [(.ref q)])
      obtain ⟨T32, X32, e32, st32⟩ := getF X30 hx hZ hown (host := "") (Or.inl (hw _ (List.mem_of_getElem? (i := 19) rfl))) Via.refl e30 F_times_q_3 (g := (mkF m 146 #[.val (.ref q), .val (.int (Lp (a 0))), .val (.double (T (a 3))), .second, .val (.int (Lp (a 3))), .val (.int (0 : Int32)), .val (.int (1 : Int32))] [(.ref q)])) rfl rfl (hb hby d7_146)
      refine Go.step st32 ?_
      show Go _ _ _ _ _ _ _ T32 (mkF m 149 #[.val (.ref q), .val (.int (Lp (a 0))), .val (.double (T (a 3))), .second, .val (.int (Lp (a 3))), .val (.int (0 : Int32)), .val (.int (1 : Int32))] [(.ref u)])
      refine Go.step (fun _ k => XS.iload X32.here hx rfl (hb hby d7_149) rfl k) ?_
      show Go _ _ _ _ _ _ _ T32 (mkF m 151 #[.val (.ref q), .val (.int (Lp (a 0))), .val (.double (T (a 3))), .second, .val (.int (Lp (a 3))), .val (.int (0 : Int32)), .val (.int (1 : Int32))] [(.int (0 : Int32)), (.ref u)])
      refine Go.step (fun _ k => XS.dloadN X32.here hx rfl (hb hby d7_151) rfl k) ?_
      show Go _ _ _ _ _ _ _ T32 (mkF m 152 #[.val (.ref q), .val (.int (Lp (a 0))), .val (.double (T (a 3))), .second, .val (.int (Lp (a 3))), .val (.int (0 : Int32)), .val (.int (1 : Int32))] [(.double (T (a 3))), (.int (0 : Int32)), (.ref u)])
      refine Go.dastore X32 hx hZ e32 V_u_3 (j := (0 : Int32)) (x := (T (a 3))) (by decide) (hb hby d7_152) ?_
      intro T33 h33 X33 e33 W33 Vn33
      have V_u_33 : Dv Z h33 u (64 : Int32) (updN g 0 (T (a 3))) := Vn33
      have N33 := Fr.snoc X33 N3 ge_u
      have E_q_33 := E_q_3.wr W33
      have F_size_q_33 := F_size_q_3.other W33 (Or.inl ne_q_u)
      have F_times_q_33 := F_times_q_3.other W33 (Or.inl ne_q_u)
      have F_lightpaths_q_33 := F_lightpaths_q_3.other W33 (Or.inl ne_q_u)
      have V_v_33 := V_v_3.other W33 (Ne.symm ne_u_v)
      have K33 : Keep h0 h33 [q, u, v] := K3.wr W33 (Or.inl (List.mem_of_getElem? (i := 1) rfl))
      show Go _ _ _ _ _ _ _ T33 (mkF m 153 #[.val (.ref q), .val (.int (Lp (a 0))), .val (.double (T (a 3))), .second, .val (.int (Lp (a 3))), .val (.int (0 : Int32)), .val (.int (1 : Int32))] [])
      refine Go.step (fun _ k => XS.aloadN X33.here hx rfl (hb hby d7_153) rfl rfl k) ?_
      show Go _ _ _ _ _ _ _ T33 (mkF m 154 #[.val (.ref q), .val (.int (Lp (a 0))), .val (.double (T (a 3))), .second, .val (.int (Lp (a 3))), .val (.int (0 : Int32)), .val (.int (1 : Int32))] [(.ref q)])
      obtain ⟨T34, X34, e34, st34⟩ := getF X33 hx hZ hown (host := "") (Or.inl (hw _ (List.mem_of_getElem? (i := 21) rfl))) Via.refl e33 F_lightpaths_q_33 (g := (mkF m 154 #[.val (.ref q), .val (.int (Lp (a 0))), .val (.double (T (a 3))), .second, .val (.int (Lp (a 3))), .val (.int (0 : Int32)), .val (.int (1 : Int32))] [(.ref q)])) rfl rfl (hb hby d7_154)
      refine Go.step st34 ?_
      show Go _ _ _ _ _ _ _ T34 (mkF m 157 #[.val (.ref q), .val (.int (Lp (a 0))), .val (.double (T (a 3))), .second, .val (.int (Lp (a 3))), .val (.int (0 : Int32)), .val (.int (1 : Int32))] [(.ref v)])
      refine Go.step (fun _ k => XS.iload X34.here hx rfl (hb hby d7_157) rfl k) ?_
      show Go _ _ _ _ _ _ _ T34 (mkF m 159 #[.val (.ref q), .val (.int (Lp (a 0))), .val (.double (T (a 3))), .second, .val (.int (Lp (a 3))), .val (.int (0 : Int32)), .val (.int (1 : Int32))] [(.int (0 : Int32)), (.ref v)])
      refine Go.step (fun _ k => XS.iload X34.here hx rfl (hb hby d7_159) rfl k) ?_
      show Go _ _ _ _ _ _ _ T34 (mkF m 161 #[.val (.ref q), .val (.int (Lp (a 0))), .val (.double (T (a 3))), .second, .val (.int (Lp (a 3))), .val (.int (0 : Int32)), .val (.int (1 : Int32))] [(.int (Lp (a 3))), (.int (0 : Int32)), (.ref v)])
      refine Go.iastore X34 hx hZ e34 V_v_33 (j := (0 : Int32)) (x := (Lp (a 3))) (by decide) (hb hby d7_161) ?_
      intro T35 h35 X35 e35 W35 Vn35
      have V_v_35 : Iv Z h35 v (64 : Int32) (updN l' 0 (Lp (a 3))) := Vn35
      have N35 := Fr.snoc X35 N33 ge_v
      have E_q_35 := E_q_33.wr W35
      have F_size_q_35 := F_size_q_33.other W35 (Or.inl ne_q_v)
      have F_times_q_35 := F_times_q_33.other W35 (Or.inl ne_q_v)
      have F_lightpaths_q_35 := F_lightpaths_q_33.other W35 (Or.inl ne_q_v)
      have V_u_35 := V_u_33.other W35 ne_u_v
      have K35 : Keep h0 h35 [q, u, v] := K33.wr W35 (Or.inl (List.mem_of_getElem? (i := 2) rfl))
      show Go _ _ _ _ _ _ _ T35 (mkF m 162 #[.val (.ref q), .val (.int (Lp (a 0))), .val (.double (T (a 3))), .second, .val (.int (Lp (a 3))), .val (.int (0 : Int32)), .val (.int (1 : Int32))] [])
      refine Go.step (fun _ k => XS.iloadN X35.here hx rfl (hb hby d7_162) rfl k) ?_
      show Go _ _ _ _ _ _ _ T35 (mkF m 163 #[.val (.ref q), .val (.int (Lp (a 0))), .val (.double (T (a 3))), .second, .val (.int (Lp (a 3))), .val (.int (0 : Int32)), .val (.int (1 : Int32))] [(.int (Lp (a 0)))])
      refine Go.retI X35 hx hlk hret (hb hby d7_163) (by decide) (by decide) ?_
      try rw [e35]
      have := own_nltK hT hd89_12
      have := own_geK hT hd104_31
      refine ⟨rfl, N35, K35, E_q_35, F_size_q_35, F_times_q_35, F_lightpaths_q_35, _, _, (updN a 0 (a 3)), V_u_35, V_v_35, fun i hi' => by rcases (by omega : i = 0 ∨ i = 1 ∨ i = 2) with rfl | rfl | rfl <;> first | rfl | simp [updN, hg0, hg1, hg2, hg3, hl0, hl1, hl2, hl3], fun i hi' => by rcases (by omega : i = 0 ∨ i = 1 ∨ i = 2) with rfl | rfl | rfl <;> first | rfl | simp [updN, hg0, hg1, hg2, hg3, hl0, hl1, hl2, hl3], ?_, ?_, fun P hP => ?_⟩
      · simp only [HI, updN]; try simp; try omega
      · exact ⟨fun i hi' => by rcases (by omega : i = 0 ∨ i = 1 ∨ i = 2) with rfl | rfl | rfl <;> simp [updN] <;> omega, fun w => by simp [sumA, updN]; try omega⟩
      · intro i hi'; rcases (by omega : i = 0 ∨ i = 1 ∨ i = 2) with rfl | rfl | rfl <;> simp [updN] <;> exact hP _ (by decide)
    · refine Go.step (fun _ k => XS.ifYes X30.here hx rfl (pc0 := 104) (pc' := 110) rfl (hb hby d7_104) rfl (ge_n hd104_31) (by decide) (by decide) k) ?_
      show Go _ _ _ _ _ _ _ T30 (mkF m 110 #[.val (.ref q), .val (.int (Lp (a 0))), .val (.double (T (a 3))), .second, .val (.int (Lp (a 3))), .val (.int (0 : Int32)), .val (.int (1 : Int32))] [])
      refine Go.step (fun _ k => XS.aloadN X30.here hx rfl (hb hby d7_110) rfl rfl k) ?_
      show Go _ _ _ _ _ _ _ T30 (mkF m 111 #[.val (.ref q), .val (.int (Lp (a 0))), .val (.double (T (a 3))), .second, .val (.int (Lp (a 3))), .val (.int (0 : Int32)), .val (.int (1 : Int32))] [(.ref q)])
      obtain ⟨T36, X36, e36, st36⟩ := getF X30 hx hZ hown (host := "") (Or.inl (hw _ (List.mem_of_getElem? (i := 19) rfl))) Via.refl e30 F_times_q_3 (g := (mkF m 111 #[.val (.ref q), .val (.int (Lp (a 0))), .val (.double (T (a 3))), .second, .val (.int (Lp (a 3))), .val (.int (0 : Int32)), .val (.int (1 : Int32))] [(.ref q)])) rfl rfl (hb hby d7_111)
      refine Go.step st36 ?_
      show Go _ _ _ _ _ _ _ T36 (mkF m 114 #[.val (.ref q), .val (.int (Lp (a 0))), .val (.double (T (a 3))), .second, .val (.int (Lp (a 3))), .val (.int (0 : Int32)), .val (.int (1 : Int32))] [(.ref u)])
      refine Go.step (fun _ k => XS.iload X36.here hx rfl (hb hby d7_114) rfl k) ?_
      show Go _ _ _ _ _ _ _ T36 (mkF m 116 #[.val (.ref q), .val (.int (Lp (a 0))), .val (.double (T (a 3))), .second, .val (.int (Lp (a 3))), .val (.int (0 : Int32)), .val (.int (1 : Int32))] [(.int (0 : Int32)), (.ref u)])
      refine Go.step (fun _ k => XS.aloadN X36.here hx rfl (hb hby d7_116) rfl rfl k) ?_
      show Go _ _ _ _ _ _ _ T36 (mkF m 117 #[.val (.ref q), .val (.int (Lp (a 0))), .val (.double (T (a 3))), .second, .val (.int (Lp (a 3))), .val (.int (0 : Int32)), .val (.int (1 : Int32))] [(.ref q), (.int (0 : Int32)), (.ref u)])
      obtain ⟨T37, X37, e37, st37⟩ := getF X36 hx hZ hown (host := "") (Or.inl (hw _ (List.mem_of_getElem? (i := 19) rfl))) Via.refl e36 F_times_q_3 (g := (mkF m 117 #[.val (.ref q), .val (.int (Lp (a 0))), .val (.double (T (a 3))), .second, .val (.int (Lp (a 3))), .val (.int (0 : Int32)), .val (.int (1 : Int32))] [(.ref q), (.int (0 : Int32)), (.ref u)])) rfl rfl (hb hby d7_117)
      refine Go.step st37 ?_
      show Go _ _ _ _ _ _ _ T37 (mkF m 120 #[.val (.ref q), .val (.int (Lp (a 0))), .val (.double (T (a 3))), .second, .val (.int (Lp (a 3))), .val (.int (0 : Int32)), .val (.int (1 : Int32))] [(.ref u), (.int (0 : Int32)), (.ref u)])
      refine Go.step (fun _ k => XS.iload X37.here hx rfl (hb hby d7_120) rfl k) ?_
      show Go _ _ _ _ _ _ _ T37 (mkF m 122 #[.val (.ref q), .val (.int (Lp (a 0))), .val (.double (T (a 3))), .second, .val (.int (Lp (a 3))), .val (.int (0 : Int32)), .val (.int (1 : Int32))] [(.int (1 : Int32)), (.ref u), (.int (0 : Int32)), (.ref u)])
      refine Go.daload X37 hx hZ e37 V_u_3 (j := (1 : Int32)) (v := (T (a 1))) (by decide) (by first | rfl | simp [updN, hg0, hg1, hg2, hg3, hl0, hl1, hl2, hl3]) (hb hby d7_122) ?_
      show Go _ _ _ _ _ _ _ T37 (mkF m 123 #[.val (.ref q), .val (.int (Lp (a 0))), .val (.double (T (a 3))), .second, .val (.int (Lp (a 3))), .val (.int (0 : Int32)), .val (.int (1 : Int32))] [(.double (T (a 1))), (.int (0 : Int32)), (.ref u)])
      refine Go.dastore X37 hx hZ e37 V_u_3 (j := (0 : Int32)) (x := (T (a 1))) (by decide) (hb hby d7_123) ?_
      intro T38 h38 X38 e38 W38 Vn38
      have V_u_38 : Dv Z h38 u (64 : Int32) (updN g 0 (T (a 1))) := Vn38
      have N38 := Fr.snoc X38 N3 ge_u
      have E_q_38 := E_q_3.wr W38
      have F_size_q_38 := F_size_q_3.other W38 (Or.inl ne_q_u)
      have F_times_q_38 := F_times_q_3.other W38 (Or.inl ne_q_u)
      have F_lightpaths_q_38 := F_lightpaths_q_3.other W38 (Or.inl ne_q_u)
      have V_v_38 := V_v_3.other W38 (Ne.symm ne_u_v)
      have K38 : Keep h0 h38 [q, u, v] := K3.wr W38 (Or.inl (List.mem_of_getElem? (i := 1) rfl))
      show Go _ _ _ _ _ _ _ T38 (mkF m 124 #[.val (.ref q), .val (.int (Lp (a 0))), .val (.double (T (a 3))), .second, .val (.int (Lp (a 3))), .val (.int (0 : Int32)), .val (.int (1 : Int32))] [])
      refine Go.step (fun _ k => XS.aloadN X38.here hx rfl (hb hby d7_124) rfl rfl k) ?_
      show Go _ _ _ _ _ _ _ T38 (mkF m 125 #[.val (.ref q), .val (.int (Lp (a 0))), .val (.double (T (a 3))), .second, .val (.int (Lp (a 3))), .val (.int (0 : Int32)), .val (.int (1 : Int32))] [(.ref q)])
      obtain ⟨T39, X39, e39, st39⟩ := getF X38 hx hZ hown (host := "") (Or.inl (hw _ (List.mem_of_getElem? (i := 21) rfl))) Via.refl e38 F_lightpaths_q_38 (g := (mkF m 125 #[.val (.ref q), .val (.int (Lp (a 0))), .val (.double (T (a 3))), .second, .val (.int (Lp (a 3))), .val (.int (0 : Int32)), .val (.int (1 : Int32))] [(.ref q)])) rfl rfl (hb hby d7_125)
      refine Go.step st39 ?_
      show Go _ _ _ _ _ _ _ T39 (mkF m 128 #[.val (.ref q), .val (.int (Lp (a 0))), .val (.double (T (a 3))), .second, .val (.int (Lp (a 3))), .val (.int (0 : Int32)), .val (.int (1 : Int32))] [(.ref v)])
      refine Go.step (fun _ k => XS.iload X39.here hx rfl (hb hby d7_128) rfl k) ?_
      show Go _ _ _ _ _ _ _ T39 (mkF m 130 #[.val (.ref q), .val (.int (Lp (a 0))), .val (.double (T (a 3))), .second, .val (.int (Lp (a 3))), .val (.int (0 : Int32)), .val (.int (1 : Int32))] [(.int (0 : Int32)), (.ref v)])
      refine Go.step (fun _ k => XS.aloadN X39.here hx rfl (hb hby d7_130) rfl rfl k) ?_
      show Go _ _ _ _ _ _ _ T39 (mkF m 131 #[.val (.ref q), .val (.int (Lp (a 0))), .val (.double (T (a 3))), .second, .val (.int (Lp (a 3))), .val (.int (0 : Int32)), .val (.int (1 : Int32))] [(.ref q), (.int (0 : Int32)), (.ref v)])
      obtain ⟨T40, X40, e40, st40⟩ := getF X39 hx hZ hown (host := "") (Or.inl (hw _ (List.mem_of_getElem? (i := 21) rfl))) Via.refl e39 F_lightpaths_q_38 (g := (mkF m 131 #[.val (.ref q), .val (.int (Lp (a 0))), .val (.double (T (a 3))), .second, .val (.int (Lp (a 3))), .val (.int (0 : Int32)), .val (.int (1 : Int32))] [(.ref q), (.int (0 : Int32)), (.ref v)])) rfl rfl (hb hby d7_131)
      refine Go.step st40 ?_
      show Go _ _ _ _ _ _ _ T40 (mkF m 134 #[.val (.ref q), .val (.int (Lp (a 0))), .val (.double (T (a 3))), .second, .val (.int (Lp (a 3))), .val (.int (0 : Int32)), .val (.int (1 : Int32))] [(.ref v), (.int (0 : Int32)), (.ref v)])
      refine Go.step (fun _ k => XS.iload X40.here hx rfl (hb hby d7_134) rfl k) ?_
      show Go _ _ _ _ _ _ _ T40 (mkF m 136 #[.val (.ref q), .val (.int (Lp (a 0))), .val (.double (T (a 3))), .second, .val (.int (Lp (a 3))), .val (.int (0 : Int32)), .val (.int (1 : Int32))] [(.int (1 : Int32)), (.ref v), (.int (0 : Int32)), (.ref v)])
      refine Go.iaload X40 hx hZ e40 V_v_38 (j := (1 : Int32)) (v := (Lp (a 1))) (by decide) (by first | rfl | simp [updN, hg0, hg1, hg2, hg3, hl0, hl1, hl2, hl3]) (hb hby d7_136) ?_
      show Go _ _ _ _ _ _ _ T40 (mkF m 137 #[.val (.ref q), .val (.int (Lp (a 0))), .val (.double (T (a 3))), .second, .val (.int (Lp (a 3))), .val (.int (0 : Int32)), .val (.int (1 : Int32))] [(.int (Lp (a 1))), (.int (0 : Int32)), (.ref v)])
      refine Go.iastore X40 hx hZ e40 V_v_38 (j := (0 : Int32)) (x := (Lp (a 1))) (by decide) (hb hby d7_137) ?_
      intro T41 h41 X41 e41 W41 Vn41
      have V_v_41 : Iv Z h41 v (64 : Int32) (updN l' 0 (Lp (a 1))) := Vn41
      have N41 := Fr.snoc X41 N38 ge_v
      have E_q_41 := E_q_38.wr W41
      have F_size_q_41 := F_size_q_38.other W41 (Or.inl ne_q_v)
      have F_times_q_41 := F_times_q_38.other W41 (Or.inl ne_q_v)
      have F_lightpaths_q_41 := F_lightpaths_q_38.other W41 (Or.inl ne_q_v)
      have V_u_41 := V_u_38.other W41 ne_u_v
      have K41 : Keep h0 h41 [q, u, v] := K38.wr W41 (Or.inl (List.mem_of_getElem? (i := 2) rfl))
      show Go _ _ _ _ _ _ _ T41 (mkF m 138 #[.val (.ref q), .val (.int (Lp (a 0))), .val (.double (T (a 3))), .second, .val (.int (Lp (a 3))), .val (.int (0 : Int32)), .val (.int (1 : Int32))] [])
      refine Go.step (fun _ k => XS.iload X41.here hx rfl (hb hby d7_138) rfl k) ?_
      show Go _ _ _ _ _ _ _ T41 (mkF m 140 #[.val (.ref q), .val (.int (Lp (a 0))), .val (.double (T (a 3))), .second, .val (.int (Lp (a 3))), .val (.int (0 : Int32)), .val (.int (1 : Int32))] [(.int (1 : Int32))])
      refine Go.step (fun _ k => XS.istore X41.here hx rfl (hb hby d7_140) rfl (l' := #[.val (.ref q), .val (.int (Lp (a 0))), .val (.double (T (a 3))), .second, .val (.int (Lp (a 3))), .val (.int (1 : Int32)), .val (.int (1 : Int32))]) rfl k) ?_
      show Go _ _ _ _ _ _ _ T41 (mkF m 142 #[.val (.ref q), .val (.int (Lp (a 0))), .val (.double (T (a 3))), .second, .val (.int (Lp (a 3))), .val (.int (1 : Int32)), .val (.int (1 : Int32))] [])
      refine Go.step (fun _ k => XS.goto X41.here hx rfl (pc0 := 142) (pc' := 41) rfl (hb hby d7_142) (by decide) (by decide) k) ?_
      show Go _ _ _ _ _ _ _ T41 (mkF m 41 #[.val (.ref q), .val (.int (Lp (a 0))), .val (.double (T (a 3))), .second, .val (.int (Lp (a 3))), .val (.int (1 : Int32)), .val (.int (1 : Int32))] [])
      refine Go.step (fun _ k => XS.iconst X41.here hx rfl (hb hby d7_41) k) ?_
      show Go _ _ _ _ _ _ _ T41 (mkF m 42 #[.val (.ref q), .val (.int (Lp (a 0))), .val (.double (T (a 3))), .second, .val (.int (Lp (a 3))), .val (.int (1 : Int32)), .val (.int (1 : Int32))] [(.int (2 : Int32))])
      refine Go.step (fun _ k => XS.iload X41.here hx rfl (hb hby d7_42) rfl k) ?_
      show Go _ _ _ _ _ _ _ T41 (mkF m 44 #[.val (.ref q), .val (.int (Lp (a 0))), .val (.double (T (a 3))), .second, .val (.int (Lp (a 3))), .val (.int (1 : Int32)), .val (.int (1 : Int32))] [(.int (1 : Int32)), (.int (2 : Int32))])
      refine Go.step (fun _ k => XS.imul X41.here hx rfl (hb hby d7_44) rfl k) ?_
      show Go _ _ _ _ _ _ _ T41 (mkF m 45 #[.val (.ref q), .val (.int (Lp (a 0))), .val (.double (T (a 3))), .second, .val (.int (Lp (a 3))), .val (.int (1 : Int32)), .val (.int (1 : Int32))] [(.int (2 : Int32))])
      refine Go.step (fun _ k => XS.iconst X41.here hx rfl (hb hby d7_45) k) ?_
      show Go _ _ _ _ _ _ _ T41 (mkF m 46 #[.val (.ref q), .val (.int (Lp (a 0))), .val (.double (T (a 3))), .second, .val (.int (Lp (a 3))), .val (.int (1 : Int32)), .val (.int (1 : Int32))] [(.int (1 : Int32)), (.int (2 : Int32))])
      refine Go.step (fun _ k => XS.iadd X41.here hx rfl (hb hby d7_46) rfl k) ?_
      show Go _ _ _ _ _ _ _ T41 (mkF m 47 #[.val (.ref q), .val (.int (Lp (a 0))), .val (.double (T (a 3))), .second, .val (.int (Lp (a 3))), .val (.int (1 : Int32)), .val (.int (1 : Int32))] [(.int (3 : Int32))])
      refine Go.step (fun _ k => XS.istore X41.here hx rfl (hb hby d7_47) rfl (l' := #[.val (.ref q), .val (.int (Lp (a 0))), .val (.double (T (a 3))), .second, .val (.int (Lp (a 3))), .val (.int (1 : Int32)), .val (.int (3 : Int32))]) rfl k) ?_
      show Go _ _ _ _ _ _ _ T41 (mkF m 49 #[.val (.ref q), .val (.int (Lp (a 0))), .val (.double (T (a 3))), .second, .val (.int (Lp (a 3))), .val (.int (1 : Int32)), .val (.int (3 : Int32))] [])
      refine Go.step (fun _ k => XS.iload X41.here hx rfl (hb hby d7_49) rfl k) ?_
      show Go _ _ _ _ _ _ _ T41 (mkF m 51 #[.val (.ref q), .val (.int (Lp (a 0))), .val (.double (T (a 3))), .second, .val (.int (Lp (a 3))), .val (.int (1 : Int32)), .val (.int (3 : Int32))] [(.int (3 : Int32))])
      refine Go.step (fun _ k => XS.aloadN X41.here hx rfl (hb hby d7_51) rfl rfl k) ?_
      show Go _ _ _ _ _ _ _ T41 (mkF m 52 #[.val (.ref q), .val (.int (Lp (a 0))), .val (.double (T (a 3))), .second, .val (.int (Lp (a 3))), .val (.int (1 : Int32)), .val (.int (3 : Int32))] [(.ref q), (.int (3 : Int32))])
      obtain ⟨T42, X42, e42, st42⟩ := getF X41 hx hZ hown (host := "") (Or.inl (hw _ (List.mem_of_getElem? (i := 28) rfl))) Via.refl e41 F_size_q_41 (g := (mkF m 52 #[.val (.ref q), .val (.int (Lp (a 0))), .val (.double (T (a 3))), .second, .val (.int (Lp (a 3))), .val (.int (1 : Int32)), .val (.int (3 : Int32))] [(.ref q), (.int (3 : Int32))])) rfl rfl (hb hby d7_52)
      refine Go.step st42 ?_
      show Go _ _ _ _ _ _ _ T42 (mkF m 55 #[.val (.ref q), .val (.int (Lp (a 0))), .val (.double (T (a 3))), .second, .val (.int (Lp (a 3))), .val (.int (1 : Int32)), .val (.int (3 : Int32))] [(.int (3 : Int32)), (.int (3 : Int32))])
      refine Go.step (fun _ k => XS.icmpNo X42.here hx rfl (hb hby d7_55) rfl (flt (by decide : ¬ ((3 : Int32) < (3 : Int32)))).1 k) ?_
      show Go _ _ _ _ _ _ _ T42 (mkF m 58 #[.val (.ref q), .val (.int (Lp (a 0))), .val (.double (T (a 3))), .second, .val (.int (Lp (a 3))), .val (.int (1 : Int32)), .val (.int (3 : Int32))] [])
      refine Go.step (fun _ k => XS.goto X42.here hx rfl (pc0 := 58) (pc' := 145) rfl (hb hby d7_58) (by decide) (by decide) k) ?_
      show Go _ _ _ _ _ _ _ T42 (mkF m 145 #[.val (.ref q), .val (.int (Lp (a 0))), .val (.double (T (a 3))), .second, .val (.int (Lp (a 3))), .val (.int (1 : Int32)), .val (.int (3 : Int32))] [])
      refine Go.step (fun _ k => XS.aloadN X42.here hx rfl (hb hby d7_145) rfl rfl k) ?_
      show Go _ _ _ _ _ _ _ T42 (mkF m 146 #[.val (.ref q), .val (.int (Lp (a 0))), .val (.double (T (a 3))), .second, .val (.int (Lp (a 3))), .val (.int (1 : Int32)), .val (.int (3 : Int32))] [(.ref q)])
      obtain ⟨T43, X43, e43, st43⟩ := getF X42 hx hZ hown (host := "") (Or.inl (hw _ (List.mem_of_getElem? (i := 19) rfl))) Via.refl e42 F_times_q_41 (g := (mkF m 146 #[.val (.ref q), .val (.int (Lp (a 0))), .val (.double (T (a 3))), .second, .val (.int (Lp (a 3))), .val (.int (1 : Int32)), .val (.int (3 : Int32))] [(.ref q)])) rfl rfl (hb hby d7_146)
      refine Go.step st43 ?_
      show Go _ _ _ _ _ _ _ T43 (mkF m 149 #[.val (.ref q), .val (.int (Lp (a 0))), .val (.double (T (a 3))), .second, .val (.int (Lp (a 3))), .val (.int (1 : Int32)), .val (.int (3 : Int32))] [(.ref u)])
      refine Go.step (fun _ k => XS.iload X43.here hx rfl (hb hby d7_149) rfl k) ?_
      show Go _ _ _ _ _ _ _ T43 (mkF m 151 #[.val (.ref q), .val (.int (Lp (a 0))), .val (.double (T (a 3))), .second, .val (.int (Lp (a 3))), .val (.int (1 : Int32)), .val (.int (3 : Int32))] [(.int (1 : Int32)), (.ref u)])
      refine Go.step (fun _ k => XS.dloadN X43.here hx rfl (hb hby d7_151) rfl k) ?_
      show Go _ _ _ _ _ _ _ T43 (mkF m 152 #[.val (.ref q), .val (.int (Lp (a 0))), .val (.double (T (a 3))), .second, .val (.int (Lp (a 3))), .val (.int (1 : Int32)), .val (.int (3 : Int32))] [(.double (T (a 3))), (.int (1 : Int32)), (.ref u)])
      refine Go.dastore X43 hx hZ e43 V_u_41 (j := (1 : Int32)) (x := (T (a 3))) (by decide) (hb hby d7_152) ?_
      intro T44 h44 X44 e44 W44 Vn44
      have V_u_44 : Dv Z h44 u (64 : Int32) (updN (updN g 0 (T (a 1))) 1 (T (a 3))) := Vn44
      have N44 := Fr.snoc X44 N41 ge_u
      have E_q_44 := E_q_41.wr W44
      have F_size_q_44 := F_size_q_41.other W44 (Or.inl ne_q_u)
      have F_times_q_44 := F_times_q_41.other W44 (Or.inl ne_q_u)
      have F_lightpaths_q_44 := F_lightpaths_q_41.other W44 (Or.inl ne_q_u)
      have V_v_44 := V_v_41.other W44 (Ne.symm ne_u_v)
      have K44 : Keep h0 h44 [q, u, v] := K41.wr W44 (Or.inl (List.mem_of_getElem? (i := 1) rfl))
      show Go _ _ _ _ _ _ _ T44 (mkF m 153 #[.val (.ref q), .val (.int (Lp (a 0))), .val (.double (T (a 3))), .second, .val (.int (Lp (a 3))), .val (.int (1 : Int32)), .val (.int (3 : Int32))] [])
      refine Go.step (fun _ k => XS.aloadN X44.here hx rfl (hb hby d7_153) rfl rfl k) ?_
      show Go _ _ _ _ _ _ _ T44 (mkF m 154 #[.val (.ref q), .val (.int (Lp (a 0))), .val (.double (T (a 3))), .second, .val (.int (Lp (a 3))), .val (.int (1 : Int32)), .val (.int (3 : Int32))] [(.ref q)])
      obtain ⟨T45, X45, e45, st45⟩ := getF X44 hx hZ hown (host := "") (Or.inl (hw _ (List.mem_of_getElem? (i := 21) rfl))) Via.refl e44 F_lightpaths_q_44 (g := (mkF m 154 #[.val (.ref q), .val (.int (Lp (a 0))), .val (.double (T (a 3))), .second, .val (.int (Lp (a 3))), .val (.int (1 : Int32)), .val (.int (3 : Int32))] [(.ref q)])) rfl rfl (hb hby d7_154)
      refine Go.step st45 ?_
      show Go _ _ _ _ _ _ _ T45 (mkF m 157 #[.val (.ref q), .val (.int (Lp (a 0))), .val (.double (T (a 3))), .second, .val (.int (Lp (a 3))), .val (.int (1 : Int32)), .val (.int (3 : Int32))] [(.ref v)])
      refine Go.step (fun _ k => XS.iload X45.here hx rfl (hb hby d7_157) rfl k) ?_
      show Go _ _ _ _ _ _ _ T45 (mkF m 159 #[.val (.ref q), .val (.int (Lp (a 0))), .val (.double (T (a 3))), .second, .val (.int (Lp (a 3))), .val (.int (1 : Int32)), .val (.int (3 : Int32))] [(.int (1 : Int32)), (.ref v)])
      refine Go.step (fun _ k => XS.iload X45.here hx rfl (hb hby d7_159) rfl k) ?_
      show Go _ _ _ _ _ _ _ T45 (mkF m 161 #[.val (.ref q), .val (.int (Lp (a 0))), .val (.double (T (a 3))), .second, .val (.int (Lp (a 3))), .val (.int (1 : Int32)), .val (.int (3 : Int32))] [(.int (Lp (a 3))), (.int (1 : Int32)), (.ref v)])
      refine Go.iastore X45 hx hZ e45 V_v_44 (j := (1 : Int32)) (x := (Lp (a 3))) (by decide) (hb hby d7_161) ?_
      intro T46 h46 X46 e46 W46 Vn46
      have V_v_46 : Iv Z h46 v (64 : Int32) (updN (updN l' 0 (Lp (a 1))) 1 (Lp (a 3))) := Vn46
      have N46 := Fr.snoc X46 N44 ge_v
      have E_q_46 := E_q_44.wr W46
      have F_size_q_46 := F_size_q_44.other W46 (Or.inl ne_q_v)
      have F_times_q_46 := F_times_q_44.other W46 (Or.inl ne_q_v)
      have F_lightpaths_q_46 := F_lightpaths_q_44.other W46 (Or.inl ne_q_v)
      have V_u_46 := V_u_44.other W46 ne_u_v
      have K46 : Keep h0 h46 [q, u, v] := K44.wr W46 (Or.inl (List.mem_of_getElem? (i := 2) rfl))
      show Go _ _ _ _ _ _ _ T46 (mkF m 162 #[.val (.ref q), .val (.int (Lp (a 0))), .val (.double (T (a 3))), .second, .val (.int (Lp (a 3))), .val (.int (1 : Int32)), .val (.int (3 : Int32))] [])
      refine Go.step (fun _ k => XS.iloadN X46.here hx rfl (hb hby d7_162) rfl k) ?_
      show Go _ _ _ _ _ _ _ T46 (mkF m 163 #[.val (.ref q), .val (.int (Lp (a 0))), .val (.double (T (a 3))), .second, .val (.int (Lp (a 3))), .val (.int (1 : Int32)), .val (.int (3 : Int32))] [(.int (Lp (a 0)))])
      refine Go.retI X46 hx hlk hret (hb hby d7_163) (by decide) (by decide) ?_
      try rw [e46]
      have := own_nltK hT hd89_12
      have := own_ngeK hT hd104_31
      refine ⟨rfl, N46, K46, E_q_46, F_size_q_46, F_times_q_46, F_lightpaths_q_46, _, _, (updN (updN a 0 (a 1)) 1 (a 3)), V_u_46, V_v_46, fun i hi' => by rcases (by omega : i = 0 ∨ i = 1 ∨ i = 2) with rfl | rfl | rfl <;> first | rfl | simp [updN, hg0, hg1, hg2, hg3, hl0, hl1, hl2, hl3], fun i hi' => by rcases (by omega : i = 0 ∨ i = 1 ∨ i = 2) with rfl | rfl | rfl <;> first | rfl | simp [updN, hg0, hg1, hg2, hg3, hl0, hl1, hl2, hl3], ?_, ?_, fun P hP => ?_⟩
      · simp only [HI, updN]; try simp; try omega
      · exact ⟨fun i hi' => by rcases (by omega : i = 0 ∨ i = 1 ∨ i = 2) with rfl | rfl | rfl <;> simp [updN] <;> omega, fun w => by simp [sumA, updN]; try omega⟩
      · intro i hi'; rcases (by omega : i = 0 ∨ i = 1 ∨ i = 2) with rfl | rfl | rfl <;> simp [updN] <;> exact hP _ (by decide)
theorem ef_rm_rem4 (m : MethodId) (q : Addr) : entryFrame m #[(.ref q)] 7 = mkF m 0 #[.val (.ref q), .unset, .unset, .unset, .unset, .unset, .unset] [] := by first | (simp [entryFrame, mkF, argsToLocals, Value.category]; done) | rfl
theorem rm_rem4 (l : Launch) (Z : State) (a0 : Array Value) (hw : ∀ d ∈ tables_1, d.before a0 Z = true) (q u v : Addr) (g : Nat → UInt64) (l' : Nat → Int32) (T : Nat → UInt64) (Lp : Nat → Int32) (K : Nat → Int) (a : Nat → Nat) (h0 : Heap) (n0 : Nat) (Z0 : n0 ≤ h0.size) (E_q : Exa Z h0 q "com/example/wavegrade/wavegrade/DepartureQueue") (F_size_q : Fld Z h0 q "com/example/wavegrade/wavegrade/DepartureQueue" "size" "I" (.int (4 : Int32))) (F_times_q : Fld Z h0 q "com/example/wavegrade/wavegrade/DepartureQueue" "times" "[D" (.ref u)) (F_lightpaths_q : Fld Z h0 q "com/example/wavegrade/wavegrade/DepartureQueue" "lightpaths" "[I" (.ref v)) (V_u : Dv Z h0 u (64 : Int32) g) (V_v : Iv Z h0 v (64 : Int32) l') (ne_q_u : q ≠ u) (ne_q_v : q ≠ v) (ne_u_v : u ≠ v) (ge_q : n0 ≤ q) (ge_u : n0 ≤ u) (ge_v : n0 ≤ v) (hT : ∀ x y, FP.dcmp (T x) (T y) = some (compare (K x) (K y))) (hg : ∀ i, i < 4 → g i = T (a i)) (hl : ∀ i, i < 4 → l' i = Lp (a i)) (hi : HI K a 4) :
    Con l Z (⟨"com/example/wavegrade/wavegrade/DepartureQueue", "removeFirst", "()I"⟩ : MethodName) prog_1_method_5_code 7 (some .int) ({ frames := 0, cells := 0, slots := 0, locals := 0 } : Room) #[(.ref q)] h0 (fun r h L => r = some (.int (Lp (a 0))) ∧ Fr n0 L ∧ Keep h0 h [q, u, v] ∧ Exa Z h q "com/example/wavegrade/wavegrade/DepartureQueue" ∧ Fld Z h q "com/example/wavegrade/wavegrade/DepartureQueue" "size" "I" (.int (3 : Int32)) ∧ Fld Z h q "com/example/wavegrade/wavegrade/DepartureQueue" "times" "[D" (.ref u) ∧ Fld Z h q "com/example/wavegrade/wavegrade/DepartureQueue" "lightpaths" "[I" (.ref v) ∧ ∃ (g2 : Nat → UInt64) (l2 : Nat → Int32) (a2 : Nat → Nat), Dv Z h u (64 : Int32) g2 ∧ Iv Z h v (64 : Int32) l2 ∧ (∀ i, i < 3 → g2 i = T (a2 i)) ∧ (∀ i, i < 3 → l2 i = Lp (a2 i)) ∧ HI K a2 3 ∧ ((∀ i, i < 3 → K (a 0) ≤ K (a2 i)) ∧ ∀ w : Nat → Int, sumA w a2 3 + w (a 0) = sumA w a 4) ∧ ∀ P : Nat → Prop, (∀ i, i < 4 → P (a i)) → ∀ i, i < 3 → P (a2 i)) :=
  con_of (plainFor_of_name pn_3) (fun p_ e_ s_ m_ b_ meth_ c_ T_ X_ hx hZ hby hml hown hnm hret hlk e0 => Go.cast (ef_rm_rem4 m_ q) (w_rem4 q u v g l' T Lp K a X_ hx hZ hw hby hml hown hnm hret hlk e0 Z0 (Fr.nil n0) E_q F_size_q F_times_q F_lightpaths_q V_u V_v ne_q_u ne_q_v ne_u_v ge_q ge_u ge_v hT hg hl hi))
set_option maxRecDepth 65536 in
set_option maxHeartbeats 40000000 in
theorem w_rem3 {p : Program} {l : Launch} {e : Env} {s : State} {m : MethodId} {args : Array Value} {below : List Frame} {meth : Method} {c_ : Code} {T0 : State} {locs : List Loc} {Z : State} {a0 : Array Value} {h0 : Heap} {n0 : Nat} (q u v : Addr) (g : Nat → UInt64) (l' : Nat → Int32) (T : Nat → UInt64) (Lp : Nat → Int32) (K : Nat → Int) (a : Nat → Nat)
    (X0 : Stand p l e ({ frames := 0, cells := 0, slots := 0, locals := 0 } : Room) s m args below meth c_ T0 locs 0 0) (hx : p.tables.exec = Jvm.exec) (hZ : Z.Warmed39 s.vm) (hw : ∀ d ∈ tables_1, d.before a0 Z = true) (hby : c_.code = prog_1_method_5_code) (hml : c_.maxLocals = 7) (hown : s.vm.findClass "com/example/wavegrade/wavegrade/DepartureQueue" = some m.cls) (hnm : meth.name = "removeFirst") (hret : meth.sig.returnType = some .int) (hlk : meth.locks = false) (e0 : T0.heap = h0) (Z0 : n0 ≤ h0.size) (N0 : Fr n0 locs) (E_q : Exa Z h0 q "com/example/wavegrade/wavegrade/DepartureQueue") (F_size_q : Fld Z h0 q "com/example/wavegrade/wavegrade/DepartureQueue" "size" "I" (.int (3 : Int32))) (F_times_q : Fld Z h0 q "com/example/wavegrade/wavegrade/DepartureQueue" "times" "[D" (.ref u)) (F_lightpaths_q : Fld Z h0 q "com/example/wavegrade/wavegrade/DepartureQueue" "lightpaths" "[I" (.ref v)) (V_u : Dv Z h0 u (64 : Int32) g) (V_v : Iv Z h0 v (64 : Int32) l') (ne_q_u : q ≠ u) (ne_q_v : q ≠ v) (ne_u_v : u ≠ v) (ge_q : n0 ≤ q) (ge_u : n0 ≤ u) (ge_v : n0 ≤ v) (hT : ∀ x y, FP.dcmp (T x) (T y) = some (compare (K x) (K y))) (hg : ∀ i, i < 3 → g i = T (a i)) (hl : ∀ i, i < 3 → l' i = Lp (a i)) (hi : HI K a 3) :
    Go p e below s ({ frames := 0, cells := 0, slots := 0, locals := 0 } : Room).cells ({ frames := 0, cells := 0, slots := 0, locals := 0 } : Room).slots (fun r h L => r = some (.int (Lp (a 0))) ∧ Fr n0 L ∧ Keep h0 h [q, u, v] ∧ Exa Z h q "com/example/wavegrade/wavegrade/DepartureQueue" ∧ Fld Z h q "com/example/wavegrade/wavegrade/DepartureQueue" "size" "I" (.int (2 : Int32)) ∧ Fld Z h q "com/example/wavegrade/wavegrade/DepartureQueue" "times" "[D" (.ref u) ∧ Fld Z h q "com/example/wavegrade/wavegrade/DepartureQueue" "lightpaths" "[I" (.ref v) ∧ ∃ (g2 : Nat → UInt64) (l2 : Nat → Int32) (a2 : Nat → Nat), Dv Z h u (64 : Int32) g2 ∧ Iv Z h v (64 : Int32) l2 ∧ (∀ i, i < 2 → g2 i = T (a2 i)) ∧ (∀ i, i < 2 → l2 i = Lp (a2 i)) ∧ HI K a2 2 ∧ ((∀ i, i < 2 → K (a 0) ≤ K (a2 i)) ∧ ∀ w : Nat → Int, sumA w a2 2 + w (a 0) = sumA w a 3) ∧ ∀ P : Nat → Prop, (∀ i, i < 3 → P (a i)) → ∀ i, i < 2 → P (a2 i)) T0 (mkF m 0 #[.val (.ref q), .unset, .unset, .unset, .unset, .unset, .unset] []) := by
  have hg0 := hg 0 (by decide)
  have hg1 := hg 1 (by decide)
  have hg2 := hg 2 (by decide)
  have hl0 := hl 0 (by decide)
  have hl1 := hl 1 (by decide)
  have hl2 := hl 2 (by decide)
  simp only [HI] at hi
  show Go _ _ _ _ _ _ _ T0 (mkF m 0 #[.val (.ref q), .unset, .unset, .unset, .unset, .unset, .unset] [])
  refine Go.step (fun _ k => XS.aloadN X0.here hx rfl (hb hby d7_0) rfl rfl k) ?_
  show Go _ _ _ _ _ _ _ T0 (mkF m 1 #[.val (.ref q), .unset, .unset, .unset, .unset, .unset, .unset] [(.ref q)])
  obtain ⟨T1, X1, e1, st1⟩ := getF X0 hx hZ hown (host := "") (Or.inl (hw _ (List.mem_of_getElem? (i := 21) rfl))) Via.refl e0 F_lightpaths_q (g := (mkF m 1 #[.val (.ref q), .unset, .unset, .unset, .unset, .unset, .unset] [(.ref q)])) rfl rfl (hb hby d7_1)
  refine Go.step st1 ?_
  show Go _ _ _ _ _ _ _ T1 (mkF m 4 #[.val (.ref q), .unset, .unset, .unset, .unset, .unset, .unset] [(.ref v)])
  refine Go.step (fun _ k => XS.iconst X1.here hx rfl (hb hby d7_4) k) ?_
  show Go _ _ _ _ _ _ _ T1 (mkF m 5 #[.val (.ref q), .unset, .unset, .unset, .unset, .unset, .unset] [(.int (0 : Int32)), (.ref v)])
  refine Go.iaload X1 hx hZ e1 V_v (j := (0 : Int32)) (v := (Lp (a 0))) (by decide) (by first | rfl | simp [updN, hg0, hg1, hg2, hl0, hl1, hl2]) (hb hby d7_5) ?_
  show Go _ _ _ _ _ _ _ T1 (mkF m 6 #[.val (.ref q), .unset, .unset, .unset, .unset, .unset, .unset] [(.int (Lp (a 0)))])
  refine Go.step (fun _ k => XS.istoreN X1.here hx rfl (hb hby d7_6) rfl (l' := #[.val (.ref q), .val (.int (Lp (a 0))), .unset, .unset, .unset, .unset, .unset]) rfl k) ?_
  show Go _ _ _ _ _ _ _ T1 (mkF m 7 #[.val (.ref q), .val (.int (Lp (a 0))), .unset, .unset, .unset, .unset, .unset] [])
  refine Go.step (fun _ k => XS.aloadN X1.here hx rfl (hb hby d7_7) rfl rfl k) ?_
  show Go _ _ _ _ _ _ _ T1 (mkF m 8 #[.val (.ref q), .val (.int (Lp (a 0))), .unset, .unset, .unset, .unset, .unset] [(.ref q)])
  refine Go.step (fun _ k => XS.dup X1.here hx rfl (hb hby d7_8) rfl rfl k) ?_
  show Go _ _ _ _ _ _ _ T1 (mkF m 9 #[.val (.ref q), .val (.int (Lp (a 0))), .unset, .unset, .unset, .unset, .unset] [(.ref q), (.ref q)])
  obtain ⟨T2, X2, e2, st2⟩ := getF X1 hx hZ hown (host := "") (Or.inl (hw _ (List.mem_of_getElem? (i := 28) rfl))) Via.refl e1 F_size_q (g := (mkF m 9 #[.val (.ref q), .val (.int (Lp (a 0))), .unset, .unset, .unset, .unset, .unset] [(.ref q), (.ref q)])) rfl rfl (hb hby d7_9)
  refine Go.step st2 ?_
  show Go _ _ _ _ _ _ _ T2 (mkF m 12 #[.val (.ref q), .val (.int (Lp (a 0))), .unset, .unset, .unset, .unset, .unset] [(.int (3 : Int32)), (.ref q)])
  refine Go.step (fun _ k => XS.iconst X2.here hx rfl (hb hby d7_12) k) ?_
  show Go _ _ _ _ _ _ _ T2 (mkF m 13 #[.val (.ref q), .val (.int (Lp (a 0))), .unset, .unset, .unset, .unset, .unset] [(.int (1 : Int32)), (.int (3 : Int32)), (.ref q)])
  refine Go.step (fun _ k => XS.isub X2.here hx rfl (hb hby d7_13) rfl k) ?_
  show Go _ _ _ _ _ _ _ T2 (mkF m 14 #[.val (.ref q), .val (.int (Lp (a 0))), .unset, .unset, .unset, .unset, .unset] [(.int (2 : Int32)), (.ref q)])
  obtain ⟨T3, h3, X3, e3, W3, st3⟩ := putF X2 hx hZ hown (host := "") (Or.inl (hw _ (List.mem_of_getElem? (i := 28) rfl))) Via.refl e2 F_size_q E_q (Or.inl (hw _ (List.mem_of_getElem? (i := 29) rfl))) (hw _ (List.mem_of_getElem? (i := 10) rfl)) (ty := .int) (by decide) rfl rfl (g := (mkF m 14 #[.val (.ref q), .val (.int (Lp (a 0))), .unset, .unset, .unset, .unset, .unset] [(.int (2 : Int32)), (.ref q)])) rfl rfl (hb hby d7_14)
  refine Go.step st3 ?_
  have N3 := Fr.snoc X3 N0 ge_q
  have F_size_q_3 := F_size_q.same W3
  have E_q_3 := E_q.wr W3
  have F_times_q_3 := F_times_q.other W3 (Or.inr (slot_ne (Or.inl (hw _ (List.mem_of_getElem? (i := 20) rfl))) (Or.inl (hw _ (List.mem_of_getElem? (i := 29) rfl))) (by decide) (t := (.array .double)) (t' := .int) (by decide) (by decide)))
  have F_lightpaths_q_3 := F_lightpaths_q.other W3 (Or.inr (slot_ne (Or.inl (hw _ (List.mem_of_getElem? (i := 22) rfl))) (Or.inl (hw _ (List.mem_of_getElem? (i := 29) rfl))) (by decide) (t := (.array .int)) (t' := .int) (by decide) (by decide)))
  have V_u_3 := V_u.other W3 (Ne.symm ne_q_u)
  have V_v_3 := V_v.other W3 (Ne.symm ne_q_v)
  have K3 : Keep h0 h3 [q, u, v] := (Keep.refl h0 [q, u, v]).wr W3 (Or.inl (List.mem_of_getElem? (i := 0) rfl))
  show Go _ _ _ _ _ _ _ T3 (mkF m 17 #[.val (.ref q), .val (.int (Lp (a 0))), .unset, .unset, .unset, .unset, .unset] [])
  refine Go.step (fun _ k => XS.aloadN X3.here hx rfl (hb hby d7_17) rfl rfl k) ?_
  show Go _ _ _ _ _ _ _ T3 (mkF m 18 #[.val (.ref q), .val (.int (Lp (a 0))), .unset, .unset, .unset, .unset, .unset] [(.ref q)])
  obtain ⟨T4, X4, e4, st4⟩ := getF X3 hx hZ hown (host := "") (Or.inl (hw _ (List.mem_of_getElem? (i := 19) rfl))) Via.refl e3 F_times_q_3 (g := (mkF m 18 #[.val (.ref q), .val (.int (Lp (a 0))), .unset, .unset, .unset, .unset, .unset] [(.ref q)])) rfl rfl (hb hby d7_18)
  refine Go.step st4 ?_
  show Go _ _ _ _ _ _ _ T4 (mkF m 21 #[.val (.ref q), .val (.int (Lp (a 0))), .unset, .unset, .unset, .unset, .unset] [(.ref u)])
  refine Go.step (fun _ k => XS.aloadN X4.here hx rfl (hb hby d7_21) rfl rfl k) ?_
  show Go _ _ _ _ _ _ _ T4 (mkF m 22 #[.val (.ref q), .val (.int (Lp (a 0))), .unset, .unset, .unset, .unset, .unset] [(.ref q), (.ref u)])
  obtain ⟨T5, X5, e5, st5⟩ := getF X4 hx hZ hown (host := "") (Or.inl (hw _ (List.mem_of_getElem? (i := 28) rfl))) Via.refl e4 F_size_q_3 (g := (mkF m 22 #[.val (.ref q), .val (.int (Lp (a 0))), .unset, .unset, .unset, .unset, .unset] [(.ref q), (.ref u)])) rfl rfl (hb hby d7_22)
  refine Go.step st5 ?_
  show Go _ _ _ _ _ _ _ T5 (mkF m 25 #[.val (.ref q), .val (.int (Lp (a 0))), .unset, .unset, .unset, .unset, .unset] [(.int (2 : Int32)), (.ref u)])
  refine Go.daload X5 hx hZ e5 V_u_3 (j := (2 : Int32)) (v := (T (a 2))) (by decide) (by first | rfl | simp [updN, hg0, hg1, hg2, hl0, hl1, hl2]) (hb hby d7_25) ?_
  show Go _ _ _ _ _ _ _ T5 (mkF m 26 #[.val (.ref q), .val (.int (Lp (a 0))), .unset, .unset, .unset, .unset, .unset] [(.double (T (a 2)))])
  refine Go.step (fun _ k => XS.dstoreN X5.here hx rfl (hb hby d7_26) rfl (l' := #[.val (.ref q), .val (.int (Lp (a 0))), .val (.double (T (a 2))), .second, .unset, .unset, .unset]) rfl k) ?_
  show Go _ _ _ _ _ _ _ T5 (mkF m 27 #[.val (.ref q), .val (.int (Lp (a 0))), .val (.double (T (a 2))), .second, .unset, .unset, .unset] [])
  refine Go.step (fun _ k => XS.aloadN X5.here hx rfl (hb hby d7_27) rfl rfl k) ?_
  show Go _ _ _ _ _ _ _ T5 (mkF m 28 #[.val (.ref q), .val (.int (Lp (a 0))), .val (.double (T (a 2))), .second, .unset, .unset, .unset] [(.ref q)])
  obtain ⟨T6, X6, e6, st6⟩ := getF X5 hx hZ hown (host := "") (Or.inl (hw _ (List.mem_of_getElem? (i := 21) rfl))) Via.refl e5 F_lightpaths_q_3 (g := (mkF m 28 #[.val (.ref q), .val (.int (Lp (a 0))), .val (.double (T (a 2))), .second, .unset, .unset, .unset] [(.ref q)])) rfl rfl (hb hby d7_28)
  refine Go.step st6 ?_
  show Go _ _ _ _ _ _ _ T6 (mkF m 31 #[.val (.ref q), .val (.int (Lp (a 0))), .val (.double (T (a 2))), .second, .unset, .unset, .unset] [(.ref v)])
  refine Go.step (fun _ k => XS.aloadN X6.here hx rfl (hb hby d7_31) rfl rfl k) ?_
  show Go _ _ _ _ _ _ _ T6 (mkF m 32 #[.val (.ref q), .val (.int (Lp (a 0))), .val (.double (T (a 2))), .second, .unset, .unset, .unset] [(.ref q), (.ref v)])
  obtain ⟨T7, X7, e7, st7⟩ := getF X6 hx hZ hown (host := "") (Or.inl (hw _ (List.mem_of_getElem? (i := 28) rfl))) Via.refl e6 F_size_q_3 (g := (mkF m 32 #[.val (.ref q), .val (.int (Lp (a 0))), .val (.double (T (a 2))), .second, .unset, .unset, .unset] [(.ref q), (.ref v)])) rfl rfl (hb hby d7_32)
  refine Go.step st7 ?_
  show Go _ _ _ _ _ _ _ T7 (mkF m 35 #[.val (.ref q), .val (.int (Lp (a 0))), .val (.double (T (a 2))), .second, .unset, .unset, .unset] [(.int (2 : Int32)), (.ref v)])
  refine Go.iaload X7 hx hZ e7 V_v_3 (j := (2 : Int32)) (v := (Lp (a 2))) (by decide) (by first | rfl | simp [updN, hg0, hg1, hg2, hl0, hl1, hl2]) (hb hby d7_35) ?_
  show Go _ _ _ _ _ _ _ T7 (mkF m 36 #[.val (.ref q), .val (.int (Lp (a 0))), .val (.double (T (a 2))), .second, .unset, .unset, .unset] [(.int (Lp (a 2)))])
  refine Go.step (fun _ k => XS.istore X7.here hx rfl (hb hby d7_36) rfl (l' := #[.val (.ref q), .val (.int (Lp (a 0))), .val (.double (T (a 2))), .second, .val (.int (Lp (a 2))), .unset, .unset]) rfl k) ?_
  show Go _ _ _ _ _ _ _ T7 (mkF m 38 #[.val (.ref q), .val (.int (Lp (a 0))), .val (.double (T (a 2))), .second, .val (.int (Lp (a 2))), .unset, .unset] [])
  refine Go.step (fun _ k => XS.iconst X7.here hx rfl (hb hby d7_38) k) ?_
  show Go _ _ _ _ _ _ _ T7 (mkF m 39 #[.val (.ref q), .val (.int (Lp (a 0))), .val (.double (T (a 2))), .second, .val (.int (Lp (a 2))), .unset, .unset] [(.int (0 : Int32))])
  refine Go.step (fun _ k => XS.istore X7.here hx rfl (hb hby d7_39) rfl (l' := #[.val (.ref q), .val (.int (Lp (a 0))), .val (.double (T (a 2))), .second, .val (.int (Lp (a 2))), .val (.int (0 : Int32)), .unset]) rfl k) ?_
  show Go _ _ _ _ _ _ _ T7 (mkF m 41 #[.val (.ref q), .val (.int (Lp (a 0))), .val (.double (T (a 2))), .second, .val (.int (Lp (a 2))), .val (.int (0 : Int32)), .unset] [])
  refine Go.step (fun _ k => XS.iconst X7.here hx rfl (hb hby d7_41) k) ?_
  show Go _ _ _ _ _ _ _ T7 (mkF m 42 #[.val (.ref q), .val (.int (Lp (a 0))), .val (.double (T (a 2))), .second, .val (.int (Lp (a 2))), .val (.int (0 : Int32)), .unset] [(.int (2 : Int32))])
  refine Go.step (fun _ k => XS.iload X7.here hx rfl (hb hby d7_42) rfl k) ?_
  show Go _ _ _ _ _ _ _ T7 (mkF m 44 #[.val (.ref q), .val (.int (Lp (a 0))), .val (.double (T (a 2))), .second, .val (.int (Lp (a 2))), .val (.int (0 : Int32)), .unset] [(.int (0 : Int32)), (.int (2 : Int32))])
  refine Go.step (fun _ k => XS.imul X7.here hx rfl (hb hby d7_44) rfl k) ?_
  show Go _ _ _ _ _ _ _ T7 (mkF m 45 #[.val (.ref q), .val (.int (Lp (a 0))), .val (.double (T (a 2))), .second, .val (.int (Lp (a 2))), .val (.int (0 : Int32)), .unset] [(.int (0 : Int32))])
  refine Go.step (fun _ k => XS.iconst X7.here hx rfl (hb hby d7_45) k) ?_
  show Go _ _ _ _ _ _ _ T7 (mkF m 46 #[.val (.ref q), .val (.int (Lp (a 0))), .val (.double (T (a 2))), .second, .val (.int (Lp (a 2))), .val (.int (0 : Int32)), .unset] [(.int (1 : Int32)), (.int (0 : Int32))])
  refine Go.step (fun _ k => XS.iadd X7.here hx rfl (hb hby d7_46) rfl k) ?_
  show Go _ _ _ _ _ _ _ T7 (mkF m 47 #[.val (.ref q), .val (.int (Lp (a 0))), .val (.double (T (a 2))), .second, .val (.int (Lp (a 2))), .val (.int (0 : Int32)), .unset] [(.int (1 : Int32))])
  refine Go.step (fun _ k => XS.istore X7.here hx rfl (hb hby d7_47) rfl (l' := #[.val (.ref q), .val (.int (Lp (a 0))), .val (.double (T (a 2))), .second, .val (.int (Lp (a 2))), .val (.int (0 : Int32)), .val (.int (1 : Int32))]) rfl k) ?_
  show Go _ _ _ _ _ _ _ T7 (mkF m 49 #[.val (.ref q), .val (.int (Lp (a 0))), .val (.double (T (a 2))), .second, .val (.int (Lp (a 2))), .val (.int (0 : Int32)), .val (.int (1 : Int32))] [])
  refine Go.step (fun _ k => XS.iload X7.here hx rfl (hb hby d7_49) rfl k) ?_
  show Go _ _ _ _ _ _ _ T7 (mkF m 51 #[.val (.ref q), .val (.int (Lp (a 0))), .val (.double (T (a 2))), .second, .val (.int (Lp (a 2))), .val (.int (0 : Int32)), .val (.int (1 : Int32))] [(.int (1 : Int32))])
  refine Go.step (fun _ k => XS.aloadN X7.here hx rfl (hb hby d7_51) rfl rfl k) ?_
  show Go _ _ _ _ _ _ _ T7 (mkF m 52 #[.val (.ref q), .val (.int (Lp (a 0))), .val (.double (T (a 2))), .second, .val (.int (Lp (a 2))), .val (.int (0 : Int32)), .val (.int (1 : Int32))] [(.ref q), (.int (1 : Int32))])
  obtain ⟨T8, X8, e8, st8⟩ := getF X7 hx hZ hown (host := "") (Or.inl (hw _ (List.mem_of_getElem? (i := 28) rfl))) Via.refl e7 F_size_q_3 (g := (mkF m 52 #[.val (.ref q), .val (.int (Lp (a 0))), .val (.double (T (a 2))), .second, .val (.int (Lp (a 2))), .val (.int (0 : Int32)), .val (.int (1 : Int32))] [(.ref q), (.int (1 : Int32))])) rfl rfl (hb hby d7_52)
  refine Go.step st8 ?_
  show Go _ _ _ _ _ _ _ T8 (mkF m 55 #[.val (.ref q), .val (.int (Lp (a 0))), .val (.double (T (a 2))), .second, .val (.int (Lp (a 2))), .val (.int (0 : Int32)), .val (.int (1 : Int32))] [(.int (2 : Int32)), (.int (1 : Int32))])
  refine Go.step (fun _ k => XS.icmpYes X8.here hx rfl (pc0 := 55) (pc' := 61) rfl (hb hby d7_55) rfl (tlt (by decide : (1 : Int32) < (2 : Int32))).1 (by decide) (by decide) k) ?_
  show Go _ _ _ _ _ _ _ T8 (mkF m 61 #[.val (.ref q), .val (.int (Lp (a 0))), .val (.double (T (a 2))), .second, .val (.int (Lp (a 2))), .val (.int (0 : Int32)), .val (.int (1 : Int32))] [])
  refine Go.step (fun _ k => XS.iload X8.here hx rfl (hb hby d7_61) rfl k) ?_
  show Go _ _ _ _ _ _ _ T8 (mkF m 63 #[.val (.ref q), .val (.int (Lp (a 0))), .val (.double (T (a 2))), .second, .val (.int (Lp (a 2))), .val (.int (0 : Int32)), .val (.int (1 : Int32))] [(.int (1 : Int32))])
  refine Go.step (fun _ k => XS.iconst X8.here hx rfl (hb hby d7_63) k) ?_
  show Go _ _ _ _ _ _ _ T8 (mkF m 64 #[.val (.ref q), .val (.int (Lp (a 0))), .val (.double (T (a 2))), .second, .val (.int (Lp (a 2))), .val (.int (0 : Int32)), .val (.int (1 : Int32))] [(.int (1 : Int32)), (.int (1 : Int32))])
  refine Go.step (fun _ k => XS.iadd X8.here hx rfl (hb hby d7_64) rfl k) ?_
  show Go _ _ _ _ _ _ _ T8 (mkF m 65 #[.val (.ref q), .val (.int (Lp (a 0))), .val (.double (T (a 2))), .second, .val (.int (Lp (a 2))), .val (.int (0 : Int32)), .val (.int (1 : Int32))] [(.int (2 : Int32))])
  refine Go.step (fun _ k => XS.aloadN X8.here hx rfl (hb hby d7_65) rfl rfl k) ?_
  show Go _ _ _ _ _ _ _ T8 (mkF m 66 #[.val (.ref q), .val (.int (Lp (a 0))), .val (.double (T (a 2))), .second, .val (.int (Lp (a 2))), .val (.int (0 : Int32)), .val (.int (1 : Int32))] [(.ref q), (.int (2 : Int32))])
  obtain ⟨T9, X9, e9, st9⟩ := getF X8 hx hZ hown (host := "") (Or.inl (hw _ (List.mem_of_getElem? (i := 28) rfl))) Via.refl e8 F_size_q_3 (g := (mkF m 66 #[.val (.ref q), .val (.int (Lp (a 0))), .val (.double (T (a 2))), .second, .val (.int (Lp (a 2))), .val (.int (0 : Int32)), .val (.int (1 : Int32))] [(.ref q), (.int (2 : Int32))])) rfl rfl (hb hby d7_66)
  refine Go.step st9 ?_
  show Go _ _ _ _ _ _ _ T9 (mkF m 69 #[.val (.ref q), .val (.int (Lp (a 0))), .val (.double (T (a 2))), .second, .val (.int (Lp (a 2))), .val (.int (0 : Int32)), .val (.int (1 : Int32))] [(.int (2 : Int32)), (.int (2 : Int32))])
  refine Go.step (fun _ k => XS.icmpYes X9.here hx rfl (pc0 := 69) (pc' := 95) rfl (hb hby d7_69) rfl (flt (by decide : ¬ ((2 : Int32) < (2 : Int32)))).2.1 (by decide) (by decide) k) ?_
  show Go _ _ _ _ _ _ _ T9 (mkF m 95 #[.val (.ref q), .val (.int (Lp (a 0))), .val (.double (T (a 2))), .second, .val (.int (Lp (a 2))), .val (.int (0 : Int32)), .val (.int (1 : Int32))] [])
  refine Go.step (fun _ k => XS.aloadN X9.here hx rfl (hb hby d7_95) rfl rfl k) ?_
  show Go _ _ _ _ _ _ _ T9 (mkF m 96 #[.val (.ref q), .val (.int (Lp (a 0))), .val (.double (T (a 2))), .second, .val (.int (Lp (a 2))), .val (.int (0 : Int32)), .val (.int (1 : Int32))] [(.ref q)])
  obtain ⟨T10, X10, e10, st10⟩ := getF X9 hx hZ hown (host := "") (Or.inl (hw _ (List.mem_of_getElem? (i := 19) rfl))) Via.refl e9 F_times_q_3 (g := (mkF m 96 #[.val (.ref q), .val (.int (Lp (a 0))), .val (.double (T (a 2))), .second, .val (.int (Lp (a 2))), .val (.int (0 : Int32)), .val (.int (1 : Int32))] [(.ref q)])) rfl rfl (hb hby d7_96)
  refine Go.step st10 ?_
  show Go _ _ _ _ _ _ _ T10 (mkF m 99 #[.val (.ref q), .val (.int (Lp (a 0))), .val (.double (T (a 2))), .second, .val (.int (Lp (a 2))), .val (.int (0 : Int32)), .val (.int (1 : Int32))] [(.ref u)])
  refine Go.step (fun _ k => XS.iload X10.here hx rfl (hb hby d7_99) rfl k) ?_
  show Go _ _ _ _ _ _ _ T10 (mkF m 101 #[.val (.ref q), .val (.int (Lp (a 0))), .val (.double (T (a 2))), .second, .val (.int (Lp (a 2))), .val (.int (0 : Int32)), .val (.int (1 : Int32))] [(.int (1 : Int32)), (.ref u)])
  refine Go.daload X10 hx hZ e10 V_u_3 (j := (1 : Int32)) (v := (T (a 1))) (by decide) (by first | rfl | simp [updN, hg0, hg1, hg2, hl0, hl1, hl2]) (hb hby d7_101) ?_
  show Go _ _ _ _ _ _ _ T10 (mkF m 102 #[.val (.ref q), .val (.int (Lp (a 0))), .val (.double (T (a 2))), .second, .val (.int (Lp (a 2))), .val (.int (0 : Int32)), .val (.int (1 : Int32))] [(.double (T (a 1)))])
  refine Go.step (fun _ k => XS.dloadN X10.here hx rfl (hb hby d7_102) rfl k) ?_
  show Go _ _ _ _ _ _ _ T10 (mkF m 103 #[.val (.ref q), .val (.int (Lp (a 0))), .val (.double (T (a 2))), .second, .val (.int (Lp (a 2))), .val (.int (0 : Int32)), .val (.int (1 : Int32))] [(.double (T (a 2))), (.double (T (a 1)))])
  refine Go.step (fun _ k => XS.dcmpS X10.here hx rfl (hb hby d7_103) rfl rfl k) ?_
  show Go _ _ _ _ _ _ _ T10 (mkF m 104 #[.val (.ref q), .val (.int (Lp (a 0))), .val (.double (T (a 2))), .second, .val (.int (Lp (a 2))), .val (.int (0 : Int32)), .val (.int (1 : Int32))] [(.int (cmpValue (FP.dcmp (T (a 1)) (T (a 2))) .l))])
  by_cases hd104_11 : (FP.dcmp (T (a 1)) (T (a 2)) = some .gt ∨ FP.dcmp (T (a 1)) (T (a 2)) = some .eq)
  · refine Go.step (fun _ k => XS.ifNo X10.here hx rfl (hb hby d7_104) rfl (ge_y hd104_11) k) ?_
    show Go _ _ _ _ _ _ _ T10 (mkF m 107 #[.val (.ref q), .val (.int (Lp (a 0))), .val (.double (T (a 2))), .second, .val (.int (Lp (a 2))), .val (.int (0 : Int32)), .val (.int (1 : Int32))] [])
    refine Go.step (fun _ k => XS.goto X10.here hx rfl (pc0 := 107) (pc' := 145) rfl (hb hby d7_107) (by decide) (by decide) k) ?_
    show Go _ _ _ _ _ _ _ T10 (mkF m 145 #[.val (.ref q), .val (.int (Lp (a 0))), .val (.double (T (a 2))), .second, .val (.int (Lp (a 2))), .val (.int (0 : Int32)), .val (.int (1 : Int32))] [])
    refine Go.step (fun _ k => XS.aloadN X10.here hx rfl (hb hby d7_145) rfl rfl k) ?_
    show Go _ _ _ _ _ _ _ T10 (mkF m 146 #[.val (.ref q), .val (.int (Lp (a 0))), .val (.double (T (a 2))), .second, .val (.int (Lp (a 2))), .val (.int (0 : Int32)), .val (.int (1 : Int32))] [(.ref q)])
    obtain ⟨T12, X12, e12, st12⟩ := getF X10 hx hZ hown (host := "") (Or.inl (hw _ (List.mem_of_getElem? (i := 19) rfl))) Via.refl e10 F_times_q_3 (g := (mkF m 146 #[.val (.ref q), .val (.int (Lp (a 0))), .val (.double (T (a 2))), .second, .val (.int (Lp (a 2))), .val (.int (0 : Int32)), .val (.int (1 : Int32))] [(.ref q)])) rfl rfl (hb hby d7_146)
    refine Go.step st12 ?_
    show Go _ _ _ _ _ _ _ T12 (mkF m 149 #[.val (.ref q), .val (.int (Lp (a 0))), .val (.double (T (a 2))), .second, .val (.int (Lp (a 2))), .val (.int (0 : Int32)), .val (.int (1 : Int32))] [(.ref u)])
    refine Go.step (fun _ k => XS.iload X12.here hx rfl (hb hby d7_149) rfl k) ?_
    show Go _ _ _ _ _ _ _ T12 (mkF m 151 #[.val (.ref q), .val (.int (Lp (a 0))), .val (.double (T (a 2))), .second, .val (.int (Lp (a 2))), .val (.int (0 : Int32)), .val (.int (1 : Int32))] [(.int (0 : Int32)), (.ref u)])
    refine Go.step (fun _ k => XS.dloadN X12.here hx rfl (hb hby d7_151) rfl k) ?_
    show Go _ _ _ _ _ _ _ T12 (mkF m 152 #[.val (.ref q), .val (.int (Lp (a 0))), .val (.double (T (a 2))), .second, .val (.int (Lp (a 2))), .val (.int (0 : Int32)), .val (.int (1 : Int32))] [(.double (T (a 2))), (.int (0 : Int32)), (.ref u)])
    refine Go.dastore X12 hx hZ e12 V_u_3 (j := (0 : Int32)) (x := (T (a 2))) (by decide) (hb hby d7_152) ?_
    intro T13 h13 X13 e13 W13 Vn13
    have V_u_13 : Dv Z h13 u (64 : Int32) (updN g 0 (T (a 2))) := Vn13
    have N13 := Fr.snoc X13 N3 ge_u
    have E_q_13 := E_q_3.wr W13
    have F_size_q_13 := F_size_q_3.other W13 (Or.inl ne_q_u)
    have F_times_q_13 := F_times_q_3.other W13 (Or.inl ne_q_u)
    have F_lightpaths_q_13 := F_lightpaths_q_3.other W13 (Or.inl ne_q_u)
    have V_v_13 := V_v_3.other W13 (Ne.symm ne_u_v)
    have K13 : Keep h0 h13 [q, u, v] := K3.wr W13 (Or.inl (List.mem_of_getElem? (i := 1) rfl))
    show Go _ _ _ _ _ _ _ T13 (mkF m 153 #[.val (.ref q), .val (.int (Lp (a 0))), .val (.double (T (a 2))), .second, .val (.int (Lp (a 2))), .val (.int (0 : Int32)), .val (.int (1 : Int32))] [])
    refine Go.step (fun _ k => XS.aloadN X13.here hx rfl (hb hby d7_153) rfl rfl k) ?_
    show Go _ _ _ _ _ _ _ T13 (mkF m 154 #[.val (.ref q), .val (.int (Lp (a 0))), .val (.double (T (a 2))), .second, .val (.int (Lp (a 2))), .val (.int (0 : Int32)), .val (.int (1 : Int32))] [(.ref q)])
    obtain ⟨T14, X14, e14, st14⟩ := getF X13 hx hZ hown (host := "") (Or.inl (hw _ (List.mem_of_getElem? (i := 21) rfl))) Via.refl e13 F_lightpaths_q_13 (g := (mkF m 154 #[.val (.ref q), .val (.int (Lp (a 0))), .val (.double (T (a 2))), .second, .val (.int (Lp (a 2))), .val (.int (0 : Int32)), .val (.int (1 : Int32))] [(.ref q)])) rfl rfl (hb hby d7_154)
    refine Go.step st14 ?_
    show Go _ _ _ _ _ _ _ T14 (mkF m 157 #[.val (.ref q), .val (.int (Lp (a 0))), .val (.double (T (a 2))), .second, .val (.int (Lp (a 2))), .val (.int (0 : Int32)), .val (.int (1 : Int32))] [(.ref v)])
    refine Go.step (fun _ k => XS.iload X14.here hx rfl (hb hby d7_157) rfl k) ?_
    show Go _ _ _ _ _ _ _ T14 (mkF m 159 #[.val (.ref q), .val (.int (Lp (a 0))), .val (.double (T (a 2))), .second, .val (.int (Lp (a 2))), .val (.int (0 : Int32)), .val (.int (1 : Int32))] [(.int (0 : Int32)), (.ref v)])
    refine Go.step (fun _ k => XS.iload X14.here hx rfl (hb hby d7_159) rfl k) ?_
    show Go _ _ _ _ _ _ _ T14 (mkF m 161 #[.val (.ref q), .val (.int (Lp (a 0))), .val (.double (T (a 2))), .second, .val (.int (Lp (a 2))), .val (.int (0 : Int32)), .val (.int (1 : Int32))] [(.int (Lp (a 2))), (.int (0 : Int32)), (.ref v)])
    refine Go.iastore X14 hx hZ e14 V_v_13 (j := (0 : Int32)) (x := (Lp (a 2))) (by decide) (hb hby d7_161) ?_
    intro T15 h15 X15 e15 W15 Vn15
    have V_v_15 : Iv Z h15 v (64 : Int32) (updN l' 0 (Lp (a 2))) := Vn15
    have N15 := Fr.snoc X15 N13 ge_v
    have E_q_15 := E_q_13.wr W15
    have F_size_q_15 := F_size_q_13.other W15 (Or.inl ne_q_v)
    have F_times_q_15 := F_times_q_13.other W15 (Or.inl ne_q_v)
    have F_lightpaths_q_15 := F_lightpaths_q_13.other W15 (Or.inl ne_q_v)
    have V_u_15 := V_u_13.other W15 ne_u_v
    have K15 : Keep h0 h15 [q, u, v] := K13.wr W15 (Or.inl (List.mem_of_getElem? (i := 2) rfl))
    show Go _ _ _ _ _ _ _ T15 (mkF m 162 #[.val (.ref q), .val (.int (Lp (a 0))), .val (.double (T (a 2))), .second, .val (.int (Lp (a 2))), .val (.int (0 : Int32)), .val (.int (1 : Int32))] [])
    refine Go.step (fun _ k => XS.iloadN X15.here hx rfl (hb hby d7_162) rfl k) ?_
    show Go _ _ _ _ _ _ _ T15 (mkF m 163 #[.val (.ref q), .val (.int (Lp (a 0))), .val (.double (T (a 2))), .second, .val (.int (Lp (a 2))), .val (.int (0 : Int32)), .val (.int (1 : Int32))] [(.int (Lp (a 0)))])
    refine Go.retI X15 hx hlk hret (hb hby d7_163) (by decide) (by decide) ?_
    try rw [e15]
    have := own_geK hT hd104_11
    refine ⟨rfl, N15, K15, E_q_15, F_size_q_15, F_times_q_15, F_lightpaths_q_15, _, _, (updN a 0 (a 2)), V_u_15, V_v_15, fun i hi' => by rcases (by omega : i = 0 ∨ i = 1) with rfl | rfl <;> first | rfl | simp [updN, hg0, hg1, hg2, hl0, hl1, hl2], fun i hi' => by rcases (by omega : i = 0 ∨ i = 1) with rfl | rfl <;> first | rfl | simp [updN, hg0, hg1, hg2, hl0, hl1, hl2], ?_, ?_, fun P hP => ?_⟩
    · simp only [HI, updN]; try simp; try omega
    · exact ⟨fun i hi' => by rcases (by omega : i = 0 ∨ i = 1) with rfl | rfl <;> simp [updN] <;> omega, fun w => by simp [sumA, updN]; try omega⟩
    · intro i hi'; rcases (by omega : i = 0 ∨ i = 1) with rfl | rfl <;> simp [updN] <;> exact hP _ (by decide)
  · refine Go.step (fun _ k => XS.ifYes X10.here hx rfl (pc0 := 104) (pc' := 110) rfl (hb hby d7_104) rfl (ge_n hd104_11) (by decide) (by decide) k) ?_
    show Go _ _ _ _ _ _ _ T10 (mkF m 110 #[.val (.ref q), .val (.int (Lp (a 0))), .val (.double (T (a 2))), .second, .val (.int (Lp (a 2))), .val (.int (0 : Int32)), .val (.int (1 : Int32))] [])
    refine Go.step (fun _ k => XS.aloadN X10.here hx rfl (hb hby d7_110) rfl rfl k) ?_
    show Go _ _ _ _ _ _ _ T10 (mkF m 111 #[.val (.ref q), .val (.int (Lp (a 0))), .val (.double (T (a 2))), .second, .val (.int (Lp (a 2))), .val (.int (0 : Int32)), .val (.int (1 : Int32))] [(.ref q)])
    obtain ⟨T16, X16, e16, st16⟩ := getF X10 hx hZ hown (host := "") (Or.inl (hw _ (List.mem_of_getElem? (i := 19) rfl))) Via.refl e10 F_times_q_3 (g := (mkF m 111 #[.val (.ref q), .val (.int (Lp (a 0))), .val (.double (T (a 2))), .second, .val (.int (Lp (a 2))), .val (.int (0 : Int32)), .val (.int (1 : Int32))] [(.ref q)])) rfl rfl (hb hby d7_111)
    refine Go.step st16 ?_
    show Go _ _ _ _ _ _ _ T16 (mkF m 114 #[.val (.ref q), .val (.int (Lp (a 0))), .val (.double (T (a 2))), .second, .val (.int (Lp (a 2))), .val (.int (0 : Int32)), .val (.int (1 : Int32))] [(.ref u)])
    refine Go.step (fun _ k => XS.iload X16.here hx rfl (hb hby d7_114) rfl k) ?_
    show Go _ _ _ _ _ _ _ T16 (mkF m 116 #[.val (.ref q), .val (.int (Lp (a 0))), .val (.double (T (a 2))), .second, .val (.int (Lp (a 2))), .val (.int (0 : Int32)), .val (.int (1 : Int32))] [(.int (0 : Int32)), (.ref u)])
    refine Go.step (fun _ k => XS.aloadN X16.here hx rfl (hb hby d7_116) rfl rfl k) ?_
    show Go _ _ _ _ _ _ _ T16 (mkF m 117 #[.val (.ref q), .val (.int (Lp (a 0))), .val (.double (T (a 2))), .second, .val (.int (Lp (a 2))), .val (.int (0 : Int32)), .val (.int (1 : Int32))] [(.ref q), (.int (0 : Int32)), (.ref u)])
    obtain ⟨T17, X17, e17, st17⟩ := getF X16 hx hZ hown (host := "") (Or.inl (hw _ (List.mem_of_getElem? (i := 19) rfl))) Via.refl e16 F_times_q_3 (g := (mkF m 117 #[.val (.ref q), .val (.int (Lp (a 0))), .val (.double (T (a 2))), .second, .val (.int (Lp (a 2))), .val (.int (0 : Int32)), .val (.int (1 : Int32))] [(.ref q), (.int (0 : Int32)), (.ref u)])) rfl rfl (hb hby d7_117)
    refine Go.step st17 ?_
    show Go _ _ _ _ _ _ _ T17 (mkF m 120 #[.val (.ref q), .val (.int (Lp (a 0))), .val (.double (T (a 2))), .second, .val (.int (Lp (a 2))), .val (.int (0 : Int32)), .val (.int (1 : Int32))] [(.ref u), (.int (0 : Int32)), (.ref u)])
    refine Go.step (fun _ k => XS.iload X17.here hx rfl (hb hby d7_120) rfl k) ?_
    show Go _ _ _ _ _ _ _ T17 (mkF m 122 #[.val (.ref q), .val (.int (Lp (a 0))), .val (.double (T (a 2))), .second, .val (.int (Lp (a 2))), .val (.int (0 : Int32)), .val (.int (1 : Int32))] [(.int (1 : Int32)), (.ref u), (.int (0 : Int32)), (.ref u)])
    refine Go.daload X17 hx hZ e17 V_u_3 (j := (1 : Int32)) (v := (T (a 1))) (by decide) (by first | rfl | simp [updN, hg0, hg1, hg2, hl0, hl1, hl2]) (hb hby d7_122) ?_
    show Go _ _ _ _ _ _ _ T17 (mkF m 123 #[.val (.ref q), .val (.int (Lp (a 0))), .val (.double (T (a 2))), .second, .val (.int (Lp (a 2))), .val (.int (0 : Int32)), .val (.int (1 : Int32))] [(.double (T (a 1))), (.int (0 : Int32)), (.ref u)])
    refine Go.dastore X17 hx hZ e17 V_u_3 (j := (0 : Int32)) (x := (T (a 1))) (by decide) (hb hby d7_123) ?_
    intro T18 h18 X18 e18 W18 Vn18
    have V_u_18 : Dv Z h18 u (64 : Int32) (updN g 0 (T (a 1))) := Vn18
    have N18 := Fr.snoc X18 N3 ge_u
    have E_q_18 := E_q_3.wr W18
    have F_size_q_18 := F_size_q_3.other W18 (Or.inl ne_q_u)
    have F_times_q_18 := F_times_q_3.other W18 (Or.inl ne_q_u)
    have F_lightpaths_q_18 := F_lightpaths_q_3.other W18 (Or.inl ne_q_u)
    have V_v_18 := V_v_3.other W18 (Ne.symm ne_u_v)
    have K18 : Keep h0 h18 [q, u, v] := K3.wr W18 (Or.inl (List.mem_of_getElem? (i := 1) rfl))
    show Go _ _ _ _ _ _ _ T18 (mkF m 124 #[.val (.ref q), .val (.int (Lp (a 0))), .val (.double (T (a 2))), .second, .val (.int (Lp (a 2))), .val (.int (0 : Int32)), .val (.int (1 : Int32))] [])
    refine Go.step (fun _ k => XS.aloadN X18.here hx rfl (hb hby d7_124) rfl rfl k) ?_
    show Go _ _ _ _ _ _ _ T18 (mkF m 125 #[.val (.ref q), .val (.int (Lp (a 0))), .val (.double (T (a 2))), .second, .val (.int (Lp (a 2))), .val (.int (0 : Int32)), .val (.int (1 : Int32))] [(.ref q)])
    obtain ⟨T19, X19, e19, st19⟩ := getF X18 hx hZ hown (host := "") (Or.inl (hw _ (List.mem_of_getElem? (i := 21) rfl))) Via.refl e18 F_lightpaths_q_18 (g := (mkF m 125 #[.val (.ref q), .val (.int (Lp (a 0))), .val (.double (T (a 2))), .second, .val (.int (Lp (a 2))), .val (.int (0 : Int32)), .val (.int (1 : Int32))] [(.ref q)])) rfl rfl (hb hby d7_125)
    refine Go.step st19 ?_
    show Go _ _ _ _ _ _ _ T19 (mkF m 128 #[.val (.ref q), .val (.int (Lp (a 0))), .val (.double (T (a 2))), .second, .val (.int (Lp (a 2))), .val (.int (0 : Int32)), .val (.int (1 : Int32))] [(.ref v)])
    refine Go.step (fun _ k => XS.iload X19.here hx rfl (hb hby d7_128) rfl k) ?_
    show Go _ _ _ _ _ _ _ T19 (mkF m 130 #[.val (.ref q), .val (.int (Lp (a 0))), .val (.double (T (a 2))), .second, .val (.int (Lp (a 2))), .val (.int (0 : Int32)), .val (.int (1 : Int32))] [(.int (0 : Int32)), (.ref v)])
    refine Go.step (fun _ k => XS.aloadN X19.here hx rfl (hb hby d7_130) rfl rfl k) ?_
    show Go _ _ _ _ _ _ _ T19 (mkF m 131 #[.val (.ref q), .val (.int (Lp (a 0))), .val (.double (T (a 2))), .second, .val (.int (Lp (a 2))), .val (.int (0 : Int32)), .val (.int (1 : Int32))] [(.ref q), (.int (0 : Int32)), (.ref v)])
    obtain ⟨T20, X20, e20, st20⟩ := getF X19 hx hZ hown (host := "") (Or.inl (hw _ (List.mem_of_getElem? (i := 21) rfl))) Via.refl e19 F_lightpaths_q_18 (g := (mkF m 131 #[.val (.ref q), .val (.int (Lp (a 0))), .val (.double (T (a 2))), .second, .val (.int (Lp (a 2))), .val (.int (0 : Int32)), .val (.int (1 : Int32))] [(.ref q), (.int (0 : Int32)), (.ref v)])) rfl rfl (hb hby d7_131)
    refine Go.step st20 ?_
    show Go _ _ _ _ _ _ _ T20 (mkF m 134 #[.val (.ref q), .val (.int (Lp (a 0))), .val (.double (T (a 2))), .second, .val (.int (Lp (a 2))), .val (.int (0 : Int32)), .val (.int (1 : Int32))] [(.ref v), (.int (0 : Int32)), (.ref v)])
    refine Go.step (fun _ k => XS.iload X20.here hx rfl (hb hby d7_134) rfl k) ?_
    show Go _ _ _ _ _ _ _ T20 (mkF m 136 #[.val (.ref q), .val (.int (Lp (a 0))), .val (.double (T (a 2))), .second, .val (.int (Lp (a 2))), .val (.int (0 : Int32)), .val (.int (1 : Int32))] [(.int (1 : Int32)), (.ref v), (.int (0 : Int32)), (.ref v)])
    refine Go.iaload X20 hx hZ e20 V_v_18 (j := (1 : Int32)) (v := (Lp (a 1))) (by decide) (by first | rfl | simp [updN, hg0, hg1, hg2, hl0, hl1, hl2]) (hb hby d7_136) ?_
    show Go _ _ _ _ _ _ _ T20 (mkF m 137 #[.val (.ref q), .val (.int (Lp (a 0))), .val (.double (T (a 2))), .second, .val (.int (Lp (a 2))), .val (.int (0 : Int32)), .val (.int (1 : Int32))] [(.int (Lp (a 1))), (.int (0 : Int32)), (.ref v)])
    refine Go.iastore X20 hx hZ e20 V_v_18 (j := (0 : Int32)) (x := (Lp (a 1))) (by decide) (hb hby d7_137) ?_
    intro T21 h21 X21 e21 W21 Vn21
    have V_v_21 : Iv Z h21 v (64 : Int32) (updN l' 0 (Lp (a 1))) := Vn21
    have N21 := Fr.snoc X21 N18 ge_v
    have E_q_21 := E_q_18.wr W21
    have F_size_q_21 := F_size_q_18.other W21 (Or.inl ne_q_v)
    have F_times_q_21 := F_times_q_18.other W21 (Or.inl ne_q_v)
    have F_lightpaths_q_21 := F_lightpaths_q_18.other W21 (Or.inl ne_q_v)
    have V_u_21 := V_u_18.other W21 ne_u_v
    have K21 : Keep h0 h21 [q, u, v] := K18.wr W21 (Or.inl (List.mem_of_getElem? (i := 2) rfl))
    show Go _ _ _ _ _ _ _ T21 (mkF m 138 #[.val (.ref q), .val (.int (Lp (a 0))), .val (.double (T (a 2))), .second, .val (.int (Lp (a 2))), .val (.int (0 : Int32)), .val (.int (1 : Int32))] [])
    refine Go.step (fun _ k => XS.iload X21.here hx rfl (hb hby d7_138) rfl k) ?_
    show Go _ _ _ _ _ _ _ T21 (mkF m 140 #[.val (.ref q), .val (.int (Lp (a 0))), .val (.double (T (a 2))), .second, .val (.int (Lp (a 2))), .val (.int (0 : Int32)), .val (.int (1 : Int32))] [(.int (1 : Int32))])
    refine Go.step (fun _ k => XS.istore X21.here hx rfl (hb hby d7_140) rfl (l' := #[.val (.ref q), .val (.int (Lp (a 0))), .val (.double (T (a 2))), .second, .val (.int (Lp (a 2))), .val (.int (1 : Int32)), .val (.int (1 : Int32))]) rfl k) ?_
    show Go _ _ _ _ _ _ _ T21 (mkF m 142 #[.val (.ref q), .val (.int (Lp (a 0))), .val (.double (T (a 2))), .second, .val (.int (Lp (a 2))), .val (.int (1 : Int32)), .val (.int (1 : Int32))] [])
    refine Go.step (fun _ k => XS.goto X21.here hx rfl (pc0 := 142) (pc' := 41) rfl (hb hby d7_142) (by decide) (by decide) k) ?_
    show Go _ _ _ _ _ _ _ T21 (mkF m 41 #[.val (.ref q), .val (.int (Lp (a 0))), .val (.double (T (a 2))), .second, .val (.int (Lp (a 2))), .val (.int (1 : Int32)), .val (.int (1 : Int32))] [])
    refine Go.step (fun _ k => XS.iconst X21.here hx rfl (hb hby d7_41) k) ?_
    show Go _ _ _ _ _ _ _ T21 (mkF m 42 #[.val (.ref q), .val (.int (Lp (a 0))), .val (.double (T (a 2))), .second, .val (.int (Lp (a 2))), .val (.int (1 : Int32)), .val (.int (1 : Int32))] [(.int (2 : Int32))])
    refine Go.step (fun _ k => XS.iload X21.here hx rfl (hb hby d7_42) rfl k) ?_
    show Go _ _ _ _ _ _ _ T21 (mkF m 44 #[.val (.ref q), .val (.int (Lp (a 0))), .val (.double (T (a 2))), .second, .val (.int (Lp (a 2))), .val (.int (1 : Int32)), .val (.int (1 : Int32))] [(.int (1 : Int32)), (.int (2 : Int32))])
    refine Go.step (fun _ k => XS.imul X21.here hx rfl (hb hby d7_44) rfl k) ?_
    show Go _ _ _ _ _ _ _ T21 (mkF m 45 #[.val (.ref q), .val (.int (Lp (a 0))), .val (.double (T (a 2))), .second, .val (.int (Lp (a 2))), .val (.int (1 : Int32)), .val (.int (1 : Int32))] [(.int (2 : Int32))])
    refine Go.step (fun _ k => XS.iconst X21.here hx rfl (hb hby d7_45) k) ?_
    show Go _ _ _ _ _ _ _ T21 (mkF m 46 #[.val (.ref q), .val (.int (Lp (a 0))), .val (.double (T (a 2))), .second, .val (.int (Lp (a 2))), .val (.int (1 : Int32)), .val (.int (1 : Int32))] [(.int (1 : Int32)), (.int (2 : Int32))])
    refine Go.step (fun _ k => XS.iadd X21.here hx rfl (hb hby d7_46) rfl k) ?_
    show Go _ _ _ _ _ _ _ T21 (mkF m 47 #[.val (.ref q), .val (.int (Lp (a 0))), .val (.double (T (a 2))), .second, .val (.int (Lp (a 2))), .val (.int (1 : Int32)), .val (.int (1 : Int32))] [(.int (3 : Int32))])
    refine Go.step (fun _ k => XS.istore X21.here hx rfl (hb hby d7_47) rfl (l' := #[.val (.ref q), .val (.int (Lp (a 0))), .val (.double (T (a 2))), .second, .val (.int (Lp (a 2))), .val (.int (1 : Int32)), .val (.int (3 : Int32))]) rfl k) ?_
    show Go _ _ _ _ _ _ _ T21 (mkF m 49 #[.val (.ref q), .val (.int (Lp (a 0))), .val (.double (T (a 2))), .second, .val (.int (Lp (a 2))), .val (.int (1 : Int32)), .val (.int (3 : Int32))] [])
    refine Go.step (fun _ k => XS.iload X21.here hx rfl (hb hby d7_49) rfl k) ?_
    show Go _ _ _ _ _ _ _ T21 (mkF m 51 #[.val (.ref q), .val (.int (Lp (a 0))), .val (.double (T (a 2))), .second, .val (.int (Lp (a 2))), .val (.int (1 : Int32)), .val (.int (3 : Int32))] [(.int (3 : Int32))])
    refine Go.step (fun _ k => XS.aloadN X21.here hx rfl (hb hby d7_51) rfl rfl k) ?_
    show Go _ _ _ _ _ _ _ T21 (mkF m 52 #[.val (.ref q), .val (.int (Lp (a 0))), .val (.double (T (a 2))), .second, .val (.int (Lp (a 2))), .val (.int (1 : Int32)), .val (.int (3 : Int32))] [(.ref q), (.int (3 : Int32))])
    obtain ⟨T22, X22, e22, st22⟩ := getF X21 hx hZ hown (host := "") (Or.inl (hw _ (List.mem_of_getElem? (i := 28) rfl))) Via.refl e21 F_size_q_21 (g := (mkF m 52 #[.val (.ref q), .val (.int (Lp (a 0))), .val (.double (T (a 2))), .second, .val (.int (Lp (a 2))), .val (.int (1 : Int32)), .val (.int (3 : Int32))] [(.ref q), (.int (3 : Int32))])) rfl rfl (hb hby d7_52)
    refine Go.step st22 ?_
    show Go _ _ _ _ _ _ _ T22 (mkF m 55 #[.val (.ref q), .val (.int (Lp (a 0))), .val (.double (T (a 2))), .second, .val (.int (Lp (a 2))), .val (.int (1 : Int32)), .val (.int (3 : Int32))] [(.int (2 : Int32)), (.int (3 : Int32))])
    refine Go.step (fun _ k => XS.icmpNo X22.here hx rfl (hb hby d7_55) rfl (flt (by decide : ¬ ((3 : Int32) < (2 : Int32)))).1 k) ?_
    show Go _ _ _ _ _ _ _ T22 (mkF m 58 #[.val (.ref q), .val (.int (Lp (a 0))), .val (.double (T (a 2))), .second, .val (.int (Lp (a 2))), .val (.int (1 : Int32)), .val (.int (3 : Int32))] [])
    refine Go.step (fun _ k => XS.goto X22.here hx rfl (pc0 := 58) (pc' := 145) rfl (hb hby d7_58) (by decide) (by decide) k) ?_
    show Go _ _ _ _ _ _ _ T22 (mkF m 145 #[.val (.ref q), .val (.int (Lp (a 0))), .val (.double (T (a 2))), .second, .val (.int (Lp (a 2))), .val (.int (1 : Int32)), .val (.int (3 : Int32))] [])
    refine Go.step (fun _ k => XS.aloadN X22.here hx rfl (hb hby d7_145) rfl rfl k) ?_
    show Go _ _ _ _ _ _ _ T22 (mkF m 146 #[.val (.ref q), .val (.int (Lp (a 0))), .val (.double (T (a 2))), .second, .val (.int (Lp (a 2))), .val (.int (1 : Int32)), .val (.int (3 : Int32))] [(.ref q)])
    obtain ⟨T23, X23, e23, st23⟩ := getF X22 hx hZ hown (host := "") (Or.inl (hw _ (List.mem_of_getElem? (i := 19) rfl))) Via.refl e22 F_times_q_21 (g := (mkF m 146 #[.val (.ref q), .val (.int (Lp (a 0))), .val (.double (T (a 2))), .second, .val (.int (Lp (a 2))), .val (.int (1 : Int32)), .val (.int (3 : Int32))] [(.ref q)])) rfl rfl (hb hby d7_146)
    refine Go.step st23 ?_
    show Go _ _ _ _ _ _ _ T23 (mkF m 149 #[.val (.ref q), .val (.int (Lp (a 0))), .val (.double (T (a 2))), .second, .val (.int (Lp (a 2))), .val (.int (1 : Int32)), .val (.int (3 : Int32))] [(.ref u)])
    refine Go.step (fun _ k => XS.iload X23.here hx rfl (hb hby d7_149) rfl k) ?_
    show Go _ _ _ _ _ _ _ T23 (mkF m 151 #[.val (.ref q), .val (.int (Lp (a 0))), .val (.double (T (a 2))), .second, .val (.int (Lp (a 2))), .val (.int (1 : Int32)), .val (.int (3 : Int32))] [(.int (1 : Int32)), (.ref u)])
    refine Go.step (fun _ k => XS.dloadN X23.here hx rfl (hb hby d7_151) rfl k) ?_
    show Go _ _ _ _ _ _ _ T23 (mkF m 152 #[.val (.ref q), .val (.int (Lp (a 0))), .val (.double (T (a 2))), .second, .val (.int (Lp (a 2))), .val (.int (1 : Int32)), .val (.int (3 : Int32))] [(.double (T (a 2))), (.int (1 : Int32)), (.ref u)])
    refine Go.dastore X23 hx hZ e23 V_u_21 (j := (1 : Int32)) (x := (T (a 2))) (by decide) (hb hby d7_152) ?_
    intro T24 h24 X24 e24 W24 Vn24
    have V_u_24 : Dv Z h24 u (64 : Int32) (updN (updN g 0 (T (a 1))) 1 (T (a 2))) := Vn24
    have N24 := Fr.snoc X24 N21 ge_u
    have E_q_24 := E_q_21.wr W24
    have F_size_q_24 := F_size_q_21.other W24 (Or.inl ne_q_u)
    have F_times_q_24 := F_times_q_21.other W24 (Or.inl ne_q_u)
    have F_lightpaths_q_24 := F_lightpaths_q_21.other W24 (Or.inl ne_q_u)
    have V_v_24 := V_v_21.other W24 (Ne.symm ne_u_v)
    have K24 : Keep h0 h24 [q, u, v] := K21.wr W24 (Or.inl (List.mem_of_getElem? (i := 1) rfl))
    show Go _ _ _ _ _ _ _ T24 (mkF m 153 #[.val (.ref q), .val (.int (Lp (a 0))), .val (.double (T (a 2))), .second, .val (.int (Lp (a 2))), .val (.int (1 : Int32)), .val (.int (3 : Int32))] [])
    refine Go.step (fun _ k => XS.aloadN X24.here hx rfl (hb hby d7_153) rfl rfl k) ?_
    show Go _ _ _ _ _ _ _ T24 (mkF m 154 #[.val (.ref q), .val (.int (Lp (a 0))), .val (.double (T (a 2))), .second, .val (.int (Lp (a 2))), .val (.int (1 : Int32)), .val (.int (3 : Int32))] [(.ref q)])
    obtain ⟨T25, X25, e25, st25⟩ := getF X24 hx hZ hown (host := "") (Or.inl (hw _ (List.mem_of_getElem? (i := 21) rfl))) Via.refl e24 F_lightpaths_q_24 (g := (mkF m 154 #[.val (.ref q), .val (.int (Lp (a 0))), .val (.double (T (a 2))), .second, .val (.int (Lp (a 2))), .val (.int (1 : Int32)), .val (.int (3 : Int32))] [(.ref q)])) rfl rfl (hb hby d7_154)
    refine Go.step st25 ?_
    show Go _ _ _ _ _ _ _ T25 (mkF m 157 #[.val (.ref q), .val (.int (Lp (a 0))), .val (.double (T (a 2))), .second, .val (.int (Lp (a 2))), .val (.int (1 : Int32)), .val (.int (3 : Int32))] [(.ref v)])
    refine Go.step (fun _ k => XS.iload X25.here hx rfl (hb hby d7_157) rfl k) ?_
    show Go _ _ _ _ _ _ _ T25 (mkF m 159 #[.val (.ref q), .val (.int (Lp (a 0))), .val (.double (T (a 2))), .second, .val (.int (Lp (a 2))), .val (.int (1 : Int32)), .val (.int (3 : Int32))] [(.int (1 : Int32)), (.ref v)])
    refine Go.step (fun _ k => XS.iload X25.here hx rfl (hb hby d7_159) rfl k) ?_
    show Go _ _ _ _ _ _ _ T25 (mkF m 161 #[.val (.ref q), .val (.int (Lp (a 0))), .val (.double (T (a 2))), .second, .val (.int (Lp (a 2))), .val (.int (1 : Int32)), .val (.int (3 : Int32))] [(.int (Lp (a 2))), (.int (1 : Int32)), (.ref v)])
    refine Go.iastore X25 hx hZ e25 V_v_24 (j := (1 : Int32)) (x := (Lp (a 2))) (by decide) (hb hby d7_161) ?_
    intro T26 h26 X26 e26 W26 Vn26
    have V_v_26 : Iv Z h26 v (64 : Int32) (updN (updN l' 0 (Lp (a 1))) 1 (Lp (a 2))) := Vn26
    have N26 := Fr.snoc X26 N24 ge_v
    have E_q_26 := E_q_24.wr W26
    have F_size_q_26 := F_size_q_24.other W26 (Or.inl ne_q_v)
    have F_times_q_26 := F_times_q_24.other W26 (Or.inl ne_q_v)
    have F_lightpaths_q_26 := F_lightpaths_q_24.other W26 (Or.inl ne_q_v)
    have V_u_26 := V_u_24.other W26 ne_u_v
    have K26 : Keep h0 h26 [q, u, v] := K24.wr W26 (Or.inl (List.mem_of_getElem? (i := 2) rfl))
    show Go _ _ _ _ _ _ _ T26 (mkF m 162 #[.val (.ref q), .val (.int (Lp (a 0))), .val (.double (T (a 2))), .second, .val (.int (Lp (a 2))), .val (.int (1 : Int32)), .val (.int (3 : Int32))] [])
    refine Go.step (fun _ k => XS.iloadN X26.here hx rfl (hb hby d7_162) rfl k) ?_
    show Go _ _ _ _ _ _ _ T26 (mkF m 163 #[.val (.ref q), .val (.int (Lp (a 0))), .val (.double (T (a 2))), .second, .val (.int (Lp (a 2))), .val (.int (1 : Int32)), .val (.int (3 : Int32))] [(.int (Lp (a 0)))])
    refine Go.retI X26 hx hlk hret (hb hby d7_163) (by decide) (by decide) ?_
    try rw [e26]
    have := own_ngeK hT hd104_11
    refine ⟨rfl, N26, K26, E_q_26, F_size_q_26, F_times_q_26, F_lightpaths_q_26, _, _, (updN (updN a 0 (a 1)) 1 (a 2)), V_u_26, V_v_26, fun i hi' => by rcases (by omega : i = 0 ∨ i = 1) with rfl | rfl <;> first | rfl | simp [updN, hg0, hg1, hg2, hl0, hl1, hl2], fun i hi' => by rcases (by omega : i = 0 ∨ i = 1) with rfl | rfl <;> first | rfl | simp [updN, hg0, hg1, hg2, hl0, hl1, hl2], ?_, ?_, fun P hP => ?_⟩
    · simp only [HI, updN]; try simp; try omega
    · exact ⟨fun i hi' => by rcases (by omega : i = 0 ∨ i = 1) with rfl | rfl <;> simp [updN] <;> omega, fun w => by simp [sumA, updN]; try omega⟩
    · intro i hi'; rcases (by omega : i = 0 ∨ i = 1) with rfl | rfl <;> simp [updN] <;> exact hP _ (by decide)
theorem ef_rm_rem3 (m : MethodId) (q : Addr) : entryFrame m #[(.ref q)] 7 = mkF m 0 #[.val (.ref q), .unset, .unset, .unset, .unset, .unset, .unset] [] := by first | (simp [entryFrame, mkF, argsToLocals, Value.category]; done) | rfl
theorem rm_rem3 (l : Launch) (Z : State) (a0 : Array Value) (hw : ∀ d ∈ tables_1, d.before a0 Z = true) (q u v : Addr) (g : Nat → UInt64) (l' : Nat → Int32) (T : Nat → UInt64) (Lp : Nat → Int32) (K : Nat → Int) (a : Nat → Nat) (h0 : Heap) (n0 : Nat) (Z0 : n0 ≤ h0.size) (E_q : Exa Z h0 q "com/example/wavegrade/wavegrade/DepartureQueue") (F_size_q : Fld Z h0 q "com/example/wavegrade/wavegrade/DepartureQueue" "size" "I" (.int (3 : Int32))) (F_times_q : Fld Z h0 q "com/example/wavegrade/wavegrade/DepartureQueue" "times" "[D" (.ref u)) (F_lightpaths_q : Fld Z h0 q "com/example/wavegrade/wavegrade/DepartureQueue" "lightpaths" "[I" (.ref v)) (V_u : Dv Z h0 u (64 : Int32) g) (V_v : Iv Z h0 v (64 : Int32) l') (ne_q_u : q ≠ u) (ne_q_v : q ≠ v) (ne_u_v : u ≠ v) (ge_q : n0 ≤ q) (ge_u : n0 ≤ u) (ge_v : n0 ≤ v) (hT : ∀ x y, FP.dcmp (T x) (T y) = some (compare (K x) (K y))) (hg : ∀ i, i < 3 → g i = T (a i)) (hl : ∀ i, i < 3 → l' i = Lp (a i)) (hi : HI K a 3) :
    Con l Z (⟨"com/example/wavegrade/wavegrade/DepartureQueue", "removeFirst", "()I"⟩ : MethodName) prog_1_method_5_code 7 (some .int) ({ frames := 0, cells := 0, slots := 0, locals := 0 } : Room) #[(.ref q)] h0 (fun r h L => r = some (.int (Lp (a 0))) ∧ Fr n0 L ∧ Keep h0 h [q, u, v] ∧ Exa Z h q "com/example/wavegrade/wavegrade/DepartureQueue" ∧ Fld Z h q "com/example/wavegrade/wavegrade/DepartureQueue" "size" "I" (.int (2 : Int32)) ∧ Fld Z h q "com/example/wavegrade/wavegrade/DepartureQueue" "times" "[D" (.ref u) ∧ Fld Z h q "com/example/wavegrade/wavegrade/DepartureQueue" "lightpaths" "[I" (.ref v) ∧ ∃ (g2 : Nat → UInt64) (l2 : Nat → Int32) (a2 : Nat → Nat), Dv Z h u (64 : Int32) g2 ∧ Iv Z h v (64 : Int32) l2 ∧ (∀ i, i < 2 → g2 i = T (a2 i)) ∧ (∀ i, i < 2 → l2 i = Lp (a2 i)) ∧ HI K a2 2 ∧ ((∀ i, i < 2 → K (a 0) ≤ K (a2 i)) ∧ ∀ w : Nat → Int, sumA w a2 2 + w (a 0) = sumA w a 3) ∧ ∀ P : Nat → Prop, (∀ i, i < 3 → P (a i)) → ∀ i, i < 2 → P (a2 i)) :=
  con_of (plainFor_of_name pn_3) (fun p_ e_ s_ m_ b_ meth_ c_ T_ X_ hx hZ hby hml hown hnm hret hlk e0 => Go.cast (ef_rm_rem3 m_ q) (w_rem3 q u v g l' T Lp K a X_ hx hZ hw hby hml hown hnm hret hlk e0 Z0 (Fr.nil n0) E_q F_size_q F_times_q F_lightpaths_q V_u V_v ne_q_u ne_q_v ne_u_v ge_q ge_u ge_v hT hg hl hi))
set_option maxRecDepth 65536 in
set_option maxHeartbeats 40000000 in
theorem w_rem2 {p : Program} {l : Launch} {e : Env} {s : State} {m : MethodId} {args : Array Value} {below : List Frame} {meth : Method} {c_ : Code} {T0 : State} {locs : List Loc} {Z : State} {a0 : Array Value} {h0 : Heap} {n0 : Nat} (q u v : Addr) (g : Nat → UInt64) (l' : Nat → Int32) (T : Nat → UInt64) (Lp : Nat → Int32) (K : Nat → Int) (a : Nat → Nat)
    (X0 : Stand p l e ({ frames := 0, cells := 0, slots := 0, locals := 0 } : Room) s m args below meth c_ T0 locs 0 0) (hx : p.tables.exec = Jvm.exec) (hZ : Z.Warmed39 s.vm) (hw : ∀ d ∈ tables_1, d.before a0 Z = true) (hby : c_.code = prog_1_method_5_code) (hml : c_.maxLocals = 7) (hown : s.vm.findClass "com/example/wavegrade/wavegrade/DepartureQueue" = some m.cls) (hnm : meth.name = "removeFirst") (hret : meth.sig.returnType = some .int) (hlk : meth.locks = false) (e0 : T0.heap = h0) (Z0 : n0 ≤ h0.size) (N0 : Fr n0 locs) (E_q : Exa Z h0 q "com/example/wavegrade/wavegrade/DepartureQueue") (F_size_q : Fld Z h0 q "com/example/wavegrade/wavegrade/DepartureQueue" "size" "I" (.int (2 : Int32))) (F_times_q : Fld Z h0 q "com/example/wavegrade/wavegrade/DepartureQueue" "times" "[D" (.ref u)) (F_lightpaths_q : Fld Z h0 q "com/example/wavegrade/wavegrade/DepartureQueue" "lightpaths" "[I" (.ref v)) (V_u : Dv Z h0 u (64 : Int32) g) (V_v : Iv Z h0 v (64 : Int32) l') (ne_q_u : q ≠ u) (ne_q_v : q ≠ v) (ne_u_v : u ≠ v) (ge_q : n0 ≤ q) (ge_u : n0 ≤ u) (ge_v : n0 ≤ v) (hT : ∀ x y, FP.dcmp (T x) (T y) = some (compare (K x) (K y))) (hg : ∀ i, i < 2 → g i = T (a i)) (hl : ∀ i, i < 2 → l' i = Lp (a i)) (hi : HI K a 2) :
    Go p e below s ({ frames := 0, cells := 0, slots := 0, locals := 0 } : Room).cells ({ frames := 0, cells := 0, slots := 0, locals := 0 } : Room).slots (fun r h L => r = some (.int (Lp (a 0))) ∧ Fr n0 L ∧ Keep h0 h [q, u, v] ∧ Exa Z h q "com/example/wavegrade/wavegrade/DepartureQueue" ∧ Fld Z h q "com/example/wavegrade/wavegrade/DepartureQueue" "size" "I" (.int (1 : Int32)) ∧ Fld Z h q "com/example/wavegrade/wavegrade/DepartureQueue" "times" "[D" (.ref u) ∧ Fld Z h q "com/example/wavegrade/wavegrade/DepartureQueue" "lightpaths" "[I" (.ref v) ∧ ∃ (g2 : Nat → UInt64) (l2 : Nat → Int32) (a2 : Nat → Nat), Dv Z h u (64 : Int32) g2 ∧ Iv Z h v (64 : Int32) l2 ∧ (∀ i, i < 1 → g2 i = T (a2 i)) ∧ (∀ i, i < 1 → l2 i = Lp (a2 i)) ∧ HI K a2 1 ∧ ((∀ i, i < 1 → K (a 0) ≤ K (a2 i)) ∧ ∀ w : Nat → Int, sumA w a2 1 + w (a 0) = sumA w a 2) ∧ ∀ P : Nat → Prop, (∀ i, i < 2 → P (a i)) → ∀ i, i < 1 → P (a2 i)) T0 (mkF m 0 #[.val (.ref q), .unset, .unset, .unset, .unset, .unset, .unset] []) := by
  have hg0 := hg 0 (by decide)
  have hg1 := hg 1 (by decide)
  have hl0 := hl 0 (by decide)
  have hl1 := hl 1 (by decide)
  simp only [HI] at hi
  show Go _ _ _ _ _ _ _ T0 (mkF m 0 #[.val (.ref q), .unset, .unset, .unset, .unset, .unset, .unset] [])
  refine Go.step (fun _ k => XS.aloadN X0.here hx rfl (hb hby d7_0) rfl rfl k) ?_
  show Go _ _ _ _ _ _ _ T0 (mkF m 1 #[.val (.ref q), .unset, .unset, .unset, .unset, .unset, .unset] [(.ref q)])
  obtain ⟨T1, X1, e1, st1⟩ := getF X0 hx hZ hown (host := "") (Or.inl (hw _ (List.mem_of_getElem? (i := 21) rfl))) Via.refl e0 F_lightpaths_q (g := (mkF m 1 #[.val (.ref q), .unset, .unset, .unset, .unset, .unset, .unset] [(.ref q)])) rfl rfl (hb hby d7_1)
  refine Go.step st1 ?_
  show Go _ _ _ _ _ _ _ T1 (mkF m 4 #[.val (.ref q), .unset, .unset, .unset, .unset, .unset, .unset] [(.ref v)])
  refine Go.step (fun _ k => XS.iconst X1.here hx rfl (hb hby d7_4) k) ?_
  show Go _ _ _ _ _ _ _ T1 (mkF m 5 #[.val (.ref q), .unset, .unset, .unset, .unset, .unset, .unset] [(.int (0 : Int32)), (.ref v)])
  refine Go.iaload X1 hx hZ e1 V_v (j := (0 : Int32)) (v := (Lp (a 0))) (by decide) (by first | rfl | simp [updN, hg0, hg1, hl0, hl1]) (hb hby d7_5) ?_
  show Go _ _ _ _ _ _ _ T1 (mkF m 6 #[.val (.ref q), .unset, .unset, .unset, .unset, .unset, .unset] [(.int (Lp (a 0)))])
  refine Go.step (fun _ k => XS.istoreN X1.here hx rfl (hb hby d7_6) rfl (l' := #[.val (.ref q), .val (.int (Lp (a 0))), .unset, .unset, .unset, .unset, .unset]) rfl k) ?_
  show Go _ _ _ _ _ _ _ T1 (mkF m 7 #[.val (.ref q), .val (.int (Lp (a 0))), .unset, .unset, .unset, .unset, .unset] [])
  refine Go.step (fun _ k => XS.aloadN X1.here hx rfl (hb hby d7_7) rfl rfl k) ?_
  show Go _ _ _ _ _ _ _ T1 (mkF m 8 #[.val (.ref q), .val (.int (Lp (a 0))), .unset, .unset, .unset, .unset, .unset] [(.ref q)])
  refine Go.step (fun _ k => XS.dup X1.here hx rfl (hb hby d7_8) rfl rfl k) ?_
  show Go _ _ _ _ _ _ _ T1 (mkF m 9 #[.val (.ref q), .val (.int (Lp (a 0))), .unset, .unset, .unset, .unset, .unset] [(.ref q), (.ref q)])
  obtain ⟨T2, X2, e2, st2⟩ := getF X1 hx hZ hown (host := "") (Or.inl (hw _ (List.mem_of_getElem? (i := 28) rfl))) Via.refl e1 F_size_q (g := (mkF m 9 #[.val (.ref q), .val (.int (Lp (a 0))), .unset, .unset, .unset, .unset, .unset] [(.ref q), (.ref q)])) rfl rfl (hb hby d7_9)
  refine Go.step st2 ?_
  show Go _ _ _ _ _ _ _ T2 (mkF m 12 #[.val (.ref q), .val (.int (Lp (a 0))), .unset, .unset, .unset, .unset, .unset] [(.int (2 : Int32)), (.ref q)])
  refine Go.step (fun _ k => XS.iconst X2.here hx rfl (hb hby d7_12) k) ?_
  show Go _ _ _ _ _ _ _ T2 (mkF m 13 #[.val (.ref q), .val (.int (Lp (a 0))), .unset, .unset, .unset, .unset, .unset] [(.int (1 : Int32)), (.int (2 : Int32)), (.ref q)])
  refine Go.step (fun _ k => XS.isub X2.here hx rfl (hb hby d7_13) rfl k) ?_
  show Go _ _ _ _ _ _ _ T2 (mkF m 14 #[.val (.ref q), .val (.int (Lp (a 0))), .unset, .unset, .unset, .unset, .unset] [(.int (1 : Int32)), (.ref q)])
  obtain ⟨T3, h3, X3, e3, W3, st3⟩ := putF X2 hx hZ hown (host := "") (Or.inl (hw _ (List.mem_of_getElem? (i := 28) rfl))) Via.refl e2 F_size_q E_q (Or.inl (hw _ (List.mem_of_getElem? (i := 29) rfl))) (hw _ (List.mem_of_getElem? (i := 10) rfl)) (ty := .int) (by decide) rfl rfl (g := (mkF m 14 #[.val (.ref q), .val (.int (Lp (a 0))), .unset, .unset, .unset, .unset, .unset] [(.int (1 : Int32)), (.ref q)])) rfl rfl (hb hby d7_14)
  refine Go.step st3 ?_
  have N3 := Fr.snoc X3 N0 ge_q
  have F_size_q_3 := F_size_q.same W3
  have E_q_3 := E_q.wr W3
  have F_times_q_3 := F_times_q.other W3 (Or.inr (slot_ne (Or.inl (hw _ (List.mem_of_getElem? (i := 20) rfl))) (Or.inl (hw _ (List.mem_of_getElem? (i := 29) rfl))) (by decide) (t := (.array .double)) (t' := .int) (by decide) (by decide)))
  have F_lightpaths_q_3 := F_lightpaths_q.other W3 (Or.inr (slot_ne (Or.inl (hw _ (List.mem_of_getElem? (i := 22) rfl))) (Or.inl (hw _ (List.mem_of_getElem? (i := 29) rfl))) (by decide) (t := (.array .int)) (t' := .int) (by decide) (by decide)))
  have V_u_3 := V_u.other W3 (Ne.symm ne_q_u)
  have V_v_3 := V_v.other W3 (Ne.symm ne_q_v)
  have K3 : Keep h0 h3 [q, u, v] := (Keep.refl h0 [q, u, v]).wr W3 (Or.inl (List.mem_of_getElem? (i := 0) rfl))
  show Go _ _ _ _ _ _ _ T3 (mkF m 17 #[.val (.ref q), .val (.int (Lp (a 0))), .unset, .unset, .unset, .unset, .unset] [])
  refine Go.step (fun _ k => XS.aloadN X3.here hx rfl (hb hby d7_17) rfl rfl k) ?_
  show Go _ _ _ _ _ _ _ T3 (mkF m 18 #[.val (.ref q), .val (.int (Lp (a 0))), .unset, .unset, .unset, .unset, .unset] [(.ref q)])
  obtain ⟨T4, X4, e4, st4⟩ := getF X3 hx hZ hown (host := "") (Or.inl (hw _ (List.mem_of_getElem? (i := 19) rfl))) Via.refl e3 F_times_q_3 (g := (mkF m 18 #[.val (.ref q), .val (.int (Lp (a 0))), .unset, .unset, .unset, .unset, .unset] [(.ref q)])) rfl rfl (hb hby d7_18)
  refine Go.step st4 ?_
  show Go _ _ _ _ _ _ _ T4 (mkF m 21 #[.val (.ref q), .val (.int (Lp (a 0))), .unset, .unset, .unset, .unset, .unset] [(.ref u)])
  refine Go.step (fun _ k => XS.aloadN X4.here hx rfl (hb hby d7_21) rfl rfl k) ?_
  show Go _ _ _ _ _ _ _ T4 (mkF m 22 #[.val (.ref q), .val (.int (Lp (a 0))), .unset, .unset, .unset, .unset, .unset] [(.ref q), (.ref u)])
  obtain ⟨T5, X5, e5, st5⟩ := getF X4 hx hZ hown (host := "") (Or.inl (hw _ (List.mem_of_getElem? (i := 28) rfl))) Via.refl e4 F_size_q_3 (g := (mkF m 22 #[.val (.ref q), .val (.int (Lp (a 0))), .unset, .unset, .unset, .unset, .unset] [(.ref q), (.ref u)])) rfl rfl (hb hby d7_22)
  refine Go.step st5 ?_
  show Go _ _ _ _ _ _ _ T5 (mkF m 25 #[.val (.ref q), .val (.int (Lp (a 0))), .unset, .unset, .unset, .unset, .unset] [(.int (1 : Int32)), (.ref u)])
  refine Go.daload X5 hx hZ e5 V_u_3 (j := (1 : Int32)) (v := (T (a 1))) (by decide) (by first | rfl | simp [updN, hg0, hg1, hl0, hl1]) (hb hby d7_25) ?_
  show Go _ _ _ _ _ _ _ T5 (mkF m 26 #[.val (.ref q), .val (.int (Lp (a 0))), .unset, .unset, .unset, .unset, .unset] [(.double (T (a 1)))])
  refine Go.step (fun _ k => XS.dstoreN X5.here hx rfl (hb hby d7_26) rfl (l' := #[.val (.ref q), .val (.int (Lp (a 0))), .val (.double (T (a 1))), .second, .unset, .unset, .unset]) rfl k) ?_
  show Go _ _ _ _ _ _ _ T5 (mkF m 27 #[.val (.ref q), .val (.int (Lp (a 0))), .val (.double (T (a 1))), .second, .unset, .unset, .unset] [])
  refine Go.step (fun _ k => XS.aloadN X5.here hx rfl (hb hby d7_27) rfl rfl k) ?_
  show Go _ _ _ _ _ _ _ T5 (mkF m 28 #[.val (.ref q), .val (.int (Lp (a 0))), .val (.double (T (a 1))), .second, .unset, .unset, .unset] [(.ref q)])
  obtain ⟨T6, X6, e6, st6⟩ := getF X5 hx hZ hown (host := "") (Or.inl (hw _ (List.mem_of_getElem? (i := 21) rfl))) Via.refl e5 F_lightpaths_q_3 (g := (mkF m 28 #[.val (.ref q), .val (.int (Lp (a 0))), .val (.double (T (a 1))), .second, .unset, .unset, .unset] [(.ref q)])) rfl rfl (hb hby d7_28)
  refine Go.step st6 ?_
  show Go _ _ _ _ _ _ _ T6 (mkF m 31 #[.val (.ref q), .val (.int (Lp (a 0))), .val (.double (T (a 1))), .second, .unset, .unset, .unset] [(.ref v)])
  refine Go.step (fun _ k => XS.aloadN X6.here hx rfl (hb hby d7_31) rfl rfl k) ?_
  show Go _ _ _ _ _ _ _ T6 (mkF m 32 #[.val (.ref q), .val (.int (Lp (a 0))), .val (.double (T (a 1))), .second, .unset, .unset, .unset] [(.ref q), (.ref v)])
  obtain ⟨T7, X7, e7, st7⟩ := getF X6 hx hZ hown (host := "") (Or.inl (hw _ (List.mem_of_getElem? (i := 28) rfl))) Via.refl e6 F_size_q_3 (g := (mkF m 32 #[.val (.ref q), .val (.int (Lp (a 0))), .val (.double (T (a 1))), .second, .unset, .unset, .unset] [(.ref q), (.ref v)])) rfl rfl (hb hby d7_32)
  refine Go.step st7 ?_
  show Go _ _ _ _ _ _ _ T7 (mkF m 35 #[.val (.ref q), .val (.int (Lp (a 0))), .val (.double (T (a 1))), .second, .unset, .unset, .unset] [(.int (1 : Int32)), (.ref v)])
  refine Go.iaload X7 hx hZ e7 V_v_3 (j := (1 : Int32)) (v := (Lp (a 1))) (by decide) (by first | rfl | simp [updN, hg0, hg1, hl0, hl1]) (hb hby d7_35) ?_
  show Go _ _ _ _ _ _ _ T7 (mkF m 36 #[.val (.ref q), .val (.int (Lp (a 0))), .val (.double (T (a 1))), .second, .unset, .unset, .unset] [(.int (Lp (a 1)))])
  refine Go.step (fun _ k => XS.istore X7.here hx rfl (hb hby d7_36) rfl (l' := #[.val (.ref q), .val (.int (Lp (a 0))), .val (.double (T (a 1))), .second, .val (.int (Lp (a 1))), .unset, .unset]) rfl k) ?_
  show Go _ _ _ _ _ _ _ T7 (mkF m 38 #[.val (.ref q), .val (.int (Lp (a 0))), .val (.double (T (a 1))), .second, .val (.int (Lp (a 1))), .unset, .unset] [])
  refine Go.step (fun _ k => XS.iconst X7.here hx rfl (hb hby d7_38) k) ?_
  show Go _ _ _ _ _ _ _ T7 (mkF m 39 #[.val (.ref q), .val (.int (Lp (a 0))), .val (.double (T (a 1))), .second, .val (.int (Lp (a 1))), .unset, .unset] [(.int (0 : Int32))])
  refine Go.step (fun _ k => XS.istore X7.here hx rfl (hb hby d7_39) rfl (l' := #[.val (.ref q), .val (.int (Lp (a 0))), .val (.double (T (a 1))), .second, .val (.int (Lp (a 1))), .val (.int (0 : Int32)), .unset]) rfl k) ?_
  show Go _ _ _ _ _ _ _ T7 (mkF m 41 #[.val (.ref q), .val (.int (Lp (a 0))), .val (.double (T (a 1))), .second, .val (.int (Lp (a 1))), .val (.int (0 : Int32)), .unset] [])
  refine Go.step (fun _ k => XS.iconst X7.here hx rfl (hb hby d7_41) k) ?_
  show Go _ _ _ _ _ _ _ T7 (mkF m 42 #[.val (.ref q), .val (.int (Lp (a 0))), .val (.double (T (a 1))), .second, .val (.int (Lp (a 1))), .val (.int (0 : Int32)), .unset] [(.int (2 : Int32))])
  refine Go.step (fun _ k => XS.iload X7.here hx rfl (hb hby d7_42) rfl k) ?_
  show Go _ _ _ _ _ _ _ T7 (mkF m 44 #[.val (.ref q), .val (.int (Lp (a 0))), .val (.double (T (a 1))), .second, .val (.int (Lp (a 1))), .val (.int (0 : Int32)), .unset] [(.int (0 : Int32)), (.int (2 : Int32))])
  refine Go.step (fun _ k => XS.imul X7.here hx rfl (hb hby d7_44) rfl k) ?_
  show Go _ _ _ _ _ _ _ T7 (mkF m 45 #[.val (.ref q), .val (.int (Lp (a 0))), .val (.double (T (a 1))), .second, .val (.int (Lp (a 1))), .val (.int (0 : Int32)), .unset] [(.int (0 : Int32))])
  refine Go.step (fun _ k => XS.iconst X7.here hx rfl (hb hby d7_45) k) ?_
  show Go _ _ _ _ _ _ _ T7 (mkF m 46 #[.val (.ref q), .val (.int (Lp (a 0))), .val (.double (T (a 1))), .second, .val (.int (Lp (a 1))), .val (.int (0 : Int32)), .unset] [(.int (1 : Int32)), (.int (0 : Int32))])
  refine Go.step (fun _ k => XS.iadd X7.here hx rfl (hb hby d7_46) rfl k) ?_
  show Go _ _ _ _ _ _ _ T7 (mkF m 47 #[.val (.ref q), .val (.int (Lp (a 0))), .val (.double (T (a 1))), .second, .val (.int (Lp (a 1))), .val (.int (0 : Int32)), .unset] [(.int (1 : Int32))])
  refine Go.step (fun _ k => XS.istore X7.here hx rfl (hb hby d7_47) rfl (l' := #[.val (.ref q), .val (.int (Lp (a 0))), .val (.double (T (a 1))), .second, .val (.int (Lp (a 1))), .val (.int (0 : Int32)), .val (.int (1 : Int32))]) rfl k) ?_
  show Go _ _ _ _ _ _ _ T7 (mkF m 49 #[.val (.ref q), .val (.int (Lp (a 0))), .val (.double (T (a 1))), .second, .val (.int (Lp (a 1))), .val (.int (0 : Int32)), .val (.int (1 : Int32))] [])
  refine Go.step (fun _ k => XS.iload X7.here hx rfl (hb hby d7_49) rfl k) ?_
  show Go _ _ _ _ _ _ _ T7 (mkF m 51 #[.val (.ref q), .val (.int (Lp (a 0))), .val (.double (T (a 1))), .second, .val (.int (Lp (a 1))), .val (.int (0 : Int32)), .val (.int (1 : Int32))] [(.int (1 : Int32))])
  refine Go.step (fun _ k => XS.aloadN X7.here hx rfl (hb hby d7_51) rfl rfl k) ?_
  show Go _ _ _ _ _ _ _ T7 (mkF m 52 #[.val (.ref q), .val (.int (Lp (a 0))), .val (.double (T (a 1))), .second, .val (.int (Lp (a 1))), .val (.int (0 : Int32)), .val (.int (1 : Int32))] [(.ref q), (.int (1 : Int32))])
  obtain ⟨T8, X8, e8, st8⟩ := getF X7 hx hZ hown (host := "") (Or.inl (hw _ (List.mem_of_getElem? (i := 28) rfl))) Via.refl e7 F_size_q_3 (g := (mkF m 52 #[.val (.ref q), .val (.int (Lp (a 0))), .val (.double (T (a 1))), .second, .val (.int (Lp (a 1))), .val (.int (0 : Int32)), .val (.int (1 : Int32))] [(.ref q), (.int (1 : Int32))])) rfl rfl (hb hby d7_52)
  refine Go.step st8 ?_
  show Go _ _ _ _ _ _ _ T8 (mkF m 55 #[.val (.ref q), .val (.int (Lp (a 0))), .val (.double (T (a 1))), .second, .val (.int (Lp (a 1))), .val (.int (0 : Int32)), .val (.int (1 : Int32))] [(.int (1 : Int32)), (.int (1 : Int32))])
  refine Go.step (fun _ k => XS.icmpNo X8.here hx rfl (hb hby d7_55) rfl (flt (by decide : ¬ ((1 : Int32) < (1 : Int32)))).1 k) ?_
  show Go _ _ _ _ _ _ _ T8 (mkF m 58 #[.val (.ref q), .val (.int (Lp (a 0))), .val (.double (T (a 1))), .second, .val (.int (Lp (a 1))), .val (.int (0 : Int32)), .val (.int (1 : Int32))] [])
  refine Go.step (fun _ k => XS.goto X8.here hx rfl (pc0 := 58) (pc' := 145) rfl (hb hby d7_58) (by decide) (by decide) k) ?_
  show Go _ _ _ _ _ _ _ T8 (mkF m 145 #[.val (.ref q), .val (.int (Lp (a 0))), .val (.double (T (a 1))), .second, .val (.int (Lp (a 1))), .val (.int (0 : Int32)), .val (.int (1 : Int32))] [])
  refine Go.step (fun _ k => XS.aloadN X8.here hx rfl (hb hby d7_145) rfl rfl k) ?_
  show Go _ _ _ _ _ _ _ T8 (mkF m 146 #[.val (.ref q), .val (.int (Lp (a 0))), .val (.double (T (a 1))), .second, .val (.int (Lp (a 1))), .val (.int (0 : Int32)), .val (.int (1 : Int32))] [(.ref q)])
  obtain ⟨T9, X9, e9, st9⟩ := getF X8 hx hZ hown (host := "") (Or.inl (hw _ (List.mem_of_getElem? (i := 19) rfl))) Via.refl e8 F_times_q_3 (g := (mkF m 146 #[.val (.ref q), .val (.int (Lp (a 0))), .val (.double (T (a 1))), .second, .val (.int (Lp (a 1))), .val (.int (0 : Int32)), .val (.int (1 : Int32))] [(.ref q)])) rfl rfl (hb hby d7_146)
  refine Go.step st9 ?_
  show Go _ _ _ _ _ _ _ T9 (mkF m 149 #[.val (.ref q), .val (.int (Lp (a 0))), .val (.double (T (a 1))), .second, .val (.int (Lp (a 1))), .val (.int (0 : Int32)), .val (.int (1 : Int32))] [(.ref u)])
  refine Go.step (fun _ k => XS.iload X9.here hx rfl (hb hby d7_149) rfl k) ?_
  show Go _ _ _ _ _ _ _ T9 (mkF m 151 #[.val (.ref q), .val (.int (Lp (a 0))), .val (.double (T (a 1))), .second, .val (.int (Lp (a 1))), .val (.int (0 : Int32)), .val (.int (1 : Int32))] [(.int (0 : Int32)), (.ref u)])
  refine Go.step (fun _ k => XS.dloadN X9.here hx rfl (hb hby d7_151) rfl k) ?_
  show Go _ _ _ _ _ _ _ T9 (mkF m 152 #[.val (.ref q), .val (.int (Lp (a 0))), .val (.double (T (a 1))), .second, .val (.int (Lp (a 1))), .val (.int (0 : Int32)), .val (.int (1 : Int32))] [(.double (T (a 1))), (.int (0 : Int32)), (.ref u)])
  refine Go.dastore X9 hx hZ e9 V_u_3 (j := (0 : Int32)) (x := (T (a 1))) (by decide) (hb hby d7_152) ?_
  intro T10 h10 X10 e10 W10 Vn10
  have V_u_10 : Dv Z h10 u (64 : Int32) (updN g 0 (T (a 1))) := Vn10
  have N10 := Fr.snoc X10 N3 ge_u
  have E_q_10 := E_q_3.wr W10
  have F_size_q_10 := F_size_q_3.other W10 (Or.inl ne_q_u)
  have F_times_q_10 := F_times_q_3.other W10 (Or.inl ne_q_u)
  have F_lightpaths_q_10 := F_lightpaths_q_3.other W10 (Or.inl ne_q_u)
  have V_v_10 := V_v_3.other W10 (Ne.symm ne_u_v)
  have K10 : Keep h0 h10 [q, u, v] := K3.wr W10 (Or.inl (List.mem_of_getElem? (i := 1) rfl))
  show Go _ _ _ _ _ _ _ T10 (mkF m 153 #[.val (.ref q), .val (.int (Lp (a 0))), .val (.double (T (a 1))), .second, .val (.int (Lp (a 1))), .val (.int (0 : Int32)), .val (.int (1 : Int32))] [])
  refine Go.step (fun _ k => XS.aloadN X10.here hx rfl (hb hby d7_153) rfl rfl k) ?_
  show Go _ _ _ _ _ _ _ T10 (mkF m 154 #[.val (.ref q), .val (.int (Lp (a 0))), .val (.double (T (a 1))), .second, .val (.int (Lp (a 1))), .val (.int (0 : Int32)), .val (.int (1 : Int32))] [(.ref q)])
  obtain ⟨T11, X11, e11, st11⟩ := getF X10 hx hZ hown (host := "") (Or.inl (hw _ (List.mem_of_getElem? (i := 21) rfl))) Via.refl e10 F_lightpaths_q_10 (g := (mkF m 154 #[.val (.ref q), .val (.int (Lp (a 0))), .val (.double (T (a 1))), .second, .val (.int (Lp (a 1))), .val (.int (0 : Int32)), .val (.int (1 : Int32))] [(.ref q)])) rfl rfl (hb hby d7_154)
  refine Go.step st11 ?_
  show Go _ _ _ _ _ _ _ T11 (mkF m 157 #[.val (.ref q), .val (.int (Lp (a 0))), .val (.double (T (a 1))), .second, .val (.int (Lp (a 1))), .val (.int (0 : Int32)), .val (.int (1 : Int32))] [(.ref v)])
  refine Go.step (fun _ k => XS.iload X11.here hx rfl (hb hby d7_157) rfl k) ?_
  show Go _ _ _ _ _ _ _ T11 (mkF m 159 #[.val (.ref q), .val (.int (Lp (a 0))), .val (.double (T (a 1))), .second, .val (.int (Lp (a 1))), .val (.int (0 : Int32)), .val (.int (1 : Int32))] [(.int (0 : Int32)), (.ref v)])
  refine Go.step (fun _ k => XS.iload X11.here hx rfl (hb hby d7_159) rfl k) ?_
  show Go _ _ _ _ _ _ _ T11 (mkF m 161 #[.val (.ref q), .val (.int (Lp (a 0))), .val (.double (T (a 1))), .second, .val (.int (Lp (a 1))), .val (.int (0 : Int32)), .val (.int (1 : Int32))] [(.int (Lp (a 1))), (.int (0 : Int32)), (.ref v)])
  refine Go.iastore X11 hx hZ e11 V_v_10 (j := (0 : Int32)) (x := (Lp (a 1))) (by decide) (hb hby d7_161) ?_
  intro T12 h12 X12 e12 W12 Vn12
  have V_v_12 : Iv Z h12 v (64 : Int32) (updN l' 0 (Lp (a 1))) := Vn12
  have N12 := Fr.snoc X12 N10 ge_v
  have E_q_12 := E_q_10.wr W12
  have F_size_q_12 := F_size_q_10.other W12 (Or.inl ne_q_v)
  have F_times_q_12 := F_times_q_10.other W12 (Or.inl ne_q_v)
  have F_lightpaths_q_12 := F_lightpaths_q_10.other W12 (Or.inl ne_q_v)
  have V_u_12 := V_u_10.other W12 ne_u_v
  have K12 : Keep h0 h12 [q, u, v] := K10.wr W12 (Or.inl (List.mem_of_getElem? (i := 2) rfl))
  show Go _ _ _ _ _ _ _ T12 (mkF m 162 #[.val (.ref q), .val (.int (Lp (a 0))), .val (.double (T (a 1))), .second, .val (.int (Lp (a 1))), .val (.int (0 : Int32)), .val (.int (1 : Int32))] [])
  refine Go.step (fun _ k => XS.iloadN X12.here hx rfl (hb hby d7_162) rfl k) ?_
  show Go _ _ _ _ _ _ _ T12 (mkF m 163 #[.val (.ref q), .val (.int (Lp (a 0))), .val (.double (T (a 1))), .second, .val (.int (Lp (a 1))), .val (.int (0 : Int32)), .val (.int (1 : Int32))] [(.int (Lp (a 0)))])
  refine Go.retI X12 hx hlk hret (hb hby d7_163) (by decide) (by decide) ?_
  try rw [e12]
  refine ⟨rfl, N12, K12, E_q_12, F_size_q_12, F_times_q_12, F_lightpaths_q_12, _, _, (updN a 0 (a 1)), V_u_12, V_v_12, fun i hi' => by rcases (by omega : i = 0) with rfl <;> first | rfl | simp [updN, hg0, hg1, hl0, hl1], fun i hi' => by rcases (by omega : i = 0) with rfl <;> first | rfl | simp [updN, hg0, hg1, hl0, hl1], ?_, ?_, fun P hP => ?_⟩
  · simp only [HI, updN]; try simp; try omega
  · exact ⟨fun i hi' => by rcases (by omega : i = 0) with rfl <;> simp [updN] <;> omega, fun w => by simp [sumA, updN]; try omega⟩
  · intro i hi'; rcases (by omega : i = 0) with rfl <;> simp [updN] <;> exact hP _ (by decide)
theorem ef_rm_rem2 (m : MethodId) (q : Addr) : entryFrame m #[(.ref q)] 7 = mkF m 0 #[.val (.ref q), .unset, .unset, .unset, .unset, .unset, .unset] [] := by first | (simp [entryFrame, mkF, argsToLocals, Value.category]; done) | rfl
theorem rm_rem2 (l : Launch) (Z : State) (a0 : Array Value) (hw : ∀ d ∈ tables_1, d.before a0 Z = true) (q u v : Addr) (g : Nat → UInt64) (l' : Nat → Int32) (T : Nat → UInt64) (Lp : Nat → Int32) (K : Nat → Int) (a : Nat → Nat) (h0 : Heap) (n0 : Nat) (Z0 : n0 ≤ h0.size) (E_q : Exa Z h0 q "com/example/wavegrade/wavegrade/DepartureQueue") (F_size_q : Fld Z h0 q "com/example/wavegrade/wavegrade/DepartureQueue" "size" "I" (.int (2 : Int32))) (F_times_q : Fld Z h0 q "com/example/wavegrade/wavegrade/DepartureQueue" "times" "[D" (.ref u)) (F_lightpaths_q : Fld Z h0 q "com/example/wavegrade/wavegrade/DepartureQueue" "lightpaths" "[I" (.ref v)) (V_u : Dv Z h0 u (64 : Int32) g) (V_v : Iv Z h0 v (64 : Int32) l') (ne_q_u : q ≠ u) (ne_q_v : q ≠ v) (ne_u_v : u ≠ v) (ge_q : n0 ≤ q) (ge_u : n0 ≤ u) (ge_v : n0 ≤ v) (hT : ∀ x y, FP.dcmp (T x) (T y) = some (compare (K x) (K y))) (hg : ∀ i, i < 2 → g i = T (a i)) (hl : ∀ i, i < 2 → l' i = Lp (a i)) (hi : HI K a 2) :
    Con l Z (⟨"com/example/wavegrade/wavegrade/DepartureQueue", "removeFirst", "()I"⟩ : MethodName) prog_1_method_5_code 7 (some .int) ({ frames := 0, cells := 0, slots := 0, locals := 0 } : Room) #[(.ref q)] h0 (fun r h L => r = some (.int (Lp (a 0))) ∧ Fr n0 L ∧ Keep h0 h [q, u, v] ∧ Exa Z h q "com/example/wavegrade/wavegrade/DepartureQueue" ∧ Fld Z h q "com/example/wavegrade/wavegrade/DepartureQueue" "size" "I" (.int (1 : Int32)) ∧ Fld Z h q "com/example/wavegrade/wavegrade/DepartureQueue" "times" "[D" (.ref u) ∧ Fld Z h q "com/example/wavegrade/wavegrade/DepartureQueue" "lightpaths" "[I" (.ref v) ∧ ∃ (g2 : Nat → UInt64) (l2 : Nat → Int32) (a2 : Nat → Nat), Dv Z h u (64 : Int32) g2 ∧ Iv Z h v (64 : Int32) l2 ∧ (∀ i, i < 1 → g2 i = T (a2 i)) ∧ (∀ i, i < 1 → l2 i = Lp (a2 i)) ∧ HI K a2 1 ∧ ((∀ i, i < 1 → K (a 0) ≤ K (a2 i)) ∧ ∀ w : Nat → Int, sumA w a2 1 + w (a 0) = sumA w a 2) ∧ ∀ P : Nat → Prop, (∀ i, i < 2 → P (a i)) → ∀ i, i < 1 → P (a2 i)) :=
  con_of (plainFor_of_name pn_3) (fun p_ e_ s_ m_ b_ meth_ c_ T_ X_ hx hZ hby hml hown hnm hret hlk e0 => Go.cast (ef_rm_rem2 m_ q) (w_rem2 q u v g l' T Lp K a X_ hx hZ hw hby hml hown hnm hret hlk e0 Z0 (Fr.nil n0) E_q F_size_q F_times_q F_lightpaths_q V_u V_v ne_q_u ne_q_v ne_u_v ge_q ge_u ge_v hT hg hl hi))
set_option maxRecDepth 65536 in
set_option maxHeartbeats 40000000 in
theorem w_rem1 {p : Program} {l : Launch} {e : Env} {s : State} {m : MethodId} {args : Array Value} {below : List Frame} {meth : Method} {c_ : Code} {T0 : State} {locs : List Loc} {Z : State} {a0 : Array Value} {h0 : Heap} {n0 : Nat} (q u v : Addr) (g : Nat → UInt64) (l' : Nat → Int32) (T : Nat → UInt64) (Lp : Nat → Int32) (K : Nat → Int) (a : Nat → Nat)
    (X0 : Stand p l e ({ frames := 0, cells := 0, slots := 0, locals := 0 } : Room) s m args below meth c_ T0 locs 0 0) (hx : p.tables.exec = Jvm.exec) (hZ : Z.Warmed39 s.vm) (hw : ∀ d ∈ tables_1, d.before a0 Z = true) (hby : c_.code = prog_1_method_5_code) (hml : c_.maxLocals = 7) (hown : s.vm.findClass "com/example/wavegrade/wavegrade/DepartureQueue" = some m.cls) (hnm : meth.name = "removeFirst") (hret : meth.sig.returnType = some .int) (hlk : meth.locks = false) (e0 : T0.heap = h0) (Z0 : n0 ≤ h0.size) (N0 : Fr n0 locs) (E_q : Exa Z h0 q "com/example/wavegrade/wavegrade/DepartureQueue") (F_size_q : Fld Z h0 q "com/example/wavegrade/wavegrade/DepartureQueue" "size" "I" (.int (1 : Int32))) (F_times_q : Fld Z h0 q "com/example/wavegrade/wavegrade/DepartureQueue" "times" "[D" (.ref u)) (F_lightpaths_q : Fld Z h0 q "com/example/wavegrade/wavegrade/DepartureQueue" "lightpaths" "[I" (.ref v)) (V_u : Dv Z h0 u (64 : Int32) g) (V_v : Iv Z h0 v (64 : Int32) l') (ne_q_u : q ≠ u) (ne_q_v : q ≠ v) (ne_u_v : u ≠ v) (ge_q : n0 ≤ q) (ge_u : n0 ≤ u) (ge_v : n0 ≤ v) (hT : ∀ x y, FP.dcmp (T x) (T y) = some (compare (K x) (K y))) (hg : ∀ i, i < 1 → g i = T (a i)) (hl : ∀ i, i < 1 → l' i = Lp (a i)) (hi : HI K a 1) :
    Go p e below s ({ frames := 0, cells := 0, slots := 0, locals := 0 } : Room).cells ({ frames := 0, cells := 0, slots := 0, locals := 0 } : Room).slots (fun r h L => r = some (.int (Lp (a 0))) ∧ Fr n0 L ∧ Keep h0 h [q, u, v] ∧ Exa Z h q "com/example/wavegrade/wavegrade/DepartureQueue" ∧ Fld Z h q "com/example/wavegrade/wavegrade/DepartureQueue" "size" "I" (.int (0 : Int32)) ∧ Fld Z h q "com/example/wavegrade/wavegrade/DepartureQueue" "times" "[D" (.ref u) ∧ Fld Z h q "com/example/wavegrade/wavegrade/DepartureQueue" "lightpaths" "[I" (.ref v) ∧ ∃ (g2 : Nat → UInt64) (l2 : Nat → Int32) (a2 : Nat → Nat), Dv Z h u (64 : Int32) g2 ∧ Iv Z h v (64 : Int32) l2 ∧ (∀ i, i < 0 → g2 i = T (a2 i)) ∧ (∀ i, i < 0 → l2 i = Lp (a2 i)) ∧ HI K a2 0 ∧ ((∀ i, i < 0 → K (a 0) ≤ K (a2 i)) ∧ ∀ w : Nat → Int, sumA w a2 0 + w (a 0) = sumA w a 1) ∧ ∀ P : Nat → Prop, (∀ i, i < 1 → P (a i)) → ∀ i, i < 0 → P (a2 i)) T0 (mkF m 0 #[.val (.ref q), .unset, .unset, .unset, .unset, .unset, .unset] []) := by
  have hg0 := hg 0 (by decide)
  have hl0 := hl 0 (by decide)
  simp only [HI] at hi
  show Go _ _ _ _ _ _ _ T0 (mkF m 0 #[.val (.ref q), .unset, .unset, .unset, .unset, .unset, .unset] [])
  refine Go.step (fun _ k => XS.aloadN X0.here hx rfl (hb hby d7_0) rfl rfl k) ?_
  show Go _ _ _ _ _ _ _ T0 (mkF m 1 #[.val (.ref q), .unset, .unset, .unset, .unset, .unset, .unset] [(.ref q)])
  obtain ⟨T1, X1, e1, st1⟩ := getF X0 hx hZ hown (host := "") (Or.inl (hw _ (List.mem_of_getElem? (i := 21) rfl))) Via.refl e0 F_lightpaths_q (g := (mkF m 1 #[.val (.ref q), .unset, .unset, .unset, .unset, .unset, .unset] [(.ref q)])) rfl rfl (hb hby d7_1)
  refine Go.step st1 ?_
  show Go _ _ _ _ _ _ _ T1 (mkF m 4 #[.val (.ref q), .unset, .unset, .unset, .unset, .unset, .unset] [(.ref v)])
  refine Go.step (fun _ k => XS.iconst X1.here hx rfl (hb hby d7_4) k) ?_
  show Go _ _ _ _ _ _ _ T1 (mkF m 5 #[.val (.ref q), .unset, .unset, .unset, .unset, .unset, .unset] [(.int (0 : Int32)), (.ref v)])
  refine Go.iaload X1 hx hZ e1 V_v (j := (0 : Int32)) (v := (Lp (a 0))) (by decide) (by first | rfl | simp [updN, hg0, hl0]) (hb hby d7_5) ?_
  show Go _ _ _ _ _ _ _ T1 (mkF m 6 #[.val (.ref q), .unset, .unset, .unset, .unset, .unset, .unset] [(.int (Lp (a 0)))])
  refine Go.step (fun _ k => XS.istoreN X1.here hx rfl (hb hby d7_6) rfl (l' := #[.val (.ref q), .val (.int (Lp (a 0))), .unset, .unset, .unset, .unset, .unset]) rfl k) ?_
  show Go _ _ _ _ _ _ _ T1 (mkF m 7 #[.val (.ref q), .val (.int (Lp (a 0))), .unset, .unset, .unset, .unset, .unset] [])
  refine Go.step (fun _ k => XS.aloadN X1.here hx rfl (hb hby d7_7) rfl rfl k) ?_
  show Go _ _ _ _ _ _ _ T1 (mkF m 8 #[.val (.ref q), .val (.int (Lp (a 0))), .unset, .unset, .unset, .unset, .unset] [(.ref q)])
  refine Go.step (fun _ k => XS.dup X1.here hx rfl (hb hby d7_8) rfl rfl k) ?_
  show Go _ _ _ _ _ _ _ T1 (mkF m 9 #[.val (.ref q), .val (.int (Lp (a 0))), .unset, .unset, .unset, .unset, .unset] [(.ref q), (.ref q)])
  obtain ⟨T2, X2, e2, st2⟩ := getF X1 hx hZ hown (host := "") (Or.inl (hw _ (List.mem_of_getElem? (i := 28) rfl))) Via.refl e1 F_size_q (g := (mkF m 9 #[.val (.ref q), .val (.int (Lp (a 0))), .unset, .unset, .unset, .unset, .unset] [(.ref q), (.ref q)])) rfl rfl (hb hby d7_9)
  refine Go.step st2 ?_
  show Go _ _ _ _ _ _ _ T2 (mkF m 12 #[.val (.ref q), .val (.int (Lp (a 0))), .unset, .unset, .unset, .unset, .unset] [(.int (1 : Int32)), (.ref q)])
  refine Go.step (fun _ k => XS.iconst X2.here hx rfl (hb hby d7_12) k) ?_
  show Go _ _ _ _ _ _ _ T2 (mkF m 13 #[.val (.ref q), .val (.int (Lp (a 0))), .unset, .unset, .unset, .unset, .unset] [(.int (1 : Int32)), (.int (1 : Int32)), (.ref q)])
  refine Go.step (fun _ k => XS.isub X2.here hx rfl (hb hby d7_13) rfl k) ?_
  show Go _ _ _ _ _ _ _ T2 (mkF m 14 #[.val (.ref q), .val (.int (Lp (a 0))), .unset, .unset, .unset, .unset, .unset] [(.int (0 : Int32)), (.ref q)])
  obtain ⟨T3, h3, X3, e3, W3, st3⟩ := putF X2 hx hZ hown (host := "") (Or.inl (hw _ (List.mem_of_getElem? (i := 28) rfl))) Via.refl e2 F_size_q E_q (Or.inl (hw _ (List.mem_of_getElem? (i := 29) rfl))) (hw _ (List.mem_of_getElem? (i := 10) rfl)) (ty := .int) (by decide) rfl rfl (g := (mkF m 14 #[.val (.ref q), .val (.int (Lp (a 0))), .unset, .unset, .unset, .unset, .unset] [(.int (0 : Int32)), (.ref q)])) rfl rfl (hb hby d7_14)
  refine Go.step st3 ?_
  have N3 := Fr.snoc X3 N0 ge_q
  have F_size_q_3 := F_size_q.same W3
  have E_q_3 := E_q.wr W3
  have F_times_q_3 := F_times_q.other W3 (Or.inr (slot_ne (Or.inl (hw _ (List.mem_of_getElem? (i := 20) rfl))) (Or.inl (hw _ (List.mem_of_getElem? (i := 29) rfl))) (by decide) (t := (.array .double)) (t' := .int) (by decide) (by decide)))
  have F_lightpaths_q_3 := F_lightpaths_q.other W3 (Or.inr (slot_ne (Or.inl (hw _ (List.mem_of_getElem? (i := 22) rfl))) (Or.inl (hw _ (List.mem_of_getElem? (i := 29) rfl))) (by decide) (t := (.array .int)) (t' := .int) (by decide) (by decide)))
  have V_u_3 := V_u.other W3 (Ne.symm ne_q_u)
  have V_v_3 := V_v.other W3 (Ne.symm ne_q_v)
  have K3 : Keep h0 h3 [q, u, v] := (Keep.refl h0 [q, u, v]).wr W3 (Or.inl (List.mem_of_getElem? (i := 0) rfl))
  show Go _ _ _ _ _ _ _ T3 (mkF m 17 #[.val (.ref q), .val (.int (Lp (a 0))), .unset, .unset, .unset, .unset, .unset] [])
  refine Go.step (fun _ k => XS.aloadN X3.here hx rfl (hb hby d7_17) rfl rfl k) ?_
  show Go _ _ _ _ _ _ _ T3 (mkF m 18 #[.val (.ref q), .val (.int (Lp (a 0))), .unset, .unset, .unset, .unset, .unset] [(.ref q)])
  obtain ⟨T4, X4, e4, st4⟩ := getF X3 hx hZ hown (host := "") (Or.inl (hw _ (List.mem_of_getElem? (i := 19) rfl))) Via.refl e3 F_times_q_3 (g := (mkF m 18 #[.val (.ref q), .val (.int (Lp (a 0))), .unset, .unset, .unset, .unset, .unset] [(.ref q)])) rfl rfl (hb hby d7_18)
  refine Go.step st4 ?_
  show Go _ _ _ _ _ _ _ T4 (mkF m 21 #[.val (.ref q), .val (.int (Lp (a 0))), .unset, .unset, .unset, .unset, .unset] [(.ref u)])
  refine Go.step (fun _ k => XS.aloadN X4.here hx rfl (hb hby d7_21) rfl rfl k) ?_
  show Go _ _ _ _ _ _ _ T4 (mkF m 22 #[.val (.ref q), .val (.int (Lp (a 0))), .unset, .unset, .unset, .unset, .unset] [(.ref q), (.ref u)])
  obtain ⟨T5, X5, e5, st5⟩ := getF X4 hx hZ hown (host := "") (Or.inl (hw _ (List.mem_of_getElem? (i := 28) rfl))) Via.refl e4 F_size_q_3 (g := (mkF m 22 #[.val (.ref q), .val (.int (Lp (a 0))), .unset, .unset, .unset, .unset, .unset] [(.ref q), (.ref u)])) rfl rfl (hb hby d7_22)
  refine Go.step st5 ?_
  show Go _ _ _ _ _ _ _ T5 (mkF m 25 #[.val (.ref q), .val (.int (Lp (a 0))), .unset, .unset, .unset, .unset, .unset] [(.int (0 : Int32)), (.ref u)])
  refine Go.daload X5 hx hZ e5 V_u_3 (j := (0 : Int32)) (v := (T (a 0))) (by decide) (by first | rfl | simp [updN, hg0, hl0]) (hb hby d7_25) ?_
  show Go _ _ _ _ _ _ _ T5 (mkF m 26 #[.val (.ref q), .val (.int (Lp (a 0))), .unset, .unset, .unset, .unset, .unset] [(.double (T (a 0)))])
  refine Go.step (fun _ k => XS.dstoreN X5.here hx rfl (hb hby d7_26) rfl (l' := #[.val (.ref q), .val (.int (Lp (a 0))), .val (.double (T (a 0))), .second, .unset, .unset, .unset]) rfl k) ?_
  show Go _ _ _ _ _ _ _ T5 (mkF m 27 #[.val (.ref q), .val (.int (Lp (a 0))), .val (.double (T (a 0))), .second, .unset, .unset, .unset] [])
  refine Go.step (fun _ k => XS.aloadN X5.here hx rfl (hb hby d7_27) rfl rfl k) ?_
  show Go _ _ _ _ _ _ _ T5 (mkF m 28 #[.val (.ref q), .val (.int (Lp (a 0))), .val (.double (T (a 0))), .second, .unset, .unset, .unset] [(.ref q)])
  obtain ⟨T6, X6, e6, st6⟩ := getF X5 hx hZ hown (host := "") (Or.inl (hw _ (List.mem_of_getElem? (i := 21) rfl))) Via.refl e5 F_lightpaths_q_3 (g := (mkF m 28 #[.val (.ref q), .val (.int (Lp (a 0))), .val (.double (T (a 0))), .second, .unset, .unset, .unset] [(.ref q)])) rfl rfl (hb hby d7_28)
  refine Go.step st6 ?_
  show Go _ _ _ _ _ _ _ T6 (mkF m 31 #[.val (.ref q), .val (.int (Lp (a 0))), .val (.double (T (a 0))), .second, .unset, .unset, .unset] [(.ref v)])
  refine Go.step (fun _ k => XS.aloadN X6.here hx rfl (hb hby d7_31) rfl rfl k) ?_
  show Go _ _ _ _ _ _ _ T6 (mkF m 32 #[.val (.ref q), .val (.int (Lp (a 0))), .val (.double (T (a 0))), .second, .unset, .unset, .unset] [(.ref q), (.ref v)])
  obtain ⟨T7, X7, e7, st7⟩ := getF X6 hx hZ hown (host := "") (Or.inl (hw _ (List.mem_of_getElem? (i := 28) rfl))) Via.refl e6 F_size_q_3 (g := (mkF m 32 #[.val (.ref q), .val (.int (Lp (a 0))), .val (.double (T (a 0))), .second, .unset, .unset, .unset] [(.ref q), (.ref v)])) rfl rfl (hb hby d7_32)
  refine Go.step st7 ?_
  show Go _ _ _ _ _ _ _ T7 (mkF m 35 #[.val (.ref q), .val (.int (Lp (a 0))), .val (.double (T (a 0))), .second, .unset, .unset, .unset] [(.int (0 : Int32)), (.ref v)])
  refine Go.iaload X7 hx hZ e7 V_v_3 (j := (0 : Int32)) (v := (Lp (a 0))) (by decide) (by first | rfl | simp [updN, hg0, hl0]) (hb hby d7_35) ?_
  show Go _ _ _ _ _ _ _ T7 (mkF m 36 #[.val (.ref q), .val (.int (Lp (a 0))), .val (.double (T (a 0))), .second, .unset, .unset, .unset] [(.int (Lp (a 0)))])
  refine Go.step (fun _ k => XS.istore X7.here hx rfl (hb hby d7_36) rfl (l' := #[.val (.ref q), .val (.int (Lp (a 0))), .val (.double (T (a 0))), .second, .val (.int (Lp (a 0))), .unset, .unset]) rfl k) ?_
  show Go _ _ _ _ _ _ _ T7 (mkF m 38 #[.val (.ref q), .val (.int (Lp (a 0))), .val (.double (T (a 0))), .second, .val (.int (Lp (a 0))), .unset, .unset] [])
  refine Go.step (fun _ k => XS.iconst X7.here hx rfl (hb hby d7_38) k) ?_
  show Go _ _ _ _ _ _ _ T7 (mkF m 39 #[.val (.ref q), .val (.int (Lp (a 0))), .val (.double (T (a 0))), .second, .val (.int (Lp (a 0))), .unset, .unset] [(.int (0 : Int32))])
  refine Go.step (fun _ k => XS.istore X7.here hx rfl (hb hby d7_39) rfl (l' := #[.val (.ref q), .val (.int (Lp (a 0))), .val (.double (T (a 0))), .second, .val (.int (Lp (a 0))), .val (.int (0 : Int32)), .unset]) rfl k) ?_
  show Go _ _ _ _ _ _ _ T7 (mkF m 41 #[.val (.ref q), .val (.int (Lp (a 0))), .val (.double (T (a 0))), .second, .val (.int (Lp (a 0))), .val (.int (0 : Int32)), .unset] [])
  refine Go.step (fun _ k => XS.iconst X7.here hx rfl (hb hby d7_41) k) ?_
  show Go _ _ _ _ _ _ _ T7 (mkF m 42 #[.val (.ref q), .val (.int (Lp (a 0))), .val (.double (T (a 0))), .second, .val (.int (Lp (a 0))), .val (.int (0 : Int32)), .unset] [(.int (2 : Int32))])
  refine Go.step (fun _ k => XS.iload X7.here hx rfl (hb hby d7_42) rfl k) ?_
  show Go _ _ _ _ _ _ _ T7 (mkF m 44 #[.val (.ref q), .val (.int (Lp (a 0))), .val (.double (T (a 0))), .second, .val (.int (Lp (a 0))), .val (.int (0 : Int32)), .unset] [(.int (0 : Int32)), (.int (2 : Int32))])
  refine Go.step (fun _ k => XS.imul X7.here hx rfl (hb hby d7_44) rfl k) ?_
  show Go _ _ _ _ _ _ _ T7 (mkF m 45 #[.val (.ref q), .val (.int (Lp (a 0))), .val (.double (T (a 0))), .second, .val (.int (Lp (a 0))), .val (.int (0 : Int32)), .unset] [(.int (0 : Int32))])
  refine Go.step (fun _ k => XS.iconst X7.here hx rfl (hb hby d7_45) k) ?_
  show Go _ _ _ _ _ _ _ T7 (mkF m 46 #[.val (.ref q), .val (.int (Lp (a 0))), .val (.double (T (a 0))), .second, .val (.int (Lp (a 0))), .val (.int (0 : Int32)), .unset] [(.int (1 : Int32)), (.int (0 : Int32))])
  refine Go.step (fun _ k => XS.iadd X7.here hx rfl (hb hby d7_46) rfl k) ?_
  show Go _ _ _ _ _ _ _ T7 (mkF m 47 #[.val (.ref q), .val (.int (Lp (a 0))), .val (.double (T (a 0))), .second, .val (.int (Lp (a 0))), .val (.int (0 : Int32)), .unset] [(.int (1 : Int32))])
  refine Go.step (fun _ k => XS.istore X7.here hx rfl (hb hby d7_47) rfl (l' := #[.val (.ref q), .val (.int (Lp (a 0))), .val (.double (T (a 0))), .second, .val (.int (Lp (a 0))), .val (.int (0 : Int32)), .val (.int (1 : Int32))]) rfl k) ?_
  show Go _ _ _ _ _ _ _ T7 (mkF m 49 #[.val (.ref q), .val (.int (Lp (a 0))), .val (.double (T (a 0))), .second, .val (.int (Lp (a 0))), .val (.int (0 : Int32)), .val (.int (1 : Int32))] [])
  refine Go.step (fun _ k => XS.iload X7.here hx rfl (hb hby d7_49) rfl k) ?_
  show Go _ _ _ _ _ _ _ T7 (mkF m 51 #[.val (.ref q), .val (.int (Lp (a 0))), .val (.double (T (a 0))), .second, .val (.int (Lp (a 0))), .val (.int (0 : Int32)), .val (.int (1 : Int32))] [(.int (1 : Int32))])
  refine Go.step (fun _ k => XS.aloadN X7.here hx rfl (hb hby d7_51) rfl rfl k) ?_
  show Go _ _ _ _ _ _ _ T7 (mkF m 52 #[.val (.ref q), .val (.int (Lp (a 0))), .val (.double (T (a 0))), .second, .val (.int (Lp (a 0))), .val (.int (0 : Int32)), .val (.int (1 : Int32))] [(.ref q), (.int (1 : Int32))])
  obtain ⟨T8, X8, e8, st8⟩ := getF X7 hx hZ hown (host := "") (Or.inl (hw _ (List.mem_of_getElem? (i := 28) rfl))) Via.refl e7 F_size_q_3 (g := (mkF m 52 #[.val (.ref q), .val (.int (Lp (a 0))), .val (.double (T (a 0))), .second, .val (.int (Lp (a 0))), .val (.int (0 : Int32)), .val (.int (1 : Int32))] [(.ref q), (.int (1 : Int32))])) rfl rfl (hb hby d7_52)
  refine Go.step st8 ?_
  show Go _ _ _ _ _ _ _ T8 (mkF m 55 #[.val (.ref q), .val (.int (Lp (a 0))), .val (.double (T (a 0))), .second, .val (.int (Lp (a 0))), .val (.int (0 : Int32)), .val (.int (1 : Int32))] [(.int (0 : Int32)), (.int (1 : Int32))])
  refine Go.step (fun _ k => XS.icmpNo X8.here hx rfl (hb hby d7_55) rfl (flt (by decide : ¬ ((1 : Int32) < (0 : Int32)))).1 k) ?_
  show Go _ _ _ _ _ _ _ T8 (mkF m 58 #[.val (.ref q), .val (.int (Lp (a 0))), .val (.double (T (a 0))), .second, .val (.int (Lp (a 0))), .val (.int (0 : Int32)), .val (.int (1 : Int32))] [])
  refine Go.step (fun _ k => XS.goto X8.here hx rfl (pc0 := 58) (pc' := 145) rfl (hb hby d7_58) (by decide) (by decide) k) ?_
  show Go _ _ _ _ _ _ _ T8 (mkF m 145 #[.val (.ref q), .val (.int (Lp (a 0))), .val (.double (T (a 0))), .second, .val (.int (Lp (a 0))), .val (.int (0 : Int32)), .val (.int (1 : Int32))] [])
  refine Go.step (fun _ k => XS.aloadN X8.here hx rfl (hb hby d7_145) rfl rfl k) ?_
  show Go _ _ _ _ _ _ _ T8 (mkF m 146 #[.val (.ref q), .val (.int (Lp (a 0))), .val (.double (T (a 0))), .second, .val (.int (Lp (a 0))), .val (.int (0 : Int32)), .val (.int (1 : Int32))] [(.ref q)])
  obtain ⟨T9, X9, e9, st9⟩ := getF X8 hx hZ hown (host := "") (Or.inl (hw _ (List.mem_of_getElem? (i := 19) rfl))) Via.refl e8 F_times_q_3 (g := (mkF m 146 #[.val (.ref q), .val (.int (Lp (a 0))), .val (.double (T (a 0))), .second, .val (.int (Lp (a 0))), .val (.int (0 : Int32)), .val (.int (1 : Int32))] [(.ref q)])) rfl rfl (hb hby d7_146)
  refine Go.step st9 ?_
  show Go _ _ _ _ _ _ _ T9 (mkF m 149 #[.val (.ref q), .val (.int (Lp (a 0))), .val (.double (T (a 0))), .second, .val (.int (Lp (a 0))), .val (.int (0 : Int32)), .val (.int (1 : Int32))] [(.ref u)])
  refine Go.step (fun _ k => XS.iload X9.here hx rfl (hb hby d7_149) rfl k) ?_
  show Go _ _ _ _ _ _ _ T9 (mkF m 151 #[.val (.ref q), .val (.int (Lp (a 0))), .val (.double (T (a 0))), .second, .val (.int (Lp (a 0))), .val (.int (0 : Int32)), .val (.int (1 : Int32))] [(.int (0 : Int32)), (.ref u)])
  refine Go.step (fun _ k => XS.dloadN X9.here hx rfl (hb hby d7_151) rfl k) ?_
  show Go _ _ _ _ _ _ _ T9 (mkF m 152 #[.val (.ref q), .val (.int (Lp (a 0))), .val (.double (T (a 0))), .second, .val (.int (Lp (a 0))), .val (.int (0 : Int32)), .val (.int (1 : Int32))] [(.double (T (a 0))), (.int (0 : Int32)), (.ref u)])
  refine Go.dastore X9 hx hZ e9 V_u_3 (j := (0 : Int32)) (x := (T (a 0))) (by decide) (hb hby d7_152) ?_
  intro T10 h10 X10 e10 W10 Vn10
  have V_u_10 : Dv Z h10 u (64 : Int32) (updN g 0 (T (a 0))) := Vn10
  have N10 := Fr.snoc X10 N3 ge_u
  have E_q_10 := E_q_3.wr W10
  have F_size_q_10 := F_size_q_3.other W10 (Or.inl ne_q_u)
  have F_times_q_10 := F_times_q_3.other W10 (Or.inl ne_q_u)
  have F_lightpaths_q_10 := F_lightpaths_q_3.other W10 (Or.inl ne_q_u)
  have V_v_10 := V_v_3.other W10 (Ne.symm ne_u_v)
  have K10 : Keep h0 h10 [q, u, v] := K3.wr W10 (Or.inl (List.mem_of_getElem? (i := 1) rfl))
  show Go _ _ _ _ _ _ _ T10 (mkF m 153 #[.val (.ref q), .val (.int (Lp (a 0))), .val (.double (T (a 0))), .second, .val (.int (Lp (a 0))), .val (.int (0 : Int32)), .val (.int (1 : Int32))] [])
  refine Go.step (fun _ k => XS.aloadN X10.here hx rfl (hb hby d7_153) rfl rfl k) ?_
  show Go _ _ _ _ _ _ _ T10 (mkF m 154 #[.val (.ref q), .val (.int (Lp (a 0))), .val (.double (T (a 0))), .second, .val (.int (Lp (a 0))), .val (.int (0 : Int32)), .val (.int (1 : Int32))] [(.ref q)])
  obtain ⟨T11, X11, e11, st11⟩ := getF X10 hx hZ hown (host := "") (Or.inl (hw _ (List.mem_of_getElem? (i := 21) rfl))) Via.refl e10 F_lightpaths_q_10 (g := (mkF m 154 #[.val (.ref q), .val (.int (Lp (a 0))), .val (.double (T (a 0))), .second, .val (.int (Lp (a 0))), .val (.int (0 : Int32)), .val (.int (1 : Int32))] [(.ref q)])) rfl rfl (hb hby d7_154)
  refine Go.step st11 ?_
  show Go _ _ _ _ _ _ _ T11 (mkF m 157 #[.val (.ref q), .val (.int (Lp (a 0))), .val (.double (T (a 0))), .second, .val (.int (Lp (a 0))), .val (.int (0 : Int32)), .val (.int (1 : Int32))] [(.ref v)])
  refine Go.step (fun _ k => XS.iload X11.here hx rfl (hb hby d7_157) rfl k) ?_
  show Go _ _ _ _ _ _ _ T11 (mkF m 159 #[.val (.ref q), .val (.int (Lp (a 0))), .val (.double (T (a 0))), .second, .val (.int (Lp (a 0))), .val (.int (0 : Int32)), .val (.int (1 : Int32))] [(.int (0 : Int32)), (.ref v)])
  refine Go.step (fun _ k => XS.iload X11.here hx rfl (hb hby d7_159) rfl k) ?_
  show Go _ _ _ _ _ _ _ T11 (mkF m 161 #[.val (.ref q), .val (.int (Lp (a 0))), .val (.double (T (a 0))), .second, .val (.int (Lp (a 0))), .val (.int (0 : Int32)), .val (.int (1 : Int32))] [(.int (Lp (a 0))), (.int (0 : Int32)), (.ref v)])
  refine Go.iastore X11 hx hZ e11 V_v_10 (j := (0 : Int32)) (x := (Lp (a 0))) (by decide) (hb hby d7_161) ?_
  intro T12 h12 X12 e12 W12 Vn12
  have V_v_12 : Iv Z h12 v (64 : Int32) (updN l' 0 (Lp (a 0))) := Vn12
  have N12 := Fr.snoc X12 N10 ge_v
  have E_q_12 := E_q_10.wr W12
  have F_size_q_12 := F_size_q_10.other W12 (Or.inl ne_q_v)
  have F_times_q_12 := F_times_q_10.other W12 (Or.inl ne_q_v)
  have F_lightpaths_q_12 := F_lightpaths_q_10.other W12 (Or.inl ne_q_v)
  have V_u_12 := V_u_10.other W12 ne_u_v
  have K12 : Keep h0 h12 [q, u, v] := K10.wr W12 (Or.inl (List.mem_of_getElem? (i := 2) rfl))
  show Go _ _ _ _ _ _ _ T12 (mkF m 162 #[.val (.ref q), .val (.int (Lp (a 0))), .val (.double (T (a 0))), .second, .val (.int (Lp (a 0))), .val (.int (0 : Int32)), .val (.int (1 : Int32))] [])
  refine Go.step (fun _ k => XS.iloadN X12.here hx rfl (hb hby d7_162) rfl k) ?_
  show Go _ _ _ _ _ _ _ T12 (mkF m 163 #[.val (.ref q), .val (.int (Lp (a 0))), .val (.double (T (a 0))), .second, .val (.int (Lp (a 0))), .val (.int (0 : Int32)), .val (.int (1 : Int32))] [(.int (Lp (a 0)))])
  refine Go.retI X12 hx hlk hret (hb hby d7_163) (by decide) (by decide) ?_
  try rw [e12]
  refine ⟨rfl, N12, K12, E_q_12, F_size_q_12, F_times_q_12, F_lightpaths_q_12, _, _, (updN a 0 (a 0)), V_u_12, V_v_12, fun i hi' => absurd hi' (by omega), fun i hi' => absurd hi' (by omega), ?_, ?_, fun P hP => ?_⟩
  · simp only [HI, updN]; try simp; try omega
  · exact ⟨fun i hi' => by omega, fun w => by simp [sumA, updN]; try omega⟩
  · intro i hi'; omega
theorem ef_rm_rem1 (m : MethodId) (q : Addr) : entryFrame m #[(.ref q)] 7 = mkF m 0 #[.val (.ref q), .unset, .unset, .unset, .unset, .unset, .unset] [] := by first | (simp [entryFrame, mkF, argsToLocals, Value.category]; done) | rfl
theorem rm_rem1 (l : Launch) (Z : State) (a0 : Array Value) (hw : ∀ d ∈ tables_1, d.before a0 Z = true) (q u v : Addr) (g : Nat → UInt64) (l' : Nat → Int32) (T : Nat → UInt64) (Lp : Nat → Int32) (K : Nat → Int) (a : Nat → Nat) (h0 : Heap) (n0 : Nat) (Z0 : n0 ≤ h0.size) (E_q : Exa Z h0 q "com/example/wavegrade/wavegrade/DepartureQueue") (F_size_q : Fld Z h0 q "com/example/wavegrade/wavegrade/DepartureQueue" "size" "I" (.int (1 : Int32))) (F_times_q : Fld Z h0 q "com/example/wavegrade/wavegrade/DepartureQueue" "times" "[D" (.ref u)) (F_lightpaths_q : Fld Z h0 q "com/example/wavegrade/wavegrade/DepartureQueue" "lightpaths" "[I" (.ref v)) (V_u : Dv Z h0 u (64 : Int32) g) (V_v : Iv Z h0 v (64 : Int32) l') (ne_q_u : q ≠ u) (ne_q_v : q ≠ v) (ne_u_v : u ≠ v) (ge_q : n0 ≤ q) (ge_u : n0 ≤ u) (ge_v : n0 ≤ v) (hT : ∀ x y, FP.dcmp (T x) (T y) = some (compare (K x) (K y))) (hg : ∀ i, i < 1 → g i = T (a i)) (hl : ∀ i, i < 1 → l' i = Lp (a i)) (hi : HI K a 1) :
    Con l Z (⟨"com/example/wavegrade/wavegrade/DepartureQueue", "removeFirst", "()I"⟩ : MethodName) prog_1_method_5_code 7 (some .int) ({ frames := 0, cells := 0, slots := 0, locals := 0 } : Room) #[(.ref q)] h0 (fun r h L => r = some (.int (Lp (a 0))) ∧ Fr n0 L ∧ Keep h0 h [q, u, v] ∧ Exa Z h q "com/example/wavegrade/wavegrade/DepartureQueue" ∧ Fld Z h q "com/example/wavegrade/wavegrade/DepartureQueue" "size" "I" (.int (0 : Int32)) ∧ Fld Z h q "com/example/wavegrade/wavegrade/DepartureQueue" "times" "[D" (.ref u) ∧ Fld Z h q "com/example/wavegrade/wavegrade/DepartureQueue" "lightpaths" "[I" (.ref v) ∧ ∃ (g2 : Nat → UInt64) (l2 : Nat → Int32) (a2 : Nat → Nat), Dv Z h u (64 : Int32) g2 ∧ Iv Z h v (64 : Int32) l2 ∧ (∀ i, i < 0 → g2 i = T (a2 i)) ∧ (∀ i, i < 0 → l2 i = Lp (a2 i)) ∧ HI K a2 0 ∧ ((∀ i, i < 0 → K (a 0) ≤ K (a2 i)) ∧ ∀ w : Nat → Int, sumA w a2 0 + w (a 0) = sumA w a 1) ∧ ∀ P : Nat → Prop, (∀ i, i < 1 → P (a i)) → ∀ i, i < 0 → P (a2 i)) :=
  con_of (plainFor_of_name pn_3) (fun p_ e_ s_ m_ b_ meth_ c_ T_ X_ hx hZ hby hml hown hnm hret hlk e0 => Go.cast (ef_rm_rem1 m_ q) (w_rem1 q u v g l' T Lp K a X_ hx hZ hw hby hml hown hnm hret hlk e0 Z0 (Fr.nil n0) E_q F_size_q F_times_q F_lightpaths_q V_u V_v ne_q_u ne_q_v ne_u_v ge_q ge_u ge_v hT hg hl hi))
theorem d1_0 : decode jdk_29_method_69_code 0 = .ok (.iload_n 0, 1) := by decide +kernel
theorem d1_1 : decode jdk_29_method_69_code 1 = .ok (.iload_n 1, 1) := by decide +kernel
theorem d1_2 : decode jdk_29_method_69_code 2 = .ok (.if_icmp .gt 7, 3) := by decide +kernel
theorem d1_9 : decode jdk_29_method_69_code 9 = .ok (.iload_n 1, 1) := by decide +kernel
theorem d1_10 : decode jdk_29_method_69_code 10 = .ok (.ireturn, 1) := by decide +kernel
theorem d1_5 : decode jdk_29_method_69_code 5 = .ok (.iload_n 0, 1) := by decide +kernel
theorem d1_6 : decode jdk_29_method_69_code 6 = .ok (.goto 4, 3) := by decide +kernel
set_option maxRecDepth 65536 in
set_option maxHeartbeats 40000000 in
theorem w1 {p : Program} {l : Launch} {e : Env} {s : State} {m : MethodId} {args : Array Value} {below : List Frame} {meth : Method} {c_ : Code} {T0 : State} {locs : List Loc} {Z : State} {a0 : Array Value} {h0 : Heap} {n0 : Nat} (x y : Int32)
    (X0 : Stand p l e ({ frames := 0, cells := 0, slots := 0, locals := 0 } : Room) s m args below meth c_ T0 locs 0 0) (hx : p.tables.exec = Jvm.exec) (hZ : Z.Warmed39 s.vm) (hw : ∀ d ∈ tables_1, d.before a0 Z = true) (hby : c_.code = jdk_29_method_69_code) (hml : c_.maxLocals = 2) (hown : s.vm.findClass "java/lang/Math" = some m.cls) (hnm : meth.name = "min") (hret : meth.sig.returnType = some .int) (hlk : meth.locks = false) (e0 : T0.heap = h0) (Z0 : n0 ≤ h0.size) (N0 : Fr n0 locs)  :
    Go p e below s ({ frames := 0, cells := 0, slots := 0, locals := 0 } : Room).cells ({ frames := 0, cells := 0, slots := 0, locals := 0 } : Room).slots (fun v h L => v = some (.int (minW x y)) ∧ Fr n0 L ∧ h = h0) T0 (mkF m 0 #[.val (.int x), .val (.int y)] []) := by
  show Go _ _ _ _ _ _ _ T0 (mkF m 0 #[.val (.int x), .val (.int y)] [])
  refine Go.step (fun _ k => XS.iloadN X0.here hx rfl (hb hby d1_0) rfl k) ?_
  show Go _ _ _ _ _ _ _ T0 (mkF m 1 #[.val (.int x), .val (.int y)] [(.int x)])
  refine Go.step (fun _ k => XS.iloadN X0.here hx rfl (hb hby d1_1) rfl k) ?_
  show Go _ _ _ _ _ _ _ T0 (mkF m 2 #[.val (.int x), .val (.int y)] [(.int y), (.int x)])
  by_cases hc2_1 : y < x
  · refine Go.step (fun _ k => XS.icmpYes X0.here hx rfl (pc0 := 2) (pc' := 9) rfl (hb hby d1_2) rfl (tlt hc2_1).2.2.1 (by decide) (by decide) k) ?_
    show Go _ _ _ _ _ _ _ T0 (mkF m 9 #[.val (.int x), .val (.int y)] [])
    refine Go.step (fun _ k => XS.iloadN X0.here hx rfl (hb hby d1_9) rfl k) ?_
    show Go _ _ _ _ _ _ _ T0 (mkF m 10 #[.val (.int x), .val (.int y)] [(.int y)])
    refine Go.retI X0 hx hlk hret (hb hby d1_10) (by decide) (by decide) ?_
    try rw [e0]
    exact ⟨by simp only [minW]; rw [if_pos hc2_1], N0, rfl⟩
  · refine Go.step (fun _ k => XS.icmpNo X0.here hx rfl (hb hby d1_2) rfl (flt hc2_1).2.2.1 k) ?_
    show Go _ _ _ _ _ _ _ T0 (mkF m 5 #[.val (.int x), .val (.int y)] [])
    refine Go.step (fun _ k => XS.iloadN X0.here hx rfl (hb hby d1_5) rfl k) ?_
    show Go _ _ _ _ _ _ _ T0 (mkF m 6 #[.val (.int x), .val (.int y)] [(.int x)])
    refine Go.step (fun _ k => XS.goto X0.here hx rfl (pc0 := 6) (pc' := 10) rfl (hb hby d1_6) (by decide) (by decide) k) ?_
    show Go _ _ _ _ _ _ _ T0 (mkF m 10 #[.val (.int x), .val (.int y)] [(.int x)])
    refine Go.retI X0 hx hlk hret (hb hby d1_10) (by decide) (by decide) ?_
    try rw [e0]
    exact ⟨by simp only [minW]; rw [if_neg hc2_1], N0, rfl⟩
theorem ef_rm1 (m : MethodId) (x : Int32) (y : Int32) : entryFrame m #[(.int x), (.int y)] 2 = mkF m 0 #[.val (.int x), .val (.int y)] [] := by first | (simp [entryFrame, mkF, argsToLocals, Value.category]; done) | rfl
theorem rm1 (l : Launch) (Z : State) (a0 : Array Value) (hw : ∀ d ∈ tables_1, d.before a0 Z = true) (x y : Int32) (h0 : Heap) (n0 : Nat) (Z0 : n0 ≤ h0.size)  :
    Con l Z (⟨"java/lang/Math", "min", "(II)I"⟩ : MethodName) jdk_29_method_69_code 2 (some .int) ({ frames := 0, cells := 0, slots := 0, locals := 0 } : Room) #[(.int x), (.int y)] h0 (fun v h L => v = some (.int (minW x y)) ∧ Fr n0 L ∧ h = h0) :=
  con_of (Jvm.Free.JP.mathPlain rfl (by decide +kernel)) (fun p_ e_ s_ m_ b_ meth_ c_ T_ X_ hx hZ hby hml hown hnm hret hlk e0 => Go.cast (ef_rm1 m_ x y) (w1 x y X_ hx hZ hw hby hml hown hnm hret hlk e0 Z0 (Fr.nil n0) ))
theorem d2_0 : decode jdk_29_method_65_code 0 = .ok (.iload_n 0, 1) := by decide +kernel
theorem d2_1 : decode jdk_29_method_65_code 1 = .ok (.iload_n 1, 1) := by decide +kernel
theorem d2_2 : decode jdk_29_method_65_code 2 = .ok (.if_icmp .lt 7, 3) := by decide +kernel
theorem d2_9 : decode jdk_29_method_65_code 9 = .ok (.iload_n 1, 1) := by decide +kernel
theorem d2_10 : decode jdk_29_method_65_code 10 = .ok (.ireturn, 1) := by decide +kernel
theorem d2_5 : decode jdk_29_method_65_code 5 = .ok (.iload_n 0, 1) := by decide +kernel
theorem d2_6 : decode jdk_29_method_65_code 6 = .ok (.goto 4, 3) := by decide +kernel
set_option maxRecDepth 65536 in
set_option maxHeartbeats 40000000 in
theorem w2 {p : Program} {l : Launch} {e : Env} {s : State} {m : MethodId} {args : Array Value} {below : List Frame} {meth : Method} {c_ : Code} {T0 : State} {locs : List Loc} {Z : State} {a0 : Array Value} {h0 : Heap} {n0 : Nat} (x y : Int32)
    (X0 : Stand p l e ({ frames := 0, cells := 0, slots := 0, locals := 0 } : Room) s m args below meth c_ T0 locs 0 0) (hx : p.tables.exec = Jvm.exec) (hZ : Z.Warmed39 s.vm) (hw : ∀ d ∈ tables_1, d.before a0 Z = true) (hby : c_.code = jdk_29_method_65_code) (hml : c_.maxLocals = 2) (hown : s.vm.findClass "java/lang/Math" = some m.cls) (hnm : meth.name = "max") (hret : meth.sig.returnType = some .int) (hlk : meth.locks = false) (e0 : T0.heap = h0) (Z0 : n0 ≤ h0.size) (N0 : Fr n0 locs)  :
    Go p e below s ({ frames := 0, cells := 0, slots := 0, locals := 0 } : Room).cells ({ frames := 0, cells := 0, slots := 0, locals := 0 } : Room).slots (fun v h L => v = some (.int (maxW x y)) ∧ Fr n0 L ∧ h = h0) T0 (mkF m 0 #[.val (.int x), .val (.int y)] []) := by
  show Go _ _ _ _ _ _ _ T0 (mkF m 0 #[.val (.int x), .val (.int y)] [])
  refine Go.step (fun _ k => XS.iloadN X0.here hx rfl (hb hby d2_0) rfl k) ?_
  show Go _ _ _ _ _ _ _ T0 (mkF m 1 #[.val (.int x), .val (.int y)] [(.int x)])
  refine Go.step (fun _ k => XS.iloadN X0.here hx rfl (hb hby d2_1) rfl k) ?_
  show Go _ _ _ _ _ _ _ T0 (mkF m 2 #[.val (.int x), .val (.int y)] [(.int y), (.int x)])
  by_cases hc2_1 : x < y
  · refine Go.step (fun _ k => XS.icmpYes X0.here hx rfl (pc0 := 2) (pc' := 9) rfl (hb hby d2_2) rfl (tlt hc2_1).1 (by decide) (by decide) k) ?_
    show Go _ _ _ _ _ _ _ T0 (mkF m 9 #[.val (.int x), .val (.int y)] [])
    refine Go.step (fun _ k => XS.iloadN X0.here hx rfl (hb hby d2_9) rfl k) ?_
    show Go _ _ _ _ _ _ _ T0 (mkF m 10 #[.val (.int x), .val (.int y)] [(.int y)])
    refine Go.retI X0 hx hlk hret (hb hby d2_10) (by decide) (by decide) ?_
    try rw [e0]
    exact ⟨by simp only [maxW]; rw [if_pos hc2_1], N0, rfl⟩
  · refine Go.step (fun _ k => XS.icmpNo X0.here hx rfl (hb hby d2_2) rfl (flt hc2_1).1 k) ?_
    show Go _ _ _ _ _ _ _ T0 (mkF m 5 #[.val (.int x), .val (.int y)] [])
    refine Go.step (fun _ k => XS.iloadN X0.here hx rfl (hb hby d2_5) rfl k) ?_
    show Go _ _ _ _ _ _ _ T0 (mkF m 6 #[.val (.int x), .val (.int y)] [(.int x)])
    refine Go.step (fun _ k => XS.goto X0.here hx rfl (pc0 := 6) (pc' := 10) rfl (hb hby d2_6) (by decide) (by decide) k) ?_
    show Go _ _ _ _ _ _ _ T0 (mkF m 10 #[.val (.int x), .val (.int y)] [(.int x)])
    refine Go.retI X0 hx hlk hret (hb hby d2_10) (by decide) (by decide) ?_
    try rw [e0]
    exact ⟨by simp only [maxW]; rw [if_neg hc2_1], N0, rfl⟩
theorem ef_rm2 (m : MethodId) (x : Int32) (y : Int32) : entryFrame m #[(.int x), (.int y)] 2 = mkF m 0 #[.val (.int x), .val (.int y)] [] := by first | (simp [entryFrame, mkF, argsToLocals, Value.category]; done) | rfl
theorem rm2 (l : Launch) (Z : State) (a0 : Array Value) (hw : ∀ d ∈ tables_1, d.before a0 Z = true) (x y : Int32) (h0 : Heap) (n0 : Nat) (Z0 : n0 ≤ h0.size)  :
    Con l Z (⟨"java/lang/Math", "max", "(II)I"⟩ : MethodName) jdk_29_method_65_code 2 (some .int) ({ frames := 0, cells := 0, slots := 0, locals := 0 } : Room) #[(.int x), (.int y)] h0 (fun v h L => v = some (.int (maxW x y)) ∧ Fr n0 L ∧ h = h0) :=
  con_of (Jvm.Free.JP.mathPlain rfl (by decide +kernel)) (fun p_ e_ s_ m_ b_ meth_ c_ T_ X_ hx hZ hby hml hown hnm hret hlk e0 => Go.cast (ef_rm2 m_ x y) (w2 x y X_ hx hZ hw hby hml hown hnm hret hlk e0 Z0 (Fr.nil n0) ))
theorem d8_0 : decode method_2_code 0 = .ok (.iload_n 0, 1) := by decide +kernel
theorem d8_1 : decode method_2_code 1 = .ok (.iload_n 1, 1) := by decide +kernel
theorem d8_2 : decode method_2_code 2 = .ok (.isub, 1) := by decide +kernel
theorem d8_3 : decode method_2_code 3 = .ok (.istore 5, 2) := by decide +kernel
theorem d8_5 : decode method_2_code 5 = .ok (.iload 5, 2) := by decide +kernel
theorem d8_7 : decode method_2_code 7 = .ok (.ifCond .lt 9, 3) := by decide +kernel
theorem d8_10 : decode method_2_code 10 = .ok (.iload 5, 2) := by decide +kernel
theorem d8_12 : decode method_2_code 12 = .ok (.iconst 3, 1) := by decide +kernel
theorem d8_13 : decode method_2_code 13 = .ok (.if_icmp .le 5, 3) := by decide +kernel
theorem d8_18 : decode method_2_code 18 = .ok (.aload_n 3, 1) := by decide +kernel
theorem d8_19 : decode method_2_code 19 = .ok (.iload 5, 2) := by decide +kernel
theorem d8_21 : decode method_2_code 21 = .ok (.baload, 1) := by decide +kernel
theorem d8_22 : decode method_2_code 22 = .ok (.ifCond .eq 5, 3) := by decide +kernel
theorem d8_27 : decode method_2_code 27 = .ok (.aload_n 3, 1) := by decide +kernel
theorem d8_28 : decode method_2_code 28 = .ok (.iload 5, 2) := by decide +kernel
theorem d8_30 : decode method_2_code 30 = .ok (.iconst 1, 1) := by decide +kernel
theorem d8_31 : decode method_2_code 31 = .ok (.bastore, 1) := by decide +kernel
theorem d8_32 : decode method_2_code 32 = .ok (.aload_n 2, 1) := by decide +kernel
theorem d8_33 : decode method_2_code 33 = .ok (.iload 5, 2) := by decide +kernel
theorem d8_35 : decode method_2_code 35 = .ok (.iaload, 1) := by decide +kernel
theorem d8_36 : decode method_2_code 36 = .ok (.iload 4, 2) := by decide +kernel
theorem d8_38 : decode method_2_code 38 = .ok (.if_icmp .ne 7, 3) := by decide +kernel
theorem d8_41 : decode method_2_code 41 = .ok (.iconst 1, 1) := by decide +kernel
theorem d8_42 : decode method_2_code 42 = .ok (.goto 4, 3) := by decide +kernel
theorem d8_46 : decode method_2_code 46 = .ok (.ireturn, 1) := by decide +kernel
theorem d8_45 : decode method_2_code 45 = .ok (.iconst 0, 1) := by decide +kernel
theorem d8_25 : decode method_2_code 25 = .ok (.iconst 0, 1) := by decide +kernel
theorem d8_26 : decode method_2_code 26 = .ok (.ireturn, 1) := by decide +kernel
set_option maxRecDepth 65536 in
set_option maxHeartbeats 40000000 in
theorem w8 {p : Program} {l : Launch} {e : Env} {s : State} {m : MethodId} {args : Array Value} {below : List Frame} {meth : Method} {c_ : Code} {T0 : State} {locs : List Loc} {Z : State} {a0 : Array Value} {h0 : Heap} {n0 : Nat} (lp lb : Int32) (ar us : Addr) (g u : Nat → Int32) (want : Int32)
    (X0 : Stand p l e ({ frames := 0, cells := 0, slots := 0, locals := 0 } : Room) s m args below meth c_ T0 locs 0 0) (hx : p.tables.exec = Jvm.exec) (hZ : Z.Warmed39 s.vm) (hw : ∀ d ∈ tables_1, d.before a0 Z = true) (hby : c_.code = method_2_code) (hml : c_.maxLocals = 6) (hown : s.vm.findClass "com/example/wavegrade/wavegrade/DepartureQueueAddPinLaw" = some m.cls) (hnm : meth.name = "take") (hret : meth.sig.returnType = some .boolean) (hlk : meth.locks = false) (e0 : T0.heap = h0) (Z0 : n0 ≤ h0.size) (N0 : Fr n0 locs) (V_ar : Iv Z h0 ar (4 : Int32) g) (V_us : Zv Z h0 us (4 : Int32) u) (ne_ar_us : ar ≠ us) (ge_us : n0 ≤ us) (hi : ¬ (lp - lb) < (0 : Int32) ∧ (lp - lb) < (4 : Int32) ∧ ¬ (3 : Int32) < (lp - lb)) :
    Go p e below s ({ frames := 0, cells := 0, slots := 0, locals := 0 } : Room).cells ({ frames := 0, cells := 0, slots := 0, locals := 0 } : Room).slots (fun r h L => ∃ (rr : Int32) (u2 : Nat → Int32), r = some (.int rr) ∧ Fr n0 L ∧ Keep h0 h [us] ∧ Zv Z h us (4 : Int32) u2 ∧ (u ((lp - lb)).toNatClampNeg = (0 : Int32) → u2 = updN u ((lp - lb)).toNatClampNeg (1 : Int32)) ∧ (u ((lp - lb)).toNatClampNeg = (0 : Int32) → g ((lp - lb)).toNatClampNeg = want → rr = 1)) T0 (mkF m 0 #[.val (.int lp), .val (.int lb), .val (.ref ar), .val (.ref us), .val (.int want), .unset] []) := by
  show Go _ _ _ _ _ _ _ T0 (mkF m 0 #[.val (.int lp), .val (.int lb), .val (.ref ar), .val (.ref us), .val (.int want), .unset] [])
  refine Go.step (fun _ k => XS.iloadN X0.here hx rfl (hb hby d8_0) rfl k) ?_
  show Go _ _ _ _ _ _ _ T0 (mkF m 1 #[.val (.int lp), .val (.int lb), .val (.ref ar), .val (.ref us), .val (.int want), .unset] [(.int lp)])
  refine Go.step (fun _ k => XS.iloadN X0.here hx rfl (hb hby d8_1) rfl k) ?_
  show Go _ _ _ _ _ _ _ T0 (mkF m 2 #[.val (.int lp), .val (.int lb), .val (.ref ar), .val (.ref us), .val (.int want), .unset] [(.int lb), (.int lp)])
  refine Go.step (fun _ k => XS.isub X0.here hx rfl (hb hby d8_2) rfl k) ?_
  show Go _ _ _ _ _ _ _ T0 (mkF m 3 #[.val (.int lp), .val (.int lb), .val (.ref ar), .val (.ref us), .val (.int want), .unset] [(.int (lp - lb))])
  refine Go.step (fun _ k => XS.istore X0.here hx rfl (hb hby d8_3) rfl (l' := #[.val (.int lp), .val (.int lb), .val (.ref ar), .val (.ref us), .val (.int want), .val (.int (lp - lb))]) rfl k) ?_
  show Go _ _ _ _ _ _ _ T0 (mkF m 5 #[.val (.int lp), .val (.int lb), .val (.ref ar), .val (.ref us), .val (.int want), .val (.int (lp - lb))] [])
  refine Go.step (fun _ k => XS.iload X0.here hx rfl (hb hby d8_5) rfl k) ?_
  show Go _ _ _ _ _ _ _ T0 (mkF m 7 #[.val (.int lp), .val (.int lb), .val (.ref ar), .val (.ref us), .val (.int want), .val (.int (lp - lb))] [(.int (lp - lb))])
  refine Go.step (fun _ k => XS.ifNo X0.here hx rfl (hb hby d8_7) rfl ((if0 _ _).trans (flt hi.1).1) k) ?_
  show Go _ _ _ _ _ _ _ T0 (mkF m 10 #[.val (.int lp), .val (.int lb), .val (.ref ar), .val (.ref us), .val (.int want), .val (.int (lp - lb))] [])
  refine Go.step (fun _ k => XS.iload X0.here hx rfl (hb hby d8_10) rfl k) ?_
  show Go _ _ _ _ _ _ _ T0 (mkF m 12 #[.val (.int lp), .val (.int lb), .val (.ref ar), .val (.ref us), .val (.int want), .val (.int (lp - lb))] [(.int (lp - lb))])
  refine Go.step (fun _ k => XS.iconst X0.here hx rfl (hb hby d8_12) k) ?_
  show Go _ _ _ _ _ _ _ T0 (mkF m 13 #[.val (.int lp), .val (.int lb), .val (.ref ar), .val (.ref us), .val (.int want), .val (.int (lp - lb))] [(.int (3 : Int32)), (.int (lp - lb))])
  refine Go.step (fun _ k => XS.icmpYes X0.here hx rfl (pc0 := 13) (pc' := 18) rfl (hb hby d8_13) rfl (flt hi.2.2).2.2.2 (by decide) (by decide) k) ?_
  show Go _ _ _ _ _ _ _ T0 (mkF m 18 #[.val (.int lp), .val (.int lb), .val (.ref ar), .val (.ref us), .val (.int want), .val (.int (lp - lb))] [])
  refine Go.step (fun _ k => XS.aloadN X0.here hx rfl (hb hby d8_18) rfl rfl k) ?_
  show Go _ _ _ _ _ _ _ T0 (mkF m 19 #[.val (.int lp), .val (.int lb), .val (.ref ar), .val (.ref us), .val (.int want), .val (.int (lp - lb))] [(.ref us)])
  refine Go.step (fun _ k => XS.iload X0.here hx rfl (hb hby d8_19) rfl k) ?_
  show Go _ _ _ _ _ _ _ T0 (mkF m 21 #[.val (.int lp), .val (.int lb), .val (.ref ar), .val (.ref us), .val (.int want), .val (.int (lp - lb))] [(.int (lp - lb)), (.ref us)])
  refine Go.zaload X0 hx hZ e0 V_us (j := (lp - lb)) (v := (u ((lp - lb)).toNatClampNeg)) ⟨hi.1, hi.2.1⟩ rfl (hb hby d8_21) ?_
  show Go _ _ _ _ _ _ _ T0 (mkF m 22 #[.val (.int lp), .val (.int lb), .val (.ref ar), .val (.ref us), .val (.int want), .val (.int (lp - lb))] [(.int (u ((lp - lb)).toNatClampNeg))])
  by_cases hc22_1 : (u ((lp - lb)).toNatClampNeg) = (0 : Int32)
  · refine Go.step (fun _ k => XS.ifYes X0.here hx rfl (pc0 := 22) (pc' := 27) rfl (hb hby d8_22) rfl ((if0 _ _).trans (teq hc22_1).1) (by decide) (by decide) k) ?_
    show Go _ _ _ _ _ _ _ T0 (mkF m 27 #[.val (.int lp), .val (.int lb), .val (.ref ar), .val (.ref us), .val (.int want), .val (.int (lp - lb))] [])
    refine Go.step (fun _ k => XS.aloadN X0.here hx rfl (hb hby d8_27) rfl rfl k) ?_
    show Go _ _ _ _ _ _ _ T0 (mkF m 28 #[.val (.int lp), .val (.int lb), .val (.ref ar), .val (.ref us), .val (.int want), .val (.int (lp - lb))] [(.ref us)])
    refine Go.step (fun _ k => XS.iload X0.here hx rfl (hb hby d8_28) rfl k) ?_
    show Go _ _ _ _ _ _ _ T0 (mkF m 30 #[.val (.int lp), .val (.int lb), .val (.ref ar), .val (.ref us), .val (.int want), .val (.int (lp - lb))] [(.int (lp - lb)), (.ref us)])
    refine Go.step (fun _ k => XS.iconst X0.here hx rfl (hb hby d8_30) k) ?_
    show Go _ _ _ _ _ _ _ T0 (mkF m 31 #[.val (.int lp), .val (.int lb), .val (.ref ar), .val (.ref us), .val (.int want), .val (.int (lp - lb))] [(.int (1 : Int32)), (.int (lp - lb)), (.ref us)])
    refine Go.zastore X0 hx hZ e0 V_us (j := (lp - lb)) (x := (1 : Int32)) ⟨hi.1, hi.2.1⟩ (by decide) (hb hby d8_31) ?_
    intro T2 h2 X2 e2 W2 Vn2
    have V_us_2 : Zv Z h2 us (4 : Int32) (updN u ((lp - lb)).toNatClampNeg (1 : Int32)) := Vn2
    have N2 := Fr.snoc X2 N0 ge_us
    have V_ar_2 := V_ar.other W2 ne_ar_us
    have K2 : Keep h0 h2 [us] := (Keep.refl h0 [us]).wr W2 (Or.inl (List.mem_of_getElem? (i := 0) rfl))
    show Go _ _ _ _ _ _ _ T2 (mkF m 32 #[.val (.int lp), .val (.int lb), .val (.ref ar), .val (.ref us), .val (.int want), .val (.int (lp - lb))] [])
    refine Go.step (fun _ k => XS.aloadN X2.here hx rfl (hb hby d8_32) rfl rfl k) ?_
    show Go _ _ _ _ _ _ _ T2 (mkF m 33 #[.val (.int lp), .val (.int lb), .val (.ref ar), .val (.ref us), .val (.int want), .val (.int (lp - lb))] [(.ref ar)])
    refine Go.step (fun _ k => XS.iload X2.here hx rfl (hb hby d8_33) rfl k) ?_
    show Go _ _ _ _ _ _ _ T2 (mkF m 35 #[.val (.int lp), .val (.int lb), .val (.ref ar), .val (.ref us), .val (.int want), .val (.int (lp - lb))] [(.int (lp - lb)), (.ref ar)])
    refine Go.iaload X2 hx hZ e2 V_ar_2 (j := (lp - lb)) (v := (g ((lp - lb)).toNatClampNeg)) ⟨hi.1, hi.2.1⟩ rfl (hb hby d8_35) ?_
    show Go _ _ _ _ _ _ _ T2 (mkF m 36 #[.val (.int lp), .val (.int lb), .val (.ref ar), .val (.ref us), .val (.int want), .val (.int (lp - lb))] [(.int (g ((lp - lb)).toNatClampNeg))])
    refine Go.step (fun _ k => XS.iload X2.here hx rfl (hb hby d8_36) rfl k) ?_
    show Go _ _ _ _ _ _ _ T2 (mkF m 38 #[.val (.int lp), .val (.int lb), .val (.ref ar), .val (.ref us), .val (.int want), .val (.int (lp - lb))] [(.int want), (.int (g ((lp - lb)).toNatClampNeg))])
    by_cases hc38_3 : (g ((lp - lb)).toNatClampNeg) = want
    · refine Go.step (fun _ k => XS.icmpNo X2.here hx rfl (hb hby d8_38) rfl (teq hc38_3).2 k) ?_
      show Go _ _ _ _ _ _ _ T2 (mkF m 41 #[.val (.int lp), .val (.int lb), .val (.ref ar), .val (.ref us), .val (.int want), .val (.int (lp - lb))] [])
      refine Go.step (fun _ k => XS.iconst X2.here hx rfl (hb hby d8_41) k) ?_
      show Go _ _ _ _ _ _ _ T2 (mkF m 42 #[.val (.int lp), .val (.int lb), .val (.ref ar), .val (.ref us), .val (.int want), .val (.int (lp - lb))] [(.int (1 : Int32))])
      refine Go.step (fun _ k => XS.goto X2.here hx rfl (pc0 := 42) (pc' := 46) rfl (hb hby d8_42) (by decide) (by decide) k) ?_
      show Go _ _ _ _ _ _ _ T2 (mkF m 46 #[.val (.int lp), .val (.int lb), .val (.ref ar), .val (.ref us), .val (.int want), .val (.int (lp - lb))] [(.int (1 : Int32))])
      refine Go.retZ X2 hx hlk hret (by decide) (hb hby d8_46) (by decide) (by decide) ?_
      try rw [e2]
      exact ⟨_, _, rfl, N2, K2, V_us_2, fun _ => rfl, fun _ hg => rfl⟩
    · refine Go.step (fun _ k => XS.icmpYes X2.here hx rfl (pc0 := 38) (pc' := 45) rfl (hb hby d8_38) rfl (feq hc38_3).2 (by decide) (by decide) k) ?_
      show Go _ _ _ _ _ _ _ T2 (mkF m 45 #[.val (.int lp), .val (.int lb), .val (.ref ar), .val (.ref us), .val (.int want), .val (.int (lp - lb))] [])
      refine Go.step (fun _ k => XS.iconst X2.here hx rfl (hb hby d8_45) k) ?_
      show Go _ _ _ _ _ _ _ T2 (mkF m 46 #[.val (.int lp), .val (.int lb), .val (.ref ar), .val (.ref us), .val (.int want), .val (.int (lp - lb))] [(.int (0 : Int32))])
      refine Go.retZ X2 hx hlk hret (by decide) (hb hby d8_46) (by decide) (by decide) ?_
      try rw [e2]
      exact ⟨_, _, rfl, N2, K2, V_us_2, fun _ => rfl, fun _ hg => absurd hg hc38_3⟩
  · refine Go.step (fun _ k => XS.ifNo X0.here hx rfl (hb hby d8_22) rfl ((if0 _ _).trans (feq hc22_1).1) k) ?_
    show Go _ _ _ _ _ _ _ T0 (mkF m 25 #[.val (.int lp), .val (.int lb), .val (.ref ar), .val (.ref us), .val (.int want), .val (.int (lp - lb))] [])
    refine Go.step (fun _ k => XS.iconst X0.here hx rfl (hb hby d8_25) k) ?_
    show Go _ _ _ _ _ _ _ T0 (mkF m 26 #[.val (.int lp), .val (.int lb), .val (.ref ar), .val (.ref us), .val (.int want), .val (.int (lp - lb))] [(.int (0 : Int32))])
    refine Go.retZ X0 hx hlk hret (by decide) (hb hby d8_26) (by decide) (by decide) ?_
    try rw [e0]
    exact ⟨_, u, rfl, N0, (Keep.refl h0 [us]), V_us, fun hu => absurd hu hc22_1, fun hu => absurd hu hc22_1⟩
theorem pn_8 : plainName "com/example/wavegrade/wavegrade/DepartureQueueAddPinLaw" = true := by first | (simp [plainName, overriddenIn]; done) | decide +kernel
theorem ef_rm8 (m : MethodId) (lp : Int32) (lb : Int32) (ar : Addr) (us : Addr) (want : Int32) : entryFrame m #[(.int lp), (.int lb), (.ref ar), (.ref us), (.int want)] 6 = mkF m 0 #[.val (.int lp), .val (.int lb), .val (.ref ar), .val (.ref us), .val (.int want), .unset] [] := by first | (simp [entryFrame, mkF, argsToLocals, Value.category]; done) | rfl
theorem rm8 (l : Launch) (Z : State) (a0 : Array Value) (hw : ∀ d ∈ tables_1, d.before a0 Z = true) (lp lb : Int32) (ar us : Addr) (g u : Nat → Int32) (want : Int32) (h0 : Heap) (n0 : Nat) (Z0 : n0 ≤ h0.size) (V_ar : Iv Z h0 ar (4 : Int32) g) (V_us : Zv Z h0 us (4 : Int32) u) (ne_ar_us : ar ≠ us) (ge_us : n0 ≤ us) (hi : ¬ (lp - lb) < (0 : Int32) ∧ (lp - lb) < (4 : Int32) ∧ ¬ (3 : Int32) < (lp - lb)) :
    Con l Z (⟨"com/example/wavegrade/wavegrade/DepartureQueueAddPinLaw", "take", "(II[I[ZI)Z"⟩ : MethodName) method_2_code 6 (some .boolean) ({ frames := 0, cells := 0, slots := 0, locals := 0 } : Room) #[(.int lp), (.int lb), (.ref ar), (.ref us), (.int want)] h0 (fun r h L => ∃ (rr : Int32) (u2 : Nat → Int32), r = some (.int rr) ∧ Fr n0 L ∧ Keep h0 h [us] ∧ Zv Z h us (4 : Int32) u2 ∧ (u ((lp - lb)).toNatClampNeg = (0 : Int32) → u2 = updN u ((lp - lb)).toNatClampNeg (1 : Int32)) ∧ (u ((lp - lb)).toNatClampNeg = (0 : Int32) → g ((lp - lb)).toNatClampNeg = want → rr = 1)) :=
  con_of (plainFor_of_name pn_8) (fun p_ e_ s_ m_ b_ meth_ c_ T_ X_ hx hZ hby hml hown hnm hret hlk e0 => Go.cast (ef_rm8 m_ lp lb ar us want) (w8 lp lb ar us g u want X_ hx hZ hw hby hml hown hnm hret hlk e0 Z0 (Fr.nil n0) V_ar V_us ne_ar_us ge_us hi))
theorem pd_0 : parseMethodDescriptor "(II)I" = some ⟨[.int, .int], some .int⟩ := by decide +kernel
theorem pd_1 : parseMethodDescriptor "()V" = some ⟨[], none⟩ := by decide +kernel
theorem pd_2 : parseMethodDescriptor "()Z" = some ⟨[], some .boolean⟩ := by decide +kernel
theorem pd_3 : parseMethodDescriptor "(DI)V" = some ⟨[.double, .int], none⟩ := by decide +kernel
theorem pd_4 : parseMethodDescriptor "()I" = some ⟨[], some .int⟩ := by decide +kernel
theorem pd_5 : parseMethodDescriptor "(II[I[ZI)Z" = some ⟨[.int, .int, (.array .int), (.array .boolean), .int], some .boolean⟩ := by decide +kernel
set_option maxRecDepth 65536 in
set_option maxHeartbeats 40000000 in
theorem w0 {p : Program} {l : Launch} {e : Env} {s : State} {m : MethodId} {args : Array Value} {below : List Frame} {meth : Method} {c_ : Code} {T0 : State} {locs : List Loc} {Z : State} {a0 : Array Value} {h0 : Heap} {n0 : Nat} (p0 p1 : Int32)
    (X0 : Stand p l e room_1 s m args below meth c_ T0 locs 0 0) (hx : p.tables.exec = Jvm.exec) (hZ : Z.Warmed39 s.vm) (hw : ∀ d ∈ tables_1, d.before a0 Z = true) (hby : c_.code = code) (hml : c_.maxLocals = maxLocals) (hown : s.vm.findClass "com/example/wavegrade/wavegrade/DepartureQueueAddPinLaw" = some m.cls) (hnm : meth.name = "law") (hret : meth.sig.returnType = ret) (hlk : meth.locks = false) (e0 : T0.heap = h0) (Z0 : n0 ≤ h0.size) (N0 : Fr n0 locs)  :
    Go p e below s room_1.cells room_1.slots (fun r h L => r = some (.int 1) ∧ Fr n0 L) T0 (mkF m 0 #[.val (.int p0), .val (.int p1), .unset, .unset, .unset, .unset, .unset, .unset, .unset, .unset, .unset, .unset, .unset, .unset, .unset, .unset, .unset, .unset, .unset, .unset, .unset, .unset, .unset, .unset, .unset] []) := by
  have hret : meth.sig.returnType = some .boolean := hret
  show Go _ _ _ _ _ _ _ T0 (mkF m 0 #[.val (.int p0), .val (.int p1), .unset, .unset, .unset, .unset, .unset, .unset, .unset, .unset, .unset, .unset, .unset, .unset, .unset, .unset, .unset, .unset, .unset, .unset, .unset, .unset, .unset, .unset, .unset] [])
  refine Go.step (fun _ k => XS.iconst X0.here hx rfl (hb hby at_0) k) ?_
  show Go _ _ _ _ _ _ _ T0 (mkF m 1 #[.val (.int p0), .val (.int p1), .unset, .unset, .unset, .unset, .unset, .unset, .unset, .unset, .unset, .unset, .unset, .unset, .unset, .unset, .unset, .unset, .unset, .unset, .unset, .unset, .unset, .unset, .unset] [(.int (4 : Int32))])
  obtain ⟨T1, h1, k1, X1, e1, E1, A1, st1⟩ := newP X0 hx hZ (hw _ (List.mem_of_getElem? (i := 0) rfl)) e0 (g := (mkF m 1 #[.val (.int p0), .val (.int p1), .unset, .unset, .unset, .unset, .unset, .unset, .unset, .unset, .unset, .unset, .unset, .unset, .unset, .unset, .unset, .unset, .unset, .unset, .unset, .unset, .unset, .unset, .unset] [(.int (4 : Int32))])) rfl (hb hby at_1) rfl (by decide) (cap := 4) (by decide) (by decide) (by decide) (by decide)
  obtain ⟨b1, g1⟩ : ∃ z, z = h0.size := ⟨_, rfl⟩
  rw [← g1] at A1 st1
  refine Go.step st1 ?_
  have K1 : Keep h0 h1 [] := (Keep.refl h0 []).ext E1
  have sz_b1 : h0.size ≤ b1 := Nat.le_trans ((Keep.refl h0 []) : Keep h0 h0 []).1 (Nat.le_of_eq g1.symm)
  have ge_b1 : n0 ≤ b1 := Nat.le_trans Z0 sz_b1
  have V_b1 : Iv Z h1 b1 (4 : Int32) (fun _ => (0 : Int32)) := Fv.new A1 (by decide)
  show Go _ _ _ _ _ _ _ T1 (mkF m 3 #[.val (.int p0), .val (.int p1), .unset, .unset, .unset, .unset, .unset, .unset, .unset, .unset, .unset, .unset, .unset, .unset, .unset, .unset, .unset, .unset, .unset, .unset, .unset, .unset, .unset, .unset, .unset] [(.ref b1)])
  refine Go.step (fun _ k => XS.astoreN X1.here hx rfl (hb hby at_3) rfl rfl (l' := #[.val (.int p0), .val (.int p1), .val (.ref b1), .unset, .unset, .unset, .unset, .unset, .unset, .unset, .unset, .unset, .unset, .unset, .unset, .unset, .unset, .unset, .unset, .unset, .unset, .unset, .unset, .unset, .unset]) rfl k) ?_
  show Go _ _ _ _ _ _ _ T1 (mkF m 4 #[.val (.int p0), .val (.int p1), .val (.ref b1), .unset, .unset, .unset, .unset, .unset, .unset, .unset, .unset, .unset, .unset, .unset, .unset, .unset, .unset, .unset, .unset, .unset, .unset, .unset, .unset, .unset, .unset] [])
  refine Go.step (fun _ k => XS.aloadN X1.here hx rfl (hb hby at_4) rfl rfl k) ?_
  show Go _ _ _ _ _ _ _ T1 (mkF m 5 #[.val (.int p0), .val (.int p1), .val (.ref b1), .unset, .unset, .unset, .unset, .unset, .unset, .unset, .unset, .unset, .unset, .unset, .unset, .unset, .unset, .unset, .unset, .unset, .unset, .unset, .unset, .unset, .unset] [(.ref b1)])
  refine Go.step (fun _ k => XS.iconst X1.here hx rfl (hb hby at_5) k) ?_
  show Go _ _ _ _ _ _ _ T1 (mkF m 6 #[.val (.int p0), .val (.int p1), .val (.ref b1), .unset, .unset, .unset, .unset, .unset, .unset, .unset, .unset, .unset, .unset, .unset, .unset, .unset, .unset, .unset, .unset, .unset, .unset, .unset, .unset, .unset, .unset] [(.int (0 : Int32)), (.ref b1)])
  refine Go.step (fun _ k => XS.iloadN X1.here hx rfl (hb hby at_6) rfl k) ?_
  show Go _ _ _ _ _ _ _ T1 (mkF m 7 #[.val (.int p0), .val (.int p1), .val (.ref b1), .unset, .unset, .unset, .unset, .unset, .unset, .unset, .unset, .unset, .unset, .unset, .unset, .unset, .unset, .unset, .unset, .unset, .unset, .unset, .unset, .unset, .unset] [(.int p0), (.int (0 : Int32)), (.ref b1)])
  refine Go.step (fun _ k => XS.i2b X1.here hx rfl (hb hby at_7) rfl k) ?_
  show Go _ _ _ _ _ _ _ T1 (mkF m 8 #[.val (.int p0), .val (.int p1), .val (.ref b1), .unset, .unset, .unset, .unset, .unset, .unset, .unset, .unset, .unset, .unset, .unset, .unset, .unset, .unset, .unset, .unset, .unset, .unset, .unset, .unset, .unset, .unset] [(.int (p0.toInt8.toInt32)), (.int (0 : Int32)), (.ref b1)])
  refine Go.iastore X1 hx hZ e1 V_b1 (j := (0 : Int32)) (x := (p0.toInt8.toInt32)) (by decide) (hb hby at_8) ?_
  intro T2 h2 X2 e2 W2 Vn2
  have V_b1_2 : Iv Z h2 b1 (4 : Int32) (updN (fun _ => (0 : Int32)) 0 (p0.toInt8.toInt32)) := Vn2
  have N2 := Fr.snoc X2 N0 ge_b1
  have K2 : Keep h0 h2 [] := K1.wr W2 (Or.inr sz_b1)
  show Go _ _ _ _ _ _ _ T2 (mkF m 9 #[.val (.int p0), .val (.int p1), .val (.ref b1), .unset, .unset, .unset, .unset, .unset, .unset, .unset, .unset, .unset, .unset, .unset, .unset, .unset, .unset, .unset, .unset, .unset, .unset, .unset, .unset, .unset, .unset] [])
  refine Go.step (fun _ k => XS.aloadN X2.here hx rfl (hb hby at_9) rfl rfl k) ?_
  show Go _ _ _ _ _ _ _ T2 (mkF m 10 #[.val (.int p0), .val (.int p1), .val (.ref b1), .unset, .unset, .unset, .unset, .unset, .unset, .unset, .unset, .unset, .unset, .unset, .unset, .unset, .unset, .unset, .unset, .unset, .unset, .unset, .unset, .unset, .unset] [(.ref b1)])
  refine Go.step (fun _ k => XS.iconst X2.here hx rfl (hb hby at_10) k) ?_
  show Go _ _ _ _ _ _ _ T2 (mkF m 11 #[.val (.int p0), .val (.int p1), .val (.ref b1), .unset, .unset, .unset, .unset, .unset, .unset, .unset, .unset, .unset, .unset, .unset, .unset, .unset, .unset, .unset, .unset, .unset, .unset, .unset, .unset, .unset, .unset] [(.int (1 : Int32)), (.ref b1)])
  refine Go.step (fun _ k => XS.iloadN X2.here hx rfl (hb hby at_11) rfl k) ?_
  show Go _ _ _ _ _ _ _ T2 (mkF m 12 #[.val (.int p0), .val (.int p1), .val (.ref b1), .unset, .unset, .unset, .unset, .unset, .unset, .unset, .unset, .unset, .unset, .unset, .unset, .unset, .unset, .unset, .unset, .unset, .unset, .unset, .unset, .unset, .unset] [(.int p0), (.int (1 : Int32)), (.ref b1)])
  refine Go.step (fun _ k => XS.bipush X2.here hx rfl (hb hby at_12) k) ?_
  show Go _ _ _ _ _ _ _ T2 (mkF m 14 #[.val (.int p0), .val (.int p1), .val (.ref b1), .unset, .unset, .unset, .unset, .unset, .unset, .unset, .unset, .unset, .unset, .unset, .unset, .unset, .unset, .unset, .unset, .unset, .unset, .unset, .unset, .unset, .unset] [(.int (8 : Int32)), (.int p0), (.int (1 : Int32)), (.ref b1)])
  refine Go.step (fun _ k => XS.ishr X2.here hx rfl (hb hby at_14) rfl k) ?_
  show Go _ _ _ _ _ _ _ T2 (mkF m 15 #[.val (.int p0), .val (.int p1), .val (.ref b1), .unset, .unset, .unset, .unset, .unset, .unset, .unset, .unset, .unset, .unset, .unset, .unset, .unset, .unset, .unset, .unset, .unset, .unset, .unset, .unset, .unset, .unset] [(.int (p0 >>> ((8 : Int32) &&& 31))), (.int (1 : Int32)), (.ref b1)])
  refine Go.step (fun _ k => XS.i2b X2.here hx rfl (hb hby at_15) rfl k) ?_
  show Go _ _ _ _ _ _ _ T2 (mkF m 16 #[.val (.int p0), .val (.int p1), .val (.ref b1), .unset, .unset, .unset, .unset, .unset, .unset, .unset, .unset, .unset, .unset, .unset, .unset, .unset, .unset, .unset, .unset, .unset, .unset, .unset, .unset, .unset, .unset] [(.int ((p0 >>> ((8 : Int32) &&& 31)).toInt8.toInt32)), (.int (1 : Int32)), (.ref b1)])
  refine Go.iastore X2 hx hZ e2 V_b1_2 (j := (1 : Int32)) (x := ((p0 >>> ((8 : Int32) &&& 31)).toInt8.toInt32)) (by decide) (hb hby at_16) ?_
  intro T3 h3 X3 e3 W3 Vn3
  have V_b1_3 : Iv Z h3 b1 (4 : Int32) (updN (updN (fun _ => (0 : Int32)) 0 (p0.toInt8.toInt32)) 1 ((p0 >>> ((8 : Int32) &&& 31)).toInt8.toInt32)) := Vn3
  have N3 := Fr.snoc X3 N2 ge_b1
  have K3 : Keep h0 h3 [] := K2.wr W3 (Or.inr sz_b1)
  show Go _ _ _ _ _ _ _ T3 (mkF m 17 #[.val (.int p0), .val (.int p1), .val (.ref b1), .unset, .unset, .unset, .unset, .unset, .unset, .unset, .unset, .unset, .unset, .unset, .unset, .unset, .unset, .unset, .unset, .unset, .unset, .unset, .unset, .unset, .unset] [])
  refine Go.step (fun _ k => XS.aloadN X3.here hx rfl (hb hby at_17) rfl rfl k) ?_
  show Go _ _ _ _ _ _ _ T3 (mkF m 18 #[.val (.int p0), .val (.int p1), .val (.ref b1), .unset, .unset, .unset, .unset, .unset, .unset, .unset, .unset, .unset, .unset, .unset, .unset, .unset, .unset, .unset, .unset, .unset, .unset, .unset, .unset, .unset, .unset] [(.ref b1)])
  refine Go.step (fun _ k => XS.iconst X3.here hx rfl (hb hby at_18) k) ?_
  show Go _ _ _ _ _ _ _ T3 (mkF m 19 #[.val (.int p0), .val (.int p1), .val (.ref b1), .unset, .unset, .unset, .unset, .unset, .unset, .unset, .unset, .unset, .unset, .unset, .unset, .unset, .unset, .unset, .unset, .unset, .unset, .unset, .unset, .unset, .unset] [(.int (2 : Int32)), (.ref b1)])
  refine Go.step (fun _ k => XS.iloadN X3.here hx rfl (hb hby at_19) rfl k) ?_
  show Go _ _ _ _ _ _ _ T3 (mkF m 20 #[.val (.int p0), .val (.int p1), .val (.ref b1), .unset, .unset, .unset, .unset, .unset, .unset, .unset, .unset, .unset, .unset, .unset, .unset, .unset, .unset, .unset, .unset, .unset, .unset, .unset, .unset, .unset, .unset] [(.int p0), (.int (2 : Int32)), (.ref b1)])
  refine Go.step (fun _ k => XS.bipush X3.here hx rfl (hb hby at_20) k) ?_
  show Go _ _ _ _ _ _ _ T3 (mkF m 22 #[.val (.int p0), .val (.int p1), .val (.ref b1), .unset, .unset, .unset, .unset, .unset, .unset, .unset, .unset, .unset, .unset, .unset, .unset, .unset, .unset, .unset, .unset, .unset, .unset, .unset, .unset, .unset, .unset] [(.int (16 : Int32)), (.int p0), (.int (2 : Int32)), (.ref b1)])
  refine Go.step (fun _ k => XS.ishr X3.here hx rfl (hb hby at_22) rfl k) ?_
  show Go _ _ _ _ _ _ _ T3 (mkF m 23 #[.val (.int p0), .val (.int p1), .val (.ref b1), .unset, .unset, .unset, .unset, .unset, .unset, .unset, .unset, .unset, .unset, .unset, .unset, .unset, .unset, .unset, .unset, .unset, .unset, .unset, .unset, .unset, .unset] [(.int (p0 >>> ((16 : Int32) &&& 31))), (.int (2 : Int32)), (.ref b1)])
  refine Go.step (fun _ k => XS.i2b X3.here hx rfl (hb hby at_23) rfl k) ?_
  show Go _ _ _ _ _ _ _ T3 (mkF m 24 #[.val (.int p0), .val (.int p1), .val (.ref b1), .unset, .unset, .unset, .unset, .unset, .unset, .unset, .unset, .unset, .unset, .unset, .unset, .unset, .unset, .unset, .unset, .unset, .unset, .unset, .unset, .unset, .unset] [(.int ((p0 >>> ((16 : Int32) &&& 31)).toInt8.toInt32)), (.int (2 : Int32)), (.ref b1)])
  refine Go.iastore X3 hx hZ e3 V_b1_3 (j := (2 : Int32)) (x := ((p0 >>> ((16 : Int32) &&& 31)).toInt8.toInt32)) (by decide) (hb hby at_24) ?_
  intro T4 h4 X4 e4 W4 Vn4
  have V_b1_4 : Iv Z h4 b1 (4 : Int32) (updN (updN (updN (fun _ => (0 : Int32)) 0 (p0.toInt8.toInt32)) 1 ((p0 >>> ((8 : Int32) &&& 31)).toInt8.toInt32)) 2 ((p0 >>> ((16 : Int32) &&& 31)).toInt8.toInt32)) := Vn4
  have N4 := Fr.snoc X4 N3 ge_b1
  have K4 : Keep h0 h4 [] := K3.wr W4 (Or.inr sz_b1)
  show Go _ _ _ _ _ _ _ T4 (mkF m 25 #[.val (.int p0), .val (.int p1), .val (.ref b1), .unset, .unset, .unset, .unset, .unset, .unset, .unset, .unset, .unset, .unset, .unset, .unset, .unset, .unset, .unset, .unset, .unset, .unset, .unset, .unset, .unset, .unset] [])
  refine Go.step (fun _ k => XS.aloadN X4.here hx rfl (hb hby at_25) rfl rfl k) ?_
  show Go _ _ _ _ _ _ _ T4 (mkF m 26 #[.val (.int p0), .val (.int p1), .val (.ref b1), .unset, .unset, .unset, .unset, .unset, .unset, .unset, .unset, .unset, .unset, .unset, .unset, .unset, .unset, .unset, .unset, .unset, .unset, .unset, .unset, .unset, .unset] [(.ref b1)])
  refine Go.step (fun _ k => XS.iconst X4.here hx rfl (hb hby at_26) k) ?_
  show Go _ _ _ _ _ _ _ T4 (mkF m 27 #[.val (.int p0), .val (.int p1), .val (.ref b1), .unset, .unset, .unset, .unset, .unset, .unset, .unset, .unset, .unset, .unset, .unset, .unset, .unset, .unset, .unset, .unset, .unset, .unset, .unset, .unset, .unset, .unset] [(.int (3 : Int32)), (.ref b1)])
  refine Go.step (fun _ k => XS.iloadN X4.here hx rfl (hb hby at_27) rfl k) ?_
  show Go _ _ _ _ _ _ _ T4 (mkF m 28 #[.val (.int p0), .val (.int p1), .val (.ref b1), .unset, .unset, .unset, .unset, .unset, .unset, .unset, .unset, .unset, .unset, .unset, .unset, .unset, .unset, .unset, .unset, .unset, .unset, .unset, .unset, .unset, .unset] [(.int p0), (.int (3 : Int32)), (.ref b1)])
  refine Go.step (fun _ k => XS.bipush X4.here hx rfl (hb hby at_28) k) ?_
  show Go _ _ _ _ _ _ _ T4 (mkF m 30 #[.val (.int p0), .val (.int p1), .val (.ref b1), .unset, .unset, .unset, .unset, .unset, .unset, .unset, .unset, .unset, .unset, .unset, .unset, .unset, .unset, .unset, .unset, .unset, .unset, .unset, .unset, .unset, .unset] [(.int (24 : Int32)), (.int p0), (.int (3 : Int32)), (.ref b1)])
  refine Go.step (fun _ k => XS.ishr X4.here hx rfl (hb hby at_30) rfl k) ?_
  show Go _ _ _ _ _ _ _ T4 (mkF m 31 #[.val (.int p0), .val (.int p1), .val (.ref b1), .unset, .unset, .unset, .unset, .unset, .unset, .unset, .unset, .unset, .unset, .unset, .unset, .unset, .unset, .unset, .unset, .unset, .unset, .unset, .unset, .unset, .unset] [(.int (p0 >>> ((24 : Int32) &&& 31))), (.int (3 : Int32)), (.ref b1)])
  refine Go.step (fun _ k => XS.i2b X4.here hx rfl (hb hby at_31) rfl k) ?_
  show Go _ _ _ _ _ _ _ T4 (mkF m 32 #[.val (.int p0), .val (.int p1), .val (.ref b1), .unset, .unset, .unset, .unset, .unset, .unset, .unset, .unset, .unset, .unset, .unset, .unset, .unset, .unset, .unset, .unset, .unset, .unset, .unset, .unset, .unset, .unset] [(.int ((p0 >>> ((24 : Int32) &&& 31)).toInt8.toInt32)), (.int (3 : Int32)), (.ref b1)])
  refine Go.iastore X4 hx hZ e4 V_b1_4 (j := (3 : Int32)) (x := ((p0 >>> ((24 : Int32) &&& 31)).toInt8.toInt32)) (by decide) (hb hby at_32) ?_
  intro T5 h5 X5 e5 W5 Vn5
  have V_b1_5 : Iv Z h5 b1 (4 : Int32) (updN (updN (updN (updN (fun _ => (0 : Int32)) 0 (p0.toInt8.toInt32)) 1 ((p0 >>> ((8 : Int32) &&& 31)).toInt8.toInt32)) 2 ((p0 >>> ((16 : Int32) &&& 31)).toInt8.toInt32)) 3 ((p0 >>> ((24 : Int32) &&& 31)).toInt8.toInt32)) := Vn5
  have N5 := Fr.snoc X5 N4 ge_b1
  have K5 : Keep h0 h5 [] := K4.wr W5 (Or.inr sz_b1)
  have Vtv : Iv Z h5 b1 (4 : Int32) (tV p0) := V_b1_5
  show Go _ _ _ _ _ _ _ T5 (mkF m 33 #[.val (.int p0), .val (.int p1), .val (.ref b1), .unset, .unset, .unset, .unset, .unset, .unset, .unset, .unset, .unset, .unset, .unset, .unset, .unset, .unset, .unset, .unset, .unset, .unset, .unset, .unset, .unset, .unset] [])
  refine Go.step (fun _ k => XS.aloadN X5.here hx rfl (hb hby at_33) rfl rfl k) ?_
  show Go _ _ _ _ _ _ _ T5 (mkF m 34 #[.val (.int p0), .val (.int p1), .val (.ref b1), .unset, .unset, .unset, .unset, .unset, .unset, .unset, .unset, .unset, .unset, .unset, .unset, .unset, .unset, .unset, .unset, .unset, .unset, .unset, .unset, .unset, .unset] [(.ref b1)])
  refine Go.step (fun _ k => XS.iconst X5.here hx rfl (hb hby at_34) k) ?_
  show Go _ _ _ _ _ _ _ T5 (mkF m 35 #[.val (.int p0), .val (.int p1), .val (.ref b1), .unset, .unset, .unset, .unset, .unset, .unset, .unset, .unset, .unset, .unset, .unset, .unset, .unset, .unset, .unset, .unset, .unset, .unset, .unset, .unset, .unset, .unset] [(.int (0 : Int32)), (.ref b1)])
  refine Go.iaload X5 hx hZ e5 Vtv (j := (0 : Int32)) (v := ((tV p0) 0)) (by decide) rfl (hb hby at_35) ?_
  show Go _ _ _ _ _ _ _ T5 (mkF m 36 #[.val (.int p0), .val (.int p1), .val (.ref b1), .unset, .unset, .unset, .unset, .unset, .unset, .unset, .unset, .unset, .unset, .unset, .unset, .unset, .unset, .unset, .unset, .unset, .unset, .unset, .unset, .unset, .unset] [(.int ((tV p0) 0))])
  refine Go.step (fun _ k => XS.aloadN X5.here hx rfl (hb hby at_36) rfl rfl k) ?_
  show Go _ _ _ _ _ _ _ T5 (mkF m 37 #[.val (.int p0), .val (.int p1), .val (.ref b1), .unset, .unset, .unset, .unset, .unset, .unset, .unset, .unset, .unset, .unset, .unset, .unset, .unset, .unset, .unset, .unset, .unset, .unset, .unset, .unset, .unset, .unset] [(.ref b1), (.int ((tV p0) 0))])
  refine Go.step (fun _ k => XS.iconst X5.here hx rfl (hb hby at_37) k) ?_
  show Go _ _ _ _ _ _ _ T5 (mkF m 38 #[.val (.int p0), .val (.int p1), .val (.ref b1), .unset, .unset, .unset, .unset, .unset, .unset, .unset, .unset, .unset, .unset, .unset, .unset, .unset, .unset, .unset, .unset, .unset, .unset, .unset, .unset, .unset, .unset] [(.int (1 : Int32)), (.ref b1), (.int ((tV p0) 0))])
  refine Go.iaload X5 hx hZ e5 Vtv (j := (1 : Int32)) (v := ((tV p0) 1)) (by decide) rfl (hb hby at_38) ?_
  show Go _ _ _ _ _ _ _ T5 (mkF m 39 #[.val (.int p0), .val (.int p1), .val (.ref b1), .unset, .unset, .unset, .unset, .unset, .unset, .unset, .unset, .unset, .unset, .unset, .unset, .unset, .unset, .unset, .unset, .unset, .unset, .unset, .unset, .unset, .unset] [(.int ((tV p0) 1)), (.int ((tV p0) 0))])
  refine Go.callS X5 hx hZ (by rw [hml]; rfl) (y := (⟨"java/lang/Math", "min", "(II)I"⟩ : MethodName)) (argsL := [(.int ((tV p0) 0)), (.int ((tV p0) 1))]) (rest := []) hown (hw _ (List.mem_of_getElem? (i := 1) rfl)) (hw _ (List.mem_of_getElem? (i := 2) rfl)) (hw _ (List.mem_of_getElem? (i := 3) rfl)) (hw _ (List.mem_of_getElem? (i := 4) rfl)) (by decide) (rm1 l Z a0 hw ((tV p0) 0) ((tV p0) 1) h5 n0 (Nat.le_trans Z0 (K5 : Keep h0 h5 []).1)) e5 (hb hby at_39) (lenOf pd_0 rfl) rfl rfl (W := 0) (Nat.le_of_eq rfl) (by decide) (by decide) (by decide) (by decide) ?_
  intro v6 T6 L6 X6 Q6
  obtain ⟨rfl, N6q, hh6⟩ := Q6
  have N6 := Fr.app N5 N6q
  show Go _ _ _ _ _ _ _ T6 (mkF m 42 #[.val (.int p0), .val (.int p1), .val (.ref b1), .unset, .unset, .unset, .unset, .unset, .unset, .unset, .unset, .unset, .unset, .unset, .unset, .unset, .unset, .unset, .unset, .unset, .unset, .unset, .unset, .unset, .unset] [(.int (minW ((tV p0) 0) ((tV p0) 1)))])
  refine Go.step (fun _ k => XS.istoreN X6.here hx rfl (hb hby at_42) rfl (l' := #[.val (.int p0), .val (.int p1), .val (.ref b1), .val (.int (minW ((tV p0) 0) ((tV p0) 1))), .unset, .unset, .unset, .unset, .unset, .unset, .unset, .unset, .unset, .unset, .unset, .unset, .unset, .unset, .unset, .unset, .unset, .unset, .unset, .unset, .unset]) rfl k) ?_
  show Go _ _ _ _ _ _ _ T6 (mkF m 43 #[.val (.int p0), .val (.int p1), .val (.ref b1), .val (.int (minW ((tV p0) 0) ((tV p0) 1))), .unset, .unset, .unset, .unset, .unset, .unset, .unset, .unset, .unset, .unset, .unset, .unset, .unset, .unset, .unset, .unset, .unset, .unset, .unset, .unset, .unset] [])
  refine Go.step (fun _ k => XS.aloadN X6.here hx rfl (hb hby at_43) rfl rfl k) ?_
  show Go _ _ _ _ _ _ _ T6 (mkF m 44 #[.val (.int p0), .val (.int p1), .val (.ref b1), .val (.int (minW ((tV p0) 0) ((tV p0) 1))), .unset, .unset, .unset, .unset, .unset, .unset, .unset, .unset, .unset, .unset, .unset, .unset, .unset, .unset, .unset, .unset, .unset, .unset, .unset, .unset, .unset] [(.ref b1)])
  refine Go.step (fun _ k => XS.iconst X6.here hx rfl (hb hby at_44) k) ?_
  show Go _ _ _ _ _ _ _ T6 (mkF m 45 #[.val (.int p0), .val (.int p1), .val (.ref b1), .val (.int (minW ((tV p0) 0) ((tV p0) 1))), .unset, .unset, .unset, .unset, .unset, .unset, .unset, .unset, .unset, .unset, .unset, .unset, .unset, .unset, .unset, .unset, .unset, .unset, .unset, .unset, .unset] [(.int (0 : Int32)), (.ref b1)])
  refine Go.iaload X6 hx hZ hh6 Vtv (j := (0 : Int32)) (v := ((tV p0) 0)) (by decide) rfl (hb hby at_45) ?_
  show Go _ _ _ _ _ _ _ T6 (mkF m 46 #[.val (.int p0), .val (.int p1), .val (.ref b1), .val (.int (minW ((tV p0) 0) ((tV p0) 1))), .unset, .unset, .unset, .unset, .unset, .unset, .unset, .unset, .unset, .unset, .unset, .unset, .unset, .unset, .unset, .unset, .unset, .unset, .unset, .unset, .unset] [(.int ((tV p0) 0))])
  refine Go.step (fun _ k => XS.aloadN X6.here hx rfl (hb hby at_46) rfl rfl k) ?_
  show Go _ _ _ _ _ _ _ T6 (mkF m 47 #[.val (.int p0), .val (.int p1), .val (.ref b1), .val (.int (minW ((tV p0) 0) ((tV p0) 1))), .unset, .unset, .unset, .unset, .unset, .unset, .unset, .unset, .unset, .unset, .unset, .unset, .unset, .unset, .unset, .unset, .unset, .unset, .unset, .unset, .unset] [(.ref b1), (.int ((tV p0) 0))])
  refine Go.step (fun _ k => XS.iconst X6.here hx rfl (hb hby at_47) k) ?_
  show Go _ _ _ _ _ _ _ T6 (mkF m 48 #[.val (.int p0), .val (.int p1), .val (.ref b1), .val (.int (minW ((tV p0) 0) ((tV p0) 1))), .unset, .unset, .unset, .unset, .unset, .unset, .unset, .unset, .unset, .unset, .unset, .unset, .unset, .unset, .unset, .unset, .unset, .unset, .unset, .unset, .unset] [(.int (1 : Int32)), (.ref b1), (.int ((tV p0) 0))])
  refine Go.iaload X6 hx hZ hh6 Vtv (j := (1 : Int32)) (v := ((tV p0) 1)) (by decide) rfl (hb hby at_48) ?_
  show Go _ _ _ _ _ _ _ T6 (mkF m 49 #[.val (.int p0), .val (.int p1), .val (.ref b1), .val (.int (minW ((tV p0) 0) ((tV p0) 1))), .unset, .unset, .unset, .unset, .unset, .unset, .unset, .unset, .unset, .unset, .unset, .unset, .unset, .unset, .unset, .unset, .unset, .unset, .unset, .unset, .unset] [(.int ((tV p0) 1)), (.int ((tV p0) 0))])
  refine Go.callS X6 hx hZ (by rw [hml]; rfl) (y := (⟨"java/lang/Math", "max", "(II)I"⟩ : MethodName)) (argsL := [(.int ((tV p0) 0)), (.int ((tV p0) 1))]) (rest := []) hown (hw _ (List.mem_of_getElem? (i := 5) rfl)) (hw _ (List.mem_of_getElem? (i := 6) rfl)) (hw _ (List.mem_of_getElem? (i := 3) rfl)) (hw _ (List.mem_of_getElem? (i := 7) rfl)) (by decide) (rm2 l Z a0 hw ((tV p0) 0) ((tV p0) 1) h5 n0 (Nat.le_trans Z0 (K5 : Keep h0 h5 []).1)) hh6 (hb hby at_49) (lenOf pd_0 rfl) rfl rfl (W := 0) (Nat.le_of_eq rfl) (by decide) (by decide) (by decide) (by decide) ?_
  intro v7 T7 L7 X7 Q7
  obtain ⟨rfl, N7q, hh7⟩ := Q7
  have N7 := Fr.app N6 N7q
  show Go _ _ _ _ _ _ _ T7 (mkF m 52 #[.val (.int p0), .val (.int p1), .val (.ref b1), .val (.int (minW ((tV p0) 0) ((tV p0) 1))), .unset, .unset, .unset, .unset, .unset, .unset, .unset, .unset, .unset, .unset, .unset, .unset, .unset, .unset, .unset, .unset, .unset, .unset, .unset, .unset, .unset] [(.int (maxW ((tV p0) 0) ((tV p0) 1)))])
  refine Go.step (fun _ k => XS.istore X7.here hx rfl (hb hby at_52) rfl (l' := #[.val (.int p0), .val (.int p1), .val (.ref b1), .val (.int (minW ((tV p0) 0) ((tV p0) 1))), .val (.int (maxW ((tV p0) 0) ((tV p0) 1))), .unset, .unset, .unset, .unset, .unset, .unset, .unset, .unset, .unset, .unset, .unset, .unset, .unset, .unset, .unset, .unset, .unset, .unset, .unset, .unset]) rfl k) ?_
  show Go _ _ _ _ _ _ _ T7 (mkF m 54 #[.val (.int p0), .val (.int p1), .val (.ref b1), .val (.int (minW ((tV p0) 0) ((tV p0) 1))), .val (.int (maxW ((tV p0) 0) ((tV p0) 1))), .unset, .unset, .unset, .unset, .unset, .unset, .unset, .unset, .unset, .unset, .unset, .unset, .unset, .unset, .unset, .unset, .unset, .unset, .unset, .unset] [])
  refine Go.step (fun _ k => XS.aloadN X7.here hx rfl (hb hby at_54) rfl rfl k) ?_
  show Go _ _ _ _ _ _ _ T7 (mkF m 55 #[.val (.int p0), .val (.int p1), .val (.ref b1), .val (.int (minW ((tV p0) 0) ((tV p0) 1))), .val (.int (maxW ((tV p0) 0) ((tV p0) 1))), .unset, .unset, .unset, .unset, .unset, .unset, .unset, .unset, .unset, .unset, .unset, .unset, .unset, .unset, .unset, .unset, .unset, .unset, .unset, .unset] [(.ref b1)])
  refine Go.step (fun _ k => XS.iconst X7.here hx rfl (hb hby at_55) k) ?_
  show Go _ _ _ _ _ _ _ T7 (mkF m 56 #[.val (.int p0), .val (.int p1), .val (.ref b1), .val (.int (minW ((tV p0) 0) ((tV p0) 1))), .val (.int (maxW ((tV p0) 0) ((tV p0) 1))), .unset, .unset, .unset, .unset, .unset, .unset, .unset, .unset, .unset, .unset, .unset, .unset, .unset, .unset, .unset, .unset, .unset, .unset, .unset, .unset] [(.int (2 : Int32)), (.ref b1)])
  refine Go.iaload X7 hx hZ hh7 Vtv (j := (2 : Int32)) (v := ((tV p0) 2)) (by decide) rfl (hb hby at_56) ?_
  show Go _ _ _ _ _ _ _ T7 (mkF m 57 #[.val (.int p0), .val (.int p1), .val (.ref b1), .val (.int (minW ((tV p0) 0) ((tV p0) 1))), .val (.int (maxW ((tV p0) 0) ((tV p0) 1))), .unset, .unset, .unset, .unset, .unset, .unset, .unset, .unset, .unset, .unset, .unset, .unset, .unset, .unset, .unset, .unset, .unset, .unset, .unset, .unset] [(.int ((tV p0) 2))])
  refine Go.step (fun _ k => XS.aloadN X7.here hx rfl (hb hby at_57) rfl rfl k) ?_
  show Go _ _ _ _ _ _ _ T7 (mkF m 58 #[.val (.int p0), .val (.int p1), .val (.ref b1), .val (.int (minW ((tV p0) 0) ((tV p0) 1))), .val (.int (maxW ((tV p0) 0) ((tV p0) 1))), .unset, .unset, .unset, .unset, .unset, .unset, .unset, .unset, .unset, .unset, .unset, .unset, .unset, .unset, .unset, .unset, .unset, .unset, .unset, .unset] [(.ref b1), (.int ((tV p0) 2))])
  refine Go.step (fun _ k => XS.iconst X7.here hx rfl (hb hby at_58) k) ?_
  show Go _ _ _ _ _ _ _ T7 (mkF m 59 #[.val (.int p0), .val (.int p1), .val (.ref b1), .val (.int (minW ((tV p0) 0) ((tV p0) 1))), .val (.int (maxW ((tV p0) 0) ((tV p0) 1))), .unset, .unset, .unset, .unset, .unset, .unset, .unset, .unset, .unset, .unset, .unset, .unset, .unset, .unset, .unset, .unset, .unset, .unset, .unset, .unset] [(.int (3 : Int32)), (.ref b1), (.int ((tV p0) 2))])
  refine Go.iaload X7 hx hZ hh7 Vtv (j := (3 : Int32)) (v := ((tV p0) 3)) (by decide) rfl (hb hby at_59) ?_
  show Go _ _ _ _ _ _ _ T7 (mkF m 60 #[.val (.int p0), .val (.int p1), .val (.ref b1), .val (.int (minW ((tV p0) 0) ((tV p0) 1))), .val (.int (maxW ((tV p0) 0) ((tV p0) 1))), .unset, .unset, .unset, .unset, .unset, .unset, .unset, .unset, .unset, .unset, .unset, .unset, .unset, .unset, .unset, .unset, .unset, .unset, .unset, .unset] [(.int ((tV p0) 3)), (.int ((tV p0) 2))])
  refine Go.callS X7 hx hZ (by rw [hml]; rfl) (y := (⟨"java/lang/Math", "min", "(II)I"⟩ : MethodName)) (argsL := [(.int ((tV p0) 2)), (.int ((tV p0) 3))]) (rest := []) hown (hw _ (List.mem_of_getElem? (i := 1) rfl)) (hw _ (List.mem_of_getElem? (i := 2) rfl)) (hw _ (List.mem_of_getElem? (i := 3) rfl)) (hw _ (List.mem_of_getElem? (i := 4) rfl)) (by decide) (rm1 l Z a0 hw ((tV p0) 2) ((tV p0) 3) h5 n0 (Nat.le_trans Z0 (K5 : Keep h0 h5 []).1)) hh7 (hb hby at_60) (lenOf pd_0 rfl) rfl rfl (W := 0) (Nat.le_of_eq rfl) (by decide) (by decide) (by decide) (by decide) ?_
  intro v8 T8 L8 X8 Q8
  obtain ⟨rfl, N8q, hh8⟩ := Q8
  have N8 := Fr.app N7 N8q
  show Go _ _ _ _ _ _ _ T8 (mkF m 63 #[.val (.int p0), .val (.int p1), .val (.ref b1), .val (.int (minW ((tV p0) 0) ((tV p0) 1))), .val (.int (maxW ((tV p0) 0) ((tV p0) 1))), .unset, .unset, .unset, .unset, .unset, .unset, .unset, .unset, .unset, .unset, .unset, .unset, .unset, .unset, .unset, .unset, .unset, .unset, .unset, .unset] [(.int (minW ((tV p0) 2) ((tV p0) 3)))])
  refine Go.step (fun _ k => XS.istore X8.here hx rfl (hb hby at_63) rfl (l' := #[.val (.int p0), .val (.int p1), .val (.ref b1), .val (.int (minW ((tV p0) 0) ((tV p0) 1))), .val (.int (maxW ((tV p0) 0) ((tV p0) 1))), .val (.int (minW ((tV p0) 2) ((tV p0) 3))), .unset, .unset, .unset, .unset, .unset, .unset, .unset, .unset, .unset, .unset, .unset, .unset, .unset, .unset, .unset, .unset, .unset, .unset, .unset]) rfl k) ?_
  show Go _ _ _ _ _ _ _ T8 (mkF m 65 #[.val (.int p0), .val (.int p1), .val (.ref b1), .val (.int (minW ((tV p0) 0) ((tV p0) 1))), .val (.int (maxW ((tV p0) 0) ((tV p0) 1))), .val (.int (minW ((tV p0) 2) ((tV p0) 3))), .unset, .unset, .unset, .unset, .unset, .unset, .unset, .unset, .unset, .unset, .unset, .unset, .unset, .unset, .unset, .unset, .unset, .unset, .unset] [])
  refine Go.step (fun _ k => XS.aloadN X8.here hx rfl (hb hby at_65) rfl rfl k) ?_
  show Go _ _ _ _ _ _ _ T8 (mkF m 66 #[.val (.int p0), .val (.int p1), .val (.ref b1), .val (.int (minW ((tV p0) 0) ((tV p0) 1))), .val (.int (maxW ((tV p0) 0) ((tV p0) 1))), .val (.int (minW ((tV p0) 2) ((tV p0) 3))), .unset, .unset, .unset, .unset, .unset, .unset, .unset, .unset, .unset, .unset, .unset, .unset, .unset, .unset, .unset, .unset, .unset, .unset, .unset] [(.ref b1)])
  refine Go.step (fun _ k => XS.iconst X8.here hx rfl (hb hby at_66) k) ?_
  show Go _ _ _ _ _ _ _ T8 (mkF m 67 #[.val (.int p0), .val (.int p1), .val (.ref b1), .val (.int (minW ((tV p0) 0) ((tV p0) 1))), .val (.int (maxW ((tV p0) 0) ((tV p0) 1))), .val (.int (minW ((tV p0) 2) ((tV p0) 3))), .unset, .unset, .unset, .unset, .unset, .unset, .unset, .unset, .unset, .unset, .unset, .unset, .unset, .unset, .unset, .unset, .unset, .unset, .unset] [(.int (2 : Int32)), (.ref b1)])
  refine Go.iaload X8 hx hZ hh8 Vtv (j := (2 : Int32)) (v := ((tV p0) 2)) (by decide) rfl (hb hby at_67) ?_
  show Go _ _ _ _ _ _ _ T8 (mkF m 68 #[.val (.int p0), .val (.int p1), .val (.ref b1), .val (.int (minW ((tV p0) 0) ((tV p0) 1))), .val (.int (maxW ((tV p0) 0) ((tV p0) 1))), .val (.int (minW ((tV p0) 2) ((tV p0) 3))), .unset, .unset, .unset, .unset, .unset, .unset, .unset, .unset, .unset, .unset, .unset, .unset, .unset, .unset, .unset, .unset, .unset, .unset, .unset] [(.int ((tV p0) 2))])
  refine Go.step (fun _ k => XS.aloadN X8.here hx rfl (hb hby at_68) rfl rfl k) ?_
  show Go _ _ _ _ _ _ _ T8 (mkF m 69 #[.val (.int p0), .val (.int p1), .val (.ref b1), .val (.int (minW ((tV p0) 0) ((tV p0) 1))), .val (.int (maxW ((tV p0) 0) ((tV p0) 1))), .val (.int (minW ((tV p0) 2) ((tV p0) 3))), .unset, .unset, .unset, .unset, .unset, .unset, .unset, .unset, .unset, .unset, .unset, .unset, .unset, .unset, .unset, .unset, .unset, .unset, .unset] [(.ref b1), (.int ((tV p0) 2))])
  refine Go.step (fun _ k => XS.iconst X8.here hx rfl (hb hby at_69) k) ?_
  show Go _ _ _ _ _ _ _ T8 (mkF m 70 #[.val (.int p0), .val (.int p1), .val (.ref b1), .val (.int (minW ((tV p0) 0) ((tV p0) 1))), .val (.int (maxW ((tV p0) 0) ((tV p0) 1))), .val (.int (minW ((tV p0) 2) ((tV p0) 3))), .unset, .unset, .unset, .unset, .unset, .unset, .unset, .unset, .unset, .unset, .unset, .unset, .unset, .unset, .unset, .unset, .unset, .unset, .unset] [(.int (3 : Int32)), (.ref b1), (.int ((tV p0) 2))])
  refine Go.iaload X8 hx hZ hh8 Vtv (j := (3 : Int32)) (v := ((tV p0) 3)) (by decide) rfl (hb hby at_70) ?_
  show Go _ _ _ _ _ _ _ T8 (mkF m 71 #[.val (.int p0), .val (.int p1), .val (.ref b1), .val (.int (minW ((tV p0) 0) ((tV p0) 1))), .val (.int (maxW ((tV p0) 0) ((tV p0) 1))), .val (.int (minW ((tV p0) 2) ((tV p0) 3))), .unset, .unset, .unset, .unset, .unset, .unset, .unset, .unset, .unset, .unset, .unset, .unset, .unset, .unset, .unset, .unset, .unset, .unset, .unset] [(.int ((tV p0) 3)), (.int ((tV p0) 2))])
  refine Go.callS X8 hx hZ (by rw [hml]; rfl) (y := (⟨"java/lang/Math", "max", "(II)I"⟩ : MethodName)) (argsL := [(.int ((tV p0) 2)), (.int ((tV p0) 3))]) (rest := []) hown (hw _ (List.mem_of_getElem? (i := 5) rfl)) (hw _ (List.mem_of_getElem? (i := 6) rfl)) (hw _ (List.mem_of_getElem? (i := 3) rfl)) (hw _ (List.mem_of_getElem? (i := 7) rfl)) (by decide) (rm2 l Z a0 hw ((tV p0) 2) ((tV p0) 3) h5 n0 (Nat.le_trans Z0 (K5 : Keep h0 h5 []).1)) hh8 (hb hby at_71) (lenOf pd_0 rfl) rfl rfl (W := 0) (Nat.le_of_eq rfl) (by decide) (by decide) (by decide) (by decide) ?_
  intro v9 T9 L9 X9 Q9
  obtain ⟨rfl, N9q, hh9⟩ := Q9
  have N9 := Fr.app N8 N9q
  show Go _ _ _ _ _ _ _ T9 (mkF m 74 #[.val (.int p0), .val (.int p1), .val (.ref b1), .val (.int (minW ((tV p0) 0) ((tV p0) 1))), .val (.int (maxW ((tV p0) 0) ((tV p0) 1))), .val (.int (minW ((tV p0) 2) ((tV p0) 3))), .unset, .unset, .unset, .unset, .unset, .unset, .unset, .unset, .unset, .unset, .unset, .unset, .unset, .unset, .unset, .unset, .unset, .unset, .unset] [(.int (maxW ((tV p0) 2) ((tV p0) 3)))])
  refine Go.step (fun _ k => XS.istore X9.here hx rfl (hb hby at_74) rfl (l' := #[.val (.int p0), .val (.int p1), .val (.ref b1), .val (.int (minW ((tV p0) 0) ((tV p0) 1))), .val (.int (maxW ((tV p0) 0) ((tV p0) 1))), .val (.int (minW ((tV p0) 2) ((tV p0) 3))), .val (.int (maxW ((tV p0) 2) ((tV p0) 3))), .unset, .unset, .unset, .unset, .unset, .unset, .unset, .unset, .unset, .unset, .unset, .unset, .unset, .unset, .unset, .unset, .unset, .unset]) rfl k) ?_
  show Go _ _ _ _ _ _ _ T9 (mkF m 76 #[.val (.int p0), .val (.int p1), .val (.ref b1), .val (.int (minW ((tV p0) 0) ((tV p0) 1))), .val (.int (maxW ((tV p0) 0) ((tV p0) 1))), .val (.int (minW ((tV p0) 2) ((tV p0) 3))), .val (.int (maxW ((tV p0) 2) ((tV p0) 3))), .unset, .unset, .unset, .unset, .unset, .unset, .unset, .unset, .unset, .unset, .unset, .unset, .unset, .unset, .unset, .unset, .unset, .unset] [])
  refine Go.step (fun _ k => XS.iloadN X9.here hx rfl (hb hby at_76) rfl k) ?_
  show Go _ _ _ _ _ _ _ T9 (mkF m 77 #[.val (.int p0), .val (.int p1), .val (.ref b1), .val (.int (minW ((tV p0) 0) ((tV p0) 1))), .val (.int (maxW ((tV p0) 0) ((tV p0) 1))), .val (.int (minW ((tV p0) 2) ((tV p0) 3))), .val (.int (maxW ((tV p0) 2) ((tV p0) 3))), .unset, .unset, .unset, .unset, .unset, .unset, .unset, .unset, .unset, .unset, .unset, .unset, .unset, .unset, .unset, .unset, .unset, .unset] [(.int (minW ((tV p0) 0) ((tV p0) 1)))])
  refine Go.step (fun _ k => XS.iload X9.here hx rfl (hb hby at_77) rfl k) ?_
  show Go _ _ _ _ _ _ _ T9 (mkF m 79 #[.val (.int p0), .val (.int p1), .val (.ref b1), .val (.int (minW ((tV p0) 0) ((tV p0) 1))), .val (.int (maxW ((tV p0) 0) ((tV p0) 1))), .val (.int (minW ((tV p0) 2) ((tV p0) 3))), .val (.int (maxW ((tV p0) 2) ((tV p0) 3))), .unset, .unset, .unset, .unset, .unset, .unset, .unset, .unset, .unset, .unset, .unset, .unset, .unset, .unset, .unset, .unset, .unset, .unset] [(.int (minW ((tV p0) 2) ((tV p0) 3))), (.int (minW ((tV p0) 0) ((tV p0) 1)))])
  refine Go.callS X9 hx hZ (by rw [hml]; rfl) (y := (⟨"java/lang/Math", "min", "(II)I"⟩ : MethodName)) (argsL := [(.int (minW ((tV p0) 0) ((tV p0) 1))), (.int (minW ((tV p0) 2) ((tV p0) 3)))]) (rest := []) hown (hw _ (List.mem_of_getElem? (i := 1) rfl)) (hw _ (List.mem_of_getElem? (i := 2) rfl)) (hw _ (List.mem_of_getElem? (i := 3) rfl)) (hw _ (List.mem_of_getElem? (i := 4) rfl)) (by decide) (rm1 l Z a0 hw (minW ((tV p0) 0) ((tV p0) 1)) (minW ((tV p0) 2) ((tV p0) 3)) h5 n0 (Nat.le_trans Z0 (K5 : Keep h0 h5 []).1)) hh9 (hb hby at_79) (lenOf pd_0 rfl) rfl rfl (W := 0) (Nat.le_of_eq rfl) (by decide) (by decide) (by decide) (by decide) ?_
  intro v10 T10 L10 X10 Q10
  obtain ⟨rfl, N10q, hh10⟩ := Q10
  have N10 := Fr.app N9 N10q
  show Go _ _ _ _ _ _ _ T10 (mkF m 82 #[.val (.int p0), .val (.int p1), .val (.ref b1), .val (.int (minW ((tV p0) 0) ((tV p0) 1))), .val (.int (maxW ((tV p0) 0) ((tV p0) 1))), .val (.int (minW ((tV p0) 2) ((tV p0) 3))), .val (.int (maxW ((tV p0) 2) ((tV p0) 3))), .unset, .unset, .unset, .unset, .unset, .unset, .unset, .unset, .unset, .unset, .unset, .unset, .unset, .unset, .unset, .unset, .unset, .unset] [(.int (minW (minW ((tV p0) 0) ((tV p0) 1)) (minW ((tV p0) 2) ((tV p0) 3))))])
  refine Go.step (fun _ k => XS.istore X10.here hx rfl (hb hby at_82) rfl (l' := #[.val (.int p0), .val (.int p1), .val (.ref b1), .val (.int (minW ((tV p0) 0) ((tV p0) 1))), .val (.int (maxW ((tV p0) 0) ((tV p0) 1))), .val (.int (minW ((tV p0) 2) ((tV p0) 3))), .val (.int (maxW ((tV p0) 2) ((tV p0) 3))), .val (.int (minW (minW ((tV p0) 0) ((tV p0) 1)) (minW ((tV p0) 2) ((tV p0) 3)))), .unset, .unset, .unset, .unset, .unset, .unset, .unset, .unset, .unset, .unset, .unset, .unset, .unset, .unset, .unset, .unset, .unset]) rfl k) ?_
  show Go _ _ _ _ _ _ _ T10 (mkF m 84 #[.val (.int p0), .val (.int p1), .val (.ref b1), .val (.int (minW ((tV p0) 0) ((tV p0) 1))), .val (.int (maxW ((tV p0) 0) ((tV p0) 1))), .val (.int (minW ((tV p0) 2) ((tV p0) 3))), .val (.int (maxW ((tV p0) 2) ((tV p0) 3))), .val (.int (minW (minW ((tV p0) 0) ((tV p0) 1)) (minW ((tV p0) 2) ((tV p0) 3)))), .unset, .unset, .unset, .unset, .unset, .unset, .unset, .unset, .unset, .unset, .unset, .unset, .unset, .unset, .unset, .unset, .unset] [])
  refine Go.step (fun _ k => XS.iloadN X10.here hx rfl (hb hby at_84) rfl k) ?_
  show Go _ _ _ _ _ _ _ T10 (mkF m 85 #[.val (.int p0), .val (.int p1), .val (.ref b1), .val (.int (minW ((tV p0) 0) ((tV p0) 1))), .val (.int (maxW ((tV p0) 0) ((tV p0) 1))), .val (.int (minW ((tV p0) 2) ((tV p0) 3))), .val (.int (maxW ((tV p0) 2) ((tV p0) 3))), .val (.int (minW (minW ((tV p0) 0) ((tV p0) 1)) (minW ((tV p0) 2) ((tV p0) 3)))), .unset, .unset, .unset, .unset, .unset, .unset, .unset, .unset, .unset, .unset, .unset, .unset, .unset, .unset, .unset, .unset, .unset] [(.int (minW ((tV p0) 0) ((tV p0) 1)))])
  refine Go.step (fun _ k => XS.iload X10.here hx rfl (hb hby at_85) rfl k) ?_
  show Go _ _ _ _ _ _ _ T10 (mkF m 87 #[.val (.int p0), .val (.int p1), .val (.ref b1), .val (.int (minW ((tV p0) 0) ((tV p0) 1))), .val (.int (maxW ((tV p0) 0) ((tV p0) 1))), .val (.int (minW ((tV p0) 2) ((tV p0) 3))), .val (.int (maxW ((tV p0) 2) ((tV p0) 3))), .val (.int (minW (minW ((tV p0) 0) ((tV p0) 1)) (minW ((tV p0) 2) ((tV p0) 3)))), .unset, .unset, .unset, .unset, .unset, .unset, .unset, .unset, .unset, .unset, .unset, .unset, .unset, .unset, .unset, .unset, .unset] [(.int (minW ((tV p0) 2) ((tV p0) 3))), (.int (minW ((tV p0) 0) ((tV p0) 1)))])
  refine Go.callS X10 hx hZ (by rw [hml]; rfl) (y := (⟨"java/lang/Math", "max", "(II)I"⟩ : MethodName)) (argsL := [(.int (minW ((tV p0) 0) ((tV p0) 1))), (.int (minW ((tV p0) 2) ((tV p0) 3)))]) (rest := []) hown (hw _ (List.mem_of_getElem? (i := 5) rfl)) (hw _ (List.mem_of_getElem? (i := 6) rfl)) (hw _ (List.mem_of_getElem? (i := 3) rfl)) (hw _ (List.mem_of_getElem? (i := 7) rfl)) (by decide) (rm2 l Z a0 hw (minW ((tV p0) 0) ((tV p0) 1)) (minW ((tV p0) 2) ((tV p0) 3)) h5 n0 (Nat.le_trans Z0 (K5 : Keep h0 h5 []).1)) hh10 (hb hby at_87) (lenOf pd_0 rfl) rfl rfl (W := 0) (Nat.le_of_eq rfl) (by decide) (by decide) (by decide) (by decide) ?_
  intro v11 T11 L11 X11 Q11
  obtain ⟨rfl, N11q, hh11⟩ := Q11
  have N11 := Fr.app N10 N11q
  show Go _ _ _ _ _ _ _ T11 (mkF m 90 #[.val (.int p0), .val (.int p1), .val (.ref b1), .val (.int (minW ((tV p0) 0) ((tV p0) 1))), .val (.int (maxW ((tV p0) 0) ((tV p0) 1))), .val (.int (minW ((tV p0) 2) ((tV p0) 3))), .val (.int (maxW ((tV p0) 2) ((tV p0) 3))), .val (.int (minW (minW ((tV p0) 0) ((tV p0) 1)) (minW ((tV p0) 2) ((tV p0) 3)))), .unset, .unset, .unset, .unset, .unset, .unset, .unset, .unset, .unset, .unset, .unset, .unset, .unset, .unset, .unset, .unset, .unset] [(.int (maxW (minW ((tV p0) 0) ((tV p0) 1)) (minW ((tV p0) 2) ((tV p0) 3))))])
  refine Go.step (fun _ k => XS.istore X11.here hx rfl (hb hby at_90) rfl (l' := #[.val (.int p0), .val (.int p1), .val (.ref b1), .val (.int (minW ((tV p0) 0) ((tV p0) 1))), .val (.int (maxW ((tV p0) 0) ((tV p0) 1))), .val (.int (minW ((tV p0) 2) ((tV p0) 3))), .val (.int (maxW ((tV p0) 2) ((tV p0) 3))), .val (.int (minW (minW ((tV p0) 0) ((tV p0) 1)) (minW ((tV p0) 2) ((tV p0) 3)))), .val (.int (maxW (minW ((tV p0) 0) ((tV p0) 1)) (minW ((tV p0) 2) ((tV p0) 3)))), .unset, .unset, .unset, .unset, .unset, .unset, .unset, .unset, .unset, .unset, .unset, .unset, .unset, .unset, .unset, .unset]) rfl k) ?_
  show Go _ _ _ _ _ _ _ T11 (mkF m 92 #[.val (.int p0), .val (.int p1), .val (.ref b1), .val (.int (minW ((tV p0) 0) ((tV p0) 1))), .val (.int (maxW ((tV p0) 0) ((tV p0) 1))), .val (.int (minW ((tV p0) 2) ((tV p0) 3))), .val (.int (maxW ((tV p0) 2) ((tV p0) 3))), .val (.int (minW (minW ((tV p0) 0) ((tV p0) 1)) (minW ((tV p0) 2) ((tV p0) 3)))), .val (.int (maxW (minW ((tV p0) 0) ((tV p0) 1)) (minW ((tV p0) 2) ((tV p0) 3)))), .unset, .unset, .unset, .unset, .unset, .unset, .unset, .unset, .unset, .unset, .unset, .unset, .unset, .unset, .unset, .unset] [])
  refine Go.step (fun _ k => XS.iload X11.here hx rfl (hb hby at_92) rfl k) ?_
  show Go _ _ _ _ _ _ _ T11 (mkF m 94 #[.val (.int p0), .val (.int p1), .val (.ref b1), .val (.int (minW ((tV p0) 0) ((tV p0) 1))), .val (.int (maxW ((tV p0) 0) ((tV p0) 1))), .val (.int (minW ((tV p0) 2) ((tV p0) 3))), .val (.int (maxW ((tV p0) 2) ((tV p0) 3))), .val (.int (minW (minW ((tV p0) 0) ((tV p0) 1)) (minW ((tV p0) 2) ((tV p0) 3)))), .val (.int (maxW (minW ((tV p0) 0) ((tV p0) 1)) (minW ((tV p0) 2) ((tV p0) 3)))), .unset, .unset, .unset, .unset, .unset, .unset, .unset, .unset, .unset, .unset, .unset, .unset, .unset, .unset, .unset, .unset] [(.int (maxW ((tV p0) 0) ((tV p0) 1)))])
  refine Go.step (fun _ k => XS.iload X11.here hx rfl (hb hby at_94) rfl k) ?_
  show Go _ _ _ _ _ _ _ T11 (mkF m 96 #[.val (.int p0), .val (.int p1), .val (.ref b1), .val (.int (minW ((tV p0) 0) ((tV p0) 1))), .val (.int (maxW ((tV p0) 0) ((tV p0) 1))), .val (.int (minW ((tV p0) 2) ((tV p0) 3))), .val (.int (maxW ((tV p0) 2) ((tV p0) 3))), .val (.int (minW (minW ((tV p0) 0) ((tV p0) 1)) (minW ((tV p0) 2) ((tV p0) 3)))), .val (.int (maxW (minW ((tV p0) 0) ((tV p0) 1)) (minW ((tV p0) 2) ((tV p0) 3)))), .unset, .unset, .unset, .unset, .unset, .unset, .unset, .unset, .unset, .unset, .unset, .unset, .unset, .unset, .unset, .unset] [(.int (maxW ((tV p0) 2) ((tV p0) 3))), (.int (maxW ((tV p0) 0) ((tV p0) 1)))])
  refine Go.callS X11 hx hZ (by rw [hml]; rfl) (y := (⟨"java/lang/Math", "max", "(II)I"⟩ : MethodName)) (argsL := [(.int (maxW ((tV p0) 0) ((tV p0) 1))), (.int (maxW ((tV p0) 2) ((tV p0) 3)))]) (rest := []) hown (hw _ (List.mem_of_getElem? (i := 5) rfl)) (hw _ (List.mem_of_getElem? (i := 6) rfl)) (hw _ (List.mem_of_getElem? (i := 3) rfl)) (hw _ (List.mem_of_getElem? (i := 7) rfl)) (by decide) (rm2 l Z a0 hw (maxW ((tV p0) 0) ((tV p0) 1)) (maxW ((tV p0) 2) ((tV p0) 3)) h5 n0 (Nat.le_trans Z0 (K5 : Keep h0 h5 []).1)) hh11 (hb hby at_96) (lenOf pd_0 rfl) rfl rfl (W := 0) (Nat.le_of_eq rfl) (by decide) (by decide) (by decide) (by decide) ?_
  intro v12 T12 L12 X12 Q12
  obtain ⟨rfl, N12q, hh12⟩ := Q12
  have N12 := Fr.app N11 N12q
  show Go _ _ _ _ _ _ _ T12 (mkF m 99 #[.val (.int p0), .val (.int p1), .val (.ref b1), .val (.int (minW ((tV p0) 0) ((tV p0) 1))), .val (.int (maxW ((tV p0) 0) ((tV p0) 1))), .val (.int (minW ((tV p0) 2) ((tV p0) 3))), .val (.int (maxW ((tV p0) 2) ((tV p0) 3))), .val (.int (minW (minW ((tV p0) 0) ((tV p0) 1)) (minW ((tV p0) 2) ((tV p0) 3)))), .val (.int (maxW (minW ((tV p0) 0) ((tV p0) 1)) (minW ((tV p0) 2) ((tV p0) 3)))), .unset, .unset, .unset, .unset, .unset, .unset, .unset, .unset, .unset, .unset, .unset, .unset, .unset, .unset, .unset, .unset] [(.int (maxW (maxW ((tV p0) 0) ((tV p0) 1)) (maxW ((tV p0) 2) ((tV p0) 3))))])
  refine Go.step (fun _ k => XS.istore X12.here hx rfl (hb hby at_99) rfl (l' := #[.val (.int p0), .val (.int p1), .val (.ref b1), .val (.int (minW ((tV p0) 0) ((tV p0) 1))), .val (.int (maxW ((tV p0) 0) ((tV p0) 1))), .val (.int (minW ((tV p0) 2) ((tV p0) 3))), .val (.int (maxW ((tV p0) 2) ((tV p0) 3))), .val (.int (minW (minW ((tV p0) 0) ((tV p0) 1)) (minW ((tV p0) 2) ((tV p0) 3)))), .val (.int (maxW (minW ((tV p0) 0) ((tV p0) 1)) (minW ((tV p0) 2) ((tV p0) 3)))), .val (.int (maxW (maxW ((tV p0) 0) ((tV p0) 1)) (maxW ((tV p0) 2) ((tV p0) 3)))), .unset, .unset, .unset, .unset, .unset, .unset, .unset, .unset, .unset, .unset, .unset, .unset, .unset, .unset, .unset]) rfl k) ?_
  show Go _ _ _ _ _ _ _ T12 (mkF m 101 #[.val (.int p0), .val (.int p1), .val (.ref b1), .val (.int (minW ((tV p0) 0) ((tV p0) 1))), .val (.int (maxW ((tV p0) 0) ((tV p0) 1))), .val (.int (minW ((tV p0) 2) ((tV p0) 3))), .val (.int (maxW ((tV p0) 2) ((tV p0) 3))), .val (.int (minW (minW ((tV p0) 0) ((tV p0) 1)) (minW ((tV p0) 2) ((tV p0) 3)))), .val (.int (maxW (minW ((tV p0) 0) ((tV p0) 1)) (minW ((tV p0) 2) ((tV p0) 3)))), .val (.int (maxW (maxW ((tV p0) 0) ((tV p0) 1)) (maxW ((tV p0) 2) ((tV p0) 3)))), .unset, .unset, .unset, .unset, .unset, .unset, .unset, .unset, .unset, .unset, .unset, .unset, .unset, .unset, .unset] [])
  refine Go.step (fun _ k => XS.iload X12.here hx rfl (hb hby at_101) rfl k) ?_
  show Go _ _ _ _ _ _ _ T12 (mkF m 103 #[.val (.int p0), .val (.int p1), .val (.ref b1), .val (.int (minW ((tV p0) 0) ((tV p0) 1))), .val (.int (maxW ((tV p0) 0) ((tV p0) 1))), .val (.int (minW ((tV p0) 2) ((tV p0) 3))), .val (.int (maxW ((tV p0) 2) ((tV p0) 3))), .val (.int (minW (minW ((tV p0) 0) ((tV p0) 1)) (minW ((tV p0) 2) ((tV p0) 3)))), .val (.int (maxW (minW ((tV p0) 0) ((tV p0) 1)) (minW ((tV p0) 2) ((tV p0) 3)))), .val (.int (maxW (maxW ((tV p0) 0) ((tV p0) 1)) (maxW ((tV p0) 2) ((tV p0) 3)))), .unset, .unset, .unset, .unset, .unset, .unset, .unset, .unset, .unset, .unset, .unset, .unset, .unset, .unset, .unset] [(.int (maxW ((tV p0) 0) ((tV p0) 1)))])
  refine Go.step (fun _ k => XS.iload X12.here hx rfl (hb hby at_103) rfl k) ?_
  show Go _ _ _ _ _ _ _ T12 (mkF m 105 #[.val (.int p0), .val (.int p1), .val (.ref b1), .val (.int (minW ((tV p0) 0) ((tV p0) 1))), .val (.int (maxW ((tV p0) 0) ((tV p0) 1))), .val (.int (minW ((tV p0) 2) ((tV p0) 3))), .val (.int (maxW ((tV p0) 2) ((tV p0) 3))), .val (.int (minW (minW ((tV p0) 0) ((tV p0) 1)) (minW ((tV p0) 2) ((tV p0) 3)))), .val (.int (maxW (minW ((tV p0) 0) ((tV p0) 1)) (minW ((tV p0) 2) ((tV p0) 3)))), .val (.int (maxW (maxW ((tV p0) 0) ((tV p0) 1)) (maxW ((tV p0) 2) ((tV p0) 3)))), .unset, .unset, .unset, .unset, .unset, .unset, .unset, .unset, .unset, .unset, .unset, .unset, .unset, .unset, .unset] [(.int (maxW ((tV p0) 2) ((tV p0) 3))), (.int (maxW ((tV p0) 0) ((tV p0) 1)))])
  refine Go.callS X12 hx hZ (by rw [hml]; rfl) (y := (⟨"java/lang/Math", "min", "(II)I"⟩ : MethodName)) (argsL := [(.int (maxW ((tV p0) 0) ((tV p0) 1))), (.int (maxW ((tV p0) 2) ((tV p0) 3)))]) (rest := []) hown (hw _ (List.mem_of_getElem? (i := 1) rfl)) (hw _ (List.mem_of_getElem? (i := 2) rfl)) (hw _ (List.mem_of_getElem? (i := 3) rfl)) (hw _ (List.mem_of_getElem? (i := 4) rfl)) (by decide) (rm1 l Z a0 hw (maxW ((tV p0) 0) ((tV p0) 1)) (maxW ((tV p0) 2) ((tV p0) 3)) h5 n0 (Nat.le_trans Z0 (K5 : Keep h0 h5 []).1)) hh12 (hb hby at_105) (lenOf pd_0 rfl) rfl rfl (W := 0) (Nat.le_of_eq rfl) (by decide) (by decide) (by decide) (by decide) ?_
  intro v13 T13 L13 X13 Q13
  obtain ⟨rfl, N13q, hh13⟩ := Q13
  have N13 := Fr.app N12 N13q
  show Go _ _ _ _ _ _ _ T13 (mkF m 108 #[.val (.int p0), .val (.int p1), .val (.ref b1), .val (.int (minW ((tV p0) 0) ((tV p0) 1))), .val (.int (maxW ((tV p0) 0) ((tV p0) 1))), .val (.int (minW ((tV p0) 2) ((tV p0) 3))), .val (.int (maxW ((tV p0) 2) ((tV p0) 3))), .val (.int (minW (minW ((tV p0) 0) ((tV p0) 1)) (minW ((tV p0) 2) ((tV p0) 3)))), .val (.int (maxW (minW ((tV p0) 0) ((tV p0) 1)) (minW ((tV p0) 2) ((tV p0) 3)))), .val (.int (maxW (maxW ((tV p0) 0) ((tV p0) 1)) (maxW ((tV p0) 2) ((tV p0) 3)))), .unset, .unset, .unset, .unset, .unset, .unset, .unset, .unset, .unset, .unset, .unset, .unset, .unset, .unset, .unset] [(.int (minW (maxW ((tV p0) 0) ((tV p0) 1)) (maxW ((tV p0) 2) ((tV p0) 3))))])
  refine Go.step (fun _ k => XS.istore X13.here hx rfl (hb hby at_108) rfl (l' := #[.val (.int p0), .val (.int p1), .val (.ref b1), .val (.int (minW ((tV p0) 0) ((tV p0) 1))), .val (.int (maxW ((tV p0) 0) ((tV p0) 1))), .val (.int (minW ((tV p0) 2) ((tV p0) 3))), .val (.int (maxW ((tV p0) 2) ((tV p0) 3))), .val (.int (minW (minW ((tV p0) 0) ((tV p0) 1)) (minW ((tV p0) 2) ((tV p0) 3)))), .val (.int (maxW (minW ((tV p0) 0) ((tV p0) 1)) (minW ((tV p0) 2) ((tV p0) 3)))), .val (.int (maxW (maxW ((tV p0) 0) ((tV p0) 1)) (maxW ((tV p0) 2) ((tV p0) 3)))), .val (.int (minW (maxW ((tV p0) 0) ((tV p0) 1)) (maxW ((tV p0) 2) ((tV p0) 3)))), .unset, .unset, .unset, .unset, .unset, .unset, .unset, .unset, .unset, .unset, .unset, .unset, .unset, .unset]) rfl k) ?_
  show Go _ _ _ _ _ _ _ T13 (mkF m 110 #[.val (.int p0), .val (.int p1), .val (.ref b1), .val (.int (minW ((tV p0) 0) ((tV p0) 1))), .val (.int (maxW ((tV p0) 0) ((tV p0) 1))), .val (.int (minW ((tV p0) 2) ((tV p0) 3))), .val (.int (maxW ((tV p0) 2) ((tV p0) 3))), .val (.int (minW (minW ((tV p0) 0) ((tV p0) 1)) (minW ((tV p0) 2) ((tV p0) 3)))), .val (.int (maxW (minW ((tV p0) 0) ((tV p0) 1)) (minW ((tV p0) 2) ((tV p0) 3)))), .val (.int (maxW (maxW ((tV p0) 0) ((tV p0) 1)) (maxW ((tV p0) 2) ((tV p0) 3)))), .val (.int (minW (maxW ((tV p0) 0) ((tV p0) 1)) (maxW ((tV p0) 2) ((tV p0) 3)))), .unset, .unset, .unset, .unset, .unset, .unset, .unset, .unset, .unset, .unset, .unset, .unset, .unset, .unset] [])
  refine Go.step (fun _ k => XS.iload X13.here hx rfl (hb hby at_110) rfl k) ?_
  show Go _ _ _ _ _ _ _ T13 (mkF m 112 #[.val (.int p0), .val (.int p1), .val (.ref b1), .val (.int (minW ((tV p0) 0) ((tV p0) 1))), .val (.int (maxW ((tV p0) 0) ((tV p0) 1))), .val (.int (minW ((tV p0) 2) ((tV p0) 3))), .val (.int (maxW ((tV p0) 2) ((tV p0) 3))), .val (.int (minW (minW ((tV p0) 0) ((tV p0) 1)) (minW ((tV p0) 2) ((tV p0) 3)))), .val (.int (maxW (minW ((tV p0) 0) ((tV p0) 1)) (minW ((tV p0) 2) ((tV p0) 3)))), .val (.int (maxW (maxW ((tV p0) 0) ((tV p0) 1)) (maxW ((tV p0) 2) ((tV p0) 3)))), .val (.int (minW (maxW ((tV p0) 0) ((tV p0) 1)) (maxW ((tV p0) 2) ((tV p0) 3)))), .unset, .unset, .unset, .unset, .unset, .unset, .unset, .unset, .unset, .unset, .unset, .unset, .unset, .unset] [(.int (maxW (minW ((tV p0) 0) ((tV p0) 1)) (minW ((tV p0) 2) ((tV p0) 3))))])
  refine Go.step (fun _ k => XS.iload X13.here hx rfl (hb hby at_112) rfl k) ?_
  show Go _ _ _ _ _ _ _ T13 (mkF m 114 #[.val (.int p0), .val (.int p1), .val (.ref b1), .val (.int (minW ((tV p0) 0) ((tV p0) 1))), .val (.int (maxW ((tV p0) 0) ((tV p0) 1))), .val (.int (minW ((tV p0) 2) ((tV p0) 3))), .val (.int (maxW ((tV p0) 2) ((tV p0) 3))), .val (.int (minW (minW ((tV p0) 0) ((tV p0) 1)) (minW ((tV p0) 2) ((tV p0) 3)))), .val (.int (maxW (minW ((tV p0) 0) ((tV p0) 1)) (minW ((tV p0) 2) ((tV p0) 3)))), .val (.int (maxW (maxW ((tV p0) 0) ((tV p0) 1)) (maxW ((tV p0) 2) ((tV p0) 3)))), .val (.int (minW (maxW ((tV p0) 0) ((tV p0) 1)) (maxW ((tV p0) 2) ((tV p0) 3)))), .unset, .unset, .unset, .unset, .unset, .unset, .unset, .unset, .unset, .unset, .unset, .unset, .unset, .unset] [(.int (minW (maxW ((tV p0) 0) ((tV p0) 1)) (maxW ((tV p0) 2) ((tV p0) 3)))), (.int (maxW (minW ((tV p0) 0) ((tV p0) 1)) (minW ((tV p0) 2) ((tV p0) 3))))])
  refine Go.callS X13 hx hZ (by rw [hml]; rfl) (y := (⟨"java/lang/Math", "min", "(II)I"⟩ : MethodName)) (argsL := [(.int (maxW (minW ((tV p0) 0) ((tV p0) 1)) (minW ((tV p0) 2) ((tV p0) 3)))), (.int (minW (maxW ((tV p0) 0) ((tV p0) 1)) (maxW ((tV p0) 2) ((tV p0) 3))))]) (rest := []) hown (hw _ (List.mem_of_getElem? (i := 1) rfl)) (hw _ (List.mem_of_getElem? (i := 2) rfl)) (hw _ (List.mem_of_getElem? (i := 3) rfl)) (hw _ (List.mem_of_getElem? (i := 4) rfl)) (by decide) (rm1 l Z a0 hw (maxW (minW ((tV p0) 0) ((tV p0) 1)) (minW ((tV p0) 2) ((tV p0) 3))) (minW (maxW ((tV p0) 0) ((tV p0) 1)) (maxW ((tV p0) 2) ((tV p0) 3))) h5 n0 (Nat.le_trans Z0 (K5 : Keep h0 h5 []).1)) hh13 (hb hby at_114) (lenOf pd_0 rfl) rfl rfl (W := 0) (Nat.le_of_eq rfl) (by decide) (by decide) (by decide) (by decide) ?_
  intro v14 T14 L14 X14 Q14
  obtain ⟨rfl, N14q, hh14⟩ := Q14
  have N14 := Fr.app N13 N14q
  show Go _ _ _ _ _ _ _ T14 (mkF m 117 #[.val (.int p0), .val (.int p1), .val (.ref b1), .val (.int (minW ((tV p0) 0) ((tV p0) 1))), .val (.int (maxW ((tV p0) 0) ((tV p0) 1))), .val (.int (minW ((tV p0) 2) ((tV p0) 3))), .val (.int (maxW ((tV p0) 2) ((tV p0) 3))), .val (.int (minW (minW ((tV p0) 0) ((tV p0) 1)) (minW ((tV p0) 2) ((tV p0) 3)))), .val (.int (maxW (minW ((tV p0) 0) ((tV p0) 1)) (minW ((tV p0) 2) ((tV p0) 3)))), .val (.int (maxW (maxW ((tV p0) 0) ((tV p0) 1)) (maxW ((tV p0) 2) ((tV p0) 3)))), .val (.int (minW (maxW ((tV p0) 0) ((tV p0) 1)) (maxW ((tV p0) 2) ((tV p0) 3)))), .unset, .unset, .unset, .unset, .unset, .unset, .unset, .unset, .unset, .unset, .unset, .unset, .unset, .unset] [(.int (minW (maxW (minW ((tV p0) 0) ((tV p0) 1)) (minW ((tV p0) 2) ((tV p0) 3))) (minW (maxW ((tV p0) 0) ((tV p0) 1)) (maxW ((tV p0) 2) ((tV p0) 3)))))])
  refine Go.step (fun _ k => XS.istore X14.here hx rfl (hb hby at_117) rfl (l' := #[.val (.int p0), .val (.int p1), .val (.ref b1), .val (.int (minW ((tV p0) 0) ((tV p0) 1))), .val (.int (maxW ((tV p0) 0) ((tV p0) 1))), .val (.int (minW ((tV p0) 2) ((tV p0) 3))), .val (.int (maxW ((tV p0) 2) ((tV p0) 3))), .val (.int (minW (minW ((tV p0) 0) ((tV p0) 1)) (minW ((tV p0) 2) ((tV p0) 3)))), .val (.int (maxW (minW ((tV p0) 0) ((tV p0) 1)) (minW ((tV p0) 2) ((tV p0) 3)))), .val (.int (maxW (maxW ((tV p0) 0) ((tV p0) 1)) (maxW ((tV p0) 2) ((tV p0) 3)))), .val (.int (minW (maxW ((tV p0) 0) ((tV p0) 1)) (maxW ((tV p0) 2) ((tV p0) 3)))), .val (.int (minW (maxW (minW ((tV p0) 0) ((tV p0) 1)) (minW ((tV p0) 2) ((tV p0) 3))) (minW (maxW ((tV p0) 0) ((tV p0) 1)) (maxW ((tV p0) 2) ((tV p0) 3))))), .unset, .unset, .unset, .unset, .unset, .unset, .unset, .unset, .unset, .unset, .unset, .unset, .unset]) rfl k) ?_
  show Go _ _ _ _ _ _ _ T14 (mkF m 119 #[.val (.int p0), .val (.int p1), .val (.ref b1), .val (.int (minW ((tV p0) 0) ((tV p0) 1))), .val (.int (maxW ((tV p0) 0) ((tV p0) 1))), .val (.int (minW ((tV p0) 2) ((tV p0) 3))), .val (.int (maxW ((tV p0) 2) ((tV p0) 3))), .val (.int (minW (minW ((tV p0) 0) ((tV p0) 1)) (minW ((tV p0) 2) ((tV p0) 3)))), .val (.int (maxW (minW ((tV p0) 0) ((tV p0) 1)) (minW ((tV p0) 2) ((tV p0) 3)))), .val (.int (maxW (maxW ((tV p0) 0) ((tV p0) 1)) (maxW ((tV p0) 2) ((tV p0) 3)))), .val (.int (minW (maxW ((tV p0) 0) ((tV p0) 1)) (maxW ((tV p0) 2) ((tV p0) 3)))), .val (.int (minW (maxW (minW ((tV p0) 0) ((tV p0) 1)) (minW ((tV p0) 2) ((tV p0) 3))) (minW (maxW ((tV p0) 0) ((tV p0) 1)) (maxW ((tV p0) 2) ((tV p0) 3))))), .unset, .unset, .unset, .unset, .unset, .unset, .unset, .unset, .unset, .unset, .unset, .unset, .unset] [])
  refine Go.step (fun _ k => XS.iload X14.here hx rfl (hb hby at_119) rfl k) ?_
  show Go _ _ _ _ _ _ _ T14 (mkF m 121 #[.val (.int p0), .val (.int p1), .val (.ref b1), .val (.int (minW ((tV p0) 0) ((tV p0) 1))), .val (.int (maxW ((tV p0) 0) ((tV p0) 1))), .val (.int (minW ((tV p0) 2) ((tV p0) 3))), .val (.int (maxW ((tV p0) 2) ((tV p0) 3))), .val (.int (minW (minW ((tV p0) 0) ((tV p0) 1)) (minW ((tV p0) 2) ((tV p0) 3)))), .val (.int (maxW (minW ((tV p0) 0) ((tV p0) 1)) (minW ((tV p0) 2) ((tV p0) 3)))), .val (.int (maxW (maxW ((tV p0) 0) ((tV p0) 1)) (maxW ((tV p0) 2) ((tV p0) 3)))), .val (.int (minW (maxW ((tV p0) 0) ((tV p0) 1)) (maxW ((tV p0) 2) ((tV p0) 3)))), .val (.int (minW (maxW (minW ((tV p0) 0) ((tV p0) 1)) (minW ((tV p0) 2) ((tV p0) 3))) (minW (maxW ((tV p0) 0) ((tV p0) 1)) (maxW ((tV p0) 2) ((tV p0) 3))))), .unset, .unset, .unset, .unset, .unset, .unset, .unset, .unset, .unset, .unset, .unset, .unset, .unset] [(.int (maxW (minW ((tV p0) 0) ((tV p0) 1)) (minW ((tV p0) 2) ((tV p0) 3))))])
  refine Go.step (fun _ k => XS.iload X14.here hx rfl (hb hby at_121) rfl k) ?_
  show Go _ _ _ _ _ _ _ T14 (mkF m 123 #[.val (.int p0), .val (.int p1), .val (.ref b1), .val (.int (minW ((tV p0) 0) ((tV p0) 1))), .val (.int (maxW ((tV p0) 0) ((tV p0) 1))), .val (.int (minW ((tV p0) 2) ((tV p0) 3))), .val (.int (maxW ((tV p0) 2) ((tV p0) 3))), .val (.int (minW (minW ((tV p0) 0) ((tV p0) 1)) (minW ((tV p0) 2) ((tV p0) 3)))), .val (.int (maxW (minW ((tV p0) 0) ((tV p0) 1)) (minW ((tV p0) 2) ((tV p0) 3)))), .val (.int (maxW (maxW ((tV p0) 0) ((tV p0) 1)) (maxW ((tV p0) 2) ((tV p0) 3)))), .val (.int (minW (maxW ((tV p0) 0) ((tV p0) 1)) (maxW ((tV p0) 2) ((tV p0) 3)))), .val (.int (minW (maxW (minW ((tV p0) 0) ((tV p0) 1)) (minW ((tV p0) 2) ((tV p0) 3))) (minW (maxW ((tV p0) 0) ((tV p0) 1)) (maxW ((tV p0) 2) ((tV p0) 3))))), .unset, .unset, .unset, .unset, .unset, .unset, .unset, .unset, .unset, .unset, .unset, .unset, .unset] [(.int (minW (maxW ((tV p0) 0) ((tV p0) 1)) (maxW ((tV p0) 2) ((tV p0) 3)))), (.int (maxW (minW ((tV p0) 0) ((tV p0) 1)) (minW ((tV p0) 2) ((tV p0) 3))))])
  refine Go.callS X14 hx hZ (by rw [hml]; rfl) (y := (⟨"java/lang/Math", "max", "(II)I"⟩ : MethodName)) (argsL := [(.int (maxW (minW ((tV p0) 0) ((tV p0) 1)) (minW ((tV p0) 2) ((tV p0) 3)))), (.int (minW (maxW ((tV p0) 0) ((tV p0) 1)) (maxW ((tV p0) 2) ((tV p0) 3))))]) (rest := []) hown (hw _ (List.mem_of_getElem? (i := 5) rfl)) (hw _ (List.mem_of_getElem? (i := 6) rfl)) (hw _ (List.mem_of_getElem? (i := 3) rfl)) (hw _ (List.mem_of_getElem? (i := 7) rfl)) (by decide) (rm2 l Z a0 hw (maxW (minW ((tV p0) 0) ((tV p0) 1)) (minW ((tV p0) 2) ((tV p0) 3))) (minW (maxW ((tV p0) 0) ((tV p0) 1)) (maxW ((tV p0) 2) ((tV p0) 3))) h5 n0 (Nat.le_trans Z0 (K5 : Keep h0 h5 []).1)) hh14 (hb hby at_123) (lenOf pd_0 rfl) rfl rfl (W := 0) (Nat.le_of_eq rfl) (by decide) (by decide) (by decide) (by decide) ?_
  intro v15 T15 L15 X15 Q15
  obtain ⟨rfl, N15q, hh15⟩ := Q15
  have N15 := Fr.app N14 N15q
  show Go _ _ _ _ _ _ _ T15 (mkF m 126 #[.val (.int p0), .val (.int p1), .val (.ref b1), .val (.int (minW ((tV p0) 0) ((tV p0) 1))), .val (.int (maxW ((tV p0) 0) ((tV p0) 1))), .val (.int (minW ((tV p0) 2) ((tV p0) 3))), .val (.int (maxW ((tV p0) 2) ((tV p0) 3))), .val (.int (minW (minW ((tV p0) 0) ((tV p0) 1)) (minW ((tV p0) 2) ((tV p0) 3)))), .val (.int (maxW (minW ((tV p0) 0) ((tV p0) 1)) (minW ((tV p0) 2) ((tV p0) 3)))), .val (.int (maxW (maxW ((tV p0) 0) ((tV p0) 1)) (maxW ((tV p0) 2) ((tV p0) 3)))), .val (.int (minW (maxW ((tV p0) 0) ((tV p0) 1)) (maxW ((tV p0) 2) ((tV p0) 3)))), .val (.int (minW (maxW (minW ((tV p0) 0) ((tV p0) 1)) (minW ((tV p0) 2) ((tV p0) 3))) (minW (maxW ((tV p0) 0) ((tV p0) 1)) (maxW ((tV p0) 2) ((tV p0) 3))))), .unset, .unset, .unset, .unset, .unset, .unset, .unset, .unset, .unset, .unset, .unset, .unset, .unset] [(.int (maxW (maxW (minW ((tV p0) 0) ((tV p0) 1)) (minW ((tV p0) 2) ((tV p0) 3))) (minW (maxW ((tV p0) 0) ((tV p0) 1)) (maxW ((tV p0) 2) ((tV p0) 3)))))])
  refine Go.step (fun _ k => XS.istore X15.here hx rfl (hb hby at_126) rfl (l' := #[.val (.int p0), .val (.int p1), .val (.ref b1), .val (.int (minW ((tV p0) 0) ((tV p0) 1))), .val (.int (maxW ((tV p0) 0) ((tV p0) 1))), .val (.int (minW ((tV p0) 2) ((tV p0) 3))), .val (.int (maxW ((tV p0) 2) ((tV p0) 3))), .val (.int (minW (minW ((tV p0) 0) ((tV p0) 1)) (minW ((tV p0) 2) ((tV p0) 3)))), .val (.int (maxW (minW ((tV p0) 0) ((tV p0) 1)) (minW ((tV p0) 2) ((tV p0) 3)))), .val (.int (maxW (maxW ((tV p0) 0) ((tV p0) 1)) (maxW ((tV p0) 2) ((tV p0) 3)))), .val (.int (minW (maxW ((tV p0) 0) ((tV p0) 1)) (maxW ((tV p0) 2) ((tV p0) 3)))), .val (.int (minW (maxW (minW ((tV p0) 0) ((tV p0) 1)) (minW ((tV p0) 2) ((tV p0) 3))) (minW (maxW ((tV p0) 0) ((tV p0) 1)) (maxW ((tV p0) 2) ((tV p0) 3))))), .val (.int (maxW (maxW (minW ((tV p0) 0) ((tV p0) 1)) (minW ((tV p0) 2) ((tV p0) 3))) (minW (maxW ((tV p0) 0) ((tV p0) 1)) (maxW ((tV p0) 2) ((tV p0) 3))))), .unset, .unset, .unset, .unset, .unset, .unset, .unset, .unset, .unset, .unset, .unset, .unset]) rfl k) ?_
  show Go _ _ _ _ _ _ _ T15 (mkF m 128 #[.val (.int p0), .val (.int p1), .val (.ref b1), .val (.int (minW ((tV p0) 0) ((tV p0) 1))), .val (.int (maxW ((tV p0) 0) ((tV p0) 1))), .val (.int (minW ((tV p0) 2) ((tV p0) 3))), .val (.int (maxW ((tV p0) 2) ((tV p0) 3))), .val (.int (minW (minW ((tV p0) 0) ((tV p0) 1)) (minW ((tV p0) 2) ((tV p0) 3)))), .val (.int (maxW (minW ((tV p0) 0) ((tV p0) 1)) (minW ((tV p0) 2) ((tV p0) 3)))), .val (.int (maxW (maxW ((tV p0) 0) ((tV p0) 1)) (maxW ((tV p0) 2) ((tV p0) 3)))), .val (.int (minW (maxW ((tV p0) 0) ((tV p0) 1)) (maxW ((tV p0) 2) ((tV p0) 3)))), .val (.int (minW (maxW (minW ((tV p0) 0) ((tV p0) 1)) (minW ((tV p0) 2) ((tV p0) 3))) (minW (maxW ((tV p0) 0) ((tV p0) 1)) (maxW ((tV p0) 2) ((tV p0) 3))))), .val (.int (maxW (maxW (minW ((tV p0) 0) ((tV p0) 1)) (minW ((tV p0) 2) ((tV p0) 3))) (minW (maxW ((tV p0) 0) ((tV p0) 1)) (maxW ((tV p0) 2) ((tV p0) 3))))), .unset, .unset, .unset, .unset, .unset, .unset, .unset, .unset, .unset, .unset, .unset, .unset] [])
  refine Go.step (fun _ k => XS.iconst X15.here hx rfl (hb hby at_128) k) ?_
  show Go _ _ _ _ _ _ _ T15 (mkF m 129 #[.val (.int p0), .val (.int p1), .val (.ref b1), .val (.int (minW ((tV p0) 0) ((tV p0) 1))), .val (.int (maxW ((tV p0) 0) ((tV p0) 1))), .val (.int (minW ((tV p0) 2) ((tV p0) 3))), .val (.int (maxW ((tV p0) 2) ((tV p0) 3))), .val (.int (minW (minW ((tV p0) 0) ((tV p0) 1)) (minW ((tV p0) 2) ((tV p0) 3)))), .val (.int (maxW (minW ((tV p0) 0) ((tV p0) 1)) (minW ((tV p0) 2) ((tV p0) 3)))), .val (.int (maxW (maxW ((tV p0) 0) ((tV p0) 1)) (maxW ((tV p0) 2) ((tV p0) 3)))), .val (.int (minW (maxW ((tV p0) 0) ((tV p0) 1)) (maxW ((tV p0) 2) ((tV p0) 3)))), .val (.int (minW (maxW (minW ((tV p0) 0) ((tV p0) 1)) (minW ((tV p0) 2) ((tV p0) 3))) (minW (maxW ((tV p0) 0) ((tV p0) 1)) (maxW ((tV p0) 2) ((tV p0) 3))))), .val (.int (maxW (maxW (minW ((tV p0) 0) ((tV p0) 1)) (minW ((tV p0) 2) ((tV p0) 3))) (minW (maxW ((tV p0) 0) ((tV p0) 1)) (maxW ((tV p0) 2) ((tV p0) 3))))), .unset, .unset, .unset, .unset, .unset, .unset, .unset, .unset, .unset, .unset, .unset, .unset] [(.int (4 : Int32))])
  obtain ⟨T16, h16, k16, X16, e16, E16, A16, st16⟩ := newP X15 hx hZ (hw _ (List.mem_of_getElem? (i := 8) rfl)) hh15 (g := (mkF m 129 #[.val (.int p0), .val (.int p1), .val (.ref b1), .val (.int (minW ((tV p0) 0) ((tV p0) 1))), .val (.int (maxW ((tV p0) 0) ((tV p0) 1))), .val (.int (minW ((tV p0) 2) ((tV p0) 3))), .val (.int (maxW ((tV p0) 2) ((tV p0) 3))), .val (.int (minW (minW ((tV p0) 0) ((tV p0) 1)) (minW ((tV p0) 2) ((tV p0) 3)))), .val (.int (maxW (minW ((tV p0) 0) ((tV p0) 1)) (minW ((tV p0) 2) ((tV p0) 3)))), .val (.int (maxW (maxW ((tV p0) 0) ((tV p0) 1)) (maxW ((tV p0) 2) ((tV p0) 3)))), .val (.int (minW (maxW ((tV p0) 0) ((tV p0) 1)) (maxW ((tV p0) 2) ((tV p0) 3)))), .val (.int (minW (maxW (minW ((tV p0) 0) ((tV p0) 1)) (minW ((tV p0) 2) ((tV p0) 3))) (minW (maxW ((tV p0) 0) ((tV p0) 1)) (maxW ((tV p0) 2) ((tV p0) 3))))), .val (.int (maxW (maxW (minW ((tV p0) 0) ((tV p0) 1)) (minW ((tV p0) 2) ((tV p0) 3))) (minW (maxW ((tV p0) 0) ((tV p0) 1)) (maxW ((tV p0) 2) ((tV p0) 3))))), .unset, .unset, .unset, .unset, .unset, .unset, .unset, .unset, .unset, .unset, .unset, .unset] [(.int (4 : Int32))])) rfl (hb hby at_129) rfl (by decide) (cap := 4) (by decide) (by decide) (by decide) (by decide)
  obtain ⟨b16, g16⟩ : ∃ z, z = h5.size := ⟨_, rfl⟩
  rw [← g16] at A16 st16
  refine Go.step st16 ?_
  have K16 : Keep h0 h16 [] := K5.ext E16
  have sz_b16 : h0.size ≤ b16 := Nat.le_trans (K5 : Keep h0 h5 []).1 (Nat.le_of_eq g16.symm)
  have ge_b16 : n0 ≤ b16 := Nat.le_trans Z0 sz_b16
  have ne_b1_b16 : b1 ≠ b16 := Nat.ne_of_lt (Nat.lt_of_lt_of_le Vtv.lt (Nat.le_of_eq g16.symm))
  have Vtv_16 := Vtv.ext E16
  have V_b16 : Zv Z h16 b16 (4 : Int32) (fun _ => (0 : Int32)) := Fv.new A16 (by decide)
  show Go _ _ _ _ _ _ _ T16 (mkF m 131 #[.val (.int p0), .val (.int p1), .val (.ref b1), .val (.int (minW ((tV p0) 0) ((tV p0) 1))), .val (.int (maxW ((tV p0) 0) ((tV p0) 1))), .val (.int (minW ((tV p0) 2) ((tV p0) 3))), .val (.int (maxW ((tV p0) 2) ((tV p0) 3))), .val (.int (minW (minW ((tV p0) 0) ((tV p0) 1)) (minW ((tV p0) 2) ((tV p0) 3)))), .val (.int (maxW (minW ((tV p0) 0) ((tV p0) 1)) (minW ((tV p0) 2) ((tV p0) 3)))), .val (.int (maxW (maxW ((tV p0) 0) ((tV p0) 1)) (maxW ((tV p0) 2) ((tV p0) 3)))), .val (.int (minW (maxW ((tV p0) 0) ((tV p0) 1)) (maxW ((tV p0) 2) ((tV p0) 3)))), .val (.int (minW (maxW (minW ((tV p0) 0) ((tV p0) 1)) (minW ((tV p0) 2) ((tV p0) 3))) (minW (maxW ((tV p0) 0) ((tV p0) 1)) (maxW ((tV p0) 2) ((tV p0) 3))))), .val (.int (maxW (maxW (minW ((tV p0) 0) ((tV p0) 1)) (minW ((tV p0) 2) ((tV p0) 3))) (minW (maxW ((tV p0) 0) ((tV p0) 1)) (maxW ((tV p0) 2) ((tV p0) 3))))), .unset, .unset, .unset, .unset, .unset, .unset, .unset, .unset, .unset, .unset, .unset, .unset] [(.ref b16)])
  refine Go.step (fun _ k => XS.astore X16.here hx rfl (hb hby at_131) rfl rfl (l' := #[.val (.int p0), .val (.int p1), .val (.ref b1), .val (.int (minW ((tV p0) 0) ((tV p0) 1))), .val (.int (maxW ((tV p0) 0) ((tV p0) 1))), .val (.int (minW ((tV p0) 2) ((tV p0) 3))), .val (.int (maxW ((tV p0) 2) ((tV p0) 3))), .val (.int (minW (minW ((tV p0) 0) ((tV p0) 1)) (minW ((tV p0) 2) ((tV p0) 3)))), .val (.int (maxW (minW ((tV p0) 0) ((tV p0) 1)) (minW ((tV p0) 2) ((tV p0) 3)))), .val (.int (maxW (maxW ((tV p0) 0) ((tV p0) 1)) (maxW ((tV p0) 2) ((tV p0) 3)))), .val (.int (minW (maxW ((tV p0) 0) ((tV p0) 1)) (maxW ((tV p0) 2) ((tV p0) 3)))), .val (.int (minW (maxW (minW ((tV p0) 0) ((tV p0) 1)) (minW ((tV p0) 2) ((tV p0) 3))) (minW (maxW ((tV p0) 0) ((tV p0) 1)) (maxW ((tV p0) 2) ((tV p0) 3))))), .val (.int (maxW (maxW (minW ((tV p0) 0) ((tV p0) 1)) (minW ((tV p0) 2) ((tV p0) 3))) (minW (maxW ((tV p0) 0) ((tV p0) 1)) (maxW ((tV p0) 2) ((tV p0) 3))))), .val (.ref b16), .unset, .unset, .unset, .unset, .unset, .unset, .unset, .unset, .unset, .unset, .unset]) rfl k) ?_
  show Go _ _ _ _ _ _ _ T16 (mkF m 133 #[.val (.int p0), .val (.int p1), .val (.ref b1), .val (.int (minW ((tV p0) 0) ((tV p0) 1))), .val (.int (maxW ((tV p0) 0) ((tV p0) 1))), .val (.int (minW ((tV p0) 2) ((tV p0) 3))), .val (.int (maxW ((tV p0) 2) ((tV p0) 3))), .val (.int (minW (minW ((tV p0) 0) ((tV p0) 1)) (minW ((tV p0) 2) ((tV p0) 3)))), .val (.int (maxW (minW ((tV p0) 0) ((tV p0) 1)) (minW ((tV p0) 2) ((tV p0) 3)))), .val (.int (maxW (maxW ((tV p0) 0) ((tV p0) 1)) (maxW ((tV p0) 2) ((tV p0) 3)))), .val (.int (minW (maxW ((tV p0) 0) ((tV p0) 1)) (maxW ((tV p0) 2) ((tV p0) 3)))), .val (.int (minW (maxW (minW ((tV p0) 0) ((tV p0) 1)) (minW ((tV p0) 2) ((tV p0) 3))) (minW (maxW ((tV p0) 0) ((tV p0) 1)) (maxW ((tV p0) 2) ((tV p0) 3))))), .val (.int (maxW (maxW (minW ((tV p0) 0) ((tV p0) 1)) (minW ((tV p0) 2) ((tV p0) 3))) (minW (maxW ((tV p0) 0) ((tV p0) 1)) (maxW ((tV p0) 2) ((tV p0) 3))))), .val (.ref b16), .unset, .unset, .unset, .unset, .unset, .unset, .unset, .unset, .unset, .unset, .unset] [])
  obtain ⟨T17, h17, X17, e17, E17, A17, D17, -, st17⟩ := newO X16 hx hZ hown (hw _ (List.mem_of_getElem? (i := 9) rfl)) (hw _ (List.mem_of_getElem? (i := 10) rfl)) (hw _ (List.mem_of_getElem? (i := 11) rfl)) e16 (g := (mkF m 133 #[.val (.int p0), .val (.int p1), .val (.ref b1), .val (.int (minW ((tV p0) 0) ((tV p0) 1))), .val (.int (maxW ((tV p0) 0) ((tV p0) 1))), .val (.int (minW ((tV p0) 2) ((tV p0) 3))), .val (.int (maxW ((tV p0) 2) ((tV p0) 3))), .val (.int (minW (minW ((tV p0) 0) ((tV p0) 1)) (minW ((tV p0) 2) ((tV p0) 3)))), .val (.int (maxW (minW ((tV p0) 0) ((tV p0) 1)) (minW ((tV p0) 2) ((tV p0) 3)))), .val (.int (maxW (maxW ((tV p0) 0) ((tV p0) 1)) (maxW ((tV p0) 2) ((tV p0) 3)))), .val (.int (minW (maxW ((tV p0) 0) ((tV p0) 1)) (maxW ((tV p0) 2) ((tV p0) 3)))), .val (.int (minW (maxW (minW ((tV p0) 0) ((tV p0) 1)) (minW ((tV p0) 2) ((tV p0) 3))) (minW (maxW ((tV p0) 0) ((tV p0) 1)) (maxW ((tV p0) 2) ((tV p0) 3))))), .val (.int (maxW (maxW (minW ((tV p0) 0) ((tV p0) 1)) (minW ((tV p0) 2) ((tV p0) 3))) (minW (maxW ((tV p0) 0) ((tV p0) 1)) (maxW ((tV p0) 2) ((tV p0) 3))))), .val (.ref b16), .unset, .unset, .unset, .unset, .unset, .unset, .unset, .unset, .unset, .unset, .unset] [])) rfl (hb hby at_133) (by decide) (by decide)
  obtain ⟨b17, g17⟩ : ∃ z, z = h16.size := ⟨_, rfl⟩
  rw [← g17] at A17 D17 st17
  refine Go.step st17 ?_
  have K17 : Keep h0 h17 [] := K16.ext E17
  have sz_b17 : h0.size ≤ b17 := Nat.le_trans (K16 : Keep h0 h16 []).1 (Nat.le_of_eq g17.symm)
  have ge_b17 : n0 ≤ b17 := Nat.le_trans Z0 sz_b17
  have ne_b1_b17 : b1 ≠ b17 := Nat.ne_of_lt (Nat.lt_of_lt_of_le Vtv_16.lt (Nat.le_of_eq g17.symm))
  have ne_b16_b17 : b16 ≠ b17 := Nat.ne_of_lt (Nat.lt_of_lt_of_le V_b16.lt (Nat.le_of_eq g17.symm))
  have Vtv_17 := Vtv_16.ext E17
  have V_b16_17 := V_b16.ext E17
  have E_b17 := A17
  have F_times_b17 : Fld Z h17 b17 "com/example/wavegrade/wavegrade/DepartureQueue" "times" "[D" .null := D17 (Or.inl (hw _ (List.mem_of_getElem? (i := 20) rfl))) (ty := (.array .double)) (by decide)
  have F_lightpaths_b17 : Fld Z h17 b17 "com/example/wavegrade/wavegrade/DepartureQueue" "lightpaths" "[I" .null := D17 (Or.inl (hw _ (List.mem_of_getElem? (i := 22) rfl))) (ty := (.array .int)) (by decide)
  have F_size_b17 : Fld Z h17 b17 "com/example/wavegrade/wavegrade/DepartureQueue" "size" "I" (.int (0 : Int32)) := D17 (Or.inl (hw _ (List.mem_of_getElem? (i := 29) rfl))) (ty := .int) (by decide)
  show Go _ _ _ _ _ _ _ T17 (mkF m 136 #[.val (.int p0), .val (.int p1), .val (.ref b1), .val (.int (minW ((tV p0) 0) ((tV p0) 1))), .val (.int (maxW ((tV p0) 0) ((tV p0) 1))), .val (.int (minW ((tV p0) 2) ((tV p0) 3))), .val (.int (maxW ((tV p0) 2) ((tV p0) 3))), .val (.int (minW (minW ((tV p0) 0) ((tV p0) 1)) (minW ((tV p0) 2) ((tV p0) 3)))), .val (.int (maxW (minW ((tV p0) 0) ((tV p0) 1)) (minW ((tV p0) 2) ((tV p0) 3)))), .val (.int (maxW (maxW ((tV p0) 0) ((tV p0) 1)) (maxW ((tV p0) 2) ((tV p0) 3)))), .val (.int (minW (maxW ((tV p0) 0) ((tV p0) 1)) (maxW ((tV p0) 2) ((tV p0) 3)))), .val (.int (minW (maxW (minW ((tV p0) 0) ((tV p0) 1)) (minW ((tV p0) 2) ((tV p0) 3))) (minW (maxW ((tV p0) 0) ((tV p0) 1)) (maxW ((tV p0) 2) ((tV p0) 3))))), .val (.int (maxW (maxW (minW ((tV p0) 0) ((tV p0) 1)) (minW ((tV p0) 2) ((tV p0) 3))) (minW (maxW ((tV p0) 0) ((tV p0) 1)) (maxW ((tV p0) 2) ((tV p0) 3))))), .val (.ref b16), .unset, .unset, .unset, .unset, .unset, .unset, .unset, .unset, .unset, .unset, .unset] [(.ref b17)])
  refine Go.step (fun _ k => XS.dup X17.here hx rfl (hb hby at_136) rfl rfl k) ?_
  show Go _ _ _ _ _ _ _ T17 (mkF m 137 #[.val (.int p0), .val (.int p1), .val (.ref b1), .val (.int (minW ((tV p0) 0) ((tV p0) 1))), .val (.int (maxW ((tV p0) 0) ((tV p0) 1))), .val (.int (minW ((tV p0) 2) ((tV p0) 3))), .val (.int (maxW ((tV p0) 2) ((tV p0) 3))), .val (.int (minW (minW ((tV p0) 0) ((tV p0) 1)) (minW ((tV p0) 2) ((tV p0) 3)))), .val (.int (maxW (minW ((tV p0) 0) ((tV p0) 1)) (minW ((tV p0) 2) ((tV p0) 3)))), .val (.int (maxW (maxW ((tV p0) 0) ((tV p0) 1)) (maxW ((tV p0) 2) ((tV p0) 3)))), .val (.int (minW (maxW ((tV p0) 0) ((tV p0) 1)) (maxW ((tV p0) 2) ((tV p0) 3)))), .val (.int (minW (maxW (minW ((tV p0) 0) ((tV p0) 1)) (minW ((tV p0) 2) ((tV p0) 3))) (minW (maxW ((tV p0) 0) ((tV p0) 1)) (maxW ((tV p0) 2) ((tV p0) 3))))), .val (.int (maxW (maxW (minW ((tV p0) 0) ((tV p0) 1)) (minW ((tV p0) 2) ((tV p0) 3))) (minW (maxW ((tV p0) 0) ((tV p0) 1)) (maxW ((tV p0) 2) ((tV p0) 3))))), .val (.ref b16), .unset, .unset, .unset, .unset, .unset, .unset, .unset, .unset, .unset, .unset, .unset] [(.ref b17), (.ref b17)])
  refine Go.callI X17 hx hZ (by rw [hml]; rfl) (y := (⟨"com/example/wavegrade/wavegrade/DepartureQueue", "<init>", "()V"⟩ : MethodName)) (a := b17) (argsL := []) (rest := [(.ref b17)]) rfl hown (hw _ (List.mem_of_getElem? (i := 12) rfl)) (hw _ (List.mem_of_getElem? (i := 13) rfl)) (hw _ (List.mem_of_getElem? (i := 11) rfl)) (hw _ (List.mem_of_getElem? (i := 14) rfl)) (by decide) (rm3 l Z a0 hw b17 h17 n0 (Nat.le_trans Z0 (K17 : Keep h0 h17 []).1) E_b17 F_size_b17 F_times_b17 F_lightpaths_b17 ge_b17) e17 (hb hby at_137) (lenOf pd_1 rfl) rfl rfl (W := 1) (Nat.le_of_eq rfl) (by decide) (by decide) (by decide) (by decide) ?_
  intro v18 T18 L18 X18 Q18
  obtain ⟨rfl, N18q, Kc18, Ec18, Fs18, u18, v18, Ft18, Fl18, Vu18, Vv18, nqu18, nqv18, nuv18, su18, sv18⟩ := Q18
  have N18 := Fr.app N15 N18q
  have ne_b1_u18 : b1 ≠ u18 := Nat.ne_of_lt (Nat.lt_of_lt_of_le Vtv_17.lt su18)
  have ne_b1_v18 : b1 ≠ v18 := Nat.ne_of_lt (Nat.lt_of_lt_of_le Vtv_17.lt sv18)
  have ne_b16_u18 : b16 ≠ u18 := Nat.ne_of_lt (Nat.lt_of_lt_of_le V_b16_17.lt su18)
  have ne_b16_v18 : b16 ≠ v18 := Nat.ne_of_lt (Nat.lt_of_lt_of_le V_b16_17.lt sv18)
  have Vtv_18 := Vtv_17.keep Kc18 (ninS ne_b1_b17 nin0)
  have V_b16_18 := V_b16_17.keep Kc18 (ninS ne_b16_b17 nin0)
  have E_b17_18 := E_b17.keep Kc18
  have KK18 : Keep h0 T18.heap [] := (K17 : Keep h0 h17 []).trans Kc18 (allS (Or.inr sz_b17) all0)
  have sz_u18 : h0.size ≤ u18 := Nat.le_trans (K17 : Keep h0 h17 []).1 su18
  have ge_u18 : n0 ≤ u18 := Nat.le_trans Z0 sz_u18
  have sz_v18 : h0.size ≤ v18 := Nat.le_trans (K17 : Keep h0 h17 []).1 sv18
  have ge_v18 : n0 ≤ v18 := Nat.le_trans Z0 sz_v18
  have hg18 : ∀ i, i < 0 → (fun _ => (0 : UInt64)) i = (tT p0) ((fun x => x) i) := fun i hi' => absurd hi' (by omega)
  have hl18 : ∀ i, i < 0 → (fun _ => (0 : Int32)) i = (tL p1) ((fun x => x) i) := fun i hi' => absurd hi' (by omega)
  have hi18 : HI (tK p0) (fun x => x) 0 := trivial
  show Go _ _ _ _ _ _ _ T18 (mkF m 140 #[.val (.int p0), .val (.int p1), .val (.ref b1), .val (.int (minW ((tV p0) 0) ((tV p0) 1))), .val (.int (maxW ((tV p0) 0) ((tV p0) 1))), .val (.int (minW ((tV p0) 2) ((tV p0) 3))), .val (.int (maxW ((tV p0) 2) ((tV p0) 3))), .val (.int (minW (minW ((tV p0) 0) ((tV p0) 1)) (minW ((tV p0) 2) ((tV p0) 3)))), .val (.int (maxW (minW ((tV p0) 0) ((tV p0) 1)) (minW ((tV p0) 2) ((tV p0) 3)))), .val (.int (maxW (maxW ((tV p0) 0) ((tV p0) 1)) (maxW ((tV p0) 2) ((tV p0) 3)))), .val (.int (minW (maxW ((tV p0) 0) ((tV p0) 1)) (maxW ((tV p0) 2) ((tV p0) 3)))), .val (.int (minW (maxW (minW ((tV p0) 0) ((tV p0) 1)) (minW ((tV p0) 2) ((tV p0) 3))) (minW (maxW ((tV p0) 0) ((tV p0) 1)) (maxW ((tV p0) 2) ((tV p0) 3))))), .val (.int (maxW (maxW (minW ((tV p0) 0) ((tV p0) 1)) (minW ((tV p0) 2) ((tV p0) 3))) (minW (maxW ((tV p0) 0) ((tV p0) 1)) (maxW ((tV p0) 2) ((tV p0) 3))))), .val (.ref b16), .unset, .unset, .unset, .unset, .unset, .unset, .unset, .unset, .unset, .unset, .unset] [(.ref b17)])
  refine Go.step (fun _ k => XS.astore X18.here hx rfl (hb hby at_140) rfl rfl (l' := #[.val (.int p0), .val (.int p1), .val (.ref b1), .val (.int (minW ((tV p0) 0) ((tV p0) 1))), .val (.int (maxW ((tV p0) 0) ((tV p0) 1))), .val (.int (minW ((tV p0) 2) ((tV p0) 3))), .val (.int (maxW ((tV p0) 2) ((tV p0) 3))), .val (.int (minW (minW ((tV p0) 0) ((tV p0) 1)) (minW ((tV p0) 2) ((tV p0) 3)))), .val (.int (maxW (minW ((tV p0) 0) ((tV p0) 1)) (minW ((tV p0) 2) ((tV p0) 3)))), .val (.int (maxW (maxW ((tV p0) 0) ((tV p0) 1)) (maxW ((tV p0) 2) ((tV p0) 3)))), .val (.int (minW (maxW ((tV p0) 0) ((tV p0) 1)) (maxW ((tV p0) 2) ((tV p0) 3)))), .val (.int (minW (maxW (minW ((tV p0) 0) ((tV p0) 1)) (minW ((tV p0) 2) ((tV p0) 3))) (minW (maxW ((tV p0) 0) ((tV p0) 1)) (maxW ((tV p0) 2) ((tV p0) 3))))), .val (.int (maxW (maxW (minW ((tV p0) 0) ((tV p0) 1)) (minW ((tV p0) 2) ((tV p0) 3))) (minW (maxW ((tV p0) 0) ((tV p0) 1)) (maxW ((tV p0) 2) ((tV p0) 3))))), .val (.ref b16), .val (.ref b17), .unset, .unset, .unset, .unset, .unset, .unset, .unset, .unset, .unset, .unset]) rfl k) ?_
  show Go _ _ _ _ _ _ _ T18 (mkF m 142 #[.val (.int p0), .val (.int p1), .val (.ref b1), .val (.int (minW ((tV p0) 0) ((tV p0) 1))), .val (.int (maxW ((tV p0) 0) ((tV p0) 1))), .val (.int (minW ((tV p0) 2) ((tV p0) 3))), .val (.int (maxW ((tV p0) 2) ((tV p0) 3))), .val (.int (minW (minW ((tV p0) 0) ((tV p0) 1)) (minW ((tV p0) 2) ((tV p0) 3)))), .val (.int (maxW (minW ((tV p0) 0) ((tV p0) 1)) (minW ((tV p0) 2) ((tV p0) 3)))), .val (.int (maxW (maxW ((tV p0) 0) ((tV p0) 1)) (maxW ((tV p0) 2) ((tV p0) 3)))), .val (.int (minW (maxW ((tV p0) 0) ((tV p0) 1)) (maxW ((tV p0) 2) ((tV p0) 3)))), .val (.int (minW (maxW (minW ((tV p0) 0) ((tV p0) 1)) (minW ((tV p0) 2) ((tV p0) 3))) (minW (maxW ((tV p0) 0) ((tV p0) 1)) (maxW ((tV p0) 2) ((tV p0) 3))))), .val (.int (maxW (maxW (minW ((tV p0) 0) ((tV p0) 1)) (minW ((tV p0) 2) ((tV p0) 3))) (minW (maxW ((tV p0) 0) ((tV p0) 1)) (maxW ((tV p0) 2) ((tV p0) 3))))), .val (.ref b16), .val (.ref b17), .unset, .unset, .unset, .unset, .unset, .unset, .unset, .unset, .unset, .unset] [])
  refine Go.step (fun _ k => XS.aload X18.here hx rfl (hb hby at_142) rfl rfl k) ?_
  show Go _ _ _ _ _ _ _ T18 (mkF m 144 #[.val (.int p0), .val (.int p1), .val (.ref b1), .val (.int (minW ((tV p0) 0) ((tV p0) 1))), .val (.int (maxW ((tV p0) 0) ((tV p0) 1))), .val (.int (minW ((tV p0) 2) ((tV p0) 3))), .val (.int (maxW ((tV p0) 2) ((tV p0) 3))), .val (.int (minW (minW ((tV p0) 0) ((tV p0) 1)) (minW ((tV p0) 2) ((tV p0) 3)))), .val (.int (maxW (minW ((tV p0) 0) ((tV p0) 1)) (minW ((tV p0) 2) ((tV p0) 3)))), .val (.int (maxW (maxW ((tV p0) 0) ((tV p0) 1)) (maxW ((tV p0) 2) ((tV p0) 3)))), .val (.int (minW (maxW ((tV p0) 0) ((tV p0) 1)) (maxW ((tV p0) 2) ((tV p0) 3)))), .val (.int (minW (maxW (minW ((tV p0) 0) ((tV p0) 1)) (minW ((tV p0) 2) ((tV p0) 3))) (minW (maxW ((tV p0) 0) ((tV p0) 1)) (maxW ((tV p0) 2) ((tV p0) 3))))), .val (.int (maxW (maxW (minW ((tV p0) 0) ((tV p0) 1)) (minW ((tV p0) 2) ((tV p0) 3))) (minW (maxW ((tV p0) 0) ((tV p0) 1)) (maxW ((tV p0) 2) ((tV p0) 3))))), .val (.ref b16), .val (.ref b17), .unset, .unset, .unset, .unset, .unset, .unset, .unset, .unset, .unset, .unset] [(.ref b17)])
  refine Go.callV X18 hx hZ (by rw [hml]; rfl) (y := (⟨"com/example/wavegrade/wavegrade/DepartureQueue", "isEmpty", "()Z"⟩ : MethodName)) (z := (⟨"com/example/wavegrade/wavegrade/DepartureQueue", "isEmpty", "()Z"⟩ : MethodName)) (a := b17) (argsL := []) (rest := []) hown (hw _ (List.mem_of_getElem? (i := 23) rfl)) (hw _ (List.mem_of_getElem? (i := 24) rfl)) (notFace_of_selects (args := #[]) (mvT hZ (hw _ (List.mem_of_getElem? (i := 26) rfl)))) (hw _ (List.mem_of_getElem? (i := 26) rfl)) (hw _ (List.mem_of_getElem? (i := 25) rfl)) (hw _ (List.mem_of_getElem? (i := 11) rfl)) (hw _ (List.mem_of_getElem? (i := 27) rfl)) (by decide) (rm_empty0 l Z a0 hw b17 T18.heap n0 (Nat.le_trans Z0 (KK18 : Keep h0 T18.heap []).1) Fs18) rfl Ec18 (hb hby at_144) (lenOf pd_2 rfl) rfl rfl (W := 0) (Nat.le_of_eq rfl) (by decide) (by decide) (by decide) (by decide) ?_
  intro v19 T19 L19 X19 Q19
  obtain ⟨rfl, N19q, hh19⟩ := Q19
  have N19 := Fr.app N18 N19q
  show Go _ _ _ _ _ _ _ T19 (mkF m 147 #[.val (.int p0), .val (.int p1), .val (.ref b1), .val (.int (minW ((tV p0) 0) ((tV p0) 1))), .val (.int (maxW ((tV p0) 0) ((tV p0) 1))), .val (.int (minW ((tV p0) 2) ((tV p0) 3))), .val (.int (maxW ((tV p0) 2) ((tV p0) 3))), .val (.int (minW (minW ((tV p0) 0) ((tV p0) 1)) (minW ((tV p0) 2) ((tV p0) 3)))), .val (.int (maxW (minW ((tV p0) 0) ((tV p0) 1)) (minW ((tV p0) 2) ((tV p0) 3)))), .val (.int (maxW (maxW ((tV p0) 0) ((tV p0) 1)) (maxW ((tV p0) 2) ((tV p0) 3)))), .val (.int (minW (maxW ((tV p0) 0) ((tV p0) 1)) (maxW ((tV p0) 2) ((tV p0) 3)))), .val (.int (minW (maxW (minW ((tV p0) 0) ((tV p0) 1)) (minW ((tV p0) 2) ((tV p0) 3))) (minW (maxW ((tV p0) 0) ((tV p0) 1)) (maxW ((tV p0) 2) ((tV p0) 3))))), .val (.int (maxW (maxW (minW ((tV p0) 0) ((tV p0) 1)) (minW ((tV p0) 2) ((tV p0) 3))) (minW (maxW ((tV p0) 0) ((tV p0) 1)) (maxW ((tV p0) 2) ((tV p0) 3))))), .val (.ref b16), .val (.ref b17), .unset, .unset, .unset, .unset, .unset, .unset, .unset, .unset, .unset, .unset] [(.int (1 : Int32))])
  refine Go.step (fun _ k => XS.istore X19.here hx rfl (hb hby at_147) rfl (l' := #[.val (.int p0), .val (.int p1), .val (.ref b1), .val (.int (minW ((tV p0) 0) ((tV p0) 1))), .val (.int (maxW ((tV p0) 0) ((tV p0) 1))), .val (.int (minW ((tV p0) 2) ((tV p0) 3))), .val (.int (maxW ((tV p0) 2) ((tV p0) 3))), .val (.int (minW (minW ((tV p0) 0) ((tV p0) 1)) (minW ((tV p0) 2) ((tV p0) 3)))), .val (.int (maxW (minW ((tV p0) 0) ((tV p0) 1)) (minW ((tV p0) 2) ((tV p0) 3)))), .val (.int (maxW (maxW ((tV p0) 0) ((tV p0) 1)) (maxW ((tV p0) 2) ((tV p0) 3)))), .val (.int (minW (maxW ((tV p0) 0) ((tV p0) 1)) (maxW ((tV p0) 2) ((tV p0) 3)))), .val (.int (minW (maxW (minW ((tV p0) 0) ((tV p0) 1)) (minW ((tV p0) 2) ((tV p0) 3))) (minW (maxW ((tV p0) 0) ((tV p0) 1)) (maxW ((tV p0) 2) ((tV p0) 3))))), .val (.int (maxW (maxW (minW ((tV p0) 0) ((tV p0) 1)) (minW ((tV p0) 2) ((tV p0) 3))) (minW (maxW ((tV p0) 0) ((tV p0) 1)) (maxW ((tV p0) 2) ((tV p0) 3))))), .val (.ref b16), .val (.ref b17), .val (.int (1 : Int32)), .unset, .unset, .unset, .unset, .unset, .unset, .unset, .unset, .unset]) rfl k) ?_
  show Go _ _ _ _ _ _ _ T19 (mkF m 149 #[.val (.int p0), .val (.int p1), .val (.ref b1), .val (.int (minW ((tV p0) 0) ((tV p0) 1))), .val (.int (maxW ((tV p0) 0) ((tV p0) 1))), .val (.int (minW ((tV p0) 2) ((tV p0) 3))), .val (.int (maxW ((tV p0) 2) ((tV p0) 3))), .val (.int (minW (minW ((tV p0) 0) ((tV p0) 1)) (minW ((tV p0) 2) ((tV p0) 3)))), .val (.int (maxW (minW ((tV p0) 0) ((tV p0) 1)) (minW ((tV p0) 2) ((tV p0) 3)))), .val (.int (maxW (maxW ((tV p0) 0) ((tV p0) 1)) (maxW ((tV p0) 2) ((tV p0) 3)))), .val (.int (minW (maxW ((tV p0) 0) ((tV p0) 1)) (maxW ((tV p0) 2) ((tV p0) 3)))), .val (.int (minW (maxW (minW ((tV p0) 0) ((tV p0) 1)) (minW ((tV p0) 2) ((tV p0) 3))) (minW (maxW ((tV p0) 0) ((tV p0) 1)) (maxW ((tV p0) 2) ((tV p0) 3))))), .val (.int (maxW (maxW (minW ((tV p0) 0) ((tV p0) 1)) (minW ((tV p0) 2) ((tV p0) 3))) (minW (maxW ((tV p0) 0) ((tV p0) 1)) (maxW ((tV p0) 2) ((tV p0) 3))))), .val (.ref b16), .val (.ref b17), .val (.int (1 : Int32)), .unset, .unset, .unset, .unset, .unset, .unset, .unset, .unset, .unset] [])
  refine Go.step (fun _ k => XS.aload X19.here hx rfl (hb hby at_149) rfl rfl k) ?_
  show Go _ _ _ _ _ _ _ T19 (mkF m 151 #[.val (.int p0), .val (.int p1), .val (.ref b1), .val (.int (minW ((tV p0) 0) ((tV p0) 1))), .val (.int (maxW ((tV p0) 0) ((tV p0) 1))), .val (.int (minW ((tV p0) 2) ((tV p0) 3))), .val (.int (maxW ((tV p0) 2) ((tV p0) 3))), .val (.int (minW (minW ((tV p0) 0) ((tV p0) 1)) (minW ((tV p0) 2) ((tV p0) 3)))), .val (.int (maxW (minW ((tV p0) 0) ((tV p0) 1)) (minW ((tV p0) 2) ((tV p0) 3)))), .val (.int (maxW (maxW ((tV p0) 0) ((tV p0) 1)) (maxW ((tV p0) 2) ((tV p0) 3)))), .val (.int (minW (maxW ((tV p0) 0) ((tV p0) 1)) (maxW ((tV p0) 2) ((tV p0) 3)))), .val (.int (minW (maxW (minW ((tV p0) 0) ((tV p0) 1)) (minW ((tV p0) 2) ((tV p0) 3))) (minW (maxW ((tV p0) 0) ((tV p0) 1)) (maxW ((tV p0) 2) ((tV p0) 3))))), .val (.int (maxW (maxW (minW ((tV p0) 0) ((tV p0) 1)) (minW ((tV p0) 2) ((tV p0) 3))) (minW (maxW ((tV p0) 0) ((tV p0) 1)) (maxW ((tV p0) 2) ((tV p0) 3))))), .val (.ref b16), .val (.ref b17), .val (.int (1 : Int32)), .unset, .unset, .unset, .unset, .unset, .unset, .unset, .unset, .unset] [(.ref b17)])
  refine Go.step (fun _ k => XS.aloadN X19.here hx rfl (hb hby at_151) rfl rfl k) ?_
  show Go _ _ _ _ _ _ _ T19 (mkF m 152 #[.val (.int p0), .val (.int p1), .val (.ref b1), .val (.int (minW ((tV p0) 0) ((tV p0) 1))), .val (.int (maxW ((tV p0) 0) ((tV p0) 1))), .val (.int (minW ((tV p0) 2) ((tV p0) 3))), .val (.int (maxW ((tV p0) 2) ((tV p0) 3))), .val (.int (minW (minW ((tV p0) 0) ((tV p0) 1)) (minW ((tV p0) 2) ((tV p0) 3)))), .val (.int (maxW (minW ((tV p0) 0) ((tV p0) 1)) (minW ((tV p0) 2) ((tV p0) 3)))), .val (.int (maxW (maxW ((tV p0) 0) ((tV p0) 1)) (maxW ((tV p0) 2) ((tV p0) 3)))), .val (.int (minW (maxW ((tV p0) 0) ((tV p0) 1)) (maxW ((tV p0) 2) ((tV p0) 3)))), .val (.int (minW (maxW (minW ((tV p0) 0) ((tV p0) 1)) (minW ((tV p0) 2) ((tV p0) 3))) (minW (maxW ((tV p0) 0) ((tV p0) 1)) (maxW ((tV p0) 2) ((tV p0) 3))))), .val (.int (maxW (maxW (minW ((tV p0) 0) ((tV p0) 1)) (minW ((tV p0) 2) ((tV p0) 3))) (minW (maxW ((tV p0) 0) ((tV p0) 1)) (maxW ((tV p0) 2) ((tV p0) 3))))), .val (.ref b16), .val (.ref b17), .val (.int (1 : Int32)), .unset, .unset, .unset, .unset, .unset, .unset, .unset, .unset, .unset] [(.ref b1), (.ref b17)])
  refine Go.step (fun _ k => XS.iconst X19.here hx rfl (hb hby at_152) k) ?_
  show Go _ _ _ _ _ _ _ T19 (mkF m 153 #[.val (.int p0), .val (.int p1), .val (.ref b1), .val (.int (minW ((tV p0) 0) ((tV p0) 1))), .val (.int (maxW ((tV p0) 0) ((tV p0) 1))), .val (.int (minW ((tV p0) 2) ((tV p0) 3))), .val (.int (maxW ((tV p0) 2) ((tV p0) 3))), .val (.int (minW (minW ((tV p0) 0) ((tV p0) 1)) (minW ((tV p0) 2) ((tV p0) 3)))), .val (.int (maxW (minW ((tV p0) 0) ((tV p0) 1)) (minW ((tV p0) 2) ((tV p0) 3)))), .val (.int (maxW (maxW ((tV p0) 0) ((tV p0) 1)) (maxW ((tV p0) 2) ((tV p0) 3)))), .val (.int (minW (maxW ((tV p0) 0) ((tV p0) 1)) (maxW ((tV p0) 2) ((tV p0) 3)))), .val (.int (minW (maxW (minW ((tV p0) 0) ((tV p0) 1)) (minW ((tV p0) 2) ((tV p0) 3))) (minW (maxW ((tV p0) 0) ((tV p0) 1)) (maxW ((tV p0) 2) ((tV p0) 3))))), .val (.int (maxW (maxW (minW ((tV p0) 0) ((tV p0) 1)) (minW ((tV p0) 2) ((tV p0) 3))) (minW (maxW ((tV p0) 0) ((tV p0) 1)) (maxW ((tV p0) 2) ((tV p0) 3))))), .val (.ref b16), .val (.ref b17), .val (.int (1 : Int32)), .unset, .unset, .unset, .unset, .unset, .unset, .unset, .unset, .unset] [(.int (0 : Int32)), (.ref b1), (.ref b17)])
  refine Go.iaload X19 hx hZ hh19 Vtv_18 (j := (0 : Int32)) (v := ((tV p0) 0)) (by decide) rfl (hb hby at_153) ?_
  show Go _ _ _ _ _ _ _ T19 (mkF m 154 #[.val (.int p0), .val (.int p1), .val (.ref b1), .val (.int (minW ((tV p0) 0) ((tV p0) 1))), .val (.int (maxW ((tV p0) 0) ((tV p0) 1))), .val (.int (minW ((tV p0) 2) ((tV p0) 3))), .val (.int (maxW ((tV p0) 2) ((tV p0) 3))), .val (.int (minW (minW ((tV p0) 0) ((tV p0) 1)) (minW ((tV p0) 2) ((tV p0) 3)))), .val (.int (maxW (minW ((tV p0) 0) ((tV p0) 1)) (minW ((tV p0) 2) ((tV p0) 3)))), .val (.int (maxW (maxW ((tV p0) 0) ((tV p0) 1)) (maxW ((tV p0) 2) ((tV p0) 3)))), .val (.int (minW (maxW ((tV p0) 0) ((tV p0) 1)) (maxW ((tV p0) 2) ((tV p0) 3)))), .val (.int (minW (maxW (minW ((tV p0) 0) ((tV p0) 1)) (minW ((tV p0) 2) ((tV p0) 3))) (minW (maxW ((tV p0) 0) ((tV p0) 1)) (maxW ((tV p0) 2) ((tV p0) 3))))), .val (.int (maxW (maxW (minW ((tV p0) 0) ((tV p0) 1)) (minW ((tV p0) 2) ((tV p0) 3))) (minW (maxW ((tV p0) 0) ((tV p0) 1)) (maxW ((tV p0) 2) ((tV p0) 3))))), .val (.ref b16), .val (.ref b17), .val (.int (1 : Int32)), .unset, .unset, .unset, .unset, .unset, .unset, .unset, .unset, .unset] [(.int ((tV p0) 0)), (.ref b17)])
  refine Go.step (fun _ k => XS.i2dS X19.here hx rfl (hb hby at_154) rfl rfl k) ?_
  show Go _ _ _ _ _ _ _ T19 (mkF m 155 #[.val (.int p0), .val (.int p1), .val (.ref b1), .val (.int (minW ((tV p0) 0) ((tV p0) 1))), .val (.int (maxW ((tV p0) 0) ((tV p0) 1))), .val (.int (minW ((tV p0) 2) ((tV p0) 3))), .val (.int (maxW ((tV p0) 2) ((tV p0) 3))), .val (.int (minW (minW ((tV p0) 0) ((tV p0) 1)) (minW ((tV p0) 2) ((tV p0) 3)))), .val (.int (maxW (minW ((tV p0) 0) ((tV p0) 1)) (minW ((tV p0) 2) ((tV p0) 3)))), .val (.int (maxW (maxW ((tV p0) 0) ((tV p0) 1)) (maxW ((tV p0) 2) ((tV p0) 3)))), .val (.int (minW (maxW ((tV p0) 0) ((tV p0) 1)) (maxW ((tV p0) 2) ((tV p0) 3)))), .val (.int (minW (maxW (minW ((tV p0) 0) ((tV p0) 1)) (minW ((tV p0) 2) ((tV p0) 3))) (minW (maxW ((tV p0) 0) ((tV p0) 1)) (maxW ((tV p0) 2) ((tV p0) 3))))), .val (.int (maxW (maxW (minW ((tV p0) 0) ((tV p0) 1)) (minW ((tV p0) 2) ((tV p0) 3))) (minW (maxW ((tV p0) 0) ((tV p0) 1)) (maxW ((tV p0) 2) ((tV p0) 3))))), .val (.ref b16), .val (.ref b17), .val (.int (1 : Int32)), .unset, .unset, .unset, .unset, .unset, .unset, .unset, .unset, .unset] [(.double (FP.i2d ((tV p0) 0))), (.ref b17)])
  refine Go.step (fun _ k => XS.iloadN X19.here hx rfl (hb hby at_155) rfl k) ?_
  show Go _ _ _ _ _ _ _ T19 (mkF m 156 #[.val (.int p0), .val (.int p1), .val (.ref b1), .val (.int (minW ((tV p0) 0) ((tV p0) 1))), .val (.int (maxW ((tV p0) 0) ((tV p0) 1))), .val (.int (minW ((tV p0) 2) ((tV p0) 3))), .val (.int (maxW ((tV p0) 2) ((tV p0) 3))), .val (.int (minW (minW ((tV p0) 0) ((tV p0) 1)) (minW ((tV p0) 2) ((tV p0) 3)))), .val (.int (maxW (minW ((tV p0) 0) ((tV p0) 1)) (minW ((tV p0) 2) ((tV p0) 3)))), .val (.int (maxW (maxW ((tV p0) 0) ((tV p0) 1)) (maxW ((tV p0) 2) ((tV p0) 3)))), .val (.int (minW (maxW ((tV p0) 0) ((tV p0) 1)) (maxW ((tV p0) 2) ((tV p0) 3)))), .val (.int (minW (maxW (minW ((tV p0) 0) ((tV p0) 1)) (minW ((tV p0) 2) ((tV p0) 3))) (minW (maxW ((tV p0) 0) ((tV p0) 1)) (maxW ((tV p0) 2) ((tV p0) 3))))), .val (.int (maxW (maxW (minW ((tV p0) 0) ((tV p0) 1)) (minW ((tV p0) 2) ((tV p0) 3))) (minW (maxW ((tV p0) 0) ((tV p0) 1)) (maxW ((tV p0) 2) ((tV p0) 3))))), .val (.ref b16), .val (.ref b17), .val (.int (1 : Int32)), .unset, .unset, .unset, .unset, .unset, .unset, .unset, .unset, .unset] [(.int p1), (.double (FP.i2d ((tV p0) 0))), (.ref b17)])
  refine Go.callV X19 hx hZ (by rw [hml]; rfl) (y := (⟨"com/example/wavegrade/wavegrade/DepartureQueue", "add", "(DI)V"⟩ : MethodName)) (z := (⟨"com/example/wavegrade/wavegrade/DepartureQueue", "add", "(DI)V"⟩ : MethodName)) (a := b17) (argsL := [(.double (FP.i2d ((tV p0) 0))), (.int p1)]) (rest := []) hown (hw _ (List.mem_of_getElem? (i := 30) rfl)) (hw _ (List.mem_of_getElem? (i := 31) rfl)) (notFace_of_selects (args := #[]) (mvT hZ (hw _ (List.mem_of_getElem? (i := 33) rfl)))) (hw _ (List.mem_of_getElem? (i := 33) rfl)) (hw _ (List.mem_of_getElem? (i := 32) rfl)) (hw _ (List.mem_of_getElem? (i := 11) rfl)) (hw _ (List.mem_of_getElem? (i := 34) rfl)) (by decide) (rm_add0 l Z a0 hw b17 u18 v18 (fun _ => (0 : UInt64)) (fun _ => (0 : Int32)) (tT p0) (tL p1) (tK p0) (fun x => x) 0 T18.heap n0 (Nat.le_trans Z0 (KK18 : Keep h0 T18.heap []).1) Ec18 Fs18 Ft18 Fl18 Vu18 Vv18 nqu18 nqv18 nuv18 ge_b17 ge_u18 ge_v18 (tH p0) hg18 hl18 hi18) hh19 Ec18 (hb hby at_156) (lenOf pd_3 rfl) rfl rfl (W := 0) (Nat.le_of_eq rfl) (by decide) (by decide) (by decide) (by decide) ?_
  intro v20 T20 L20 X20 Q20
  obtain ⟨rfl, N20q, Kc20, Ec20, Fs20, Ft20, Fl20, g20x, l20x, a20x, Vu20, Vv20, hg20, hl20, hi20, hs20, hP20⟩ := Q20
  have N20 := Fr.app N19 N20q
  have Vtv_20 := Vtv_18.keep Kc20 (ninS ne_b1_b17 (ninS ne_b1_u18 (ninS ne_b1_v18 nin0)))
  have V_b16_20 := V_b16_18.keep Kc20 (ninS ne_b16_b17 (ninS ne_b16_u18 (ninS ne_b16_v18 nin0)))
  have Ec18_20 := Ec18.keep Kc20
  have KK20 : Keep h0 T20.heap [] := (KK18 : Keep h0 T18.heap []).trans Kc20 (allS (Or.inr sz_b17) (allS (Or.inr sz_u18) (allS (Or.inr sz_v18) all0)))
  show Go _ _ _ _ _ _ _ T20 (mkF m 159 #[.val (.int p0), .val (.int p1), .val (.ref b1), .val (.int (minW ((tV p0) 0) ((tV p0) 1))), .val (.int (maxW ((tV p0) 0) ((tV p0) 1))), .val (.int (minW ((tV p0) 2) ((tV p0) 3))), .val (.int (maxW ((tV p0) 2) ((tV p0) 3))), .val (.int (minW (minW ((tV p0) 0) ((tV p0) 1)) (minW ((tV p0) 2) ((tV p0) 3)))), .val (.int (maxW (minW ((tV p0) 0) ((tV p0) 1)) (minW ((tV p0) 2) ((tV p0) 3)))), .val (.int (maxW (maxW ((tV p0) 0) ((tV p0) 1)) (maxW ((tV p0) 2) ((tV p0) 3)))), .val (.int (minW (maxW ((tV p0) 0) ((tV p0) 1)) (maxW ((tV p0) 2) ((tV p0) 3)))), .val (.int (minW (maxW (minW ((tV p0) 0) ((tV p0) 1)) (minW ((tV p0) 2) ((tV p0) 3))) (minW (maxW ((tV p0) 0) ((tV p0) 1)) (maxW ((tV p0) 2) ((tV p0) 3))))), .val (.int (maxW (maxW (minW ((tV p0) 0) ((tV p0) 1)) (minW ((tV p0) 2) ((tV p0) 3))) (minW (maxW ((tV p0) 0) ((tV p0) 1)) (maxW ((tV p0) 2) ((tV p0) 3))))), .val (.ref b16), .val (.ref b17), .val (.int (1 : Int32)), .unset, .unset, .unset, .unset, .unset, .unset, .unset, .unset, .unset] [])
  refine Go.step (fun _ k => XS.aload X20.here hx rfl (hb hby at_159) rfl rfl k) ?_
  show Go _ _ _ _ _ _ _ T20 (mkF m 161 #[.val (.int p0), .val (.int p1), .val (.ref b1), .val (.int (minW ((tV p0) 0) ((tV p0) 1))), .val (.int (maxW ((tV p0) 0) ((tV p0) 1))), .val (.int (minW ((tV p0) 2) ((tV p0) 3))), .val (.int (maxW ((tV p0) 2) ((tV p0) 3))), .val (.int (minW (minW ((tV p0) 0) ((tV p0) 1)) (minW ((tV p0) 2) ((tV p0) 3)))), .val (.int (maxW (minW ((tV p0) 0) ((tV p0) 1)) (minW ((tV p0) 2) ((tV p0) 3)))), .val (.int (maxW (maxW ((tV p0) 0) ((tV p0) 1)) (maxW ((tV p0) 2) ((tV p0) 3)))), .val (.int (minW (maxW ((tV p0) 0) ((tV p0) 1)) (maxW ((tV p0) 2) ((tV p0) 3)))), .val (.int (minW (maxW (minW ((tV p0) 0) ((tV p0) 1)) (minW ((tV p0) 2) ((tV p0) 3))) (minW (maxW ((tV p0) 0) ((tV p0) 1)) (maxW ((tV p0) 2) ((tV p0) 3))))), .val (.int (maxW (maxW (minW ((tV p0) 0) ((tV p0) 1)) (minW ((tV p0) 2) ((tV p0) 3))) (minW (maxW ((tV p0) 0) ((tV p0) 1)) (maxW ((tV p0) 2) ((tV p0) 3))))), .val (.ref b16), .val (.ref b17), .val (.int (1 : Int32)), .unset, .unset, .unset, .unset, .unset, .unset, .unset, .unset, .unset] [(.ref b17)])
  refine Go.step (fun _ k => XS.aloadN X20.here hx rfl (hb hby at_161) rfl rfl k) ?_
  show Go _ _ _ _ _ _ _ T20 (mkF m 162 #[.val (.int p0), .val (.int p1), .val (.ref b1), .val (.int (minW ((tV p0) 0) ((tV p0) 1))), .val (.int (maxW ((tV p0) 0) ((tV p0) 1))), .val (.int (minW ((tV p0) 2) ((tV p0) 3))), .val (.int (maxW ((tV p0) 2) ((tV p0) 3))), .val (.int (minW (minW ((tV p0) 0) ((tV p0) 1)) (minW ((tV p0) 2) ((tV p0) 3)))), .val (.int (maxW (minW ((tV p0) 0) ((tV p0) 1)) (minW ((tV p0) 2) ((tV p0) 3)))), .val (.int (maxW (maxW ((tV p0) 0) ((tV p0) 1)) (maxW ((tV p0) 2) ((tV p0) 3)))), .val (.int (minW (maxW ((tV p0) 0) ((tV p0) 1)) (maxW ((tV p0) 2) ((tV p0) 3)))), .val (.int (minW (maxW (minW ((tV p0) 0) ((tV p0) 1)) (minW ((tV p0) 2) ((tV p0) 3))) (minW (maxW ((tV p0) 0) ((tV p0) 1)) (maxW ((tV p0) 2) ((tV p0) 3))))), .val (.int (maxW (maxW (minW ((tV p0) 0) ((tV p0) 1)) (minW ((tV p0) 2) ((tV p0) 3))) (minW (maxW ((tV p0) 0) ((tV p0) 1)) (maxW ((tV p0) 2) ((tV p0) 3))))), .val (.ref b16), .val (.ref b17), .val (.int (1 : Int32)), .unset, .unset, .unset, .unset, .unset, .unset, .unset, .unset, .unset] [(.ref b1), (.ref b17)])
  refine Go.step (fun _ k => XS.iconst X20.here hx rfl (hb hby at_162) k) ?_
  show Go _ _ _ _ _ _ _ T20 (mkF m 163 #[.val (.int p0), .val (.int p1), .val (.ref b1), .val (.int (minW ((tV p0) 0) ((tV p0) 1))), .val (.int (maxW ((tV p0) 0) ((tV p0) 1))), .val (.int (minW ((tV p0) 2) ((tV p0) 3))), .val (.int (maxW ((tV p0) 2) ((tV p0) 3))), .val (.int (minW (minW ((tV p0) 0) ((tV p0) 1)) (minW ((tV p0) 2) ((tV p0) 3)))), .val (.int (maxW (minW ((tV p0) 0) ((tV p0) 1)) (minW ((tV p0) 2) ((tV p0) 3)))), .val (.int (maxW (maxW ((tV p0) 0) ((tV p0) 1)) (maxW ((tV p0) 2) ((tV p0) 3)))), .val (.int (minW (maxW ((tV p0) 0) ((tV p0) 1)) (maxW ((tV p0) 2) ((tV p0) 3)))), .val (.int (minW (maxW (minW ((tV p0) 0) ((tV p0) 1)) (minW ((tV p0) 2) ((tV p0) 3))) (minW (maxW ((tV p0) 0) ((tV p0) 1)) (maxW ((tV p0) 2) ((tV p0) 3))))), .val (.int (maxW (maxW (minW ((tV p0) 0) ((tV p0) 1)) (minW ((tV p0) 2) ((tV p0) 3))) (minW (maxW ((tV p0) 0) ((tV p0) 1)) (maxW ((tV p0) 2) ((tV p0) 3))))), .val (.ref b16), .val (.ref b17), .val (.int (1 : Int32)), .unset, .unset, .unset, .unset, .unset, .unset, .unset, .unset, .unset] [(.int (1 : Int32)), (.ref b1), (.ref b17)])
  refine Go.iaload X20 hx hZ rfl Vtv_20 (j := (1 : Int32)) (v := ((tV p0) 1)) (by decide) rfl (hb hby at_163) ?_
  show Go _ _ _ _ _ _ _ T20 (mkF m 164 #[.val (.int p0), .val (.int p1), .val (.ref b1), .val (.int (minW ((tV p0) 0) ((tV p0) 1))), .val (.int (maxW ((tV p0) 0) ((tV p0) 1))), .val (.int (minW ((tV p0) 2) ((tV p0) 3))), .val (.int (maxW ((tV p0) 2) ((tV p0) 3))), .val (.int (minW (minW ((tV p0) 0) ((tV p0) 1)) (minW ((tV p0) 2) ((tV p0) 3)))), .val (.int (maxW (minW ((tV p0) 0) ((tV p0) 1)) (minW ((tV p0) 2) ((tV p0) 3)))), .val (.int (maxW (maxW ((tV p0) 0) ((tV p0) 1)) (maxW ((tV p0) 2) ((tV p0) 3)))), .val (.int (minW (maxW ((tV p0) 0) ((tV p0) 1)) (maxW ((tV p0) 2) ((tV p0) 3)))), .val (.int (minW (maxW (minW ((tV p0) 0) ((tV p0) 1)) (minW ((tV p0) 2) ((tV p0) 3))) (minW (maxW ((tV p0) 0) ((tV p0) 1)) (maxW ((tV p0) 2) ((tV p0) 3))))), .val (.int (maxW (maxW (minW ((tV p0) 0) ((tV p0) 1)) (minW ((tV p0) 2) ((tV p0) 3))) (minW (maxW ((tV p0) 0) ((tV p0) 1)) (maxW ((tV p0) 2) ((tV p0) 3))))), .val (.ref b16), .val (.ref b17), .val (.int (1 : Int32)), .unset, .unset, .unset, .unset, .unset, .unset, .unset, .unset, .unset] [(.int ((tV p0) 1)), (.ref b17)])
  refine Go.step (fun _ k => XS.i2dS X20.here hx rfl (hb hby at_164) rfl rfl k) ?_
  show Go _ _ _ _ _ _ _ T20 (mkF m 165 #[.val (.int p0), .val (.int p1), .val (.ref b1), .val (.int (minW ((tV p0) 0) ((tV p0) 1))), .val (.int (maxW ((tV p0) 0) ((tV p0) 1))), .val (.int (minW ((tV p0) 2) ((tV p0) 3))), .val (.int (maxW ((tV p0) 2) ((tV p0) 3))), .val (.int (minW (minW ((tV p0) 0) ((tV p0) 1)) (minW ((tV p0) 2) ((tV p0) 3)))), .val (.int (maxW (minW ((tV p0) 0) ((tV p0) 1)) (minW ((tV p0) 2) ((tV p0) 3)))), .val (.int (maxW (maxW ((tV p0) 0) ((tV p0) 1)) (maxW ((tV p0) 2) ((tV p0) 3)))), .val (.int (minW (maxW ((tV p0) 0) ((tV p0) 1)) (maxW ((tV p0) 2) ((tV p0) 3)))), .val (.int (minW (maxW (minW ((tV p0) 0) ((tV p0) 1)) (minW ((tV p0) 2) ((tV p0) 3))) (minW (maxW ((tV p0) 0) ((tV p0) 1)) (maxW ((tV p0) 2) ((tV p0) 3))))), .val (.int (maxW (maxW (minW ((tV p0) 0) ((tV p0) 1)) (minW ((tV p0) 2) ((tV p0) 3))) (minW (maxW ((tV p0) 0) ((tV p0) 1)) (maxW ((tV p0) 2) ((tV p0) 3))))), .val (.ref b16), .val (.ref b17), .val (.int (1 : Int32)), .unset, .unset, .unset, .unset, .unset, .unset, .unset, .unset, .unset] [(.double (FP.i2d ((tV p0) 1))), (.ref b17)])
  refine Go.step (fun _ k => XS.iloadN X20.here hx rfl (hb hby at_165) rfl k) ?_
  show Go _ _ _ _ _ _ _ T20 (mkF m 166 #[.val (.int p0), .val (.int p1), .val (.ref b1), .val (.int (minW ((tV p0) 0) ((tV p0) 1))), .val (.int (maxW ((tV p0) 0) ((tV p0) 1))), .val (.int (minW ((tV p0) 2) ((tV p0) 3))), .val (.int (maxW ((tV p0) 2) ((tV p0) 3))), .val (.int (minW (minW ((tV p0) 0) ((tV p0) 1)) (minW ((tV p0) 2) ((tV p0) 3)))), .val (.int (maxW (minW ((tV p0) 0) ((tV p0) 1)) (minW ((tV p0) 2) ((tV p0) 3)))), .val (.int (maxW (maxW ((tV p0) 0) ((tV p0) 1)) (maxW ((tV p0) 2) ((tV p0) 3)))), .val (.int (minW (maxW ((tV p0) 0) ((tV p0) 1)) (maxW ((tV p0) 2) ((tV p0) 3)))), .val (.int (minW (maxW (minW ((tV p0) 0) ((tV p0) 1)) (minW ((tV p0) 2) ((tV p0) 3))) (minW (maxW ((tV p0) 0) ((tV p0) 1)) (maxW ((tV p0) 2) ((tV p0) 3))))), .val (.int (maxW (maxW (minW ((tV p0) 0) ((tV p0) 1)) (minW ((tV p0) 2) ((tV p0) 3))) (minW (maxW ((tV p0) 0) ((tV p0) 1)) (maxW ((tV p0) 2) ((tV p0) 3))))), .val (.ref b16), .val (.ref b17), .val (.int (1 : Int32)), .unset, .unset, .unset, .unset, .unset, .unset, .unset, .unset, .unset] [(.int p1), (.double (FP.i2d ((tV p0) 1))), (.ref b17)])
  refine Go.step (fun _ k => XS.iconst X20.here hx rfl (hb hby at_166) k) ?_
  show Go _ _ _ _ _ _ _ T20 (mkF m 167 #[.val (.int p0), .val (.int p1), .val (.ref b1), .val (.int (minW ((tV p0) 0) ((tV p0) 1))), .val (.int (maxW ((tV p0) 0) ((tV p0) 1))), .val (.int (minW ((tV p0) 2) ((tV p0) 3))), .val (.int (maxW ((tV p0) 2) ((tV p0) 3))), .val (.int (minW (minW ((tV p0) 0) ((tV p0) 1)) (minW ((tV p0) 2) ((tV p0) 3)))), .val (.int (maxW (minW ((tV p0) 0) ((tV p0) 1)) (minW ((tV p0) 2) ((tV p0) 3)))), .val (.int (maxW (maxW ((tV p0) 0) ((tV p0) 1)) (maxW ((tV p0) 2) ((tV p0) 3)))), .val (.int (minW (maxW ((tV p0) 0) ((tV p0) 1)) (maxW ((tV p0) 2) ((tV p0) 3)))), .val (.int (minW (maxW (minW ((tV p0) 0) ((tV p0) 1)) (minW ((tV p0) 2) ((tV p0) 3))) (minW (maxW ((tV p0) 0) ((tV p0) 1)) (maxW ((tV p0) 2) ((tV p0) 3))))), .val (.int (maxW (maxW (minW ((tV p0) 0) ((tV p0) 1)) (minW ((tV p0) 2) ((tV p0) 3))) (minW (maxW ((tV p0) 0) ((tV p0) 1)) (maxW ((tV p0) 2) ((tV p0) 3))))), .val (.ref b16), .val (.ref b17), .val (.int (1 : Int32)), .unset, .unset, .unset, .unset, .unset, .unset, .unset, .unset, .unset] [(.int (1 : Int32)), (.int p1), (.double (FP.i2d ((tV p0) 1))), (.ref b17)])
  refine Go.step (fun _ k => XS.iadd X20.here hx rfl (hb hby at_167) rfl k) ?_
  show Go _ _ _ _ _ _ _ T20 (mkF m 168 #[.val (.int p0), .val (.int p1), .val (.ref b1), .val (.int (minW ((tV p0) 0) ((tV p0) 1))), .val (.int (maxW ((tV p0) 0) ((tV p0) 1))), .val (.int (minW ((tV p0) 2) ((tV p0) 3))), .val (.int (maxW ((tV p0) 2) ((tV p0) 3))), .val (.int (minW (minW ((tV p0) 0) ((tV p0) 1)) (minW ((tV p0) 2) ((tV p0) 3)))), .val (.int (maxW (minW ((tV p0) 0) ((tV p0) 1)) (minW ((tV p0) 2) ((tV p0) 3)))), .val (.int (maxW (maxW ((tV p0) 0) ((tV p0) 1)) (maxW ((tV p0) 2) ((tV p0) 3)))), .val (.int (minW (maxW ((tV p0) 0) ((tV p0) 1)) (maxW ((tV p0) 2) ((tV p0) 3)))), .val (.int (minW (maxW (minW ((tV p0) 0) ((tV p0) 1)) (minW ((tV p0) 2) ((tV p0) 3))) (minW (maxW ((tV p0) 0) ((tV p0) 1)) (maxW ((tV p0) 2) ((tV p0) 3))))), .val (.int (maxW (maxW (minW ((tV p0) 0) ((tV p0) 1)) (minW ((tV p0) 2) ((tV p0) 3))) (minW (maxW ((tV p0) 0) ((tV p0) 1)) (maxW ((tV p0) 2) ((tV p0) 3))))), .val (.ref b16), .val (.ref b17), .val (.int (1 : Int32)), .unset, .unset, .unset, .unset, .unset, .unset, .unset, .unset, .unset] [(.int (p1 + (1 : Int32))), (.double (FP.i2d ((tV p0) 1))), (.ref b17)])
  refine Go.callV X20 hx hZ (by rw [hml]; rfl) (y := (⟨"com/example/wavegrade/wavegrade/DepartureQueue", "add", "(DI)V"⟩ : MethodName)) (z := (⟨"com/example/wavegrade/wavegrade/DepartureQueue", "add", "(DI)V"⟩ : MethodName)) (a := b17) (argsL := [(.double (FP.i2d ((tV p0) 1))), (.int (p1 + (1 : Int32)))]) (rest := []) hown (hw _ (List.mem_of_getElem? (i := 30) rfl)) (hw _ (List.mem_of_getElem? (i := 31) rfl)) (notFace_of_selects (args := #[]) (mvT hZ (hw _ (List.mem_of_getElem? (i := 33) rfl)))) (hw _ (List.mem_of_getElem? (i := 33) rfl)) (hw _ (List.mem_of_getElem? (i := 32) rfl)) (hw _ (List.mem_of_getElem? (i := 11) rfl)) (hw _ (List.mem_of_getElem? (i := 34) rfl)) (by decide) (rm_add1 l Z a0 hw b17 u18 v18 g20x l20x (tT p0) (tL p1) (tK p0) a20x 1 T20.heap n0 (Nat.le_trans Z0 (KK20 : Keep h0 T20.heap []).1) Ec20 Fs20 Ft20 Fl20 Vu20 Vv20 nqu18 nqv18 nuv18 ge_b17 ge_u18 ge_v18 (tH p0) hg20 hl20 hi20) rfl Ec20 (hb hby at_168) (lenOf pd_3 rfl) rfl rfl (W := 0) (Nat.le_of_eq rfl) (by decide) (by decide) (by decide) (by decide) ?_
  intro v21 T21 L21 X21 Q21
  obtain ⟨rfl, N21q, Kc21, Ec21, Fs21, Ft21, Fl21, g21x, l21x, a21x, Vu21, Vv21, hg21, hl21, hi21, hs21, hP21⟩ := Q21
  have N21 := Fr.app N20 N21q
  have Vtv_21 := Vtv_20.keep Kc21 (ninS ne_b1_b17 (ninS ne_b1_u18 (ninS ne_b1_v18 nin0)))
  have V_b16_21 := V_b16_20.keep Kc21 (ninS ne_b16_b17 (ninS ne_b16_u18 (ninS ne_b16_v18 nin0)))
  have Ec20_21 := Ec20.keep Kc21
  have KK21 : Keep h0 T21.heap [] := (KK20 : Keep h0 T20.heap []).trans Kc21 (allS (Or.inr sz_b17) (allS (Or.inr sz_u18) (allS (Or.inr sz_v18) all0)))
  show Go _ _ _ _ _ _ _ T21 (mkF m 171 #[.val (.int p0), .val (.int p1), .val (.ref b1), .val (.int (minW ((tV p0) 0) ((tV p0) 1))), .val (.int (maxW ((tV p0) 0) ((tV p0) 1))), .val (.int (minW ((tV p0) 2) ((tV p0) 3))), .val (.int (maxW ((tV p0) 2) ((tV p0) 3))), .val (.int (minW (minW ((tV p0) 0) ((tV p0) 1)) (minW ((tV p0) 2) ((tV p0) 3)))), .val (.int (maxW (minW ((tV p0) 0) ((tV p0) 1)) (minW ((tV p0) 2) ((tV p0) 3)))), .val (.int (maxW (maxW ((tV p0) 0) ((tV p0) 1)) (maxW ((tV p0) 2) ((tV p0) 3)))), .val (.int (minW (maxW ((tV p0) 0) ((tV p0) 1)) (maxW ((tV p0) 2) ((tV p0) 3)))), .val (.int (minW (maxW (minW ((tV p0) 0) ((tV p0) 1)) (minW ((tV p0) 2) ((tV p0) 3))) (minW (maxW ((tV p0) 0) ((tV p0) 1)) (maxW ((tV p0) 2) ((tV p0) 3))))), .val (.int (maxW (maxW (minW ((tV p0) 0) ((tV p0) 1)) (minW ((tV p0) 2) ((tV p0) 3))) (minW (maxW ((tV p0) 0) ((tV p0) 1)) (maxW ((tV p0) 2) ((tV p0) 3))))), .val (.ref b16), .val (.ref b17), .val (.int (1 : Int32)), .unset, .unset, .unset, .unset, .unset, .unset, .unset, .unset, .unset] [])
  refine Go.step (fun _ k => XS.aload X21.here hx rfl (hb hby at_171) rfl rfl k) ?_
  show Go _ _ _ _ _ _ _ T21 (mkF m 173 #[.val (.int p0), .val (.int p1), .val (.ref b1), .val (.int (minW ((tV p0) 0) ((tV p0) 1))), .val (.int (maxW ((tV p0) 0) ((tV p0) 1))), .val (.int (minW ((tV p0) 2) ((tV p0) 3))), .val (.int (maxW ((tV p0) 2) ((tV p0) 3))), .val (.int (minW (minW ((tV p0) 0) ((tV p0) 1)) (minW ((tV p0) 2) ((tV p0) 3)))), .val (.int (maxW (minW ((tV p0) 0) ((tV p0) 1)) (minW ((tV p0) 2) ((tV p0) 3)))), .val (.int (maxW (maxW ((tV p0) 0) ((tV p0) 1)) (maxW ((tV p0) 2) ((tV p0) 3)))), .val (.int (minW (maxW ((tV p0) 0) ((tV p0) 1)) (maxW ((tV p0) 2) ((tV p0) 3)))), .val (.int (minW (maxW (minW ((tV p0) 0) ((tV p0) 1)) (minW ((tV p0) 2) ((tV p0) 3))) (minW (maxW ((tV p0) 0) ((tV p0) 1)) (maxW ((tV p0) 2) ((tV p0) 3))))), .val (.int (maxW (maxW (minW ((tV p0) 0) ((tV p0) 1)) (minW ((tV p0) 2) ((tV p0) 3))) (minW (maxW ((tV p0) 0) ((tV p0) 1)) (maxW ((tV p0) 2) ((tV p0) 3))))), .val (.ref b16), .val (.ref b17), .val (.int (1 : Int32)), .unset, .unset, .unset, .unset, .unset, .unset, .unset, .unset, .unset] [(.ref b17)])
  refine Go.step (fun _ k => XS.aloadN X21.here hx rfl (hb hby at_173) rfl rfl k) ?_
  show Go _ _ _ _ _ _ _ T21 (mkF m 174 #[.val (.int p0), .val (.int p1), .val (.ref b1), .val (.int (minW ((tV p0) 0) ((tV p0) 1))), .val (.int (maxW ((tV p0) 0) ((tV p0) 1))), .val (.int (minW ((tV p0) 2) ((tV p0) 3))), .val (.int (maxW ((tV p0) 2) ((tV p0) 3))), .val (.int (minW (minW ((tV p0) 0) ((tV p0) 1)) (minW ((tV p0) 2) ((tV p0) 3)))), .val (.int (maxW (minW ((tV p0) 0) ((tV p0) 1)) (minW ((tV p0) 2) ((tV p0) 3)))), .val (.int (maxW (maxW ((tV p0) 0) ((tV p0) 1)) (maxW ((tV p0) 2) ((tV p0) 3)))), .val (.int (minW (maxW ((tV p0) 0) ((tV p0) 1)) (maxW ((tV p0) 2) ((tV p0) 3)))), .val (.int (minW (maxW (minW ((tV p0) 0) ((tV p0) 1)) (minW ((tV p0) 2) ((tV p0) 3))) (minW (maxW ((tV p0) 0) ((tV p0) 1)) (maxW ((tV p0) 2) ((tV p0) 3))))), .val (.int (maxW (maxW (minW ((tV p0) 0) ((tV p0) 1)) (minW ((tV p0) 2) ((tV p0) 3))) (minW (maxW ((tV p0) 0) ((tV p0) 1)) (maxW ((tV p0) 2) ((tV p0) 3))))), .val (.ref b16), .val (.ref b17), .val (.int (1 : Int32)), .unset, .unset, .unset, .unset, .unset, .unset, .unset, .unset, .unset] [(.ref b1), (.ref b17)])
  refine Go.step (fun _ k => XS.iconst X21.here hx rfl (hb hby at_174) k) ?_
  show Go _ _ _ _ _ _ _ T21 (mkF m 175 #[.val (.int p0), .val (.int p1), .val (.ref b1), .val (.int (minW ((tV p0) 0) ((tV p0) 1))), .val (.int (maxW ((tV p0) 0) ((tV p0) 1))), .val (.int (minW ((tV p0) 2) ((tV p0) 3))), .val (.int (maxW ((tV p0) 2) ((tV p0) 3))), .val (.int (minW (minW ((tV p0) 0) ((tV p0) 1)) (minW ((tV p0) 2) ((tV p0) 3)))), .val (.int (maxW (minW ((tV p0) 0) ((tV p0) 1)) (minW ((tV p0) 2) ((tV p0) 3)))), .val (.int (maxW (maxW ((tV p0) 0) ((tV p0) 1)) (maxW ((tV p0) 2) ((tV p0) 3)))), .val (.int (minW (maxW ((tV p0) 0) ((tV p0) 1)) (maxW ((tV p0) 2) ((tV p0) 3)))), .val (.int (minW (maxW (minW ((tV p0) 0) ((tV p0) 1)) (minW ((tV p0) 2) ((tV p0) 3))) (minW (maxW ((tV p0) 0) ((tV p0) 1)) (maxW ((tV p0) 2) ((tV p0) 3))))), .val (.int (maxW (maxW (minW ((tV p0) 0) ((tV p0) 1)) (minW ((tV p0) 2) ((tV p0) 3))) (minW (maxW ((tV p0) 0) ((tV p0) 1)) (maxW ((tV p0) 2) ((tV p0) 3))))), .val (.ref b16), .val (.ref b17), .val (.int (1 : Int32)), .unset, .unset, .unset, .unset, .unset, .unset, .unset, .unset, .unset] [(.int (2 : Int32)), (.ref b1), (.ref b17)])
  refine Go.iaload X21 hx hZ rfl Vtv_21 (j := (2 : Int32)) (v := ((tV p0) 2)) (by decide) rfl (hb hby at_175) ?_
  show Go _ _ _ _ _ _ _ T21 (mkF m 176 #[.val (.int p0), .val (.int p1), .val (.ref b1), .val (.int (minW ((tV p0) 0) ((tV p0) 1))), .val (.int (maxW ((tV p0) 0) ((tV p0) 1))), .val (.int (minW ((tV p0) 2) ((tV p0) 3))), .val (.int (maxW ((tV p0) 2) ((tV p0) 3))), .val (.int (minW (minW ((tV p0) 0) ((tV p0) 1)) (minW ((tV p0) 2) ((tV p0) 3)))), .val (.int (maxW (minW ((tV p0) 0) ((tV p0) 1)) (minW ((tV p0) 2) ((tV p0) 3)))), .val (.int (maxW (maxW ((tV p0) 0) ((tV p0) 1)) (maxW ((tV p0) 2) ((tV p0) 3)))), .val (.int (minW (maxW ((tV p0) 0) ((tV p0) 1)) (maxW ((tV p0) 2) ((tV p0) 3)))), .val (.int (minW (maxW (minW ((tV p0) 0) ((tV p0) 1)) (minW ((tV p0) 2) ((tV p0) 3))) (minW (maxW ((tV p0) 0) ((tV p0) 1)) (maxW ((tV p0) 2) ((tV p0) 3))))), .val (.int (maxW (maxW (minW ((tV p0) 0) ((tV p0) 1)) (minW ((tV p0) 2) ((tV p0) 3))) (minW (maxW ((tV p0) 0) ((tV p0) 1)) (maxW ((tV p0) 2) ((tV p0) 3))))), .val (.ref b16), .val (.ref b17), .val (.int (1 : Int32)), .unset, .unset, .unset, .unset, .unset, .unset, .unset, .unset, .unset] [(.int ((tV p0) 2)), (.ref b17)])
  refine Go.step (fun _ k => XS.i2dS X21.here hx rfl (hb hby at_176) rfl rfl k) ?_
  show Go _ _ _ _ _ _ _ T21 (mkF m 177 #[.val (.int p0), .val (.int p1), .val (.ref b1), .val (.int (minW ((tV p0) 0) ((tV p0) 1))), .val (.int (maxW ((tV p0) 0) ((tV p0) 1))), .val (.int (minW ((tV p0) 2) ((tV p0) 3))), .val (.int (maxW ((tV p0) 2) ((tV p0) 3))), .val (.int (minW (minW ((tV p0) 0) ((tV p0) 1)) (minW ((tV p0) 2) ((tV p0) 3)))), .val (.int (maxW (minW ((tV p0) 0) ((tV p0) 1)) (minW ((tV p0) 2) ((tV p0) 3)))), .val (.int (maxW (maxW ((tV p0) 0) ((tV p0) 1)) (maxW ((tV p0) 2) ((tV p0) 3)))), .val (.int (minW (maxW ((tV p0) 0) ((tV p0) 1)) (maxW ((tV p0) 2) ((tV p0) 3)))), .val (.int (minW (maxW (minW ((tV p0) 0) ((tV p0) 1)) (minW ((tV p0) 2) ((tV p0) 3))) (minW (maxW ((tV p0) 0) ((tV p0) 1)) (maxW ((tV p0) 2) ((tV p0) 3))))), .val (.int (maxW (maxW (minW ((tV p0) 0) ((tV p0) 1)) (minW ((tV p0) 2) ((tV p0) 3))) (minW (maxW ((tV p0) 0) ((tV p0) 1)) (maxW ((tV p0) 2) ((tV p0) 3))))), .val (.ref b16), .val (.ref b17), .val (.int (1 : Int32)), .unset, .unset, .unset, .unset, .unset, .unset, .unset, .unset, .unset] [(.double (FP.i2d ((tV p0) 2))), (.ref b17)])
  refine Go.step (fun _ k => XS.iloadN X21.here hx rfl (hb hby at_177) rfl k) ?_
  show Go _ _ _ _ _ _ _ T21 (mkF m 178 #[.val (.int p0), .val (.int p1), .val (.ref b1), .val (.int (minW ((tV p0) 0) ((tV p0) 1))), .val (.int (maxW ((tV p0) 0) ((tV p0) 1))), .val (.int (minW ((tV p0) 2) ((tV p0) 3))), .val (.int (maxW ((tV p0) 2) ((tV p0) 3))), .val (.int (minW (minW ((tV p0) 0) ((tV p0) 1)) (minW ((tV p0) 2) ((tV p0) 3)))), .val (.int (maxW (minW ((tV p0) 0) ((tV p0) 1)) (minW ((tV p0) 2) ((tV p0) 3)))), .val (.int (maxW (maxW ((tV p0) 0) ((tV p0) 1)) (maxW ((tV p0) 2) ((tV p0) 3)))), .val (.int (minW (maxW ((tV p0) 0) ((tV p0) 1)) (maxW ((tV p0) 2) ((tV p0) 3)))), .val (.int (minW (maxW (minW ((tV p0) 0) ((tV p0) 1)) (minW ((tV p0) 2) ((tV p0) 3))) (minW (maxW ((tV p0) 0) ((tV p0) 1)) (maxW ((tV p0) 2) ((tV p0) 3))))), .val (.int (maxW (maxW (minW ((tV p0) 0) ((tV p0) 1)) (minW ((tV p0) 2) ((tV p0) 3))) (minW (maxW ((tV p0) 0) ((tV p0) 1)) (maxW ((tV p0) 2) ((tV p0) 3))))), .val (.ref b16), .val (.ref b17), .val (.int (1 : Int32)), .unset, .unset, .unset, .unset, .unset, .unset, .unset, .unset, .unset] [(.int p1), (.double (FP.i2d ((tV p0) 2))), (.ref b17)])
  refine Go.step (fun _ k => XS.iconst X21.here hx rfl (hb hby at_178) k) ?_
  show Go _ _ _ _ _ _ _ T21 (mkF m 179 #[.val (.int p0), .val (.int p1), .val (.ref b1), .val (.int (minW ((tV p0) 0) ((tV p0) 1))), .val (.int (maxW ((tV p0) 0) ((tV p0) 1))), .val (.int (minW ((tV p0) 2) ((tV p0) 3))), .val (.int (maxW ((tV p0) 2) ((tV p0) 3))), .val (.int (minW (minW ((tV p0) 0) ((tV p0) 1)) (minW ((tV p0) 2) ((tV p0) 3)))), .val (.int (maxW (minW ((tV p0) 0) ((tV p0) 1)) (minW ((tV p0) 2) ((tV p0) 3)))), .val (.int (maxW (maxW ((tV p0) 0) ((tV p0) 1)) (maxW ((tV p0) 2) ((tV p0) 3)))), .val (.int (minW (maxW ((tV p0) 0) ((tV p0) 1)) (maxW ((tV p0) 2) ((tV p0) 3)))), .val (.int (minW (maxW (minW ((tV p0) 0) ((tV p0) 1)) (minW ((tV p0) 2) ((tV p0) 3))) (minW (maxW ((tV p0) 0) ((tV p0) 1)) (maxW ((tV p0) 2) ((tV p0) 3))))), .val (.int (maxW (maxW (minW ((tV p0) 0) ((tV p0) 1)) (minW ((tV p0) 2) ((tV p0) 3))) (minW (maxW ((tV p0) 0) ((tV p0) 1)) (maxW ((tV p0) 2) ((tV p0) 3))))), .val (.ref b16), .val (.ref b17), .val (.int (1 : Int32)), .unset, .unset, .unset, .unset, .unset, .unset, .unset, .unset, .unset] [(.int (2 : Int32)), (.int p1), (.double (FP.i2d ((tV p0) 2))), (.ref b17)])
  refine Go.step (fun _ k => XS.iadd X21.here hx rfl (hb hby at_179) rfl k) ?_
  show Go _ _ _ _ _ _ _ T21 (mkF m 180 #[.val (.int p0), .val (.int p1), .val (.ref b1), .val (.int (minW ((tV p0) 0) ((tV p0) 1))), .val (.int (maxW ((tV p0) 0) ((tV p0) 1))), .val (.int (minW ((tV p0) 2) ((tV p0) 3))), .val (.int (maxW ((tV p0) 2) ((tV p0) 3))), .val (.int (minW (minW ((tV p0) 0) ((tV p0) 1)) (minW ((tV p0) 2) ((tV p0) 3)))), .val (.int (maxW (minW ((tV p0) 0) ((tV p0) 1)) (minW ((tV p0) 2) ((tV p0) 3)))), .val (.int (maxW (maxW ((tV p0) 0) ((tV p0) 1)) (maxW ((tV p0) 2) ((tV p0) 3)))), .val (.int (minW (maxW ((tV p0) 0) ((tV p0) 1)) (maxW ((tV p0) 2) ((tV p0) 3)))), .val (.int (minW (maxW (minW ((tV p0) 0) ((tV p0) 1)) (minW ((tV p0) 2) ((tV p0) 3))) (minW (maxW ((tV p0) 0) ((tV p0) 1)) (maxW ((tV p0) 2) ((tV p0) 3))))), .val (.int (maxW (maxW (minW ((tV p0) 0) ((tV p0) 1)) (minW ((tV p0) 2) ((tV p0) 3))) (minW (maxW ((tV p0) 0) ((tV p0) 1)) (maxW ((tV p0) 2) ((tV p0) 3))))), .val (.ref b16), .val (.ref b17), .val (.int (1 : Int32)), .unset, .unset, .unset, .unset, .unset, .unset, .unset, .unset, .unset] [(.int (p1 + (2 : Int32))), (.double (FP.i2d ((tV p0) 2))), (.ref b17)])
  refine Go.callV X21 hx hZ (by rw [hml]; rfl) (y := (⟨"com/example/wavegrade/wavegrade/DepartureQueue", "add", "(DI)V"⟩ : MethodName)) (z := (⟨"com/example/wavegrade/wavegrade/DepartureQueue", "add", "(DI)V"⟩ : MethodName)) (a := b17) (argsL := [(.double (FP.i2d ((tV p0) 2))), (.int (p1 + (2 : Int32)))]) (rest := []) hown (hw _ (List.mem_of_getElem? (i := 30) rfl)) (hw _ (List.mem_of_getElem? (i := 31) rfl)) (notFace_of_selects (args := #[]) (mvT hZ (hw _ (List.mem_of_getElem? (i := 33) rfl)))) (hw _ (List.mem_of_getElem? (i := 33) rfl)) (hw _ (List.mem_of_getElem? (i := 32) rfl)) (hw _ (List.mem_of_getElem? (i := 11) rfl)) (hw _ (List.mem_of_getElem? (i := 34) rfl)) (by decide) (rm_add2 l Z a0 hw b17 u18 v18 g21x l21x (tT p0) (tL p1) (tK p0) a21x 2 T21.heap n0 (Nat.le_trans Z0 (KK21 : Keep h0 T21.heap []).1) Ec21 Fs21 Ft21 Fl21 Vu21 Vv21 nqu18 nqv18 nuv18 ge_b17 ge_u18 ge_v18 (tH p0) hg21 hl21 hi21) rfl Ec21 (hb hby at_180) (lenOf pd_3 rfl) rfl rfl (W := 0) (Nat.le_of_eq rfl) (by decide) (by decide) (by decide) (by decide) ?_
  intro v22 T22 L22 X22 Q22
  obtain ⟨rfl, N22q, Kc22, Ec22, Fs22, Ft22, Fl22, g22x, l22x, a22x, Vu22, Vv22, hg22, hl22, hi22, hs22, hP22⟩ := Q22
  have N22 := Fr.app N21 N22q
  have Vtv_22 := Vtv_21.keep Kc22 (ninS ne_b1_b17 (ninS ne_b1_u18 (ninS ne_b1_v18 nin0)))
  have V_b16_22 := V_b16_21.keep Kc22 (ninS ne_b16_b17 (ninS ne_b16_u18 (ninS ne_b16_v18 nin0)))
  have Ec21_22 := Ec21.keep Kc22
  have KK22 : Keep h0 T22.heap [] := (KK21 : Keep h0 T21.heap []).trans Kc22 (allS (Or.inr sz_b17) (allS (Or.inr sz_u18) (allS (Or.inr sz_v18) all0)))
  show Go _ _ _ _ _ _ _ T22 (mkF m 183 #[.val (.int p0), .val (.int p1), .val (.ref b1), .val (.int (minW ((tV p0) 0) ((tV p0) 1))), .val (.int (maxW ((tV p0) 0) ((tV p0) 1))), .val (.int (minW ((tV p0) 2) ((tV p0) 3))), .val (.int (maxW ((tV p0) 2) ((tV p0) 3))), .val (.int (minW (minW ((tV p0) 0) ((tV p0) 1)) (minW ((tV p0) 2) ((tV p0) 3)))), .val (.int (maxW (minW ((tV p0) 0) ((tV p0) 1)) (minW ((tV p0) 2) ((tV p0) 3)))), .val (.int (maxW (maxW ((tV p0) 0) ((tV p0) 1)) (maxW ((tV p0) 2) ((tV p0) 3)))), .val (.int (minW (maxW ((tV p0) 0) ((tV p0) 1)) (maxW ((tV p0) 2) ((tV p0) 3)))), .val (.int (minW (maxW (minW ((tV p0) 0) ((tV p0) 1)) (minW ((tV p0) 2) ((tV p0) 3))) (minW (maxW ((tV p0) 0) ((tV p0) 1)) (maxW ((tV p0) 2) ((tV p0) 3))))), .val (.int (maxW (maxW (minW ((tV p0) 0) ((tV p0) 1)) (minW ((tV p0) 2) ((tV p0) 3))) (minW (maxW ((tV p0) 0) ((tV p0) 1)) (maxW ((tV p0) 2) ((tV p0) 3))))), .val (.ref b16), .val (.ref b17), .val (.int (1 : Int32)), .unset, .unset, .unset, .unset, .unset, .unset, .unset, .unset, .unset] [])
  refine Go.step (fun _ k => XS.aload X22.here hx rfl (hb hby at_183) rfl rfl k) ?_
  show Go _ _ _ _ _ _ _ T22 (mkF m 185 #[.val (.int p0), .val (.int p1), .val (.ref b1), .val (.int (minW ((tV p0) 0) ((tV p0) 1))), .val (.int (maxW ((tV p0) 0) ((tV p0) 1))), .val (.int (minW ((tV p0) 2) ((tV p0) 3))), .val (.int (maxW ((tV p0) 2) ((tV p0) 3))), .val (.int (minW (minW ((tV p0) 0) ((tV p0) 1)) (minW ((tV p0) 2) ((tV p0) 3)))), .val (.int (maxW (minW ((tV p0) 0) ((tV p0) 1)) (minW ((tV p0) 2) ((tV p0) 3)))), .val (.int (maxW (maxW ((tV p0) 0) ((tV p0) 1)) (maxW ((tV p0) 2) ((tV p0) 3)))), .val (.int (minW (maxW ((tV p0) 0) ((tV p0) 1)) (maxW ((tV p0) 2) ((tV p0) 3)))), .val (.int (minW (maxW (minW ((tV p0) 0) ((tV p0) 1)) (minW ((tV p0) 2) ((tV p0) 3))) (minW (maxW ((tV p0) 0) ((tV p0) 1)) (maxW ((tV p0) 2) ((tV p0) 3))))), .val (.int (maxW (maxW (minW ((tV p0) 0) ((tV p0) 1)) (minW ((tV p0) 2) ((tV p0) 3))) (minW (maxW ((tV p0) 0) ((tV p0) 1)) (maxW ((tV p0) 2) ((tV p0) 3))))), .val (.ref b16), .val (.ref b17), .val (.int (1 : Int32)), .unset, .unset, .unset, .unset, .unset, .unset, .unset, .unset, .unset] [(.ref b17)])
  refine Go.step (fun _ k => XS.aloadN X22.here hx rfl (hb hby at_185) rfl rfl k) ?_
  show Go _ _ _ _ _ _ _ T22 (mkF m 186 #[.val (.int p0), .val (.int p1), .val (.ref b1), .val (.int (minW ((tV p0) 0) ((tV p0) 1))), .val (.int (maxW ((tV p0) 0) ((tV p0) 1))), .val (.int (minW ((tV p0) 2) ((tV p0) 3))), .val (.int (maxW ((tV p0) 2) ((tV p0) 3))), .val (.int (minW (minW ((tV p0) 0) ((tV p0) 1)) (minW ((tV p0) 2) ((tV p0) 3)))), .val (.int (maxW (minW ((tV p0) 0) ((tV p0) 1)) (minW ((tV p0) 2) ((tV p0) 3)))), .val (.int (maxW (maxW ((tV p0) 0) ((tV p0) 1)) (maxW ((tV p0) 2) ((tV p0) 3)))), .val (.int (minW (maxW ((tV p0) 0) ((tV p0) 1)) (maxW ((tV p0) 2) ((tV p0) 3)))), .val (.int (minW (maxW (minW ((tV p0) 0) ((tV p0) 1)) (minW ((tV p0) 2) ((tV p0) 3))) (minW (maxW ((tV p0) 0) ((tV p0) 1)) (maxW ((tV p0) 2) ((tV p0) 3))))), .val (.int (maxW (maxW (minW ((tV p0) 0) ((tV p0) 1)) (minW ((tV p0) 2) ((tV p0) 3))) (minW (maxW ((tV p0) 0) ((tV p0) 1)) (maxW ((tV p0) 2) ((tV p0) 3))))), .val (.ref b16), .val (.ref b17), .val (.int (1 : Int32)), .unset, .unset, .unset, .unset, .unset, .unset, .unset, .unset, .unset] [(.ref b1), (.ref b17)])
  refine Go.step (fun _ k => XS.iconst X22.here hx rfl (hb hby at_186) k) ?_
  show Go _ _ _ _ _ _ _ T22 (mkF m 187 #[.val (.int p0), .val (.int p1), .val (.ref b1), .val (.int (minW ((tV p0) 0) ((tV p0) 1))), .val (.int (maxW ((tV p0) 0) ((tV p0) 1))), .val (.int (minW ((tV p0) 2) ((tV p0) 3))), .val (.int (maxW ((tV p0) 2) ((tV p0) 3))), .val (.int (minW (minW ((tV p0) 0) ((tV p0) 1)) (minW ((tV p0) 2) ((tV p0) 3)))), .val (.int (maxW (minW ((tV p0) 0) ((tV p0) 1)) (minW ((tV p0) 2) ((tV p0) 3)))), .val (.int (maxW (maxW ((tV p0) 0) ((tV p0) 1)) (maxW ((tV p0) 2) ((tV p0) 3)))), .val (.int (minW (maxW ((tV p0) 0) ((tV p0) 1)) (maxW ((tV p0) 2) ((tV p0) 3)))), .val (.int (minW (maxW (minW ((tV p0) 0) ((tV p0) 1)) (minW ((tV p0) 2) ((tV p0) 3))) (minW (maxW ((tV p0) 0) ((tV p0) 1)) (maxW ((tV p0) 2) ((tV p0) 3))))), .val (.int (maxW (maxW (minW ((tV p0) 0) ((tV p0) 1)) (minW ((tV p0) 2) ((tV p0) 3))) (minW (maxW ((tV p0) 0) ((tV p0) 1)) (maxW ((tV p0) 2) ((tV p0) 3))))), .val (.ref b16), .val (.ref b17), .val (.int (1 : Int32)), .unset, .unset, .unset, .unset, .unset, .unset, .unset, .unset, .unset] [(.int (3 : Int32)), (.ref b1), (.ref b17)])
  refine Go.iaload X22 hx hZ rfl Vtv_22 (j := (3 : Int32)) (v := ((tV p0) 3)) (by decide) rfl (hb hby at_187) ?_
  show Go _ _ _ _ _ _ _ T22 (mkF m 188 #[.val (.int p0), .val (.int p1), .val (.ref b1), .val (.int (minW ((tV p0) 0) ((tV p0) 1))), .val (.int (maxW ((tV p0) 0) ((tV p0) 1))), .val (.int (minW ((tV p0) 2) ((tV p0) 3))), .val (.int (maxW ((tV p0) 2) ((tV p0) 3))), .val (.int (minW (minW ((tV p0) 0) ((tV p0) 1)) (minW ((tV p0) 2) ((tV p0) 3)))), .val (.int (maxW (minW ((tV p0) 0) ((tV p0) 1)) (minW ((tV p0) 2) ((tV p0) 3)))), .val (.int (maxW (maxW ((tV p0) 0) ((tV p0) 1)) (maxW ((tV p0) 2) ((tV p0) 3)))), .val (.int (minW (maxW ((tV p0) 0) ((tV p0) 1)) (maxW ((tV p0) 2) ((tV p0) 3)))), .val (.int (minW (maxW (minW ((tV p0) 0) ((tV p0) 1)) (minW ((tV p0) 2) ((tV p0) 3))) (minW (maxW ((tV p0) 0) ((tV p0) 1)) (maxW ((tV p0) 2) ((tV p0) 3))))), .val (.int (maxW (maxW (minW ((tV p0) 0) ((tV p0) 1)) (minW ((tV p0) 2) ((tV p0) 3))) (minW (maxW ((tV p0) 0) ((tV p0) 1)) (maxW ((tV p0) 2) ((tV p0) 3))))), .val (.ref b16), .val (.ref b17), .val (.int (1 : Int32)), .unset, .unset, .unset, .unset, .unset, .unset, .unset, .unset, .unset] [(.int ((tV p0) 3)), (.ref b17)])
  refine Go.step (fun _ k => XS.i2dS X22.here hx rfl (hb hby at_188) rfl rfl k) ?_
  show Go _ _ _ _ _ _ _ T22 (mkF m 189 #[.val (.int p0), .val (.int p1), .val (.ref b1), .val (.int (minW ((tV p0) 0) ((tV p0) 1))), .val (.int (maxW ((tV p0) 0) ((tV p0) 1))), .val (.int (minW ((tV p0) 2) ((tV p0) 3))), .val (.int (maxW ((tV p0) 2) ((tV p0) 3))), .val (.int (minW (minW ((tV p0) 0) ((tV p0) 1)) (minW ((tV p0) 2) ((tV p0) 3)))), .val (.int (maxW (minW ((tV p0) 0) ((tV p0) 1)) (minW ((tV p0) 2) ((tV p0) 3)))), .val (.int (maxW (maxW ((tV p0) 0) ((tV p0) 1)) (maxW ((tV p0) 2) ((tV p0) 3)))), .val (.int (minW (maxW ((tV p0) 0) ((tV p0) 1)) (maxW ((tV p0) 2) ((tV p0) 3)))), .val (.int (minW (maxW (minW ((tV p0) 0) ((tV p0) 1)) (minW ((tV p0) 2) ((tV p0) 3))) (minW (maxW ((tV p0) 0) ((tV p0) 1)) (maxW ((tV p0) 2) ((tV p0) 3))))), .val (.int (maxW (maxW (minW ((tV p0) 0) ((tV p0) 1)) (minW ((tV p0) 2) ((tV p0) 3))) (minW (maxW ((tV p0) 0) ((tV p0) 1)) (maxW ((tV p0) 2) ((tV p0) 3))))), .val (.ref b16), .val (.ref b17), .val (.int (1 : Int32)), .unset, .unset, .unset, .unset, .unset, .unset, .unset, .unset, .unset] [(.double (FP.i2d ((tV p0) 3))), (.ref b17)])
  refine Go.step (fun _ k => XS.iloadN X22.here hx rfl (hb hby at_189) rfl k) ?_
  show Go _ _ _ _ _ _ _ T22 (mkF m 190 #[.val (.int p0), .val (.int p1), .val (.ref b1), .val (.int (minW ((tV p0) 0) ((tV p0) 1))), .val (.int (maxW ((tV p0) 0) ((tV p0) 1))), .val (.int (minW ((tV p0) 2) ((tV p0) 3))), .val (.int (maxW ((tV p0) 2) ((tV p0) 3))), .val (.int (minW (minW ((tV p0) 0) ((tV p0) 1)) (minW ((tV p0) 2) ((tV p0) 3)))), .val (.int (maxW (minW ((tV p0) 0) ((tV p0) 1)) (minW ((tV p0) 2) ((tV p0) 3)))), .val (.int (maxW (maxW ((tV p0) 0) ((tV p0) 1)) (maxW ((tV p0) 2) ((tV p0) 3)))), .val (.int (minW (maxW ((tV p0) 0) ((tV p0) 1)) (maxW ((tV p0) 2) ((tV p0) 3)))), .val (.int (minW (maxW (minW ((tV p0) 0) ((tV p0) 1)) (minW ((tV p0) 2) ((tV p0) 3))) (minW (maxW ((tV p0) 0) ((tV p0) 1)) (maxW ((tV p0) 2) ((tV p0) 3))))), .val (.int (maxW (maxW (minW ((tV p0) 0) ((tV p0) 1)) (minW ((tV p0) 2) ((tV p0) 3))) (minW (maxW ((tV p0) 0) ((tV p0) 1)) (maxW ((tV p0) 2) ((tV p0) 3))))), .val (.ref b16), .val (.ref b17), .val (.int (1 : Int32)), .unset, .unset, .unset, .unset, .unset, .unset, .unset, .unset, .unset] [(.int p1), (.double (FP.i2d ((tV p0) 3))), (.ref b17)])
  refine Go.step (fun _ k => XS.iconst X22.here hx rfl (hb hby at_190) k) ?_
  show Go _ _ _ _ _ _ _ T22 (mkF m 191 #[.val (.int p0), .val (.int p1), .val (.ref b1), .val (.int (minW ((tV p0) 0) ((tV p0) 1))), .val (.int (maxW ((tV p0) 0) ((tV p0) 1))), .val (.int (minW ((tV p0) 2) ((tV p0) 3))), .val (.int (maxW ((tV p0) 2) ((tV p0) 3))), .val (.int (minW (minW ((tV p0) 0) ((tV p0) 1)) (minW ((tV p0) 2) ((tV p0) 3)))), .val (.int (maxW (minW ((tV p0) 0) ((tV p0) 1)) (minW ((tV p0) 2) ((tV p0) 3)))), .val (.int (maxW (maxW ((tV p0) 0) ((tV p0) 1)) (maxW ((tV p0) 2) ((tV p0) 3)))), .val (.int (minW (maxW ((tV p0) 0) ((tV p0) 1)) (maxW ((tV p0) 2) ((tV p0) 3)))), .val (.int (minW (maxW (minW ((tV p0) 0) ((tV p0) 1)) (minW ((tV p0) 2) ((tV p0) 3))) (minW (maxW ((tV p0) 0) ((tV p0) 1)) (maxW ((tV p0) 2) ((tV p0) 3))))), .val (.int (maxW (maxW (minW ((tV p0) 0) ((tV p0) 1)) (minW ((tV p0) 2) ((tV p0) 3))) (minW (maxW ((tV p0) 0) ((tV p0) 1)) (maxW ((tV p0) 2) ((tV p0) 3))))), .val (.ref b16), .val (.ref b17), .val (.int (1 : Int32)), .unset, .unset, .unset, .unset, .unset, .unset, .unset, .unset, .unset] [(.int (3 : Int32)), (.int p1), (.double (FP.i2d ((tV p0) 3))), (.ref b17)])
  refine Go.step (fun _ k => XS.iadd X22.here hx rfl (hb hby at_191) rfl k) ?_
  show Go _ _ _ _ _ _ _ T22 (mkF m 192 #[.val (.int p0), .val (.int p1), .val (.ref b1), .val (.int (minW ((tV p0) 0) ((tV p0) 1))), .val (.int (maxW ((tV p0) 0) ((tV p0) 1))), .val (.int (minW ((tV p0) 2) ((tV p0) 3))), .val (.int (maxW ((tV p0) 2) ((tV p0) 3))), .val (.int (minW (minW ((tV p0) 0) ((tV p0) 1)) (minW ((tV p0) 2) ((tV p0) 3)))), .val (.int (maxW (minW ((tV p0) 0) ((tV p0) 1)) (minW ((tV p0) 2) ((tV p0) 3)))), .val (.int (maxW (maxW ((tV p0) 0) ((tV p0) 1)) (maxW ((tV p0) 2) ((tV p0) 3)))), .val (.int (minW (maxW ((tV p0) 0) ((tV p0) 1)) (maxW ((tV p0) 2) ((tV p0) 3)))), .val (.int (minW (maxW (minW ((tV p0) 0) ((tV p0) 1)) (minW ((tV p0) 2) ((tV p0) 3))) (minW (maxW ((tV p0) 0) ((tV p0) 1)) (maxW ((tV p0) 2) ((tV p0) 3))))), .val (.int (maxW (maxW (minW ((tV p0) 0) ((tV p0) 1)) (minW ((tV p0) 2) ((tV p0) 3))) (minW (maxW ((tV p0) 0) ((tV p0) 1)) (maxW ((tV p0) 2) ((tV p0) 3))))), .val (.ref b16), .val (.ref b17), .val (.int (1 : Int32)), .unset, .unset, .unset, .unset, .unset, .unset, .unset, .unset, .unset] [(.int (p1 + (3 : Int32))), (.double (FP.i2d ((tV p0) 3))), (.ref b17)])
  refine Go.callV X22 hx hZ (by rw [hml]; rfl) (y := (⟨"com/example/wavegrade/wavegrade/DepartureQueue", "add", "(DI)V"⟩ : MethodName)) (z := (⟨"com/example/wavegrade/wavegrade/DepartureQueue", "add", "(DI)V"⟩ : MethodName)) (a := b17) (argsL := [(.double (FP.i2d ((tV p0) 3))), (.int (p1 + (3 : Int32)))]) (rest := []) hown (hw _ (List.mem_of_getElem? (i := 30) rfl)) (hw _ (List.mem_of_getElem? (i := 31) rfl)) (notFace_of_selects (args := #[]) (mvT hZ (hw _ (List.mem_of_getElem? (i := 33) rfl)))) (hw _ (List.mem_of_getElem? (i := 33) rfl)) (hw _ (List.mem_of_getElem? (i := 32) rfl)) (hw _ (List.mem_of_getElem? (i := 11) rfl)) (hw _ (List.mem_of_getElem? (i := 34) rfl)) (by decide) (rm_add3 l Z a0 hw b17 u18 v18 g22x l22x (tT p0) (tL p1) (tK p0) a22x 3 T22.heap n0 (Nat.le_trans Z0 (KK22 : Keep h0 T22.heap []).1) Ec22 Fs22 Ft22 Fl22 Vu22 Vv22 nqu18 nqv18 nuv18 ge_b17 ge_u18 ge_v18 (tH p0) hg22 hl22 hi22) rfl Ec22 (hb hby at_192) (lenOf pd_3 rfl) rfl rfl (W := 0) (Nat.le_of_eq rfl) (by decide) (by decide) (by decide) (by decide) ?_
  intro v23 T23 L23 X23 Q23
  obtain ⟨rfl, N23q, Kc23, Ec23, Fs23, Ft23, Fl23, g23x, l23x, a23x, Vu23, Vv23, hg23, hl23, hi23, hs23, hP23⟩ := Q23
  have N23 := Fr.app N22 N23q
  have Vtv_23 := Vtv_22.keep Kc23 (ninS ne_b1_b17 (ninS ne_b1_u18 (ninS ne_b1_v18 nin0)))
  have V_b16_23 := V_b16_22.keep Kc23 (ninS ne_b16_b17 (ninS ne_b16_u18 (ninS ne_b16_v18 nin0)))
  have Ec22_23 := Ec22.keep Kc23
  have KK23 : Keep h0 T23.heap [] := (KK22 : Keep h0 T22.heap []).trans Kc23 (allS (Or.inr sz_b17) (allS (Or.inr sz_u18) (allS (Or.inr sz_v18) all0)))
  have b20 := hP20 (fun x => x < 4) (fun i hi' => absurd hi' (by omega)) (by decide)
  have b21 := hP21 (fun x => x < 4) b20 (by decide)
  have b22 := hP22 (fun x => x < 4) b21 (by decide)
  have b23 := hP23 (fun x => x < 4) b22 (by decide)
  show Go _ _ _ _ _ _ _ T23 (mkF m 195 #[.val (.int p0), .val (.int p1), .val (.ref b1), .val (.int (minW ((tV p0) 0) ((tV p0) 1))), .val (.int (maxW ((tV p0) 0) ((tV p0) 1))), .val (.int (minW ((tV p0) 2) ((tV p0) 3))), .val (.int (maxW ((tV p0) 2) ((tV p0) 3))), .val (.int (minW (minW ((tV p0) 0) ((tV p0) 1)) (minW ((tV p0) 2) ((tV p0) 3)))), .val (.int (maxW (minW ((tV p0) 0) ((tV p0) 1)) (minW ((tV p0) 2) ((tV p0) 3)))), .val (.int (maxW (maxW ((tV p0) 0) ((tV p0) 1)) (maxW ((tV p0) 2) ((tV p0) 3)))), .val (.int (minW (maxW ((tV p0) 0) ((tV p0) 1)) (maxW ((tV p0) 2) ((tV p0) 3)))), .val (.int (minW (maxW (minW ((tV p0) 0) ((tV p0) 1)) (minW ((tV p0) 2) ((tV p0) 3))) (minW (maxW ((tV p0) 0) ((tV p0) 1)) (maxW ((tV p0) 2) ((tV p0) 3))))), .val (.int (maxW (maxW (minW ((tV p0) 0) ((tV p0) 1)) (minW ((tV p0) 2) ((tV p0) 3))) (minW (maxW ((tV p0) 0) ((tV p0) 1)) (maxW ((tV p0) 2) ((tV p0) 3))))), .val (.ref b16), .val (.ref b17), .val (.int (1 : Int32)), .unset, .unset, .unset, .unset, .unset, .unset, .unset, .unset, .unset] [])
  refine Go.step (fun _ k => XS.aload X23.here hx rfl (hb hby at_195) rfl rfl k) ?_
  show Go _ _ _ _ _ _ _ T23 (mkF m 197 #[.val (.int p0), .val (.int p1), .val (.ref b1), .val (.int (minW ((tV p0) 0) ((tV p0) 1))), .val (.int (maxW ((tV p0) 0) ((tV p0) 1))), .val (.int (minW ((tV p0) 2) ((tV p0) 3))), .val (.int (maxW ((tV p0) 2) ((tV p0) 3))), .val (.int (minW (minW ((tV p0) 0) ((tV p0) 1)) (minW ((tV p0) 2) ((tV p0) 3)))), .val (.int (maxW (minW ((tV p0) 0) ((tV p0) 1)) (minW ((tV p0) 2) ((tV p0) 3)))), .val (.int (maxW (maxW ((tV p0) 0) ((tV p0) 1)) (maxW ((tV p0) 2) ((tV p0) 3)))), .val (.int (minW (maxW ((tV p0) 0) ((tV p0) 1)) (maxW ((tV p0) 2) ((tV p0) 3)))), .val (.int (minW (maxW (minW ((tV p0) 0) ((tV p0) 1)) (minW ((tV p0) 2) ((tV p0) 3))) (minW (maxW ((tV p0) 0) ((tV p0) 1)) (maxW ((tV p0) 2) ((tV p0) 3))))), .val (.int (maxW (maxW (minW ((tV p0) 0) ((tV p0) 1)) (minW ((tV p0) 2) ((tV p0) 3))) (minW (maxW ((tV p0) 0) ((tV p0) 1)) (maxW ((tV p0) 2) ((tV p0) 3))))), .val (.ref b16), .val (.ref b17), .val (.int (1 : Int32)), .unset, .unset, .unset, .unset, .unset, .unset, .unset, .unset, .unset] [(.ref b17)])
  refine Go.callV X23 hx hZ (by rw [hml]; rfl) (y := (⟨"com/example/wavegrade/wavegrade/DepartureQueue", "removeFirst", "()I"⟩ : MethodName)) (z := (⟨"com/example/wavegrade/wavegrade/DepartureQueue", "removeFirst", "()I"⟩ : MethodName)) (a := b17) (argsL := []) (rest := []) hown (hw _ (List.mem_of_getElem? (i := 35) rfl)) (hw _ (List.mem_of_getElem? (i := 36) rfl)) (notFace_of_selects (args := #[]) (mvT hZ (hw _ (List.mem_of_getElem? (i := 38) rfl)))) (hw _ (List.mem_of_getElem? (i := 38) rfl)) (hw _ (List.mem_of_getElem? (i := 37) rfl)) (hw _ (List.mem_of_getElem? (i := 11) rfl)) (hw _ (List.mem_of_getElem? (i := 39) rfl)) (by decide) (rm_rem4 l Z a0 hw b17 u18 v18 g23x l23x (tT p0) (tL p1) (tK p0) a23x T23.heap n0 (Nat.le_trans Z0 (KK23 : Keep h0 T23.heap []).1) Ec23 Fs23 Ft23 Fl23 Vu23 Vv23 nqu18 nqv18 nuv18 ge_b17 ge_u18 ge_v18 (tH p0) hg23 hl23 hi23) rfl Ec23 (hb hby at_197) (lenOf pd_4 rfl) rfl rfl (W := 0) (Nat.le_of_eq rfl) (by decide) (by decide) (by decide) (by decide) ?_
  intro v24 T24 L24 X24 Q24
  obtain ⟨rfl, N24q, Kc24, Ec24, Fs24, Ft24, Fl24, g24x, l24x, a24x, Vu24, Vv24, hg24, hl24, hi24, ⟨hm24, hs24⟩, hP24⟩ := Q24
  have N24 := Fr.app N23 N24q
  have Vtv_24 := Vtv_23.keep Kc24 (ninS ne_b1_b17 (ninS ne_b1_u18 (ninS ne_b1_v18 nin0)))
  have V_b16_24 := V_b16_23.keep Kc24 (ninS ne_b16_b17 (ninS ne_b16_u18 (ninS ne_b16_v18 nin0)))
  have Ec23_24 := Ec23.keep Kc24
  have KK24 : Keep h0 T24.heap [] := (KK23 : Keep h0 T23.heap []).trans Kc24 (allS (Or.inr sz_b17) (allS (Or.inr sz_u18) (allS (Or.inr sz_v18) all0)))
  show Go _ _ _ _ _ _ _ T24 (mkF m 200 #[.val (.int p0), .val (.int p1), .val (.ref b1), .val (.int (minW ((tV p0) 0) ((tV p0) 1))), .val (.int (maxW ((tV p0) 0) ((tV p0) 1))), .val (.int (minW ((tV p0) 2) ((tV p0) 3))), .val (.int (maxW ((tV p0) 2) ((tV p0) 3))), .val (.int (minW (minW ((tV p0) 0) ((tV p0) 1)) (minW ((tV p0) 2) ((tV p0) 3)))), .val (.int (maxW (minW ((tV p0) 0) ((tV p0) 1)) (minW ((tV p0) 2) ((tV p0) 3)))), .val (.int (maxW (maxW ((tV p0) 0) ((tV p0) 1)) (maxW ((tV p0) 2) ((tV p0) 3)))), .val (.int (minW (maxW ((tV p0) 0) ((tV p0) 1)) (maxW ((tV p0) 2) ((tV p0) 3)))), .val (.int (minW (maxW (minW ((tV p0) 0) ((tV p0) 1)) (minW ((tV p0) 2) ((tV p0) 3))) (minW (maxW ((tV p0) 0) ((tV p0) 1)) (maxW ((tV p0) 2) ((tV p0) 3))))), .val (.int (maxW (maxW (minW ((tV p0) 0) ((tV p0) 1)) (minW ((tV p0) 2) ((tV p0) 3))) (minW (maxW ((tV p0) 0) ((tV p0) 1)) (maxW ((tV p0) 2) ((tV p0) 3))))), .val (.ref b16), .val (.ref b17), .val (.int (1 : Int32)), .unset, .unset, .unset, .unset, .unset, .unset, .unset, .unset, .unset] [(.int ((tL p1) (a23x 0)))])
  refine Go.step (fun _ k => XS.istore X24.here hx rfl (hb hby at_200) rfl (l' := #[.val (.int p0), .val (.int p1), .val (.ref b1), .val (.int (minW ((tV p0) 0) ((tV p0) 1))), .val (.int (maxW ((tV p0) 0) ((tV p0) 1))), .val (.int (minW ((tV p0) 2) ((tV p0) 3))), .val (.int (maxW ((tV p0) 2) ((tV p0) 3))), .val (.int (minW (minW ((tV p0) 0) ((tV p0) 1)) (minW ((tV p0) 2) ((tV p0) 3)))), .val (.int (maxW (minW ((tV p0) 0) ((tV p0) 1)) (minW ((tV p0) 2) ((tV p0) 3)))), .val (.int (maxW (maxW ((tV p0) 0) ((tV p0) 1)) (maxW ((tV p0) 2) ((tV p0) 3)))), .val (.int (minW (maxW ((tV p0) 0) ((tV p0) 1)) (maxW ((tV p0) 2) ((tV p0) 3)))), .val (.int (minW (maxW (minW ((tV p0) 0) ((tV p0) 1)) (minW ((tV p0) 2) ((tV p0) 3))) (minW (maxW ((tV p0) 0) ((tV p0) 1)) (maxW ((tV p0) 2) ((tV p0) 3))))), .val (.int (maxW (maxW (minW ((tV p0) 0) ((tV p0) 1)) (minW ((tV p0) 2) ((tV p0) 3))) (minW (maxW ((tV p0) 0) ((tV p0) 1)) (maxW ((tV p0) 2) ((tV p0) 3))))), .val (.ref b16), .val (.ref b17), .val (.int (1 : Int32)), .val (.int ((tL p1) (a23x 0))), .unset, .unset, .unset, .unset, .unset, .unset, .unset, .unset]) rfl k) ?_
  have c0 : a23x 0 < 4 := b23 0 (by decide)
  have b24 := hP24 (fun x => x < 4) b23
  have k0 := hm24 0 (by decide)
  obtain ⟨r0, h_r0⟩ : ∃ z, z = ((tL p1) (a23x 0)) := ⟨_, rfl⟩
  rw [← h_r0]
  have hr0 := own_r c0 h_r0
  show Go _ _ _ _ _ _ _ T24 (mkF m 202 #[.val (.int p0), .val (.int p1), .val (.ref b1), .val (.int (minW ((tV p0) 0) ((tV p0) 1))), .val (.int (maxW ((tV p0) 0) ((tV p0) 1))), .val (.int (minW ((tV p0) 2) ((tV p0) 3))), .val (.int (maxW ((tV p0) 2) ((tV p0) 3))), .val (.int (minW (minW ((tV p0) 0) ((tV p0) 1)) (minW ((tV p0) 2) ((tV p0) 3)))), .val (.int (maxW (minW ((tV p0) 0) ((tV p0) 1)) (minW ((tV p0) 2) ((tV p0) 3)))), .val (.int (maxW (maxW ((tV p0) 0) ((tV p0) 1)) (maxW ((tV p0) 2) ((tV p0) 3)))), .val (.int (minW (maxW ((tV p0) 0) ((tV p0) 1)) (maxW ((tV p0) 2) ((tV p0) 3)))), .val (.int (minW (maxW (minW ((tV p0) 0) ((tV p0) 1)) (minW ((tV p0) 2) ((tV p0) 3))) (minW (maxW ((tV p0) 0) ((tV p0) 1)) (maxW ((tV p0) 2) ((tV p0) 3))))), .val (.int (maxW (maxW (minW ((tV p0) 0) ((tV p0) 1)) (minW ((tV p0) 2) ((tV p0) 3))) (minW (maxW ((tV p0) 0) ((tV p0) 1)) (maxW ((tV p0) 2) ((tV p0) 3))))), .val (.ref b16), .val (.ref b17), .val (.int (1 : Int32)), .val (.int r0), .unset, .unset, .unset, .unset, .unset, .unset, .unset, .unset] [])
  refine Go.step (fun _ k => XS.iload X24.here hx rfl (hb hby at_202) rfl k) ?_
  show Go _ _ _ _ _ _ _ T24 (mkF m 204 #[.val (.int p0), .val (.int p1), .val (.ref b1), .val (.int (minW ((tV p0) 0) ((tV p0) 1))), .val (.int (maxW ((tV p0) 0) ((tV p0) 1))), .val (.int (minW ((tV p0) 2) ((tV p0) 3))), .val (.int (maxW ((tV p0) 2) ((tV p0) 3))), .val (.int (minW (minW ((tV p0) 0) ((tV p0) 1)) (minW ((tV p0) 2) ((tV p0) 3)))), .val (.int (maxW (minW ((tV p0) 0) ((tV p0) 1)) (minW ((tV p0) 2) ((tV p0) 3)))), .val (.int (maxW (maxW ((tV p0) 0) ((tV p0) 1)) (maxW ((tV p0) 2) ((tV p0) 3)))), .val (.int (minW (maxW ((tV p0) 0) ((tV p0) 1)) (maxW ((tV p0) 2) ((tV p0) 3)))), .val (.int (minW (maxW (minW ((tV p0) 0) ((tV p0) 1)) (minW ((tV p0) 2) ((tV p0) 3))) (minW (maxW ((tV p0) 0) ((tV p0) 1)) (maxW ((tV p0) 2) ((tV p0) 3))))), .val (.int (maxW (maxW (minW ((tV p0) 0) ((tV p0) 1)) (minW ((tV p0) 2) ((tV p0) 3))) (minW (maxW ((tV p0) 0) ((tV p0) 1)) (maxW ((tV p0) 2) ((tV p0) 3))))), .val (.ref b16), .val (.ref b17), .val (.int (1 : Int32)), .val (.int r0), .unset, .unset, .unset, .unset, .unset, .unset, .unset, .unset] [(.int r0)])
  refine Go.step (fun _ k => XS.iloadN X24.here hx rfl (hb hby at_204) rfl k) ?_
  show Go _ _ _ _ _ _ _ T24 (mkF m 205 #[.val (.int p0), .val (.int p1), .val (.ref b1), .val (.int (minW ((tV p0) 0) ((tV p0) 1))), .val (.int (maxW ((tV p0) 0) ((tV p0) 1))), .val (.int (minW ((tV p0) 2) ((tV p0) 3))), .val (.int (maxW ((tV p0) 2) ((tV p0) 3))), .val (.int (minW (minW ((tV p0) 0) ((tV p0) 1)) (minW ((tV p0) 2) ((tV p0) 3)))), .val (.int (maxW (minW ((tV p0) 0) ((tV p0) 1)) (minW ((tV p0) 2) ((tV p0) 3)))), .val (.int (maxW (maxW ((tV p0) 0) ((tV p0) 1)) (maxW ((tV p0) 2) ((tV p0) 3)))), .val (.int (minW (maxW ((tV p0) 0) ((tV p0) 1)) (maxW ((tV p0) 2) ((tV p0) 3)))), .val (.int (minW (maxW (minW ((tV p0) 0) ((tV p0) 1)) (minW ((tV p0) 2) ((tV p0) 3))) (minW (maxW ((tV p0) 0) ((tV p0) 1)) (maxW ((tV p0) 2) ((tV p0) 3))))), .val (.int (maxW (maxW (minW ((tV p0) 0) ((tV p0) 1)) (minW ((tV p0) 2) ((tV p0) 3))) (minW (maxW ((tV p0) 0) ((tV p0) 1)) (maxW ((tV p0) 2) ((tV p0) 3))))), .val (.ref b16), .val (.ref b17), .val (.int (1 : Int32)), .val (.int r0), .unset, .unset, .unset, .unset, .unset, .unset, .unset, .unset] [(.int p1), (.int r0)])
  refine Go.step (fun _ k => XS.aloadN X24.here hx rfl (hb hby at_205) rfl rfl k) ?_
  show Go _ _ _ _ _ _ _ T24 (mkF m 206 #[.val (.int p0), .val (.int p1), .val (.ref b1), .val (.int (minW ((tV p0) 0) ((tV p0) 1))), .val (.int (maxW ((tV p0) 0) ((tV p0) 1))), .val (.int (minW ((tV p0) 2) ((tV p0) 3))), .val (.int (maxW ((tV p0) 2) ((tV p0) 3))), .val (.int (minW (minW ((tV p0) 0) ((tV p0) 1)) (minW ((tV p0) 2) ((tV p0) 3)))), .val (.int (maxW (minW ((tV p0) 0) ((tV p0) 1)) (minW ((tV p0) 2) ((tV p0) 3)))), .val (.int (maxW (maxW ((tV p0) 0) ((tV p0) 1)) (maxW ((tV p0) 2) ((tV p0) 3)))), .val (.int (minW (maxW ((tV p0) 0) ((tV p0) 1)) (maxW ((tV p0) 2) ((tV p0) 3)))), .val (.int (minW (maxW (minW ((tV p0) 0) ((tV p0) 1)) (minW ((tV p0) 2) ((tV p0) 3))) (minW (maxW ((tV p0) 0) ((tV p0) 1)) (maxW ((tV p0) 2) ((tV p0) 3))))), .val (.int (maxW (maxW (minW ((tV p0) 0) ((tV p0) 1)) (minW ((tV p0) 2) ((tV p0) 3))) (minW (maxW ((tV p0) 0) ((tV p0) 1)) (maxW ((tV p0) 2) ((tV p0) 3))))), .val (.ref b16), .val (.ref b17), .val (.int (1 : Int32)), .val (.int r0), .unset, .unset, .unset, .unset, .unset, .unset, .unset, .unset] [(.ref b1), (.int p1), (.int r0)])
  refine Go.step (fun _ k => XS.aload X24.here hx rfl (hb hby at_206) rfl rfl k) ?_
  show Go _ _ _ _ _ _ _ T24 (mkF m 208 #[.val (.int p0), .val (.int p1), .val (.ref b1), .val (.int (minW ((tV p0) 0) ((tV p0) 1))), .val (.int (maxW ((tV p0) 0) ((tV p0) 1))), .val (.int (minW ((tV p0) 2) ((tV p0) 3))), .val (.int (maxW ((tV p0) 2) ((tV p0) 3))), .val (.int (minW (minW ((tV p0) 0) ((tV p0) 1)) (minW ((tV p0) 2) ((tV p0) 3)))), .val (.int (maxW (minW ((tV p0) 0) ((tV p0) 1)) (minW ((tV p0) 2) ((tV p0) 3)))), .val (.int (maxW (maxW ((tV p0) 0) ((tV p0) 1)) (maxW ((tV p0) 2) ((tV p0) 3)))), .val (.int (minW (maxW ((tV p0) 0) ((tV p0) 1)) (maxW ((tV p0) 2) ((tV p0) 3)))), .val (.int (minW (maxW (minW ((tV p0) 0) ((tV p0) 1)) (minW ((tV p0) 2) ((tV p0) 3))) (minW (maxW ((tV p0) 0) ((tV p0) 1)) (maxW ((tV p0) 2) ((tV p0) 3))))), .val (.int (maxW (maxW (minW ((tV p0) 0) ((tV p0) 1)) (minW ((tV p0) 2) ((tV p0) 3))) (minW (maxW ((tV p0) 0) ((tV p0) 1)) (maxW ((tV p0) 2) ((tV p0) 3))))), .val (.ref b16), .val (.ref b17), .val (.int (1 : Int32)), .val (.int r0), .unset, .unset, .unset, .unset, .unset, .unset, .unset, .unset] [(.ref b16), (.ref b1), (.int p1), (.int r0)])
  refine Go.step (fun _ k => XS.iload X24.here hx rfl (hb hby at_208) rfl k) ?_
  show Go _ _ _ _ _ _ _ T24 (mkF m 210 #[.val (.int p0), .val (.int p1), .val (.ref b1), .val (.int (minW ((tV p0) 0) ((tV p0) 1))), .val (.int (maxW ((tV p0) 0) ((tV p0) 1))), .val (.int (minW ((tV p0) 2) ((tV p0) 3))), .val (.int (maxW ((tV p0) 2) ((tV p0) 3))), .val (.int (minW (minW ((tV p0) 0) ((tV p0) 1)) (minW ((tV p0) 2) ((tV p0) 3)))), .val (.int (maxW (minW ((tV p0) 0) ((tV p0) 1)) (minW ((tV p0) 2) ((tV p0) 3)))), .val (.int (maxW (maxW ((tV p0) 0) ((tV p0) 1)) (maxW ((tV p0) 2) ((tV p0) 3)))), .val (.int (minW (maxW ((tV p0) 0) ((tV p0) 1)) (maxW ((tV p0) 2) ((tV p0) 3)))), .val (.int (minW (maxW (minW ((tV p0) 0) ((tV p0) 1)) (minW ((tV p0) 2) ((tV p0) 3))) (minW (maxW ((tV p0) 0) ((tV p0) 1)) (maxW ((tV p0) 2) ((tV p0) 3))))), .val (.int (maxW (maxW (minW ((tV p0) 0) ((tV p0) 1)) (minW ((tV p0) 2) ((tV p0) 3))) (minW (maxW ((tV p0) 0) ((tV p0) 1)) (maxW ((tV p0) 2) ((tV p0) 3))))), .val (.ref b16), .val (.ref b17), .val (.int (1 : Int32)), .val (.int r0), .unset, .unset, .unset, .unset, .unset, .unset, .unset, .unset] [(.int (minW (minW ((tV p0) 0) ((tV p0) 1)) (minW ((tV p0) 2) ((tV p0) 3)))), (.ref b16), (.ref b1), (.int p1), (.int r0)])
  refine Go.callS X24 hx hZ (by rw [hml]; rfl) (y := (⟨"com/example/wavegrade/wavegrade/DepartureQueueAddPinLaw", "take", "(II[I[ZI)Z"⟩ : MethodName)) (argsL := [(.int r0), (.int p1), (.ref b1), (.ref b16), (.int (minW (minW ((tV p0) 0) ((tV p0) 1)) (minW ((tV p0) 2) ((tV p0) 3))))]) (rest := []) hown (hw _ (List.mem_of_getElem? (i := 40) rfl)) (hw _ (List.mem_of_getElem? (i := 41) rfl)) (hw _ (List.mem_of_getElem? (i := 42) rfl)) (hw _ (List.mem_of_getElem? (i := 43) rfl)) (by decide) (rm8 l Z a0 hw r0 p1 b1 b16 (tV p0) (fun _ => (0 : Int32)) (minW (minW ((tV p0) 0) ((tV p0) 1)) (minW ((tV p0) 2) ((tV p0) 3))) T24.heap n0 (Nat.le_trans Z0 (KK24 : Keep h0 T24.heap []).1) Vtv_24 V_b16_24 ne_b1_b16 ge_b16 ⟨hr0.1, hr0.2.1, hr0.2.2.1⟩) rfl (hb hby at_210) (lenOf pd_5 rfl) rfl rfl (W := 0) (Nat.le_of_eq rfl) (by decide) (by decide) (by decide) (by decide) ?_
  intro v25 T25 L25 X25 Q25
  obtain ⟨rr0, uu0, rfl, N25q, Kc25, Vc25, hu0, ht0⟩ := Q25
  have N25 := Fr.app N24 N25q
  have Vtv_25 := Vtv_24.keep Kc25 (ninS ne_b1_b16 nin0)
  have Ec24_25 := Ec24.keep Kc25
  have Fs24_25 := Fs24.keep Kc25 (ninS (Ne.symm ne_b16_b17) nin0)
  have Ft24_25 := Ft24.keep Kc25 (ninS (Ne.symm ne_b16_b17) nin0)
  have Fl24_25 := Fl24.keep Kc25 (ninS (Ne.symm ne_b16_b17) nin0)
  have Vu24_25 := Vu24.keep Kc25 (ninS (Ne.symm ne_b16_u18) nin0)
  have Vv24_25 := Vv24.keep Kc25 (ninS (Ne.symm ne_b16_v18) nin0)
  have KK25 : Keep h0 T25.heap [] := (KK24 : Keep h0 T24.heap []).trans Kc25 (allS (Or.inr sz_b16) all0)
  show Go _ _ _ _ _ _ _ T25 (mkF m 213 #[.val (.int p0), .val (.int p1), .val (.ref b1), .val (.int (minW ((tV p0) 0) ((tV p0) 1))), .val (.int (maxW ((tV p0) 0) ((tV p0) 1))), .val (.int (minW ((tV p0) 2) ((tV p0) 3))), .val (.int (maxW ((tV p0) 2) ((tV p0) 3))), .val (.int (minW (minW ((tV p0) 0) ((tV p0) 1)) (minW ((tV p0) 2) ((tV p0) 3)))), .val (.int (maxW (minW ((tV p0) 0) ((tV p0) 1)) (minW ((tV p0) 2) ((tV p0) 3)))), .val (.int (maxW (maxW ((tV p0) 0) ((tV p0) 1)) (maxW ((tV p0) 2) ((tV p0) 3)))), .val (.int (minW (maxW ((tV p0) 0) ((tV p0) 1)) (maxW ((tV p0) 2) ((tV p0) 3)))), .val (.int (minW (maxW (minW ((tV p0) 0) ((tV p0) 1)) (minW ((tV p0) 2) ((tV p0) 3))) (minW (maxW ((tV p0) 0) ((tV p0) 1)) (maxW ((tV p0) 2) ((tV p0) 3))))), .val (.int (maxW (maxW (minW ((tV p0) 0) ((tV p0) 1)) (minW ((tV p0) 2) ((tV p0) 3))) (minW (maxW ((tV p0) 0) ((tV p0) 1)) (maxW ((tV p0) 2) ((tV p0) 3))))), .val (.ref b16), .val (.ref b17), .val (.int (1 : Int32)), .val (.int r0), .unset, .unset, .unset, .unset, .unset, .unset, .unset, .unset] [(.int rr0)])
  refine Go.step (fun _ k => XS.istore X25.here hx rfl (hb hby at_213) rfl (l' := #[.val (.int p0), .val (.int p1), .val (.ref b1), .val (.int (minW ((tV p0) 0) ((tV p0) 1))), .val (.int (maxW ((tV p0) 0) ((tV p0) 1))), .val (.int (minW ((tV p0) 2) ((tV p0) 3))), .val (.int (maxW ((tV p0) 2) ((tV p0) 3))), .val (.int (minW (minW ((tV p0) 0) ((tV p0) 1)) (minW ((tV p0) 2) ((tV p0) 3)))), .val (.int (maxW (minW ((tV p0) 0) ((tV p0) 1)) (minW ((tV p0) 2) ((tV p0) 3)))), .val (.int (maxW (maxW ((tV p0) 0) ((tV p0) 1)) (maxW ((tV p0) 2) ((tV p0) 3)))), .val (.int (minW (maxW ((tV p0) 0) ((tV p0) 1)) (maxW ((tV p0) 2) ((tV p0) 3)))), .val (.int (minW (maxW (minW ((tV p0) 0) ((tV p0) 1)) (minW ((tV p0) 2) ((tV p0) 3))) (minW (maxW ((tV p0) 0) ((tV p0) 1)) (maxW ((tV p0) 2) ((tV p0) 3))))), .val (.int (maxW (maxW (minW ((tV p0) 0) ((tV p0) 1)) (minW ((tV p0) 2) ((tV p0) 3))) (minW (maxW ((tV p0) 0) ((tV p0) 1)) (maxW ((tV p0) 2) ((tV p0) 3))))), .val (.ref b16), .val (.ref b17), .val (.int (1 : Int32)), .val (.int r0), .val (.int rr0), .unset, .unset, .unset, .unset, .unset, .unset, .unset]) rfl k) ?_
  show Go _ _ _ _ _ _ _ T25 (mkF m 215 #[.val (.int p0), .val (.int p1), .val (.ref b1), .val (.int (minW ((tV p0) 0) ((tV p0) 1))), .val (.int (maxW ((tV p0) 0) ((tV p0) 1))), .val (.int (minW ((tV p0) 2) ((tV p0) 3))), .val (.int (maxW ((tV p0) 2) ((tV p0) 3))), .val (.int (minW (minW ((tV p0) 0) ((tV p0) 1)) (minW ((tV p0) 2) ((tV p0) 3)))), .val (.int (maxW (minW ((tV p0) 0) ((tV p0) 1)) (minW ((tV p0) 2) ((tV p0) 3)))), .val (.int (maxW (maxW ((tV p0) 0) ((tV p0) 1)) (maxW ((tV p0) 2) ((tV p0) 3)))), .val (.int (minW (maxW ((tV p0) 0) ((tV p0) 1)) (maxW ((tV p0) 2) ((tV p0) 3)))), .val (.int (minW (maxW (minW ((tV p0) 0) ((tV p0) 1)) (minW ((tV p0) 2) ((tV p0) 3))) (minW (maxW ((tV p0) 0) ((tV p0) 1)) (maxW ((tV p0) 2) ((tV p0) 3))))), .val (.int (maxW (maxW (minW ((tV p0) 0) ((tV p0) 1)) (minW ((tV p0) 2) ((tV p0) 3))) (minW (maxW ((tV p0) 0) ((tV p0) 1)) (maxW ((tV p0) 2) ((tV p0) 3))))), .val (.ref b16), .val (.ref b17), .val (.int (1 : Int32)), .val (.int r0), .val (.int rr0), .unset, .unset, .unset, .unset, .unset, .unset, .unset] [])
  refine Go.step (fun _ k => XS.aload X25.here hx rfl (hb hby at_215) rfl rfl k) ?_
  show Go _ _ _ _ _ _ _ T25 (mkF m 217 #[.val (.int p0), .val (.int p1), .val (.ref b1), .val (.int (minW ((tV p0) 0) ((tV p0) 1))), .val (.int (maxW ((tV p0) 0) ((tV p0) 1))), .val (.int (minW ((tV p0) 2) ((tV p0) 3))), .val (.int (maxW ((tV p0) 2) ((tV p0) 3))), .val (.int (minW (minW ((tV p0) 0) ((tV p0) 1)) (minW ((tV p0) 2) ((tV p0) 3)))), .val (.int (maxW (minW ((tV p0) 0) ((tV p0) 1)) (minW ((tV p0) 2) ((tV p0) 3)))), .val (.int (maxW (maxW ((tV p0) 0) ((tV p0) 1)) (maxW ((tV p0) 2) ((tV p0) 3)))), .val (.int (minW (maxW ((tV p0) 0) ((tV p0) 1)) (maxW ((tV p0) 2) ((tV p0) 3)))), .val (.int (minW (maxW (minW ((tV p0) 0) ((tV p0) 1)) (minW ((tV p0) 2) ((tV p0) 3))) (minW (maxW ((tV p0) 0) ((tV p0) 1)) (maxW ((tV p0) 2) ((tV p0) 3))))), .val (.int (maxW (maxW (minW ((tV p0) 0) ((tV p0) 1)) (minW ((tV p0) 2) ((tV p0) 3))) (minW (maxW ((tV p0) 0) ((tV p0) 1)) (maxW ((tV p0) 2) ((tV p0) 3))))), .val (.ref b16), .val (.ref b17), .val (.int (1 : Int32)), .val (.int r0), .val (.int rr0), .unset, .unset, .unset, .unset, .unset, .unset, .unset] [(.ref b17)])
  refine Go.callV X25 hx hZ (by rw [hml]; rfl) (y := (⟨"com/example/wavegrade/wavegrade/DepartureQueue", "removeFirst", "()I"⟩ : MethodName)) (z := (⟨"com/example/wavegrade/wavegrade/DepartureQueue", "removeFirst", "()I"⟩ : MethodName)) (a := b17) (argsL := []) (rest := []) hown (hw _ (List.mem_of_getElem? (i := 35) rfl)) (hw _ (List.mem_of_getElem? (i := 36) rfl)) (notFace_of_selects (args := #[]) (mvT hZ (hw _ (List.mem_of_getElem? (i := 38) rfl)))) (hw _ (List.mem_of_getElem? (i := 38) rfl)) (hw _ (List.mem_of_getElem? (i := 37) rfl)) (hw _ (List.mem_of_getElem? (i := 11) rfl)) (hw _ (List.mem_of_getElem? (i := 39) rfl)) (by decide) (rm_rem3 l Z a0 hw b17 u18 v18 g24x l24x (tT p0) (tL p1) (tK p0) a24x T25.heap n0 (Nat.le_trans Z0 (KK25 : Keep h0 T25.heap []).1) Ec24_25 Fs24_25 Ft24_25 Fl24_25 Vu24_25 Vv24_25 nqu18 nqv18 nuv18 ge_b17 ge_u18 ge_v18 (tH p0) hg24 hl24 hi24) rfl Ec24_25 (hb hby at_217) (lenOf pd_4 rfl) rfl rfl (W := 0) (Nat.le_of_eq rfl) (by decide) (by decide) (by decide) (by decide) ?_
  intro v26 T26 L26 X26 Q26
  obtain ⟨rfl, N26q, Kc26, Ec26, Fs26, Ft26, Fl26, g26x, l26x, a26x, Vu26, Vv26, hg26, hl26, hi26, ⟨hm26, hs26⟩, hP26⟩ := Q26
  have N26 := Fr.app N25 N26q
  have Vtv_26 := Vtv_25.keep Kc26 (ninS ne_b1_b17 (ninS ne_b1_u18 (ninS ne_b1_v18 nin0)))
  have Ec24_26 := Ec24_25.keep Kc26
  have Vc25_26 := Vc25.keep Kc26 (ninS ne_b16_b17 (ninS ne_b16_u18 (ninS ne_b16_v18 nin0)))
  have KK26 : Keep h0 T26.heap [] := (KK25 : Keep h0 T25.heap []).trans Kc26 (allS (Or.inr sz_b17) (allS (Or.inr sz_u18) (allS (Or.inr sz_v18) all0)))
  show Go _ _ _ _ _ _ _ T26 (mkF m 220 #[.val (.int p0), .val (.int p1), .val (.ref b1), .val (.int (minW ((tV p0) 0) ((tV p0) 1))), .val (.int (maxW ((tV p0) 0) ((tV p0) 1))), .val (.int (minW ((tV p0) 2) ((tV p0) 3))), .val (.int (maxW ((tV p0) 2) ((tV p0) 3))), .val (.int (minW (minW ((tV p0) 0) ((tV p0) 1)) (minW ((tV p0) 2) ((tV p0) 3)))), .val (.int (maxW (minW ((tV p0) 0) ((tV p0) 1)) (minW ((tV p0) 2) ((tV p0) 3)))), .val (.int (maxW (maxW ((tV p0) 0) ((tV p0) 1)) (maxW ((tV p0) 2) ((tV p0) 3)))), .val (.int (minW (maxW ((tV p0) 0) ((tV p0) 1)) (maxW ((tV p0) 2) ((tV p0) 3)))), .val (.int (minW (maxW (minW ((tV p0) 0) ((tV p0) 1)) (minW ((tV p0) 2) ((tV p0) 3))) (minW (maxW ((tV p0) 0) ((tV p0) 1)) (maxW ((tV p0) 2) ((tV p0) 3))))), .val (.int (maxW (maxW (minW ((tV p0) 0) ((tV p0) 1)) (minW ((tV p0) 2) ((tV p0) 3))) (minW (maxW ((tV p0) 0) ((tV p0) 1)) (maxW ((tV p0) 2) ((tV p0) 3))))), .val (.ref b16), .val (.ref b17), .val (.int (1 : Int32)), .val (.int r0), .val (.int rr0), .unset, .unset, .unset, .unset, .unset, .unset, .unset] [(.int ((tL p1) (a24x 0)))])
  refine Go.step (fun _ k => XS.istore X26.here hx rfl (hb hby at_220) rfl (l' := #[.val (.int p0), .val (.int p1), .val (.ref b1), .val (.int (minW ((tV p0) 0) ((tV p0) 1))), .val (.int (maxW ((tV p0) 0) ((tV p0) 1))), .val (.int (minW ((tV p0) 2) ((tV p0) 3))), .val (.int (maxW ((tV p0) 2) ((tV p0) 3))), .val (.int (minW (minW ((tV p0) 0) ((tV p0) 1)) (minW ((tV p0) 2) ((tV p0) 3)))), .val (.int (maxW (minW ((tV p0) 0) ((tV p0) 1)) (minW ((tV p0) 2) ((tV p0) 3)))), .val (.int (maxW (maxW ((tV p0) 0) ((tV p0) 1)) (maxW ((tV p0) 2) ((tV p0) 3)))), .val (.int (minW (maxW ((tV p0) 0) ((tV p0) 1)) (maxW ((tV p0) 2) ((tV p0) 3)))), .val (.int (minW (maxW (minW ((tV p0) 0) ((tV p0) 1)) (minW ((tV p0) 2) ((tV p0) 3))) (minW (maxW ((tV p0) 0) ((tV p0) 1)) (maxW ((tV p0) 2) ((tV p0) 3))))), .val (.int (maxW (maxW (minW ((tV p0) 0) ((tV p0) 1)) (minW ((tV p0) 2) ((tV p0) 3))) (minW (maxW ((tV p0) 0) ((tV p0) 1)) (maxW ((tV p0) 2) ((tV p0) 3))))), .val (.ref b16), .val (.ref b17), .val (.int (1 : Int32)), .val (.int r0), .val (.int rr0), .val (.int ((tL p1) (a24x 0))), .unset, .unset, .unset, .unset, .unset, .unset]) rfl k) ?_
  have c1 : a24x 0 < 4 := b24 0 (by decide)
  have b26 := hP26 (fun x => x < 4) b24
  have k1 := hm26 0 (by decide)
  obtain ⟨r1, h_r1⟩ : ∃ z, z = ((tL p1) (a24x 0)) := ⟨_, rfl⟩
  rw [← h_r1]
  have hr1 := own_r c1 h_r1
  show Go _ _ _ _ _ _ _ T26 (mkF m 222 #[.val (.int p0), .val (.int p1), .val (.ref b1), .val (.int (minW ((tV p0) 0) ((tV p0) 1))), .val (.int (maxW ((tV p0) 0) ((tV p0) 1))), .val (.int (minW ((tV p0) 2) ((tV p0) 3))), .val (.int (maxW ((tV p0) 2) ((tV p0) 3))), .val (.int (minW (minW ((tV p0) 0) ((tV p0) 1)) (minW ((tV p0) 2) ((tV p0) 3)))), .val (.int (maxW (minW ((tV p0) 0) ((tV p0) 1)) (minW ((tV p0) 2) ((tV p0) 3)))), .val (.int (maxW (maxW ((tV p0) 0) ((tV p0) 1)) (maxW ((tV p0) 2) ((tV p0) 3)))), .val (.int (minW (maxW ((tV p0) 0) ((tV p0) 1)) (maxW ((tV p0) 2) ((tV p0) 3)))), .val (.int (minW (maxW (minW ((tV p0) 0) ((tV p0) 1)) (minW ((tV p0) 2) ((tV p0) 3))) (minW (maxW ((tV p0) 0) ((tV p0) 1)) (maxW ((tV p0) 2) ((tV p0) 3))))), .val (.int (maxW (maxW (minW ((tV p0) 0) ((tV p0) 1)) (minW ((tV p0) 2) ((tV p0) 3))) (minW (maxW ((tV p0) 0) ((tV p0) 1)) (maxW ((tV p0) 2) ((tV p0) 3))))), .val (.ref b16), .val (.ref b17), .val (.int (1 : Int32)), .val (.int r0), .val (.int rr0), .val (.int r1), .unset, .unset, .unset, .unset, .unset, .unset] [])
  refine Go.step (fun _ k => XS.iload X26.here hx rfl (hb hby at_222) rfl k) ?_
  show Go _ _ _ _ _ _ _ T26 (mkF m 224 #[.val (.int p0), .val (.int p1), .val (.ref b1), .val (.int (minW ((tV p0) 0) ((tV p0) 1))), .val (.int (maxW ((tV p0) 0) ((tV p0) 1))), .val (.int (minW ((tV p0) 2) ((tV p0) 3))), .val (.int (maxW ((tV p0) 2) ((tV p0) 3))), .val (.int (minW (minW ((tV p0) 0) ((tV p0) 1)) (minW ((tV p0) 2) ((tV p0) 3)))), .val (.int (maxW (minW ((tV p0) 0) ((tV p0) 1)) (minW ((tV p0) 2) ((tV p0) 3)))), .val (.int (maxW (maxW ((tV p0) 0) ((tV p0) 1)) (maxW ((tV p0) 2) ((tV p0) 3)))), .val (.int (minW (maxW ((tV p0) 0) ((tV p0) 1)) (maxW ((tV p0) 2) ((tV p0) 3)))), .val (.int (minW (maxW (minW ((tV p0) 0) ((tV p0) 1)) (minW ((tV p0) 2) ((tV p0) 3))) (minW (maxW ((tV p0) 0) ((tV p0) 1)) (maxW ((tV p0) 2) ((tV p0) 3))))), .val (.int (maxW (maxW (minW ((tV p0) 0) ((tV p0) 1)) (minW ((tV p0) 2) ((tV p0) 3))) (minW (maxW ((tV p0) 0) ((tV p0) 1)) (maxW ((tV p0) 2) ((tV p0) 3))))), .val (.ref b16), .val (.ref b17), .val (.int (1 : Int32)), .val (.int r0), .val (.int rr0), .val (.int r1), .unset, .unset, .unset, .unset, .unset, .unset] [(.int r1)])
  refine Go.step (fun _ k => XS.iloadN X26.here hx rfl (hb hby at_224) rfl k) ?_
  show Go _ _ _ _ _ _ _ T26 (mkF m 225 #[.val (.int p0), .val (.int p1), .val (.ref b1), .val (.int (minW ((tV p0) 0) ((tV p0) 1))), .val (.int (maxW ((tV p0) 0) ((tV p0) 1))), .val (.int (minW ((tV p0) 2) ((tV p0) 3))), .val (.int (maxW ((tV p0) 2) ((tV p0) 3))), .val (.int (minW (minW ((tV p0) 0) ((tV p0) 1)) (minW ((tV p0) 2) ((tV p0) 3)))), .val (.int (maxW (minW ((tV p0) 0) ((tV p0) 1)) (minW ((tV p0) 2) ((tV p0) 3)))), .val (.int (maxW (maxW ((tV p0) 0) ((tV p0) 1)) (maxW ((tV p0) 2) ((tV p0) 3)))), .val (.int (minW (maxW ((tV p0) 0) ((tV p0) 1)) (maxW ((tV p0) 2) ((tV p0) 3)))), .val (.int (minW (maxW (minW ((tV p0) 0) ((tV p0) 1)) (minW ((tV p0) 2) ((tV p0) 3))) (minW (maxW ((tV p0) 0) ((tV p0) 1)) (maxW ((tV p0) 2) ((tV p0) 3))))), .val (.int (maxW (maxW (minW ((tV p0) 0) ((tV p0) 1)) (minW ((tV p0) 2) ((tV p0) 3))) (minW (maxW ((tV p0) 0) ((tV p0) 1)) (maxW ((tV p0) 2) ((tV p0) 3))))), .val (.ref b16), .val (.ref b17), .val (.int (1 : Int32)), .val (.int r0), .val (.int rr0), .val (.int r1), .unset, .unset, .unset, .unset, .unset, .unset] [(.int p1), (.int r1)])
  refine Go.step (fun _ k => XS.aloadN X26.here hx rfl (hb hby at_225) rfl rfl k) ?_
  show Go _ _ _ _ _ _ _ T26 (mkF m 226 #[.val (.int p0), .val (.int p1), .val (.ref b1), .val (.int (minW ((tV p0) 0) ((tV p0) 1))), .val (.int (maxW ((tV p0) 0) ((tV p0) 1))), .val (.int (minW ((tV p0) 2) ((tV p0) 3))), .val (.int (maxW ((tV p0) 2) ((tV p0) 3))), .val (.int (minW (minW ((tV p0) 0) ((tV p0) 1)) (minW ((tV p0) 2) ((tV p0) 3)))), .val (.int (maxW (minW ((tV p0) 0) ((tV p0) 1)) (minW ((tV p0) 2) ((tV p0) 3)))), .val (.int (maxW (maxW ((tV p0) 0) ((tV p0) 1)) (maxW ((tV p0) 2) ((tV p0) 3)))), .val (.int (minW (maxW ((tV p0) 0) ((tV p0) 1)) (maxW ((tV p0) 2) ((tV p0) 3)))), .val (.int (minW (maxW (minW ((tV p0) 0) ((tV p0) 1)) (minW ((tV p0) 2) ((tV p0) 3))) (minW (maxW ((tV p0) 0) ((tV p0) 1)) (maxW ((tV p0) 2) ((tV p0) 3))))), .val (.int (maxW (maxW (minW ((tV p0) 0) ((tV p0) 1)) (minW ((tV p0) 2) ((tV p0) 3))) (minW (maxW ((tV p0) 0) ((tV p0) 1)) (maxW ((tV p0) 2) ((tV p0) 3))))), .val (.ref b16), .val (.ref b17), .val (.int (1 : Int32)), .val (.int r0), .val (.int rr0), .val (.int r1), .unset, .unset, .unset, .unset, .unset, .unset] [(.ref b1), (.int p1), (.int r1)])
  refine Go.step (fun _ k => XS.aload X26.here hx rfl (hb hby at_226) rfl rfl k) ?_
  show Go _ _ _ _ _ _ _ T26 (mkF m 228 #[.val (.int p0), .val (.int p1), .val (.ref b1), .val (.int (minW ((tV p0) 0) ((tV p0) 1))), .val (.int (maxW ((tV p0) 0) ((tV p0) 1))), .val (.int (minW ((tV p0) 2) ((tV p0) 3))), .val (.int (maxW ((tV p0) 2) ((tV p0) 3))), .val (.int (minW (minW ((tV p0) 0) ((tV p0) 1)) (minW ((tV p0) 2) ((tV p0) 3)))), .val (.int (maxW (minW ((tV p0) 0) ((tV p0) 1)) (minW ((tV p0) 2) ((tV p0) 3)))), .val (.int (maxW (maxW ((tV p0) 0) ((tV p0) 1)) (maxW ((tV p0) 2) ((tV p0) 3)))), .val (.int (minW (maxW ((tV p0) 0) ((tV p0) 1)) (maxW ((tV p0) 2) ((tV p0) 3)))), .val (.int (minW (maxW (minW ((tV p0) 0) ((tV p0) 1)) (minW ((tV p0) 2) ((tV p0) 3))) (minW (maxW ((tV p0) 0) ((tV p0) 1)) (maxW ((tV p0) 2) ((tV p0) 3))))), .val (.int (maxW (maxW (minW ((tV p0) 0) ((tV p0) 1)) (minW ((tV p0) 2) ((tV p0) 3))) (minW (maxW ((tV p0) 0) ((tV p0) 1)) (maxW ((tV p0) 2) ((tV p0) 3))))), .val (.ref b16), .val (.ref b17), .val (.int (1 : Int32)), .val (.int r0), .val (.int rr0), .val (.int r1), .unset, .unset, .unset, .unset, .unset, .unset] [(.ref b16), (.ref b1), (.int p1), (.int r1)])
  refine Go.step (fun _ k => XS.iload X26.here hx rfl (hb hby at_228) rfl k) ?_
  show Go _ _ _ _ _ _ _ T26 (mkF m 230 #[.val (.int p0), .val (.int p1), .val (.ref b1), .val (.int (minW ((tV p0) 0) ((tV p0) 1))), .val (.int (maxW ((tV p0) 0) ((tV p0) 1))), .val (.int (minW ((tV p0) 2) ((tV p0) 3))), .val (.int (maxW ((tV p0) 2) ((tV p0) 3))), .val (.int (minW (minW ((tV p0) 0) ((tV p0) 1)) (minW ((tV p0) 2) ((tV p0) 3)))), .val (.int (maxW (minW ((tV p0) 0) ((tV p0) 1)) (minW ((tV p0) 2) ((tV p0) 3)))), .val (.int (maxW (maxW ((tV p0) 0) ((tV p0) 1)) (maxW ((tV p0) 2) ((tV p0) 3)))), .val (.int (minW (maxW ((tV p0) 0) ((tV p0) 1)) (maxW ((tV p0) 2) ((tV p0) 3)))), .val (.int (minW (maxW (minW ((tV p0) 0) ((tV p0) 1)) (minW ((tV p0) 2) ((tV p0) 3))) (minW (maxW ((tV p0) 0) ((tV p0) 1)) (maxW ((tV p0) 2) ((tV p0) 3))))), .val (.int (maxW (maxW (minW ((tV p0) 0) ((tV p0) 1)) (minW ((tV p0) 2) ((tV p0) 3))) (minW (maxW ((tV p0) 0) ((tV p0) 1)) (maxW ((tV p0) 2) ((tV p0) 3))))), .val (.ref b16), .val (.ref b17), .val (.int (1 : Int32)), .val (.int r0), .val (.int rr0), .val (.int r1), .unset, .unset, .unset, .unset, .unset, .unset] [(.int (minW (maxW (minW ((tV p0) 0) ((tV p0) 1)) (minW ((tV p0) 2) ((tV p0) 3))) (minW (maxW ((tV p0) 0) ((tV p0) 1)) (maxW ((tV p0) 2) ((tV p0) 3))))), (.ref b16), (.ref b1), (.int p1), (.int r1)])
  refine Go.callS X26 hx hZ (by rw [hml]; rfl) (y := (⟨"com/example/wavegrade/wavegrade/DepartureQueueAddPinLaw", "take", "(II[I[ZI)Z"⟩ : MethodName)) (argsL := [(.int r1), (.int p1), (.ref b1), (.ref b16), (.int (minW (maxW (minW ((tV p0) 0) ((tV p0) 1)) (minW ((tV p0) 2) ((tV p0) 3))) (minW (maxW ((tV p0) 0) ((tV p0) 1)) (maxW ((tV p0) 2) ((tV p0) 3)))))]) (rest := []) hown (hw _ (List.mem_of_getElem? (i := 40) rfl)) (hw _ (List.mem_of_getElem? (i := 41) rfl)) (hw _ (List.mem_of_getElem? (i := 42) rfl)) (hw _ (List.mem_of_getElem? (i := 43) rfl)) (by decide) (rm8 l Z a0 hw r1 p1 b1 b16 (tV p0) uu0 (minW (maxW (minW ((tV p0) 0) ((tV p0) 1)) (minW ((tV p0) 2) ((tV p0) 3))) (minW (maxW ((tV p0) 0) ((tV p0) 1)) (maxW ((tV p0) 2) ((tV p0) 3)))) T26.heap n0 (Nat.le_trans Z0 (KK26 : Keep h0 T26.heap []).1) Vtv_26 Vc25_26 ne_b1_b16 ge_b16 ⟨hr1.1, hr1.2.1, hr1.2.2.1⟩) rfl (hb hby at_230) (lenOf pd_5 rfl) rfl rfl (W := 0) (Nat.le_of_eq rfl) (by decide) (by decide) (by decide) (by decide) ?_
  intro v27 T27 L27 X27 Q27
  obtain ⟨rr1, uu1, rfl, N27q, Kc27, Vc27, hu1, ht1⟩ := Q27
  have N27 := Fr.app N26 N27q
  have Vtv_27 := Vtv_26.keep Kc27 (ninS ne_b1_b16 nin0)
  have Ec26_27 := Ec26.keep Kc27
  have Fs26_27 := Fs26.keep Kc27 (ninS (Ne.symm ne_b16_b17) nin0)
  have Ft26_27 := Ft26.keep Kc27 (ninS (Ne.symm ne_b16_b17) nin0)
  have Fl26_27 := Fl26.keep Kc27 (ninS (Ne.symm ne_b16_b17) nin0)
  have Vu26_27 := Vu26.keep Kc27 (ninS (Ne.symm ne_b16_u18) nin0)
  have Vv26_27 := Vv26.keep Kc27 (ninS (Ne.symm ne_b16_v18) nin0)
  have KK27 : Keep h0 T27.heap [] := (KK26 : Keep h0 T26.heap []).trans Kc27 (allS (Or.inr sz_b16) all0)
  show Go _ _ _ _ _ _ _ T27 (mkF m 233 #[.val (.int p0), .val (.int p1), .val (.ref b1), .val (.int (minW ((tV p0) 0) ((tV p0) 1))), .val (.int (maxW ((tV p0) 0) ((tV p0) 1))), .val (.int (minW ((tV p0) 2) ((tV p0) 3))), .val (.int (maxW ((tV p0) 2) ((tV p0) 3))), .val (.int (minW (minW ((tV p0) 0) ((tV p0) 1)) (minW ((tV p0) 2) ((tV p0) 3)))), .val (.int (maxW (minW ((tV p0) 0) ((tV p0) 1)) (minW ((tV p0) 2) ((tV p0) 3)))), .val (.int (maxW (maxW ((tV p0) 0) ((tV p0) 1)) (maxW ((tV p0) 2) ((tV p0) 3)))), .val (.int (minW (maxW ((tV p0) 0) ((tV p0) 1)) (maxW ((tV p0) 2) ((tV p0) 3)))), .val (.int (minW (maxW (minW ((tV p0) 0) ((tV p0) 1)) (minW ((tV p0) 2) ((tV p0) 3))) (minW (maxW ((tV p0) 0) ((tV p0) 1)) (maxW ((tV p0) 2) ((tV p0) 3))))), .val (.int (maxW (maxW (minW ((tV p0) 0) ((tV p0) 1)) (minW ((tV p0) 2) ((tV p0) 3))) (minW (maxW ((tV p0) 0) ((tV p0) 1)) (maxW ((tV p0) 2) ((tV p0) 3))))), .val (.ref b16), .val (.ref b17), .val (.int (1 : Int32)), .val (.int r0), .val (.int rr0), .val (.int r1), .unset, .unset, .unset, .unset, .unset, .unset] [(.int rr1)])
  refine Go.step (fun _ k => XS.istore X27.here hx rfl (hb hby at_233) rfl (l' := #[.val (.int p0), .val (.int p1), .val (.ref b1), .val (.int (minW ((tV p0) 0) ((tV p0) 1))), .val (.int (maxW ((tV p0) 0) ((tV p0) 1))), .val (.int (minW ((tV p0) 2) ((tV p0) 3))), .val (.int (maxW ((tV p0) 2) ((tV p0) 3))), .val (.int (minW (minW ((tV p0) 0) ((tV p0) 1)) (minW ((tV p0) 2) ((tV p0) 3)))), .val (.int (maxW (minW ((tV p0) 0) ((tV p0) 1)) (minW ((tV p0) 2) ((tV p0) 3)))), .val (.int (maxW (maxW ((tV p0) 0) ((tV p0) 1)) (maxW ((tV p0) 2) ((tV p0) 3)))), .val (.int (minW (maxW ((tV p0) 0) ((tV p0) 1)) (maxW ((tV p0) 2) ((tV p0) 3)))), .val (.int (minW (maxW (minW ((tV p0) 0) ((tV p0) 1)) (minW ((tV p0) 2) ((tV p0) 3))) (minW (maxW ((tV p0) 0) ((tV p0) 1)) (maxW ((tV p0) 2) ((tV p0) 3))))), .val (.int (maxW (maxW (minW ((tV p0) 0) ((tV p0) 1)) (minW ((tV p0) 2) ((tV p0) 3))) (minW (maxW ((tV p0) 0) ((tV p0) 1)) (maxW ((tV p0) 2) ((tV p0) 3))))), .val (.ref b16), .val (.ref b17), .val (.int (1 : Int32)), .val (.int r0), .val (.int rr0), .val (.int r1), .val (.int rr1), .unset, .unset, .unset, .unset, .unset]) rfl k) ?_
  show Go _ _ _ _ _ _ _ T27 (mkF m 235 #[.val (.int p0), .val (.int p1), .val (.ref b1), .val (.int (minW ((tV p0) 0) ((tV p0) 1))), .val (.int (maxW ((tV p0) 0) ((tV p0) 1))), .val (.int (minW ((tV p0) 2) ((tV p0) 3))), .val (.int (maxW ((tV p0) 2) ((tV p0) 3))), .val (.int (minW (minW ((tV p0) 0) ((tV p0) 1)) (minW ((tV p0) 2) ((tV p0) 3)))), .val (.int (maxW (minW ((tV p0) 0) ((tV p0) 1)) (minW ((tV p0) 2) ((tV p0) 3)))), .val (.int (maxW (maxW ((tV p0) 0) ((tV p0) 1)) (maxW ((tV p0) 2) ((tV p0) 3)))), .val (.int (minW (maxW ((tV p0) 0) ((tV p0) 1)) (maxW ((tV p0) 2) ((tV p0) 3)))), .val (.int (minW (maxW (minW ((tV p0) 0) ((tV p0) 1)) (minW ((tV p0) 2) ((tV p0) 3))) (minW (maxW ((tV p0) 0) ((tV p0) 1)) (maxW ((tV p0) 2) ((tV p0) 3))))), .val (.int (maxW (maxW (minW ((tV p0) 0) ((tV p0) 1)) (minW ((tV p0) 2) ((tV p0) 3))) (minW (maxW ((tV p0) 0) ((tV p0) 1)) (maxW ((tV p0) 2) ((tV p0) 3))))), .val (.ref b16), .val (.ref b17), .val (.int (1 : Int32)), .val (.int r0), .val (.int rr0), .val (.int r1), .val (.int rr1), .unset, .unset, .unset, .unset, .unset] [])
  refine Go.step (fun _ k => XS.aload X27.here hx rfl (hb hby at_235) rfl rfl k) ?_
  show Go _ _ _ _ _ _ _ T27 (mkF m 237 #[.val (.int p0), .val (.int p1), .val (.ref b1), .val (.int (minW ((tV p0) 0) ((tV p0) 1))), .val (.int (maxW ((tV p0) 0) ((tV p0) 1))), .val (.int (minW ((tV p0) 2) ((tV p0) 3))), .val (.int (maxW ((tV p0) 2) ((tV p0) 3))), .val (.int (minW (minW ((tV p0) 0) ((tV p0) 1)) (minW ((tV p0) 2) ((tV p0) 3)))), .val (.int (maxW (minW ((tV p0) 0) ((tV p0) 1)) (minW ((tV p0) 2) ((tV p0) 3)))), .val (.int (maxW (maxW ((tV p0) 0) ((tV p0) 1)) (maxW ((tV p0) 2) ((tV p0) 3)))), .val (.int (minW (maxW ((tV p0) 0) ((tV p0) 1)) (maxW ((tV p0) 2) ((tV p0) 3)))), .val (.int (minW (maxW (minW ((tV p0) 0) ((tV p0) 1)) (minW ((tV p0) 2) ((tV p0) 3))) (minW (maxW ((tV p0) 0) ((tV p0) 1)) (maxW ((tV p0) 2) ((tV p0) 3))))), .val (.int (maxW (maxW (minW ((tV p0) 0) ((tV p0) 1)) (minW ((tV p0) 2) ((tV p0) 3))) (minW (maxW ((tV p0) 0) ((tV p0) 1)) (maxW ((tV p0) 2) ((tV p0) 3))))), .val (.ref b16), .val (.ref b17), .val (.int (1 : Int32)), .val (.int r0), .val (.int rr0), .val (.int r1), .val (.int rr1), .unset, .unset, .unset, .unset, .unset] [(.ref b17)])
  refine Go.callV X27 hx hZ (by rw [hml]; rfl) (y := (⟨"com/example/wavegrade/wavegrade/DepartureQueue", "removeFirst", "()I"⟩ : MethodName)) (z := (⟨"com/example/wavegrade/wavegrade/DepartureQueue", "removeFirst", "()I"⟩ : MethodName)) (a := b17) (argsL := []) (rest := []) hown (hw _ (List.mem_of_getElem? (i := 35) rfl)) (hw _ (List.mem_of_getElem? (i := 36) rfl)) (notFace_of_selects (args := #[]) (mvT hZ (hw _ (List.mem_of_getElem? (i := 38) rfl)))) (hw _ (List.mem_of_getElem? (i := 38) rfl)) (hw _ (List.mem_of_getElem? (i := 37) rfl)) (hw _ (List.mem_of_getElem? (i := 11) rfl)) (hw _ (List.mem_of_getElem? (i := 39) rfl)) (by decide) (rm_rem2 l Z a0 hw b17 u18 v18 g26x l26x (tT p0) (tL p1) (tK p0) a26x T27.heap n0 (Nat.le_trans Z0 (KK27 : Keep h0 T27.heap []).1) Ec26_27 Fs26_27 Ft26_27 Fl26_27 Vu26_27 Vv26_27 nqu18 nqv18 nuv18 ge_b17 ge_u18 ge_v18 (tH p0) hg26 hl26 hi26) rfl Ec26_27 (hb hby at_237) (lenOf pd_4 rfl) rfl rfl (W := 0) (Nat.le_of_eq rfl) (by decide) (by decide) (by decide) (by decide) ?_
  intro v28 T28 L28 X28 Q28
  obtain ⟨rfl, N28q, Kc28, Ec28, Fs28, Ft28, Fl28, g28x, l28x, a28x, Vu28, Vv28, hg28, hl28, hi28, ⟨hm28, hs28⟩, hP28⟩ := Q28
  have N28 := Fr.app N27 N28q
  have Vtv_28 := Vtv_27.keep Kc28 (ninS ne_b1_b17 (ninS ne_b1_u18 (ninS ne_b1_v18 nin0)))
  have Ec26_28 := Ec26_27.keep Kc28
  have Vc27_28 := Vc27.keep Kc28 (ninS ne_b16_b17 (ninS ne_b16_u18 (ninS ne_b16_v18 nin0)))
  have KK28 : Keep h0 T28.heap [] := (KK27 : Keep h0 T27.heap []).trans Kc28 (allS (Or.inr sz_b17) (allS (Or.inr sz_u18) (allS (Or.inr sz_v18) all0)))
  show Go _ _ _ _ _ _ _ T28 (mkF m 240 #[.val (.int p0), .val (.int p1), .val (.ref b1), .val (.int (minW ((tV p0) 0) ((tV p0) 1))), .val (.int (maxW ((tV p0) 0) ((tV p0) 1))), .val (.int (minW ((tV p0) 2) ((tV p0) 3))), .val (.int (maxW ((tV p0) 2) ((tV p0) 3))), .val (.int (minW (minW ((tV p0) 0) ((tV p0) 1)) (minW ((tV p0) 2) ((tV p0) 3)))), .val (.int (maxW (minW ((tV p0) 0) ((tV p0) 1)) (minW ((tV p0) 2) ((tV p0) 3)))), .val (.int (maxW (maxW ((tV p0) 0) ((tV p0) 1)) (maxW ((tV p0) 2) ((tV p0) 3)))), .val (.int (minW (maxW ((tV p0) 0) ((tV p0) 1)) (maxW ((tV p0) 2) ((tV p0) 3)))), .val (.int (minW (maxW (minW ((tV p0) 0) ((tV p0) 1)) (minW ((tV p0) 2) ((tV p0) 3))) (minW (maxW ((tV p0) 0) ((tV p0) 1)) (maxW ((tV p0) 2) ((tV p0) 3))))), .val (.int (maxW (maxW (minW ((tV p0) 0) ((tV p0) 1)) (minW ((tV p0) 2) ((tV p0) 3))) (minW (maxW ((tV p0) 0) ((tV p0) 1)) (maxW ((tV p0) 2) ((tV p0) 3))))), .val (.ref b16), .val (.ref b17), .val (.int (1 : Int32)), .val (.int r0), .val (.int rr0), .val (.int r1), .val (.int rr1), .unset, .unset, .unset, .unset, .unset] [(.int ((tL p1) (a26x 0)))])
  refine Go.step (fun _ k => XS.istore X28.here hx rfl (hb hby at_240) rfl (l' := #[.val (.int p0), .val (.int p1), .val (.ref b1), .val (.int (minW ((tV p0) 0) ((tV p0) 1))), .val (.int (maxW ((tV p0) 0) ((tV p0) 1))), .val (.int (minW ((tV p0) 2) ((tV p0) 3))), .val (.int (maxW ((tV p0) 2) ((tV p0) 3))), .val (.int (minW (minW ((tV p0) 0) ((tV p0) 1)) (minW ((tV p0) 2) ((tV p0) 3)))), .val (.int (maxW (minW ((tV p0) 0) ((tV p0) 1)) (minW ((tV p0) 2) ((tV p0) 3)))), .val (.int (maxW (maxW ((tV p0) 0) ((tV p0) 1)) (maxW ((tV p0) 2) ((tV p0) 3)))), .val (.int (minW (maxW ((tV p0) 0) ((tV p0) 1)) (maxW ((tV p0) 2) ((tV p0) 3)))), .val (.int (minW (maxW (minW ((tV p0) 0) ((tV p0) 1)) (minW ((tV p0) 2) ((tV p0) 3))) (minW (maxW ((tV p0) 0) ((tV p0) 1)) (maxW ((tV p0) 2) ((tV p0) 3))))), .val (.int (maxW (maxW (minW ((tV p0) 0) ((tV p0) 1)) (minW ((tV p0) 2) ((tV p0) 3))) (minW (maxW ((tV p0) 0) ((tV p0) 1)) (maxW ((tV p0) 2) ((tV p0) 3))))), .val (.ref b16), .val (.ref b17), .val (.int (1 : Int32)), .val (.int r0), .val (.int rr0), .val (.int r1), .val (.int rr1), .val (.int ((tL p1) (a26x 0))), .unset, .unset, .unset, .unset]) rfl k) ?_
  have c2 : a26x 0 < 4 := b26 0 (by decide)
  have b28 := hP28 (fun x => x < 4) b26
  have k2 := hm28 0 (by decide)
  obtain ⟨r2, h_r2⟩ : ∃ z, z = ((tL p1) (a26x 0)) := ⟨_, rfl⟩
  rw [← h_r2]
  have hr2 := own_r c2 h_r2
  show Go _ _ _ _ _ _ _ T28 (mkF m 242 #[.val (.int p0), .val (.int p1), .val (.ref b1), .val (.int (minW ((tV p0) 0) ((tV p0) 1))), .val (.int (maxW ((tV p0) 0) ((tV p0) 1))), .val (.int (minW ((tV p0) 2) ((tV p0) 3))), .val (.int (maxW ((tV p0) 2) ((tV p0) 3))), .val (.int (minW (minW ((tV p0) 0) ((tV p0) 1)) (minW ((tV p0) 2) ((tV p0) 3)))), .val (.int (maxW (minW ((tV p0) 0) ((tV p0) 1)) (minW ((tV p0) 2) ((tV p0) 3)))), .val (.int (maxW (maxW ((tV p0) 0) ((tV p0) 1)) (maxW ((tV p0) 2) ((tV p0) 3)))), .val (.int (minW (maxW ((tV p0) 0) ((tV p0) 1)) (maxW ((tV p0) 2) ((tV p0) 3)))), .val (.int (minW (maxW (minW ((tV p0) 0) ((tV p0) 1)) (minW ((tV p0) 2) ((tV p0) 3))) (minW (maxW ((tV p0) 0) ((tV p0) 1)) (maxW ((tV p0) 2) ((tV p0) 3))))), .val (.int (maxW (maxW (minW ((tV p0) 0) ((tV p0) 1)) (minW ((tV p0) 2) ((tV p0) 3))) (minW (maxW ((tV p0) 0) ((tV p0) 1)) (maxW ((tV p0) 2) ((tV p0) 3))))), .val (.ref b16), .val (.ref b17), .val (.int (1 : Int32)), .val (.int r0), .val (.int rr0), .val (.int r1), .val (.int rr1), .val (.int r2), .unset, .unset, .unset, .unset] [])
  refine Go.step (fun _ k => XS.iload X28.here hx rfl (hb hby at_242) rfl k) ?_
  show Go _ _ _ _ _ _ _ T28 (mkF m 244 #[.val (.int p0), .val (.int p1), .val (.ref b1), .val (.int (minW ((tV p0) 0) ((tV p0) 1))), .val (.int (maxW ((tV p0) 0) ((tV p0) 1))), .val (.int (minW ((tV p0) 2) ((tV p0) 3))), .val (.int (maxW ((tV p0) 2) ((tV p0) 3))), .val (.int (minW (minW ((tV p0) 0) ((tV p0) 1)) (minW ((tV p0) 2) ((tV p0) 3)))), .val (.int (maxW (minW ((tV p0) 0) ((tV p0) 1)) (minW ((tV p0) 2) ((tV p0) 3)))), .val (.int (maxW (maxW ((tV p0) 0) ((tV p0) 1)) (maxW ((tV p0) 2) ((tV p0) 3)))), .val (.int (minW (maxW ((tV p0) 0) ((tV p0) 1)) (maxW ((tV p0) 2) ((tV p0) 3)))), .val (.int (minW (maxW (minW ((tV p0) 0) ((tV p0) 1)) (minW ((tV p0) 2) ((tV p0) 3))) (minW (maxW ((tV p0) 0) ((tV p0) 1)) (maxW ((tV p0) 2) ((tV p0) 3))))), .val (.int (maxW (maxW (minW ((tV p0) 0) ((tV p0) 1)) (minW ((tV p0) 2) ((tV p0) 3))) (minW (maxW ((tV p0) 0) ((tV p0) 1)) (maxW ((tV p0) 2) ((tV p0) 3))))), .val (.ref b16), .val (.ref b17), .val (.int (1 : Int32)), .val (.int r0), .val (.int rr0), .val (.int r1), .val (.int rr1), .val (.int r2), .unset, .unset, .unset, .unset] [(.int r2)])
  refine Go.step (fun _ k => XS.iloadN X28.here hx rfl (hb hby at_244) rfl k) ?_
  show Go _ _ _ _ _ _ _ T28 (mkF m 245 #[.val (.int p0), .val (.int p1), .val (.ref b1), .val (.int (minW ((tV p0) 0) ((tV p0) 1))), .val (.int (maxW ((tV p0) 0) ((tV p0) 1))), .val (.int (minW ((tV p0) 2) ((tV p0) 3))), .val (.int (maxW ((tV p0) 2) ((tV p0) 3))), .val (.int (minW (minW ((tV p0) 0) ((tV p0) 1)) (minW ((tV p0) 2) ((tV p0) 3)))), .val (.int (maxW (minW ((tV p0) 0) ((tV p0) 1)) (minW ((tV p0) 2) ((tV p0) 3)))), .val (.int (maxW (maxW ((tV p0) 0) ((tV p0) 1)) (maxW ((tV p0) 2) ((tV p0) 3)))), .val (.int (minW (maxW ((tV p0) 0) ((tV p0) 1)) (maxW ((tV p0) 2) ((tV p0) 3)))), .val (.int (minW (maxW (minW ((tV p0) 0) ((tV p0) 1)) (minW ((tV p0) 2) ((tV p0) 3))) (minW (maxW ((tV p0) 0) ((tV p0) 1)) (maxW ((tV p0) 2) ((tV p0) 3))))), .val (.int (maxW (maxW (minW ((tV p0) 0) ((tV p0) 1)) (minW ((tV p0) 2) ((tV p0) 3))) (minW (maxW ((tV p0) 0) ((tV p0) 1)) (maxW ((tV p0) 2) ((tV p0) 3))))), .val (.ref b16), .val (.ref b17), .val (.int (1 : Int32)), .val (.int r0), .val (.int rr0), .val (.int r1), .val (.int rr1), .val (.int r2), .unset, .unset, .unset, .unset] [(.int p1), (.int r2)])
  refine Go.step (fun _ k => XS.aloadN X28.here hx rfl (hb hby at_245) rfl rfl k) ?_
  show Go _ _ _ _ _ _ _ T28 (mkF m 246 #[.val (.int p0), .val (.int p1), .val (.ref b1), .val (.int (minW ((tV p0) 0) ((tV p0) 1))), .val (.int (maxW ((tV p0) 0) ((tV p0) 1))), .val (.int (minW ((tV p0) 2) ((tV p0) 3))), .val (.int (maxW ((tV p0) 2) ((tV p0) 3))), .val (.int (minW (minW ((tV p0) 0) ((tV p0) 1)) (minW ((tV p0) 2) ((tV p0) 3)))), .val (.int (maxW (minW ((tV p0) 0) ((tV p0) 1)) (minW ((tV p0) 2) ((tV p0) 3)))), .val (.int (maxW (maxW ((tV p0) 0) ((tV p0) 1)) (maxW ((tV p0) 2) ((tV p0) 3)))), .val (.int (minW (maxW ((tV p0) 0) ((tV p0) 1)) (maxW ((tV p0) 2) ((tV p0) 3)))), .val (.int (minW (maxW (minW ((tV p0) 0) ((tV p0) 1)) (minW ((tV p0) 2) ((tV p0) 3))) (minW (maxW ((tV p0) 0) ((tV p0) 1)) (maxW ((tV p0) 2) ((tV p0) 3))))), .val (.int (maxW (maxW (minW ((tV p0) 0) ((tV p0) 1)) (minW ((tV p0) 2) ((tV p0) 3))) (minW (maxW ((tV p0) 0) ((tV p0) 1)) (maxW ((tV p0) 2) ((tV p0) 3))))), .val (.ref b16), .val (.ref b17), .val (.int (1 : Int32)), .val (.int r0), .val (.int rr0), .val (.int r1), .val (.int rr1), .val (.int r2), .unset, .unset, .unset, .unset] [(.ref b1), (.int p1), (.int r2)])
  refine Go.step (fun _ k => XS.aload X28.here hx rfl (hb hby at_246) rfl rfl k) ?_
  show Go _ _ _ _ _ _ _ T28 (mkF m 248 #[.val (.int p0), .val (.int p1), .val (.ref b1), .val (.int (minW ((tV p0) 0) ((tV p0) 1))), .val (.int (maxW ((tV p0) 0) ((tV p0) 1))), .val (.int (minW ((tV p0) 2) ((tV p0) 3))), .val (.int (maxW ((tV p0) 2) ((tV p0) 3))), .val (.int (minW (minW ((tV p0) 0) ((tV p0) 1)) (minW ((tV p0) 2) ((tV p0) 3)))), .val (.int (maxW (minW ((tV p0) 0) ((tV p0) 1)) (minW ((tV p0) 2) ((tV p0) 3)))), .val (.int (maxW (maxW ((tV p0) 0) ((tV p0) 1)) (maxW ((tV p0) 2) ((tV p0) 3)))), .val (.int (minW (maxW ((tV p0) 0) ((tV p0) 1)) (maxW ((tV p0) 2) ((tV p0) 3)))), .val (.int (minW (maxW (minW ((tV p0) 0) ((tV p0) 1)) (minW ((tV p0) 2) ((tV p0) 3))) (minW (maxW ((tV p0) 0) ((tV p0) 1)) (maxW ((tV p0) 2) ((tV p0) 3))))), .val (.int (maxW (maxW (minW ((tV p0) 0) ((tV p0) 1)) (minW ((tV p0) 2) ((tV p0) 3))) (minW (maxW ((tV p0) 0) ((tV p0) 1)) (maxW ((tV p0) 2) ((tV p0) 3))))), .val (.ref b16), .val (.ref b17), .val (.int (1 : Int32)), .val (.int r0), .val (.int rr0), .val (.int r1), .val (.int rr1), .val (.int r2), .unset, .unset, .unset, .unset] [(.ref b16), (.ref b1), (.int p1), (.int r2)])
  refine Go.step (fun _ k => XS.iload X28.here hx rfl (hb hby at_248) rfl k) ?_
  show Go _ _ _ _ _ _ _ T28 (mkF m 250 #[.val (.int p0), .val (.int p1), .val (.ref b1), .val (.int (minW ((tV p0) 0) ((tV p0) 1))), .val (.int (maxW ((tV p0) 0) ((tV p0) 1))), .val (.int (minW ((tV p0) 2) ((tV p0) 3))), .val (.int (maxW ((tV p0) 2) ((tV p0) 3))), .val (.int (minW (minW ((tV p0) 0) ((tV p0) 1)) (minW ((tV p0) 2) ((tV p0) 3)))), .val (.int (maxW (minW ((tV p0) 0) ((tV p0) 1)) (minW ((tV p0) 2) ((tV p0) 3)))), .val (.int (maxW (maxW ((tV p0) 0) ((tV p0) 1)) (maxW ((tV p0) 2) ((tV p0) 3)))), .val (.int (minW (maxW ((tV p0) 0) ((tV p0) 1)) (maxW ((tV p0) 2) ((tV p0) 3)))), .val (.int (minW (maxW (minW ((tV p0) 0) ((tV p0) 1)) (minW ((tV p0) 2) ((tV p0) 3))) (minW (maxW ((tV p0) 0) ((tV p0) 1)) (maxW ((tV p0) 2) ((tV p0) 3))))), .val (.int (maxW (maxW (minW ((tV p0) 0) ((tV p0) 1)) (minW ((tV p0) 2) ((tV p0) 3))) (minW (maxW ((tV p0) 0) ((tV p0) 1)) (maxW ((tV p0) 2) ((tV p0) 3))))), .val (.ref b16), .val (.ref b17), .val (.int (1 : Int32)), .val (.int r0), .val (.int rr0), .val (.int r1), .val (.int rr1), .val (.int r2), .unset, .unset, .unset, .unset] [(.int (maxW (maxW (minW ((tV p0) 0) ((tV p0) 1)) (minW ((tV p0) 2) ((tV p0) 3))) (minW (maxW ((tV p0) 0) ((tV p0) 1)) (maxW ((tV p0) 2) ((tV p0) 3))))), (.ref b16), (.ref b1), (.int p1), (.int r2)])
  refine Go.callS X28 hx hZ (by rw [hml]; rfl) (y := (⟨"com/example/wavegrade/wavegrade/DepartureQueueAddPinLaw", "take", "(II[I[ZI)Z"⟩ : MethodName)) (argsL := [(.int r2), (.int p1), (.ref b1), (.ref b16), (.int (maxW (maxW (minW ((tV p0) 0) ((tV p0) 1)) (minW ((tV p0) 2) ((tV p0) 3))) (minW (maxW ((tV p0) 0) ((tV p0) 1)) (maxW ((tV p0) 2) ((tV p0) 3)))))]) (rest := []) hown (hw _ (List.mem_of_getElem? (i := 40) rfl)) (hw _ (List.mem_of_getElem? (i := 41) rfl)) (hw _ (List.mem_of_getElem? (i := 42) rfl)) (hw _ (List.mem_of_getElem? (i := 43) rfl)) (by decide) (rm8 l Z a0 hw r2 p1 b1 b16 (tV p0) uu1 (maxW (maxW (minW ((tV p0) 0) ((tV p0) 1)) (minW ((tV p0) 2) ((tV p0) 3))) (minW (maxW ((tV p0) 0) ((tV p0) 1)) (maxW ((tV p0) 2) ((tV p0) 3)))) T28.heap n0 (Nat.le_trans Z0 (KK28 : Keep h0 T28.heap []).1) Vtv_28 Vc27_28 ne_b1_b16 ge_b16 ⟨hr2.1, hr2.2.1, hr2.2.2.1⟩) rfl (hb hby at_250) (lenOf pd_5 rfl) rfl rfl (W := 0) (Nat.le_of_eq rfl) (by decide) (by decide) (by decide) (by decide) ?_
  intro v29 T29 L29 X29 Q29
  obtain ⟨rr2, uu2, rfl, N29q, Kc29, Vc29, hu2, ht2⟩ := Q29
  have N29 := Fr.app N28 N29q
  have Vtv_29 := Vtv_28.keep Kc29 (ninS ne_b1_b16 nin0)
  have Ec28_29 := Ec28.keep Kc29
  have Fs28_29 := Fs28.keep Kc29 (ninS (Ne.symm ne_b16_b17) nin0)
  have Ft28_29 := Ft28.keep Kc29 (ninS (Ne.symm ne_b16_b17) nin0)
  have Fl28_29 := Fl28.keep Kc29 (ninS (Ne.symm ne_b16_b17) nin0)
  have Vu28_29 := Vu28.keep Kc29 (ninS (Ne.symm ne_b16_u18) nin0)
  have Vv28_29 := Vv28.keep Kc29 (ninS (Ne.symm ne_b16_v18) nin0)
  have KK29 : Keep h0 T29.heap [] := (KK28 : Keep h0 T28.heap []).trans Kc29 (allS (Or.inr sz_b16) all0)
  show Go _ _ _ _ _ _ _ T29 (mkF m 253 #[.val (.int p0), .val (.int p1), .val (.ref b1), .val (.int (minW ((tV p0) 0) ((tV p0) 1))), .val (.int (maxW ((tV p0) 0) ((tV p0) 1))), .val (.int (minW ((tV p0) 2) ((tV p0) 3))), .val (.int (maxW ((tV p0) 2) ((tV p0) 3))), .val (.int (minW (minW ((tV p0) 0) ((tV p0) 1)) (minW ((tV p0) 2) ((tV p0) 3)))), .val (.int (maxW (minW ((tV p0) 0) ((tV p0) 1)) (minW ((tV p0) 2) ((tV p0) 3)))), .val (.int (maxW (maxW ((tV p0) 0) ((tV p0) 1)) (maxW ((tV p0) 2) ((tV p0) 3)))), .val (.int (minW (maxW ((tV p0) 0) ((tV p0) 1)) (maxW ((tV p0) 2) ((tV p0) 3)))), .val (.int (minW (maxW (minW ((tV p0) 0) ((tV p0) 1)) (minW ((tV p0) 2) ((tV p0) 3))) (minW (maxW ((tV p0) 0) ((tV p0) 1)) (maxW ((tV p0) 2) ((tV p0) 3))))), .val (.int (maxW (maxW (minW ((tV p0) 0) ((tV p0) 1)) (minW ((tV p0) 2) ((tV p0) 3))) (minW (maxW ((tV p0) 0) ((tV p0) 1)) (maxW ((tV p0) 2) ((tV p0) 3))))), .val (.ref b16), .val (.ref b17), .val (.int (1 : Int32)), .val (.int r0), .val (.int rr0), .val (.int r1), .val (.int rr1), .val (.int r2), .unset, .unset, .unset, .unset] [(.int rr2)])
  refine Go.step (fun _ k => XS.istore X29.here hx rfl (hb hby at_253) rfl (l' := #[.val (.int p0), .val (.int p1), .val (.ref b1), .val (.int (minW ((tV p0) 0) ((tV p0) 1))), .val (.int (maxW ((tV p0) 0) ((tV p0) 1))), .val (.int (minW ((tV p0) 2) ((tV p0) 3))), .val (.int (maxW ((tV p0) 2) ((tV p0) 3))), .val (.int (minW (minW ((tV p0) 0) ((tV p0) 1)) (minW ((tV p0) 2) ((tV p0) 3)))), .val (.int (maxW (minW ((tV p0) 0) ((tV p0) 1)) (minW ((tV p0) 2) ((tV p0) 3)))), .val (.int (maxW (maxW ((tV p0) 0) ((tV p0) 1)) (maxW ((tV p0) 2) ((tV p0) 3)))), .val (.int (minW (maxW ((tV p0) 0) ((tV p0) 1)) (maxW ((tV p0) 2) ((tV p0) 3)))), .val (.int (minW (maxW (minW ((tV p0) 0) ((tV p0) 1)) (minW ((tV p0) 2) ((tV p0) 3))) (minW (maxW ((tV p0) 0) ((tV p0) 1)) (maxW ((tV p0) 2) ((tV p0) 3))))), .val (.int (maxW (maxW (minW ((tV p0) 0) ((tV p0) 1)) (minW ((tV p0) 2) ((tV p0) 3))) (minW (maxW ((tV p0) 0) ((tV p0) 1)) (maxW ((tV p0) 2) ((tV p0) 3))))), .val (.ref b16), .val (.ref b17), .val (.int (1 : Int32)), .val (.int r0), .val (.int rr0), .val (.int r1), .val (.int rr1), .val (.int r2), .val (.int rr2), .unset, .unset, .unset]) rfl k) ?_
  show Go _ _ _ _ _ _ _ T29 (mkF m 255 #[.val (.int p0), .val (.int p1), .val (.ref b1), .val (.int (minW ((tV p0) 0) ((tV p0) 1))), .val (.int (maxW ((tV p0) 0) ((tV p0) 1))), .val (.int (minW ((tV p0) 2) ((tV p0) 3))), .val (.int (maxW ((tV p0) 2) ((tV p0) 3))), .val (.int (minW (minW ((tV p0) 0) ((tV p0) 1)) (minW ((tV p0) 2) ((tV p0) 3)))), .val (.int (maxW (minW ((tV p0) 0) ((tV p0) 1)) (minW ((tV p0) 2) ((tV p0) 3)))), .val (.int (maxW (maxW ((tV p0) 0) ((tV p0) 1)) (maxW ((tV p0) 2) ((tV p0) 3)))), .val (.int (minW (maxW ((tV p0) 0) ((tV p0) 1)) (maxW ((tV p0) 2) ((tV p0) 3)))), .val (.int (minW (maxW (minW ((tV p0) 0) ((tV p0) 1)) (minW ((tV p0) 2) ((tV p0) 3))) (minW (maxW ((tV p0) 0) ((tV p0) 1)) (maxW ((tV p0) 2) ((tV p0) 3))))), .val (.int (maxW (maxW (minW ((tV p0) 0) ((tV p0) 1)) (minW ((tV p0) 2) ((tV p0) 3))) (minW (maxW ((tV p0) 0) ((tV p0) 1)) (maxW ((tV p0) 2) ((tV p0) 3))))), .val (.ref b16), .val (.ref b17), .val (.int (1 : Int32)), .val (.int r0), .val (.int rr0), .val (.int r1), .val (.int rr1), .val (.int r2), .val (.int rr2), .unset, .unset, .unset] [])
  refine Go.step (fun _ k => XS.aload X29.here hx rfl (hb hby at_255) rfl rfl k) ?_
  show Go _ _ _ _ _ _ _ T29 (mkF m 257 #[.val (.int p0), .val (.int p1), .val (.ref b1), .val (.int (minW ((tV p0) 0) ((tV p0) 1))), .val (.int (maxW ((tV p0) 0) ((tV p0) 1))), .val (.int (minW ((tV p0) 2) ((tV p0) 3))), .val (.int (maxW ((tV p0) 2) ((tV p0) 3))), .val (.int (minW (minW ((tV p0) 0) ((tV p0) 1)) (minW ((tV p0) 2) ((tV p0) 3)))), .val (.int (maxW (minW ((tV p0) 0) ((tV p0) 1)) (minW ((tV p0) 2) ((tV p0) 3)))), .val (.int (maxW (maxW ((tV p0) 0) ((tV p0) 1)) (maxW ((tV p0) 2) ((tV p0) 3)))), .val (.int (minW (maxW ((tV p0) 0) ((tV p0) 1)) (maxW ((tV p0) 2) ((tV p0) 3)))), .val (.int (minW (maxW (minW ((tV p0) 0) ((tV p0) 1)) (minW ((tV p0) 2) ((tV p0) 3))) (minW (maxW ((tV p0) 0) ((tV p0) 1)) (maxW ((tV p0) 2) ((tV p0) 3))))), .val (.int (maxW (maxW (minW ((tV p0) 0) ((tV p0) 1)) (minW ((tV p0) 2) ((tV p0) 3))) (minW (maxW ((tV p0) 0) ((tV p0) 1)) (maxW ((tV p0) 2) ((tV p0) 3))))), .val (.ref b16), .val (.ref b17), .val (.int (1 : Int32)), .val (.int r0), .val (.int rr0), .val (.int r1), .val (.int rr1), .val (.int r2), .val (.int rr2), .unset, .unset, .unset] [(.ref b17)])
  refine Go.callV X29 hx hZ (by rw [hml]; rfl) (y := (⟨"com/example/wavegrade/wavegrade/DepartureQueue", "removeFirst", "()I"⟩ : MethodName)) (z := (⟨"com/example/wavegrade/wavegrade/DepartureQueue", "removeFirst", "()I"⟩ : MethodName)) (a := b17) (argsL := []) (rest := []) hown (hw _ (List.mem_of_getElem? (i := 35) rfl)) (hw _ (List.mem_of_getElem? (i := 36) rfl)) (notFace_of_selects (args := #[]) (mvT hZ (hw _ (List.mem_of_getElem? (i := 38) rfl)))) (hw _ (List.mem_of_getElem? (i := 38) rfl)) (hw _ (List.mem_of_getElem? (i := 37) rfl)) (hw _ (List.mem_of_getElem? (i := 11) rfl)) (hw _ (List.mem_of_getElem? (i := 39) rfl)) (by decide) (rm_rem1 l Z a0 hw b17 u18 v18 g28x l28x (tT p0) (tL p1) (tK p0) a28x T29.heap n0 (Nat.le_trans Z0 (KK29 : Keep h0 T29.heap []).1) Ec28_29 Fs28_29 Ft28_29 Fl28_29 Vu28_29 Vv28_29 nqu18 nqv18 nuv18 ge_b17 ge_u18 ge_v18 (tH p0) hg28 hl28 hi28) rfl Ec28_29 (hb hby at_257) (lenOf pd_4 rfl) rfl rfl (W := 0) (Nat.le_of_eq rfl) (by decide) (by decide) (by decide) (by decide) ?_
  intro v30 T30 L30 X30 Q30
  obtain ⟨rfl, N30q, Kc30, Ec30, Fs30, Ft30, Fl30, g30x, l30x, a30x, Vu30, Vv30, hg30, hl30, hi30, ⟨hm30, hs30⟩, hP30⟩ := Q30
  have N30 := Fr.app N29 N30q
  have Vtv_30 := Vtv_29.keep Kc30 (ninS ne_b1_b17 (ninS ne_b1_u18 (ninS ne_b1_v18 nin0)))
  have Ec28_30 := Ec28_29.keep Kc30
  have Vc29_30 := Vc29.keep Kc30 (ninS ne_b16_b17 (ninS ne_b16_u18 (ninS ne_b16_v18 nin0)))
  have KK30 : Keep h0 T30.heap [] := (KK29 : Keep h0 T29.heap []).trans Kc30 (allS (Or.inr sz_b17) (allS (Or.inr sz_u18) (allS (Or.inr sz_v18) all0)))
  show Go _ _ _ _ _ _ _ T30 (mkF m 260 #[.val (.int p0), .val (.int p1), .val (.ref b1), .val (.int (minW ((tV p0) 0) ((tV p0) 1))), .val (.int (maxW ((tV p0) 0) ((tV p0) 1))), .val (.int (minW ((tV p0) 2) ((tV p0) 3))), .val (.int (maxW ((tV p0) 2) ((tV p0) 3))), .val (.int (minW (minW ((tV p0) 0) ((tV p0) 1)) (minW ((tV p0) 2) ((tV p0) 3)))), .val (.int (maxW (minW ((tV p0) 0) ((tV p0) 1)) (minW ((tV p0) 2) ((tV p0) 3)))), .val (.int (maxW (maxW ((tV p0) 0) ((tV p0) 1)) (maxW ((tV p0) 2) ((tV p0) 3)))), .val (.int (minW (maxW ((tV p0) 0) ((tV p0) 1)) (maxW ((tV p0) 2) ((tV p0) 3)))), .val (.int (minW (maxW (minW ((tV p0) 0) ((tV p0) 1)) (minW ((tV p0) 2) ((tV p0) 3))) (minW (maxW ((tV p0) 0) ((tV p0) 1)) (maxW ((tV p0) 2) ((tV p0) 3))))), .val (.int (maxW (maxW (minW ((tV p0) 0) ((tV p0) 1)) (minW ((tV p0) 2) ((tV p0) 3))) (minW (maxW ((tV p0) 0) ((tV p0) 1)) (maxW ((tV p0) 2) ((tV p0) 3))))), .val (.ref b16), .val (.ref b17), .val (.int (1 : Int32)), .val (.int r0), .val (.int rr0), .val (.int r1), .val (.int rr1), .val (.int r2), .val (.int rr2), .unset, .unset, .unset] [(.int ((tL p1) (a28x 0)))])
  refine Go.step (fun _ k => XS.istore X30.here hx rfl (hb hby at_260) rfl (l' := #[.val (.int p0), .val (.int p1), .val (.ref b1), .val (.int (minW ((tV p0) 0) ((tV p0) 1))), .val (.int (maxW ((tV p0) 0) ((tV p0) 1))), .val (.int (minW ((tV p0) 2) ((tV p0) 3))), .val (.int (maxW ((tV p0) 2) ((tV p0) 3))), .val (.int (minW (minW ((tV p0) 0) ((tV p0) 1)) (minW ((tV p0) 2) ((tV p0) 3)))), .val (.int (maxW (minW ((tV p0) 0) ((tV p0) 1)) (minW ((tV p0) 2) ((tV p0) 3)))), .val (.int (maxW (maxW ((tV p0) 0) ((tV p0) 1)) (maxW ((tV p0) 2) ((tV p0) 3)))), .val (.int (minW (maxW ((tV p0) 0) ((tV p0) 1)) (maxW ((tV p0) 2) ((tV p0) 3)))), .val (.int (minW (maxW (minW ((tV p0) 0) ((tV p0) 1)) (minW ((tV p0) 2) ((tV p0) 3))) (minW (maxW ((tV p0) 0) ((tV p0) 1)) (maxW ((tV p0) 2) ((tV p0) 3))))), .val (.int (maxW (maxW (minW ((tV p0) 0) ((tV p0) 1)) (minW ((tV p0) 2) ((tV p0) 3))) (minW (maxW ((tV p0) 0) ((tV p0) 1)) (maxW ((tV p0) 2) ((tV p0) 3))))), .val (.ref b16), .val (.ref b17), .val (.int (1 : Int32)), .val (.int r0), .val (.int rr0), .val (.int r1), .val (.int rr1), .val (.int r2), .val (.int rr2), .val (.int ((tL p1) (a28x 0))), .unset, .unset]) rfl k) ?_
  have c3 : a28x 0 < 4 := b28 0 (by decide)
  have b30 := hP30 (fun x => x < 4) b28
  obtain ⟨r3, h_r3⟩ : ∃ z, z = ((tL p1) (a28x 0)) := ⟨_, rfl⟩
  rw [← h_r3]
  have hr3 := own_r c3 h_r3
  show Go _ _ _ _ _ _ _ T30 (mkF m 262 #[.val (.int p0), .val (.int p1), .val (.ref b1), .val (.int (minW ((tV p0) 0) ((tV p0) 1))), .val (.int (maxW ((tV p0) 0) ((tV p0) 1))), .val (.int (minW ((tV p0) 2) ((tV p0) 3))), .val (.int (maxW ((tV p0) 2) ((tV p0) 3))), .val (.int (minW (minW ((tV p0) 0) ((tV p0) 1)) (minW ((tV p0) 2) ((tV p0) 3)))), .val (.int (maxW (minW ((tV p0) 0) ((tV p0) 1)) (minW ((tV p0) 2) ((tV p0) 3)))), .val (.int (maxW (maxW ((tV p0) 0) ((tV p0) 1)) (maxW ((tV p0) 2) ((tV p0) 3)))), .val (.int (minW (maxW ((tV p0) 0) ((tV p0) 1)) (maxW ((tV p0) 2) ((tV p0) 3)))), .val (.int (minW (maxW (minW ((tV p0) 0) ((tV p0) 1)) (minW ((tV p0) 2) ((tV p0) 3))) (minW (maxW ((tV p0) 0) ((tV p0) 1)) (maxW ((tV p0) 2) ((tV p0) 3))))), .val (.int (maxW (maxW (minW ((tV p0) 0) ((tV p0) 1)) (minW ((tV p0) 2) ((tV p0) 3))) (minW (maxW ((tV p0) 0) ((tV p0) 1)) (maxW ((tV p0) 2) ((tV p0) 3))))), .val (.ref b16), .val (.ref b17), .val (.int (1 : Int32)), .val (.int r0), .val (.int rr0), .val (.int r1), .val (.int rr1), .val (.int r2), .val (.int rr2), .val (.int r3), .unset, .unset] [])
  refine Go.step (fun _ k => XS.iload X30.here hx rfl (hb hby at_262) rfl k) ?_
  show Go _ _ _ _ _ _ _ T30 (mkF m 264 #[.val (.int p0), .val (.int p1), .val (.ref b1), .val (.int (minW ((tV p0) 0) ((tV p0) 1))), .val (.int (maxW ((tV p0) 0) ((tV p0) 1))), .val (.int (minW ((tV p0) 2) ((tV p0) 3))), .val (.int (maxW ((tV p0) 2) ((tV p0) 3))), .val (.int (minW (minW ((tV p0) 0) ((tV p0) 1)) (minW ((tV p0) 2) ((tV p0) 3)))), .val (.int (maxW (minW ((tV p0) 0) ((tV p0) 1)) (minW ((tV p0) 2) ((tV p0) 3)))), .val (.int (maxW (maxW ((tV p0) 0) ((tV p0) 1)) (maxW ((tV p0) 2) ((tV p0) 3)))), .val (.int (minW (maxW ((tV p0) 0) ((tV p0) 1)) (maxW ((tV p0) 2) ((tV p0) 3)))), .val (.int (minW (maxW (minW ((tV p0) 0) ((tV p0) 1)) (minW ((tV p0) 2) ((tV p0) 3))) (minW (maxW ((tV p0) 0) ((tV p0) 1)) (maxW ((tV p0) 2) ((tV p0) 3))))), .val (.int (maxW (maxW (minW ((tV p0) 0) ((tV p0) 1)) (minW ((tV p0) 2) ((tV p0) 3))) (minW (maxW ((tV p0) 0) ((tV p0) 1)) (maxW ((tV p0) 2) ((tV p0) 3))))), .val (.ref b16), .val (.ref b17), .val (.int (1 : Int32)), .val (.int r0), .val (.int rr0), .val (.int r1), .val (.int rr1), .val (.int r2), .val (.int rr2), .val (.int r3), .unset, .unset] [(.int r3)])
  refine Go.step (fun _ k => XS.iloadN X30.here hx rfl (hb hby at_264) rfl k) ?_
  show Go _ _ _ _ _ _ _ T30 (mkF m 265 #[.val (.int p0), .val (.int p1), .val (.ref b1), .val (.int (minW ((tV p0) 0) ((tV p0) 1))), .val (.int (maxW ((tV p0) 0) ((tV p0) 1))), .val (.int (minW ((tV p0) 2) ((tV p0) 3))), .val (.int (maxW ((tV p0) 2) ((tV p0) 3))), .val (.int (minW (minW ((tV p0) 0) ((tV p0) 1)) (minW ((tV p0) 2) ((tV p0) 3)))), .val (.int (maxW (minW ((tV p0) 0) ((tV p0) 1)) (minW ((tV p0) 2) ((tV p0) 3)))), .val (.int (maxW (maxW ((tV p0) 0) ((tV p0) 1)) (maxW ((tV p0) 2) ((tV p0) 3)))), .val (.int (minW (maxW ((tV p0) 0) ((tV p0) 1)) (maxW ((tV p0) 2) ((tV p0) 3)))), .val (.int (minW (maxW (minW ((tV p0) 0) ((tV p0) 1)) (minW ((tV p0) 2) ((tV p0) 3))) (minW (maxW ((tV p0) 0) ((tV p0) 1)) (maxW ((tV p0) 2) ((tV p0) 3))))), .val (.int (maxW (maxW (minW ((tV p0) 0) ((tV p0) 1)) (minW ((tV p0) 2) ((tV p0) 3))) (minW (maxW ((tV p0) 0) ((tV p0) 1)) (maxW ((tV p0) 2) ((tV p0) 3))))), .val (.ref b16), .val (.ref b17), .val (.int (1 : Int32)), .val (.int r0), .val (.int rr0), .val (.int r1), .val (.int rr1), .val (.int r2), .val (.int rr2), .val (.int r3), .unset, .unset] [(.int p1), (.int r3)])
  refine Go.step (fun _ k => XS.aloadN X30.here hx rfl (hb hby at_265) rfl rfl k) ?_
  show Go _ _ _ _ _ _ _ T30 (mkF m 266 #[.val (.int p0), .val (.int p1), .val (.ref b1), .val (.int (minW ((tV p0) 0) ((tV p0) 1))), .val (.int (maxW ((tV p0) 0) ((tV p0) 1))), .val (.int (minW ((tV p0) 2) ((tV p0) 3))), .val (.int (maxW ((tV p0) 2) ((tV p0) 3))), .val (.int (minW (minW ((tV p0) 0) ((tV p0) 1)) (minW ((tV p0) 2) ((tV p0) 3)))), .val (.int (maxW (minW ((tV p0) 0) ((tV p0) 1)) (minW ((tV p0) 2) ((tV p0) 3)))), .val (.int (maxW (maxW ((tV p0) 0) ((tV p0) 1)) (maxW ((tV p0) 2) ((tV p0) 3)))), .val (.int (minW (maxW ((tV p0) 0) ((tV p0) 1)) (maxW ((tV p0) 2) ((tV p0) 3)))), .val (.int (minW (maxW (minW ((tV p0) 0) ((tV p0) 1)) (minW ((tV p0) 2) ((tV p0) 3))) (minW (maxW ((tV p0) 0) ((tV p0) 1)) (maxW ((tV p0) 2) ((tV p0) 3))))), .val (.int (maxW (maxW (minW ((tV p0) 0) ((tV p0) 1)) (minW ((tV p0) 2) ((tV p0) 3))) (minW (maxW ((tV p0) 0) ((tV p0) 1)) (maxW ((tV p0) 2) ((tV p0) 3))))), .val (.ref b16), .val (.ref b17), .val (.int (1 : Int32)), .val (.int r0), .val (.int rr0), .val (.int r1), .val (.int rr1), .val (.int r2), .val (.int rr2), .val (.int r3), .unset, .unset] [(.ref b1), (.int p1), (.int r3)])
  refine Go.step (fun _ k => XS.aload X30.here hx rfl (hb hby at_266) rfl rfl k) ?_
  show Go _ _ _ _ _ _ _ T30 (mkF m 268 #[.val (.int p0), .val (.int p1), .val (.ref b1), .val (.int (minW ((tV p0) 0) ((tV p0) 1))), .val (.int (maxW ((tV p0) 0) ((tV p0) 1))), .val (.int (minW ((tV p0) 2) ((tV p0) 3))), .val (.int (maxW ((tV p0) 2) ((tV p0) 3))), .val (.int (minW (minW ((tV p0) 0) ((tV p0) 1)) (minW ((tV p0) 2) ((tV p0) 3)))), .val (.int (maxW (minW ((tV p0) 0) ((tV p0) 1)) (minW ((tV p0) 2) ((tV p0) 3)))), .val (.int (maxW (maxW ((tV p0) 0) ((tV p0) 1)) (maxW ((tV p0) 2) ((tV p0) 3)))), .val (.int (minW (maxW ((tV p0) 0) ((tV p0) 1)) (maxW ((tV p0) 2) ((tV p0) 3)))), .val (.int (minW (maxW (minW ((tV p0) 0) ((tV p0) 1)) (minW ((tV p0) 2) ((tV p0) 3))) (minW (maxW ((tV p0) 0) ((tV p0) 1)) (maxW ((tV p0) 2) ((tV p0) 3))))), .val (.int (maxW (maxW (minW ((tV p0) 0) ((tV p0) 1)) (minW ((tV p0) 2) ((tV p0) 3))) (minW (maxW ((tV p0) 0) ((tV p0) 1)) (maxW ((tV p0) 2) ((tV p0) 3))))), .val (.ref b16), .val (.ref b17), .val (.int (1 : Int32)), .val (.int r0), .val (.int rr0), .val (.int r1), .val (.int rr1), .val (.int r2), .val (.int rr2), .val (.int r3), .unset, .unset] [(.ref b16), (.ref b1), (.int p1), (.int r3)])
  refine Go.step (fun _ k => XS.iload X30.here hx rfl (hb hby at_268) rfl k) ?_
  show Go _ _ _ _ _ _ _ T30 (mkF m 270 #[.val (.int p0), .val (.int p1), .val (.ref b1), .val (.int (minW ((tV p0) 0) ((tV p0) 1))), .val (.int (maxW ((tV p0) 0) ((tV p0) 1))), .val (.int (minW ((tV p0) 2) ((tV p0) 3))), .val (.int (maxW ((tV p0) 2) ((tV p0) 3))), .val (.int (minW (minW ((tV p0) 0) ((tV p0) 1)) (minW ((tV p0) 2) ((tV p0) 3)))), .val (.int (maxW (minW ((tV p0) 0) ((tV p0) 1)) (minW ((tV p0) 2) ((tV p0) 3)))), .val (.int (maxW (maxW ((tV p0) 0) ((tV p0) 1)) (maxW ((tV p0) 2) ((tV p0) 3)))), .val (.int (minW (maxW ((tV p0) 0) ((tV p0) 1)) (maxW ((tV p0) 2) ((tV p0) 3)))), .val (.int (minW (maxW (minW ((tV p0) 0) ((tV p0) 1)) (minW ((tV p0) 2) ((tV p0) 3))) (minW (maxW ((tV p0) 0) ((tV p0) 1)) (maxW ((tV p0) 2) ((tV p0) 3))))), .val (.int (maxW (maxW (minW ((tV p0) 0) ((tV p0) 1)) (minW ((tV p0) 2) ((tV p0) 3))) (minW (maxW ((tV p0) 0) ((tV p0) 1)) (maxW ((tV p0) 2) ((tV p0) 3))))), .val (.ref b16), .val (.ref b17), .val (.int (1 : Int32)), .val (.int r0), .val (.int rr0), .val (.int r1), .val (.int rr1), .val (.int r2), .val (.int rr2), .val (.int r3), .unset, .unset] [(.int (maxW (maxW ((tV p0) 0) ((tV p0) 1)) (maxW ((tV p0) 2) ((tV p0) 3)))), (.ref b16), (.ref b1), (.int p1), (.int r3)])
  refine Go.callS X30 hx hZ (by rw [hml]; rfl) (y := (⟨"com/example/wavegrade/wavegrade/DepartureQueueAddPinLaw", "take", "(II[I[ZI)Z"⟩ : MethodName)) (argsL := [(.int r3), (.int p1), (.ref b1), (.ref b16), (.int (maxW (maxW ((tV p0) 0) ((tV p0) 1)) (maxW ((tV p0) 2) ((tV p0) 3))))]) (rest := []) hown (hw _ (List.mem_of_getElem? (i := 40) rfl)) (hw _ (List.mem_of_getElem? (i := 41) rfl)) (hw _ (List.mem_of_getElem? (i := 42) rfl)) (hw _ (List.mem_of_getElem? (i := 43) rfl)) (by decide) (rm8 l Z a0 hw r3 p1 b1 b16 (tV p0) uu2 (maxW (maxW ((tV p0) 0) ((tV p0) 1)) (maxW ((tV p0) 2) ((tV p0) 3))) T30.heap n0 (Nat.le_trans Z0 (KK30 : Keep h0 T30.heap []).1) Vtv_30 Vc29_30 ne_b1_b16 ge_b16 ⟨hr3.1, hr3.2.1, hr3.2.2.1⟩) rfl (hb hby at_270) (lenOf pd_5 rfl) rfl rfl (W := 0) (Nat.le_of_eq rfl) (by decide) (by decide) (by decide) (by decide) ?_
  intro v31 T31 L31 X31 Q31
  obtain ⟨rr3, uu3, rfl, N31q, Kc31, Vc31, hu3, ht3⟩ := Q31
  have N31 := Fr.app N30 N31q
  have Vtv_31 := Vtv_30.keep Kc31 (ninS ne_b1_b16 nin0)
  have Ec30_31 := Ec30.keep Kc31
  have Fs30_31 := Fs30.keep Kc31 (ninS (Ne.symm ne_b16_b17) nin0)
  have Ft30_31 := Ft30.keep Kc31 (ninS (Ne.symm ne_b16_b17) nin0)
  have Fl30_31 := Fl30.keep Kc31 (ninS (Ne.symm ne_b16_b17) nin0)
  have Vu30_31 := Vu30.keep Kc31 (ninS (Ne.symm ne_b16_u18) nin0)
  have Vv30_31 := Vv30.keep Kc31 (ninS (Ne.symm ne_b16_v18) nin0)
  have KK31 : Keep h0 T31.heap [] := (KK30 : Keep h0 T30.heap []).trans Kc31 (allS (Or.inr sz_b16) all0)
  show Go _ _ _ _ _ _ _ T31 (mkF m 273 #[.val (.int p0), .val (.int p1), .val (.ref b1), .val (.int (minW ((tV p0) 0) ((tV p0) 1))), .val (.int (maxW ((tV p0) 0) ((tV p0) 1))), .val (.int (minW ((tV p0) 2) ((tV p0) 3))), .val (.int (maxW ((tV p0) 2) ((tV p0) 3))), .val (.int (minW (minW ((tV p0) 0) ((tV p0) 1)) (minW ((tV p0) 2) ((tV p0) 3)))), .val (.int (maxW (minW ((tV p0) 0) ((tV p0) 1)) (minW ((tV p0) 2) ((tV p0) 3)))), .val (.int (maxW (maxW ((tV p0) 0) ((tV p0) 1)) (maxW ((tV p0) 2) ((tV p0) 3)))), .val (.int (minW (maxW ((tV p0) 0) ((tV p0) 1)) (maxW ((tV p0) 2) ((tV p0) 3)))), .val (.int (minW (maxW (minW ((tV p0) 0) ((tV p0) 1)) (minW ((tV p0) 2) ((tV p0) 3))) (minW (maxW ((tV p0) 0) ((tV p0) 1)) (maxW ((tV p0) 2) ((tV p0) 3))))), .val (.int (maxW (maxW (minW ((tV p0) 0) ((tV p0) 1)) (minW ((tV p0) 2) ((tV p0) 3))) (minW (maxW ((tV p0) 0) ((tV p0) 1)) (maxW ((tV p0) 2) ((tV p0) 3))))), .val (.ref b16), .val (.ref b17), .val (.int (1 : Int32)), .val (.int r0), .val (.int rr0), .val (.int r1), .val (.int rr1), .val (.int r2), .val (.int rr2), .val (.int r3), .unset, .unset] [(.int rr3)])
  refine Go.step (fun _ k => XS.istore X31.here hx rfl (hb hby at_273) rfl (l' := #[.val (.int p0), .val (.int p1), .val (.ref b1), .val (.int (minW ((tV p0) 0) ((tV p0) 1))), .val (.int (maxW ((tV p0) 0) ((tV p0) 1))), .val (.int (minW ((tV p0) 2) ((tV p0) 3))), .val (.int (maxW ((tV p0) 2) ((tV p0) 3))), .val (.int (minW (minW ((tV p0) 0) ((tV p0) 1)) (minW ((tV p0) 2) ((tV p0) 3)))), .val (.int (maxW (minW ((tV p0) 0) ((tV p0) 1)) (minW ((tV p0) 2) ((tV p0) 3)))), .val (.int (maxW (maxW ((tV p0) 0) ((tV p0) 1)) (maxW ((tV p0) 2) ((tV p0) 3)))), .val (.int (minW (maxW ((tV p0) 0) ((tV p0) 1)) (maxW ((tV p0) 2) ((tV p0) 3)))), .val (.int (minW (maxW (minW ((tV p0) 0) ((tV p0) 1)) (minW ((tV p0) 2) ((tV p0) 3))) (minW (maxW ((tV p0) 0) ((tV p0) 1)) (maxW ((tV p0) 2) ((tV p0) 3))))), .val (.int (maxW (maxW (minW ((tV p0) 0) ((tV p0) 1)) (minW ((tV p0) 2) ((tV p0) 3))) (minW (maxW ((tV p0) 0) ((tV p0) 1)) (maxW ((tV p0) 2) ((tV p0) 3))))), .val (.ref b16), .val (.ref b17), .val (.int (1 : Int32)), .val (.int r0), .val (.int rr0), .val (.int r1), .val (.int rr1), .val (.int r2), .val (.int rr2), .val (.int r3), .val (.int rr3), .unset]) rfl k) ?_
  show Go _ _ _ _ _ _ _ T31 (mkF m 275 #[.val (.int p0), .val (.int p1), .val (.ref b1), .val (.int (minW ((tV p0) 0) ((tV p0) 1))), .val (.int (maxW ((tV p0) 0) ((tV p0) 1))), .val (.int (minW ((tV p0) 2) ((tV p0) 3))), .val (.int (maxW ((tV p0) 2) ((tV p0) 3))), .val (.int (minW (minW ((tV p0) 0) ((tV p0) 1)) (minW ((tV p0) 2) ((tV p0) 3)))), .val (.int (maxW (minW ((tV p0) 0) ((tV p0) 1)) (minW ((tV p0) 2) ((tV p0) 3)))), .val (.int (maxW (maxW ((tV p0) 0) ((tV p0) 1)) (maxW ((tV p0) 2) ((tV p0) 3)))), .val (.int (minW (maxW ((tV p0) 0) ((tV p0) 1)) (maxW ((tV p0) 2) ((tV p0) 3)))), .val (.int (minW (maxW (minW ((tV p0) 0) ((tV p0) 1)) (minW ((tV p0) 2) ((tV p0) 3))) (minW (maxW ((tV p0) 0) ((tV p0) 1)) (maxW ((tV p0) 2) ((tV p0) 3))))), .val (.int (maxW (maxW (minW ((tV p0) 0) ((tV p0) 1)) (minW ((tV p0) 2) ((tV p0) 3))) (minW (maxW ((tV p0) 0) ((tV p0) 1)) (maxW ((tV p0) 2) ((tV p0) 3))))), .val (.ref b16), .val (.ref b17), .val (.int (1 : Int32)), .val (.int r0), .val (.int rr0), .val (.int r1), .val (.int rr1), .val (.int r2), .val (.int rr2), .val (.int r3), .val (.int rr3), .unset] [])
  refine Go.step (fun _ k => XS.aload X31.here hx rfl (hb hby at_275) rfl rfl k) ?_
  show Go _ _ _ _ _ _ _ T31 (mkF m 277 #[.val (.int p0), .val (.int p1), .val (.ref b1), .val (.int (minW ((tV p0) 0) ((tV p0) 1))), .val (.int (maxW ((tV p0) 0) ((tV p0) 1))), .val (.int (minW ((tV p0) 2) ((tV p0) 3))), .val (.int (maxW ((tV p0) 2) ((tV p0) 3))), .val (.int (minW (minW ((tV p0) 0) ((tV p0) 1)) (minW ((tV p0) 2) ((tV p0) 3)))), .val (.int (maxW (minW ((tV p0) 0) ((tV p0) 1)) (minW ((tV p0) 2) ((tV p0) 3)))), .val (.int (maxW (maxW ((tV p0) 0) ((tV p0) 1)) (maxW ((tV p0) 2) ((tV p0) 3)))), .val (.int (minW (maxW ((tV p0) 0) ((tV p0) 1)) (maxW ((tV p0) 2) ((tV p0) 3)))), .val (.int (minW (maxW (minW ((tV p0) 0) ((tV p0) 1)) (minW ((tV p0) 2) ((tV p0) 3))) (minW (maxW ((tV p0) 0) ((tV p0) 1)) (maxW ((tV p0) 2) ((tV p0) 3))))), .val (.int (maxW (maxW (minW ((tV p0) 0) ((tV p0) 1)) (minW ((tV p0) 2) ((tV p0) 3))) (minW (maxW ((tV p0) 0) ((tV p0) 1)) (maxW ((tV p0) 2) ((tV p0) 3))))), .val (.ref b16), .val (.ref b17), .val (.int (1 : Int32)), .val (.int r0), .val (.int rr0), .val (.int r1), .val (.int rr1), .val (.int r2), .val (.int rr2), .val (.int r3), .val (.int rr3), .unset] [(.ref b17)])
  refine Go.callV X31 hx hZ (by rw [hml]; rfl) (y := (⟨"com/example/wavegrade/wavegrade/DepartureQueue", "isEmpty", "()Z"⟩ : MethodName)) (z := (⟨"com/example/wavegrade/wavegrade/DepartureQueue", "isEmpty", "()Z"⟩ : MethodName)) (a := b17) (argsL := []) (rest := []) hown (hw _ (List.mem_of_getElem? (i := 23) rfl)) (hw _ (List.mem_of_getElem? (i := 24) rfl)) (notFace_of_selects (args := #[]) (mvT hZ (hw _ (List.mem_of_getElem? (i := 26) rfl)))) (hw _ (List.mem_of_getElem? (i := 26) rfl)) (hw _ (List.mem_of_getElem? (i := 25) rfl)) (hw _ (List.mem_of_getElem? (i := 11) rfl)) (hw _ (List.mem_of_getElem? (i := 27) rfl)) (by decide) (rm_empty0 l Z a0 hw b17 T31.heap n0 (Nat.le_trans Z0 (KK31 : Keep h0 T31.heap []).1) Fs30_31) rfl Ec30_31 (hb hby at_277) (lenOf pd_2 rfl) rfl rfl (W := 0) (Nat.le_of_eq rfl) (by decide) (by decide) (by decide) (by decide) ?_
  intro v32 T32 L32 X32 Q32
  obtain ⟨rfl, N32q, hh32⟩ := Q32
  have N32 := Fr.app N31 N32q
  show Go _ _ _ _ _ _ _ T32 (mkF m 280 #[.val (.int p0), .val (.int p1), .val (.ref b1), .val (.int (minW ((tV p0) 0) ((tV p0) 1))), .val (.int (maxW ((tV p0) 0) ((tV p0) 1))), .val (.int (minW ((tV p0) 2) ((tV p0) 3))), .val (.int (maxW ((tV p0) 2) ((tV p0) 3))), .val (.int (minW (minW ((tV p0) 0) ((tV p0) 1)) (minW ((tV p0) 2) ((tV p0) 3)))), .val (.int (maxW (minW ((tV p0) 0) ((tV p0) 1)) (minW ((tV p0) 2) ((tV p0) 3)))), .val (.int (maxW (maxW ((tV p0) 0) ((tV p0) 1)) (maxW ((tV p0) 2) ((tV p0) 3)))), .val (.int (minW (maxW ((tV p0) 0) ((tV p0) 1)) (maxW ((tV p0) 2) ((tV p0) 3)))), .val (.int (minW (maxW (minW ((tV p0) 0) ((tV p0) 1)) (minW ((tV p0) 2) ((tV p0) 3))) (minW (maxW ((tV p0) 0) ((tV p0) 1)) (maxW ((tV p0) 2) ((tV p0) 3))))), .val (.int (maxW (maxW (minW ((tV p0) 0) ((tV p0) 1)) (minW ((tV p0) 2) ((tV p0) 3))) (minW (maxW ((tV p0) 0) ((tV p0) 1)) (maxW ((tV p0) 2) ((tV p0) 3))))), .val (.ref b16), .val (.ref b17), .val (.int (1 : Int32)), .val (.int r0), .val (.int rr0), .val (.int r1), .val (.int rr1), .val (.int r2), .val (.int rr2), .val (.int r3), .val (.int rr3), .unset] [(.int (1 : Int32))])
  refine Go.step (fun _ k => XS.istore X32.here hx rfl (hb hby at_280) rfl (l' := #[.val (.int p0), .val (.int p1), .val (.ref b1), .val (.int (minW ((tV p0) 0) ((tV p0) 1))), .val (.int (maxW ((tV p0) 0) ((tV p0) 1))), .val (.int (minW ((tV p0) 2) ((tV p0) 3))), .val (.int (maxW ((tV p0) 2) ((tV p0) 3))), .val (.int (minW (minW ((tV p0) 0) ((tV p0) 1)) (minW ((tV p0) 2) ((tV p0) 3)))), .val (.int (maxW (minW ((tV p0) 0) ((tV p0) 1)) (minW ((tV p0) 2) ((tV p0) 3)))), .val (.int (maxW (maxW ((tV p0) 0) ((tV p0) 1)) (maxW ((tV p0) 2) ((tV p0) 3)))), .val (.int (minW (maxW ((tV p0) 0) ((tV p0) 1)) (maxW ((tV p0) 2) ((tV p0) 3)))), .val (.int (minW (maxW (minW ((tV p0) 0) ((tV p0) 1)) (minW ((tV p0) 2) ((tV p0) 3))) (minW (maxW ((tV p0) 0) ((tV p0) 1)) (maxW ((tV p0) 2) ((tV p0) 3))))), .val (.int (maxW (maxW (minW ((tV p0) 0) ((tV p0) 1)) (minW ((tV p0) 2) ((tV p0) 3))) (minW (maxW ((tV p0) 0) ((tV p0) 1)) (maxW ((tV p0) 2) ((tV p0) 3))))), .val (.ref b16), .val (.ref b17), .val (.int (1 : Int32)), .val (.int r0), .val (.int rr0), .val (.int r1), .val (.int rr1), .val (.int r2), .val (.int rr2), .val (.int r3), .val (.int rr3), .val (.int (1 : Int32))]) rfl k) ?_
  have hsum : ∀ w : Nat → Int, w (a23x 0) + w (a24x 0) + w (a26x 0) + w (a28x 0) = w 0 + w 1 + w 2 + w 3 := fun w => by
    have := hs20 w
    have := hs21 w
    have := hs22 w
    have := hs23 w
    have := hs24 w
    have := hs26 w
    have := hs28 w
    have := hs30 w
    simp only [sumA] at *; omega
  have hp := own_perm c0 c1 c2 c3 hsum
  have hq := own_sort (v := tK p0) c0 c1 c2 c3 hp k0 k1 k2
  have i0 := hr0.2.2.2
  have i1 := hr1.2.2.2
  have i2 := hr2.2.2.2
  have i3 := hr3.2.2.2
  rw [i0] at hu0 ht0
  rw [i1] at hu1 ht1
  rw [i2] at hu2 ht2
  rw [i3] at hu3 ht3
  have u0 := hu0 rfl
  have z1 : uu0 (a24x 0) = (0 : Int32) := by rw [u0, updN_ne (Ne.symm hp.1)]
  have u1 := hu1 z1
  have z2 : uu1 (a26x 0) = (0 : Int32) := by rw [u1, updN_ne (Ne.symm hp.2.2.2.1), u0, updN_ne (Ne.symm hp.2.1)]
  have u2 := hu2 z2
  have z3 : uu2 (a28x 0) = (0 : Int32) := by rw [u2, updN_ne (Ne.symm hp.2.2.2.2.2), u1, updN_ne (Ne.symm hp.2.2.2.2.1), u0, updN_ne (Ne.symm hp.2.2.1)]
  have y0 := ht0 rfl (Int32.toInt_inj.mp (by simp only [minW_i, maxW_i]; exact hq.1))
  have y1 := ht1 z1 (Int32.toInt_inj.mp (by simp only [minW_i, maxW_i]; exact hq.2.1))
  have y2 := ht2 z2 (Int32.toInt_inj.mp (by simp only [minW_i, maxW_i]; exact hq.2.2.1))
  have y3 := ht3 z3 (Int32.toInt_inj.mp (by simp only [minW_i, maxW_i]; exact hq.2.2.2))
  show Go _ _ _ _ _ _ _ T32 (mkF m 282 #[.val (.int p0), .val (.int p1), .val (.ref b1), .val (.int (minW ((tV p0) 0) ((tV p0) 1))), .val (.int (maxW ((tV p0) 0) ((tV p0) 1))), .val (.int (minW ((tV p0) 2) ((tV p0) 3))), .val (.int (maxW ((tV p0) 2) ((tV p0) 3))), .val (.int (minW (minW ((tV p0) 0) ((tV p0) 1)) (minW ((tV p0) 2) ((tV p0) 3)))), .val (.int (maxW (minW ((tV p0) 0) ((tV p0) 1)) (minW ((tV p0) 2) ((tV p0) 3)))), .val (.int (maxW (maxW ((tV p0) 0) ((tV p0) 1)) (maxW ((tV p0) 2) ((tV p0) 3)))), .val (.int (minW (maxW ((tV p0) 0) ((tV p0) 1)) (maxW ((tV p0) 2) ((tV p0) 3)))), .val (.int (minW (maxW (minW ((tV p0) 0) ((tV p0) 1)) (minW ((tV p0) 2) ((tV p0) 3))) (minW (maxW ((tV p0) 0) ((tV p0) 1)) (maxW ((tV p0) 2) ((tV p0) 3))))), .val (.int (maxW (maxW (minW ((tV p0) 0) ((tV p0) 1)) (minW ((tV p0) 2) ((tV p0) 3))) (minW (maxW ((tV p0) 0) ((tV p0) 1)) (maxW ((tV p0) 2) ((tV p0) 3))))), .val (.ref b16), .val (.ref b17), .val (.int (1 : Int32)), .val (.int r0), .val (.int rr0), .val (.int r1), .val (.int rr1), .val (.int r2), .val (.int rr2), .val (.int r3), .val (.int rr3), .val (.int (1 : Int32))] [])
  refine Go.step (fun _ k => XS.iload X32.here hx rfl (hb hby at_282) rfl k) ?_
  show Go _ _ _ _ _ _ _ T32 (mkF m 284 #[.val (.int p0), .val (.int p1), .val (.ref b1), .val (.int (minW ((tV p0) 0) ((tV p0) 1))), .val (.int (maxW ((tV p0) 0) ((tV p0) 1))), .val (.int (minW ((tV p0) 2) ((tV p0) 3))), .val (.int (maxW ((tV p0) 2) ((tV p0) 3))), .val (.int (minW (minW ((tV p0) 0) ((tV p0) 1)) (minW ((tV p0) 2) ((tV p0) 3)))), .val (.int (maxW (minW ((tV p0) 0) ((tV p0) 1)) (minW ((tV p0) 2) ((tV p0) 3)))), .val (.int (maxW (maxW ((tV p0) 0) ((tV p0) 1)) (maxW ((tV p0) 2) ((tV p0) 3)))), .val (.int (minW (maxW ((tV p0) 0) ((tV p0) 1)) (maxW ((tV p0) 2) ((tV p0) 3)))), .val (.int (minW (maxW (minW ((tV p0) 0) ((tV p0) 1)) (minW ((tV p0) 2) ((tV p0) 3))) (minW (maxW ((tV p0) 0) ((tV p0) 1)) (maxW ((tV p0) 2) ((tV p0) 3))))), .val (.int (maxW (maxW (minW ((tV p0) 0) ((tV p0) 1)) (minW ((tV p0) 2) ((tV p0) 3))) (minW (maxW ((tV p0) 0) ((tV p0) 1)) (maxW ((tV p0) 2) ((tV p0) 3))))), .val (.ref b16), .val (.ref b17), .val (.int (1 : Int32)), .val (.int r0), .val (.int rr0), .val (.int r1), .val (.int rr1), .val (.int r2), .val (.int rr2), .val (.int r3), .val (.int rr3), .val (.int (1 : Int32))] [(.int (1 : Int32))])
  refine Go.step (fun _ k => XS.ifNo X32.here hx rfl (hb hby at_284) rfl ((if0 _ _).trans (feq (by decide : ¬ ((1 : Int32) = (0 : Int32)))).1) k) ?_
  show Go _ _ _ _ _ _ _ T32 (mkF m 287 #[.val (.int p0), .val (.int p1), .val (.ref b1), .val (.int (minW ((tV p0) 0) ((tV p0) 1))), .val (.int (maxW ((tV p0) 0) ((tV p0) 1))), .val (.int (minW ((tV p0) 2) ((tV p0) 3))), .val (.int (maxW ((tV p0) 2) ((tV p0) 3))), .val (.int (minW (minW ((tV p0) 0) ((tV p0) 1)) (minW ((tV p0) 2) ((tV p0) 3)))), .val (.int (maxW (minW ((tV p0) 0) ((tV p0) 1)) (minW ((tV p0) 2) ((tV p0) 3)))), .val (.int (maxW (maxW ((tV p0) 0) ((tV p0) 1)) (maxW ((tV p0) 2) ((tV p0) 3)))), .val (.int (minW (maxW ((tV p0) 0) ((tV p0) 1)) (maxW ((tV p0) 2) ((tV p0) 3)))), .val (.int (minW (maxW (minW ((tV p0) 0) ((tV p0) 1)) (minW ((tV p0) 2) ((tV p0) 3))) (minW (maxW ((tV p0) 0) ((tV p0) 1)) (maxW ((tV p0) 2) ((tV p0) 3))))), .val (.int (maxW (maxW (minW ((tV p0) 0) ((tV p0) 1)) (minW ((tV p0) 2) ((tV p0) 3))) (minW (maxW ((tV p0) 0) ((tV p0) 1)) (maxW ((tV p0) 2) ((tV p0) 3))))), .val (.ref b16), .val (.ref b17), .val (.int (1 : Int32)), .val (.int r0), .val (.int rr0), .val (.int r1), .val (.int rr1), .val (.int r2), .val (.int rr2), .val (.int r3), .val (.int rr3), .val (.int (1 : Int32))] [])
  refine Go.step (fun _ k => XS.iload X32.here hx rfl (hb hby at_287) rfl k) ?_
  show Go _ _ _ _ _ _ _ T32 (mkF m 289 #[.val (.int p0), .val (.int p1), .val (.ref b1), .val (.int (minW ((tV p0) 0) ((tV p0) 1))), .val (.int (maxW ((tV p0) 0) ((tV p0) 1))), .val (.int (minW ((tV p0) 2) ((tV p0) 3))), .val (.int (maxW ((tV p0) 2) ((tV p0) 3))), .val (.int (minW (minW ((tV p0) 0) ((tV p0) 1)) (minW ((tV p0) 2) ((tV p0) 3)))), .val (.int (maxW (minW ((tV p0) 0) ((tV p0) 1)) (minW ((tV p0) 2) ((tV p0) 3)))), .val (.int (maxW (maxW ((tV p0) 0) ((tV p0) 1)) (maxW ((tV p0) 2) ((tV p0) 3)))), .val (.int (minW (maxW ((tV p0) 0) ((tV p0) 1)) (maxW ((tV p0) 2) ((tV p0) 3)))), .val (.int (minW (maxW (minW ((tV p0) 0) ((tV p0) 1)) (minW ((tV p0) 2) ((tV p0) 3))) (minW (maxW ((tV p0) 0) ((tV p0) 1)) (maxW ((tV p0) 2) ((tV p0) 3))))), .val (.int (maxW (maxW (minW ((tV p0) 0) ((tV p0) 1)) (minW ((tV p0) 2) ((tV p0) 3))) (minW (maxW ((tV p0) 0) ((tV p0) 1)) (maxW ((tV p0) 2) ((tV p0) 3))))), .val (.ref b16), .val (.ref b17), .val (.int (1 : Int32)), .val (.int r0), .val (.int rr0), .val (.int r1), .val (.int rr1), .val (.int r2), .val (.int rr2), .val (.int r3), .val (.int rr3), .val (.int (1 : Int32))] [(.int rr0)])
  refine Go.step (fun _ k => XS.ifNo X32.here hx rfl (hb hby at_289) rfl ((if0 _ _).trans (feq (own_one y0)).1) k) ?_
  show Go _ _ _ _ _ _ _ T32 (mkF m 292 #[.val (.int p0), .val (.int p1), .val (.ref b1), .val (.int (minW ((tV p0) 0) ((tV p0) 1))), .val (.int (maxW ((tV p0) 0) ((tV p0) 1))), .val (.int (minW ((tV p0) 2) ((tV p0) 3))), .val (.int (maxW ((tV p0) 2) ((tV p0) 3))), .val (.int (minW (minW ((tV p0) 0) ((tV p0) 1)) (minW ((tV p0) 2) ((tV p0) 3)))), .val (.int (maxW (minW ((tV p0) 0) ((tV p0) 1)) (minW ((tV p0) 2) ((tV p0) 3)))), .val (.int (maxW (maxW ((tV p0) 0) ((tV p0) 1)) (maxW ((tV p0) 2) ((tV p0) 3)))), .val (.int (minW (maxW ((tV p0) 0) ((tV p0) 1)) (maxW ((tV p0) 2) ((tV p0) 3)))), .val (.int (minW (maxW (minW ((tV p0) 0) ((tV p0) 1)) (minW ((tV p0) 2) ((tV p0) 3))) (minW (maxW ((tV p0) 0) ((tV p0) 1)) (maxW ((tV p0) 2) ((tV p0) 3))))), .val (.int (maxW (maxW (minW ((tV p0) 0) ((tV p0) 1)) (minW ((tV p0) 2) ((tV p0) 3))) (minW (maxW ((tV p0) 0) ((tV p0) 1)) (maxW ((tV p0) 2) ((tV p0) 3))))), .val (.ref b16), .val (.ref b17), .val (.int (1 : Int32)), .val (.int r0), .val (.int rr0), .val (.int r1), .val (.int rr1), .val (.int r2), .val (.int rr2), .val (.int r3), .val (.int rr3), .val (.int (1 : Int32))] [])
  refine Go.step (fun _ k => XS.iload X32.here hx rfl (hb hby at_292) rfl k) ?_
  show Go _ _ _ _ _ _ _ T32 (mkF m 294 #[.val (.int p0), .val (.int p1), .val (.ref b1), .val (.int (minW ((tV p0) 0) ((tV p0) 1))), .val (.int (maxW ((tV p0) 0) ((tV p0) 1))), .val (.int (minW ((tV p0) 2) ((tV p0) 3))), .val (.int (maxW ((tV p0) 2) ((tV p0) 3))), .val (.int (minW (minW ((tV p0) 0) ((tV p0) 1)) (minW ((tV p0) 2) ((tV p0) 3)))), .val (.int (maxW (minW ((tV p0) 0) ((tV p0) 1)) (minW ((tV p0) 2) ((tV p0) 3)))), .val (.int (maxW (maxW ((tV p0) 0) ((tV p0) 1)) (maxW ((tV p0) 2) ((tV p0) 3)))), .val (.int (minW (maxW ((tV p0) 0) ((tV p0) 1)) (maxW ((tV p0) 2) ((tV p0) 3)))), .val (.int (minW (maxW (minW ((tV p0) 0) ((tV p0) 1)) (minW ((tV p0) 2) ((tV p0) 3))) (minW (maxW ((tV p0) 0) ((tV p0) 1)) (maxW ((tV p0) 2) ((tV p0) 3))))), .val (.int (maxW (maxW (minW ((tV p0) 0) ((tV p0) 1)) (minW ((tV p0) 2) ((tV p0) 3))) (minW (maxW ((tV p0) 0) ((tV p0) 1)) (maxW ((tV p0) 2) ((tV p0) 3))))), .val (.ref b16), .val (.ref b17), .val (.int (1 : Int32)), .val (.int r0), .val (.int rr0), .val (.int r1), .val (.int rr1), .val (.int r2), .val (.int rr2), .val (.int r3), .val (.int rr3), .val (.int (1 : Int32))] [(.int rr1)])
  refine Go.step (fun _ k => XS.ifNo X32.here hx rfl (hb hby at_294) rfl ((if0 _ _).trans (feq (own_one y1)).1) k) ?_
  show Go _ _ _ _ _ _ _ T32 (mkF m 297 #[.val (.int p0), .val (.int p1), .val (.ref b1), .val (.int (minW ((tV p0) 0) ((tV p0) 1))), .val (.int (maxW ((tV p0) 0) ((tV p0) 1))), .val (.int (minW ((tV p0) 2) ((tV p0) 3))), .val (.int (maxW ((tV p0) 2) ((tV p0) 3))), .val (.int (minW (minW ((tV p0) 0) ((tV p0) 1)) (minW ((tV p0) 2) ((tV p0) 3)))), .val (.int (maxW (minW ((tV p0) 0) ((tV p0) 1)) (minW ((tV p0) 2) ((tV p0) 3)))), .val (.int (maxW (maxW ((tV p0) 0) ((tV p0) 1)) (maxW ((tV p0) 2) ((tV p0) 3)))), .val (.int (minW (maxW ((tV p0) 0) ((tV p0) 1)) (maxW ((tV p0) 2) ((tV p0) 3)))), .val (.int (minW (maxW (minW ((tV p0) 0) ((tV p0) 1)) (minW ((tV p0) 2) ((tV p0) 3))) (minW (maxW ((tV p0) 0) ((tV p0) 1)) (maxW ((tV p0) 2) ((tV p0) 3))))), .val (.int (maxW (maxW (minW ((tV p0) 0) ((tV p0) 1)) (minW ((tV p0) 2) ((tV p0) 3))) (minW (maxW ((tV p0) 0) ((tV p0) 1)) (maxW ((tV p0) 2) ((tV p0) 3))))), .val (.ref b16), .val (.ref b17), .val (.int (1 : Int32)), .val (.int r0), .val (.int rr0), .val (.int r1), .val (.int rr1), .val (.int r2), .val (.int rr2), .val (.int r3), .val (.int rr3), .val (.int (1 : Int32))] [])
  refine Go.step (fun _ k => XS.iload X32.here hx rfl (hb hby at_297) rfl k) ?_
  show Go _ _ _ _ _ _ _ T32 (mkF m 299 #[.val (.int p0), .val (.int p1), .val (.ref b1), .val (.int (minW ((tV p0) 0) ((tV p0) 1))), .val (.int (maxW ((tV p0) 0) ((tV p0) 1))), .val (.int (minW ((tV p0) 2) ((tV p0) 3))), .val (.int (maxW ((tV p0) 2) ((tV p0) 3))), .val (.int (minW (minW ((tV p0) 0) ((tV p0) 1)) (minW ((tV p0) 2) ((tV p0) 3)))), .val (.int (maxW (minW ((tV p0) 0) ((tV p0) 1)) (minW ((tV p0) 2) ((tV p0) 3)))), .val (.int (maxW (maxW ((tV p0) 0) ((tV p0) 1)) (maxW ((tV p0) 2) ((tV p0) 3)))), .val (.int (minW (maxW ((tV p0) 0) ((tV p0) 1)) (maxW ((tV p0) 2) ((tV p0) 3)))), .val (.int (minW (maxW (minW ((tV p0) 0) ((tV p0) 1)) (minW ((tV p0) 2) ((tV p0) 3))) (minW (maxW ((tV p0) 0) ((tV p0) 1)) (maxW ((tV p0) 2) ((tV p0) 3))))), .val (.int (maxW (maxW (minW ((tV p0) 0) ((tV p0) 1)) (minW ((tV p0) 2) ((tV p0) 3))) (minW (maxW ((tV p0) 0) ((tV p0) 1)) (maxW ((tV p0) 2) ((tV p0) 3))))), .val (.ref b16), .val (.ref b17), .val (.int (1 : Int32)), .val (.int r0), .val (.int rr0), .val (.int r1), .val (.int rr1), .val (.int r2), .val (.int rr2), .val (.int r3), .val (.int rr3), .val (.int (1 : Int32))] [(.int rr2)])
  refine Go.step (fun _ k => XS.ifNo X32.here hx rfl (hb hby at_299) rfl ((if0 _ _).trans (feq (own_one y2)).1) k) ?_
  show Go _ _ _ _ _ _ _ T32 (mkF m 302 #[.val (.int p0), .val (.int p1), .val (.ref b1), .val (.int (minW ((tV p0) 0) ((tV p0) 1))), .val (.int (maxW ((tV p0) 0) ((tV p0) 1))), .val (.int (minW ((tV p0) 2) ((tV p0) 3))), .val (.int (maxW ((tV p0) 2) ((tV p0) 3))), .val (.int (minW (minW ((tV p0) 0) ((tV p0) 1)) (minW ((tV p0) 2) ((tV p0) 3)))), .val (.int (maxW (minW ((tV p0) 0) ((tV p0) 1)) (minW ((tV p0) 2) ((tV p0) 3)))), .val (.int (maxW (maxW ((tV p0) 0) ((tV p0) 1)) (maxW ((tV p0) 2) ((tV p0) 3)))), .val (.int (minW (maxW ((tV p0) 0) ((tV p0) 1)) (maxW ((tV p0) 2) ((tV p0) 3)))), .val (.int (minW (maxW (minW ((tV p0) 0) ((tV p0) 1)) (minW ((tV p0) 2) ((tV p0) 3))) (minW (maxW ((tV p0) 0) ((tV p0) 1)) (maxW ((tV p0) 2) ((tV p0) 3))))), .val (.int (maxW (maxW (minW ((tV p0) 0) ((tV p0) 1)) (minW ((tV p0) 2) ((tV p0) 3))) (minW (maxW ((tV p0) 0) ((tV p0) 1)) (maxW ((tV p0) 2) ((tV p0) 3))))), .val (.ref b16), .val (.ref b17), .val (.int (1 : Int32)), .val (.int r0), .val (.int rr0), .val (.int r1), .val (.int rr1), .val (.int r2), .val (.int rr2), .val (.int r3), .val (.int rr3), .val (.int (1 : Int32))] [])
  refine Go.step (fun _ k => XS.iload X32.here hx rfl (hb hby at_302) rfl k) ?_
  show Go _ _ _ _ _ _ _ T32 (mkF m 304 #[.val (.int p0), .val (.int p1), .val (.ref b1), .val (.int (minW ((tV p0) 0) ((tV p0) 1))), .val (.int (maxW ((tV p0) 0) ((tV p0) 1))), .val (.int (minW ((tV p0) 2) ((tV p0) 3))), .val (.int (maxW ((tV p0) 2) ((tV p0) 3))), .val (.int (minW (minW ((tV p0) 0) ((tV p0) 1)) (minW ((tV p0) 2) ((tV p0) 3)))), .val (.int (maxW (minW ((tV p0) 0) ((tV p0) 1)) (minW ((tV p0) 2) ((tV p0) 3)))), .val (.int (maxW (maxW ((tV p0) 0) ((tV p0) 1)) (maxW ((tV p0) 2) ((tV p0) 3)))), .val (.int (minW (maxW ((tV p0) 0) ((tV p0) 1)) (maxW ((tV p0) 2) ((tV p0) 3)))), .val (.int (minW (maxW (minW ((tV p0) 0) ((tV p0) 1)) (minW ((tV p0) 2) ((tV p0) 3))) (minW (maxW ((tV p0) 0) ((tV p0) 1)) (maxW ((tV p0) 2) ((tV p0) 3))))), .val (.int (maxW (maxW (minW ((tV p0) 0) ((tV p0) 1)) (minW ((tV p0) 2) ((tV p0) 3))) (minW (maxW ((tV p0) 0) ((tV p0) 1)) (maxW ((tV p0) 2) ((tV p0) 3))))), .val (.ref b16), .val (.ref b17), .val (.int (1 : Int32)), .val (.int r0), .val (.int rr0), .val (.int r1), .val (.int rr1), .val (.int r2), .val (.int rr2), .val (.int r3), .val (.int rr3), .val (.int (1 : Int32))] [(.int rr3)])
  refine Go.step (fun _ k => XS.ifNo X32.here hx rfl (hb hby at_304) rfl ((if0 _ _).trans (feq (own_one y3)).1) k) ?_
  show Go _ _ _ _ _ _ _ T32 (mkF m 307 #[.val (.int p0), .val (.int p1), .val (.ref b1), .val (.int (minW ((tV p0) 0) ((tV p0) 1))), .val (.int (maxW ((tV p0) 0) ((tV p0) 1))), .val (.int (minW ((tV p0) 2) ((tV p0) 3))), .val (.int (maxW ((tV p0) 2) ((tV p0) 3))), .val (.int (minW (minW ((tV p0) 0) ((tV p0) 1)) (minW ((tV p0) 2) ((tV p0) 3)))), .val (.int (maxW (minW ((tV p0) 0) ((tV p0) 1)) (minW ((tV p0) 2) ((tV p0) 3)))), .val (.int (maxW (maxW ((tV p0) 0) ((tV p0) 1)) (maxW ((tV p0) 2) ((tV p0) 3)))), .val (.int (minW (maxW ((tV p0) 0) ((tV p0) 1)) (maxW ((tV p0) 2) ((tV p0) 3)))), .val (.int (minW (maxW (minW ((tV p0) 0) ((tV p0) 1)) (minW ((tV p0) 2) ((tV p0) 3))) (minW (maxW ((tV p0) 0) ((tV p0) 1)) (maxW ((tV p0) 2) ((tV p0) 3))))), .val (.int (maxW (maxW (minW ((tV p0) 0) ((tV p0) 1)) (minW ((tV p0) 2) ((tV p0) 3))) (minW (maxW ((tV p0) 0) ((tV p0) 1)) (maxW ((tV p0) 2) ((tV p0) 3))))), .val (.ref b16), .val (.ref b17), .val (.int (1 : Int32)), .val (.int r0), .val (.int rr0), .val (.int r1), .val (.int rr1), .val (.int r2), .val (.int rr2), .val (.int r3), .val (.int rr3), .val (.int (1 : Int32))] [])
  refine Go.step (fun _ k => XS.iload X32.here hx rfl (hb hby at_307) rfl k) ?_
  show Go _ _ _ _ _ _ _ T32 (mkF m 309 #[.val (.int p0), .val (.int p1), .val (.ref b1), .val (.int (minW ((tV p0) 0) ((tV p0) 1))), .val (.int (maxW ((tV p0) 0) ((tV p0) 1))), .val (.int (minW ((tV p0) 2) ((tV p0) 3))), .val (.int (maxW ((tV p0) 2) ((tV p0) 3))), .val (.int (minW (minW ((tV p0) 0) ((tV p0) 1)) (minW ((tV p0) 2) ((tV p0) 3)))), .val (.int (maxW (minW ((tV p0) 0) ((tV p0) 1)) (minW ((tV p0) 2) ((tV p0) 3)))), .val (.int (maxW (maxW ((tV p0) 0) ((tV p0) 1)) (maxW ((tV p0) 2) ((tV p0) 3)))), .val (.int (minW (maxW ((tV p0) 0) ((tV p0) 1)) (maxW ((tV p0) 2) ((tV p0) 3)))), .val (.int (minW (maxW (minW ((tV p0) 0) ((tV p0) 1)) (minW ((tV p0) 2) ((tV p0) 3))) (minW (maxW ((tV p0) 0) ((tV p0) 1)) (maxW ((tV p0) 2) ((tV p0) 3))))), .val (.int (maxW (maxW (minW ((tV p0) 0) ((tV p0) 1)) (minW ((tV p0) 2) ((tV p0) 3))) (minW (maxW ((tV p0) 0) ((tV p0) 1)) (maxW ((tV p0) 2) ((tV p0) 3))))), .val (.ref b16), .val (.ref b17), .val (.int (1 : Int32)), .val (.int r0), .val (.int rr0), .val (.int r1), .val (.int rr1), .val (.int r2), .val (.int rr2), .val (.int r3), .val (.int rr3), .val (.int (1 : Int32))] [(.int (1 : Int32))])
  refine Go.step (fun _ k => XS.ifNo X32.here hx rfl (hb hby at_309) rfl ((if0 _ _).trans (feq (by decide : ¬ ((1 : Int32) = (0 : Int32)))).1) k) ?_
  show Go _ _ _ _ _ _ _ T32 (mkF m 312 #[.val (.int p0), .val (.int p1), .val (.ref b1), .val (.int (minW ((tV p0) 0) ((tV p0) 1))), .val (.int (maxW ((tV p0) 0) ((tV p0) 1))), .val (.int (minW ((tV p0) 2) ((tV p0) 3))), .val (.int (maxW ((tV p0) 2) ((tV p0) 3))), .val (.int (minW (minW ((tV p0) 0) ((tV p0) 1)) (minW ((tV p0) 2) ((tV p0) 3)))), .val (.int (maxW (minW ((tV p0) 0) ((tV p0) 1)) (minW ((tV p0) 2) ((tV p0) 3)))), .val (.int (maxW (maxW ((tV p0) 0) ((tV p0) 1)) (maxW ((tV p0) 2) ((tV p0) 3)))), .val (.int (minW (maxW ((tV p0) 0) ((tV p0) 1)) (maxW ((tV p0) 2) ((tV p0) 3)))), .val (.int (minW (maxW (minW ((tV p0) 0) ((tV p0) 1)) (minW ((tV p0) 2) ((tV p0) 3))) (minW (maxW ((tV p0) 0) ((tV p0) 1)) (maxW ((tV p0) 2) ((tV p0) 3))))), .val (.int (maxW (maxW (minW ((tV p0) 0) ((tV p0) 1)) (minW ((tV p0) 2) ((tV p0) 3))) (minW (maxW ((tV p0) 0) ((tV p0) 1)) (maxW ((tV p0) 2) ((tV p0) 3))))), .val (.ref b16), .val (.ref b17), .val (.int (1 : Int32)), .val (.int r0), .val (.int rr0), .val (.int r1), .val (.int rr1), .val (.int r2), .val (.int rr2), .val (.int r3), .val (.int rr3), .val (.int (1 : Int32))] [])
  refine Go.step (fun _ k => XS.iconst X32.here hx rfl (hb hby at_312) k) ?_
  show Go _ _ _ _ _ _ _ T32 (mkF m 313 #[.val (.int p0), .val (.int p1), .val (.ref b1), .val (.int (minW ((tV p0) 0) ((tV p0) 1))), .val (.int (maxW ((tV p0) 0) ((tV p0) 1))), .val (.int (minW ((tV p0) 2) ((tV p0) 3))), .val (.int (maxW ((tV p0) 2) ((tV p0) 3))), .val (.int (minW (minW ((tV p0) 0) ((tV p0) 1)) (minW ((tV p0) 2) ((tV p0) 3)))), .val (.int (maxW (minW ((tV p0) 0) ((tV p0) 1)) (minW ((tV p0) 2) ((tV p0) 3)))), .val (.int (maxW (maxW ((tV p0) 0) ((tV p0) 1)) (maxW ((tV p0) 2) ((tV p0) 3)))), .val (.int (minW (maxW ((tV p0) 0) ((tV p0) 1)) (maxW ((tV p0) 2) ((tV p0) 3)))), .val (.int (minW (maxW (minW ((tV p0) 0) ((tV p0) 1)) (minW ((tV p0) 2) ((tV p0) 3))) (minW (maxW ((tV p0) 0) ((tV p0) 1)) (maxW ((tV p0) 2) ((tV p0) 3))))), .val (.int (maxW (maxW (minW ((tV p0) 0) ((tV p0) 1)) (minW ((tV p0) 2) ((tV p0) 3))) (minW (maxW ((tV p0) 0) ((tV p0) 1)) (maxW ((tV p0) 2) ((tV p0) 3))))), .val (.ref b16), .val (.ref b17), .val (.int (1 : Int32)), .val (.int r0), .val (.int rr0), .val (.int r1), .val (.int rr1), .val (.int r2), .val (.int rr2), .val (.int r3), .val (.int rr3), .val (.int (1 : Int32))] [(.int (1 : Int32))])
  refine Go.step (fun _ k => XS.goto X32.here hx rfl (pc0 := 313) (pc' := 317) rfl (hb hby at_313) (by decide) (by decide) k) ?_
  show Go _ _ _ _ _ _ _ T32 (mkF m 317 #[.val (.int p0), .val (.int p1), .val (.ref b1), .val (.int (minW ((tV p0) 0) ((tV p0) 1))), .val (.int (maxW ((tV p0) 0) ((tV p0) 1))), .val (.int (minW ((tV p0) 2) ((tV p0) 3))), .val (.int (maxW ((tV p0) 2) ((tV p0) 3))), .val (.int (minW (minW ((tV p0) 0) ((tV p0) 1)) (minW ((tV p0) 2) ((tV p0) 3)))), .val (.int (maxW (minW ((tV p0) 0) ((tV p0) 1)) (minW ((tV p0) 2) ((tV p0) 3)))), .val (.int (maxW (maxW ((tV p0) 0) ((tV p0) 1)) (maxW ((tV p0) 2) ((tV p0) 3)))), .val (.int (minW (maxW ((tV p0) 0) ((tV p0) 1)) (maxW ((tV p0) 2) ((tV p0) 3)))), .val (.int (minW (maxW (minW ((tV p0) 0) ((tV p0) 1)) (minW ((tV p0) 2) ((tV p0) 3))) (minW (maxW ((tV p0) 0) ((tV p0) 1)) (maxW ((tV p0) 2) ((tV p0) 3))))), .val (.int (maxW (maxW (minW ((tV p0) 0) ((tV p0) 1)) (minW ((tV p0) 2) ((tV p0) 3))) (minW (maxW ((tV p0) 0) ((tV p0) 1)) (maxW ((tV p0) 2) ((tV p0) 3))))), .val (.ref b16), .val (.ref b17), .val (.int (1 : Int32)), .val (.int r0), .val (.int rr0), .val (.int r1), .val (.int rr1), .val (.int r2), .val (.int rr2), .val (.int r3), .val (.int rr3), .val (.int (1 : Int32))] [(.int (1 : Int32))])
  refine Go.retZ X32 hx hlk hret (by decide) (hb hby at_317) (by decide) (by decide) ?_
  try rw [hh32]
  exact ⟨rfl, N32⟩
theorem ef_rm0 (m : MethodId) (p0 : Int32) (p1 : Int32) : entryFrame m #[(.int p0), (.int p1)] maxLocals = mkF m 0 #[.val (.int p0), .val (.int p1), .unset, .unset, .unset, .unset, .unset, .unset, .unset, .unset, .unset, .unset, .unset, .unset, .unset, .unset, .unset, .unset, .unset, .unset, .unset, .unset, .unset, .unset, .unset] [] := by first | (simp [entryFrame, mkF, argsToLocals, Value.category, maxLocals]; done) | rfl
theorem rm0 (l : Launch) (Z : State) (a0 : Array Value) (hw : ∀ d ∈ tables_1, d.before a0 Z = true) (ws : List Jvm.Cond) (p0 p1 : Int32) (h0 : Heap) (n0 : Nat) (Z0 : n0 ≤ h0.size)  :
    MetFree l x (head1 (Jvm.Cond.code x code maxLocals ret :: ws) room_1) (fun a U => a = #[(.int p0), (.int p1)] ∧ Z.Warmed39 U.vm ∧ U.heap = h0) (fun _ _ _ _ _ => True) (fun _ U o U' => ∃ v L, o = .returned v ∧ (fun r h L => r = some (.int 1) ∧ Fr n0 L) v U'.heap L ∧ FrameEnd U o U' L room_1.cells room_1.slots) :=
  con_of (plainFor_of_name pn_8) (fun p_ e_ s_ m_ b_ meth_ c_ T_ X_ hx hZ hby hml hown hnm hret hlk e0 => Go.cast (ef_rm0 m_ p0 p1) (w0 p0 p1 X_ hx hZ hw hby hml hown hnm hret hlk e0 Z0 (Fr.nil n0) ))
set_option maxRecDepth 65536 in
set_option maxHeartbeats 40000000 in
theorem comes_1 {Post : Tables → Env → Array Value → State → Outcome → State → Prop} (hpost : ∀ tb e args s v u, (limb_1_1.after args s (.returned v) u = true ∧ limb_1_2.after args s (.returned v) u = true ∧ True) → FrameEnd s (.returned v) u (Jvm.fieldLocs frame_1_writes args s ++ Jvm.arrayLocs frame_1_arrays args s ++ Jvm.staticLocs frame_1_statics s) 24 384 → Post tb e args s (.returned v) u) :
    ArmFor flags0 classFile x code maxLocals ret World_1 tables_1 room_1 Calls_1 rest_1 Pre_1 Post := by
  intro l hfl _ _ p e ha hc hk s m args below hf hA hF happ hP
  obtain ⟨hcalls, hrest, hpre⟩ := hP
  obtain ⟨-, -, -, hnamed, -, -, -, hat⟩ := (Spec.applies_iff hf).mp happ
  obtain ⟨hg, hn⟩ := and_e (Cond.before_iff.mp (show (Jvm.Cond.and given_1 narrow_1).before args s = true from hpre))
  obtain ⟨g1, g2⟩ := and_e hg
  obtain ⟨g3, g4⟩ := and_e g2
  obtain ⟨w0, w1, rfl⟩ : ∃ w0 w1 : Value, args = #[w0, w1] := by
    have hs : args.size = 2 := by simpa [Cond.value, given_1] using g1
    obtain ⟨L⟩ := args
    match L, hs with
    | [w0, w1], _ => exact ⟨w0, w1, rfl⟩
  have hw := fun d (hd : d ∈ tables_1) => atoms_spec (ws := Jvm.Cond.code x code maxLocals ret :: tables_1) hat d (List.mem_cons_of_mem _ hd)
  have hfit : Fit s := fun {y c} hc i hi => by
    obtain ⟨ha, rfl⟩ := Array.getElem?_eq_some_iff.mp hc
    have q := List.all_eq_true.mp ((Array.all_eq_true_iff_forall_mem.mp hF) _ (Array.getElem_mem ha)) i (List.mem_range.mpr hi)
    simpa [Array.getElem?_eq_getElem hi] using q
  obtain ⟨i0, ei0⟩ := is_v g3
  obtain rfl : w0 = (.int i0) := Option.some.inj ei0
  obtain ⟨i1, ei1⟩ := is_v g4
  obtain rfl : w1 = (.int i1) := Option.some.inj ei1
  obtain ⟨n, o, h1, h2, h3, _, L, rfl, ⟨rfl, N⟩, hq⟩ := rm0 l s _ hw tables_1 i0 i1 s.heap s.heap.size (Nat.le_refl _)  p e ha hc hk s m _ below hf ((Spec.applies_iff_loose hf).mp happ).1 ⟨rfl, State.Warmed39.refl s, rfl⟩ trivial
  refine ⟨n, _, h1, h2, h3, hpost _ _ _ _ _ _ ⟨Cond.after_iff.mpr rfl, Cond.after_iff.mpr (eq_i res_at (Term.int_eval (1)) rfl), trivial⟩ ⟨hq.1, hq.2.1, (hq.2.2.sift fun y hy => Or.inr (N y hy)).mono (by decide) (by decide)⟩⟩
theorem main_1_1 : Claimed_1_1 := comes_1 fun _ _ _ _ _ _ h hF => ⟨h.1, hF⟩
theorem main_1_2 : Claimed_1_2 := comes_1 fun _ _ _ _ _ _ h hF => ⟨h.2.1, hF⟩
end Jvm.Pilot.@@N@@
namespace Jvm.Pilot.@@N@@
open Jvm Jvm.ClassFile Sem Op Lib Jvm.Free Jvm.Stand Jvm.Pilot.@@N@@.Jvm.D
/-! MADE BY PROGRAM (witnessworld.py) out of the Statement's table words and the real class files: 14 classes; the members and pool entries that the words name. The judged class is class 1, her method 2. -/
namespace start1
open Jvm.ClassFile
def u (s : String) : CpInfo := .utf8 (stringToUtf16 s)
/-- a pool by its gaps: so many unusable entries, then the entry; so many at the end -/
def gap : Nat → List CpInfo → List CpInfo
  | 0, r => r
  | n + 1, r => .unusable :: gap n r
def poolList (es : List (Nat × CpInfo)) (last : Nat) : List CpInfo := es.foldr (fun e r => gap e.1 (e.2 :: r)) (gap last [])
def pool (es : List (Nat × CpInfo)) (last : Nat) : Array CpInfo := ⟨poolList es last⟩
def fileOf (pool : Array CpInfo) (this : Nat) (attrs : Array Attribute := #[]) (ms : Array MethodInfo := #[]) (fl : Nat := 33) (sup : Nat := 0) (ifs : Array Nat := #[]) (fds : Array FieldInfo := #[]) : ClassFile where
  minorVersion := 0
  majorVersion := 65
  constantPool := pool
  accessFlags := fl
  thisClass := this
  superClass := sup
  interfaces := ifs
  fields := fds
  methods := ms
  attributes := attrs
def plain (name : String) (sup : Option ClassId) : Class where
  name := name
  kind := .ordinary
  loader := none
  accessFlags := 33
  super := sup
  interfaces := #[]
  cf := none
  fields := #[]
  methods := #[]
  instanceTypes := #[]
  staticTypes := #[]
  resolved := #[]
  callSites := []
  init := .initialized
  statics := none
  mirror := none

def pool0 : Array CpInfo := pool [(5, u "<init>"), (0, u "()V"), (1, .class_ 10), (1, u "java/lang/Object")] 113

def k0c0 : Code := { maxStack := 0, maxLocals := 1, code := object_method_1_code, exceptionTable := #[], attributes := #[] }
def k0m0 : Method := { name := "<init>", desc := "()V", sig := { parameters := [], returnType := none }, accessFlags := 1, code := some k0c0 }
/-- java/lang/Object -/
def k0 : Class := { plain "java/lang/Object" none with
  accessFlags := 33
  interfaces := #[]
  cf := some (fileOf pool0 8 #[] #[{ accessFlags := 1, nameIndex := 5, descriptorIndex := 6, attributes := #[] }] 33 0 #[] #[])
  fields := #[]
  methods := #[k0m0]
  instanceTypes := #[]
  staticTypes := #[]
  resolved := Array.replicate 124 none
  statics := none }

def pool1 : Array CpInfo := pool [(2, .class_ 4), (0, .nameAndType 5 6), (0, u "java/lang/Object"), (0, u "<init>"), (0, u "()V"), (0, .methodref 8 9), (0, .class_ 10), (0, .nameAndType 11 12), (0, u "java/lang/Math"), (0, u "min"), (0, u "(II)I"), (0, .methodref 8 14), (0, .nameAndType 15 12), (0, u "max"), (0, .class_ 17), (0, u "com/example/wavegrade/wavegrade/DepartureQueue"), (0, .methodref 16 3), (0, .methodref 16 20), (0, .nameAndType 21 22), (0, u "isEmpty"), (0, u "()Z"), (0, .methodref 16 24), (0, .nameAndType 25 26), (0, u "add"), (0, u "(DI)V"), (0, .methodref 16 28), (0, .nameAndType 29 30), (0, u "removeFirst"), (0, u "()I"), (0, .methodref 32 33), (0, .class_ 34), (0, .nameAndType 35 36), (0, u "com/example/wavegrade/wavegrade/DepartureQueueAddPinLaw"), (0, u "take"), (0, u "(II[I[ZI)Z"), (3, u "law"), (0, u "(II)Z")] 6

def k1m0 : Method := { name := "<init>", desc := "()V", sig := { parameters := [], returnType := none }, accessFlags := 1, code := none }
def k1c1 : Code := { maxStack := 3, maxLocals := 6, code := method_2_code, exceptionTable := #[], attributes := #[] }
def k1m1 : Method := { name := "take", desc := "(II[I[ZI)Z", sig := { parameters := [.int, .int, (.array .int), (.array .boolean), .int], returnType := some .boolean }, accessFlags := 10, code := some k1c1 }
def k1c2 : Code := { maxStack := 5, maxLocals := 25, code := code, exceptionTable := #[], attributes := #[] }
def k1m2 : Method := { name := "law", desc := "(II)Z", sig := { parameters := [.int, .int], returnType := some .boolean }, accessFlags := 9, code := some k1c2 }
/-- com/example/wavegrade/wavegrade/DepartureQueueAddPinLaw -/
def k1 : Class := { plain "com/example/wavegrade/wavegrade/DepartureQueueAddPinLaw" (some 0) with
  accessFlags := 49
  interfaces := #[]
  cf := some (fileOf pool1 32 #[] #[{ accessFlags := 1, nameIndex := 5, descriptorIndex := 6, attributes := #[] }, { accessFlags := 10, nameIndex := 35, descriptorIndex := 36, attributes := #[] }, { accessFlags := 9, nameIndex := 40, descriptorIndex := 41, attributes := #[] }] 49 2 #[] #[])
  fields := #[]
  methods := #[k1m0, k1m1, k1m2]
  instanceTypes := #[]
  staticTypes := #[]
  resolved := Array.replicate 48 none
  statics := none }

def pool2 : Array CpInfo := pool [(1, .class_ 2), (0, u "java/lang/Math"), (1, .class_ 6), (1, u "java/lang/Object"), (0, u "<init>"), (0, u "()V"), (89, .class_ 100), (1, u "java/lang/Math$RandomNumberGeneratorHolder"), (71, u "negativeZeroFloatBits"), (0, u "J"), (2, u "negativeZeroDoubleBits"), (21, u "max"), (2, u "min"), (43, u "$assertionsDisabled"), (0, u "Z"), (88, u "(II)I"), (2, u "twoToTheDoubleScaleDown"), (0, u "D"), (4, u "twoToTheDoubleScaleUp"), (9, u "E"), (3, u "PI"), (2, u "TAU"), (2, u "DEGREES_TO_RADIANS"), (0, u "RADIANS_TO_DEGREES")] 94

def k2m0 : Method := { name := "<init>", desc := "()V", sig := { parameters := [], returnType := none }, accessFlags := 2, code := none }
def k2c1 : Code := { maxStack := 2, maxLocals := 2, code := jdk_29_method_65_code, exceptionTable := #[], attributes := #[] }
def k2m1 : Method := { name := "max", desc := "(II)I", sig := { parameters := [.int, .int], returnType := some .int }, accessFlags := 9, code := some k2c1 }
def k2c2 : Code := { maxStack := 2, maxLocals := 2, code := jdk_29_method_69_code, exceptionTable := #[], attributes := #[] }
def k2m2 : Method := { name := "min", desc := "(II)I", sig := { parameters := [.int, .int], returnType := some .int }, accessFlags := 9, code := some k2c2 }
/-- java/lang/Math -/
def k2 : Class := { plain "java/lang/Math" (some 0) with
  accessFlags := 49
  interfaces := #[]
  cf := some (fileOf pool2 1 #[.nestMembers #[98]] #[{ accessFlags := 2, nameIndex := 7, descriptorIndex := 8, attributes := #[] }, { accessFlags := 9, nameIndex := 198, descriptorIndex := 335, attributes := #[] }, { accessFlags := 9, nameIndex := 201, descriptorIndex := 335, attributes := #[] }] 49 4 #[] #[{ accessFlags := 25, nameIndex := 354, descriptorIndex := 339, attributes := #[] }, { accessFlags := 25, nameIndex := 358, descriptorIndex := 339, attributes := #[] }, { accessFlags := 25, nameIndex := 361, descriptorIndex := 339, attributes := #[] }, { accessFlags := 26, nameIndex := 364, descriptorIndex := 339, attributes := #[] }, { accessFlags := 26, nameIndex := 365, descriptorIndex := 339, attributes := #[] }, { accessFlags := 26, nameIndex := 172, descriptorIndex := 173, attributes := #[] }, { accessFlags := 26, nameIndex := 176, descriptorIndex := 173, attributes := #[] }, { accessFlags := 8, nameIndex := 344, descriptorIndex := 339, attributes := #[] }, { accessFlags := 8, nameIndex := 338, descriptorIndex := 339, attributes := #[] }, { accessFlags := 4120, nameIndex := 245, descriptorIndex := 246, attributes := #[] }])
  fields := #[{ name := "E", type := .double, accessFlags := 25, slot := 0, constantValue := 0 }, { name := "PI", type := .double, accessFlags := 25, slot := 1, constantValue := 0 }, { name := "TAU", type := .double, accessFlags := 25, slot := 2, constantValue := 0 }, { name := "DEGREES_TO_RADIANS", type := .double, accessFlags := 26, slot := 3, constantValue := 0 }, { name := "RADIANS_TO_DEGREES", type := .double, accessFlags := 26, slot := 4, constantValue := 0 }, { name := "negativeZeroFloatBits", type := .long, accessFlags := 26, slot := 5, constantValue := 0 }, { name := "negativeZeroDoubleBits", type := .long, accessFlags := 26, slot := 6, constantValue := 0 }, { name := "twoToTheDoubleScaleUp", type := .double, accessFlags := 8, slot := 7, constantValue := 0 }, { name := "twoToTheDoubleScaleDown", type := .double, accessFlags := 8, slot := 8, constantValue := 0 }, { name := "$assertionsDisabled", type := .boolean, accessFlags := 4120, slot := 9, constantValue := 0 }]
  methods := #[k2m0, k2m1, k2m2]
  instanceTypes := #[]
  staticTypes := #[.double, .double, .double, .double, .double, .long, .long, .double, .double, .boolean]
  resolved := Array.replicate 460 none
  statics := none }

def pool3 : Array CpInfo := pool [(1, .methodref 2 3), (0, .class_ 4), (0, .nameAndType 5 6), (0, u "java/lang/Object"), (0, u "<init>"), (0, u "()V"), (0, .fieldref 8 9), (0, .class_ 10), (0, .nameAndType 11 12), (0, u "com/example/wavegrade/wavegrade/DepartureQueue"), (0, u "times"), (0, u "[D"), (0, .fieldref 8 14), (0, .nameAndType 15 16), (0, u "lightpaths"), (0, u "[I"), (0, .fieldref 8 18), (0, .nameAndType 19 20), (0, u "size"), (0, u "I"), (11, u "isEmpty"), (0, u "()Z"), (3, u "add"), (0, u "(DI)V"), (0, u "removeFirst"), (0, u "()I")] 2

def k3c0 : Code := { maxStack := 2, maxLocals := 1, code := prog_1_method_1_code, exceptionTable := #[], attributes := #[] }
def k3m0 : Method := { name := "<init>", desc := "()V", sig := { parameters := [], returnType := none }, accessFlags := 0, code := some k3c0 }
def k3c1 : Code := { maxStack := 1, maxLocals := 1, code := prog_1_method_2_code, exceptionTable := #[], attributes := #[] }
def k3m1 : Method := { name := "isEmpty", desc := "()Z", sig := { parameters := [], returnType := some .boolean }, accessFlags := 0, code := some k3c1 }
def k3c2 : Code := { maxStack := 4, maxLocals := 6, code := prog_1_method_4_code, exceptionTable := #[], attributes := #[] }
def k3m2 : Method := { name := "add", desc := "(DI)V", sig := { parameters := [.double, .int], returnType := none }, accessFlags := 0, code := some k3c2 }
def k3c3 : Code := { maxStack := 4, maxLocals := 7, code := prog_1_method_5_code, exceptionTable := #[], attributes := #[] }
def k3m3 : Method := { name := "removeFirst", desc := "()I", sig := { parameters := [], returnType := some .int }, accessFlags := 0, code := some k3c3 }
/-- com/example/wavegrade/wavegrade/DepartureQueue -/
def k3 : Class := { plain "com/example/wavegrade/wavegrade/DepartureQueue" (some 0) with
  accessFlags := 48
  interfaces := #[]
  cf := some (fileOf pool3 8 #[] #[{ accessFlags := 0, nameIndex := 5, descriptorIndex := 6, attributes := #[] }, { accessFlags := 0, nameIndex := 32, descriptorIndex := 33, attributes := #[] }, { accessFlags := 0, nameIndex := 37, descriptorIndex := 38, attributes := #[] }, { accessFlags := 0, nameIndex := 39, descriptorIndex := 40, attributes := #[] }] 48 2 #[] #[{ accessFlags := 2, nameIndex := 11, descriptorIndex := 12, attributes := #[] }, { accessFlags := 2, nameIndex := 15, descriptorIndex := 16, attributes := #[] }, { accessFlags := 2, nameIndex := 19, descriptorIndex := 20, attributes := #[] }])
  fields := #[{ name := "times", type := (.array .double), accessFlags := 2, slot := 0, constantValue := 0 }, { name := "lightpaths", type := (.array .int), accessFlags := 2, slot := 1, constantValue := 0 }, { name := "size", type := .int, accessFlags := 2, slot := 2, constantValue := 0 }]
  methods := #[k3m0, k3m1, k3m2, k3m3]
  instanceTypes := #[(.array .double), (.array .int), .int]
  staticTypes := #[]
  resolved := Array.replicate 43 none
  statics := none }

def pool4 : Array CpInfo := pool [(1, u "java/lang/Cloneable"), (0, .class_ 1), (0, u "java/lang/Object"), (0, .class_ 3)] 3

/-- java/lang/Cloneable -/
def k4 : Class := { plain "java/lang/Cloneable" (some 0) with
  accessFlags := 1537
  interfaces := #[]
  cf := some (fileOf pool4 2 #[] #[] 1537 4 #[] #[])
  fields := #[]
  methods := #[]
  instanceTypes := #[]
  staticTypes := #[]
  resolved := Array.replicate 8 none
  statics := none }

def pool5 : Array CpInfo := pool [(1, u "java/io/Serializable"), (0, .class_ 1), (0, u "java/lang/Object"), (0, .class_ 3)] 3

/-- java/io/Serializable -/
def k5 : Class := { plain "java/io/Serializable" (some 0) with
  accessFlags := 1537
  interfaces := #[]
  cf := some (fileOf pool5 2 #[] #[] 1537 4 #[] #[])
  fields := #[]
  methods := #[]
  instanceTypes := #[]
  staticTypes := #[]
  resolved := Array.replicate 8 none
  statics := none }

/-- the primitive boolean -/
def k6 : Class := { plain "boolean" none with kind := .primitive 'Z', accessFlags := 0x411 }
/-- [Z -/
def k7 : Class := { plain "[Z" (some 0) with kind := .array 6 .boolean, interfaces := #[4, 5], accessFlags := 1041 }

/-- the primitive byte -/
def k8 : Class := { plain "byte" none with kind := .primitive 'B', accessFlags := 0x411 }
/-- [B -/
def k9 : Class := { plain "[B" (some 0) with kind := .array 8 .byte, interfaces := #[4, 5], accessFlags := 1041 }

/-- the primitive double -/
def k10 : Class := { plain "double" none with kind := .primitive 'D', accessFlags := 0x411 }
/-- [D -/
def k11 : Class := { plain "[D" (some 0) with kind := .array 10 .double, interfaces := #[4, 5], accessFlags := 1041 }

/-- the primitive int -/
def k12 : Class := { plain "int" none with kind := .primitive 'I', accessFlags := 0x411 }
/-- [I -/
def k13 : Class := { plain "[I" (some 0) with kind := .array 12 .int, interfaces := #[4, 5], accessFlags := 1041 }

def heap : Heap := #[]
def classes : Array Class := #[k0, k1, k2, k3, k4, k5, k6, k7, k8, k9, k10, k11, k12, k13]
def interned : List (Array UInt16 × Addr) := []
def slotsUsed : Nat := 0
def theMethod : MethodId := ⟨1, 2⟩
def args0 : Array Value := #[.int 3, .int 2]
def aboutOver (below : List Frame) : State where
  vm := { classes := classes, interned := interned.toArray }
  heap := heap
  slotsUsed := slotsUsed
  threads := #[{ frames := .invoking theMethod args0 :: below }]
def below0 : List Frame := [.native { method := ⟨0, 0⟩, args := #[] }]
def about1 : State := aboutOver below0
def p0 : Program := .bare "" "" ""
def e0 : Env := launch0.env 0 0 0
theorem w_frames : about1.frames = Frame.invoking theMethod args0 :: below0 := rfl
set_option maxRecDepth 65536 in
theorem w_args : argsFit about1.vm theMethod args0 = true := by decide +kernel
set_option maxRecDepth 65536 in
theorem w_heap : heapFits about1 = true := by decide +kernel
set_option maxRecDepth 65536 in
theorem w_runnable : about1.curStatus? = some .runnable := by decide +kernel
set_option maxRecDepth 65536 in
theorem w_alone : about1.alone = true := by decide +kernel
set_option maxRecDepth 65536 in
theorem w_named : about1.methodNamed? x = some theMethod := by decide +kernel
set_option maxRecDepth 65536 in
theorem w_hears : about1.hears theMethod below0 = true := by decide +kernel
set_option maxRecDepth 65536 in
theorem w_ripe : about1.ripe theMethod args0 below0 = true := by decide +kernel
theorem w_running : about1.status = .running := rfl
set_option maxRecDepth 65536 in
theorem w_room : about1.hasRoom e0.platform room_1 = true :=
  launch0.hasRoom_least _ room_1 (by decide +kernel) (by decide +kernel) (by decide +kernel) (by decide +kernel) (by decide +kernel) (by decide +kernel)
theorem allAtoms_all (ts : List Jvm.Cond) (a : Array Jvm.Value) (st : Jvm.State) : (allAtoms ts).before a st = ts.all (fun c => c.before a st) := by
  induction ts with
  | nil => rfl
  | cons c t ih =>
    show (Jvm.Cond.and c (allAtoms t)).before a st = _
    rw [Jvm.Cond.before_and, ih, List.all_cons]
def words1 : List Jvm.Cond := Jvm.Cond.code x code maxLocals ret :: tables_1
/-- a 'code' word, met by the world's own term for the bytes: nothing is compared byte by byte -/
theorem code_word {y : MethodName} {bytes : ByteArray} {mx : Nat} {rt : Option FieldType} {a : Array Value} {s : State} {m : MethodId} {meth : Method} {c : Code} (h1 : s.methodNamed? y = some m) (h2 : s.vm.method? m = some meth) (h3 : meth.code = some c) (h4 : c.code = bytes)
    (h5 : (c.maxLocals == mx && c.exceptionTable.isEmpty && decide (c.maxStack ≤ mostOperands) && decide (meth.sig.returnType = rt) && !meth.locks && decide (parseMethodDescriptor y.desc = some meth.sig)) = true) : (Jvm.Cond.code y bytes mx rt).before a s = true := by
  simp only [Bool.and_eq_true, beq_iff_eq, Bool.not_eq_true', decide_eq_true_eq] at h5
  obtain ⟨⟨⟨⟨⟨g1, g2⟩, g3⟩, g4⟩, g5⟩, g6⟩ := h5
  simp [Cond.before, Cond.holds, Cond.value, h1, h2, h3, h4, g1, g2, g3, g4, g5, g6]
def isCode : Jvm.Cond → Bool
  | .code _ _ _ _ => true
  | _ => false
theorem all_split {L : List Jvm.Cond} {P : Jvm.Cond → Bool} (h1 : L.all (fun c => isCode c || P c) = true) (h2 : ∀ c ∈ L.filter isCode, P c = true) : L.all P = true := by
  refine List.all_eq_true.mpr fun c hc => ?_
  have h := List.all_eq_true.mp h1 c hc
  rcases Bool.eq_false_or_eq_true (isCode c) with hi | hi
  · exact h2 c (List.mem_filter.mpr ⟨hc, hi⟩)
  · simpa [hi] using h
set_option maxRecDepth 65536 in
theorem w_c0 : (Jvm.Cond.code x code maxLocals ret).before args0 about1 = true := code_word (m := ⟨1, 2⟩) (meth := k1m2) (c := k1c2) (by decide +kernel) rfl rfl rfl (by decide +kernel)
set_option maxRecDepth 65536 in
theorem w_c1 : (Jvm.Cond.code ({ cls := "java/lang/Math", name := "min", desc := "(II)I" } : Jvm.MethodName) jdk_29_method_69_code (2 : Nat) (Option.some Jvm.ClassFile.FieldType.int)).before args0 about1 = true := code_word (m := ⟨2, 2⟩) (meth := k2m2) (c := k2c2) (by decide +kernel) rfl rfl rfl (by decide +kernel)
set_option maxRecDepth 65536 in
theorem w_c2 : (Jvm.Cond.code ({ cls := "java/lang/Math", name := "max", desc := "(II)I" } : Jvm.MethodName) jdk_29_method_65_code (2 : Nat) (Option.some Jvm.ClassFile.FieldType.int)).before args0 about1 = true := code_word (m := ⟨2, 1⟩) (meth := k2m1) (c := k2c1) (by decide +kernel) rfl rfl rfl (by decide +kernel)
set_option maxRecDepth 65536 in
theorem w_c3 : (Jvm.Cond.code ({ cls := "com/example/wavegrade/wavegrade/DepartureQueue", name := "<init>", desc := "()V" } : Jvm.MethodName) prog_1_method_1_code (1 : Nat) (Option.none : Option Jvm.ClassFile.FieldType)).before args0 about1 = true := code_word (m := ⟨3, 0⟩) (meth := k3m0) (c := k3c0) (by decide +kernel) rfl rfl rfl (by decide +kernel)
set_option maxRecDepth 65536 in
theorem w_c4 : (Jvm.Cond.code ({ cls := "java/lang/Object", name := "<init>", desc := "()V" } : Jvm.MethodName) object_method_1_code (1 : Nat) (Option.none : Option Jvm.ClassFile.FieldType)).before args0 about1 = true := code_word (m := ⟨0, 0⟩) (meth := k0m0) (c := k0c0) (by decide +kernel) rfl rfl rfl (by decide +kernel)
set_option maxRecDepth 65536 in
theorem w_c5 : (Jvm.Cond.code ({ cls := "com/example/wavegrade/wavegrade/DepartureQueue", name := "isEmpty", desc := "()Z" } : Jvm.MethodName) prog_1_method_2_code (1 : Nat) (Option.some Jvm.ClassFile.FieldType.boolean)).before args0 about1 = true := code_word (m := ⟨3, 1⟩) (meth := k3m1) (c := k3c1) (by decide +kernel) rfl rfl rfl (by decide +kernel)
set_option maxRecDepth 65536 in
theorem w_c6 : (Jvm.Cond.code ({ cls := "com/example/wavegrade/wavegrade/DepartureQueue", name := "add", desc := "(DI)V" } : Jvm.MethodName) prog_1_method_4_code (6 : Nat) (Option.none : Option Jvm.ClassFile.FieldType)).before args0 about1 = true := code_word (m := ⟨3, 2⟩) (meth := k3m2) (c := k3c2) (by decide +kernel) rfl rfl rfl (by decide +kernel)
set_option maxRecDepth 65536 in
theorem w_c7 : (Jvm.Cond.code ({ cls := "com/example/wavegrade/wavegrade/DepartureQueue", name := "removeFirst", desc := "()I" } : Jvm.MethodName) prog_1_method_5_code (7 : Nat) (Option.some Jvm.ClassFile.FieldType.int)).before args0 about1 = true := code_word (m := ⟨3, 3⟩) (meth := k3m3) (c := k3c3) (by decide +kernel) rfl rfl rfl (by decide +kernel)
set_option maxRecDepth 65536 in
theorem w_c8 : (Jvm.Cond.code ({ cls := "com/example/wavegrade/wavegrade/DepartureQueueAddPinLaw", name := "take", desc := "(II[I[ZI)Z" } : Jvm.MethodName) method_2_code (6 : Nat) (Option.some Jvm.ClassFile.FieldType.boolean)).before args0 about1 = true := code_word (m := ⟨1, 1⟩) (meth := k1m1) (c := k1c1) (by decide +kernel) rfl rfl rfl (by decide +kernel)
def codes1 : List Jvm.Cond := [Jvm.Cond.code x code maxLocals ret, Jvm.Cond.code ({ cls := "java/lang/Math", name := "min", desc := "(II)I" } : Jvm.MethodName) jdk_29_method_69_code (2 : Nat) (Option.some Jvm.ClassFile.FieldType.int), Jvm.Cond.code ({ cls := "java/lang/Math", name := "max", desc := "(II)I" } : Jvm.MethodName) jdk_29_method_65_code (2 : Nat) (Option.some Jvm.ClassFile.FieldType.int), Jvm.Cond.code ({ cls := "com/example/wavegrade/wavegrade/DepartureQueue", name := "<init>", desc := "()V" } : Jvm.MethodName) prog_1_method_1_code (1 : Nat) (Option.none : Option Jvm.ClassFile.FieldType), Jvm.Cond.code ({ cls := "java/lang/Object", name := "<init>", desc := "()V" } : Jvm.MethodName) object_method_1_code (1 : Nat) (Option.none : Option Jvm.ClassFile.FieldType), Jvm.Cond.code ({ cls := "com/example/wavegrade/wavegrade/DepartureQueue", name := "isEmpty", desc := "()Z" } : Jvm.MethodName) prog_1_method_2_code (1 : Nat) (Option.some Jvm.ClassFile.FieldType.boolean), Jvm.Cond.code ({ cls := "com/example/wavegrade/wavegrade/DepartureQueue", name := "add", desc := "(DI)V" } : Jvm.MethodName) prog_1_method_4_code (6 : Nat) (Option.none : Option Jvm.ClassFile.FieldType), Jvm.Cond.code ({ cls := "com/example/wavegrade/wavegrade/DepartureQueue", name := "removeFirst", desc := "()I" } : Jvm.MethodName) prog_1_method_5_code (7 : Nat) (Option.some Jvm.ClassFile.FieldType.int), Jvm.Cond.code ({ cls := "com/example/wavegrade/wavegrade/DepartureQueueAddPinLaw", name := "take", desc := "(II[I[ZI)Z" } : Jvm.MethodName) method_2_code (6 : Nat) (Option.some Jvm.ClassFile.FieldType.boolean)]
set_option maxRecDepth 65536 in
theorem codes_eq : words1.filter isCode = codes1 := rfl
theorem w_codes : ∀ c ∈ words1.filter isCode, c.before args0 about1 = true := by
  rw [codes_eq]
  intro c hc
  simp only [codes1, List.mem_cons, List.not_mem_nil, or_false] at hc
  rcases hc with rfl | rfl | rfl | rfl | rfl | rfl | rfl | rfl | rfl
  · exact w_c0
  · exact w_c1
  · exact w_c2
  · exact w_c3
  · exact w_c4
  · exact w_c5
  · exact w_c6
  · exact w_c7
  · exact w_c8
set_option maxRecDepth 65536 in
theorem w_t1 : (words1.take 24).all (fun c => isCode c || c.before args0 about1) = true := by decide +kernel
set_option maxRecDepth 65536 in
theorem w_t2 : (words1.drop 24).all (fun c => isCode c || c.before args0 about1) = true := by decide +kernel
theorem w_tables : (allAtoms (Jvm.Cond.code x code maxLocals ret :: tables_1)).before args0 about1 = true := by
  rw [allAtoms_all]
  show words1.all (fun c => c.before args0 about1) = true
  refine all_split ?_ w_codes
  rw [← List.take_append_drop 24 words1, List.all_append, w_t1, w_t2]
  rfl
set_option maxRecDepth 65536 in
theorem w_case : (Jvm.Cond.and given_1 narrow_1).before args0 about1 = true := by decide +kernel
theorem w_applies : (headSpec (Jvm.Cond.code x code maxLocals ret :: tables_1) room_1).applies x e0.platform about1 = true :=
  (Spec.applies_iff w_frames).mpr ⟨w_running, w_runnable, w_alone, w_named, w_hears, w_ripe, w_room, w_tables⟩
theorem atStart : AtStart classFile x code maxLocals ret World_1 tables_1 room_1 Calls_1 rest_1 Pre_1 launch0 p0 e0 about1 theMethod args0 below0 :=
  ⟨lists_1, trivial, launch0.admits_env _ _ _, launch0.least_env, fairChoices_fair.cas, fairChoices_fair.clock, w_frames, w_args, w_heap, w_applies, trivial, trivial, w_case⟩
end start1
theorem witness_1 : WitnessClaimed_1 := ⟨start1.p0, start1.e0, start1.about1, start1.theMethod, start1.args0, start1.below0, start1.atStart⟩
end Jvm.Pilot.@@N@@
