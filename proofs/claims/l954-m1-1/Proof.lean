import JvmDerived
import JvmDerived.Pilot.@@N@@Statement
import JvmDerived.Pilot.@@N@@Code
set_option linter.unusedVariables false
set_option linter.unusedSimpArgs false
namespace Jvm.Pilot.@@N@@
open Jvm Jvm.ClassFile Sem Op Lib Jvm.Free Jvm.Stand Jvm.LawKit Jvm.RoadKit Bundle Jvm.Pilot.@@N@@.Jvm.D
/-! OWN: the walk as a tree. Go: from here the run comes to a return that Q allows. -/
def Go (p : Program) (e : Env) (below : List Frame) (s : State) (C S : Nat) (Q : Option Value → Heap → List Loc → Prop) (T : State) (g : JFrame) : Prop :=
  ∃ s₂ o, Steps p.tables e below (T.setTop g) s₂ ∧ s₂.status = .running ∧ Ended s₂ below o ∧ ∃ v L, o = .returned v ∧ Q v s₂.heap L ∧ FrameEnd s o s₂ L C S
section OwnGo
variable {p : Program} {l : Launch} {e : Env} {R : Room} {s : State} {m : MethodId} {args : Array Value} {below : List Frame} {meth : Method} {c : Code} {T T' : State} {locs : List Loc} {cells slots : Nat} {Z : State} {a0 : Array Value} {h : Heap} {C S : Nat} {Q : Option Value → Heap → List Loc → Prop} {g g' : JFrame}
theorem Go.step (st : ∀ target, Steps p.tables e below (T'.setTop g') target → Steps p.tables e below (T.setTop g) target) (h : Go p e below s C S Q T' g') : Go p e below s C S Q T g := by
  obtain ⟨s₂, o, h1, r⟩ := h; exact ⟨s₂, o, st _ h1, r⟩
theorem Go.cast (q : g = g') (h : Go p e below s C S Q T g') : Go p e below s C S Q T g := q ▸ h
theorem Go.ret (X : Stand p l e R s m args below meth c T locs cells slots) (hlk : meth.locks = false) {v : Option Value} (hv : meth.sig.returnType = none → v = none)
    (st : ∀ fs, (∀ (f : JFrame) (acts : List Action), f.method = m → f.locked = none → f.entered = [] → (doReturn e (T.setTop f) acts v).1 = T.setFrames fs) → Steps p.tables e below (T.setTop g) (T.setFrames fs))
    (hq : Q v T.heap locs) (hc : cells ≤ C) (hs : slots ≤ S) : Go p e below s C S Q T g := by
  obtain ⟨fs, hr, hrun, hended, hW, hsame⟩ := X.leave (v := v) hv hlk
  exact ⟨_, _, st fs hr, hrun, hended, v, locs, rfl, hq, ⟨_, rfl⟩, hW, hsame.mono hc hs⟩
theorem Go.retV (X : Stand p l e R s m args below meth c T locs cells slots) (hx : p.tables.exec = Jvm.exec) (hlk : meth.locks = false) (hret : meth.sig.returnType = none) {pc : Nat} {Ls : Array Slot} (hd : decode c.code pc = .ok (.return_, 1))
    (hc : cells ≤ C) (hs : slots ≤ S) (hq : Q none T.heap locs) : Go p e below s C S Q T (mkF m pc Ls []) :=
  Go.ret X hlk (fun _ => rfl) (fun fs hr => X.returnOut hx hret hd hr) hq hc hs
theorem Go.retW (X : Stand p l e R s m args below meth c T locs cells slots) (hx : p.tables.exec = Jvm.exec) (hlk : meth.locks = false) {t : FieldType} (hret : meth.sig.returnType = some t) {pc : Nat} {Ls : Array Slot} {w : Value} {i : Instr} {rest : List Value} (hn : narrow t w = w)
    (hi : (i = .ireturn ∧ (t = .int ∨ t = .boolean ∨ t = .byte ∨ t = .char ∨ t = .short) ∧ ∃ z, w = .int z) ∨ (i = .lreturn ∧ t = .long ∧ ∃ z, w = .long z) ∨ (i = .dreturn ∧ t = .double ∧ ∃ z, w = .double z) ∨ (i = .freturn ∧ t = .float ∧ ∃ z, w = .float z) ∨ (i = .areturn ∧ t.isReference = true ∧ w.isRef = true))
    (hd : decode c.code pc = .ok (i, 1)) (hc : cells ≤ C) (hs : slots ≤ S) (hq : Q (some w) T.heap locs) : Go p e below s C S Q T (mkF m pc Ls (w :: rest)) :=
  Go.ret X hlk (fun h => by rw [hret] at h; cases h) (fun fs hr => retOut X hx hret hn hi hd hr) hq hc hs
theorem Go.retI (X : Stand p l e R s m args below meth c T locs cells slots) (hx : p.tables.exec = Jvm.exec) (hlk : meth.locks = false) (hret : meth.sig.returnType = some .int) {pc : Nat} {Ls : Array Slot} {z : Int32} {rest : List Value}
    (hd : decode c.code pc = .ok (.ireturn, 1)) (hc : cells ≤ C) (hs : slots ≤ S) (hq : Q (some (.int z)) T.heap locs) : Go p e below s C S Q T (mkF m pc Ls (.int z :: rest)) :=
  Go.retW X hx hlk hret rfl (Or.inl ⟨rfl, Or.inl rfl, z, rfl⟩) hd hc hs hq
theorem Go.retZ (X : Stand p l e R s m args below meth c T locs cells slots) (hx : p.tables.exec = Jvm.exec) (hlk : meth.locks = false) (hret : meth.sig.returnType = some .boolean) {pc : Nat} {Ls : Array Slot} {z : Int32} {rest : List Value} (hz : z = 0 ∨ z = 1)
    (hd : decode c.code pc = .ok (.ireturn, 1)) (hc : cells ≤ C) (hs : slots ≤ S) (hq : Q (some (.int z)) T.heap locs) : Go p e below s C S Q T (mkF m pc Ls (.int z :: rest)) :=
  Go.retW X hx hlk hret (by rcases hz with rfl | rfl <;> rfl) (Or.inl ⟨rfl, Or.inr (Or.inl rfl), z, rfl⟩) hd hc hs hq
theorem Go.retJ (X : Stand p l e R s m args below meth c T locs cells slots) (hx : p.tables.exec = Jvm.exec) (hlk : meth.locks = false) (hret : meth.sig.returnType = some .long) {pc : Nat} {Ls : Array Slot} {z : Int64} {rest : List Value}
    (hd : decode c.code pc = .ok (.lreturn, 1)) (hc : cells ≤ C) (hs : slots ≤ S) (hq : Q (some (.long z)) T.heap locs) : Go p e below s C S Q T (mkF m pc Ls (.long z :: rest)) :=
  Go.retW X hx hlk hret rfl (Or.inr (Or.inl ⟨rfl, rfl, z, rfl⟩)) hd hc hs hq
theorem Go.retD (X : Stand p l e R s m args below meth c T locs cells slots) (hx : p.tables.exec = Jvm.exec) (hlk : meth.locks = false) (hret : meth.sig.returnType = some .double) {pc : Nat} {Ls : Array Slot} {z : UInt64} {rest : List Value}
    (hd : decode c.code pc = .ok (.dreturn, 1)) (hc : cells ≤ C) (hs : slots ≤ S) (hq : Q (some (.double z)) T.heap locs) : Go p e below s C S Q T (mkF m pc Ls (.double z :: rest)) :=
  Go.retW X hx hlk hret rfl (Or.inr (Or.inr (Or.inl ⟨rfl, rfl, z, rfl⟩))) hd hc hs hq
theorem Go.retR (X : Stand p l e R s m args below meth c T locs cells slots) (hx : p.tables.exec = Jvm.exec) (hlk : meth.locks = false) {t : FieldType} (hret : meth.sig.returnType = some t) (ht : t.isReference = true) {pc : Nat} {Ls : Array Slot} {w : Value} {rest : List Value} (hn : narrow t w = w) (hw : w.isRef = true)
    (hd : decode c.code pc = .ok (.areturn, 1)) (hc : cells ≤ C) (hs : slots ≤ S) (hq : Q (some w) T.heap locs) : Go p e below s C S Q T (mkF m pc Ls (w :: rest)) :=
  Go.retW X hx hlk hret hn (Or.inr (Or.inr (Or.inr (Or.inr ⟨rfl, ht, hw⟩)))) hd hc hs hq
/-- a method's contract out of its walk -/
theorem con_of {y : MethodName} {bytes : ByteArray} {ml : Nat} {rt : Option FieldType} {ws : List Jvm.Cond} {rm : Room} {as' : Array Value} {h0 : Heap} (hpl : plainFor y = true)
    (body : ∀ (p : Program) (e : Env) (s : State) (m : MethodId) (below : List Frame) (meth : Method) (c : Code) (T : State), Stand p l e rm s m as' below meth c T [] 0 0 → p.tables.exec = Jvm.exec → Z.Warmed39 s.vm → c.code = bytes → c.maxLocals = ml → s.vm.findClass y.cls = some m.cls → meth.name = y.name →
      meth.sig.returnType = rt → meth.locks = false → T.heap = h0 → Go p e below s rm.cells rm.slots Q T (entryFrame m as' ml)) :
    MetFree l y (head1 (Jvm.Cond.code y bytes ml rt :: ws) rm) (fun a U => a = as' ∧ Z.Warmed39 U.vm ∧ U.heap = h0) (fun _ _ _ _ _ => True) (fun _ U o U' => ∃ v L, o = .returned v ∧ Q v U'.heap L ∧ FrameEnd U o U' L rm.cells rm.slots) := by
  refine MetFree.of_bodySF hpl hisR ?_
  intro p e s m args below meth c s₁ Bd hml0 hP hK
  obtain ⟨rfl, hZ, hh⟩ := hP
  exact body p e s m below meth c s₁ (Stand.of_body Bd) Bd.exec hZ Bd.bytes hml0 (findClass_of_methodNamed Bd.named) (name_of_methodNamed Bd.named Bd.method).1 Bd.returns (BodyLoose.notSynchronized Bd) (by rw [← hh, Bd.state]; rfl)
abbrev Con (l : Launch) (Z : State) (y : MethodName) (bytes : ByteArray) (ml : Nat) (rt : Option FieldType) (rm : Room) (as' : Array Value) (h0 : Heap) (Q : Option Value → Heap → List Loc → Prop) : Prop :=
  MetFree l y (head1 [Jvm.Cond.code y bytes ml rt] rm) (fun a U => a = as' ∧ Z.Warmed39 U.vm ∧ U.heap = h0) (fun _ _ _ _ _ => True) (fun _ U o U' => ∃ v L, o = .returned v ∧ Q v U'.heap L ∧ FrameEnd U o U' L rm.cells rm.slots)
theorem Go.callS (X : Stand p l e R s m args below meth c T locs cells slots) (hx : p.tables.exec = Jvm.exec) (hZ : Z.Warmed39 s.vm) {own : String} {index : Nat} {y : MethodName} {bytes : ByteArray} {maxL : Nat} {ret : Option FieldType} {rm : Room} {as' : Array Value} {Qc : Option Value → Heap → List Loc → Prop} {W pc : Nat} {Ls : Array Slot} {st : List Value} {argsL rest : List Value} (hml : Ls.size = c.maxLocals)
    (hown : s.vm.findClass own = some m.cls) (w1 : (Jvm.Cond.methodLink own index y).before a0 Z = true) (w2 : (Jvm.Cond.static y).before a0 Z = true) (w3 : (Jvm.Cond.initialized y.cls).before a0 Z = true) (w4 : (Jvm.Cond.code y bytes maxL ret).before a0 Z = true) (hy : y.cls ≠ "java/lang/invoke/MethodHandle" ∧ y.cls ≠ "java/lang/invoke/VarHandle")
    (hM : Con l Z y bytes maxL ret rm as' h Qc) (eT : T.heap = h) (hd : decode c.code pc = .ok (.invokestatic index, 3)) (hlen : ∀ sig, parseMethodDescriptor y.desc = some sig → argsL.length = sig.parameters.length) (hst : st = argsL.reverse ++ rest) (has : argsL.toArray = as')
    (hW : (rest.map fun v => v.category).sum ≤ W) (hf : rm.frames + 1 ≤ R.frames) (hl : W + (maxL + 11) + rm.locals ≤ R.locals) (hc : cells + rm.cells ≤ R.cells) (hs : slots + rm.slots ≤ R.slots)
    (k : ∀ (v : Option Value) (T' : State) (L : List Loc), Stand p l e R s m args below meth c T' (locs ++ L) (cells + rm.cells) (slots + rm.slots) → Qc v T'.heap L → Go p e below s C S Q T' (mkF m (pc + 3) Ls (v.toList ++ rest))) :
    Go p e below s C S Q T (mkF m pc Ls st) := by
  obtain ⟨v, _, ⟨T', L', k', n'⟩, -, X', ⟨Lc, hQ, l1, y1, z1⟩, stp⟩ := Jvm.LawKit.callS X hx (y := y) hown (mvT hZ w1) (mvT hZ w2) (mvT hZ w3) (mvT hZ w4) hy (backOf (W := W) hM hZ w4 w3 hf hl) (g := mkF m pc Ls st) rfl hml (argsL := argsL) (rest := rest) hlen hst (by show 2 * 0 + _ ≤ _; omega) hd (fun _ _ => ⟨has, eT, hc, hs⟩)
  dsimp only [Pt.U, Pt.locs, Pt.cells, Pt.slots] at X' l1 y1 z1 stp hQ
  subst l1 y1 z1
  exact Go.step stp (k v T' Lc X' hQ)
theorem Go.callI (X : Stand p l e R s m args below meth c T locs cells slots) (hx : p.tables.exec = Jvm.exec) (hZ : Z.Warmed39 s.vm) {own : String} {index : Nat} {y : MethodName} {bytes : ByteArray} {maxL : Nat} {rm : Room} {as' : Array Value} {Qc : Option Value → Heap → List Loc → Prop} {W pc : Nat} {Ls : Array Slot} {st : List Value} {a : Addr} {argsL rest : List Value} (hml : Ls.size = c.maxLocals)
    (hy1 : y.name = "<init>") (hown : s.vm.findClass own = some m.cls) (w1 : (Jvm.Cond.methodLink own index y).before a0 Z = true) (w2 : (Jvm.Cond.instanceMethod y).before a0 Z = true) (w3 : (Jvm.Cond.initialized y.cls).before a0 Z = true) (w4 : (Jvm.Cond.code y bytes maxL none).before a0 Z = true) (hy : y.cls ≠ "java/lang/invoke/MethodHandle" ∧ y.cls ≠ "java/lang/invoke/VarHandle")
    (hM : Con l Z y bytes maxL none rm as' h Qc) (eT : T.heap = h) (hd : decode c.code pc = .ok (.invokespecial index, 3)) (hlen : ∀ sig, parseMethodDescriptor y.desc = some sig → argsL.length = sig.parameters.length) (hst : st = argsL.reverse ++ .ref a :: rest) (has : (Value.ref a :: argsL).toArray = as')
    (hW : (rest.map fun v => v.category).sum ≤ W) (hf : rm.frames + 1 ≤ R.frames) (hl : W + (maxL + 11) + rm.locals ≤ R.locals) (hc : cells + rm.cells ≤ R.cells) (hs : slots + rm.slots ≤ R.slots)
    (k : ∀ (v : Option Value) (T' : State) (L : List Loc), Stand p l e R s m args below meth c T' (locs ++ L) (cells + rm.cells) (slots + rm.slots) → Qc v T'.heap L → Go p e below s C S Q T' (mkF m (pc + 3) Ls (v.toList ++ rest))) :
    Go p e below s C S Q T (mkF m pc Ls st) := by
  obtain ⟨v, _, ⟨T', L', k', n'⟩, -, X', ⟨Lc, hQ, l1, y1, z1⟩, stp⟩ := X.specialBack hx (y := y) hy1 hown (mvT hZ w1) (mvT hZ w2) (mvT hZ w4) hy (backOf (W := W) hM hZ w4 w3 hf hl) (g := mkF m pc Ls st) rfl hml (Steps.refl _) (a := a) (argsL := argsL) (rest := rest) hlen hst (by show 2 * 0 + _ ≤ _; omega) hd (fun _ _ => ⟨has, eT, hc, hs⟩)
  dsimp only [Pt.U, Pt.locs, Pt.cells, Pt.slots] at X' l1 y1 z1 stp hQ
  subst l1 y1 z1
  exact Go.step (fun _ q => stp.trans q) (k v T' Lc X' hQ)
theorem Go.callV (X : Stand p l e R s m args below meth c T locs cells slots) (hx : p.tables.exec = Jvm.exec) (hZ : Z.Warmed39 s.vm) {own K : String} {index : Nat} {y z : MethodName} {bytes : ByteArray} {maxL : Nat} {ret : Option FieldType} {rm : Room} {as' : Array Value} {Qc : Option Value → Heap → List Loc → Prop} {W pc : Nat} {Ls : Array Slot} {st : List Value} {a : Addr} {argsL rest : List Value} (hml : Ls.size = c.maxLocals)
    (hown : s.vm.findClass own = some m.cls) (w1 : (Jvm.Cond.methodLink own index y).before a0 Z = true) (w2 : (Jvm.Cond.declares y).before a0 Z = true) (hnf : NotFace s y) (w5 : (Jvm.Cond.selects K y z).before a0 Z = true) (w6 : (Jvm.Cond.instanceMethod z).before a0 Z = true) (w3 : (Jvm.Cond.initialized z.cls).before a0 Z = true) (w4 : (Jvm.Cond.code z bytes maxL ret).before a0 Z = true) (hy : y.cls ≠ "java/lang/invoke/MethodHandle" ∧ y.cls ≠ "java/lang/invoke/VarHandle")
    (hM : Con l Z z bytes maxL ret rm as' h Qc) (eT : T.heap = h) (E : Exa Z h a K) (hd : decode c.code pc = .ok (.invokevirtual index, 3)) (hlen : ∀ sig, parseMethodDescriptor y.desc = some sig → argsL.length = sig.parameters.length) (hst : st = argsL.reverse ++ .ref a :: rest) (has : (Value.ref a :: argsL).toArray = as')
    (hW : (rest.map fun v => v.category).sum ≤ W) (hf : rm.frames + 1 ≤ R.frames) (hl : W + (maxL + 11) + rm.locals ≤ R.locals) (hc : cells + rm.cells ≤ R.cells) (hs : slots + rm.slots ≤ R.slots)
    (k : ∀ (v : Option Value) (T' : State) (L : List Loc), Stand p l e R s m args below meth c T' (locs ++ L) (cells + rm.cells) (slots + rm.slots) → Qc v T'.heap L → Go p e below s C S Q T' (mkF m (pc + 3) Ls (v.toList ++ rest))) :
    Go p e below s C S Q T (mkF m pc Ls st) := by
  obtain ⟨cq, kq, qa, qb, qc⟩ := isOf hZ eT E
  obtain ⟨v, _, ⟨T', L', k', n'⟩, -, X', ⟨Lc, hQ, l1, y1, z1⟩, stp⟩ := X.virtualBack hx (y := y) (z := z) hown (mvT hZ w1) (mvT hZ w2) hnf (mvT hZ w5) (mvT hZ w6) hy (backOf (W := W) hM hZ w4 w3 hf hl) qa qc (g := mkF m pc Ls st) rfl hml (Steps.refl _) (argsL := argsL) (rest := rest) hlen hst (by show 2 * 0 + _ ≤ _; omega) hd (fun _ _ => ⟨has, eT, hc, hs⟩)
  dsimp only [Pt.U, Pt.locs, Pt.cells, Pt.slots] at X' l1 y1 z1 stp hQ
  subst l1 y1 z1
  exact Go.step (fun _ q => stp.trans q) (k v T' Lc X' hQ)
theorem Go.callP (X : Stand p l e R s m args below meth c T locs cells slots) (hx : p.tables.exec = Jvm.exec) (hZ : Z.Warmed39 s.vm) {own : String} {index : Nat} {y : MethodName} {bytes : ByteArray} {maxL : Nat} {ret : Option FieldType} {rm : Room} {as' : Array Value} {Qc : Option Value → Heap → List Loc → Prop} {W pc : Nat} {Ls : Array Slot} {st : List Value} {a : Addr} {argsL rest : List Value} (hml : Ls.size = c.maxLocals)
    (hown : s.vm.findClass own = some m.cls) (w1 : (Jvm.Cond.methodLink own index y).before a0 Z = true) (w6 : (Jvm.Cond.instanceMethod y).before a0 Z = true) {kk : Nat} (w5 : (Jvm.Cond.instantiable y.cls kk).before a0 Z = true) (w7 : (Jvm.Cond.privateMethod y).before a0 Z = true) (w3 : (Jvm.Cond.initialized y.cls).before a0 Z = true) (w4 : (Jvm.Cond.code y bytes maxL ret).before a0 Z = true) (hy : y.cls ≠ "java/lang/invoke/MethodHandle" ∧ y.cls ≠ "java/lang/invoke/VarHandle")
    (hM : Con l Z y bytes maxL ret rm as' h Qc) (eT : T.heap = h) {K : String} (E : Exa Z h a K) (hd : decode c.code pc = .ok (.invokevirtual index, 3)) (hlen : ∀ sig, parseMethodDescriptor y.desc = some sig → argsL.length = sig.parameters.length) (hst : st = argsL.reverse ++ .ref a :: rest) (has : (Value.ref a :: argsL).toArray = as')
    (hW : (rest.map fun v => v.category).sum ≤ W) (hf : rm.frames + 1 ≤ R.frames) (hl : W + (maxL + 11) + rm.locals ≤ R.locals) (hc : cells + rm.cells ≤ R.cells) (hs : slots + rm.slots ≤ R.slots)
    (k : ∀ (v : Option Value) (T' : State) (L : List Loc), Stand p l e R s m args below meth c T' (locs ++ L) (cells + rm.cells) (slots + rm.slots) → Qc v T'.heap L → Go p e below s C S Q T' (mkF m (pc + 3) Ls (v.toList ++ rest))) :
    Go p e below s C S Q T (mkF m pc Ls st) := by
  obtain ⟨cq, q1, q2⟩ := E.cell
  have hpriv : s.PrivateAt y := Cond.privateMethod_at (mvP hZ w7 (args := #[]))
  have w5' : (Jvm.Cond.instantiable y.cls kk).before args s = true := mvT hZ w5
  obtain ⟨c1, k1, i1, i2, -, i4, -⟩ := Cond.instantiable_spec w5'
  have hsel : (Jvm.Cond.selects y.cls y y).before args s = true := selects_self_of_private i1 i2 (by simp only [Bool.or_eq_false_iff] at i4; exact i4.1) hpriv (mvT hZ w6) hy
  obtain ⟨v, _, ⟨T', L', k', n'⟩, -, X', ⟨Lc, hQ, l1, y1, z1⟩, stp⟩ := X.privateBack hx (y := y) hown (mvT hZ w1) (mvT hZ w6) hsel hpriv (mvT hZ w4) hy (backOf (W := W) hM hZ w4 w3 hf hl) (g := mkF m pc Ls st) rfl hml (Steps.refl _) (a := a) (by rw [eT]; exact q1) q2 (argsL := argsL) (rest := rest) hlen hst (by show 2 * 0 + _ ≤ _; omega) hd (fun _ _ => ⟨has, eT, hc, hs⟩)
  dsimp only [Pt.U, Pt.locs, Pt.cells, Pt.slots] at X' l1 y1 z1 stp hQ
  subst l1 y1 z1
  exact Go.step (fun _ q => stp.trans q) (k v T' Lc X' hQ)
end OwnGo
/-! OWN: branches on a comparison of doubles, as javac writes them -/
section OwnCmp
variable {x y : UInt64}
theorem cv_none (o : CmpOp) (h : FP.dcmp x y = none) : cmpValue (FP.dcmp x y) o = (match o with | .l => -1 | .g => 1) := by rw [h]; cases o <;> rfl
theorem gt_y (h : FP.dcmp x y = some .gt) : ifCond.holds .le (cmpValue (FP.dcmp x y) .l) = false := by rw [h]; rfl
theorem gt_n (h : ¬ FP.dcmp x y = some .gt) : ifCond.holds .le (cmpValue (FP.dcmp x y) .l) = true := by
  rcases q : FP.dcmp x y with _ | (_ | _ | _) <;> first | rfl | exact absurd q h
theorem ge_y (h : FP.dcmp x y = some .gt ∨ FP.dcmp x y = some .eq) : ifCond.holds .lt (cmpValue (FP.dcmp x y) .l) = false := by rcases h with h | h <;> rw [h] <;> rfl
theorem ge_n (h : ¬ (FP.dcmp x y = some .gt ∨ FP.dcmp x y = some .eq)) : ifCond.holds .lt (cmpValue (FP.dcmp x y) .l) = true := by
  rcases q : FP.dcmp x y with _ | (_ | _ | _) <;> first | rfl | exact absurd (Or.inl q) h | exact absurd (Or.inr q) h
theorem lt_y (h : FP.dcmp x y = some .lt) : ifCond.holds .ge (cmpValue (FP.dcmp x y) .g) = false := by rw [h]; rfl
theorem lt_n (h : ¬ FP.dcmp x y = some .lt) : ifCond.holds .ge (cmpValue (FP.dcmp x y) .g) = true := by
  rcases q : FP.dcmp x y with _ | (_ | _ | _) <;> first | rfl | exact absurd q h
theorem le_y (h : FP.dcmp x y = some .lt ∨ FP.dcmp x y = some .eq) : ifCond.holds .gt (cmpValue (FP.dcmp x y) .g) = false := by rcases h with h | h <;> rw [h] <;> rfl
theorem le_n (h : ¬ (FP.dcmp x y = some .lt ∨ FP.dcmp x y = some .eq)) : ifCond.holds .gt (cmpValue (FP.dcmp x y) .g) = true := by
  rcases q : FP.dcmp x y with _ | (_ | _ | _) <;> first | rfl | exact absurd (Or.inl q) h | exact absurd (Or.inr q) h
theorem eq_y (o : CmpOp) (h : FP.dcmp x y = some .eq) : ifCond.holds .ne (cmpValue (FP.dcmp x y) o) = false ∧ ifCond.holds .eq (cmpValue (FP.dcmp x y) o) = true := by rw [h]; cases o <;> exact ⟨rfl, rfl⟩
theorem eq_n (o : CmpOp) (h : ¬ FP.dcmp x y = some .eq) : ifCond.holds .ne (cmpValue (FP.dcmp x y) o) = true ∧ ifCond.holds .eq (cmpValue (FP.dcmp x y) o) = false := by
  rcases q : FP.dcmp x y with _ | (_ | _ | _) <;> cases o <;> first | exact ⟨rfl, rfl⟩ | exact absurd q h
/-- x > y, by a taken 'ifgt' over dcmpl -/
theorem gtT_y (h : FP.dcmp x y = some .gt) : ifCond.holds .gt (cmpValue (FP.dcmp x y) .l) = true := by rw [h]; rfl
theorem gtT_n (h : ¬ FP.dcmp x y = some .gt) : ifCond.holds .gt (cmpValue (FP.dcmp x y) .l) = false := by
  rcases q : FP.dcmp x y with _ | (_ | _ | _) <;> first | rfl | exact absurd q h
theorem geT_y (h : FP.dcmp x y = some .gt ∨ FP.dcmp x y = some .eq) : ifCond.holds .ge (cmpValue (FP.dcmp x y) .l) = true := by rcases h with h | h <;> rw [h] <;> rfl
theorem geT_n (h : ¬ (FP.dcmp x y = some .gt ∨ FP.dcmp x y = some .eq)) : ifCond.holds .ge (cmpValue (FP.dcmp x y) .l) = false := by
  rcases q : FP.dcmp x y with _ | (_ | _ | _) <;> first | rfl | exact absurd (Or.inl q) h | exact absurd (Or.inr q) h
theorem ltT_y (h : FP.dcmp x y = some .lt) : ifCond.holds .lt (cmpValue (FP.dcmp x y) .g) = true := by rw [h]; rfl
theorem ltT_n (h : ¬ FP.dcmp x y = some .lt) : ifCond.holds .lt (cmpValue (FP.dcmp x y) .g) = false := by
  rcases q : FP.dcmp x y with _ | (_ | _ | _) <;> first | rfl | exact absurd q h
theorem leT_y (h : FP.dcmp x y = some .lt ∨ FP.dcmp x y = some .eq) : ifCond.holds .le (cmpValue (FP.dcmp x y) .g) = true := by rcases h with h | h <;> rw [h] <;> rfl
theorem leT_n (h : ¬ (FP.dcmp x y = some .lt ∨ FP.dcmp x y = some .eq)) : ifCond.holds .le (cmpValue (FP.dcmp x y) .g) = false := by
  rcases q : FP.dcmp x y with _ | (_ | _ | _) <;> first | rfl | exact absurd (Or.inl q) h | exact absurd (Or.inr q) h
end OwnCmp

section OwnConv
open Jvm.FP.Core
theorem own_nnN {a : UInt64} (h : val64 a ≠ .nan) : Jvm.Free.Fl.NoNaN64 a := Jvm.Free.Fl.noNaN64_no.mpr ((notNaN_iff a).mpr h)
theorem own_Nnn {a : UInt64} (h : Jvm.Free.Fl.NoNaN64 a) : val64 a ≠ .nan := (notNaN_iff a).mp (Jvm.Free.Fl.noNaN64_no.mp h)
theorem own_finF {a : UInt64} (h : DFin a) : Jvm.Free.Fl.Fin64 a := Jvm.Free.Fl.fin64_core.mpr h
theorem own_Ffin {a : UInt64} (h : Jvm.Free.Fl.Fin64 a) : DFin a := Jvm.Free.Fl.fin64_core.mp h
theorem own_nnF {a : UInt64} (h : DFin a) : Jvm.Free.Fl.NoNaN64 a := own_nnN h.ne_nan
theorem own_nz {x : Int64} (h : x ≠ 0) : Jvm.Free.Fl.Nz64 (FP.l2d x) := Jvm.Free.Fl.nz64_core.mpr (fun z => l2d_ne_zero h ((zero_bits2 _).mp z))
theorem own_eqD {a b : UInt64} (h : a = b) (n : Jvm.Free.Fl.NoNaN64 a) : FP.dcmp a b = some .eq := by subst h; exact dcmp_self (own_Nnn n)
end OwnConv

section OwnQuot
open Jvm.FP.Core
theorem own_pow (a b : Nat) : (2:Nat) ^ a * 2 ^ b = 2 ^ (a + b) := (Nat.pow_add 2 a b).symm
theorem own_cross {c d M : Nat} {q r : Int} (hq : 0 ≤ q + M) (hr : 0 ≤ r + M) (h : c * 2 ^ (q + M).toNat ≤ d * 2 ^ (r + M).toNat) : c * 2 ^ (q - r).toNat ≤ d * 2 ^ (r - q).toNat := by
  have e1 : (q + M).toNat = (q - r).toNat + (min q r + M).toNat := by omega
  have e2 : (r + M).toNat = (r - q).toNat + (min q r + M).toNat := by omega
  rw [e1, e2, Nat.pow_add, Nat.pow_add, ← Nat.mul_assoc, ← Nat.mul_assoc] at h
  exact Nat.le_of_mul_le_mul_right h (Nat.two_pow_pos _)
theorem own_cross_eq {c d M : Nat} {q r : Int} (hq : 0 ≤ q + M) (hr : 0 ≤ r + M) (h : c * 2 ^ (q + M).toNat = d * 2 ^ (r + M).toNat) : c * 2 ^ (q - r).toNat = d * 2 ^ (r - q).toNat :=
  Nat.le_antisymm (own_cross hq hr (Nat.le_of_eq h)) (own_cross hr hq (Nat.le_of_eq h.symm))
/-- the quotient of two whole numbers -/
theorem own_quot_int {i j : Int} {a b : UInt64} (ha : DInt i a) (hb : DInt j b) (hi : i ≠ 0) (hj : j ≠ 0) : val64 (FP.ddiv a b) = roundRatio b64 (decide (i < 0) != decide (j < 0)) i.natAbs j.natAbs 0 := by
  show val64 (Jvm.FP.Core.ddiv a b) = _
  rw [val64_ddiv]
  unfold DInt at ha hb
  cases ea : val64 a with
  | nan => rw [ea] at ha; exact ha.elim
  | inf s => rw [ea] at ha; exact ha.elim
  | fin s c q =>
    cases eb : val64 b with
    | nan => rw [eb] at hb; exact hb.elim
    | inf s => rw [eb] at hb; exact hb.elim
    | fin t d r =>
      rw [ea] at ha; rw [eb] at hb
      have hd : d ≠ 0 := fun z => hj ((whole_zero hb).mp z)
      have h1 := whole_natAbs ha
      have h2 := whole_natAbs hb
      show (if d = 0 then (if c = 0 then Datum.nan else .inf (s != t)) else roundRatio b64 (s != t) c d (q - r)) = _
      rw [if_neg hd, whole_sign ha hi, whole_sign hb hj]
      refine roundRatio_congr (by omega) (by omega) ?_
      rw [show (q - r - 0) = q - r by omega, show (0 - (q - r)) = r - q by omega]
      have e3 : c * j.natAbs * 2 ^ (q.toNat + (-r).toNat) = i.natAbs * d * 2 ^ (r.toNat + (-q).toNat) := by
        rw [Nat.pow_add, Nat.pow_add]
        calc c * j.natAbs * (2 ^ q.toNat * 2 ^ (-r).toNat) = (c * 2 ^ q.toNat) * (j.natAbs * 2 ^ (-r).toNat) := by ac_rfl
          _ = (i.natAbs * 2 ^ (-q).toNat) * (d * 2 ^ r.toNat) := by rw [h1, h2]
          _ = _ := by ac_rfl
      have f1 : q.toNat + (-r).toNat = (q - r + ((-q).toNat + r.toNat : Nat)).toNat := by omega
      have f2 : r.toNat + (-q).toNat = (0 + ((-q).toNat + r.toNat : Nat) : Int).toNat := by omega
      rw [f1, f2] at e3
      have := own_cross_eq (q := q - r) (r := 0) (M := (-q).toNat + r.toNat) (by omega) (by omega) e3
      rw [show (q - r - 0) = q - r by omega, show (0 - (q - r)) = r - q by omega] at this
      exact this
end OwnQuot

section OwnC
open Jvm.FP.Core
def cW (c w : UInt64) : UInt64 := if FP.dcmp c 0 = some .gt then c else w
theorem own_cW0 (w : UInt64) : cW (0 : UInt64) w = w := by rw [cW, if_neg (by decide +kernel)]
theorem own_d1024 : DInt 1024 4652218415073722368 := by
  unfold DInt; rw [show val64 (4652218415073722368 : UInt64) = .fin false 4503599627370496 (-42) by decide +kernel]
  show signed false (4503599627370496 * 2 ^ (-42 : Int).toNat) = 1024 * ((2 ^ (-(-42 : Int)).toNat : Nat) : Int); decide
theorem own_pos1024 (m : Int32) (h : 1 ≤ m.toInt) : FP.dcmp (FP.ddiv (FP.i2d m) 4652218415073722368) 0 = some .gt := by
  have hq := own_quot_int (i2d_int m) own_d1024 (by omega) (by decide)
  have hs : (decide (m.toInt < 0) != decide ((1024 : Int) < 0)) = false := by simp; omega
  rw [hs] at hq
  have hq' : val64 (FP.ddiv (FP.i2d m) 4652218415073722368) = roundRatio b64 false m.toInt.natAbs (1024 : Int).natAbs 0 := hq
  have hfit : Jvm.FP.Core.fits b64 (.fin false (2 ^ 52) (-62)) := ⟨by decide, by decide, by decide, Or.inr (by decide)⟩
  have hz : zmag b64 (.fin false (2 ^ 52) (-62)) = 2 ^ 1064 := by
    show 2 ^ 52 * 2 ^ (-62 - b64.qmin).toNat = _
    rw [qmin_b64, show ((-62 : Int) - -1074).toNat = 1012 by decide, own_pow]
  have g := zmag_roundRatio_ge good_b64 (s := false) (A := m.toInt.natAbs) (B := (1024 : Int).natAbs) (e := 0) (e0 := b64.qmin) (by decide) hfit (Int.le_refl _) (by decide) (by
    rw [hz, Int.sub_self, Int.toNat_zero, Nat.pow_zero, Nat.mul_one]
    unfold inUnits
    rw [qmin_b64, show ((0 : Int) - -1074).toNat = 1074 by decide, show (1024 : Int).natAbs = 2 ^ 10 by decide, own_pow]
    exact Nat.le_mul_of_pos_left _ (by omega))
  rw [hz, ← hq'] at g
  have hn : val64 (FP.ddiv (FP.i2d m) 4652218415073722368) ≠ .nan := by rw [hq']; exact roundRatio_ne_nan _ _ _ _ _
  refine dcmp_gt.mpr ⟨hn, by decide +kernel, ?_⟩
  rw [zval64_zero]
  have hsg : sgn (val64 (FP.ddiv (FP.i2d m) 4652218415073722368)) = false := by rw [hq']; exact sgn_roundRatio _ _ _ _ _
  unfold zval; rw [hsg]
  have : 0 < zmag b64 (val64 (FP.ddiv (FP.i2d m) 4652218415073722368)) := Nat.lt_of_lt_of_le (Nat.two_pow_pos 1064) g
  show (0 : Int) < ((zmag b64 (val64 (FP.ddiv (FP.i2d m) 4652218415073722368)) : Nat) : Int)
  exact Int.ofNat_lt.mpr this
theorem own_m1 {x : Int32} (h : ¬ (x &&& (2147483647 : Int32)) = (0 : Int32)) : 1 ≤ (x &&& (2147483647 : Int32)).toInt := by
  have h1 := c_mask x 2147483647 31 (by decide) (by decide)
  rw [← Int32.toInt_inj, show (0 : Int32).toInt = 0 from rfl] at h; omega
theorem own_cWp {c w : UInt64} (h : FP.dcmp c 0 = some .gt) : cW c w = c := by rw [cW, if_pos h]
end OwnC

theorem d7_0 : decode jdk_30_method_1_code 0 = .ok (.aload_n 0, 1) := by decide +kernel
theorem d7_1 : decode jdk_30_method_1_code 1 = .ok (.invokespecial 1, 3) := by decide +kernel
theorem d7_4 : decode jdk_30_method_1_code 4 = .ok (.return_, 1) := by decide +kernel
set_option maxRecDepth 65536 in
set_option maxHeartbeats 40000000 in
theorem w7 {p : Program} {l : Launch} {e : Env} {s : State} {m : MethodId} {args : Array Value} {below : List Frame} {meth : Method} {c_ : Code} {T0 : State} {locs : List Loc} {Z : State} {a0 : Array Value} {h0 : Heap} {n0 : Nat} (a : Addr)
    (X0 : Stand p l e ({ frames := 1, cells := 0, slots := 0, locals := 12 } : Room) s m args below meth c_ T0 locs 0 0) (hx : p.tables.exec = Jvm.exec) (hZ : Z.Warmed39 s.vm) (hw : ∀ d ∈ tables_1, d.before a0 Z = true) (hby : c_.code = jdk_30_method_1_code) (hml : c_.maxLocals = 1) (hown : s.vm.findClass "java/lang/Record" = some m.cls) (hnm : meth.name = "<init>") (hret : meth.sig.returnType = none) (hlk : meth.locks = false) (e0 : T0.heap = h0) (Z0 : n0 ≤ h0.size) (N0 : Fr n0 locs)  :
    Go p e below s ({ frames := 1, cells := 0, slots := 0, locals := 12 } : Room).cells ({ frames := 1, cells := 0, slots := 0, locals := 12 } : Room).slots (fun r h L => r = none ∧ Fr n0 L ∧ h = h0) T0 (mkF m 0 #[.val (.ref a)] []) := by
  show Go _ _ _ _ _ _ _ T0 (mkF m 0 #[.val (.ref a)] [])
  refine Go.step (fun _ k => XS.aloadN X0.here hx rfl (hb hby d7_0) rfl rfl k) ?_
  show Go _ _ _ _ _ _ _ T0 (mkF m 1 #[.val (.ref a)] [(.ref a)])
  obtain ⟨T1, X1, e1, st1⟩ := initO X0 hx hZ hown (hw _ (List.mem_of_getElem? (i := 35) rfl)) (hw _ (List.mem_of_getElem? (i := 18) rfl)) (hw _ (List.mem_of_getElem? (i := 19) rfl)) e0 (g := (mkF m 1 #[.val (.ref a)] [(.ref a)])) rfl (by rw [hml]; rfl) rfl (hb hby d7_1) (by decide) (W := 0) (by show 2 * 0 + _ ≤ _; exact Nat.le_of_eq rfl) (by decide)
  refine Go.step st1 ?_
  show Go _ _ _ _ _ _ _ T1 (mkF m 4 #[.val (.ref a)] [])
  refine Go.retV X1 hx hlk hret (hb hby d7_4) (by decide) (by decide) ?_
  try rw [e1]
  exact ⟨rfl, N0, rfl⟩
theorem pn_7 : plainName "java/lang/Record" = true := by first | (simp [plainName, overriddenIn]; done) | decide +kernel
theorem ef_rm7 (m : MethodId) (a : Addr) : entryFrame m #[(.ref a)] 1 = mkF m 0 #[.val (.ref a)] [] := by first | (simp [entryFrame, mkF, argsToLocals, Value.category]; done) | rfl
theorem rm7 (l : Launch) (Z : State) (a0 : Array Value) (hw : ∀ d ∈ tables_1, d.before a0 Z = true) (a : Addr) (h0 : Heap) (n0 : Nat) (Z0 : n0 ≤ h0.size)  :
    Con l Z (⟨"java/lang/Record", "<init>", "()V"⟩ : MethodName) jdk_30_method_1_code 1 none ({ frames := 1, cells := 0, slots := 0, locals := 12 } : Room) #[(.ref a)] h0 (fun r h L => r = none ∧ Fr n0 L ∧ h = h0) :=
  con_of (plainFor_of_name pn_7) (fun p_ e_ s_ m_ b_ meth_ c_ T_ X_ hx hZ hby hml hown hnm hret hlk e0 => Go.cast (ef_rm7 m_ a) (w7 a X_ hx hZ hw hby hml hown hnm hret hlk e0 Z0 (Fr.nil n0) ))
theorem d6_0 : decode prog_42_method_3_code 0 = .ok (.aload_n 0, 1) := by decide +kernel
theorem d6_1 : decode prog_42_method_3_code 1 = .ok (.invokespecial 1, 3) := by decide +kernel
theorem pd_0 : parseMethodDescriptor "()V" = some ⟨[], none⟩ := by decide +kernel
theorem d6_4 : decode prog_42_method_3_code 4 = .ok (.aload_n 0, 1) := by decide +kernel
theorem d6_5 : decode prog_42_method_3_code 5 = .ok (.lload_n 1, 1) := by decide +kernel
theorem d6_6 : decode prog_42_method_3_code 6 = .ok (.putfield 7, 3) := by decide +kernel
theorem d6_9 : decode prog_42_method_3_code 9 = .ok (.aload_n 0, 1) := by decide +kernel
theorem d6_10 : decode prog_42_method_3_code 10 = .ok (.lload_n 3, 1) := by decide +kernel
theorem d6_11 : decode prog_42_method_3_code 11 = .ok (.putfield 13, 3) := by decide +kernel
theorem d6_14 : decode prog_42_method_3_code 14 = .ok (.aload_n 0, 1) := by decide +kernel
theorem d6_15 : decode prog_42_method_3_code 15 = .ok (.aload 5, 2) := by decide +kernel
theorem d6_17 : decode prog_42_method_3_code 17 = .ok (.putfield 16, 3) := by decide +kernel
theorem d6_20 : decode prog_42_method_3_code 20 = .ok (.aload_n 0, 1) := by decide +kernel
theorem d6_21 : decode prog_42_method_3_code 21 = .ok (.dload 6, 2) := by decide +kernel
theorem d6_23 : decode prog_42_method_3_code 23 = .ok (.putfield 20, 3) := by decide +kernel
theorem d6_26 : decode prog_42_method_3_code 26 = .ok (.return_, 1) := by decide +kernel
set_option maxRecDepth 65536 in
set_option maxHeartbeats 40000000 in
theorem w6 {p : Program} {l : Launch} {e : Env} {s : State} {m : MethodId} {args : Array Value} {below : List Frame} {meth : Method} {c_ : Code} {T0 : State} {locs : List Loc} {Z : State} {a0 : Array Value} {h0 : Heap} {n0 : Nat} (a : Addr) (x1 : Int64) (x2 : Int64) (x3 : Addr) (x4 : UInt64)
    (X0 : Stand p l e ({ frames := 2, cells := 0, slots := 0, locals := 24 } : Room) s m args below meth c_ T0 locs 0 0) (hx : p.tables.exec = Jvm.exec) (hZ : Z.Warmed39 s.vm) (hw : ∀ d ∈ tables_1, d.before a0 Z = true) (hby : c_.code = prog_42_method_3_code) (hml : c_.maxLocals = 8) (hown : s.vm.findClass "tidewatch/decision/Snapshot$Instance" = some m.cls) (hnm : meth.name = "<init>") (hret : meth.sig.returnType = none) (hlk : meth.locks = false) (e0 : T0.heap = h0) (Z0 : n0 ≤ h0.size) (N0 : Fr n0 locs) (E_a : Exa Z h0 a "tidewatch/decision/Snapshot$Instance") (F_recordsIn_a : Fld Z h0 a "tidewatch/decision/Snapshot$Instance" "recordsIn" "J" (.long (0 : Int64))) (F_recordsOut_a : Fld Z h0 a "tidewatch/decision/Snapshot$Instance" "recordsOut" "J" (.long (0 : Int64))) (F_usefulSeconds_a : Fld Z h0 a "tidewatch/decision/Snapshot$Instance" "usefulSeconds" "Ljava/util/OptionalDouble;" .null) (F_countedSeconds_a : Fld Z h0 a "tidewatch/decision/Snapshot$Instance" "countedSeconds" "D" (.double (0 : UInt64))) (ge_a : n0 ≤ a)  :
    Go p e below s ({ frames := 2, cells := 0, slots := 0, locals := 24 } : Room).cells ({ frames := 2, cells := 0, slots := 0, locals := 24 } : Room).slots (fun r h L => r = none ∧ Fr n0 L ∧ Keep h0 h [a] ∧ Exa Z h a "tidewatch/decision/Snapshot$Instance" ∧ Fld Z h a "tidewatch/decision/Snapshot$Instance" "recordsIn" "J" (.long x1) ∧ Fld Z h a "tidewatch/decision/Snapshot$Instance" "recordsOut" "J" (.long x2) ∧ Fld Z h a "tidewatch/decision/Snapshot$Instance" "usefulSeconds" "Ljava/util/OptionalDouble;" (.ref x3) ∧ Fld Z h a "tidewatch/decision/Snapshot$Instance" "countedSeconds" "D" (.double x4)) T0 (mkF m 0 #[.val (.ref a), .val (.long x1), .second, .val (.long x2), .second, .val (.ref x3), .val (.double x4), .second] []) := by
  show Go _ _ _ _ _ _ _ T0 (mkF m 0 #[.val (.ref a), .val (.long x1), .second, .val (.long x2), .second, .val (.ref x3), .val (.double x4), .second] [])
  refine Go.step (fun _ k => XS.aloadN X0.here hx rfl (hb hby d6_0) rfl rfl k) ?_
  show Go _ _ _ _ _ _ _ T0 (mkF m 1 #[.val (.ref a), .val (.long x1), .second, .val (.long x2), .second, .val (.ref x3), .val (.double x4), .second] [(.ref a)])
  refine Go.callI X0 hx hZ (by rw [hml]; rfl) (y := (⟨"java/lang/Record", "<init>", "()V"⟩ : MethodName)) (a := a) (argsL := []) (rest := []) rfl hown (hw _ (List.mem_of_getElem? (i := 30) rfl)) (hw _ (List.mem_of_getElem? (i := 31) rfl)) (hw _ (List.mem_of_getElem? (i := 33) rfl)) (hw _ (List.mem_of_getElem? (i := 34) rfl)) (by decide) (rm7 l Z a0 hw a h0 n0 Z0) e0 (hb hby d6_1) (lenOf pd_0 rfl) rfl rfl (W := 0) (Nat.le_of_eq rfl) (by decide) (by decide) (by decide) (by decide) ?_
  intro v1 T1 L1 X1 Q1
  obtain ⟨rfl, N1q, hh1⟩ := Q1
  have N1 := Fr.app N0 N1q
  show Go _ _ _ _ _ _ _ T1 (mkF m 4 #[.val (.ref a), .val (.long x1), .second, .val (.long x2), .second, .val (.ref x3), .val (.double x4), .second] [])
  refine Go.step (fun _ k => XS.aloadN X1.here hx rfl (hb hby d6_4) rfl rfl k) ?_
  show Go _ _ _ _ _ _ _ T1 (mkF m 5 #[.val (.ref a), .val (.long x1), .second, .val (.long x2), .second, .val (.ref x3), .val (.double x4), .second] [(.ref a)])
  refine Go.step (fun _ k => XS.lloadN X1.here hx rfl (hb hby d6_5) rfl k) ?_
  show Go _ _ _ _ _ _ _ T1 (mkF m 6 #[.val (.ref a), .val (.long x1), .second, .val (.long x2), .second, .val (.ref x3), .val (.double x4), .second] [(.long x1), (.ref a)])
  obtain ⟨T2, h2, X2, e2, W2, st2⟩ := putF X1 hx hZ hown (host := "") (Or.inl (hw _ (List.mem_of_getElem? (i := 36) rfl))) Via.refl hh1 F_recordsIn_a E_a (Or.inr ⟨(hw _ (List.mem_of_getElem? (i := 37) rfl)), rfl, hnm⟩) (hw _ (List.mem_of_getElem? (i := 2) rfl)) (ty := .long) (by decide) rfl rfl (g := (mkF m 6 #[.val (.ref a), .val (.long x1), .second, .val (.long x2), .second, .val (.ref x3), .val (.double x4), .second] [(.long x1), (.ref a)])) rfl rfl (hb hby d6_6)
  refine Go.step st2 ?_
  have N2 := Fr.snoc X2 N1 ge_a
  have F_recordsIn_a_2 := F_recordsIn_a.same W2
  have E_a_2 := E_a.wr W2
  have F_recordsOut_a_2 := F_recordsOut_a.other W2 (Or.inr (slot_ne (Or.inr (hw _ (List.mem_of_getElem? (i := 39) rfl))) (Or.inr (hw _ (List.mem_of_getElem? (i := 37) rfl))) (by decide) (t := .long) (t' := .long) (by decide) (by decide)))
  have F_usefulSeconds_a_2 := F_usefulSeconds_a.other W2 (Or.inr (slot_ne (Or.inr (hw _ (List.mem_of_getElem? (i := 41) rfl))) (Or.inr (hw _ (List.mem_of_getElem? (i := 37) rfl))) (by decide) (t := (.object "java/util/OptionalDouble")) (t' := .long) (by decide) (by decide)))
  have F_countedSeconds_a_2 := F_countedSeconds_a.other W2 (Or.inr (slot_ne (Or.inr (hw _ (List.mem_of_getElem? (i := 43) rfl))) (Or.inr (hw _ (List.mem_of_getElem? (i := 37) rfl))) (by decide) (t := .double) (t' := .long) (by decide) (by decide)))
  have K2 : Keep h0 h2 [a] := (Keep.refl h0 [a]).wr W2 (Or.inl (List.mem_of_getElem? (i := 0) rfl))
  show Go _ _ _ _ _ _ _ T2 (mkF m 9 #[.val (.ref a), .val (.long x1), .second, .val (.long x2), .second, .val (.ref x3), .val (.double x4), .second] [])
  refine Go.step (fun _ k => XS.aloadN X2.here hx rfl (hb hby d6_9) rfl rfl k) ?_
  show Go _ _ _ _ _ _ _ T2 (mkF m 10 #[.val (.ref a), .val (.long x1), .second, .val (.long x2), .second, .val (.ref x3), .val (.double x4), .second] [(.ref a)])
  refine Go.step (fun _ k => XS.lloadN X2.here hx rfl (hb hby d6_10) rfl k) ?_
  show Go _ _ _ _ _ _ _ T2 (mkF m 11 #[.val (.ref a), .val (.long x1), .second, .val (.long x2), .second, .val (.ref x3), .val (.double x4), .second] [(.long x2), (.ref a)])
  obtain ⟨T3, h3, X3, e3, W3, st3⟩ := putF X2 hx hZ hown (host := "") (Or.inl (hw _ (List.mem_of_getElem? (i := 38) rfl))) Via.refl e2 F_recordsOut_a_2 E_a_2 (Or.inr ⟨(hw _ (List.mem_of_getElem? (i := 39) rfl)), rfl, hnm⟩) (hw _ (List.mem_of_getElem? (i := 2) rfl)) (ty := .long) (by decide) rfl rfl (g := (mkF m 11 #[.val (.ref a), .val (.long x1), .second, .val (.long x2), .second, .val (.ref x3), .val (.double x4), .second] [(.long x2), (.ref a)])) rfl rfl (hb hby d6_11)
  refine Go.step st3 ?_
  have N3 := Fr.snoc X3 N2 ge_a
  have F_recordsOut_a_3 := F_recordsOut_a_2.same W3
  have E_a_3 := E_a_2.wr W3
  have F_recordsIn_a_3 := F_recordsIn_a_2.other W3 (Or.inr (slot_ne (Or.inr (hw _ (List.mem_of_getElem? (i := 37) rfl))) (Or.inr (hw _ (List.mem_of_getElem? (i := 39) rfl))) (by decide) (t := .long) (t' := .long) (by decide) (by decide)))
  have F_usefulSeconds_a_3 := F_usefulSeconds_a_2.other W3 (Or.inr (slot_ne (Or.inr (hw _ (List.mem_of_getElem? (i := 41) rfl))) (Or.inr (hw _ (List.mem_of_getElem? (i := 39) rfl))) (by decide) (t := (.object "java/util/OptionalDouble")) (t' := .long) (by decide) (by decide)))
  have F_countedSeconds_a_3 := F_countedSeconds_a_2.other W3 (Or.inr (slot_ne (Or.inr (hw _ (List.mem_of_getElem? (i := 43) rfl))) (Or.inr (hw _ (List.mem_of_getElem? (i := 39) rfl))) (by decide) (t := .double) (t' := .long) (by decide) (by decide)))
  have K3 : Keep h0 h3 [a] := K2.wr W3 (Or.inl (List.mem_of_getElem? (i := 0) rfl))
  show Go _ _ _ _ _ _ _ T3 (mkF m 14 #[.val (.ref a), .val (.long x1), .second, .val (.long x2), .second, .val (.ref x3), .val (.double x4), .second] [])
  refine Go.step (fun _ k => XS.aloadN X3.here hx rfl (hb hby d6_14) rfl rfl k) ?_
  show Go _ _ _ _ _ _ _ T3 (mkF m 15 #[.val (.ref a), .val (.long x1), .second, .val (.long x2), .second, .val (.ref x3), .val (.double x4), .second] [(.ref a)])
  refine Go.step (fun _ k => XS.aload X3.here hx rfl (hb hby d6_15) rfl rfl k) ?_
  show Go _ _ _ _ _ _ _ T3 (mkF m 17 #[.val (.ref a), .val (.long x1), .second, .val (.long x2), .second, .val (.ref x3), .val (.double x4), .second] [(.ref x3), (.ref a)])
  obtain ⟨T4, h4, X4, e4, W4, st4⟩ := putF X3 hx hZ hown (host := "") (Or.inl (hw _ (List.mem_of_getElem? (i := 40) rfl))) Via.refl e3 F_usefulSeconds_a_3 E_a_3 (Or.inr ⟨(hw _ (List.mem_of_getElem? (i := 41) rfl)), rfl, hnm⟩) (hw _ (List.mem_of_getElem? (i := 2) rfl)) (ty := (.object "java/util/OptionalDouble")) (by decide) rfl rfl (g := (mkF m 17 #[.val (.ref a), .val (.long x1), .second, .val (.long x2), .second, .val (.ref x3), .val (.double x4), .second] [(.ref x3), (.ref a)])) rfl rfl (hb hby d6_17)
  refine Go.step st4 ?_
  have N4 := Fr.snoc X4 N3 ge_a
  have F_usefulSeconds_a_4 := F_usefulSeconds_a_3.same W4
  have E_a_4 := E_a_3.wr W4
  have F_recordsIn_a_4 := F_recordsIn_a_3.other W4 (Or.inr (slot_ne (Or.inr (hw _ (List.mem_of_getElem? (i := 37) rfl))) (Or.inr (hw _ (List.mem_of_getElem? (i := 41) rfl))) (by decide) (t := .long) (t' := (.object "java/util/OptionalDouble")) (by decide) (by decide)))
  have F_recordsOut_a_4 := F_recordsOut_a_3.other W4 (Or.inr (slot_ne (Or.inr (hw _ (List.mem_of_getElem? (i := 39) rfl))) (Or.inr (hw _ (List.mem_of_getElem? (i := 41) rfl))) (by decide) (t := .long) (t' := (.object "java/util/OptionalDouble")) (by decide) (by decide)))
  have F_countedSeconds_a_4 := F_countedSeconds_a_3.other W4 (Or.inr (slot_ne (Or.inr (hw _ (List.mem_of_getElem? (i := 43) rfl))) (Or.inr (hw _ (List.mem_of_getElem? (i := 41) rfl))) (by decide) (t := .double) (t' := (.object "java/util/OptionalDouble")) (by decide) (by decide)))
  have K4 : Keep h0 h4 [a] := K3.wr W4 (Or.inl (List.mem_of_getElem? (i := 0) rfl))
  show Go _ _ _ _ _ _ _ T4 (mkF m 20 #[.val (.ref a), .val (.long x1), .second, .val (.long x2), .second, .val (.ref x3), .val (.double x4), .second] [])
  refine Go.step (fun _ k => XS.aloadN X4.here hx rfl (hb hby d6_20) rfl rfl k) ?_
  show Go _ _ _ _ _ _ _ T4 (mkF m 21 #[.val (.ref a), .val (.long x1), .second, .val (.long x2), .second, .val (.ref x3), .val (.double x4), .second] [(.ref a)])
  refine Go.step (fun _ k => XS.dload X4.here hx rfl (hb hby d6_21) rfl k) ?_
  show Go _ _ _ _ _ _ _ T4 (mkF m 23 #[.val (.ref a), .val (.long x1), .second, .val (.long x2), .second, .val (.ref x3), .val (.double x4), .second] [(.double x4), (.ref a)])
  obtain ⟨T5, h5, X5, e5, W5, st5⟩ := putF X4 hx hZ hown (host := "") (Or.inl (hw _ (List.mem_of_getElem? (i := 42) rfl))) Via.refl e4 F_countedSeconds_a_4 E_a_4 (Or.inr ⟨(hw _ (List.mem_of_getElem? (i := 43) rfl)), rfl, hnm⟩) (hw _ (List.mem_of_getElem? (i := 2) rfl)) (ty := .double) (by decide) rfl rfl (g := (mkF m 23 #[.val (.ref a), .val (.long x1), .second, .val (.long x2), .second, .val (.ref x3), .val (.double x4), .second] [(.double x4), (.ref a)])) rfl rfl (hb hby d6_23)
  refine Go.step st5 ?_
  have N5 := Fr.snoc X5 N4 ge_a
  have F_countedSeconds_a_5 := F_countedSeconds_a_4.same W5
  have E_a_5 := E_a_4.wr W5
  have F_recordsIn_a_5 := F_recordsIn_a_4.other W5 (Or.inr (slot_ne (Or.inr (hw _ (List.mem_of_getElem? (i := 37) rfl))) (Or.inr (hw _ (List.mem_of_getElem? (i := 43) rfl))) (by decide) (t := .long) (t' := .double) (by decide) (by decide)))
  have F_recordsOut_a_5 := F_recordsOut_a_4.other W5 (Or.inr (slot_ne (Or.inr (hw _ (List.mem_of_getElem? (i := 39) rfl))) (Or.inr (hw _ (List.mem_of_getElem? (i := 43) rfl))) (by decide) (t := .long) (t' := .double) (by decide) (by decide)))
  have F_usefulSeconds_a_5 := F_usefulSeconds_a_4.other W5 (Or.inr (slot_ne (Or.inr (hw _ (List.mem_of_getElem? (i := 41) rfl))) (Or.inr (hw _ (List.mem_of_getElem? (i := 43) rfl))) (by decide) (t := (.object "java/util/OptionalDouble")) (t' := .double) (by decide) (by decide)))
  have K5 : Keep h0 h5 [a] := K4.wr W5 (Or.inl (List.mem_of_getElem? (i := 0) rfl))
  show Go _ _ _ _ _ _ _ T5 (mkF m 26 #[.val (.ref a), .val (.long x1), .second, .val (.long x2), .second, .val (.ref x3), .val (.double x4), .second] [])
  refine Go.retV X5 hx hlk hret (hb hby d6_26) (by decide) (by decide) ?_
  try rw [e5]
  exact ⟨rfl, N5, K5, E_a_5, F_recordsIn_a_5, F_recordsOut_a_5, F_usefulSeconds_a_5, F_countedSeconds_a_5⟩
theorem pn_6 : plainName "tidewatch/decision/Snapshot$Instance" = true := by first | (simp [plainName, overriddenIn]; done) | decide +kernel
theorem ef_rm6 (m : MethodId) (a : Addr) (x1 : Int64) (x2 : Int64) (x3 : Addr) (x4 : UInt64) : entryFrame m #[(.ref a), (.long x1), (.long x2), (.ref x3), (.double x4)] 8 = mkF m 0 #[.val (.ref a), .val (.long x1), .second, .val (.long x2), .second, .val (.ref x3), .val (.double x4), .second] [] := by first | (simp [entryFrame, mkF, argsToLocals, Value.category]; done) | rfl
theorem rm6 (l : Launch) (Z : State) (a0 : Array Value) (hw : ∀ d ∈ tables_1, d.before a0 Z = true) (a : Addr) (x1 : Int64) (x2 : Int64) (x3 : Addr) (x4 : UInt64) (h0 : Heap) (n0 : Nat) (Z0 : n0 ≤ h0.size) (E_a : Exa Z h0 a "tidewatch/decision/Snapshot$Instance") (F_recordsIn_a : Fld Z h0 a "tidewatch/decision/Snapshot$Instance" "recordsIn" "J" (.long (0 : Int64))) (F_recordsOut_a : Fld Z h0 a "tidewatch/decision/Snapshot$Instance" "recordsOut" "J" (.long (0 : Int64))) (F_usefulSeconds_a : Fld Z h0 a "tidewatch/decision/Snapshot$Instance" "usefulSeconds" "Ljava/util/OptionalDouble;" .null) (F_countedSeconds_a : Fld Z h0 a "tidewatch/decision/Snapshot$Instance" "countedSeconds" "D" (.double (0 : UInt64))) (ge_a : n0 ≤ a)  :
    Con l Z (⟨"tidewatch/decision/Snapshot$Instance", "<init>", "(JJLjava/util/OptionalDouble;D)V"⟩ : MethodName) prog_42_method_3_code 8 none ({ frames := 2, cells := 0, slots := 0, locals := 24 } : Room) #[(.ref a), (.long x1), (.long x2), (.ref x3), (.double x4)] h0 (fun r h L => r = none ∧ Fr n0 L ∧ Keep h0 h [a] ∧ Exa Z h a "tidewatch/decision/Snapshot$Instance" ∧ Fld Z h a "tidewatch/decision/Snapshot$Instance" "recordsIn" "J" (.long x1) ∧ Fld Z h a "tidewatch/decision/Snapshot$Instance" "recordsOut" "J" (.long x2) ∧ Fld Z h a "tidewatch/decision/Snapshot$Instance" "usefulSeconds" "Ljava/util/OptionalDouble;" (.ref x3) ∧ Fld Z h a "tidewatch/decision/Snapshot$Instance" "countedSeconds" "D" (.double x4)) :=
  con_of (plainFor_of_name pn_6) (fun p_ e_ s_ m_ b_ meth_ c_ T_ X_ hx hZ hby hml hown hnm hret hlk e0 => Go.cast (ef_rm6 m_ a x1 x2 x3 x4) (w6 a x1 x2 x3 x4 X_ hx hZ hw hby hml hown hnm hret hlk e0 Z0 (Fr.nil n0) E_a F_recordsIn_a F_recordsOut_a F_usefulSeconds_a F_countedSeconds_a ge_a))
theorem d5_0 : decode prog_42_method_1_code 0 = .ok (.aload_n 0, 1) := by decide +kernel
theorem d5_1 : decode prog_42_method_1_code 1 = .ok (.lload_n 1, 1) := by decide +kernel
theorem d5_2 : decode prog_42_method_1_code 2 = .ok (.lload_n 3, 1) := by decide +kernel
theorem d5_3 : decode prog_42_method_1_code 3 = .ok (.aload 5, 2) := by decide +kernel
theorem d5_5 : decode prog_42_method_1_code 5 = .ok (.dconst 0, 1) := by decide +kernel
theorem d5_6 : decode prog_42_method_1_code 6 = .ok (.invokespecial 24, 3) := by decide +kernel
theorem pd_1 : parseMethodDescriptor "(JJLjava/util/OptionalDouble;D)V" = some ⟨[.long, .long, (.object "java/util/OptionalDouble"), .double], none⟩ := by decide +kernel
theorem d5_9 : decode prog_42_method_1_code 9 = .ok (.return_, 1) := by decide +kernel
set_option maxRecDepth 65536 in
set_option maxHeartbeats 40000000 in
theorem w5 {p : Program} {l : Launch} {e : Env} {s : State} {m : MethodId} {args : Array Value} {below : List Frame} {meth : Method} {c_ : Code} {T0 : State} {locs : List Loc} {Z : State} {a0 : Array Value} {h0 : Heap} {n0 : Nat} (a : Addr) (x1 : Int64) (x2 : Int64) (x3 : Addr)
    (X0 : Stand p l e ({ frames := 3, cells := 0, slots := 0, locals := 48 } : Room) s m args below meth c_ T0 locs 0 0) (hx : p.tables.exec = Jvm.exec) (hZ : Z.Warmed39 s.vm) (hw : ∀ d ∈ tables_1, d.before a0 Z = true) (hby : c_.code = prog_42_method_1_code) (hml : c_.maxLocals = 6) (hown : s.vm.findClass "tidewatch/decision/Snapshot$Instance" = some m.cls) (hnm : meth.name = "<init>") (hret : meth.sig.returnType = none) (hlk : meth.locks = false) (e0 : T0.heap = h0) (Z0 : n0 ≤ h0.size) (N0 : Fr n0 locs) (E_a : Exa Z h0 a "tidewatch/decision/Snapshot$Instance") (F_recordsIn_a : Fld Z h0 a "tidewatch/decision/Snapshot$Instance" "recordsIn" "J" (.long (0 : Int64))) (F_recordsOut_a : Fld Z h0 a "tidewatch/decision/Snapshot$Instance" "recordsOut" "J" (.long (0 : Int64))) (F_usefulSeconds_a : Fld Z h0 a "tidewatch/decision/Snapshot$Instance" "usefulSeconds" "Ljava/util/OptionalDouble;" .null) (F_countedSeconds_a : Fld Z h0 a "tidewatch/decision/Snapshot$Instance" "countedSeconds" "D" (.double (0 : UInt64))) (ge_a : n0 ≤ a)  :
    Go p e below s ({ frames := 3, cells := 0, slots := 0, locals := 48 } : Room).cells ({ frames := 3, cells := 0, slots := 0, locals := 48 } : Room).slots (fun r h L => r = none ∧ Fr n0 L ∧ Keep h0 h [a] ∧ Exa Z h a "tidewatch/decision/Snapshot$Instance" ∧ Fld Z h a "tidewatch/decision/Snapshot$Instance" "recordsIn" "J" (.long x1) ∧ Fld Z h a "tidewatch/decision/Snapshot$Instance" "recordsOut" "J" (.long x2) ∧ Fld Z h a "tidewatch/decision/Snapshot$Instance" "usefulSeconds" "Ljava/util/OptionalDouble;" (.ref x3) ∧ Fld Z h a "tidewatch/decision/Snapshot$Instance" "countedSeconds" "D" (.double (0 : UInt64))) T0 (mkF m 0 #[.val (.ref a), .val (.long x1), .second, .val (.long x2), .second, .val (.ref x3)] []) := by
  show Go _ _ _ _ _ _ _ T0 (mkF m 0 #[.val (.ref a), .val (.long x1), .second, .val (.long x2), .second, .val (.ref x3)] [])
  refine Go.step (fun _ k => XS.aloadN X0.here hx rfl (hb hby d5_0) rfl rfl k) ?_
  show Go _ _ _ _ _ _ _ T0 (mkF m 1 #[.val (.ref a), .val (.long x1), .second, .val (.long x2), .second, .val (.ref x3)] [(.ref a)])
  refine Go.step (fun _ k => XS.lloadN X0.here hx rfl (hb hby d5_1) rfl k) ?_
  show Go _ _ _ _ _ _ _ T0 (mkF m 2 #[.val (.ref a), .val (.long x1), .second, .val (.long x2), .second, .val (.ref x3)] [(.long x1), (.ref a)])
  refine Go.step (fun _ k => XS.lloadN X0.here hx rfl (hb hby d5_2) rfl k) ?_
  show Go _ _ _ _ _ _ _ T0 (mkF m 3 #[.val (.ref a), .val (.long x1), .second, .val (.long x2), .second, .val (.ref x3)] [(.long x2), (.long x1), (.ref a)])
  refine Go.step (fun _ k => XS.aload X0.here hx rfl (hb hby d5_3) rfl rfl k) ?_
  show Go _ _ _ _ _ _ _ T0 (mkF m 5 #[.val (.ref a), .val (.long x1), .second, .val (.long x2), .second, .val (.ref x3)] [(.ref x3), (.long x2), (.long x1), (.ref a)])
  refine Go.step (fun _ k => XS.dconst0 X0.here hx rfl (hb hby d5_5) rfl k) ?_
  show Go _ _ _ _ _ _ _ T0 (mkF m 6 #[.val (.ref a), .val (.long x1), .second, .val (.long x2), .second, .val (.ref x3)] [(.double (0 : UInt64)), (.ref x3), (.long x2), (.long x1), (.ref a)])
  refine Go.callI X0 hx hZ (by rw [hml]; rfl) (y := (⟨"tidewatch/decision/Snapshot$Instance", "<init>", "(JJLjava/util/OptionalDouble;D)V"⟩ : MethodName)) (a := a) (argsL := [(.long x1), (.long x2), (.ref x3), (.double (0 : UInt64))]) (rest := []) rfl hown (hw _ (List.mem_of_getElem? (i := 27) rfl)) (hw _ (List.mem_of_getElem? (i := 28) rfl)) (hw _ (List.mem_of_getElem? (i := 3) rfl)) (hw _ (List.mem_of_getElem? (i := 29) rfl)) (by decide) (rm6 l Z a0 hw a x1 x2 x3 (0 : UInt64) h0 n0 Z0 E_a F_recordsIn_a F_recordsOut_a F_usefulSeconds_a F_countedSeconds_a ge_a ) e0 (hb hby d5_6) (lenOf pd_1 rfl) rfl rfl (W := 0) (Nat.le_of_eq rfl) (by decide) (by decide) (by decide) (by decide) ?_
  intro v1 T1 L1 X1 Q1
  obtain ⟨rfl, N1q, Kc1, Ec1, F1_recordsIn_a, F1_recordsOut_a, F1_usefulSeconds_a, F1_countedSeconds_a⟩ := Q1
  have N1 := Fr.app N0 N1q
  have E_a_1 := E_a.keep Kc1
  have KK1 : Keep h0 T1.heap [a] := ((Keep.refl h0 [a]) : Keep h0 h0 [a]).trans Kc1 (allS (Or.inl (List.mem_of_getElem? (i := 0) rfl)) all0)
  show Go _ _ _ _ _ _ _ T1 (mkF m 9 #[.val (.ref a), .val (.long x1), .second, .val (.long x2), .second, .val (.ref x3)] [])
  refine Go.retV X1 hx hlk hret (hb hby d5_9) (by decide) (by decide) ?_
  exact ⟨rfl, N1, KK1, E_a_1, F1_recordsIn_a, F1_recordsOut_a, F1_usefulSeconds_a, F1_countedSeconds_a⟩
theorem ef_rm5 (m : MethodId) (a : Addr) (x1 : Int64) (x2 : Int64) (x3 : Addr) : entryFrame m #[(.ref a), (.long x1), (.long x2), (.ref x3)] 6 = mkF m 0 #[.val (.ref a), .val (.long x1), .second, .val (.long x2), .second, .val (.ref x3)] [] := by first | (simp [entryFrame, mkF, argsToLocals, Value.category]; done) | rfl
theorem rm5 (l : Launch) (Z : State) (a0 : Array Value) (hw : ∀ d ∈ tables_1, d.before a0 Z = true) (a : Addr) (x1 : Int64) (x2 : Int64) (x3 : Addr) (h0 : Heap) (n0 : Nat) (Z0 : n0 ≤ h0.size) (E_a : Exa Z h0 a "tidewatch/decision/Snapshot$Instance") (F_recordsIn_a : Fld Z h0 a "tidewatch/decision/Snapshot$Instance" "recordsIn" "J" (.long (0 : Int64))) (F_recordsOut_a : Fld Z h0 a "tidewatch/decision/Snapshot$Instance" "recordsOut" "J" (.long (0 : Int64))) (F_usefulSeconds_a : Fld Z h0 a "tidewatch/decision/Snapshot$Instance" "usefulSeconds" "Ljava/util/OptionalDouble;" .null) (F_countedSeconds_a : Fld Z h0 a "tidewatch/decision/Snapshot$Instance" "countedSeconds" "D" (.double (0 : UInt64))) (ge_a : n0 ≤ a)  :
    Con l Z (⟨"tidewatch/decision/Snapshot$Instance", "<init>", "(JJLjava/util/OptionalDouble;)V"⟩ : MethodName) prog_42_method_1_code 6 none ({ frames := 3, cells := 0, slots := 0, locals := 48 } : Room) #[(.ref a), (.long x1), (.long x2), (.ref x3)] h0 (fun r h L => r = none ∧ Fr n0 L ∧ Keep h0 h [a] ∧ Exa Z h a "tidewatch/decision/Snapshot$Instance" ∧ Fld Z h a "tidewatch/decision/Snapshot$Instance" "recordsIn" "J" (.long x1) ∧ Fld Z h a "tidewatch/decision/Snapshot$Instance" "recordsOut" "J" (.long x2) ∧ Fld Z h a "tidewatch/decision/Snapshot$Instance" "usefulSeconds" "Ljava/util/OptionalDouble;" (.ref x3) ∧ Fld Z h a "tidewatch/decision/Snapshot$Instance" "countedSeconds" "D" (.double (0 : UInt64))) :=
  con_of (plainFor_of_name pn_6) (fun p_ e_ s_ m_ b_ meth_ c_ T_ X_ hx hZ hby hml hown hnm hret hlk e0 => Go.cast (ef_rm5 m_ a x1 x2 x3) (w5 a x1 x2 x3 X_ hx hZ hw hby hml hown hnm hret hlk e0 Z0 (Fr.nil n0) E_a F_recordsIn_a F_recordsOut_a F_usefulSeconds_a F_countedSeconds_a ge_a))
theorem d3_0 : decode jdk_2648_method_3_code 0 = .ok (.aload_n 0, 1) := by decide +kernel
theorem d3_1 : decode jdk_2648_method_3_code 1 = .ok (.invokespecial 1, 3) := by decide +kernel
theorem d3_4 : decode jdk_2648_method_3_code 4 = .ok (.aload_n 0, 1) := by decide +kernel
theorem d3_5 : decode jdk_2648_method_3_code 5 = .ok (.iconst 1, 1) := by decide +kernel
theorem d3_6 : decode jdk_2648_method_3_code 6 = .ok (.putfield 7, 3) := by decide +kernel
theorem d3_9 : decode jdk_2648_method_3_code 9 = .ok (.aload_n 0, 1) := by decide +kernel
theorem d3_10 : decode jdk_2648_method_3_code 10 = .ok (.dload_n 1, 1) := by decide +kernel
theorem d3_11 : decode jdk_2648_method_3_code 11 = .ok (.putfield 17, 3) := by decide +kernel
theorem d3_14 : decode jdk_2648_method_3_code 14 = .ok (.return_, 1) := by decide +kernel
set_option maxRecDepth 65536 in
set_option maxHeartbeats 40000000 in
theorem w3 {p : Program} {l : Launch} {e : Env} {s : State} {m : MethodId} {args : Array Value} {below : List Frame} {meth : Method} {c_ : Code} {T0 : State} {locs : List Loc} {Z : State} {a0 : Array Value} {h0 : Heap} {n0 : Nat} (a : Addr) (x1 : UInt64)
    (X0 : Stand p l e ({ frames := 1, cells := 0, slots := 0, locals := 12 } : Room) s m args below meth c_ T0 locs 0 0) (hx : p.tables.exec = Jvm.exec) (hZ : Z.Warmed39 s.vm) (hw : ∀ d ∈ tables_1, d.before a0 Z = true) (hby : c_.code = jdk_2648_method_3_code) (hml : c_.maxLocals = 3) (hown : s.vm.findClass "java/util/OptionalDouble" = some m.cls) (hnm : meth.name = "<init>") (hret : meth.sig.returnType = none) (hlk : meth.locks = false) (e0 : T0.heap = h0) (Z0 : n0 ≤ h0.size) (N0 : Fr n0 locs) (E_a : Exa Z h0 a "java/util/OptionalDouble") (F_isPresent_a : Fld Z h0 a "java/util/OptionalDouble" "isPresent" "Z" (.int (0 : Int32))) (F_value_a : Fld Z h0 a "java/util/OptionalDouble" "value" "D" (.double (0 : UInt64))) (ge_a : n0 ≤ a)  :
    Go p e below s ({ frames := 1, cells := 0, slots := 0, locals := 12 } : Room).cells ({ frames := 1, cells := 0, slots := 0, locals := 12 } : Room).slots (fun r h L => r = none ∧ Fr n0 L ∧ Keep h0 h [a] ∧ Exa Z h a "java/util/OptionalDouble" ∧ Fld Z h a "java/util/OptionalDouble" "isPresent" "Z" (.int (1 : Int32)) ∧ Fld Z h a "java/util/OptionalDouble" "value" "D" (.double x1)) T0 (mkF m 0 #[.val (.ref a), .val (.double x1), .second] []) := by
  show Go _ _ _ _ _ _ _ T0 (mkF m 0 #[.val (.ref a), .val (.double x1), .second] [])
  refine Go.step (fun _ k => XS.aloadN X0.here hx rfl (hb hby d3_0) rfl rfl k) ?_
  show Go _ _ _ _ _ _ _ T0 (mkF m 1 #[.val (.ref a), .val (.double x1), .second] [(.ref a)])
  obtain ⟨T1, X1, e1, st1⟩ := initO X0 hx hZ hown (hw _ (List.mem_of_getElem? (i := 17) rfl)) (hw _ (List.mem_of_getElem? (i := 18) rfl)) (hw _ (List.mem_of_getElem? (i := 19) rfl)) e0 (g := (mkF m 1 #[.val (.ref a), .val (.double x1), .second] [(.ref a)])) rfl (by rw [hml]; rfl) rfl (hb hby d3_1) (by decide) (W := 0) (by show 2 * 0 + _ ≤ _; exact Nat.le_of_eq rfl) (by decide)
  refine Go.step st1 ?_
  show Go _ _ _ _ _ _ _ T1 (mkF m 4 #[.val (.ref a), .val (.double x1), .second] [])
  refine Go.step (fun _ k => XS.aloadN X1.here hx rfl (hb hby d3_4) rfl rfl k) ?_
  show Go _ _ _ _ _ _ _ T1 (mkF m 5 #[.val (.ref a), .val (.double x1), .second] [(.ref a)])
  refine Go.step (fun _ k => XS.iconst X1.here hx rfl (hb hby d3_5) k) ?_
  show Go _ _ _ _ _ _ _ T1 (mkF m 6 #[.val (.ref a), .val (.double x1), .second] [(.int (1 : Int32)), (.ref a)])
  obtain ⟨T2, h2, X2, e2, W2, st2⟩ := putF X1 hx hZ hown (host := "") (Or.inl (hw _ (List.mem_of_getElem? (i := 20) rfl))) Via.refl e1 F_isPresent_a E_a (Or.inr ⟨(hw _ (List.mem_of_getElem? (i := 21) rfl)), rfl, hnm⟩) (hw _ (List.mem_of_getElem? (i := 12) rfl)) (ty := .boolean) (by decide) rfl rfl (g := (mkF m 6 #[.val (.ref a), .val (.double x1), .second] [(.int (1 : Int32)), (.ref a)])) rfl rfl (hb hby d3_6)
  refine Go.step st2 ?_
  have N2 := Fr.snoc X2 N0 ge_a
  have F_isPresent_a_2 := F_isPresent_a.same W2
  have E_a_2 := E_a.wr W2
  have F_value_a_2 := F_value_a.other W2 (Or.inr (slot_ne (Or.inr (hw _ (List.mem_of_getElem? (i := 23) rfl))) (Or.inr (hw _ (List.mem_of_getElem? (i := 21) rfl))) (by decide) (t := .double) (t' := .boolean) (by decide) (by decide)))
  have K2 : Keep h0 h2 [a] := (Keep.refl h0 [a]).wr W2 (Or.inl (List.mem_of_getElem? (i := 0) rfl))
  show Go _ _ _ _ _ _ _ T2 (mkF m 9 #[.val (.ref a), .val (.double x1), .second] [])
  refine Go.step (fun _ k => XS.aloadN X2.here hx rfl (hb hby d3_9) rfl rfl k) ?_
  show Go _ _ _ _ _ _ _ T2 (mkF m 10 #[.val (.ref a), .val (.double x1), .second] [(.ref a)])
  refine Go.step (fun _ k => XS.dloadN X2.here hx rfl (hb hby d3_10) rfl k) ?_
  show Go _ _ _ _ _ _ _ T2 (mkF m 11 #[.val (.ref a), .val (.double x1), .second] [(.double x1), (.ref a)])
  obtain ⟨T3, h3, X3, e3, W3, st3⟩ := putF X2 hx hZ hown (host := "") (Or.inl (hw _ (List.mem_of_getElem? (i := 22) rfl))) Via.refl e2 F_value_a_2 E_a_2 (Or.inr ⟨(hw _ (List.mem_of_getElem? (i := 23) rfl)), rfl, hnm⟩) (hw _ (List.mem_of_getElem? (i := 12) rfl)) (ty := .double) (by decide) rfl rfl (g := (mkF m 11 #[.val (.ref a), .val (.double x1), .second] [(.double x1), (.ref a)])) rfl rfl (hb hby d3_11)
  refine Go.step st3 ?_
  have N3 := Fr.snoc X3 N2 ge_a
  have F_value_a_3 := F_value_a_2.same W3
  have E_a_3 := E_a_2.wr W3
  have F_isPresent_a_3 := F_isPresent_a_2.other W3 (Or.inr (slot_ne (Or.inr (hw _ (List.mem_of_getElem? (i := 21) rfl))) (Or.inr (hw _ (List.mem_of_getElem? (i := 23) rfl))) (by decide) (t := .boolean) (t' := .double) (by decide) (by decide)))
  have K3 : Keep h0 h3 [a] := K2.wr W3 (Or.inl (List.mem_of_getElem? (i := 0) rfl))
  show Go _ _ _ _ _ _ _ T3 (mkF m 14 #[.val (.ref a), .val (.double x1), .second] [])
  refine Go.retV X3 hx hlk hret (hb hby d3_14) (by decide) (by decide) ?_
  try rw [e3]
  exact ⟨rfl, N3, K3, E_a_3, F_isPresent_a_3, F_value_a_3⟩
theorem pn_3 : plainName "java/util/OptionalDouble" = true := by first | (simp [plainName, overriddenIn]; done) | decide +kernel
theorem ef_rm3 (m : MethodId) (a : Addr) (x1 : UInt64) : entryFrame m #[(.ref a), (.double x1)] 3 = mkF m 0 #[.val (.ref a), .val (.double x1), .second] [] := by first | (simp [entryFrame, mkF, argsToLocals, Value.category]; done) | rfl
theorem rm3 (l : Launch) (Z : State) (a0 : Array Value) (hw : ∀ d ∈ tables_1, d.before a0 Z = true) (a : Addr) (x1 : UInt64) (h0 : Heap) (n0 : Nat) (Z0 : n0 ≤ h0.size) (E_a : Exa Z h0 a "java/util/OptionalDouble") (F_isPresent_a : Fld Z h0 a "java/util/OptionalDouble" "isPresent" "Z" (.int (0 : Int32))) (F_value_a : Fld Z h0 a "java/util/OptionalDouble" "value" "D" (.double (0 : UInt64))) (ge_a : n0 ≤ a)  :
    Con l Z (⟨"java/util/OptionalDouble", "<init>", "(D)V"⟩ : MethodName) jdk_2648_method_3_code 3 none ({ frames := 1, cells := 0, slots := 0, locals := 12 } : Room) #[(.ref a), (.double x1)] h0 (fun r h L => r = none ∧ Fr n0 L ∧ Keep h0 h [a] ∧ Exa Z h a "java/util/OptionalDouble" ∧ Fld Z h a "java/util/OptionalDouble" "isPresent" "Z" (.int (1 : Int32)) ∧ Fld Z h a "java/util/OptionalDouble" "value" "D" (.double x1)) :=
  con_of (plainFor_of_name pn_3) (fun p_ e_ s_ m_ b_ meth_ c_ T_ X_ hx hZ hby hml hown hnm hret hlk e0 => Go.cast (ef_rm3 m_ a x1) (w3 a x1 X_ hx hZ hw hby hml hown hnm hret hlk e0 Z0 (Fr.nil n0) E_a F_isPresent_a F_value_a ge_a))
theorem d2_0 : decode jdk_2648_method_4_code 0 = .ok (.new 8, 3) := by decide +kernel
theorem d2_3 : decode jdk_2648_method_4_code 3 = .ok (.dup, 1) := by decide +kernel
theorem d2_4 : decode jdk_2648_method_4_code 4 = .ok (.dload_n 0, 1) := by decide +kernel
theorem d2_5 : decode jdk_2648_method_4_code 5 = .ok (.invokespecial 25, 3) := by decide +kernel
theorem pd_2 : parseMethodDescriptor "(D)V" = some ⟨[.double], none⟩ := by decide +kernel
theorem d2_8 : decode jdk_2648_method_4_code 8 = .ok (.areturn, 1) := by decide +kernel
set_option maxRecDepth 65536 in
set_option maxHeartbeats 40000000 in
theorem w2 {p : Program} {l : Launch} {e : Env} {s : State} {m : MethodId} {args : Array Value} {below : List Frame} {meth : Method} {c_ : Code} {T0 : State} {locs : List Loc} {Z : State} {a0 : Array Value} {h0 : Heap} {n0 : Nat} (x : UInt64)
    (X0 : Stand p l e ({ frames := 2, cells := 1, slots := 2, locals := 30 } : Room) s m args below meth c_ T0 locs 0 0) (hx : p.tables.exec = Jvm.exec) (hZ : Z.Warmed39 s.vm) (hw : ∀ d ∈ tables_1, d.before a0 Z = true) (hby : c_.code = jdk_2648_method_4_code) (hml : c_.maxLocals = 2) (hown : s.vm.findClass "java/util/OptionalDouble" = some m.cls) (hnm : meth.name = "of") (hret : meth.sig.returnType = some (.object "java/util/OptionalDouble")) (hlk : meth.locks = false) (e0 : T0.heap = h0) (Z0 : n0 ≤ h0.size) (N0 : Fr n0 locs)  :
    Go p e below s ({ frames := 2, cells := 1, slots := 2, locals := 30 } : Room).cells ({ frames := 2, cells := 1, slots := 2, locals := 30 } : Room).slots (fun r h L => ∃ b : Addr, r = some (.ref b) ∧ Fr n0 L ∧ Keep h0 h []) T0 (mkF m 0 #[.val (.double x), .second] []) := by
  show Go _ _ _ _ _ _ _ T0 (mkF m 0 #[.val (.double x), .second] [])
  obtain ⟨T1, h1, X1, e1, E1, A1, D1, -, st1⟩ := newO X0 hx hZ hown (hw _ (List.mem_of_getElem? (i := 11) rfl)) (hw _ (List.mem_of_getElem? (i := 12) rfl)) (hw _ (List.mem_of_getElem? (i := 9) rfl)) e0 (g := (mkF m 0 #[.val (.double x), .second] [])) rfl (hb hby d2_0) (by decide) (by decide)
  obtain ⟨b1, g1⟩ : ∃ z, z = h0.size := ⟨_, rfl⟩
  rw [← g1] at A1 D1 st1
  refine Go.step st1 ?_
  have K1 : Keep h0 h1 [] := (Keep.refl h0 []).ext E1
  have sz_b1 : h0.size ≤ b1 := Nat.le_trans ((Keep.refl h0 []) : Keep h0 h0 []).1 (Nat.le_of_eq g1.symm)
  have ge_b1 : n0 ≤ b1 := Nat.le_trans Z0 sz_b1
  have E_b1 := A1
  have F_isPresent_b1 : Fld Z h1 b1 "java/util/OptionalDouble" "isPresent" "Z" (.int (0 : Int32)) := D1 (Or.inr (hw _ (List.mem_of_getElem? (i := 21) rfl))) (ty := .boolean) (by decide)
  have F_value_b1 : Fld Z h1 b1 "java/util/OptionalDouble" "value" "D" (.double (0 : UInt64)) := D1 (Or.inr (hw _ (List.mem_of_getElem? (i := 23) rfl))) (ty := .double) (by decide)
  show Go _ _ _ _ _ _ _ T1 (mkF m 3 #[.val (.double x), .second] [(.ref b1)])
  refine Go.step (fun _ k => XS.dup X1.here hx rfl (hb hby d2_3) rfl rfl k) ?_
  show Go _ _ _ _ _ _ _ T1 (mkF m 4 #[.val (.double x), .second] [(.ref b1), (.ref b1)])
  refine Go.step (fun _ k => XS.dloadN X1.here hx rfl (hb hby d2_4) rfl k) ?_
  show Go _ _ _ _ _ _ _ T1 (mkF m 5 #[.val (.double x), .second] [(.double x), (.ref b1), (.ref b1)])
  refine Go.callI X1 hx hZ (by rw [hml]; rfl) (y := (⟨"java/util/OptionalDouble", "<init>", "(D)V"⟩ : MethodName)) (a := b1) (argsL := [(.double x)]) (rest := [(.ref b1)]) rfl hown (hw _ (List.mem_of_getElem? (i := 13) rfl)) (hw _ (List.mem_of_getElem? (i := 14) rfl)) (hw _ (List.mem_of_getElem? (i := 9) rfl)) (hw _ (List.mem_of_getElem? (i := 16) rfl)) (by decide) (rm3 l Z a0 hw b1 x h1 n0 (Nat.le_trans Z0 (K1 : Keep h0 h1 []).1) E_b1 F_isPresent_b1 F_value_b1 ge_b1 ) e1 (hb hby d2_5) (lenOf pd_2 rfl) rfl rfl (W := 1) (Nat.le_of_eq rfl) (by decide) (by decide) (by decide) (by decide) ?_
  intro v2 T2 L2 X2 Q2
  obtain ⟨rfl, N2q, Kc2, Ec2, F2_isPresent_b1, F2_value_b1⟩ := Q2
  have N2 := Fr.app N0 N2q
  have E_b1_2 := E_b1.keep Kc2
  have KK2 : Keep h0 T2.heap [] := (K1 : Keep h0 h1 []).trans Kc2 (allS (Or.inr sz_b1) all0)
  show Go _ _ _ _ _ _ _ T2 (mkF m 8 #[.val (.double x), .second] [(.ref b1)])
  refine Go.retR X2 hx hlk hret rfl rfl rfl (hb hby d2_8) (by decide) (by decide) ?_
  exact ⟨_, rfl, N2, KK2⟩
theorem ef_rm2 (m : MethodId) (x : UInt64) : entryFrame m #[(.double x)] 2 = mkF m 0 #[.val (.double x), .second] [] := by first | (simp [entryFrame, mkF, argsToLocals, Value.category]; done) | rfl
theorem rm2 (l : Launch) (Z : State) (a0 : Array Value) (hw : ∀ d ∈ tables_1, d.before a0 Z = true) (x : UInt64) (h0 : Heap) (n0 : Nat) (Z0 : n0 ≤ h0.size)  :
    Con l Z (⟨"java/util/OptionalDouble", "of", "(D)Ljava/util/OptionalDouble;"⟩ : MethodName) jdk_2648_method_4_code 2 (some (.object "java/util/OptionalDouble")) ({ frames := 2, cells := 1, slots := 2, locals := 30 } : Room) #[(.double x)] h0 (fun r h L => ∃ b : Addr, r = some (.ref b) ∧ Fr n0 L ∧ Keep h0 h []) :=
  con_of (plainFor_of_name pn_3) (fun p_ e_ s_ m_ b_ meth_ c_ T_ X_ hx hZ hby hml hown hnm hret hlk e0 => Go.cast (ef_rm2 m_ x) (w2 x X_ hx hZ hw hby hml hown hnm hret hlk e0 Z0 (Fr.nil n0) ))
theorem d1_0 : decode prog_42_method_2_code 0 = .ok (.aload_n 0, 1) := by decide +kernel
theorem d1_1 : decode prog_42_method_2_code 1 = .ok (.lload_n 1, 1) := by decide +kernel
theorem d1_2 : decode prog_42_method_2_code 2 = .ok (.lload_n 3, 1) := by decide +kernel
theorem d1_3 : decode prog_42_method_2_code 3 = .ok (.dload 5, 2) := by decide +kernel
theorem d1_5 : decode prog_42_method_2_code 5 = .ok (.invokestatic 27, 3) := by decide +kernel
theorem pd_3 : parseMethodDescriptor "(D)Ljava/util/OptionalDouble;" = some ⟨[.double], some (.object "java/util/OptionalDouble")⟩ := by decide +kernel
theorem d1_8 : decode prog_42_method_2_code 8 = .ok (.invokespecial 33, 3) := by decide +kernel
theorem pd_4 : parseMethodDescriptor "(JJLjava/util/OptionalDouble;)V" = some ⟨[.long, .long, (.object "java/util/OptionalDouble")], none⟩ := by decide +kernel
theorem d1_11 : decode prog_42_method_2_code 11 = .ok (.return_, 1) := by decide +kernel
set_option maxRecDepth 65536 in
set_option maxHeartbeats 40000000 in
theorem w1 {p : Program} {l : Launch} {e : Env} {s : State} {m : MethodId} {args : Array Value} {below : List Frame} {meth : Method} {c_ : Code} {T0 : State} {locs : List Loc} {Z : State} {a0 : Array Value} {h0 : Heap} {n0 : Nat} (a : Addr) (x1 x2 : Int64) (x : UInt64)
    (X0 : Stand p l e ({ frames := 4, cells := 1, slots := 2, locals := 72 } : Room) s m args below meth c_ T0 locs 0 0) (hx : p.tables.exec = Jvm.exec) (hZ : Z.Warmed39 s.vm) (hw : ∀ d ∈ tables_1, d.before a0 Z = true) (hby : c_.code = prog_42_method_2_code) (hml : c_.maxLocals = 7) (hown : s.vm.findClass "tidewatch/decision/Snapshot$Instance" = some m.cls) (hnm : meth.name = "<init>") (hret : meth.sig.returnType = none) (hlk : meth.locks = false) (e0 : T0.heap = h0) (Z0 : n0 ≤ h0.size) (N0 : Fr n0 locs) (E_a : Exa Z h0 a "tidewatch/decision/Snapshot$Instance") (F_recordsIn_a : Fld Z h0 a "tidewatch/decision/Snapshot$Instance" "recordsIn" "J" (.long (0 : Int64))) (F_recordsOut_a : Fld Z h0 a "tidewatch/decision/Snapshot$Instance" "recordsOut" "J" (.long (0 : Int64))) (F_usefulSeconds_a : Fld Z h0 a "tidewatch/decision/Snapshot$Instance" "usefulSeconds" "Ljava/util/OptionalDouble;" .null) (F_countedSeconds_a : Fld Z h0 a "tidewatch/decision/Snapshot$Instance" "countedSeconds" "D" (.double (0 : UInt64))) (ge_a : n0 ≤ a) :
    Go p e below s ({ frames := 4, cells := 1, slots := 2, locals := 72 } : Room).cells ({ frames := 4, cells := 1, slots := 2, locals := 72 } : Room).slots (fun r h L => r = none ∧ Fr n0 L ∧ Keep h0 h [a] ∧ Exa Z h a "tidewatch/decision/Snapshot$Instance" ∧ Fld Z h a "tidewatch/decision/Snapshot$Instance" "countedSeconds" "D" (.double (0 : UInt64)) ∧ ∃ b : Addr, Fld Z h a "tidewatch/decision/Snapshot$Instance" "usefulSeconds" "Ljava/util/OptionalDouble;" (.ref b)) T0 (mkF m 0 #[.val (.ref a), .val (.long x1), .second, .val (.long x2), .second, .val (.double x), .second] []) := by
  show Go _ _ _ _ _ _ _ T0 (mkF m 0 #[.val (.ref a), .val (.long x1), .second, .val (.long x2), .second, .val (.double x), .second] [])
  refine Go.step (fun _ k => XS.aloadN X0.here hx rfl (hb hby d1_0) rfl rfl k) ?_
  show Go _ _ _ _ _ _ _ T0 (mkF m 1 #[.val (.ref a), .val (.long x1), .second, .val (.long x2), .second, .val (.double x), .second] [(.ref a)])
  refine Go.step (fun _ k => XS.lloadN X0.here hx rfl (hb hby d1_1) rfl k) ?_
  show Go _ _ _ _ _ _ _ T0 (mkF m 2 #[.val (.ref a), .val (.long x1), .second, .val (.long x2), .second, .val (.double x), .second] [(.long x1), (.ref a)])
  refine Go.step (fun _ k => XS.lloadN X0.here hx rfl (hb hby d1_2) rfl k) ?_
  show Go _ _ _ _ _ _ _ T0 (mkF m 3 #[.val (.ref a), .val (.long x1), .second, .val (.long x2), .second, .val (.double x), .second] [(.long x2), (.long x1), (.ref a)])
  refine Go.step (fun _ k => XS.dload X0.here hx rfl (hb hby d1_3) rfl k) ?_
  show Go _ _ _ _ _ _ _ T0 (mkF m 5 #[.val (.ref a), .val (.long x1), .second, .val (.long x2), .second, .val (.double x), .second] [(.double x), (.long x2), (.long x1), (.ref a)])
  refine Go.callS X0 hx hZ (by rw [hml]; rfl) (y := (⟨"java/util/OptionalDouble", "of", "(D)Ljava/util/OptionalDouble;"⟩ : MethodName)) (argsL := [(.double x)]) (rest := [(.long x2), (.long x1), (.ref a)]) hown (hw _ (List.mem_of_getElem? (i := 7) rfl)) (hw _ (List.mem_of_getElem? (i := 8) rfl)) (hw _ (List.mem_of_getElem? (i := 9) rfl)) (hw _ (List.mem_of_getElem? (i := 10) rfl)) (by decide) (rm2 l Z a0 hw x h0 n0 Z0) e0 (hb hby d1_5) (lenOf pd_3 rfl) rfl rfl (W := 5) (Nat.le_of_eq rfl) (by decide) (by decide) (by decide) (by decide) ?_
  intro v1 T1 L1 X1 Q1
  obtain ⟨b1, rfl, N1q, Kc1⟩ := Q1
  have N1 := Fr.app N0 N1q
  have E_a_1 := E_a.keep Kc1
  have F_recordsIn_a_1 := F_recordsIn_a.keep Kc1 nin0
  have F_recordsOut_a_1 := F_recordsOut_a.keep Kc1 nin0
  have F_usefulSeconds_a_1 := F_usefulSeconds_a.keep Kc1 nin0
  have F_countedSeconds_a_1 := F_countedSeconds_a.keep Kc1 nin0
  have KK1 : Keep h0 T1.heap [a] := ((Keep.refl h0 [a]) : Keep h0 h0 [a]).trans Kc1 all0
  show Go _ _ _ _ _ _ _ T1 (mkF m 8 #[.val (.ref a), .val (.long x1), .second, .val (.long x2), .second, .val (.double x), .second] [(.ref b1), (.long x2), (.long x1), (.ref a)])
  refine Go.callI X1 hx hZ (by rw [hml]; rfl) (y := (⟨"tidewatch/decision/Snapshot$Instance", "<init>", "(JJLjava/util/OptionalDouble;)V"⟩ : MethodName)) (a := a) (argsL := [(.long x1), (.long x2), (.ref b1)]) (rest := []) rfl hown (hw _ (List.mem_of_getElem? (i := 24) rfl)) (hw _ (List.mem_of_getElem? (i := 25) rfl)) (hw _ (List.mem_of_getElem? (i := 3) rfl)) (hw _ (List.mem_of_getElem? (i := 26) rfl)) (by decide) (rm5 l Z a0 hw a x1 x2 b1 T1.heap n0 (Nat.le_trans Z0 (KK1 : Keep h0 T1.heap [a]).1) E_a_1 F_recordsIn_a_1 F_recordsOut_a_1 F_usefulSeconds_a_1 F_countedSeconds_a_1 ge_a ) rfl (hb hby d1_8) (lenOf pd_4 rfl) rfl rfl (W := 0) (Nat.le_of_eq rfl) (by decide) (by decide) (by decide) (by decide) ?_
  intro v2 T2 L2 X2 Q2
  obtain ⟨rfl, N2q, Kc2, Ec2, F2_recordsIn_a, F2_recordsOut_a, F2_usefulSeconds_a, F2_countedSeconds_a⟩ := Q2
  have N2 := Fr.app N1 N2q
  have E_a_2 := E_a_1.keep Kc2
  have KK2 : Keep h0 T2.heap [a] := (KK1 : Keep h0 T1.heap [a]).trans Kc2 (allS (Or.inl (List.mem_of_getElem? (i := 0) rfl)) all0)
  show Go _ _ _ _ _ _ _ T2 (mkF m 11 #[.val (.ref a), .val (.long x1), .second, .val (.long x2), .second, .val (.double x), .second] [])
  refine Go.retV X2 hx hlk hret (hb hby d1_11) (by decide) (by decide) ?_
  exact ⟨rfl, N2, KK2, E_a_2, F2_countedSeconds_a, _, F2_usefulSeconds_a⟩
theorem ef_rm1 (m : MethodId) (a : Addr) (x1 : Int64) (x2 : Int64) (x : UInt64) : entryFrame m #[(.ref a), (.long x1), (.long x2), (.double x)] 7 = mkF m 0 #[.val (.ref a), .val (.long x1), .second, .val (.long x2), .second, .val (.double x), .second] [] := by first | (simp [entryFrame, mkF, argsToLocals, Value.category]; done) | rfl
theorem rm1 (l : Launch) (Z : State) (a0 : Array Value) (hw : ∀ d ∈ tables_1, d.before a0 Z = true) (a : Addr) (x1 x2 : Int64) (x : UInt64) (h0 : Heap) (n0 : Nat) (Z0 : n0 ≤ h0.size) (E_a : Exa Z h0 a "tidewatch/decision/Snapshot$Instance") (F_recordsIn_a : Fld Z h0 a "tidewatch/decision/Snapshot$Instance" "recordsIn" "J" (.long (0 : Int64))) (F_recordsOut_a : Fld Z h0 a "tidewatch/decision/Snapshot$Instance" "recordsOut" "J" (.long (0 : Int64))) (F_usefulSeconds_a : Fld Z h0 a "tidewatch/decision/Snapshot$Instance" "usefulSeconds" "Ljava/util/OptionalDouble;" .null) (F_countedSeconds_a : Fld Z h0 a "tidewatch/decision/Snapshot$Instance" "countedSeconds" "D" (.double (0 : UInt64))) (ge_a : n0 ≤ a) :
    Con l Z (⟨"tidewatch/decision/Snapshot$Instance", "<init>", "(JJD)V"⟩ : MethodName) prog_42_method_2_code 7 none ({ frames := 4, cells := 1, slots := 2, locals := 72 } : Room) #[(.ref a), (.long x1), (.long x2), (.double x)] h0 (fun r h L => r = none ∧ Fr n0 L ∧ Keep h0 h [a] ∧ Exa Z h a "tidewatch/decision/Snapshot$Instance" ∧ Fld Z h a "tidewatch/decision/Snapshot$Instance" "countedSeconds" "D" (.double (0 : UInt64)) ∧ ∃ b : Addr, Fld Z h a "tidewatch/decision/Snapshot$Instance" "usefulSeconds" "Ljava/util/OptionalDouble;" (.ref b)) :=
  con_of (plainFor_of_name pn_6) (fun p_ e_ s_ m_ b_ meth_ c_ T_ X_ hx hZ hby hml hown hnm hret hlk e0 => Go.cast (ef_rm1 m_ a x1 x2 x) (w1 a x1 x2 x X_ hx hZ hw hby hml hown hnm hret hlk e0 Z0 (Fr.nil n0) E_a F_recordsIn_a F_recordsOut_a F_usefulSeconds_a F_countedSeconds_a ge_a))
theorem d8_0 : decode prog_42_method_10_code 0 = .ok (.aload_n 0, 1) := by decide +kernel
theorem d8_1 : decode prog_42_method_10_code 1 = .ok (.getfield 16, 3) := by decide +kernel
theorem d8_4 : decode prog_42_method_10_code 4 = .ok (.areturn, 1) := by decide +kernel
set_option maxRecDepth 65536 in
set_option maxHeartbeats 40000000 in
theorem w8 {p : Program} {l : Launch} {e : Env} {s : State} {m : MethodId} {args : Array Value} {below : List Frame} {meth : Method} {c_ : Code} {T0 : State} {locs : List Loc} {Z : State} {a0 : Array Value} {h0 : Heap} {n0 : Nat} (a v : Addr)
    (X0 : Stand p l e ({ frames := 0, cells := 0, slots := 0, locals := 0 } : Room) s m args below meth c_ T0 locs 0 0) (hx : p.tables.exec = Jvm.exec) (hZ : Z.Warmed39 s.vm) (hw : ∀ d ∈ tables_1, d.before a0 Z = true) (hby : c_.code = prog_42_method_10_code) (hml : c_.maxLocals = 1) (hown : s.vm.findClass "tidewatch/decision/Snapshot$Instance" = some m.cls) (hnm : meth.name = "usefulSeconds") (hret : meth.sig.returnType = some (.object "java/util/OptionalDouble")) (hlk : meth.locks = false) (e0 : T0.heap = h0) (Z0 : n0 ≤ h0.size) (N0 : Fr n0 locs) (F_a : Fld Z h0 a "tidewatch/decision/Snapshot$Instance" "usefulSeconds" "Ljava/util/OptionalDouble;" (.ref v)) :
    Go p e below s ({ frames := 0, cells := 0, slots := 0, locals := 0 } : Room).cells ({ frames := 0, cells := 0, slots := 0, locals := 0 } : Room).slots (fun r h L => r = some (.ref v) ∧ Fr n0 L ∧ h = h0) T0 (mkF m 0 #[.val (.ref a)] []) := by
  show Go _ _ _ _ _ _ _ T0 (mkF m 0 #[.val (.ref a)] [])
  refine Go.step (fun _ k => XS.aloadN X0.here hx rfl (hb hby d8_0) rfl rfl k) ?_
  show Go _ _ _ _ _ _ _ T0 (mkF m 1 #[.val (.ref a)] [(.ref a)])
  obtain ⟨T1, X1, e1, st1⟩ := getF X0 hx hZ hown (host := "") (Or.inl (hw _ (List.mem_of_getElem? (i := 40) rfl))) Via.refl e0 F_a (g := (mkF m 1 #[.val (.ref a)] [(.ref a)])) rfl rfl (hb hby d8_1)
  refine Go.step st1 ?_
  show Go _ _ _ _ _ _ _ T1 (mkF m 4 #[.val (.ref a)] [(.ref v)])
  refine Go.retR X1 hx hlk hret rfl rfl rfl (hb hby d8_4) (by decide) (by decide) ?_
  try rw [e1]
  exact ⟨rfl, N0, rfl⟩
theorem ef_rm8 (m : MethodId) (a : Addr) : entryFrame m #[(.ref a)] 1 = mkF m 0 #[.val (.ref a)] [] := by first | (simp [entryFrame, mkF, argsToLocals, Value.category]; done) | rfl
theorem rm8 (l : Launch) (Z : State) (a0 : Array Value) (hw : ∀ d ∈ tables_1, d.before a0 Z = true) (a v : Addr) (h0 : Heap) (n0 : Nat) (Z0 : n0 ≤ h0.size) (F_a : Fld Z h0 a "tidewatch/decision/Snapshot$Instance" "usefulSeconds" "Ljava/util/OptionalDouble;" (.ref v)) :
    Con l Z (⟨"tidewatch/decision/Snapshot$Instance", "usefulSeconds", "()Ljava/util/OptionalDouble;"⟩ : MethodName) prog_42_method_10_code 1 (some (.object "java/util/OptionalDouble")) ({ frames := 0, cells := 0, slots := 0, locals := 0 } : Room) #[(.ref a)] h0 (fun r h L => r = some (.ref v) ∧ Fr n0 L ∧ h = h0) :=
  con_of (plainFor_of_name pn_6) (fun p_ e_ s_ m_ b_ meth_ c_ T_ X_ hx hZ hby hml hown hnm hret hlk e0 => Go.cast (ef_rm8 m_ a) (w8 a v X_ hx hZ hw hby hml hown hnm hret hlk e0 Z0 (Fr.nil n0) F_a))
theorem d9_0 : decode prog_42_method_4_code 0 = .ok (.aload_n 0, 1) := by decide +kernel
theorem d9_1 : decode prog_42_method_4_code 1 = .ok (.getfield 20, 3) := by decide +kernel
theorem d9_4 : decode prog_42_method_4_code 4 = .ok (.dconst 0, 1) := by decide +kernel
theorem d9_5 : decode prog_42_method_4_code 5 = .ok (.dcmp .l, 1) := by decide +kernel
theorem d9_6 : decode prog_42_method_4_code 6 = .ok (.ifCond .le 10, 3) := by decide +kernel
theorem d9_9 : decode prog_42_method_4_code 9 = .ok (.aload_n 0, 1) := by decide +kernel
theorem d9_10 : decode prog_42_method_4_code 10 = .ok (.getfield 20, 3) := by decide +kernel
theorem d9_13 : decode prog_42_method_4_code 13 = .ok (.goto 4, 3) := by decide +kernel
theorem d9_17 : decode prog_42_method_4_code 17 = .ok (.dreturn, 1) := by decide +kernel
theorem d9_16 : decode prog_42_method_4_code 16 = .ok (.dload_n 1, 1) := by decide +kernel
set_option maxRecDepth 65536 in
set_option maxHeartbeats 40000000 in
theorem w9 {p : Program} {l : Launch} {e : Env} {s : State} {m : MethodId} {args : Array Value} {below : List Frame} {meth : Method} {c_ : Code} {T0 : State} {locs : List Loc} {Z : State} {a0 : Array Value} {h0 : Heap} {n0 : Nat} (a : Addr) (w v : UInt64)
    (X0 : Stand p l e ({ frames := 0, cells := 0, slots := 0, locals := 0 } : Room) s m args below meth c_ T0 locs 0 0) (hx : p.tables.exec = Jvm.exec) (hZ : Z.Warmed39 s.vm) (hw : ∀ d ∈ tables_1, d.before a0 Z = true) (hby : c_.code = prog_42_method_4_code) (hml : c_.maxLocals = 3) (hown : s.vm.findClass "tidewatch/decision/Snapshot$Instance" = some m.cls) (hnm : meth.name = "countedSecondsIn") (hret : meth.sig.returnType = some .double) (hlk : meth.locks = false) (e0 : T0.heap = h0) (Z0 : n0 ≤ h0.size) (N0 : Fr n0 locs) (F_a : Fld Z h0 a "tidewatch/decision/Snapshot$Instance" "countedSeconds" "D" (.double v)) :
    Go p e below s ({ frames := 0, cells := 0, slots := 0, locals := 0 } : Room).cells ({ frames := 0, cells := 0, slots := 0, locals := 0 } : Room).slots (fun r h L => r = some (.double (cW v w)) ∧ Fr n0 L ∧ h = h0) T0 (mkF m 0 #[.val (.ref a), .val (.double w), .second] []) := by
  show Go _ _ _ _ _ _ _ T0 (mkF m 0 #[.val (.ref a), .val (.double w), .second] [])
  refine Go.step (fun _ k => XS.aloadN X0.here hx rfl (hb hby d9_0) rfl rfl k) ?_
  show Go _ _ _ _ _ _ _ T0 (mkF m 1 #[.val (.ref a), .val (.double w), .second] [(.ref a)])
  obtain ⟨T1, X1, e1, st1⟩ := getF X0 hx hZ hown (host := "") (Or.inl (hw _ (List.mem_of_getElem? (i := 42) rfl))) Via.refl e0 F_a (g := (mkF m 1 #[.val (.ref a), .val (.double w), .second] [(.ref a)])) rfl rfl (hb hby d9_1)
  refine Go.step st1 ?_
  show Go _ _ _ _ _ _ _ T1 (mkF m 4 #[.val (.ref a), .val (.double w), .second] [(.double v)])
  refine Go.step (fun _ k => XS.dconst0 X1.here hx rfl (hb hby d9_4) rfl k) ?_
  show Go _ _ _ _ _ _ _ T1 (mkF m 5 #[.val (.ref a), .val (.double w), .second] [(.double (0 : UInt64)), (.double v)])
  refine Go.step (fun _ k => XS.dcmpS X1.here hx rfl (hb hby d9_5) rfl rfl k) ?_
  show Go _ _ _ _ _ _ _ T1 (mkF m 6 #[.val (.ref a), .val (.double w), .second] [(.int (cmpValue (FP.dcmp v (0 : UInt64)) .l))])
  by_cases hd6_2 : FP.dcmp v (0 : UInt64) = some .gt
  · refine Go.step (fun _ k => XS.ifNo X1.here hx rfl (hb hby d9_6) rfl (gt_y hd6_2) k) ?_
    show Go _ _ _ _ _ _ _ T1 (mkF m 9 #[.val (.ref a), .val (.double w), .second] [])
    refine Go.step (fun _ k => XS.aloadN X1.here hx rfl (hb hby d9_9) rfl rfl k) ?_
    show Go _ _ _ _ _ _ _ T1 (mkF m 10 #[.val (.ref a), .val (.double w), .second] [(.ref a)])
    obtain ⟨T3, X3, e3, st3⟩ := getF X1 hx hZ hown (host := "") (Or.inl (hw _ (List.mem_of_getElem? (i := 42) rfl))) Via.refl e1 F_a (g := (mkF m 10 #[.val (.ref a), .val (.double w), .second] [(.ref a)])) rfl rfl (hb hby d9_10)
    refine Go.step st3 ?_
    show Go _ _ _ _ _ _ _ T3 (mkF m 13 #[.val (.ref a), .val (.double w), .second] [(.double v)])
    refine Go.step (fun _ k => XS.goto X3.here hx rfl (pc0 := 13) (pc' := 17) rfl (hb hby d9_13) (by decide) (by decide) k) ?_
    show Go _ _ _ _ _ _ _ T3 (mkF m 17 #[.val (.ref a), .val (.double w), .second] [(.double v)])
    refine Go.retD X3 hx hlk hret (hb hby d9_17) (by decide) (by decide) ?_
    try rw [e3]
    exact ⟨by simp only [cW]; rw [if_pos hd6_2], N0, rfl⟩
  · refine Go.step (fun _ k => XS.ifYes X1.here hx rfl (pc0 := 6) (pc' := 16) rfl (hb hby d9_6) rfl (gt_n hd6_2) (by decide) (by decide) k) ?_
    show Go _ _ _ _ _ _ _ T1 (mkF m 16 #[.val (.ref a), .val (.double w), .second] [])
    refine Go.step (fun _ k => XS.dloadN X1.here hx rfl (hb hby d9_16) rfl k) ?_
    show Go _ _ _ _ _ _ _ T1 (mkF m 17 #[.val (.ref a), .val (.double w), .second] [(.double w)])
    refine Go.retD X1 hx hlk hret (hb hby d9_17) (by decide) (by decide) ?_
    try rw [e1]
    exact ⟨by simp only [cW]; rw [if_neg hd6_2], N0, rfl⟩
theorem ef_rm9 (m : MethodId) (a : Addr) (w : UInt64) : entryFrame m #[(.ref a), (.double w)] 3 = mkF m 0 #[.val (.ref a), .val (.double w), .second] [] := by first | (simp [entryFrame, mkF, argsToLocals, Value.category]; done) | rfl
theorem rm9 (l : Launch) (Z : State) (a0 : Array Value) (hw : ∀ d ∈ tables_1, d.before a0 Z = true) (a : Addr) (w v : UInt64) (h0 : Heap) (n0 : Nat) (Z0 : n0 ≤ h0.size) (F_a : Fld Z h0 a "tidewatch/decision/Snapshot$Instance" "countedSeconds" "D" (.double v)) :
    Con l Z (⟨"tidewatch/decision/Snapshot$Instance", "countedSecondsIn", "(D)D"⟩ : MethodName) prog_42_method_4_code 3 (some .double) ({ frames := 0, cells := 0, slots := 0, locals := 0 } : Room) #[(.ref a), (.double w)] h0 (fun r h L => r = some (.double (cW v w)) ∧ Fr n0 L ∧ h = h0) :=
  con_of (plainFor_of_name pn_6) (fun p_ e_ s_ m_ b_ meth_ c_ T_ X_ hx hZ hby hml hown hnm hret hlk e0 => Go.cast (ef_rm9 m_ a w) (w9 a w v X_ hx hZ hw hby hml hown hnm hret hlk e0 Z0 (Fr.nil n0) F_a))
theorem pd_5 : parseMethodDescriptor "(JJD)V" = some ⟨[.long, .long, .double], none⟩ := by decide +kernel
theorem pd_6 : parseMethodDescriptor "()Ljava/util/OptionalDouble;" = some ⟨[], some (.object "java/util/OptionalDouble")⟩ := by decide +kernel
theorem pd_7 : parseMethodDescriptor "(D)D" = some ⟨[.double], some .double⟩ := by decide +kernel
set_option maxRecDepth 65536 in
set_option maxHeartbeats 40000000 in
theorem w0 {p : Program} {l : Launch} {e : Env} {s : State} {m : MethodId} {args : Array Value} {below : List Frame} {meth : Method} {c_ : Code} {T0 : State} {locs : List Loc} {Z : State} {a0 : Array Value} {h0 : Heap} {n0 : Nat} (p0 p1 : Int64) (p2 p3 p4 p5 : Int32)
    (X0 : Stand p l e room_1 s m args below meth c_ T0 locs 0 0) (hx : p.tables.exec = Jvm.exec) (hZ : Z.Warmed39 s.vm) (hw : ∀ d ∈ tables_1, d.before a0 Z = true) (hby : c_.code = code) (hml : c_.maxLocals = maxLocals) (hown : s.vm.findClass "tidewatch/decision/InstanceCountedSecondsInPinLaw" = some m.cls) (hnm : meth.name = "law") (hret : meth.sig.returnType = ret) (hlk : meth.locks = false) (e0 : T0.heap = h0) (Z0 : n0 ≤ h0.size) (N0 : Fr n0 locs)  :
    Go p e below s room_1.cells room_1.slots (fun r h L => r = some (.int 1) ∧ Fr n0 L) T0 (mkF m 0 #[.val (.long p0), .second, .val (.long p1), .second, .val (.int p2), .val (.int p3), .val (.int p4), .val (.int p5), .unset, .unset, .unset, .unset, .unset, .unset, .unset, .unset, .unset, .unset, .unset, .unset] []) := by
  have hret : meth.sig.returnType = some .boolean := hret
  show Go _ _ _ _ _ _ _ T0 (mkF m 0 #[.val (.long p0), .second, .val (.long p1), .second, .val (.int p2), .val (.int p3), .val (.int p4), .val (.int p5), .unset, .unset, .unset, .unset, .unset, .unset, .unset, .unset, .unset, .unset, .unset, .unset] [])
  refine Go.step (fun _ k => XS.iload X0.here hx rfl (hb hby at_0) rfl k) ?_
  show Go _ _ _ _ _ _ _ T0 (mkF m 2 #[.val (.long p0), .second, .val (.long p1), .second, .val (.int p2), .val (.int p3), .val (.int p4), .val (.int p5), .unset, .unset, .unset, .unset, .unset, .unset, .unset, .unset, .unset, .unset, .unset, .unset] [(.int p4)])
  refine Go.step (fun _ k => XS.i2dS X0.here hx rfl (hb hby at_2) rfl rfl k) ?_
  show Go _ _ _ _ _ _ _ T0 (mkF m 3 #[.val (.long p0), .second, .val (.long p1), .second, .val (.int p2), .val (.int p3), .val (.int p4), .val (.int p5), .unset, .unset, .unset, .unset, .unset, .unset, .unset, .unset, .unset, .unset, .unset, .unset] [(.double (FP.i2d p4))])
  refine Go.step (X0.ldc2DoubleC hx hown (mvT hZ (hw _ (List.mem_of_getElem? (i := 0) rfl))) (g := (mkF m 3 #[.val (.long p0), .second, .val (.long p1), .second, .val (.int p2), .val (.int p3), .val (.int p4), .val (.int p5), .unset, .unset, .unset, .unset, .unset, .unset, .unset, .unset, .unset, .unset, .unset, .unset] [(.double (FP.i2d p4))])) rfl (hb hby at_3)) ?_
  show Go _ _ _ _ _ _ _ T0 (mkF m 6 #[.val (.long p0), .second, .val (.long p1), .second, .val (.int p2), .val (.int p3), .val (.int p4), .val (.int p5), .unset, .unset, .unset, .unset, .unset, .unset, .unset, .unset, .unset, .unset, .unset, .unset] [(.double (4616189618054758400 : UInt64)), (.double (FP.i2d p4))])
  refine Go.step (fun _ k => XS.ddivS X0.here hx rfl (hb hby at_6) rfl (Jvm.Free.Fl.ddiv_out (Jvm.Free.Fl.i2d_fin _).noNaN (by first | decide +kernel | (unfold Jvm.Free.Fl.Fin64; decide +kernel) | (unfold Jvm.Free.Fl.Nz64; decide +kernel) | (unfold Jvm.Free.Fl.NoNaN64; decide +kernel) : Jvm.Free.Fl.Fin64 4616189618054758400) (by first | decide +kernel | (unfold Jvm.Free.Fl.Fin64; decide +kernel) | (unfold Jvm.Free.Fl.Nz64; decide +kernel) | (unfold Jvm.Free.Fl.NoNaN64; decide +kernel))) rfl k) ?_
  show Go _ _ _ _ _ _ _ T0 (mkF m 7 #[.val (.long p0), .second, .val (.long p1), .second, .val (.int p2), .val (.int p3), .val (.int p4), .val (.int p5), .unset, .unset, .unset, .unset, .unset, .unset, .unset, .unset, .unset, .unset, .unset, .unset] [(.double (FP.ddiv (FP.i2d p4) (4616189618054758400 : UInt64)))])
  refine Go.step (fun _ k => XS.dstore X0.here hx rfl (hb hby at_7) rfl (l' := #[.val (.long p0), .second, .val (.long p1), .second, .val (.int p2), .val (.int p3), .val (.int p4), .val (.int p5), .val (.double (FP.ddiv (FP.i2d p4) (4616189618054758400 : UInt64))), .second, .unset, .unset, .unset, .unset, .unset, .unset, .unset, .unset, .unset, .unset]) rfl k) ?_
  show Go _ _ _ _ _ _ _ T0 (mkF m 9 #[.val (.long p0), .second, .val (.long p1), .second, .val (.int p2), .val (.int p3), .val (.int p4), .val (.int p5), .val (.double (FP.ddiv (FP.i2d p4) (4616189618054758400 : UInt64))), .second, .unset, .unset, .unset, .unset, .unset, .unset, .unset, .unset, .unset, .unset] [])
  refine Go.step (fun _ k => XS.iload X0.here hx rfl (hb hby at_9) rfl k) ?_
  show Go _ _ _ _ _ _ _ T0 (mkF m 11 #[.val (.long p0), .second, .val (.long p1), .second, .val (.int p2), .val (.int p3), .val (.int p4), .val (.int p5), .val (.double (FP.ddiv (FP.i2d p4) (4616189618054758400 : UInt64))), .second, .unset, .unset, .unset, .unset, .unset, .unset, .unset, .unset, .unset, .unset] [(.int p2)])
  refine Go.step (fun _ k => XS.i2dS X0.here hx rfl (hb hby at_11) rfl rfl k) ?_
  show Go _ _ _ _ _ _ _ T0 (mkF m 12 #[.val (.long p0), .second, .val (.long p1), .second, .val (.int p2), .val (.int p3), .val (.int p4), .val (.int p5), .val (.double (FP.ddiv (FP.i2d p4) (4616189618054758400 : UInt64))), .second, .unset, .unset, .unset, .unset, .unset, .unset, .unset, .unset, .unset, .unset] [(.double (FP.i2d p2))])
  refine Go.step (fun _ k => XS.dstore X0.here hx rfl (hb hby at_12) rfl (l' := #[.val (.long p0), .second, .val (.long p1), .second, .val (.int p2), .val (.int p3), .val (.int p4), .val (.int p5), .val (.double (FP.ddiv (FP.i2d p4) (4616189618054758400 : UInt64))), .second, .val (.double (FP.i2d p2)), .second, .unset, .unset, .unset, .unset, .unset, .unset, .unset, .unset]) rfl k) ?_
  show Go _ _ _ _ _ _ _ T0 (mkF m 14 #[.val (.long p0), .second, .val (.long p1), .second, .val (.int p2), .val (.int p3), .val (.int p4), .val (.int p5), .val (.double (FP.ddiv (FP.i2d p4) (4616189618054758400 : UInt64))), .second, .val (.double (FP.i2d p2)), .second, .unset, .unset, .unset, .unset, .unset, .unset, .unset, .unset] [])
  obtain ⟨T1, h1, X1, e1, E1, A1, D1, -, st1⟩ := newO X0 hx hZ hown (hw _ (List.mem_of_getElem? (i := 1) rfl)) (hw _ (List.mem_of_getElem? (i := 2) rfl)) (hw _ (List.mem_of_getElem? (i := 3) rfl)) e0 (g := (mkF m 14 #[.val (.long p0), .second, .val (.long p1), .second, .val (.int p2), .val (.int p3), .val (.int p4), .val (.int p5), .val (.double (FP.ddiv (FP.i2d p4) (4616189618054758400 : UInt64))), .second, .val (.double (FP.i2d p2)), .second, .unset, .unset, .unset, .unset, .unset, .unset, .unset, .unset] [])) rfl (hb hby at_14) (by decide) (by decide)
  obtain ⟨b1, g1⟩ : ∃ z, z = h0.size := ⟨_, rfl⟩
  rw [← g1] at A1 D1 st1
  refine Go.step st1 ?_
  have K1 : Keep h0 h1 [] := (Keep.refl h0 []).ext E1
  have sz_b1 : h0.size ≤ b1 := Nat.le_trans ((Keep.refl h0 []) : Keep h0 h0 []).1 (Nat.le_of_eq g1.symm)
  have ge_b1 : n0 ≤ b1 := Nat.le_trans Z0 sz_b1
  have E_b1 := A1
  have F_recordsIn_b1 : Fld Z h1 b1 "tidewatch/decision/Snapshot$Instance" "recordsIn" "J" (.long (0 : Int64)) := D1 (Or.inr (hw _ (List.mem_of_getElem? (i := 37) rfl))) (ty := .long) (by decide)
  have F_recordsOut_b1 : Fld Z h1 b1 "tidewatch/decision/Snapshot$Instance" "recordsOut" "J" (.long (0 : Int64)) := D1 (Or.inr (hw _ (List.mem_of_getElem? (i := 39) rfl))) (ty := .long) (by decide)
  have F_usefulSeconds_b1 : Fld Z h1 b1 "tidewatch/decision/Snapshot$Instance" "usefulSeconds" "Ljava/util/OptionalDouble;" .null := D1 (Or.inr (hw _ (List.mem_of_getElem? (i := 41) rfl))) (ty := (.object "java/util/OptionalDouble")) (by decide)
  have F_countedSeconds_b1 : Fld Z h1 b1 "tidewatch/decision/Snapshot$Instance" "countedSeconds" "D" (.double (0 : UInt64)) := D1 (Or.inr (hw _ (List.mem_of_getElem? (i := 43) rfl))) (ty := .double) (by decide)
  show Go _ _ _ _ _ _ _ T1 (mkF m 17 #[.val (.long p0), .second, .val (.long p1), .second, .val (.int p2), .val (.int p3), .val (.int p4), .val (.int p5), .val (.double (FP.ddiv (FP.i2d p4) (4616189618054758400 : UInt64))), .second, .val (.double (FP.i2d p2)), .second, .unset, .unset, .unset, .unset, .unset, .unset, .unset, .unset] [(.ref b1)])
  refine Go.step (fun _ k => XS.dup X1.here hx rfl (hb hby at_17) rfl rfl k) ?_
  show Go _ _ _ _ _ _ _ T1 (mkF m 18 #[.val (.long p0), .second, .val (.long p1), .second, .val (.int p2), .val (.int p3), .val (.int p4), .val (.int p5), .val (.double (FP.ddiv (FP.i2d p4) (4616189618054758400 : UInt64))), .second, .val (.double (FP.i2d p2)), .second, .unset, .unset, .unset, .unset, .unset, .unset, .unset, .unset] [(.ref b1), (.ref b1)])
  refine Go.step (fun _ k => XS.lloadN X1.here hx rfl (hb hby at_18) rfl k) ?_
  show Go _ _ _ _ _ _ _ T1 (mkF m 19 #[.val (.long p0), .second, .val (.long p1), .second, .val (.int p2), .val (.int p3), .val (.int p4), .val (.int p5), .val (.double (FP.ddiv (FP.i2d p4) (4616189618054758400 : UInt64))), .second, .val (.double (FP.i2d p2)), .second, .unset, .unset, .unset, .unset, .unset, .unset, .unset, .unset] [(.long p0), (.ref b1), (.ref b1)])
  refine Go.step (fun _ k => XS.lloadN X1.here hx rfl (hb hby at_19) rfl k) ?_
  show Go _ _ _ _ _ _ _ T1 (mkF m 20 #[.val (.long p0), .second, .val (.long p1), .second, .val (.int p2), .val (.int p3), .val (.int p4), .val (.int p5), .val (.double (FP.ddiv (FP.i2d p4) (4616189618054758400 : UInt64))), .second, .val (.double (FP.i2d p2)), .second, .unset, .unset, .unset, .unset, .unset, .unset, .unset, .unset] [(.long p1), (.long p0), (.ref b1), (.ref b1)])
  refine Go.step (fun _ k => XS.dload X1.here hx rfl (hb hby at_20) rfl k) ?_
  show Go _ _ _ _ _ _ _ T1 (mkF m 22 #[.val (.long p0), .second, .val (.long p1), .second, .val (.int p2), .val (.int p3), .val (.int p4), .val (.int p5), .val (.double (FP.ddiv (FP.i2d p4) (4616189618054758400 : UInt64))), .second, .val (.double (FP.i2d p2)), .second, .unset, .unset, .unset, .unset, .unset, .unset, .unset, .unset] [(.double (FP.i2d p2)), (.long p1), (.long p0), (.ref b1), (.ref b1)])
  refine Go.callI X1 hx hZ (by rw [hml]; rfl) (y := (⟨"tidewatch/decision/Snapshot$Instance", "<init>", "(JJD)V"⟩ : MethodName)) (a := b1) (argsL := [(.long p0), (.long p1), (.double (FP.i2d p2))]) (rest := [(.ref b1)]) rfl hown (hw _ (List.mem_of_getElem? (i := 4) rfl)) (hw _ (List.mem_of_getElem? (i := 5) rfl)) (hw _ (List.mem_of_getElem? (i := 3) rfl)) (hw _ (List.mem_of_getElem? (i := 6) rfl)) (by decide) (rm1 l Z a0 hw b1 p0 p1 (FP.i2d p2) h1 n0 (Nat.le_trans Z0 (K1 : Keep h0 h1 []).1) E_b1 F_recordsIn_b1 F_recordsOut_b1 F_usefulSeconds_b1 F_countedSeconds_b1 ge_b1) e1 (hb hby at_22) (lenOf pd_5 rfl) rfl rfl (W := 1) (Nat.le_of_eq rfl) (by decide) (by decide) (by decide) (by decide) ?_
  intro v2 T2 L2 X2 Q2
  obtain ⟨rfl, N2q, Kc2, Ec2, Fc2, u2, Fu2⟩ := Q2
  have N2 := Fr.app N0 N2q
  have E_b1_2 := E_b1.keep Kc2
  have KK2 : Keep h0 T2.heap [] := (K1 : Keep h0 h1 []).trans Kc2 (allS (Or.inr sz_b1) all0)
  show Go _ _ _ _ _ _ _ T2 (mkF m 25 #[.val (.long p0), .second, .val (.long p1), .second, .val (.int p2), .val (.int p3), .val (.int p4), .val (.int p5), .val (.double (FP.ddiv (FP.i2d p4) (4616189618054758400 : UInt64))), .second, .val (.double (FP.i2d p2)), .second, .unset, .unset, .unset, .unset, .unset, .unset, .unset, .unset] [(.ref b1)])
  refine Go.step (fun _ k => XS.astore X2.here hx rfl (hb hby at_25) rfl rfl (l' := #[.val (.long p0), .second, .val (.long p1), .second, .val (.int p2), .val (.int p3), .val (.int p4), .val (.int p5), .val (.double (FP.ddiv (FP.i2d p4) (4616189618054758400 : UInt64))), .second, .val (.double (FP.i2d p2)), .second, .val (.ref b1), .unset, .unset, .unset, .unset, .unset, .unset, .unset]) rfl k) ?_
  show Go _ _ _ _ _ _ _ T2 (mkF m 27 #[.val (.long p0), .second, .val (.long p1), .second, .val (.int p2), .val (.int p3), .val (.int p4), .val (.int p5), .val (.double (FP.ddiv (FP.i2d p4) (4616189618054758400 : UInt64))), .second, .val (.double (FP.i2d p2)), .second, .val (.ref b1), .unset, .unset, .unset, .unset, .unset, .unset, .unset] [])
  refine Go.step (fun _ k => XS.iload X2.here hx rfl (hb hby at_27) rfl k) ?_
  show Go _ _ _ _ _ _ _ T2 (mkF m 29 #[.val (.long p0), .second, .val (.long p1), .second, .val (.int p2), .val (.int p3), .val (.int p4), .val (.int p5), .val (.double (FP.ddiv (FP.i2d p4) (4616189618054758400 : UInt64))), .second, .val (.double (FP.i2d p2)), .second, .val (.ref b1), .unset, .unset, .unset, .unset, .unset, .unset, .unset] [(.int p3)])
  refine Go.step (X2.ldcInt hx hown (mvT hZ (hw _ (List.mem_of_getElem? (i := 44) rfl))) (g := (mkF m 29 #[.val (.long p0), .second, .val (.long p1), .second, .val (.int p2), .val (.int p3), .val (.int p4), .val (.int p5), .val (.double (FP.ddiv (FP.i2d p4) (4616189618054758400 : UInt64))), .second, .val (.double (FP.i2d p2)), .second, .val (.ref b1), .unset, .unset, .unset, .unset, .unset, .unset, .unset] [(.int p3)])) rfl (hb hby at_29)) ?_
  show Go _ _ _ _ _ _ _ T2 (mkF m 31 #[.val (.long p0), .second, .val (.long p1), .second, .val (.int p2), .val (.int p3), .val (.int p4), .val (.int p5), .val (.double (FP.ddiv (FP.i2d p4) (4616189618054758400 : UInt64))), .second, .val (.double (FP.i2d p2)), .second, .val (.ref b1), .unset, .unset, .unset, .unset, .unset, .unset, .unset] [(.int (2147483647 : Int32)), (.int p3)])
  refine Go.step (fun _ k => XS.iand X2.here hx rfl (hb hby at_31) rfl k) ?_
  show Go _ _ _ _ _ _ _ T2 (mkF m 32 #[.val (.long p0), .second, .val (.long p1), .second, .val (.int p2), .val (.int p3), .val (.int p4), .val (.int p5), .val (.double (FP.ddiv (FP.i2d p4) (4616189618054758400 : UInt64))), .second, .val (.double (FP.i2d p2)), .second, .val (.ref b1), .unset, .unset, .unset, .unset, .unset, .unset, .unset] [(.int (p3 &&& (2147483647 : Int32)))])
  refine Go.step (fun _ k => XS.istore X2.here hx rfl (hb hby at_32) rfl (l' := #[.val (.long p0), .second, .val (.long p1), .second, .val (.int p2), .val (.int p3), .val (.int p4), .val (.int p5), .val (.double (FP.ddiv (FP.i2d p4) (4616189618054758400 : UInt64))), .second, .val (.double (FP.i2d p2)), .second, .val (.ref b1), .val (.int (p3 &&& (2147483647 : Int32))), .unset, .unset, .unset, .unset, .unset, .unset]) rfl k) ?_
  show Go _ _ _ _ _ _ _ T2 (mkF m 34 #[.val (.long p0), .second, .val (.long p1), .second, .val (.int p2), .val (.int p3), .val (.int p4), .val (.int p5), .val (.double (FP.ddiv (FP.i2d p4) (4616189618054758400 : UInt64))), .second, .val (.double (FP.i2d p2)), .second, .val (.ref b1), .val (.int (p3 &&& (2147483647 : Int32))), .unset, .unset, .unset, .unset, .unset, .unset] [])
  refine Go.step (fun _ k => XS.iload X2.here hx rfl (hb hby at_34) rfl k) ?_
  show Go _ _ _ _ _ _ _ T2 (mkF m 36 #[.val (.long p0), .second, .val (.long p1), .second, .val (.int p2), .val (.int p3), .val (.int p4), .val (.int p5), .val (.double (FP.ddiv (FP.i2d p4) (4616189618054758400 : UInt64))), .second, .val (.double (FP.i2d p2)), .second, .val (.ref b1), .val (.int (p3 &&& (2147483647 : Int32))), .unset, .unset, .unset, .unset, .unset, .unset] [(.int p5)])
  refine Go.step (fun _ k => XS.iconst X2.here hx rfl (hb hby at_36) k) ?_
  show Go _ _ _ _ _ _ _ T2 (mkF m 37 #[.val (.long p0), .second, .val (.long p1), .second, .val (.int p2), .val (.int p3), .val (.int p4), .val (.int p5), .val (.double (FP.ddiv (FP.i2d p4) (4616189618054758400 : UInt64))), .second, .val (.double (FP.i2d p2)), .second, .val (.ref b1), .val (.int (p3 &&& (2147483647 : Int32))), .unset, .unset, .unset, .unset, .unset, .unset] [(.int (1 : Int32)), (.int p5)])
  refine Go.step (fun _ k => XS.iand X2.here hx rfl (hb hby at_37) rfl k) ?_
  show Go _ _ _ _ _ _ _ T2 (mkF m 38 #[.val (.long p0), .second, .val (.long p1), .second, .val (.int p2), .val (.int p3), .val (.int p4), .val (.int p5), .val (.double (FP.ddiv (FP.i2d p4) (4616189618054758400 : UInt64))), .second, .val (.double (FP.i2d p2)), .second, .val (.ref b1), .val (.int (p3 &&& (2147483647 : Int32))), .unset, .unset, .unset, .unset, .unset, .unset] [(.int (p5 &&& (1 : Int32)))])
  by_cases hc38_3 : (p5 &&& (1 : Int32)) = (0 : Int32)
  · refine Go.step (fun _ k => XS.ifNo X2.here hx rfl (hb hby at_38) rfl ((if0 _ _).trans (teq hc38_3).2) k) ?_
    show Go _ _ _ _ _ _ _ T2 (mkF m 41 #[.val (.long p0), .second, .val (.long p1), .second, .val (.int p2), .val (.int p3), .val (.int p4), .val (.int p5), .val (.double (FP.ddiv (FP.i2d p4) (4616189618054758400 : UInt64))), .second, .val (.double (FP.i2d p2)), .second, .val (.ref b1), .val (.int (p3 &&& (2147483647 : Int32))), .unset, .unset, .unset, .unset, .unset, .unset] [])
    refine Go.step (fun _ k => XS.iload X2.here hx rfl (hb hby at_41) rfl k) ?_
    show Go _ _ _ _ _ _ _ T2 (mkF m 43 #[.val (.long p0), .second, .val (.long p1), .second, .val (.int p2), .val (.int p3), .val (.int p4), .val (.int p5), .val (.double (FP.ddiv (FP.i2d p4) (4616189618054758400 : UInt64))), .second, .val (.double (FP.i2d p2)), .second, .val (.ref b1), .val (.int (p3 &&& (2147483647 : Int32))), .unset, .unset, .unset, .unset, .unset, .unset] [(.int (p3 &&& (2147483647 : Int32)))])
    by_cases hc43_4 : (p3 &&& (2147483647 : Int32)) = (0 : Int32)
    · refine Go.step (fun _ k => XS.ifNo X2.here hx rfl (hb hby at_43) rfl ((if0 _ _).trans (teq hc43_4).2) k) ?_
      show Go _ _ _ _ _ _ _ T2 (mkF m 46 #[.val (.long p0), .second, .val (.long p1), .second, .val (.int p2), .val (.int p3), .val (.int p4), .val (.int p5), .val (.double (FP.ddiv (FP.i2d p4) (4616189618054758400 : UInt64))), .second, .val (.double (FP.i2d p2)), .second, .val (.ref b1), .val (.int (p3 &&& (2147483647 : Int32))), .unset, .unset, .unset, .unset, .unset, .unset] [])
      refine Go.step (fun _ k => XS.iconst X2.here hx rfl (hb hby at_46) k) ?_
      show Go _ _ _ _ _ _ _ T2 (mkF m 47 #[.val (.long p0), .second, .val (.long p1), .second, .val (.int p2), .val (.int p3), .val (.int p4), .val (.int p5), .val (.double (FP.ddiv (FP.i2d p4) (4616189618054758400 : UInt64))), .second, .val (.double (FP.i2d p2)), .second, .val (.ref b1), .val (.int (p3 &&& (2147483647 : Int32))), .unset, .unset, .unset, .unset, .unset, .unset] [(.int (1 : Int32))])
      refine Go.step (fun _ k => XS.goto X2.here hx rfl (pc0 := 47) (pc' := 51) rfl (hb hby at_47) (by decide) (by decide) k) ?_
      show Go _ _ _ _ _ _ _ T2 (mkF m 51 #[.val (.long p0), .second, .val (.long p1), .second, .val (.int p2), .val (.int p3), .val (.int p4), .val (.int p5), .val (.double (FP.ddiv (FP.i2d p4) (4616189618054758400 : UInt64))), .second, .val (.double (FP.i2d p2)), .second, .val (.ref b1), .val (.int (p3 &&& (2147483647 : Int32))), .unset, .unset, .unset, .unset, .unset, .unset] [(.int (1 : Int32))])
      refine Go.step (fun _ k => XS.istore X2.here hx rfl (hb hby at_51) rfl (l' := #[.val (.long p0), .second, .val (.long p1), .second, .val (.int p2), .val (.int p3), .val (.int p4), .val (.int p5), .val (.double (FP.ddiv (FP.i2d p4) (4616189618054758400 : UInt64))), .second, .val (.double (FP.i2d p2)), .second, .val (.ref b1), .val (.int (p3 &&& (2147483647 : Int32))), .val (.int (1 : Int32)), .unset, .unset, .unset, .unset, .unset]) rfl k) ?_
      show Go _ _ _ _ _ _ _ T2 (mkF m 53 #[.val (.long p0), .second, .val (.long p1), .second, .val (.int p2), .val (.int p3), .val (.int p4), .val (.int p5), .val (.double (FP.ddiv (FP.i2d p4) (4616189618054758400 : UInt64))), .second, .val (.double (FP.i2d p2)), .second, .val (.ref b1), .val (.int (p3 &&& (2147483647 : Int32))), .val (.int (1 : Int32)), .unset, .unset, .unset, .unset, .unset] [])
      refine Go.step (fun _ k => XS.iload X2.here hx rfl (hb hby at_53) rfl k) ?_
      show Go _ _ _ _ _ _ _ T2 (mkF m 55 #[.val (.long p0), .second, .val (.long p1), .second, .val (.int p2), .val (.int p3), .val (.int p4), .val (.int p5), .val (.double (FP.ddiv (FP.i2d p4) (4616189618054758400 : UInt64))), .second, .val (.double (FP.i2d p2)), .second, .val (.ref b1), .val (.int (p3 &&& (2147483647 : Int32))), .val (.int (1 : Int32)), .unset, .unset, .unset, .unset, .unset] [(.int (1 : Int32))])
      refine Go.step (fun _ k => XS.ifNo X2.here hx rfl (hb hby at_55) rfl ((if0 _ _).trans (feq (by decide : ¬ ((1 : Int32) = (0 : Int32)))).1) k) ?_
      show Go _ _ _ _ _ _ _ T2 (mkF m 58 #[.val (.long p0), .second, .val (.long p1), .second, .val (.int p2), .val (.int p3), .val (.int p4), .val (.int p5), .val (.double (FP.ddiv (FP.i2d p4) (4616189618054758400 : UInt64))), .second, .val (.double (FP.i2d p2)), .second, .val (.ref b1), .val (.int (p3 &&& (2147483647 : Int32))), .val (.int (1 : Int32)), .unset, .unset, .unset, .unset, .unset] [])
      refine Go.step (fun _ k => XS.dconst0 X2.here hx rfl (hb hby at_58) rfl k) ?_
      show Go _ _ _ _ _ _ _ T2 (mkF m 59 #[.val (.long p0), .second, .val (.long p1), .second, .val (.int p2), .val (.int p3), .val (.int p4), .val (.int p5), .val (.double (FP.ddiv (FP.i2d p4) (4616189618054758400 : UInt64))), .second, .val (.double (FP.i2d p2)), .second, .val (.ref b1), .val (.int (p3 &&& (2147483647 : Int32))), .val (.int (1 : Int32)), .unset, .unset, .unset, .unset, .unset] [(.double (0 : UInt64))])
      refine Go.step (fun _ k => XS.goto X2.here hx rfl (pc0 := 59) (pc' := 69) rfl (hb hby at_59) (by decide) (by decide) k) ?_
      show Go _ _ _ _ _ _ _ T2 (mkF m 69 #[.val (.long p0), .second, .val (.long p1), .second, .val (.int p2), .val (.int p3), .val (.int p4), .val (.int p5), .val (.double (FP.ddiv (FP.i2d p4) (4616189618054758400 : UInt64))), .second, .val (.double (FP.i2d p2)), .second, .val (.ref b1), .val (.int (p3 &&& (2147483647 : Int32))), .val (.int (1 : Int32)), .unset, .unset, .unset, .unset, .unset] [(.double (0 : UInt64))])
      refine Go.step (fun _ k => XS.dstore X2.here hx rfl (hb hby at_69) rfl (l' := #[.val (.long p0), .second, .val (.long p1), .second, .val (.int p2), .val (.int p3), .val (.int p4), .val (.int p5), .val (.double (FP.ddiv (FP.i2d p4) (4616189618054758400 : UInt64))), .second, .val (.double (FP.i2d p2)), .second, .val (.ref b1), .val (.int (p3 &&& (2147483647 : Int32))), .val (.int (1 : Int32)), .val (.double (0 : UInt64)), .second, .unset, .unset, .unset]) rfl k) ?_
      show Go _ _ _ _ _ _ _ T2 (mkF m 71 #[.val (.long p0), .second, .val (.long p1), .second, .val (.int p2), .val (.int p3), .val (.int p4), .val (.int p5), .val (.double (FP.ddiv (FP.i2d p4) (4616189618054758400 : UInt64))), .second, .val (.double (FP.i2d p2)), .second, .val (.ref b1), .val (.int (p3 &&& (2147483647 : Int32))), .val (.int (1 : Int32)), .val (.double (0 : UInt64)), .second, .unset, .unset, .unset] [])
      obtain ⟨T5, h5, X5, e5, E5, A5, D5, -, st5⟩ := newO X2 hx hZ hown (hw _ (List.mem_of_getElem? (i := 1) rfl)) (hw _ (List.mem_of_getElem? (i := 2) rfl)) (hw _ (List.mem_of_getElem? (i := 3) rfl)) rfl (g := (mkF m 71 #[.val (.long p0), .second, .val (.long p1), .second, .val (.int p2), .val (.int p3), .val (.int p4), .val (.int p5), .val (.double (FP.ddiv (FP.i2d p4) (4616189618054758400 : UInt64))), .second, .val (.double (FP.i2d p2)), .second, .val (.ref b1), .val (.int (p3 &&& (2147483647 : Int32))), .val (.int (1 : Int32)), .val (.double (0 : UInt64)), .second, .unset, .unset, .unset] [])) rfl (hb hby at_71) (by decide) (by decide)
      obtain ⟨b5, g5⟩ : ∃ z, z = T2.heap.size := ⟨_, rfl⟩
      rw [← g5] at A5 D5 st5
      refine Go.step st5 ?_
      have K5 : Keep h0 h5 [] := KK2.ext E5
      have sz_b5 : h0.size ≤ b5 := Nat.le_trans (KK2 : Keep h0 T2.heap []).1 (Nat.le_of_eq g5.symm)
      have ge_b5 : n0 ≤ b5 := Nat.le_trans Z0 sz_b5
      have ne_b1_b5 : b1 ≠ b5 := Nat.ne_of_lt (Nat.lt_of_lt_of_le Ec2.lt (Nat.le_of_eq g5.symm))
      have Ec2_5 := Ec2.ext E5
      have Fc2_5 := Fc2.ext E5
      have Fu2_5 := Fu2.ext E5
      have E_b5 := A5
      have F_recordsIn_b5 : Fld Z h5 b5 "tidewatch/decision/Snapshot$Instance" "recordsIn" "J" (.long (0 : Int64)) := D5 (Or.inr (hw _ (List.mem_of_getElem? (i := 37) rfl))) (ty := .long) (by decide)
      have F_recordsOut_b5 : Fld Z h5 b5 "tidewatch/decision/Snapshot$Instance" "recordsOut" "J" (.long (0 : Int64)) := D5 (Or.inr (hw _ (List.mem_of_getElem? (i := 39) rfl))) (ty := .long) (by decide)
      have F_usefulSeconds_b5 : Fld Z h5 b5 "tidewatch/decision/Snapshot$Instance" "usefulSeconds" "Ljava/util/OptionalDouble;" .null := D5 (Or.inr (hw _ (List.mem_of_getElem? (i := 41) rfl))) (ty := (.object "java/util/OptionalDouble")) (by decide)
      have F_countedSeconds_b5 : Fld Z h5 b5 "tidewatch/decision/Snapshot$Instance" "countedSeconds" "D" (.double (0 : UInt64)) := D5 (Or.inr (hw _ (List.mem_of_getElem? (i := 43) rfl))) (ty := .double) (by decide)
      show Go _ _ _ _ _ _ _ T5 (mkF m 74 #[.val (.long p0), .second, .val (.long p1), .second, .val (.int p2), .val (.int p3), .val (.int p4), .val (.int p5), .val (.double (FP.ddiv (FP.i2d p4) (4616189618054758400 : UInt64))), .second, .val (.double (FP.i2d p2)), .second, .val (.ref b1), .val (.int (p3 &&& (2147483647 : Int32))), .val (.int (1 : Int32)), .val (.double (0 : UInt64)), .second, .unset, .unset, .unset] [(.ref b5)])
      refine Go.step (fun _ k => XS.dup X5.here hx rfl (hb hby at_74) rfl rfl k) ?_
      show Go _ _ _ _ _ _ _ T5 (mkF m 75 #[.val (.long p0), .second, .val (.long p1), .second, .val (.int p2), .val (.int p3), .val (.int p4), .val (.int p5), .val (.double (FP.ddiv (FP.i2d p4) (4616189618054758400 : UInt64))), .second, .val (.double (FP.i2d p2)), .second, .val (.ref b1), .val (.int (p3 &&& (2147483647 : Int32))), .val (.int (1 : Int32)), .val (.double (0 : UInt64)), .second, .unset, .unset, .unset] [(.ref b5), (.ref b5)])
      refine Go.step (fun _ k => XS.lloadN X5.here hx rfl (hb hby at_75) rfl k) ?_
      show Go _ _ _ _ _ _ _ T5 (mkF m 76 #[.val (.long p0), .second, .val (.long p1), .second, .val (.int p2), .val (.int p3), .val (.int p4), .val (.int p5), .val (.double (FP.ddiv (FP.i2d p4) (4616189618054758400 : UInt64))), .second, .val (.double (FP.i2d p2)), .second, .val (.ref b1), .val (.int (p3 &&& (2147483647 : Int32))), .val (.int (1 : Int32)), .val (.double (0 : UInt64)), .second, .unset, .unset, .unset] [(.long p0), (.ref b5), (.ref b5)])
      refine Go.step (fun _ k => XS.lloadN X5.here hx rfl (hb hby at_76) rfl k) ?_
      show Go _ _ _ _ _ _ _ T5 (mkF m 77 #[.val (.long p0), .second, .val (.long p1), .second, .val (.int p2), .val (.int p3), .val (.int p4), .val (.int p5), .val (.double (FP.ddiv (FP.i2d p4) (4616189618054758400 : UInt64))), .second, .val (.double (FP.i2d p2)), .second, .val (.ref b1), .val (.int (p3 &&& (2147483647 : Int32))), .val (.int (1 : Int32)), .val (.double (0 : UInt64)), .second, .unset, .unset, .unset] [(.long p1), (.long p0), (.ref b5), (.ref b5)])
      refine Go.step (fun _ k => XS.aload X5.here hx rfl (hb hby at_77) rfl rfl k) ?_
      show Go _ _ _ _ _ _ _ T5 (mkF m 79 #[.val (.long p0), .second, .val (.long p1), .second, .val (.int p2), .val (.int p3), .val (.int p4), .val (.int p5), .val (.double (FP.ddiv (FP.i2d p4) (4616189618054758400 : UInt64))), .second, .val (.double (FP.i2d p2)), .second, .val (.ref b1), .val (.int (p3 &&& (2147483647 : Int32))), .val (.int (1 : Int32)), .val (.double (0 : UInt64)), .second, .unset, .unset, .unset] [(.ref b1), (.long p1), (.long p0), (.ref b5), (.ref b5)])
      refine Go.callV X5 hx hZ (by rw [hml]; rfl) (y := (⟨"tidewatch/decision/Snapshot$Instance", "usefulSeconds", "()Ljava/util/OptionalDouble;"⟩ : MethodName)) (z := (⟨"tidewatch/decision/Snapshot$Instance", "usefulSeconds", "()Ljava/util/OptionalDouble;"⟩ : MethodName)) (a := b1) (argsL := []) (rest := [(.long p1), (.long p0), (.ref b5), (.ref b5)]) hown (hw _ (List.mem_of_getElem? (i := 46) rfl)) (hw _ (List.mem_of_getElem? (i := 47) rfl)) (notFace_of_selects (args := #[]) (mvT hZ (hw _ (List.mem_of_getElem? (i := 49) rfl)))) (hw _ (List.mem_of_getElem? (i := 49) rfl)) (hw _ (List.mem_of_getElem? (i := 48) rfl)) (hw _ (List.mem_of_getElem? (i := 3) rfl)) (hw _ (List.mem_of_getElem? (i := 50) rfl)) (by decide) (rm8 l Z a0 hw b1 u2 h5 n0 (Nat.le_trans Z0 (K5 : Keep h0 h5 []).1) Fu2_5) e5 Ec2_5 (hb hby at_79) (lenOf pd_6 rfl) rfl rfl (W := 6) (Nat.le_of_eq rfl) (by decide) (by decide) (by decide) (by decide) ?_
      intro v6 T6 L6 X6 Q6
      obtain ⟨rfl, N6q, hh6⟩ := Q6
      have N6 := Fr.app N2 N6q
      show Go _ _ _ _ _ _ _ T6 (mkF m 82 #[.val (.long p0), .second, .val (.long p1), .second, .val (.int p2), .val (.int p3), .val (.int p4), .val (.int p5), .val (.double (FP.ddiv (FP.i2d p4) (4616189618054758400 : UInt64))), .second, .val (.double (FP.i2d p2)), .second, .val (.ref b1), .val (.int (p3 &&& (2147483647 : Int32))), .val (.int (1 : Int32)), .val (.double (0 : UInt64)), .second, .unset, .unset, .unset] [(.ref u2), (.long p1), (.long p0), (.ref b5), (.ref b5)])
      refine Go.step (fun _ k => XS.dload X6.here hx rfl (hb hby at_82) rfl k) ?_
      show Go _ _ _ _ _ _ _ T6 (mkF m 84 #[.val (.long p0), .second, .val (.long p1), .second, .val (.int p2), .val (.int p3), .val (.int p4), .val (.int p5), .val (.double (FP.ddiv (FP.i2d p4) (4616189618054758400 : UInt64))), .second, .val (.double (FP.i2d p2)), .second, .val (.ref b1), .val (.int (p3 &&& (2147483647 : Int32))), .val (.int (1 : Int32)), .val (.double (0 : UInt64)), .second, .unset, .unset, .unset] [(.double (0 : UInt64)), (.ref u2), (.long p1), (.long p0), (.ref b5), (.ref b5)])
      refine Go.callI X6 hx hZ (by rw [hml]; rfl) (y := (⟨"tidewatch/decision/Snapshot$Instance", "<init>", "(JJLjava/util/OptionalDouble;D)V"⟩ : MethodName)) (a := b5) (argsL := [(.long p0), (.long p1), (.ref u2), (.double (0 : UInt64))]) (rest := [(.ref b5)]) rfl hown (hw _ (List.mem_of_getElem? (i := 51) rfl)) (hw _ (List.mem_of_getElem? (i := 28) rfl)) (hw _ (List.mem_of_getElem? (i := 3) rfl)) (hw _ (List.mem_of_getElem? (i := 29) rfl)) (by decide) (rm6 l Z a0 hw b5 p0 p1 u2 (0 : UInt64) h5 n0 (Nat.le_trans Z0 (K5 : Keep h0 h5 []).1) E_b5 F_recordsIn_b5 F_recordsOut_b5 F_usefulSeconds_b5 F_countedSeconds_b5 ge_b5 ) hh6 (hb hby at_84) (lenOf pd_1 rfl) rfl rfl (W := 1) (Nat.le_of_eq rfl) (by decide) (by decide) (by decide) (by decide) ?_
      intro v7 T7 L7 X7 Q7
      obtain ⟨rfl, N7q, Kc7, Ec7, F7_recordsIn_b5, F7_recordsOut_b5, F7_usefulSeconds_b5, F7_countedSeconds_b5⟩ := Q7
      have N7 := Fr.app N6 N7q
      have Ec2_7 := Ec2_5.keep Kc7
      have Fc2_7 := Fc2_5.keep Kc7 (ninS ne_b1_b5 nin0)
      have Fu2_7 := Fu2_5.keep Kc7 (ninS ne_b1_b5 nin0)
      have E_b5_7 := E_b5.keep Kc7
      have KK7 : Keep h0 T7.heap [] := (K5 : Keep h0 h5 []).trans Kc7 (allS (Or.inr sz_b5) all0)
      show Go _ _ _ _ _ _ _ T7 (mkF m 87 #[.val (.long p0), .second, .val (.long p1), .second, .val (.int p2), .val (.int p3), .val (.int p4), .val (.int p5), .val (.double (FP.ddiv (FP.i2d p4) (4616189618054758400 : UInt64))), .second, .val (.double (FP.i2d p2)), .second, .val (.ref b1), .val (.int (p3 &&& (2147483647 : Int32))), .val (.int (1 : Int32)), .val (.double (0 : UInt64)), .second, .unset, .unset, .unset] [(.ref b5)])
      refine Go.step (fun _ k => XS.astore X7.here hx rfl (hb hby at_87) rfl rfl (l' := #[.val (.long p0), .second, .val (.long p1), .second, .val (.int p2), .val (.int p3), .val (.int p4), .val (.int p5), .val (.double (FP.ddiv (FP.i2d p4) (4616189618054758400 : UInt64))), .second, .val (.double (FP.i2d p2)), .second, .val (.ref b1), .val (.int (p3 &&& (2147483647 : Int32))), .val (.int (1 : Int32)), .val (.double (0 : UInt64)), .second, .val (.ref b5), .unset, .unset]) rfl k) ?_
      show Go _ _ _ _ _ _ _ T7 (mkF m 89 #[.val (.long p0), .second, .val (.long p1), .second, .val (.int p2), .val (.int p3), .val (.int p4), .val (.int p5), .val (.double (FP.ddiv (FP.i2d p4) (4616189618054758400 : UInt64))), .second, .val (.double (FP.i2d p2)), .second, .val (.ref b1), .val (.int (p3 &&& (2147483647 : Int32))), .val (.int (1 : Int32)), .val (.double (0 : UInt64)), .second, .val (.ref b5), .unset, .unset] [])
      refine Go.step (fun _ k => XS.iload X7.here hx rfl (hb hby at_89) rfl k) ?_
      show Go _ _ _ _ _ _ _ T7 (mkF m 91 #[.val (.long p0), .second, .val (.long p1), .second, .val (.int p2), .val (.int p3), .val (.int p4), .val (.int p5), .val (.double (FP.ddiv (FP.i2d p4) (4616189618054758400 : UInt64))), .second, .val (.double (FP.i2d p2)), .second, .val (.ref b1), .val (.int (p3 &&& (2147483647 : Int32))), .val (.int (1 : Int32)), .val (.double (0 : UInt64)), .second, .val (.ref b5), .unset, .unset] [(.int (1 : Int32))])
      refine Go.step (fun _ k => XS.ifNo X7.here hx rfl (hb hby at_91) rfl ((if0 _ _).trans (feq (by decide : ¬ ((1 : Int32) = (0 : Int32)))).1) k) ?_
      show Go _ _ _ _ _ _ _ T7 (mkF m 94 #[.val (.long p0), .second, .val (.long p1), .second, .val (.int p2), .val (.int p3), .val (.int p4), .val (.int p5), .val (.double (FP.ddiv (FP.i2d p4) (4616189618054758400 : UInt64))), .second, .val (.double (FP.i2d p2)), .second, .val (.ref b1), .val (.int (p3 &&& (2147483647 : Int32))), .val (.int (1 : Int32)), .val (.double (0 : UInt64)), .second, .val (.ref b5), .unset, .unset] [])
      refine Go.step (fun _ k => XS.dload X7.here hx rfl (hb hby at_94) rfl k) ?_
      show Go _ _ _ _ _ _ _ T7 (mkF m 96 #[.val (.long p0), .second, .val (.long p1), .second, .val (.int p2), .val (.int p3), .val (.int p4), .val (.int p5), .val (.double (FP.ddiv (FP.i2d p4) (4616189618054758400 : UInt64))), .second, .val (.double (FP.i2d p2)), .second, .val (.ref b1), .val (.int (p3 &&& (2147483647 : Int32))), .val (.int (1 : Int32)), .val (.double (0 : UInt64)), .second, .val (.ref b5), .unset, .unset] [(.double (FP.ddiv (FP.i2d p4) (4616189618054758400 : UInt64)))])
      refine Go.step (fun _ k => XS.dstore X7.here hx rfl (hb hby at_96) rfl (l' := #[.val (.long p0), .second, .val (.long p1), .second, .val (.int p2), .val (.int p3), .val (.int p4), .val (.int p5), .val (.double (FP.ddiv (FP.i2d p4) (4616189618054758400 : UInt64))), .second, .val (.double (FP.i2d p2)), .second, .val (.ref b1), .val (.int (p3 &&& (2147483647 : Int32))), .val (.int (1 : Int32)), .val (.double (0 : UInt64)), .second, .val (.ref b5), .val (.double (FP.ddiv (FP.i2d p4) (4616189618054758400 : UInt64))), .second]) rfl k) ?_
      show Go _ _ _ _ _ _ _ T7 (mkF m 98 #[.val (.long p0), .second, .val (.long p1), .second, .val (.int p2), .val (.int p3), .val (.int p4), .val (.int p5), .val (.double (FP.ddiv (FP.i2d p4) (4616189618054758400 : UInt64))), .second, .val (.double (FP.i2d p2)), .second, .val (.ref b1), .val (.int (p3 &&& (2147483647 : Int32))), .val (.int (1 : Int32)), .val (.double (0 : UInt64)), .second, .val (.ref b5), .val (.double (FP.ddiv (FP.i2d p4) (4616189618054758400 : UInt64))), .second] [])
      refine Go.step (fun _ k => XS.goto X7.here hx rfl (pc0 := 98) (pc' := 105) rfl (hb hby at_98) (by decide) (by decide) k) ?_
      show Go _ _ _ _ _ _ _ T7 (mkF m 105 #[.val (.long p0), .second, .val (.long p1), .second, .val (.int p2), .val (.int p3), .val (.int p4), .val (.int p5), .val (.double (FP.ddiv (FP.i2d p4) (4616189618054758400 : UInt64))), .second, .val (.double (FP.i2d p2)), .second, .val (.ref b1), .val (.int (p3 &&& (2147483647 : Int32))), .val (.int (1 : Int32)), .val (.double (0 : UInt64)), .second, .val (.ref b5), .val (.double (FP.ddiv (FP.i2d p4) (4616189618054758400 : UInt64))), .second] [])
      refine Go.step (fun _ k => XS.aload X7.here hx rfl (hb hby at_105) rfl rfl k) ?_
      show Go _ _ _ _ _ _ _ T7 (mkF m 107 #[.val (.long p0), .second, .val (.long p1), .second, .val (.int p2), .val (.int p3), .val (.int p4), .val (.int p5), .val (.double (FP.ddiv (FP.i2d p4) (4616189618054758400 : UInt64))), .second, .val (.double (FP.i2d p2)), .second, .val (.ref b1), .val (.int (p3 &&& (2147483647 : Int32))), .val (.int (1 : Int32)), .val (.double (0 : UInt64)), .second, .val (.ref b5), .val (.double (FP.ddiv (FP.i2d p4) (4616189618054758400 : UInt64))), .second] [(.ref b1)])
      refine Go.step (fun _ k => XS.dload X7.here hx rfl (hb hby at_107) rfl k) ?_
      show Go _ _ _ _ _ _ _ T7 (mkF m 109 #[.val (.long p0), .second, .val (.long p1), .second, .val (.int p2), .val (.int p3), .val (.int p4), .val (.int p5), .val (.double (FP.ddiv (FP.i2d p4) (4616189618054758400 : UInt64))), .second, .val (.double (FP.i2d p2)), .second, .val (.ref b1), .val (.int (p3 &&& (2147483647 : Int32))), .val (.int (1 : Int32)), .val (.double (0 : UInt64)), .second, .val (.ref b5), .val (.double (FP.ddiv (FP.i2d p4) (4616189618054758400 : UInt64))), .second] [(.double (FP.ddiv (FP.i2d p4) (4616189618054758400 : UInt64))), (.ref b1)])
      refine Go.callV X7 hx hZ (by rw [hml]; rfl) (y := (⟨"tidewatch/decision/Snapshot$Instance", "countedSecondsIn", "(D)D"⟩ : MethodName)) (z := (⟨"tidewatch/decision/Snapshot$Instance", "countedSecondsIn", "(D)D"⟩ : MethodName)) (a := b1) (argsL := [(.double (FP.ddiv (FP.i2d p4) (4616189618054758400 : UInt64)))]) (rest := []) hown (hw _ (List.mem_of_getElem? (i := 52) rfl)) (hw _ (List.mem_of_getElem? (i := 53) rfl)) (notFace_of_selects (args := #[]) (mvT hZ (hw _ (List.mem_of_getElem? (i := 55) rfl)))) (hw _ (List.mem_of_getElem? (i := 55) rfl)) (hw _ (List.mem_of_getElem? (i := 54) rfl)) (hw _ (List.mem_of_getElem? (i := 3) rfl)) (hw _ (List.mem_of_getElem? (i := 56) rfl)) (by decide) (rm9 l Z a0 hw b1 (FP.ddiv (FP.i2d p4) (4616189618054758400 : UInt64)) (0 : UInt64) T7.heap n0 (Nat.le_trans Z0 (KK7 : Keep h0 T7.heap []).1) Fc2_7) rfl Ec2_7 (hb hby at_109) (lenOf pd_7 rfl) rfl rfl (W := 0) (Nat.le_of_eq rfl) (by decide) (by decide) (by decide) (by decide) ?_
      intro v8 T8 L8 X8 Q8
      obtain ⟨rfl, N8q, hh8⟩ := Q8
      have N8 := Fr.app N7 N8q
      show Go _ _ _ _ _ _ _ T8 (mkF m 112 #[.val (.long p0), .second, .val (.long p1), .second, .val (.int p2), .val (.int p3), .val (.int p4), .val (.int p5), .val (.double (FP.ddiv (FP.i2d p4) (4616189618054758400 : UInt64))), .second, .val (.double (FP.i2d p2)), .second, .val (.ref b1), .val (.int (p3 &&& (2147483647 : Int32))), .val (.int (1 : Int32)), .val (.double (0 : UInt64)), .second, .val (.ref b5), .val (.double (FP.ddiv (FP.i2d p4) (4616189618054758400 : UInt64))), .second] [(.double (cW (0 : UInt64) (FP.ddiv (FP.i2d p4) (4616189618054758400 : UInt64))))])
      refine Go.step (fun _ k => XS.dload X8.here hx rfl (hb hby at_112) rfl k) ?_
      show Go _ _ _ _ _ _ _ T8 (mkF m 114 #[.val (.long p0), .second, .val (.long p1), .second, .val (.int p2), .val (.int p3), .val (.int p4), .val (.int p5), .val (.double (FP.ddiv (FP.i2d p4) (4616189618054758400 : UInt64))), .second, .val (.double (FP.i2d p2)), .second, .val (.ref b1), .val (.int (p3 &&& (2147483647 : Int32))), .val (.int (1 : Int32)), .val (.double (0 : UInt64)), .second, .val (.ref b5), .val (.double (FP.ddiv (FP.i2d p4) (4616189618054758400 : UInt64))), .second] [(.double (FP.ddiv (FP.i2d p4) (4616189618054758400 : UInt64))), (.double (cW (0 : UInt64) (FP.ddiv (FP.i2d p4) (4616189618054758400 : UInt64))))])
      refine Go.step (fun _ k => XS.dcmpS X8.here hx rfl (hb hby at_114) rfl rfl k) ?_
      show Go _ _ _ _ _ _ _ T8 (mkF m 115 #[.val (.long p0), .second, .val (.long p1), .second, .val (.int p2), .val (.int p3), .val (.int p4), .val (.int p5), .val (.double (FP.ddiv (FP.i2d p4) (4616189618054758400 : UInt64))), .second, .val (.double (FP.i2d p2)), .second, .val (.ref b1), .val (.int (p3 &&& (2147483647 : Int32))), .val (.int (1 : Int32)), .val (.double (0 : UInt64)), .second, .val (.ref b5), .val (.double (FP.ddiv (FP.i2d p4) (4616189618054758400 : UInt64))), .second] [(.int (cmpValue (FP.dcmp (cW (0 : UInt64) (FP.ddiv (FP.i2d p4) (4616189618054758400 : UInt64))) (FP.ddiv (FP.i2d p4) (4616189618054758400 : UInt64))) .l))])
      refine Go.step (fun _ k => XS.ifNo X8.here hx rfl (hb hby at_115) rfl (eq_y .l (own_eqD (own_cW0 _) (by rw [own_cW0]; exact (Jvm.Free.Fl.ddiv_out (Jvm.Free.Fl.i2d_fin _).noNaN (by first | decide +kernel | (unfold Jvm.Free.Fl.Fin64; decide +kernel) | (unfold Jvm.Free.Fl.Nz64; decide +kernel) | (unfold Jvm.Free.Fl.NoNaN64; decide +kernel) : Jvm.Free.Fl.Fin64 4616189618054758400) (by first | decide +kernel | (unfold Jvm.Free.Fl.Fin64; decide +kernel) | (unfold Jvm.Free.Fl.Nz64; decide +kernel) | (unfold Jvm.Free.Fl.NoNaN64; decide +kernel)))))).1 k) ?_
      show Go _ _ _ _ _ _ _ T8 (mkF m 118 #[.val (.long p0), .second, .val (.long p1), .second, .val (.int p2), .val (.int p3), .val (.int p4), .val (.int p5), .val (.double (FP.ddiv (FP.i2d p4) (4616189618054758400 : UInt64))), .second, .val (.double (FP.i2d p2)), .second, .val (.ref b1), .val (.int (p3 &&& (2147483647 : Int32))), .val (.int (1 : Int32)), .val (.double (0 : UInt64)), .second, .val (.ref b5), .val (.double (FP.ddiv (FP.i2d p4) (4616189618054758400 : UInt64))), .second] [])
      refine Go.step (fun _ k => XS.aload X8.here hx rfl (hb hby at_118) rfl rfl k) ?_
      show Go _ _ _ _ _ _ _ T8 (mkF m 120 #[.val (.long p0), .second, .val (.long p1), .second, .val (.int p2), .val (.int p3), .val (.int p4), .val (.int p5), .val (.double (FP.ddiv (FP.i2d p4) (4616189618054758400 : UInt64))), .second, .val (.double (FP.i2d p2)), .second, .val (.ref b1), .val (.int (p3 &&& (2147483647 : Int32))), .val (.int (1 : Int32)), .val (.double (0 : UInt64)), .second, .val (.ref b5), .val (.double (FP.ddiv (FP.i2d p4) (4616189618054758400 : UInt64))), .second] [(.ref b5)])
      refine Go.step (fun _ k => XS.dload X8.here hx rfl (hb hby at_120) rfl k) ?_
      show Go _ _ _ _ _ _ _ T8 (mkF m 122 #[.val (.long p0), .second, .val (.long p1), .second, .val (.int p2), .val (.int p3), .val (.int p4), .val (.int p5), .val (.double (FP.ddiv (FP.i2d p4) (4616189618054758400 : UInt64))), .second, .val (.double (FP.i2d p2)), .second, .val (.ref b1), .val (.int (p3 &&& (2147483647 : Int32))), .val (.int (1 : Int32)), .val (.double (0 : UInt64)), .second, .val (.ref b5), .val (.double (FP.ddiv (FP.i2d p4) (4616189618054758400 : UInt64))), .second] [(.double (FP.ddiv (FP.i2d p4) (4616189618054758400 : UInt64))), (.ref b5)])
      refine Go.callV X8 hx hZ (by rw [hml]; rfl) (y := (⟨"tidewatch/decision/Snapshot$Instance", "countedSecondsIn", "(D)D"⟩ : MethodName)) (z := (⟨"tidewatch/decision/Snapshot$Instance", "countedSecondsIn", "(D)D"⟩ : MethodName)) (a := b5) (argsL := [(.double (FP.ddiv (FP.i2d p4) (4616189618054758400 : UInt64)))]) (rest := []) hown (hw _ (List.mem_of_getElem? (i := 52) rfl)) (hw _ (List.mem_of_getElem? (i := 53) rfl)) (notFace_of_selects (args := #[]) (mvT hZ (hw _ (List.mem_of_getElem? (i := 55) rfl)))) (hw _ (List.mem_of_getElem? (i := 55) rfl)) (hw _ (List.mem_of_getElem? (i := 54) rfl)) (hw _ (List.mem_of_getElem? (i := 3) rfl)) (hw _ (List.mem_of_getElem? (i := 56) rfl)) (by decide) (rm9 l Z a0 hw b5 (FP.ddiv (FP.i2d p4) (4616189618054758400 : UInt64)) (0 : UInt64) T7.heap n0 (Nat.le_trans Z0 (KK7 : Keep h0 T7.heap []).1) F7_countedSeconds_b5) hh8 E_b5_7 (hb hby at_122) (lenOf pd_7 rfl) rfl rfl (W := 0) (Nat.le_of_eq rfl) (by decide) (by decide) (by decide) (by decide) ?_
      intro v9 T9 L9 X9 Q9
      obtain ⟨rfl, N9q, hh9⟩ := Q9
      have N9 := Fr.app N8 N9q
      show Go _ _ _ _ _ _ _ T9 (mkF m 125 #[.val (.long p0), .second, .val (.long p1), .second, .val (.int p2), .val (.int p3), .val (.int p4), .val (.int p5), .val (.double (FP.ddiv (FP.i2d p4) (4616189618054758400 : UInt64))), .second, .val (.double (FP.i2d p2)), .second, .val (.ref b1), .val (.int (p3 &&& (2147483647 : Int32))), .val (.int (1 : Int32)), .val (.double (0 : UInt64)), .second, .val (.ref b5), .val (.double (FP.ddiv (FP.i2d p4) (4616189618054758400 : UInt64))), .second] [(.double (cW (0 : UInt64) (FP.ddiv (FP.i2d p4) (4616189618054758400 : UInt64))))])
      refine Go.step (fun _ k => XS.dload X9.here hx rfl (hb hby at_125) rfl k) ?_
      show Go _ _ _ _ _ _ _ T9 (mkF m 127 #[.val (.long p0), .second, .val (.long p1), .second, .val (.int p2), .val (.int p3), .val (.int p4), .val (.int p5), .val (.double (FP.ddiv (FP.i2d p4) (4616189618054758400 : UInt64))), .second, .val (.double (FP.i2d p2)), .second, .val (.ref b1), .val (.int (p3 &&& (2147483647 : Int32))), .val (.int (1 : Int32)), .val (.double (0 : UInt64)), .second, .val (.ref b5), .val (.double (FP.ddiv (FP.i2d p4) (4616189618054758400 : UInt64))), .second] [(.double (FP.ddiv (FP.i2d p4) (4616189618054758400 : UInt64))), (.double (cW (0 : UInt64) (FP.ddiv (FP.i2d p4) (4616189618054758400 : UInt64))))])
      refine Go.step (fun _ k => XS.dcmpS X9.here hx rfl (hb hby at_127) rfl rfl k) ?_
      show Go _ _ _ _ _ _ _ T9 (mkF m 128 #[.val (.long p0), .second, .val (.long p1), .second, .val (.int p2), .val (.int p3), .val (.int p4), .val (.int p5), .val (.double (FP.ddiv (FP.i2d p4) (4616189618054758400 : UInt64))), .second, .val (.double (FP.i2d p2)), .second, .val (.ref b1), .val (.int (p3 &&& (2147483647 : Int32))), .val (.int (1 : Int32)), .val (.double (0 : UInt64)), .second, .val (.ref b5), .val (.double (FP.ddiv (FP.i2d p4) (4616189618054758400 : UInt64))), .second] [(.int (cmpValue (FP.dcmp (cW (0 : UInt64) (FP.ddiv (FP.i2d p4) (4616189618054758400 : UInt64))) (FP.ddiv (FP.i2d p4) (4616189618054758400 : UInt64))) .l))])
      refine Go.step (fun _ k => XS.ifNo X9.here hx rfl (hb hby at_128) rfl (eq_y .l (own_eqD (own_cW0 _) (by rw [own_cW0]; exact (Jvm.Free.Fl.ddiv_out (Jvm.Free.Fl.i2d_fin _).noNaN (by first | decide +kernel | (unfold Jvm.Free.Fl.Fin64; decide +kernel) | (unfold Jvm.Free.Fl.Nz64; decide +kernel) | (unfold Jvm.Free.Fl.NoNaN64; decide +kernel) : Jvm.Free.Fl.Fin64 4616189618054758400) (by first | decide +kernel | (unfold Jvm.Free.Fl.Fin64; decide +kernel) | (unfold Jvm.Free.Fl.Nz64; decide +kernel) | (unfold Jvm.Free.Fl.NoNaN64; decide +kernel)))))).1 k) ?_
      show Go _ _ _ _ _ _ _ T9 (mkF m 131 #[.val (.long p0), .second, .val (.long p1), .second, .val (.int p2), .val (.int p3), .val (.int p4), .val (.int p5), .val (.double (FP.ddiv (FP.i2d p4) (4616189618054758400 : UInt64))), .second, .val (.double (FP.i2d p2)), .second, .val (.ref b1), .val (.int (p3 &&& (2147483647 : Int32))), .val (.int (1 : Int32)), .val (.double (0 : UInt64)), .second, .val (.ref b5), .val (.double (FP.ddiv (FP.i2d p4) (4616189618054758400 : UInt64))), .second] [])
      refine Go.step (fun _ k => XS.iconst X9.here hx rfl (hb hby at_131) k) ?_
      show Go _ _ _ _ _ _ _ T9 (mkF m 132 #[.val (.long p0), .second, .val (.long p1), .second, .val (.int p2), .val (.int p3), .val (.int p4), .val (.int p5), .val (.double (FP.ddiv (FP.i2d p4) (4616189618054758400 : UInt64))), .second, .val (.double (FP.i2d p2)), .second, .val (.ref b1), .val (.int (p3 &&& (2147483647 : Int32))), .val (.int (1 : Int32)), .val (.double (0 : UInt64)), .second, .val (.ref b5), .val (.double (FP.ddiv (FP.i2d p4) (4616189618054758400 : UInt64))), .second] [(.int (1 : Int32))])
      refine Go.step (fun _ k => XS.goto X9.here hx rfl (pc0 := 132) (pc' := 136) rfl (hb hby at_132) (by decide) (by decide) k) ?_
      show Go _ _ _ _ _ _ _ T9 (mkF m 136 #[.val (.long p0), .second, .val (.long p1), .second, .val (.int p2), .val (.int p3), .val (.int p4), .val (.int p5), .val (.double (FP.ddiv (FP.i2d p4) (4616189618054758400 : UInt64))), .second, .val (.double (FP.i2d p2)), .second, .val (.ref b1), .val (.int (p3 &&& (2147483647 : Int32))), .val (.int (1 : Int32)), .val (.double (0 : UInt64)), .second, .val (.ref b5), .val (.double (FP.ddiv (FP.i2d p4) (4616189618054758400 : UInt64))), .second] [(.int (1 : Int32))])
      refine Go.retZ X9 hx hlk hret (by decide) (hb hby at_136) (by decide) (by decide) ?_
      try rw [hh9]
      exact ⟨rfl, N9⟩
    · refine Go.step (fun _ k => XS.ifYes X2.here hx rfl (pc0 := 43) (pc' := 50) rfl (hb hby at_43) rfl ((if0 _ _).trans (feq hc43_4).2) (by decide) (by decide) k) ?_
      show Go _ _ _ _ _ _ _ T2 (mkF m 50 #[.val (.long p0), .second, .val (.long p1), .second, .val (.int p2), .val (.int p3), .val (.int p4), .val (.int p5), .val (.double (FP.ddiv (FP.i2d p4) (4616189618054758400 : UInt64))), .second, .val (.double (FP.i2d p2)), .second, .val (.ref b1), .val (.int (p3 &&& (2147483647 : Int32))), .unset, .unset, .unset, .unset, .unset, .unset] [])
      refine Go.step (fun _ k => XS.iconst X2.here hx rfl (hb hby at_50) k) ?_
      show Go _ _ _ _ _ _ _ T2 (mkF m 51 #[.val (.long p0), .second, .val (.long p1), .second, .val (.int p2), .val (.int p3), .val (.int p4), .val (.int p5), .val (.double (FP.ddiv (FP.i2d p4) (4616189618054758400 : UInt64))), .second, .val (.double (FP.i2d p2)), .second, .val (.ref b1), .val (.int (p3 &&& (2147483647 : Int32))), .unset, .unset, .unset, .unset, .unset, .unset] [(.int (0 : Int32))])
      refine Go.step (fun _ k => XS.istore X2.here hx rfl (hb hby at_51) rfl (l' := #[.val (.long p0), .second, .val (.long p1), .second, .val (.int p2), .val (.int p3), .val (.int p4), .val (.int p5), .val (.double (FP.ddiv (FP.i2d p4) (4616189618054758400 : UInt64))), .second, .val (.double (FP.i2d p2)), .second, .val (.ref b1), .val (.int (p3 &&& (2147483647 : Int32))), .val (.int (0 : Int32)), .unset, .unset, .unset, .unset, .unset]) rfl k) ?_
      show Go _ _ _ _ _ _ _ T2 (mkF m 53 #[.val (.long p0), .second, .val (.long p1), .second, .val (.int p2), .val (.int p3), .val (.int p4), .val (.int p5), .val (.double (FP.ddiv (FP.i2d p4) (4616189618054758400 : UInt64))), .second, .val (.double (FP.i2d p2)), .second, .val (.ref b1), .val (.int (p3 &&& (2147483647 : Int32))), .val (.int (0 : Int32)), .unset, .unset, .unset, .unset, .unset] [])
      refine Go.step (fun _ k => XS.iload X2.here hx rfl (hb hby at_53) rfl k) ?_
      show Go _ _ _ _ _ _ _ T2 (mkF m 55 #[.val (.long p0), .second, .val (.long p1), .second, .val (.int p2), .val (.int p3), .val (.int p4), .val (.int p5), .val (.double (FP.ddiv (FP.i2d p4) (4616189618054758400 : UInt64))), .second, .val (.double (FP.i2d p2)), .second, .val (.ref b1), .val (.int (p3 &&& (2147483647 : Int32))), .val (.int (0 : Int32)), .unset, .unset, .unset, .unset, .unset] [(.int (0 : Int32))])
      refine Go.step (fun _ k => XS.ifYes X2.here hx rfl (pc0 := 55) (pc' := 62) rfl (hb hby at_55) rfl ((if0 _ _).trans (teq (by decide : (0 : Int32) = (0 : Int32))).1) (by decide) (by decide) k) ?_
      show Go _ _ _ _ _ _ _ T2 (mkF m 62 #[.val (.long p0), .second, .val (.long p1), .second, .val (.int p2), .val (.int p3), .val (.int p4), .val (.int p5), .val (.double (FP.ddiv (FP.i2d p4) (4616189618054758400 : UInt64))), .second, .val (.double (FP.i2d p2)), .second, .val (.ref b1), .val (.int (p3 &&& (2147483647 : Int32))), .val (.int (0 : Int32)), .unset, .unset, .unset, .unset, .unset] [])
      refine Go.step (fun _ k => XS.iload X2.here hx rfl (hb hby at_62) rfl k) ?_
      show Go _ _ _ _ _ _ _ T2 (mkF m 64 #[.val (.long p0), .second, .val (.long p1), .second, .val (.int p2), .val (.int p3), .val (.int p4), .val (.int p5), .val (.double (FP.ddiv (FP.i2d p4) (4616189618054758400 : UInt64))), .second, .val (.double (FP.i2d p2)), .second, .val (.ref b1), .val (.int (p3 &&& (2147483647 : Int32))), .val (.int (0 : Int32)), .unset, .unset, .unset, .unset, .unset] [(.int (p3 &&& (2147483647 : Int32)))])
      refine Go.step (fun _ k => XS.i2dS X2.here hx rfl (hb hby at_64) rfl rfl k) ?_
      show Go _ _ _ _ _ _ _ T2 (mkF m 65 #[.val (.long p0), .second, .val (.long p1), .second, .val (.int p2), .val (.int p3), .val (.int p4), .val (.int p5), .val (.double (FP.ddiv (FP.i2d p4) (4616189618054758400 : UInt64))), .second, .val (.double (FP.i2d p2)), .second, .val (.ref b1), .val (.int (p3 &&& (2147483647 : Int32))), .val (.int (0 : Int32)), .unset, .unset, .unset, .unset, .unset] [(.double (FP.i2d (p3 &&& (2147483647 : Int32))))])
      refine Go.step (X2.ldc2DoubleC hx hown (mvT hZ (hw _ (List.mem_of_getElem? (i := 45) rfl))) (g := (mkF m 65 #[.val (.long p0), .second, .val (.long p1), .second, .val (.int p2), .val (.int p3), .val (.int p4), .val (.int p5), .val (.double (FP.ddiv (FP.i2d p4) (4616189618054758400 : UInt64))), .second, .val (.double (FP.i2d p2)), .second, .val (.ref b1), .val (.int (p3 &&& (2147483647 : Int32))), .val (.int (0 : Int32)), .unset, .unset, .unset, .unset, .unset] [(.double (FP.i2d (p3 &&& (2147483647 : Int32))))])) rfl (hb hby at_65)) ?_
      show Go _ _ _ _ _ _ _ T2 (mkF m 68 #[.val (.long p0), .second, .val (.long p1), .second, .val (.int p2), .val (.int p3), .val (.int p4), .val (.int p5), .val (.double (FP.ddiv (FP.i2d p4) (4616189618054758400 : UInt64))), .second, .val (.double (FP.i2d p2)), .second, .val (.ref b1), .val (.int (p3 &&& (2147483647 : Int32))), .val (.int (0 : Int32)), .unset, .unset, .unset, .unset, .unset] [(.double (4652218415073722368 : UInt64)), (.double (FP.i2d (p3 &&& (2147483647 : Int32))))])
      refine Go.step (fun _ k => XS.ddivS X2.here hx rfl (hb hby at_68) rfl (Jvm.Free.Fl.ddiv_out (Jvm.Free.Fl.i2d_fin _).noNaN (by first | decide +kernel | (unfold Jvm.Free.Fl.Fin64; decide +kernel) | (unfold Jvm.Free.Fl.Nz64; decide +kernel) | (unfold Jvm.Free.Fl.NoNaN64; decide +kernel) : Jvm.Free.Fl.Fin64 4652218415073722368) (by first | decide +kernel | (unfold Jvm.Free.Fl.Fin64; decide +kernel) | (unfold Jvm.Free.Fl.Nz64; decide +kernel) | (unfold Jvm.Free.Fl.NoNaN64; decide +kernel))) rfl k) ?_
      show Go _ _ _ _ _ _ _ T2 (mkF m 69 #[.val (.long p0), .second, .val (.long p1), .second, .val (.int p2), .val (.int p3), .val (.int p4), .val (.int p5), .val (.double (FP.ddiv (FP.i2d p4) (4616189618054758400 : UInt64))), .second, .val (.double (FP.i2d p2)), .second, .val (.ref b1), .val (.int (p3 &&& (2147483647 : Int32))), .val (.int (0 : Int32)), .unset, .unset, .unset, .unset, .unset] [(.double (FP.ddiv (FP.i2d (p3 &&& (2147483647 : Int32))) (4652218415073722368 : UInt64)))])
      refine Go.step (fun _ k => XS.dstore X2.here hx rfl (hb hby at_69) rfl (l' := #[.val (.long p0), .second, .val (.long p1), .second, .val (.int p2), .val (.int p3), .val (.int p4), .val (.int p5), .val (.double (FP.ddiv (FP.i2d p4) (4616189618054758400 : UInt64))), .second, .val (.double (FP.i2d p2)), .second, .val (.ref b1), .val (.int (p3 &&& (2147483647 : Int32))), .val (.int (0 : Int32)), .val (.double (FP.ddiv (FP.i2d (p3 &&& (2147483647 : Int32))) (4652218415073722368 : UInt64))), .second, .unset, .unset, .unset]) rfl k) ?_
      show Go _ _ _ _ _ _ _ T2 (mkF m 71 #[.val (.long p0), .second, .val (.long p1), .second, .val (.int p2), .val (.int p3), .val (.int p4), .val (.int p5), .val (.double (FP.ddiv (FP.i2d p4) (4616189618054758400 : UInt64))), .second, .val (.double (FP.i2d p2)), .second, .val (.ref b1), .val (.int (p3 &&& (2147483647 : Int32))), .val (.int (0 : Int32)), .val (.double (FP.ddiv (FP.i2d (p3 &&& (2147483647 : Int32))) (4652218415073722368 : UInt64))), .second, .unset, .unset, .unset] [])
      obtain ⟨T10, h10, X10, e10, E10, A10, D10, -, st10⟩ := newO X2 hx hZ hown (hw _ (List.mem_of_getElem? (i := 1) rfl)) (hw _ (List.mem_of_getElem? (i := 2) rfl)) (hw _ (List.mem_of_getElem? (i := 3) rfl)) rfl (g := (mkF m 71 #[.val (.long p0), .second, .val (.long p1), .second, .val (.int p2), .val (.int p3), .val (.int p4), .val (.int p5), .val (.double (FP.ddiv (FP.i2d p4) (4616189618054758400 : UInt64))), .second, .val (.double (FP.i2d p2)), .second, .val (.ref b1), .val (.int (p3 &&& (2147483647 : Int32))), .val (.int (0 : Int32)), .val (.double (FP.ddiv (FP.i2d (p3 &&& (2147483647 : Int32))) (4652218415073722368 : UInt64))), .second, .unset, .unset, .unset] [])) rfl (hb hby at_71) (by decide) (by decide)
      obtain ⟨b10, g10⟩ : ∃ z, z = T2.heap.size := ⟨_, rfl⟩
      rw [← g10] at A10 D10 st10
      refine Go.step st10 ?_
      have K10 : Keep h0 h10 [] := KK2.ext E10
      have sz_b10 : h0.size ≤ b10 := Nat.le_trans (KK2 : Keep h0 T2.heap []).1 (Nat.le_of_eq g10.symm)
      have ge_b10 : n0 ≤ b10 := Nat.le_trans Z0 sz_b10
      have ne_b1_b10 : b1 ≠ b10 := Nat.ne_of_lt (Nat.lt_of_lt_of_le Ec2.lt (Nat.le_of_eq g10.symm))
      have Ec2_10 := Ec2.ext E10
      have Fc2_10 := Fc2.ext E10
      have Fu2_10 := Fu2.ext E10
      have E_b10 := A10
      have F_recordsIn_b10 : Fld Z h10 b10 "tidewatch/decision/Snapshot$Instance" "recordsIn" "J" (.long (0 : Int64)) := D10 (Or.inr (hw _ (List.mem_of_getElem? (i := 37) rfl))) (ty := .long) (by decide)
      have F_recordsOut_b10 : Fld Z h10 b10 "tidewatch/decision/Snapshot$Instance" "recordsOut" "J" (.long (0 : Int64)) := D10 (Or.inr (hw _ (List.mem_of_getElem? (i := 39) rfl))) (ty := .long) (by decide)
      have F_usefulSeconds_b10 : Fld Z h10 b10 "tidewatch/decision/Snapshot$Instance" "usefulSeconds" "Ljava/util/OptionalDouble;" .null := D10 (Or.inr (hw _ (List.mem_of_getElem? (i := 41) rfl))) (ty := (.object "java/util/OptionalDouble")) (by decide)
      have F_countedSeconds_b10 : Fld Z h10 b10 "tidewatch/decision/Snapshot$Instance" "countedSeconds" "D" (.double (0 : UInt64)) := D10 (Or.inr (hw _ (List.mem_of_getElem? (i := 43) rfl))) (ty := .double) (by decide)
      show Go _ _ _ _ _ _ _ T10 (mkF m 74 #[.val (.long p0), .second, .val (.long p1), .second, .val (.int p2), .val (.int p3), .val (.int p4), .val (.int p5), .val (.double (FP.ddiv (FP.i2d p4) (4616189618054758400 : UInt64))), .second, .val (.double (FP.i2d p2)), .second, .val (.ref b1), .val (.int (p3 &&& (2147483647 : Int32))), .val (.int (0 : Int32)), .val (.double (FP.ddiv (FP.i2d (p3 &&& (2147483647 : Int32))) (4652218415073722368 : UInt64))), .second, .unset, .unset, .unset] [(.ref b10)])
      refine Go.step (fun _ k => XS.dup X10.here hx rfl (hb hby at_74) rfl rfl k) ?_
      show Go _ _ _ _ _ _ _ T10 (mkF m 75 #[.val (.long p0), .second, .val (.long p1), .second, .val (.int p2), .val (.int p3), .val (.int p4), .val (.int p5), .val (.double (FP.ddiv (FP.i2d p4) (4616189618054758400 : UInt64))), .second, .val (.double (FP.i2d p2)), .second, .val (.ref b1), .val (.int (p3 &&& (2147483647 : Int32))), .val (.int (0 : Int32)), .val (.double (FP.ddiv (FP.i2d (p3 &&& (2147483647 : Int32))) (4652218415073722368 : UInt64))), .second, .unset, .unset, .unset] [(.ref b10), (.ref b10)])
      refine Go.step (fun _ k => XS.lloadN X10.here hx rfl (hb hby at_75) rfl k) ?_
      show Go _ _ _ _ _ _ _ T10 (mkF m 76 #[.val (.long p0), .second, .val (.long p1), .second, .val (.int p2), .val (.int p3), .val (.int p4), .val (.int p5), .val (.double (FP.ddiv (FP.i2d p4) (4616189618054758400 : UInt64))), .second, .val (.double (FP.i2d p2)), .second, .val (.ref b1), .val (.int (p3 &&& (2147483647 : Int32))), .val (.int (0 : Int32)), .val (.double (FP.ddiv (FP.i2d (p3 &&& (2147483647 : Int32))) (4652218415073722368 : UInt64))), .second, .unset, .unset, .unset] [(.long p0), (.ref b10), (.ref b10)])
      refine Go.step (fun _ k => XS.lloadN X10.here hx rfl (hb hby at_76) rfl k) ?_
      show Go _ _ _ _ _ _ _ T10 (mkF m 77 #[.val (.long p0), .second, .val (.long p1), .second, .val (.int p2), .val (.int p3), .val (.int p4), .val (.int p5), .val (.double (FP.ddiv (FP.i2d p4) (4616189618054758400 : UInt64))), .second, .val (.double (FP.i2d p2)), .second, .val (.ref b1), .val (.int (p3 &&& (2147483647 : Int32))), .val (.int (0 : Int32)), .val (.double (FP.ddiv (FP.i2d (p3 &&& (2147483647 : Int32))) (4652218415073722368 : UInt64))), .second, .unset, .unset, .unset] [(.long p1), (.long p0), (.ref b10), (.ref b10)])
      refine Go.step (fun _ k => XS.aload X10.here hx rfl (hb hby at_77) rfl rfl k) ?_
      show Go _ _ _ _ _ _ _ T10 (mkF m 79 #[.val (.long p0), .second, .val (.long p1), .second, .val (.int p2), .val (.int p3), .val (.int p4), .val (.int p5), .val (.double (FP.ddiv (FP.i2d p4) (4616189618054758400 : UInt64))), .second, .val (.double (FP.i2d p2)), .second, .val (.ref b1), .val (.int (p3 &&& (2147483647 : Int32))), .val (.int (0 : Int32)), .val (.double (FP.ddiv (FP.i2d (p3 &&& (2147483647 : Int32))) (4652218415073722368 : UInt64))), .second, .unset, .unset, .unset] [(.ref b1), (.long p1), (.long p0), (.ref b10), (.ref b10)])
      refine Go.callV X10 hx hZ (by rw [hml]; rfl) (y := (⟨"tidewatch/decision/Snapshot$Instance", "usefulSeconds", "()Ljava/util/OptionalDouble;"⟩ : MethodName)) (z := (⟨"tidewatch/decision/Snapshot$Instance", "usefulSeconds", "()Ljava/util/OptionalDouble;"⟩ : MethodName)) (a := b1) (argsL := []) (rest := [(.long p1), (.long p0), (.ref b10), (.ref b10)]) hown (hw _ (List.mem_of_getElem? (i := 46) rfl)) (hw _ (List.mem_of_getElem? (i := 47) rfl)) (notFace_of_selects (args := #[]) (mvT hZ (hw _ (List.mem_of_getElem? (i := 49) rfl)))) (hw _ (List.mem_of_getElem? (i := 49) rfl)) (hw _ (List.mem_of_getElem? (i := 48) rfl)) (hw _ (List.mem_of_getElem? (i := 3) rfl)) (hw _ (List.mem_of_getElem? (i := 50) rfl)) (by decide) (rm8 l Z a0 hw b1 u2 h10 n0 (Nat.le_trans Z0 (K10 : Keep h0 h10 []).1) Fu2_10) e10 Ec2_10 (hb hby at_79) (lenOf pd_6 rfl) rfl rfl (W := 6) (Nat.le_of_eq rfl) (by decide) (by decide) (by decide) (by decide) ?_
      intro v11 T11 L11 X11 Q11
      obtain ⟨rfl, N11q, hh11⟩ := Q11
      have N11 := Fr.app N2 N11q
      show Go _ _ _ _ _ _ _ T11 (mkF m 82 #[.val (.long p0), .second, .val (.long p1), .second, .val (.int p2), .val (.int p3), .val (.int p4), .val (.int p5), .val (.double (FP.ddiv (FP.i2d p4) (4616189618054758400 : UInt64))), .second, .val (.double (FP.i2d p2)), .second, .val (.ref b1), .val (.int (p3 &&& (2147483647 : Int32))), .val (.int (0 : Int32)), .val (.double (FP.ddiv (FP.i2d (p3 &&& (2147483647 : Int32))) (4652218415073722368 : UInt64))), .second, .unset, .unset, .unset] [(.ref u2), (.long p1), (.long p0), (.ref b10), (.ref b10)])
      refine Go.step (fun _ k => XS.dload X11.here hx rfl (hb hby at_82) rfl k) ?_
      show Go _ _ _ _ _ _ _ T11 (mkF m 84 #[.val (.long p0), .second, .val (.long p1), .second, .val (.int p2), .val (.int p3), .val (.int p4), .val (.int p5), .val (.double (FP.ddiv (FP.i2d p4) (4616189618054758400 : UInt64))), .second, .val (.double (FP.i2d p2)), .second, .val (.ref b1), .val (.int (p3 &&& (2147483647 : Int32))), .val (.int (0 : Int32)), .val (.double (FP.ddiv (FP.i2d (p3 &&& (2147483647 : Int32))) (4652218415073722368 : UInt64))), .second, .unset, .unset, .unset] [(.double (FP.ddiv (FP.i2d (p3 &&& (2147483647 : Int32))) (4652218415073722368 : UInt64))), (.ref u2), (.long p1), (.long p0), (.ref b10), (.ref b10)])
      refine Go.callI X11 hx hZ (by rw [hml]; rfl) (y := (⟨"tidewatch/decision/Snapshot$Instance", "<init>", "(JJLjava/util/OptionalDouble;D)V"⟩ : MethodName)) (a := b10) (argsL := [(.long p0), (.long p1), (.ref u2), (.double (FP.ddiv (FP.i2d (p3 &&& (2147483647 : Int32))) (4652218415073722368 : UInt64)))]) (rest := [(.ref b10)]) rfl hown (hw _ (List.mem_of_getElem? (i := 51) rfl)) (hw _ (List.mem_of_getElem? (i := 28) rfl)) (hw _ (List.mem_of_getElem? (i := 3) rfl)) (hw _ (List.mem_of_getElem? (i := 29) rfl)) (by decide) (rm6 l Z a0 hw b10 p0 p1 u2 (FP.ddiv (FP.i2d (p3 &&& (2147483647 : Int32))) (4652218415073722368 : UInt64)) h10 n0 (Nat.le_trans Z0 (K10 : Keep h0 h10 []).1) E_b10 F_recordsIn_b10 F_recordsOut_b10 F_usefulSeconds_b10 F_countedSeconds_b10 ge_b10 ) hh11 (hb hby at_84) (lenOf pd_1 rfl) rfl rfl (W := 1) (Nat.le_of_eq rfl) (by decide) (by decide) (by decide) (by decide) ?_
      intro v12 T12 L12 X12 Q12
      obtain ⟨rfl, N12q, Kc12, Ec12, F12_recordsIn_b10, F12_recordsOut_b10, F12_usefulSeconds_b10, F12_countedSeconds_b10⟩ := Q12
      have N12 := Fr.app N11 N12q
      have Ec2_12 := Ec2_10.keep Kc12
      have Fc2_12 := Fc2_10.keep Kc12 (ninS ne_b1_b10 nin0)
      have Fu2_12 := Fu2_10.keep Kc12 (ninS ne_b1_b10 nin0)
      have E_b10_12 := E_b10.keep Kc12
      have KK12 : Keep h0 T12.heap [] := (K10 : Keep h0 h10 []).trans Kc12 (allS (Or.inr sz_b10) all0)
      show Go _ _ _ _ _ _ _ T12 (mkF m 87 #[.val (.long p0), .second, .val (.long p1), .second, .val (.int p2), .val (.int p3), .val (.int p4), .val (.int p5), .val (.double (FP.ddiv (FP.i2d p4) (4616189618054758400 : UInt64))), .second, .val (.double (FP.i2d p2)), .second, .val (.ref b1), .val (.int (p3 &&& (2147483647 : Int32))), .val (.int (0 : Int32)), .val (.double (FP.ddiv (FP.i2d (p3 &&& (2147483647 : Int32))) (4652218415073722368 : UInt64))), .second, .unset, .unset, .unset] [(.ref b10)])
      refine Go.step (fun _ k => XS.astore X12.here hx rfl (hb hby at_87) rfl rfl (l' := #[.val (.long p0), .second, .val (.long p1), .second, .val (.int p2), .val (.int p3), .val (.int p4), .val (.int p5), .val (.double (FP.ddiv (FP.i2d p4) (4616189618054758400 : UInt64))), .second, .val (.double (FP.i2d p2)), .second, .val (.ref b1), .val (.int (p3 &&& (2147483647 : Int32))), .val (.int (0 : Int32)), .val (.double (FP.ddiv (FP.i2d (p3 &&& (2147483647 : Int32))) (4652218415073722368 : UInt64))), .second, .val (.ref b10), .unset, .unset]) rfl k) ?_
      show Go _ _ _ _ _ _ _ T12 (mkF m 89 #[.val (.long p0), .second, .val (.long p1), .second, .val (.int p2), .val (.int p3), .val (.int p4), .val (.int p5), .val (.double (FP.ddiv (FP.i2d p4) (4616189618054758400 : UInt64))), .second, .val (.double (FP.i2d p2)), .second, .val (.ref b1), .val (.int (p3 &&& (2147483647 : Int32))), .val (.int (0 : Int32)), .val (.double (FP.ddiv (FP.i2d (p3 &&& (2147483647 : Int32))) (4652218415073722368 : UInt64))), .second, .val (.ref b10), .unset, .unset] [])
      refine Go.step (fun _ k => XS.iload X12.here hx rfl (hb hby at_89) rfl k) ?_
      show Go _ _ _ _ _ _ _ T12 (mkF m 91 #[.val (.long p0), .second, .val (.long p1), .second, .val (.int p2), .val (.int p3), .val (.int p4), .val (.int p5), .val (.double (FP.ddiv (FP.i2d p4) (4616189618054758400 : UInt64))), .second, .val (.double (FP.i2d p2)), .second, .val (.ref b1), .val (.int (p3 &&& (2147483647 : Int32))), .val (.int (0 : Int32)), .val (.double (FP.ddiv (FP.i2d (p3 &&& (2147483647 : Int32))) (4652218415073722368 : UInt64))), .second, .val (.ref b10), .unset, .unset] [(.int (0 : Int32))])
      refine Go.step (fun _ k => XS.ifYes X12.here hx rfl (pc0 := 91) (pc' := 101) rfl (hb hby at_91) rfl ((if0 _ _).trans (teq (by decide : (0 : Int32) = (0 : Int32))).1) (by decide) (by decide) k) ?_
      show Go _ _ _ _ _ _ _ T12 (mkF m 101 #[.val (.long p0), .second, .val (.long p1), .second, .val (.int p2), .val (.int p3), .val (.int p4), .val (.int p5), .val (.double (FP.ddiv (FP.i2d p4) (4616189618054758400 : UInt64))), .second, .val (.double (FP.i2d p2)), .second, .val (.ref b1), .val (.int (p3 &&& (2147483647 : Int32))), .val (.int (0 : Int32)), .val (.double (FP.ddiv (FP.i2d (p3 &&& (2147483647 : Int32))) (4652218415073722368 : UInt64))), .second, .val (.ref b10), .unset, .unset] [])
      refine Go.step (fun _ k => XS.dload X12.here hx rfl (hb hby at_101) rfl k) ?_
      show Go _ _ _ _ _ _ _ T12 (mkF m 103 #[.val (.long p0), .second, .val (.long p1), .second, .val (.int p2), .val (.int p3), .val (.int p4), .val (.int p5), .val (.double (FP.ddiv (FP.i2d p4) (4616189618054758400 : UInt64))), .second, .val (.double (FP.i2d p2)), .second, .val (.ref b1), .val (.int (p3 &&& (2147483647 : Int32))), .val (.int (0 : Int32)), .val (.double (FP.ddiv (FP.i2d (p3 &&& (2147483647 : Int32))) (4652218415073722368 : UInt64))), .second, .val (.ref b10), .unset, .unset] [(.double (FP.ddiv (FP.i2d (p3 &&& (2147483647 : Int32))) (4652218415073722368 : UInt64)))])
      refine Go.step (fun _ k => XS.dstore X12.here hx rfl (hb hby at_103) rfl (l' := #[.val (.long p0), .second, .val (.long p1), .second, .val (.int p2), .val (.int p3), .val (.int p4), .val (.int p5), .val (.double (FP.ddiv (FP.i2d p4) (4616189618054758400 : UInt64))), .second, .val (.double (FP.i2d p2)), .second, .val (.ref b1), .val (.int (p3 &&& (2147483647 : Int32))), .val (.int (0 : Int32)), .val (.double (FP.ddiv (FP.i2d (p3 &&& (2147483647 : Int32))) (4652218415073722368 : UInt64))), .second, .val (.ref b10), .val (.double (FP.ddiv (FP.i2d (p3 &&& (2147483647 : Int32))) (4652218415073722368 : UInt64))), .second]) rfl k) ?_
      show Go _ _ _ _ _ _ _ T12 (mkF m 105 #[.val (.long p0), .second, .val (.long p1), .second, .val (.int p2), .val (.int p3), .val (.int p4), .val (.int p5), .val (.double (FP.ddiv (FP.i2d p4) (4616189618054758400 : UInt64))), .second, .val (.double (FP.i2d p2)), .second, .val (.ref b1), .val (.int (p3 &&& (2147483647 : Int32))), .val (.int (0 : Int32)), .val (.double (FP.ddiv (FP.i2d (p3 &&& (2147483647 : Int32))) (4652218415073722368 : UInt64))), .second, .val (.ref b10), .val (.double (FP.ddiv (FP.i2d (p3 &&& (2147483647 : Int32))) (4652218415073722368 : UInt64))), .second] [])
      refine Go.step (fun _ k => XS.aload X12.here hx rfl (hb hby at_105) rfl rfl k) ?_
      show Go _ _ _ _ _ _ _ T12 (mkF m 107 #[.val (.long p0), .second, .val (.long p1), .second, .val (.int p2), .val (.int p3), .val (.int p4), .val (.int p5), .val (.double (FP.ddiv (FP.i2d p4) (4616189618054758400 : UInt64))), .second, .val (.double (FP.i2d p2)), .second, .val (.ref b1), .val (.int (p3 &&& (2147483647 : Int32))), .val (.int (0 : Int32)), .val (.double (FP.ddiv (FP.i2d (p3 &&& (2147483647 : Int32))) (4652218415073722368 : UInt64))), .second, .val (.ref b10), .val (.double (FP.ddiv (FP.i2d (p3 &&& (2147483647 : Int32))) (4652218415073722368 : UInt64))), .second] [(.ref b1)])
      refine Go.step (fun _ k => XS.dload X12.here hx rfl (hb hby at_107) rfl k) ?_
      show Go _ _ _ _ _ _ _ T12 (mkF m 109 #[.val (.long p0), .second, .val (.long p1), .second, .val (.int p2), .val (.int p3), .val (.int p4), .val (.int p5), .val (.double (FP.ddiv (FP.i2d p4) (4616189618054758400 : UInt64))), .second, .val (.double (FP.i2d p2)), .second, .val (.ref b1), .val (.int (p3 &&& (2147483647 : Int32))), .val (.int (0 : Int32)), .val (.double (FP.ddiv (FP.i2d (p3 &&& (2147483647 : Int32))) (4652218415073722368 : UInt64))), .second, .val (.ref b10), .val (.double (FP.ddiv (FP.i2d (p3 &&& (2147483647 : Int32))) (4652218415073722368 : UInt64))), .second] [(.double (FP.ddiv (FP.i2d p4) (4616189618054758400 : UInt64))), (.ref b1)])
      refine Go.callV X12 hx hZ (by rw [hml]; rfl) (y := (⟨"tidewatch/decision/Snapshot$Instance", "countedSecondsIn", "(D)D"⟩ : MethodName)) (z := (⟨"tidewatch/decision/Snapshot$Instance", "countedSecondsIn", "(D)D"⟩ : MethodName)) (a := b1) (argsL := [(.double (FP.ddiv (FP.i2d p4) (4616189618054758400 : UInt64)))]) (rest := []) hown (hw _ (List.mem_of_getElem? (i := 52) rfl)) (hw _ (List.mem_of_getElem? (i := 53) rfl)) (notFace_of_selects (args := #[]) (mvT hZ (hw _ (List.mem_of_getElem? (i := 55) rfl)))) (hw _ (List.mem_of_getElem? (i := 55) rfl)) (hw _ (List.mem_of_getElem? (i := 54) rfl)) (hw _ (List.mem_of_getElem? (i := 3) rfl)) (hw _ (List.mem_of_getElem? (i := 56) rfl)) (by decide) (rm9 l Z a0 hw b1 (FP.ddiv (FP.i2d p4) (4616189618054758400 : UInt64)) (0 : UInt64) T12.heap n0 (Nat.le_trans Z0 (KK12 : Keep h0 T12.heap []).1) Fc2_12) rfl Ec2_12 (hb hby at_109) (lenOf pd_7 rfl) rfl rfl (W := 0) (Nat.le_of_eq rfl) (by decide) (by decide) (by decide) (by decide) ?_
      intro v13 T13 L13 X13 Q13
      obtain ⟨rfl, N13q, hh13⟩ := Q13
      have N13 := Fr.app N12 N13q
      show Go _ _ _ _ _ _ _ T13 (mkF m 112 #[.val (.long p0), .second, .val (.long p1), .second, .val (.int p2), .val (.int p3), .val (.int p4), .val (.int p5), .val (.double (FP.ddiv (FP.i2d p4) (4616189618054758400 : UInt64))), .second, .val (.double (FP.i2d p2)), .second, .val (.ref b1), .val (.int (p3 &&& (2147483647 : Int32))), .val (.int (0 : Int32)), .val (.double (FP.ddiv (FP.i2d (p3 &&& (2147483647 : Int32))) (4652218415073722368 : UInt64))), .second, .val (.ref b10), .val (.double (FP.ddiv (FP.i2d (p3 &&& (2147483647 : Int32))) (4652218415073722368 : UInt64))), .second] [(.double (cW (0 : UInt64) (FP.ddiv (FP.i2d p4) (4616189618054758400 : UInt64))))])
      refine Go.step (fun _ k => XS.dload X13.here hx rfl (hb hby at_112) rfl k) ?_
      show Go _ _ _ _ _ _ _ T13 (mkF m 114 #[.val (.long p0), .second, .val (.long p1), .second, .val (.int p2), .val (.int p3), .val (.int p4), .val (.int p5), .val (.double (FP.ddiv (FP.i2d p4) (4616189618054758400 : UInt64))), .second, .val (.double (FP.i2d p2)), .second, .val (.ref b1), .val (.int (p3 &&& (2147483647 : Int32))), .val (.int (0 : Int32)), .val (.double (FP.ddiv (FP.i2d (p3 &&& (2147483647 : Int32))) (4652218415073722368 : UInt64))), .second, .val (.ref b10), .val (.double (FP.ddiv (FP.i2d (p3 &&& (2147483647 : Int32))) (4652218415073722368 : UInt64))), .second] [(.double (FP.ddiv (FP.i2d p4) (4616189618054758400 : UInt64))), (.double (cW (0 : UInt64) (FP.ddiv (FP.i2d p4) (4616189618054758400 : UInt64))))])
      refine Go.step (fun _ k => XS.dcmpS X13.here hx rfl (hb hby at_114) rfl rfl k) ?_
      show Go _ _ _ _ _ _ _ T13 (mkF m 115 #[.val (.long p0), .second, .val (.long p1), .second, .val (.int p2), .val (.int p3), .val (.int p4), .val (.int p5), .val (.double (FP.ddiv (FP.i2d p4) (4616189618054758400 : UInt64))), .second, .val (.double (FP.i2d p2)), .second, .val (.ref b1), .val (.int (p3 &&& (2147483647 : Int32))), .val (.int (0 : Int32)), .val (.double (FP.ddiv (FP.i2d (p3 &&& (2147483647 : Int32))) (4652218415073722368 : UInt64))), .second, .val (.ref b10), .val (.double (FP.ddiv (FP.i2d (p3 &&& (2147483647 : Int32))) (4652218415073722368 : UInt64))), .second] [(.int (cmpValue (FP.dcmp (cW (0 : UInt64) (FP.ddiv (FP.i2d p4) (4616189618054758400 : UInt64))) (FP.ddiv (FP.i2d p4) (4616189618054758400 : UInt64))) .l))])
      refine Go.step (fun _ k => XS.ifNo X13.here hx rfl (hb hby at_115) rfl (eq_y .l (own_eqD (own_cW0 _) (by rw [own_cW0]; exact (Jvm.Free.Fl.ddiv_out (Jvm.Free.Fl.i2d_fin _).noNaN (by first | decide +kernel | (unfold Jvm.Free.Fl.Fin64; decide +kernel) | (unfold Jvm.Free.Fl.Nz64; decide +kernel) | (unfold Jvm.Free.Fl.NoNaN64; decide +kernel) : Jvm.Free.Fl.Fin64 4616189618054758400) (by first | decide +kernel | (unfold Jvm.Free.Fl.Fin64; decide +kernel) | (unfold Jvm.Free.Fl.Nz64; decide +kernel) | (unfold Jvm.Free.Fl.NoNaN64; decide +kernel)))))).1 k) ?_
      show Go _ _ _ _ _ _ _ T13 (mkF m 118 #[.val (.long p0), .second, .val (.long p1), .second, .val (.int p2), .val (.int p3), .val (.int p4), .val (.int p5), .val (.double (FP.ddiv (FP.i2d p4) (4616189618054758400 : UInt64))), .second, .val (.double (FP.i2d p2)), .second, .val (.ref b1), .val (.int (p3 &&& (2147483647 : Int32))), .val (.int (0 : Int32)), .val (.double (FP.ddiv (FP.i2d (p3 &&& (2147483647 : Int32))) (4652218415073722368 : UInt64))), .second, .val (.ref b10), .val (.double (FP.ddiv (FP.i2d (p3 &&& (2147483647 : Int32))) (4652218415073722368 : UInt64))), .second] [])
      refine Go.step (fun _ k => XS.aload X13.here hx rfl (hb hby at_118) rfl rfl k) ?_
      show Go _ _ _ _ _ _ _ T13 (mkF m 120 #[.val (.long p0), .second, .val (.long p1), .second, .val (.int p2), .val (.int p3), .val (.int p4), .val (.int p5), .val (.double (FP.ddiv (FP.i2d p4) (4616189618054758400 : UInt64))), .second, .val (.double (FP.i2d p2)), .second, .val (.ref b1), .val (.int (p3 &&& (2147483647 : Int32))), .val (.int (0 : Int32)), .val (.double (FP.ddiv (FP.i2d (p3 &&& (2147483647 : Int32))) (4652218415073722368 : UInt64))), .second, .val (.ref b10), .val (.double (FP.ddiv (FP.i2d (p3 &&& (2147483647 : Int32))) (4652218415073722368 : UInt64))), .second] [(.ref b10)])
      refine Go.step (fun _ k => XS.dload X13.here hx rfl (hb hby at_120) rfl k) ?_
      show Go _ _ _ _ _ _ _ T13 (mkF m 122 #[.val (.long p0), .second, .val (.long p1), .second, .val (.int p2), .val (.int p3), .val (.int p4), .val (.int p5), .val (.double (FP.ddiv (FP.i2d p4) (4616189618054758400 : UInt64))), .second, .val (.double (FP.i2d p2)), .second, .val (.ref b1), .val (.int (p3 &&& (2147483647 : Int32))), .val (.int (0 : Int32)), .val (.double (FP.ddiv (FP.i2d (p3 &&& (2147483647 : Int32))) (4652218415073722368 : UInt64))), .second, .val (.ref b10), .val (.double (FP.ddiv (FP.i2d (p3 &&& (2147483647 : Int32))) (4652218415073722368 : UInt64))), .second] [(.double (FP.ddiv (FP.i2d p4) (4616189618054758400 : UInt64))), (.ref b10)])
      refine Go.callV X13 hx hZ (by rw [hml]; rfl) (y := (⟨"tidewatch/decision/Snapshot$Instance", "countedSecondsIn", "(D)D"⟩ : MethodName)) (z := (⟨"tidewatch/decision/Snapshot$Instance", "countedSecondsIn", "(D)D"⟩ : MethodName)) (a := b10) (argsL := [(.double (FP.ddiv (FP.i2d p4) (4616189618054758400 : UInt64)))]) (rest := []) hown (hw _ (List.mem_of_getElem? (i := 52) rfl)) (hw _ (List.mem_of_getElem? (i := 53) rfl)) (notFace_of_selects (args := #[]) (mvT hZ (hw _ (List.mem_of_getElem? (i := 55) rfl)))) (hw _ (List.mem_of_getElem? (i := 55) rfl)) (hw _ (List.mem_of_getElem? (i := 54) rfl)) (hw _ (List.mem_of_getElem? (i := 3) rfl)) (hw _ (List.mem_of_getElem? (i := 56) rfl)) (by decide) (rm9 l Z a0 hw b10 (FP.ddiv (FP.i2d p4) (4616189618054758400 : UInt64)) (FP.ddiv (FP.i2d (p3 &&& (2147483647 : Int32))) (4652218415073722368 : UInt64)) T12.heap n0 (Nat.le_trans Z0 (KK12 : Keep h0 T12.heap []).1) F12_countedSeconds_b10) hh13 E_b10_12 (hb hby at_122) (lenOf pd_7 rfl) rfl rfl (W := 0) (Nat.le_of_eq rfl) (by decide) (by decide) (by decide) (by decide) ?_
      intro v14 T14 L14 X14 Q14
      obtain ⟨rfl, N14q, hh14⟩ := Q14
      have N14 := Fr.app N13 N14q
      show Go _ _ _ _ _ _ _ T14 (mkF m 125 #[.val (.long p0), .second, .val (.long p1), .second, .val (.int p2), .val (.int p3), .val (.int p4), .val (.int p5), .val (.double (FP.ddiv (FP.i2d p4) (4616189618054758400 : UInt64))), .second, .val (.double (FP.i2d p2)), .second, .val (.ref b1), .val (.int (p3 &&& (2147483647 : Int32))), .val (.int (0 : Int32)), .val (.double (FP.ddiv (FP.i2d (p3 &&& (2147483647 : Int32))) (4652218415073722368 : UInt64))), .second, .val (.ref b10), .val (.double (FP.ddiv (FP.i2d (p3 &&& (2147483647 : Int32))) (4652218415073722368 : UInt64))), .second] [(.double (cW (FP.ddiv (FP.i2d (p3 &&& (2147483647 : Int32))) (4652218415073722368 : UInt64)) (FP.ddiv (FP.i2d p4) (4616189618054758400 : UInt64))))])
      refine Go.step (fun _ k => XS.dload X14.here hx rfl (hb hby at_125) rfl k) ?_
      show Go _ _ _ _ _ _ _ T14 (mkF m 127 #[.val (.long p0), .second, .val (.long p1), .second, .val (.int p2), .val (.int p3), .val (.int p4), .val (.int p5), .val (.double (FP.ddiv (FP.i2d p4) (4616189618054758400 : UInt64))), .second, .val (.double (FP.i2d p2)), .second, .val (.ref b1), .val (.int (p3 &&& (2147483647 : Int32))), .val (.int (0 : Int32)), .val (.double (FP.ddiv (FP.i2d (p3 &&& (2147483647 : Int32))) (4652218415073722368 : UInt64))), .second, .val (.ref b10), .val (.double (FP.ddiv (FP.i2d (p3 &&& (2147483647 : Int32))) (4652218415073722368 : UInt64))), .second] [(.double (FP.ddiv (FP.i2d (p3 &&& (2147483647 : Int32))) (4652218415073722368 : UInt64))), (.double (cW (FP.ddiv (FP.i2d (p3 &&& (2147483647 : Int32))) (4652218415073722368 : UInt64)) (FP.ddiv (FP.i2d p4) (4616189618054758400 : UInt64))))])
      refine Go.step (fun _ k => XS.dcmpS X14.here hx rfl (hb hby at_127) rfl rfl k) ?_
      show Go _ _ _ _ _ _ _ T14 (mkF m 128 #[.val (.long p0), .second, .val (.long p1), .second, .val (.int p2), .val (.int p3), .val (.int p4), .val (.int p5), .val (.double (FP.ddiv (FP.i2d p4) (4616189618054758400 : UInt64))), .second, .val (.double (FP.i2d p2)), .second, .val (.ref b1), .val (.int (p3 &&& (2147483647 : Int32))), .val (.int (0 : Int32)), .val (.double (FP.ddiv (FP.i2d (p3 &&& (2147483647 : Int32))) (4652218415073722368 : UInt64))), .second, .val (.ref b10), .val (.double (FP.ddiv (FP.i2d (p3 &&& (2147483647 : Int32))) (4652218415073722368 : UInt64))), .second] [(.int (cmpValue (FP.dcmp (cW (FP.ddiv (FP.i2d (p3 &&& (2147483647 : Int32))) (4652218415073722368 : UInt64)) (FP.ddiv (FP.i2d p4) (4616189618054758400 : UInt64))) (FP.ddiv (FP.i2d (p3 &&& (2147483647 : Int32))) (4652218415073722368 : UInt64))) .l))])
      refine Go.step (fun _ k => XS.ifNo X14.here hx rfl (hb hby at_128) rfl (eq_y .l (own_eqD (own_cWp (own_pos1024 _ (own_m1 hc43_4))) (by rw [own_cWp (own_pos1024 _ (own_m1 hc43_4))]; exact (Jvm.Free.Fl.ddiv_out (Jvm.Free.Fl.i2d_fin _).noNaN (by first | decide +kernel | (unfold Jvm.Free.Fl.Fin64; decide +kernel) | (unfold Jvm.Free.Fl.Nz64; decide +kernel) | (unfold Jvm.Free.Fl.NoNaN64; decide +kernel) : Jvm.Free.Fl.Fin64 4652218415073722368) (by first | decide +kernel | (unfold Jvm.Free.Fl.Fin64; decide +kernel) | (unfold Jvm.Free.Fl.Nz64; decide +kernel) | (unfold Jvm.Free.Fl.NoNaN64; decide +kernel)))))).1 k) ?_
      show Go _ _ _ _ _ _ _ T14 (mkF m 131 #[.val (.long p0), .second, .val (.long p1), .second, .val (.int p2), .val (.int p3), .val (.int p4), .val (.int p5), .val (.double (FP.ddiv (FP.i2d p4) (4616189618054758400 : UInt64))), .second, .val (.double (FP.i2d p2)), .second, .val (.ref b1), .val (.int (p3 &&& (2147483647 : Int32))), .val (.int (0 : Int32)), .val (.double (FP.ddiv (FP.i2d (p3 &&& (2147483647 : Int32))) (4652218415073722368 : UInt64))), .second, .val (.ref b10), .val (.double (FP.ddiv (FP.i2d (p3 &&& (2147483647 : Int32))) (4652218415073722368 : UInt64))), .second] [])
      refine Go.step (fun _ k => XS.iconst X14.here hx rfl (hb hby at_131) k) ?_
      show Go _ _ _ _ _ _ _ T14 (mkF m 132 #[.val (.long p0), .second, .val (.long p1), .second, .val (.int p2), .val (.int p3), .val (.int p4), .val (.int p5), .val (.double (FP.ddiv (FP.i2d p4) (4616189618054758400 : UInt64))), .second, .val (.double (FP.i2d p2)), .second, .val (.ref b1), .val (.int (p3 &&& (2147483647 : Int32))), .val (.int (0 : Int32)), .val (.double (FP.ddiv (FP.i2d (p3 &&& (2147483647 : Int32))) (4652218415073722368 : UInt64))), .second, .val (.ref b10), .val (.double (FP.ddiv (FP.i2d (p3 &&& (2147483647 : Int32))) (4652218415073722368 : UInt64))), .second] [(.int (1 : Int32))])
      refine Go.step (fun _ k => XS.goto X14.here hx rfl (pc0 := 132) (pc' := 136) rfl (hb hby at_132) (by decide) (by decide) k) ?_
      show Go _ _ _ _ _ _ _ T14 (mkF m 136 #[.val (.long p0), .second, .val (.long p1), .second, .val (.int p2), .val (.int p3), .val (.int p4), .val (.int p5), .val (.double (FP.ddiv (FP.i2d p4) (4616189618054758400 : UInt64))), .second, .val (.double (FP.i2d p2)), .second, .val (.ref b1), .val (.int (p3 &&& (2147483647 : Int32))), .val (.int (0 : Int32)), .val (.double (FP.ddiv (FP.i2d (p3 &&& (2147483647 : Int32))) (4652218415073722368 : UInt64))), .second, .val (.ref b10), .val (.double (FP.ddiv (FP.i2d (p3 &&& (2147483647 : Int32))) (4652218415073722368 : UInt64))), .second] [(.int (1 : Int32))])
      refine Go.retZ X14 hx hlk hret (by decide) (hb hby at_136) (by decide) (by decide) ?_
      try rw [hh14]
      exact ⟨rfl, N14⟩
  · refine Go.step (fun _ k => XS.ifYes X2.here hx rfl (pc0 := 38) (pc' := 46) rfl (hb hby at_38) rfl ((if0 _ _).trans (feq hc38_3).2) (by decide) (by decide) k) ?_
    show Go _ _ _ _ _ _ _ T2 (mkF m 46 #[.val (.long p0), .second, .val (.long p1), .second, .val (.int p2), .val (.int p3), .val (.int p4), .val (.int p5), .val (.double (FP.ddiv (FP.i2d p4) (4616189618054758400 : UInt64))), .second, .val (.double (FP.i2d p2)), .second, .val (.ref b1), .val (.int (p3 &&& (2147483647 : Int32))), .unset, .unset, .unset, .unset, .unset, .unset] [])
    refine Go.step (fun _ k => XS.iconst X2.here hx rfl (hb hby at_46) k) ?_
    show Go _ _ _ _ _ _ _ T2 (mkF m 47 #[.val (.long p0), .second, .val (.long p1), .second, .val (.int p2), .val (.int p3), .val (.int p4), .val (.int p5), .val (.double (FP.ddiv (FP.i2d p4) (4616189618054758400 : UInt64))), .second, .val (.double (FP.i2d p2)), .second, .val (.ref b1), .val (.int (p3 &&& (2147483647 : Int32))), .unset, .unset, .unset, .unset, .unset, .unset] [(.int (1 : Int32))])
    refine Go.step (fun _ k => XS.goto X2.here hx rfl (pc0 := 47) (pc' := 51) rfl (hb hby at_47) (by decide) (by decide) k) ?_
    show Go _ _ _ _ _ _ _ T2 (mkF m 51 #[.val (.long p0), .second, .val (.long p1), .second, .val (.int p2), .val (.int p3), .val (.int p4), .val (.int p5), .val (.double (FP.ddiv (FP.i2d p4) (4616189618054758400 : UInt64))), .second, .val (.double (FP.i2d p2)), .second, .val (.ref b1), .val (.int (p3 &&& (2147483647 : Int32))), .unset, .unset, .unset, .unset, .unset, .unset] [(.int (1 : Int32))])
    refine Go.step (fun _ k => XS.istore X2.here hx rfl (hb hby at_51) rfl (l' := #[.val (.long p0), .second, .val (.long p1), .second, .val (.int p2), .val (.int p3), .val (.int p4), .val (.int p5), .val (.double (FP.ddiv (FP.i2d p4) (4616189618054758400 : UInt64))), .second, .val (.double (FP.i2d p2)), .second, .val (.ref b1), .val (.int (p3 &&& (2147483647 : Int32))), .val (.int (1 : Int32)), .unset, .unset, .unset, .unset, .unset]) rfl k) ?_
    show Go _ _ _ _ _ _ _ T2 (mkF m 53 #[.val (.long p0), .second, .val (.long p1), .second, .val (.int p2), .val (.int p3), .val (.int p4), .val (.int p5), .val (.double (FP.ddiv (FP.i2d p4) (4616189618054758400 : UInt64))), .second, .val (.double (FP.i2d p2)), .second, .val (.ref b1), .val (.int (p3 &&& (2147483647 : Int32))), .val (.int (1 : Int32)), .unset, .unset, .unset, .unset, .unset] [])
    refine Go.step (fun _ k => XS.iload X2.here hx rfl (hb hby at_53) rfl k) ?_
    show Go _ _ _ _ _ _ _ T2 (mkF m 55 #[.val (.long p0), .second, .val (.long p1), .second, .val (.int p2), .val (.int p3), .val (.int p4), .val (.int p5), .val (.double (FP.ddiv (FP.i2d p4) (4616189618054758400 : UInt64))), .second, .val (.double (FP.i2d p2)), .second, .val (.ref b1), .val (.int (p3 &&& (2147483647 : Int32))), .val (.int (1 : Int32)), .unset, .unset, .unset, .unset, .unset] [(.int (1 : Int32))])
    refine Go.step (fun _ k => XS.ifNo X2.here hx rfl (hb hby at_55) rfl ((if0 _ _).trans (feq (by decide : ¬ ((1 : Int32) = (0 : Int32)))).1) k) ?_
    show Go _ _ _ _ _ _ _ T2 (mkF m 58 #[.val (.long p0), .second, .val (.long p1), .second, .val (.int p2), .val (.int p3), .val (.int p4), .val (.int p5), .val (.double (FP.ddiv (FP.i2d p4) (4616189618054758400 : UInt64))), .second, .val (.double (FP.i2d p2)), .second, .val (.ref b1), .val (.int (p3 &&& (2147483647 : Int32))), .val (.int (1 : Int32)), .unset, .unset, .unset, .unset, .unset] [])
    refine Go.step (fun _ k => XS.dconst0 X2.here hx rfl (hb hby at_58) rfl k) ?_
    show Go _ _ _ _ _ _ _ T2 (mkF m 59 #[.val (.long p0), .second, .val (.long p1), .second, .val (.int p2), .val (.int p3), .val (.int p4), .val (.int p5), .val (.double (FP.ddiv (FP.i2d p4) (4616189618054758400 : UInt64))), .second, .val (.double (FP.i2d p2)), .second, .val (.ref b1), .val (.int (p3 &&& (2147483647 : Int32))), .val (.int (1 : Int32)), .unset, .unset, .unset, .unset, .unset] [(.double (0 : UInt64))])
    refine Go.step (fun _ k => XS.goto X2.here hx rfl (pc0 := 59) (pc' := 69) rfl (hb hby at_59) (by decide) (by decide) k) ?_
    show Go _ _ _ _ _ _ _ T2 (mkF m 69 #[.val (.long p0), .second, .val (.long p1), .second, .val (.int p2), .val (.int p3), .val (.int p4), .val (.int p5), .val (.double (FP.ddiv (FP.i2d p4) (4616189618054758400 : UInt64))), .second, .val (.double (FP.i2d p2)), .second, .val (.ref b1), .val (.int (p3 &&& (2147483647 : Int32))), .val (.int (1 : Int32)), .unset, .unset, .unset, .unset, .unset] [(.double (0 : UInt64))])
    refine Go.step (fun _ k => XS.dstore X2.here hx rfl (hb hby at_69) rfl (l' := #[.val (.long p0), .second, .val (.long p1), .second, .val (.int p2), .val (.int p3), .val (.int p4), .val (.int p5), .val (.double (FP.ddiv (FP.i2d p4) (4616189618054758400 : UInt64))), .second, .val (.double (FP.i2d p2)), .second, .val (.ref b1), .val (.int (p3 &&& (2147483647 : Int32))), .val (.int (1 : Int32)), .val (.double (0 : UInt64)), .second, .unset, .unset, .unset]) rfl k) ?_
    show Go _ _ _ _ _ _ _ T2 (mkF m 71 #[.val (.long p0), .second, .val (.long p1), .second, .val (.int p2), .val (.int p3), .val (.int p4), .val (.int p5), .val (.double (FP.ddiv (FP.i2d p4) (4616189618054758400 : UInt64))), .second, .val (.double (FP.i2d p2)), .second, .val (.ref b1), .val (.int (p3 &&& (2147483647 : Int32))), .val (.int (1 : Int32)), .val (.double (0 : UInt64)), .second, .unset, .unset, .unset] [])
    obtain ⟨T15, h15, X15, e15, E15, A15, D15, -, st15⟩ := newO X2 hx hZ hown (hw _ (List.mem_of_getElem? (i := 1) rfl)) (hw _ (List.mem_of_getElem? (i := 2) rfl)) (hw _ (List.mem_of_getElem? (i := 3) rfl)) rfl (g := (mkF m 71 #[.val (.long p0), .second, .val (.long p1), .second, .val (.int p2), .val (.int p3), .val (.int p4), .val (.int p5), .val (.double (FP.ddiv (FP.i2d p4) (4616189618054758400 : UInt64))), .second, .val (.double (FP.i2d p2)), .second, .val (.ref b1), .val (.int (p3 &&& (2147483647 : Int32))), .val (.int (1 : Int32)), .val (.double (0 : UInt64)), .second, .unset, .unset, .unset] [])) rfl (hb hby at_71) (by decide) (by decide)
    obtain ⟨b15, g15⟩ : ∃ z, z = T2.heap.size := ⟨_, rfl⟩
    rw [← g15] at A15 D15 st15
    refine Go.step st15 ?_
    have K15 : Keep h0 h15 [] := KK2.ext E15
    have sz_b15 : h0.size ≤ b15 := Nat.le_trans (KK2 : Keep h0 T2.heap []).1 (Nat.le_of_eq g15.symm)
    have ge_b15 : n0 ≤ b15 := Nat.le_trans Z0 sz_b15
    have ne_b1_b15 : b1 ≠ b15 := Nat.ne_of_lt (Nat.lt_of_lt_of_le Ec2.lt (Nat.le_of_eq g15.symm))
    have Ec2_15 := Ec2.ext E15
    have Fc2_15 := Fc2.ext E15
    have Fu2_15 := Fu2.ext E15
    have E_b15 := A15
    have F_recordsIn_b15 : Fld Z h15 b15 "tidewatch/decision/Snapshot$Instance" "recordsIn" "J" (.long (0 : Int64)) := D15 (Or.inr (hw _ (List.mem_of_getElem? (i := 37) rfl))) (ty := .long) (by decide)
    have F_recordsOut_b15 : Fld Z h15 b15 "tidewatch/decision/Snapshot$Instance" "recordsOut" "J" (.long (0 : Int64)) := D15 (Or.inr (hw _ (List.mem_of_getElem? (i := 39) rfl))) (ty := .long) (by decide)
    have F_usefulSeconds_b15 : Fld Z h15 b15 "tidewatch/decision/Snapshot$Instance" "usefulSeconds" "Ljava/util/OptionalDouble;" .null := D15 (Or.inr (hw _ (List.mem_of_getElem? (i := 41) rfl))) (ty := (.object "java/util/OptionalDouble")) (by decide)
    have F_countedSeconds_b15 : Fld Z h15 b15 "tidewatch/decision/Snapshot$Instance" "countedSeconds" "D" (.double (0 : UInt64)) := D15 (Or.inr (hw _ (List.mem_of_getElem? (i := 43) rfl))) (ty := .double) (by decide)
    show Go _ _ _ _ _ _ _ T15 (mkF m 74 #[.val (.long p0), .second, .val (.long p1), .second, .val (.int p2), .val (.int p3), .val (.int p4), .val (.int p5), .val (.double (FP.ddiv (FP.i2d p4) (4616189618054758400 : UInt64))), .second, .val (.double (FP.i2d p2)), .second, .val (.ref b1), .val (.int (p3 &&& (2147483647 : Int32))), .val (.int (1 : Int32)), .val (.double (0 : UInt64)), .second, .unset, .unset, .unset] [(.ref b15)])
    refine Go.step (fun _ k => XS.dup X15.here hx rfl (hb hby at_74) rfl rfl k) ?_
    show Go _ _ _ _ _ _ _ T15 (mkF m 75 #[.val (.long p0), .second, .val (.long p1), .second, .val (.int p2), .val (.int p3), .val (.int p4), .val (.int p5), .val (.double (FP.ddiv (FP.i2d p4) (4616189618054758400 : UInt64))), .second, .val (.double (FP.i2d p2)), .second, .val (.ref b1), .val (.int (p3 &&& (2147483647 : Int32))), .val (.int (1 : Int32)), .val (.double (0 : UInt64)), .second, .unset, .unset, .unset] [(.ref b15), (.ref b15)])
    refine Go.step (fun _ k => XS.lloadN X15.here hx rfl (hb hby at_75) rfl k) ?_
    show Go _ _ _ _ _ _ _ T15 (mkF m 76 #[.val (.long p0), .second, .val (.long p1), .second, .val (.int p2), .val (.int p3), .val (.int p4), .val (.int p5), .val (.double (FP.ddiv (FP.i2d p4) (4616189618054758400 : UInt64))), .second, .val (.double (FP.i2d p2)), .second, .val (.ref b1), .val (.int (p3 &&& (2147483647 : Int32))), .val (.int (1 : Int32)), .val (.double (0 : UInt64)), .second, .unset, .unset, .unset] [(.long p0), (.ref b15), (.ref b15)])
    refine Go.step (fun _ k => XS.lloadN X15.here hx rfl (hb hby at_76) rfl k) ?_
    show Go _ _ _ _ _ _ _ T15 (mkF m 77 #[.val (.long p0), .second, .val (.long p1), .second, .val (.int p2), .val (.int p3), .val (.int p4), .val (.int p5), .val (.double (FP.ddiv (FP.i2d p4) (4616189618054758400 : UInt64))), .second, .val (.double (FP.i2d p2)), .second, .val (.ref b1), .val (.int (p3 &&& (2147483647 : Int32))), .val (.int (1 : Int32)), .val (.double (0 : UInt64)), .second, .unset, .unset, .unset] [(.long p1), (.long p0), (.ref b15), (.ref b15)])
    refine Go.step (fun _ k => XS.aload X15.here hx rfl (hb hby at_77) rfl rfl k) ?_
    show Go _ _ _ _ _ _ _ T15 (mkF m 79 #[.val (.long p0), .second, .val (.long p1), .second, .val (.int p2), .val (.int p3), .val (.int p4), .val (.int p5), .val (.double (FP.ddiv (FP.i2d p4) (4616189618054758400 : UInt64))), .second, .val (.double (FP.i2d p2)), .second, .val (.ref b1), .val (.int (p3 &&& (2147483647 : Int32))), .val (.int (1 : Int32)), .val (.double (0 : UInt64)), .second, .unset, .unset, .unset] [(.ref b1), (.long p1), (.long p0), (.ref b15), (.ref b15)])
    refine Go.callV X15 hx hZ (by rw [hml]; rfl) (y := (⟨"tidewatch/decision/Snapshot$Instance", "usefulSeconds", "()Ljava/util/OptionalDouble;"⟩ : MethodName)) (z := (⟨"tidewatch/decision/Snapshot$Instance", "usefulSeconds", "()Ljava/util/OptionalDouble;"⟩ : MethodName)) (a := b1) (argsL := []) (rest := [(.long p1), (.long p0), (.ref b15), (.ref b15)]) hown (hw _ (List.mem_of_getElem? (i := 46) rfl)) (hw _ (List.mem_of_getElem? (i := 47) rfl)) (notFace_of_selects (args := #[]) (mvT hZ (hw _ (List.mem_of_getElem? (i := 49) rfl)))) (hw _ (List.mem_of_getElem? (i := 49) rfl)) (hw _ (List.mem_of_getElem? (i := 48) rfl)) (hw _ (List.mem_of_getElem? (i := 3) rfl)) (hw _ (List.mem_of_getElem? (i := 50) rfl)) (by decide) (rm8 l Z a0 hw b1 u2 h15 n0 (Nat.le_trans Z0 (K15 : Keep h0 h15 []).1) Fu2_15) e15 Ec2_15 (hb hby at_79) (lenOf pd_6 rfl) rfl rfl (W := 6) (Nat.le_of_eq rfl) (by decide) (by decide) (by decide) (by decide) ?_
    intro v16 T16 L16 X16 Q16
    obtain ⟨rfl, N16q, hh16⟩ := Q16
    have N16 := Fr.app N2 N16q
    show Go _ _ _ _ _ _ _ T16 (mkF m 82 #[.val (.long p0), .second, .val (.long p1), .second, .val (.int p2), .val (.int p3), .val (.int p4), .val (.int p5), .val (.double (FP.ddiv (FP.i2d p4) (4616189618054758400 : UInt64))), .second, .val (.double (FP.i2d p2)), .second, .val (.ref b1), .val (.int (p3 &&& (2147483647 : Int32))), .val (.int (1 : Int32)), .val (.double (0 : UInt64)), .second, .unset, .unset, .unset] [(.ref u2), (.long p1), (.long p0), (.ref b15), (.ref b15)])
    refine Go.step (fun _ k => XS.dload X16.here hx rfl (hb hby at_82) rfl k) ?_
    show Go _ _ _ _ _ _ _ T16 (mkF m 84 #[.val (.long p0), .second, .val (.long p1), .second, .val (.int p2), .val (.int p3), .val (.int p4), .val (.int p5), .val (.double (FP.ddiv (FP.i2d p4) (4616189618054758400 : UInt64))), .second, .val (.double (FP.i2d p2)), .second, .val (.ref b1), .val (.int (p3 &&& (2147483647 : Int32))), .val (.int (1 : Int32)), .val (.double (0 : UInt64)), .second, .unset, .unset, .unset] [(.double (0 : UInt64)), (.ref u2), (.long p1), (.long p0), (.ref b15), (.ref b15)])
    refine Go.callI X16 hx hZ (by rw [hml]; rfl) (y := (⟨"tidewatch/decision/Snapshot$Instance", "<init>", "(JJLjava/util/OptionalDouble;D)V"⟩ : MethodName)) (a := b15) (argsL := [(.long p0), (.long p1), (.ref u2), (.double (0 : UInt64))]) (rest := [(.ref b15)]) rfl hown (hw _ (List.mem_of_getElem? (i := 51) rfl)) (hw _ (List.mem_of_getElem? (i := 28) rfl)) (hw _ (List.mem_of_getElem? (i := 3) rfl)) (hw _ (List.mem_of_getElem? (i := 29) rfl)) (by decide) (rm6 l Z a0 hw b15 p0 p1 u2 (0 : UInt64) h15 n0 (Nat.le_trans Z0 (K15 : Keep h0 h15 []).1) E_b15 F_recordsIn_b15 F_recordsOut_b15 F_usefulSeconds_b15 F_countedSeconds_b15 ge_b15 ) hh16 (hb hby at_84) (lenOf pd_1 rfl) rfl rfl (W := 1) (Nat.le_of_eq rfl) (by decide) (by decide) (by decide) (by decide) ?_
    intro v17 T17 L17 X17 Q17
    obtain ⟨rfl, N17q, Kc17, Ec17, F17_recordsIn_b15, F17_recordsOut_b15, F17_usefulSeconds_b15, F17_countedSeconds_b15⟩ := Q17
    have N17 := Fr.app N16 N17q
    have Ec2_17 := Ec2_15.keep Kc17
    have Fc2_17 := Fc2_15.keep Kc17 (ninS ne_b1_b15 nin0)
    have Fu2_17 := Fu2_15.keep Kc17 (ninS ne_b1_b15 nin0)
    have E_b15_17 := E_b15.keep Kc17
    have KK17 : Keep h0 T17.heap [] := (K15 : Keep h0 h15 []).trans Kc17 (allS (Or.inr sz_b15) all0)
    show Go _ _ _ _ _ _ _ T17 (mkF m 87 #[.val (.long p0), .second, .val (.long p1), .second, .val (.int p2), .val (.int p3), .val (.int p4), .val (.int p5), .val (.double (FP.ddiv (FP.i2d p4) (4616189618054758400 : UInt64))), .second, .val (.double (FP.i2d p2)), .second, .val (.ref b1), .val (.int (p3 &&& (2147483647 : Int32))), .val (.int (1 : Int32)), .val (.double (0 : UInt64)), .second, .unset, .unset, .unset] [(.ref b15)])
    refine Go.step (fun _ k => XS.astore X17.here hx rfl (hb hby at_87) rfl rfl (l' := #[.val (.long p0), .second, .val (.long p1), .second, .val (.int p2), .val (.int p3), .val (.int p4), .val (.int p5), .val (.double (FP.ddiv (FP.i2d p4) (4616189618054758400 : UInt64))), .second, .val (.double (FP.i2d p2)), .second, .val (.ref b1), .val (.int (p3 &&& (2147483647 : Int32))), .val (.int (1 : Int32)), .val (.double (0 : UInt64)), .second, .val (.ref b15), .unset, .unset]) rfl k) ?_
    show Go _ _ _ _ _ _ _ T17 (mkF m 89 #[.val (.long p0), .second, .val (.long p1), .second, .val (.int p2), .val (.int p3), .val (.int p4), .val (.int p5), .val (.double (FP.ddiv (FP.i2d p4) (4616189618054758400 : UInt64))), .second, .val (.double (FP.i2d p2)), .second, .val (.ref b1), .val (.int (p3 &&& (2147483647 : Int32))), .val (.int (1 : Int32)), .val (.double (0 : UInt64)), .second, .val (.ref b15), .unset, .unset] [])
    refine Go.step (fun _ k => XS.iload X17.here hx rfl (hb hby at_89) rfl k) ?_
    show Go _ _ _ _ _ _ _ T17 (mkF m 91 #[.val (.long p0), .second, .val (.long p1), .second, .val (.int p2), .val (.int p3), .val (.int p4), .val (.int p5), .val (.double (FP.ddiv (FP.i2d p4) (4616189618054758400 : UInt64))), .second, .val (.double (FP.i2d p2)), .second, .val (.ref b1), .val (.int (p3 &&& (2147483647 : Int32))), .val (.int (1 : Int32)), .val (.double (0 : UInt64)), .second, .val (.ref b15), .unset, .unset] [(.int (1 : Int32))])
    refine Go.step (fun _ k => XS.ifNo X17.here hx rfl (hb hby at_91) rfl ((if0 _ _).trans (feq (by decide : ¬ ((1 : Int32) = (0 : Int32)))).1) k) ?_
    show Go _ _ _ _ _ _ _ T17 (mkF m 94 #[.val (.long p0), .second, .val (.long p1), .second, .val (.int p2), .val (.int p3), .val (.int p4), .val (.int p5), .val (.double (FP.ddiv (FP.i2d p4) (4616189618054758400 : UInt64))), .second, .val (.double (FP.i2d p2)), .second, .val (.ref b1), .val (.int (p3 &&& (2147483647 : Int32))), .val (.int (1 : Int32)), .val (.double (0 : UInt64)), .second, .val (.ref b15), .unset, .unset] [])
    refine Go.step (fun _ k => XS.dload X17.here hx rfl (hb hby at_94) rfl k) ?_
    show Go _ _ _ _ _ _ _ T17 (mkF m 96 #[.val (.long p0), .second, .val (.long p1), .second, .val (.int p2), .val (.int p3), .val (.int p4), .val (.int p5), .val (.double (FP.ddiv (FP.i2d p4) (4616189618054758400 : UInt64))), .second, .val (.double (FP.i2d p2)), .second, .val (.ref b1), .val (.int (p3 &&& (2147483647 : Int32))), .val (.int (1 : Int32)), .val (.double (0 : UInt64)), .second, .val (.ref b15), .unset, .unset] [(.double (FP.ddiv (FP.i2d p4) (4616189618054758400 : UInt64)))])
    refine Go.step (fun _ k => XS.dstore X17.here hx rfl (hb hby at_96) rfl (l' := #[.val (.long p0), .second, .val (.long p1), .second, .val (.int p2), .val (.int p3), .val (.int p4), .val (.int p5), .val (.double (FP.ddiv (FP.i2d p4) (4616189618054758400 : UInt64))), .second, .val (.double (FP.i2d p2)), .second, .val (.ref b1), .val (.int (p3 &&& (2147483647 : Int32))), .val (.int (1 : Int32)), .val (.double (0 : UInt64)), .second, .val (.ref b15), .val (.double (FP.ddiv (FP.i2d p4) (4616189618054758400 : UInt64))), .second]) rfl k) ?_
    show Go _ _ _ _ _ _ _ T17 (mkF m 98 #[.val (.long p0), .second, .val (.long p1), .second, .val (.int p2), .val (.int p3), .val (.int p4), .val (.int p5), .val (.double (FP.ddiv (FP.i2d p4) (4616189618054758400 : UInt64))), .second, .val (.double (FP.i2d p2)), .second, .val (.ref b1), .val (.int (p3 &&& (2147483647 : Int32))), .val (.int (1 : Int32)), .val (.double (0 : UInt64)), .second, .val (.ref b15), .val (.double (FP.ddiv (FP.i2d p4) (4616189618054758400 : UInt64))), .second] [])
    refine Go.step (fun _ k => XS.goto X17.here hx rfl (pc0 := 98) (pc' := 105) rfl (hb hby at_98) (by decide) (by decide) k) ?_
    show Go _ _ _ _ _ _ _ T17 (mkF m 105 #[.val (.long p0), .second, .val (.long p1), .second, .val (.int p2), .val (.int p3), .val (.int p4), .val (.int p5), .val (.double (FP.ddiv (FP.i2d p4) (4616189618054758400 : UInt64))), .second, .val (.double (FP.i2d p2)), .second, .val (.ref b1), .val (.int (p3 &&& (2147483647 : Int32))), .val (.int (1 : Int32)), .val (.double (0 : UInt64)), .second, .val (.ref b15), .val (.double (FP.ddiv (FP.i2d p4) (4616189618054758400 : UInt64))), .second] [])
    refine Go.step (fun _ k => XS.aload X17.here hx rfl (hb hby at_105) rfl rfl k) ?_
    show Go _ _ _ _ _ _ _ T17 (mkF m 107 #[.val (.long p0), .second, .val (.long p1), .second, .val (.int p2), .val (.int p3), .val (.int p4), .val (.int p5), .val (.double (FP.ddiv (FP.i2d p4) (4616189618054758400 : UInt64))), .second, .val (.double (FP.i2d p2)), .second, .val (.ref b1), .val (.int (p3 &&& (2147483647 : Int32))), .val (.int (1 : Int32)), .val (.double (0 : UInt64)), .second, .val (.ref b15), .val (.double (FP.ddiv (FP.i2d p4) (4616189618054758400 : UInt64))), .second] [(.ref b1)])
    refine Go.step (fun _ k => XS.dload X17.here hx rfl (hb hby at_107) rfl k) ?_
    show Go _ _ _ _ _ _ _ T17 (mkF m 109 #[.val (.long p0), .second, .val (.long p1), .second, .val (.int p2), .val (.int p3), .val (.int p4), .val (.int p5), .val (.double (FP.ddiv (FP.i2d p4) (4616189618054758400 : UInt64))), .second, .val (.double (FP.i2d p2)), .second, .val (.ref b1), .val (.int (p3 &&& (2147483647 : Int32))), .val (.int (1 : Int32)), .val (.double (0 : UInt64)), .second, .val (.ref b15), .val (.double (FP.ddiv (FP.i2d p4) (4616189618054758400 : UInt64))), .second] [(.double (FP.ddiv (FP.i2d p4) (4616189618054758400 : UInt64))), (.ref b1)])
    refine Go.callV X17 hx hZ (by rw [hml]; rfl) (y := (⟨"tidewatch/decision/Snapshot$Instance", "countedSecondsIn", "(D)D"⟩ : MethodName)) (z := (⟨"tidewatch/decision/Snapshot$Instance", "countedSecondsIn", "(D)D"⟩ : MethodName)) (a := b1) (argsL := [(.double (FP.ddiv (FP.i2d p4) (4616189618054758400 : UInt64)))]) (rest := []) hown (hw _ (List.mem_of_getElem? (i := 52) rfl)) (hw _ (List.mem_of_getElem? (i := 53) rfl)) (notFace_of_selects (args := #[]) (mvT hZ (hw _ (List.mem_of_getElem? (i := 55) rfl)))) (hw _ (List.mem_of_getElem? (i := 55) rfl)) (hw _ (List.mem_of_getElem? (i := 54) rfl)) (hw _ (List.mem_of_getElem? (i := 3) rfl)) (hw _ (List.mem_of_getElem? (i := 56) rfl)) (by decide) (rm9 l Z a0 hw b1 (FP.ddiv (FP.i2d p4) (4616189618054758400 : UInt64)) (0 : UInt64) T17.heap n0 (Nat.le_trans Z0 (KK17 : Keep h0 T17.heap []).1) Fc2_17) rfl Ec2_17 (hb hby at_109) (lenOf pd_7 rfl) rfl rfl (W := 0) (Nat.le_of_eq rfl) (by decide) (by decide) (by decide) (by decide) ?_
    intro v18 T18 L18 X18 Q18
    obtain ⟨rfl, N18q, hh18⟩ := Q18
    have N18 := Fr.app N17 N18q
    show Go _ _ _ _ _ _ _ T18 (mkF m 112 #[.val (.long p0), .second, .val (.long p1), .second, .val (.int p2), .val (.int p3), .val (.int p4), .val (.int p5), .val (.double (FP.ddiv (FP.i2d p4) (4616189618054758400 : UInt64))), .second, .val (.double (FP.i2d p2)), .second, .val (.ref b1), .val (.int (p3 &&& (2147483647 : Int32))), .val (.int (1 : Int32)), .val (.double (0 : UInt64)), .second, .val (.ref b15), .val (.double (FP.ddiv (FP.i2d p4) (4616189618054758400 : UInt64))), .second] [(.double (cW (0 : UInt64) (FP.ddiv (FP.i2d p4) (4616189618054758400 : UInt64))))])
    refine Go.step (fun _ k => XS.dload X18.here hx rfl (hb hby at_112) rfl k) ?_
    show Go _ _ _ _ _ _ _ T18 (mkF m 114 #[.val (.long p0), .second, .val (.long p1), .second, .val (.int p2), .val (.int p3), .val (.int p4), .val (.int p5), .val (.double (FP.ddiv (FP.i2d p4) (4616189618054758400 : UInt64))), .second, .val (.double (FP.i2d p2)), .second, .val (.ref b1), .val (.int (p3 &&& (2147483647 : Int32))), .val (.int (1 : Int32)), .val (.double (0 : UInt64)), .second, .val (.ref b15), .val (.double (FP.ddiv (FP.i2d p4) (4616189618054758400 : UInt64))), .second] [(.double (FP.ddiv (FP.i2d p4) (4616189618054758400 : UInt64))), (.double (cW (0 : UInt64) (FP.ddiv (FP.i2d p4) (4616189618054758400 : UInt64))))])
    refine Go.step (fun _ k => XS.dcmpS X18.here hx rfl (hb hby at_114) rfl rfl k) ?_
    show Go _ _ _ _ _ _ _ T18 (mkF m 115 #[.val (.long p0), .second, .val (.long p1), .second, .val (.int p2), .val (.int p3), .val (.int p4), .val (.int p5), .val (.double (FP.ddiv (FP.i2d p4) (4616189618054758400 : UInt64))), .second, .val (.double (FP.i2d p2)), .second, .val (.ref b1), .val (.int (p3 &&& (2147483647 : Int32))), .val (.int (1 : Int32)), .val (.double (0 : UInt64)), .second, .val (.ref b15), .val (.double (FP.ddiv (FP.i2d p4) (4616189618054758400 : UInt64))), .second] [(.int (cmpValue (FP.dcmp (cW (0 : UInt64) (FP.ddiv (FP.i2d p4) (4616189618054758400 : UInt64))) (FP.ddiv (FP.i2d p4) (4616189618054758400 : UInt64))) .l))])
    refine Go.step (fun _ k => XS.ifNo X18.here hx rfl (hb hby at_115) rfl (eq_y .l (own_eqD (own_cW0 _) (by rw [own_cW0]; exact (Jvm.Free.Fl.ddiv_out (Jvm.Free.Fl.i2d_fin _).noNaN (by first | decide +kernel | (unfold Jvm.Free.Fl.Fin64; decide +kernel) | (unfold Jvm.Free.Fl.Nz64; decide +kernel) | (unfold Jvm.Free.Fl.NoNaN64; decide +kernel) : Jvm.Free.Fl.Fin64 4616189618054758400) (by first | decide +kernel | (unfold Jvm.Free.Fl.Fin64; decide +kernel) | (unfold Jvm.Free.Fl.Nz64; decide +kernel) | (unfold Jvm.Free.Fl.NoNaN64; decide +kernel)))))).1 k) ?_
    show Go _ _ _ _ _ _ _ T18 (mkF m 118 #[.val (.long p0), .second, .val (.long p1), .second, .val (.int p2), .val (.int p3), .val (.int p4), .val (.int p5), .val (.double (FP.ddiv (FP.i2d p4) (4616189618054758400 : UInt64))), .second, .val (.double (FP.i2d p2)), .second, .val (.ref b1), .val (.int (p3 &&& (2147483647 : Int32))), .val (.int (1 : Int32)), .val (.double (0 : UInt64)), .second, .val (.ref b15), .val (.double (FP.ddiv (FP.i2d p4) (4616189618054758400 : UInt64))), .second] [])
    refine Go.step (fun _ k => XS.aload X18.here hx rfl (hb hby at_118) rfl rfl k) ?_
    show Go _ _ _ _ _ _ _ T18 (mkF m 120 #[.val (.long p0), .second, .val (.long p1), .second, .val (.int p2), .val (.int p3), .val (.int p4), .val (.int p5), .val (.double (FP.ddiv (FP.i2d p4) (4616189618054758400 : UInt64))), .second, .val (.double (FP.i2d p2)), .second, .val (.ref b1), .val (.int (p3 &&& (2147483647 : Int32))), .val (.int (1 : Int32)), .val (.double (0 : UInt64)), .second, .val (.ref b15), .val (.double (FP.ddiv (FP.i2d p4) (4616189618054758400 : UInt64))), .second] [(.ref b15)])
    refine Go.step (fun _ k => XS.dload X18.here hx rfl (hb hby at_120) rfl k) ?_
    show Go _ _ _ _ _ _ _ T18 (mkF m 122 #[.val (.long p0), .second, .val (.long p1), .second, .val (.int p2), .val (.int p3), .val (.int p4), .val (.int p5), .val (.double (FP.ddiv (FP.i2d p4) (4616189618054758400 : UInt64))), .second, .val (.double (FP.i2d p2)), .second, .val (.ref b1), .val (.int (p3 &&& (2147483647 : Int32))), .val (.int (1 : Int32)), .val (.double (0 : UInt64)), .second, .val (.ref b15), .val (.double (FP.ddiv (FP.i2d p4) (4616189618054758400 : UInt64))), .second] [(.double (FP.ddiv (FP.i2d p4) (4616189618054758400 : UInt64))), (.ref b15)])
    refine Go.callV X18 hx hZ (by rw [hml]; rfl) (y := (⟨"tidewatch/decision/Snapshot$Instance", "countedSecondsIn", "(D)D"⟩ : MethodName)) (z := (⟨"tidewatch/decision/Snapshot$Instance", "countedSecondsIn", "(D)D"⟩ : MethodName)) (a := b15) (argsL := [(.double (FP.ddiv (FP.i2d p4) (4616189618054758400 : UInt64)))]) (rest := []) hown (hw _ (List.mem_of_getElem? (i := 52) rfl)) (hw _ (List.mem_of_getElem? (i := 53) rfl)) (notFace_of_selects (args := #[]) (mvT hZ (hw _ (List.mem_of_getElem? (i := 55) rfl)))) (hw _ (List.mem_of_getElem? (i := 55) rfl)) (hw _ (List.mem_of_getElem? (i := 54) rfl)) (hw _ (List.mem_of_getElem? (i := 3) rfl)) (hw _ (List.mem_of_getElem? (i := 56) rfl)) (by decide) (rm9 l Z a0 hw b15 (FP.ddiv (FP.i2d p4) (4616189618054758400 : UInt64)) (0 : UInt64) T17.heap n0 (Nat.le_trans Z0 (KK17 : Keep h0 T17.heap []).1) F17_countedSeconds_b15) hh18 E_b15_17 (hb hby at_122) (lenOf pd_7 rfl) rfl rfl (W := 0) (Nat.le_of_eq rfl) (by decide) (by decide) (by decide) (by decide) ?_
    intro v19 T19 L19 X19 Q19
    obtain ⟨rfl, N19q, hh19⟩ := Q19
    have N19 := Fr.app N18 N19q
    show Go _ _ _ _ _ _ _ T19 (mkF m 125 #[.val (.long p0), .second, .val (.long p1), .second, .val (.int p2), .val (.int p3), .val (.int p4), .val (.int p5), .val (.double (FP.ddiv (FP.i2d p4) (4616189618054758400 : UInt64))), .second, .val (.double (FP.i2d p2)), .second, .val (.ref b1), .val (.int (p3 &&& (2147483647 : Int32))), .val (.int (1 : Int32)), .val (.double (0 : UInt64)), .second, .val (.ref b15), .val (.double (FP.ddiv (FP.i2d p4) (4616189618054758400 : UInt64))), .second] [(.double (cW (0 : UInt64) (FP.ddiv (FP.i2d p4) (4616189618054758400 : UInt64))))])
    refine Go.step (fun _ k => XS.dload X19.here hx rfl (hb hby at_125) rfl k) ?_
    show Go _ _ _ _ _ _ _ T19 (mkF m 127 #[.val (.long p0), .second, .val (.long p1), .second, .val (.int p2), .val (.int p3), .val (.int p4), .val (.int p5), .val (.double (FP.ddiv (FP.i2d p4) (4616189618054758400 : UInt64))), .second, .val (.double (FP.i2d p2)), .second, .val (.ref b1), .val (.int (p3 &&& (2147483647 : Int32))), .val (.int (1 : Int32)), .val (.double (0 : UInt64)), .second, .val (.ref b15), .val (.double (FP.ddiv (FP.i2d p4) (4616189618054758400 : UInt64))), .second] [(.double (FP.ddiv (FP.i2d p4) (4616189618054758400 : UInt64))), (.double (cW (0 : UInt64) (FP.ddiv (FP.i2d p4) (4616189618054758400 : UInt64))))])
    refine Go.step (fun _ k => XS.dcmpS X19.here hx rfl (hb hby at_127) rfl rfl k) ?_
    show Go _ _ _ _ _ _ _ T19 (mkF m 128 #[.val (.long p0), .second, .val (.long p1), .second, .val (.int p2), .val (.int p3), .val (.int p4), .val (.int p5), .val (.double (FP.ddiv (FP.i2d p4) (4616189618054758400 : UInt64))), .second, .val (.double (FP.i2d p2)), .second, .val (.ref b1), .val (.int (p3 &&& (2147483647 : Int32))), .val (.int (1 : Int32)), .val (.double (0 : UInt64)), .second, .val (.ref b15), .val (.double (FP.ddiv (FP.i2d p4) (4616189618054758400 : UInt64))), .second] [(.int (cmpValue (FP.dcmp (cW (0 : UInt64) (FP.ddiv (FP.i2d p4) (4616189618054758400 : UInt64))) (FP.ddiv (FP.i2d p4) (4616189618054758400 : UInt64))) .l))])
    refine Go.step (fun _ k => XS.ifNo X19.here hx rfl (hb hby at_128) rfl (eq_y .l (own_eqD (own_cW0 _) (by rw [own_cW0]; exact (Jvm.Free.Fl.ddiv_out (Jvm.Free.Fl.i2d_fin _).noNaN (by first | decide +kernel | (unfold Jvm.Free.Fl.Fin64; decide +kernel) | (unfold Jvm.Free.Fl.Nz64; decide +kernel) | (unfold Jvm.Free.Fl.NoNaN64; decide +kernel) : Jvm.Free.Fl.Fin64 4616189618054758400) (by first | decide +kernel | (unfold Jvm.Free.Fl.Fin64; decide +kernel) | (unfold Jvm.Free.Fl.Nz64; decide +kernel) | (unfold Jvm.Free.Fl.NoNaN64; decide +kernel)))))).1 k) ?_
    show Go _ _ _ _ _ _ _ T19 (mkF m 131 #[.val (.long p0), .second, .val (.long p1), .second, .val (.int p2), .val (.int p3), .val (.int p4), .val (.int p5), .val (.double (FP.ddiv (FP.i2d p4) (4616189618054758400 : UInt64))), .second, .val (.double (FP.i2d p2)), .second, .val (.ref b1), .val (.int (p3 &&& (2147483647 : Int32))), .val (.int (1 : Int32)), .val (.double (0 : UInt64)), .second, .val (.ref b15), .val (.double (FP.ddiv (FP.i2d p4) (4616189618054758400 : UInt64))), .second] [])
    refine Go.step (fun _ k => XS.iconst X19.here hx rfl (hb hby at_131) k) ?_
    show Go _ _ _ _ _ _ _ T19 (mkF m 132 #[.val (.long p0), .second, .val (.long p1), .second, .val (.int p2), .val (.int p3), .val (.int p4), .val (.int p5), .val (.double (FP.ddiv (FP.i2d p4) (4616189618054758400 : UInt64))), .second, .val (.double (FP.i2d p2)), .second, .val (.ref b1), .val (.int (p3 &&& (2147483647 : Int32))), .val (.int (1 : Int32)), .val (.double (0 : UInt64)), .second, .val (.ref b15), .val (.double (FP.ddiv (FP.i2d p4) (4616189618054758400 : UInt64))), .second] [(.int (1 : Int32))])
    refine Go.step (fun _ k => XS.goto X19.here hx rfl (pc0 := 132) (pc' := 136) rfl (hb hby at_132) (by decide) (by decide) k) ?_
    show Go _ _ _ _ _ _ _ T19 (mkF m 136 #[.val (.long p0), .second, .val (.long p1), .second, .val (.int p2), .val (.int p3), .val (.int p4), .val (.int p5), .val (.double (FP.ddiv (FP.i2d p4) (4616189618054758400 : UInt64))), .second, .val (.double (FP.i2d p2)), .second, .val (.ref b1), .val (.int (p3 &&& (2147483647 : Int32))), .val (.int (1 : Int32)), .val (.double (0 : UInt64)), .second, .val (.ref b15), .val (.double (FP.ddiv (FP.i2d p4) (4616189618054758400 : UInt64))), .second] [(.int (1 : Int32))])
    refine Go.retZ X19 hx hlk hret (by decide) (hb hby at_136) (by decide) (by decide) ?_
    try rw [hh19]
    exact ⟨rfl, N19⟩
theorem pn_0 : plainName "tidewatch/decision/InstanceCountedSecondsInPinLaw" = true := by first | (simp [plainName, overriddenIn]; done) | decide +kernel
theorem ef_rm0 (m : MethodId) (p0 : Int64) (p1 : Int64) (p2 : Int32) (p3 : Int32) (p4 : Int32) (p5 : Int32) : entryFrame m #[(.long p0), (.long p1), (.int p2), (.int p3), (.int p4), (.int p5)] maxLocals = mkF m 0 #[.val (.long p0), .second, .val (.long p1), .second, .val (.int p2), .val (.int p3), .val (.int p4), .val (.int p5), .unset, .unset, .unset, .unset, .unset, .unset, .unset, .unset, .unset, .unset, .unset, .unset] [] := by first | (simp [entryFrame, mkF, argsToLocals, Value.category, maxLocals]; done) | rfl
theorem rm0 (l : Launch) (Z : State) (a0 : Array Value) (hw : ∀ d ∈ tables_1, d.before a0 Z = true) (ws : List Jvm.Cond) (p0 p1 : Int64) (p2 p3 p4 p5 : Int32) (h0 : Heap) (n0 : Nat) (Z0 : n0 ≤ h0.size)  :
    MetFree l x (head1 (Jvm.Cond.code x code maxLocals ret :: ws) room_1) (fun a U => a = #[(.long p0), (.long p1), (.int p2), (.int p3), (.int p4), (.int p5)] ∧ Z.Warmed39 U.vm ∧ U.heap = h0) (fun _ _ _ _ _ => True) (fun _ U o U' => ∃ v L, o = .returned v ∧ (fun r h L => r = some (.int 1) ∧ Fr n0 L) v U'.heap L ∧ FrameEnd U o U' L room_1.cells room_1.slots) :=
  con_of (plainFor_of_name pn_0) (fun p_ e_ s_ m_ b_ meth_ c_ T_ X_ hx hZ hby hml hown hnm hret hlk e0 => Go.cast (ef_rm0 m_ p0 p1 p2 p3 p4 p5) (w0 p0 p1 p2 p3 p4 p5 X_ hx hZ hw hby hml hown hnm hret hlk e0 Z0 (Fr.nil n0) ))
set_option maxRecDepth 65536 in
set_option maxHeartbeats 40000000 in
theorem comes_1 {Post : Tables → Env → Array Value → State → Outcome → State → Prop} (hpost : ∀ tb e args s v u, (limb_1_1.after args s (.returned v) u = true ∧ limb_1_2.after args s (.returned v) u = true ∧ True) → FrameEnd s (.returned v) u (Jvm.fieldLocs frame_1_writes args s ++ Jvm.arrayLocs frame_1_arrays args s ++ Jvm.staticLocs frame_1_statics s) 16 128 → Post tb e args s (.returned v) u) :
    ArmFor flags0 classFile x code maxLocals ret World_1 tables_1 room_1 Calls_1 rest_1 Pre_1 Post := by
  intro l hfl _ _ p e ha hc hk s m args below hf hA hF happ hP
  obtain ⟨hcalls, hrest, hpre⟩ := hP
  obtain ⟨-, -, -, hnamed, -, -, -, hat⟩ := (Spec.applies_iff hf).mp happ
  obtain ⟨hg, hn⟩ := and_e (Cond.before_iff.mp (show (Jvm.Cond.and given_1 narrow_1).before args s = true from hpre))
  obtain ⟨g1, g2⟩ := and_e hg
  obtain ⟨g3, g4⟩ := and_e g2
  obtain ⟨g5, g6⟩ := and_e g4
  obtain ⟨g7, g8⟩ := and_e g6
  obtain ⟨g9, g10⟩ := and_e g8
  obtain ⟨g11, g12⟩ := and_e g10
  obtain ⟨w0, w1, w2, w3, w4, w5, rfl⟩ : ∃ w0 w1 w2 w3 w4 w5 : Value, args = #[w0, w1, w2, w3, w4, w5] := by
    have hs : args.size = 6 := by simpa [Cond.value, given_1] using g1
    obtain ⟨L⟩ := args
    match L, hs with
    | [w0, w1, w2, w3, w4, w5], _ => exact ⟨w0, w1, w2, w3, w4, w5, rfl⟩
  have hw := fun d (hd : d ∈ tables_1) => atoms_spec (ws := Jvm.Cond.code x code maxLocals ret :: tables_1) hat d (List.mem_cons_of_mem _ hd)
  have hfit : Fit s := fun {y c} hc i hi => by
    obtain ⟨ha, rfl⟩ := Array.getElem?_eq_some_iff.mp hc
    have q := List.all_eq_true.mp ((Array.all_eq_true_iff_forall_mem.mp hF) _ (Array.getElem_mem ha)) i (List.mem_range.mpr hi)
    simpa [Array.getElem?_eq_getElem hi] using q
  obtain ⟨i0, ei0⟩ := isL_v g3
  obtain rfl : w0 = (.long i0) := Option.some.inj ei0
  obtain ⟨i1, ei1⟩ := isL_v g5
  obtain rfl : w1 = (.long i1) := Option.some.inj ei1
  obtain ⟨i2, ei2⟩ := is_v g7
  obtain rfl : w2 = (.int i2) := Option.some.inj ei2
  obtain ⟨i3, ei3⟩ := is_v g9
  obtain rfl : w3 = (.int i3) := Option.some.inj ei3
  obtain ⟨i4, ei4⟩ := is_v g11
  obtain rfl : w4 = (.int i4) := Option.some.inj ei4
  obtain ⟨i5, ei5⟩ := is_v g12
  obtain rfl : w5 = (.int i5) := Option.some.inj ei5
  obtain ⟨n, o, h1, h2, h3, _, L, rfl, ⟨rfl, N⟩, hq⟩ := rm0 l s _ hw tables_1 i0 i1 i2 i3 i4 i5 s.heap s.heap.size (Nat.le_refl _)  p e ha hc hk s m _ below hf ((Spec.applies_iff_loose hf).mp happ).1 ⟨rfl, State.Warmed39.refl s, rfl⟩ trivial
  refine ⟨n, _, h1, h2, h3, hpost _ _ _ _ _ _ ⟨Cond.after_iff.mpr rfl, Cond.after_iff.mpr (eq_i res_at (Term.int_eval (1)) rfl), trivial⟩ ⟨hq.1, hq.2.1, (hq.2.2.sift fun y hy => Or.inr (N y hy)).mono (by decide) (by decide)⟩⟩
theorem main_1_1 : Claimed_1_1 := comes_1 fun _ _ _ _ _ _ h hF => ⟨h.1, hF⟩
theorem main_1_2 : Claimed_1_2 := comes_1 fun _ _ _ _ _ _ h hF => ⟨h.2.1, hF⟩
end Jvm.Pilot.@@N@@
namespace Jvm.Pilot.@@N@@
open Jvm Jvm.ClassFile Sem Op Lib Jvm.Free Jvm.Stand Jvm.Pilot.@@N@@.Jvm.D
/-! MADE BY PROGRAM (witnessworld.py) out of the Statement's table words and the real class files: 9 classes; the members and pool entries that the words name. The judged class is class 1, her method 1. -/
namespace start1
open Jvm.ClassFile
def u (s : String) : CpInfo := .utf8 (stringToUtf16 s)
/-- a pool by its gaps: so many unusable entries, then the entry; so many at the end -/
def gap : Nat → List CpInfo → List CpInfo
  | 0, r => r
  | n + 1, r => .unusable :: gap n r
def poolList (es : List (Nat × CpInfo)) (last : Nat) : List CpInfo := es.foldr (fun e r => gap e.1 (e.2 :: r)) (gap last [])
def pool (es : List (Nat × CpInfo)) (last : Nat) : Array CpInfo := ⟨poolList es last⟩
def fileOf (pool : Array CpInfo) (this : Nat) (attrs : Array Attribute := #[]) (ms : Array MethodInfo := #[]) (fl : Nat := 33) (sup : Nat := 0) (ifs : Array Nat := #[]) (fds : Array FieldInfo := #[]) : ClassFile where
  minorVersion := 0
  majorVersion := 65
  constantPool := pool
  accessFlags := fl
  thisClass := this
  superClass := sup
  interfaces := ifs
  fields := fds
  methods := ms
  attributes := attrs
def plain (name : String) (sup : Option ClassId) : Class where
  name := name
  kind := .ordinary
  loader := none
  accessFlags := 33
  super := sup
  interfaces := #[]
  cf := none
  fields := #[]
  methods := #[]
  instanceTypes := #[]
  staticTypes := #[]
  resolved := #[]
  callSites := []
  init := .initialized
  statics := none
  mirror := none

def pool0 : Array CpInfo := pool [(5, u "<init>"), (0, u "()V"), (1, .class_ 10), (1, u "java/lang/Object")] 113

def k0c0 : Code := { maxStack := 0, maxLocals := 1, code := object_method_1_code, exceptionTable := #[], attributes := #[] }
def k0m0 : Method := { name := "<init>", desc := "()V", sig := { parameters := [], returnType := none }, accessFlags := 1, code := some k0c0 }
/-- java/lang/Object -/
def k0 : Class := { plain "java/lang/Object" none with
  accessFlags := 33
  interfaces := #[]
  cf := some (fileOf pool0 8 #[] #[{ accessFlags := 1, nameIndex := 5, descriptorIndex := 6, attributes := #[] }] 33 0 #[] #[])
  fields := #[]
  methods := #[k0m0]
  instanceTypes := #[]
  staticTypes := #[]
  resolved := Array.replicate 124 none
  statics := none }

def pool1 : Array CpInfo := pool [(2, .class_ 4), (1, u "java/lang/Object"), (0, u "<init>"), (0, u "()V"), (0, .double 4616189618054758400), (1, .class_ 10), (0, u "tidewatch/decision/Snapshot$Instance"), (0, .methodref 9 12), (0, .nameAndType 5 13), (0, u "(JJD)V"), (0, .integer 2147483647), (0, .double 4652218415073722368), (1, .methodref 9 18), (0, .nameAndType 19 20), (0, u "usefulSeconds"), (0, u "()Ljava/util/OptionalDouble;"), (0, .methodref 9 22), (0, .nameAndType 5 23), (0, u "(JJLjava/util/OptionalDouble;D)V"), (0, .methodref 9 25), (0, .nameAndType 26 27), (0, u "countedSecondsIn"), (0, u "(D)D"), (0, .class_ 29), (0, u "tidewatch/decision/InstanceCountedSecondsInPinLaw"), (2, u "law"), (0, u "(JJIIII)Z")] 7

def k1m0 : Method := { name := "<init>", desc := "()V", sig := { parameters := [], returnType := none }, accessFlags := 1, code := none }
def k1c1 : Code := { maxStack := 9, maxLocals := 20, code := code, exceptionTable := #[], attributes := #[] }
def k1m1 : Method := { name := "law", desc := "(JJIIII)Z", sig := { parameters := [.long, .long, .int, .int, .int, .int], returnType := some .boolean }, accessFlags := 9, code := some k1c1 }
/-- tidewatch/decision/InstanceCountedSecondsInPinLaw -/
def k1 : Class := { plain "tidewatch/decision/InstanceCountedSecondsInPinLaw" (some 0) with
  accessFlags := 49
  interfaces := #[]
  cf := some (fileOf pool1 28 #[] #[{ accessFlags := 1, nameIndex := 5, descriptorIndex := 6, attributes := #[] }, { accessFlags := 9, nameIndex := 32, descriptorIndex := 33, attributes := #[] }] 49 2 #[] #[])
  fields := #[]
  methods := #[k1m0, k1m1]
  instanceTypes := #[]
  staticTypes := #[]
  resolved := Array.replicate 41 none
  statics := none }

def pool2 : Array CpInfo := pool [(1, .methodref 2 3), (0, .class_ 4), (0, .nameAndType 5 6), (0, u "java/lang/Object"), (0, u "<init>"), (0, u "()V"), (0, .class_ 8), (0, u "java/lang/Record")] 13

def k2c0 : Code := { maxStack := 1, maxLocals := 1, code := jdk_30_method_1_code, exceptionTable := #[], attributes := #[] }
def k2m0 : Method := { name := "<init>", desc := "()V", sig := { parameters := [], returnType := none }, accessFlags := 4, code := some k2c0 }
/-- java/lang/Record -/
def k2 : Class := { plain "java/lang/Record" (some 0) with
  accessFlags := 1057
  interfaces := #[]
  cf := some (fileOf pool2 7 #[] #[{ accessFlags := 4, nameIndex := 5, descriptorIndex := 6, attributes := #[] }] 1057 2 #[] #[])
  fields := #[]
  methods := #[k2m0]
  instanceTypes := #[]
  staticTypes := #[]
  resolved := Array.replicate 22 none
  statics := none }

def pool3 : Array CpInfo := pool [(1, .methodref 2 3), (0, .class_ 4), (0, .nameAndType 5 6), (0, u "java/lang/Record"), (0, u "<init>"), (0, u "()V"), (0, .fieldref 8 9), (0, .class_ 10), (0, .nameAndType 11 12), (0, u "tidewatch/decision/Snapshot$Instance"), (0, u "recordsIn"), (0, u "J"), (0, .fieldref 8 14), (0, .nameAndType 15 12), (0, u "recordsOut"), (0, .fieldref 8 17), (0, .nameAndType 18 19), (0, u "usefulSeconds"), (0, u "Ljava/util/OptionalDouble;"), (0, .fieldref 8 21), (0, .nameAndType 22 23), (0, u "countedSeconds"), (0, u "D"), (0, .methodref 8 25), (0, .nameAndType 5 26), (0, u "(JJLjava/util/OptionalDouble;D)V"), (0, .methodref 28 29), (0, .class_ 30), (0, .nameAndType 31 32), (0, u "java/util/OptionalDouble"), (0, u "of"), (0, u "(D)Ljava/util/OptionalDouble;"), (0, .methodref 8 34), (0, .nameAndType 5 35), (0, u "(JJLjava/util/OptionalDouble;)V"), (14, u "(JJD)V"), (1, u "countedSecondsIn"), (0, u "(D)D"), (5, u "()Ljava/util/OptionalDouble;"), (4, .class_ 65), (0, u "tidewatch/decision/Snapshot")] 22

def k3c0 : Code := { maxStack := 8, maxLocals := 6, code := prog_42_method_1_code, exceptionTable := #[], attributes := #[] }
def k3m0 : Method := { name := "<init>", desc := "(JJLjava/util/OptionalDouble;)V", sig := { parameters := [.long, .long, (.object "java/util/OptionalDouble")], returnType := none }, accessFlags := 1, code := some k3c0 }
def k3c1 : Code := { maxStack := 7, maxLocals := 7, code := prog_42_method_2_code, exceptionTable := #[], attributes := #[] }
def k3m1 : Method := { name := "<init>", desc := "(JJD)V", sig := { parameters := [.long, .long, .double], returnType := none }, accessFlags := 1, code := some k3c1 }
def k3c2 : Code := { maxStack := 3, maxLocals := 8, code := prog_42_method_3_code, exceptionTable := #[], attributes := #[] }
def k3m2 : Method := { name := "<init>", desc := "(JJLjava/util/OptionalDouble;D)V", sig := { parameters := [.long, .long, (.object "java/util/OptionalDouble"), .double], returnType := none }, accessFlags := 1, code := some k3c2 }
def k3c3 : Code := { maxStack := 4, maxLocals := 3, code := prog_42_method_4_code, exceptionTable := #[], attributes := #[] }
def k3m3 : Method := { name := "countedSecondsIn", desc := "(D)D", sig := { parameters := [.double], returnType := some .double }, accessFlags := 1, code := some k3c3 }
def k3c4 : Code := { maxStack := 1, maxLocals := 1, code := prog_42_method_10_code, exceptionTable := #[], attributes := #[] }
def k3m4 : Method := { name := "usefulSeconds", desc := "()Ljava/util/OptionalDouble;", sig := { parameters := [], returnType := some (.object "java/util/OptionalDouble") }, accessFlags := 1, code := some k3c4 }
/-- tidewatch/decision/Snapshot$Instance -/
def k3 : Class := { plain "tidewatch/decision/Snapshot$Instance" (some 2) with
  accessFlags := 49
  interfaces := #[]
  cf := some (fileOf pool3 8 #[.nestHost 64] #[{ accessFlags := 1, nameIndex := 5, descriptorIndex := 35, attributes := #[] }, { accessFlags := 1, nameIndex := 5, descriptorIndex := 50, attributes := #[] }, { accessFlags := 1, nameIndex := 5, descriptorIndex := 26, attributes := #[] }, { accessFlags := 1, nameIndex := 52, descriptorIndex := 53, attributes := #[] }, { accessFlags := 1, nameIndex := 18, descriptorIndex := 59, attributes := #[] }] 49 2 #[] #[{ accessFlags := 18, nameIndex := 11, descriptorIndex := 12, attributes := #[] }, { accessFlags := 18, nameIndex := 15, descriptorIndex := 12, attributes := #[] }, { accessFlags := 18, nameIndex := 18, descriptorIndex := 19, attributes := #[] }, { accessFlags := 18, nameIndex := 22, descriptorIndex := 23, attributes := #[] }])
  fields := #[{ name := "recordsIn", type := .long, accessFlags := 18, slot := 0, constantValue := 0 }, { name := "recordsOut", type := .long, accessFlags := 18, slot := 1, constantValue := 0 }, { name := "usefulSeconds", type := (.object "java/util/OptionalDouble"), accessFlags := 18, slot := 2, constantValue := 0 }, { name := "countedSeconds", type := .double, accessFlags := 18, slot := 3, constantValue := 0 }]
  methods := #[k3m0, k3m1, k3m2, k3m3, k3m4]
  instanceTypes := #[.long, .long, (.object "java/util/OptionalDouble"), .double]
  staticTypes := #[]
  resolved := Array.replicate 88 none
  statics := none }

def pool4 : Array CpInfo := pool [(1, .methodref 2 3), (0, .class_ 4), (0, .nameAndType 5 6), (0, u "java/lang/Object"), (0, u "<init>"), (0, u "()V"), (0, .fieldref 8 9), (0, .class_ 10), (0, .nameAndType 11 12), (0, u "java/util/OptionalDouble"), (0, u "isPresent"), (0, u "Z"), (4, .fieldref 8 18), (0, .nameAndType 19 20), (0, u "value"), (0, u "D"), (2, u "EMPTY"), (0, u "Ljava/util/OptionalDouble;"), (0, .methodref 8 26), (0, .nameAndType 5 27), (0, u "(D)V"), (21, u "of"), (53, u "(D)Ljava/util/OptionalDouble;")] 40

def k4m0 : Method := { name := "<init>", desc := "()V", sig := { parameters := [], returnType := none }, accessFlags := 2, code := none }
def k4c1 : Code := { maxStack := 3, maxLocals := 3, code := jdk_2648_method_3_code, exceptionTable := #[], attributes := #[] }
def k4m1 : Method := { name := "<init>", desc := "(D)V", sig := { parameters := [.double], returnType := none }, accessFlags := 2, code := some k4c1 }
def k4c2 : Code := { maxStack := 4, maxLocals := 2, code := jdk_2648_method_4_code, exceptionTable := #[], attributes := #[] }
def k4m2 : Method := { name := "of", desc := "(D)Ljava/util/OptionalDouble;", sig := { parameters := [.double], returnType := some (.object "java/util/OptionalDouble") }, accessFlags := 9, code := some k4c2 }
/-- java/util/OptionalDouble -/
def k4 : Class := { plain "java/util/OptionalDouble" (some 0) with
  accessFlags := 49
  interfaces := #[]
  cf := some (fileOf pool4 8 #[] #[{ accessFlags := 2, nameIndex := 5, descriptorIndex := 6, attributes := #[] }, { accessFlags := 2, nameIndex := 5, descriptorIndex := 27, attributes := #[] }, { accessFlags := 9, nameIndex := 49, descriptorIndex := 103, attributes := #[] }] 49 2 #[] #[{ accessFlags := 26, nameIndex := 23, descriptorIndex := 24, attributes := #[] }, { accessFlags := 18, nameIndex := 11, descriptorIndex := 12, attributes := #[] }, { accessFlags := 18, nameIndex := 19, descriptorIndex := 20, attributes := #[] }])
  fields := #[{ name := "EMPTY", type := (.object "java/util/OptionalDouble"), accessFlags := 26, slot := 0, constantValue := 0 }, { name := "isPresent", type := .boolean, accessFlags := 18, slot := 0, constantValue := 0 }, { name := "value", type := .double, accessFlags := 18, slot := 1, constantValue := 0 }]
  methods := #[k4m0, k4m1, k4m2]
  instanceTypes := #[.boolean, .double]
  staticTypes := #[(.object "java/util/OptionalDouble")]
  resolved := Array.replicate 144 none
  statics := none }

def pool5 : Array CpInfo := pool [(1, u "java/lang/Cloneable"), (0, .class_ 1), (0, u "java/lang/Object"), (0, .class_ 3)] 3

/-- java/lang/Cloneable -/
def k5 : Class := { plain "java/lang/Cloneable" (some 0) with
  accessFlags := 1537
  interfaces := #[]
  cf := some (fileOf pool5 2 #[] #[] 1537 4 #[] #[])
  fields := #[]
  methods := #[]
  instanceTypes := #[]
  staticTypes := #[]
  resolved := Array.replicate 8 none
  statics := none }

def pool6 : Array CpInfo := pool [(1, u "java/io/Serializable"), (0, .class_ 1), (0, u "java/lang/Object"), (0, .class_ 3)] 3

/-- java/io/Serializable -/
def k6 : Class := { plain "java/io/Serializable" (some 0) with
  accessFlags := 1537
  interfaces := #[]
  cf := some (fileOf pool6 2 #[] #[] 1537 4 #[] #[])
  fields := #[]
  methods := #[]
  instanceTypes := #[]
  staticTypes := #[]
  resolved := Array.replicate 8 none
  statics := none }

/-- the primitive byte -/
def k7 : Class := { plain "byte" none with kind := .primitive 'B', accessFlags := 0x411 }
/-- [B -/
def k8 : Class := { plain "[B" (some 0) with kind := .array 7 .byte, interfaces := #[5, 6], accessFlags := 1041 }

def heap : Heap := #[]
def classes : Array Class := #[k0, k1, k2, k3, k4, k5, k6, k7, k8]
def interned : List (Array UInt16 × Addr) := []
def slotsUsed : Nat := 0
def theMethod : MethodId := ⟨1, 1⟩
def args0 : Array Value := #[.long 3, .long 2, .int 5, .int 6, .int 1, .int 0]
def aboutOver (below : List Frame) : State where
  vm := { classes := classes, interned := interned.toArray }
  heap := heap
  slotsUsed := slotsUsed
  threads := #[{ frames := .invoking theMethod args0 :: below }]
def below0 : List Frame := [.native { method := ⟨0, 0⟩, args := #[] }]
def about1 : State := aboutOver below0
def p0 : Program := .bare "" "" ""
def e0 : Env := launch0.env 0 0 0
theorem w_frames : about1.frames = Frame.invoking theMethod args0 :: below0 := rfl
set_option maxRecDepth 65536 in
theorem w_args : argsFit about1.vm theMethod args0 = true := by decide +kernel
set_option maxRecDepth 65536 in
theorem w_heap : heapFits about1 = true := by decide +kernel
set_option maxRecDepth 65536 in
theorem w_runnable : about1.curStatus? = some .runnable := by decide +kernel
set_option maxRecDepth 65536 in
theorem w_alone : about1.alone = true := by decide +kernel
set_option maxRecDepth 65536 in
theorem w_named : about1.methodNamed? x = some theMethod := by decide +kernel
set_option maxRecDepth 65536 in
theorem w_hears : about1.hears theMethod below0 = true := by decide +kernel
set_option maxRecDepth 65536 in
theorem w_ripe : about1.ripe theMethod args0 below0 = true := by decide +kernel
theorem w_running : about1.status = .running := rfl
set_option maxRecDepth 65536 in
theorem w_room : about1.hasRoom e0.platform room_1 = true :=
  launch0.hasRoom_least _ room_1 (by decide +kernel) (by decide +kernel) (by decide +kernel) (by decide +kernel) (by decide +kernel) (by decide +kernel)
theorem allAtoms_all (ts : List Jvm.Cond) (a : Array Jvm.Value) (st : Jvm.State) : (allAtoms ts).before a st = ts.all (fun c => c.before a st) := by
  induction ts with
  | nil => rfl
  | cons c t ih =>
    show (Jvm.Cond.and c (allAtoms t)).before a st = _
    rw [Jvm.Cond.before_and, ih, List.all_cons]
def words1 : List Jvm.Cond := Jvm.Cond.code x code maxLocals ret :: tables_1
/-- a 'code' word, met by the world's own term for the bytes: nothing is compared byte by byte -/
theorem code_word {y : MethodName} {bytes : ByteArray} {mx : Nat} {rt : Option FieldType} {a : Array Value} {s : State} {m : MethodId} {meth : Method} {c : Code} (h1 : s.methodNamed? y = some m) (h2 : s.vm.method? m = some meth) (h3 : meth.code = some c) (h4 : c.code = bytes)
    (h5 : (c.maxLocals == mx && c.exceptionTable.isEmpty && decide (c.maxStack ≤ mostOperands) && decide (meth.sig.returnType = rt) && !meth.locks && decide (parseMethodDescriptor y.desc = some meth.sig)) = true) : (Jvm.Cond.code y bytes mx rt).before a s = true := by
  simp only [Bool.and_eq_true, beq_iff_eq, Bool.not_eq_true', decide_eq_true_eq] at h5
  obtain ⟨⟨⟨⟨⟨g1, g2⟩, g3⟩, g4⟩, g5⟩, g6⟩ := h5
  simp [Cond.before, Cond.holds, Cond.value, h1, h2, h3, h4, g1, g2, g3, g4, g5, g6]
def isCode : Jvm.Cond → Bool
  | .code _ _ _ _ => true
  | _ => false
theorem all_split {L : List Jvm.Cond} {P : Jvm.Cond → Bool} (h1 : L.all (fun c => isCode c || P c) = true) (h2 : ∀ c ∈ L.filter isCode, P c = true) : L.all P = true := by
  refine List.all_eq_true.mpr fun c hc => ?_
  have h := List.all_eq_true.mp h1 c hc
  rcases Bool.eq_false_or_eq_true (isCode c) with hi | hi
  · exact h2 c (List.mem_filter.mpr ⟨hc, hi⟩)
  · simpa [hi] using h
set_option maxRecDepth 65536 in
theorem w_c0 : (Jvm.Cond.code x code maxLocals ret).before args0 about1 = true := code_word (m := ⟨1, 1⟩) (meth := k1m1) (c := k1c1) (by decide +kernel) rfl rfl rfl (by decide +kernel)
set_option maxRecDepth 65536 in
theorem w_c1 : (Jvm.Cond.code ({ cls := "tidewatch/decision/Snapshot$Instance", name := "<init>", desc := "(JJD)V" } : Jvm.MethodName) prog_42_method_2_code (7 : Nat) (Option.none : Option Jvm.ClassFile.FieldType)).before args0 about1 = true := code_word (m := ⟨3, 1⟩) (meth := k3m1) (c := k3c1) (by decide +kernel) rfl rfl rfl (by decide +kernel)
set_option maxRecDepth 65536 in
theorem w_c2 : (Jvm.Cond.code ({ cls := "java/util/OptionalDouble", name := "of", desc := "(D)Ljava/util/OptionalDouble;" } : Jvm.MethodName) jdk_2648_method_4_code (2 : Nat) (Option.some (Jvm.ClassFile.FieldType.object "java/util/OptionalDouble"))).before args0 about1 = true := code_word (m := ⟨4, 2⟩) (meth := k4m2) (c := k4c2) (by decide +kernel) rfl rfl rfl (by decide +kernel)
set_option maxRecDepth 65536 in
theorem w_c3 : (Jvm.Cond.code ({ cls := "java/util/OptionalDouble", name := "<init>", desc := "(D)V" } : Jvm.MethodName) jdk_2648_method_3_code (3 : Nat) (Option.none : Option Jvm.ClassFile.FieldType)).before args0 about1 = true := code_word (m := ⟨4, 1⟩) (meth := k4m1) (c := k4c1) (by decide +kernel) rfl rfl rfl (by decide +kernel)
set_option maxRecDepth 65536 in
theorem w_c4 : (Jvm.Cond.code ({ cls := "java/lang/Object", name := "<init>", desc := "()V" } : Jvm.MethodName) object_method_1_code (1 : Nat) (Option.none : Option Jvm.ClassFile.FieldType)).before args0 about1 = true := code_word (m := ⟨0, 0⟩) (meth := k0m0) (c := k0c0) (by decide +kernel) rfl rfl rfl (by decide +kernel)
set_option maxRecDepth 65536 in
theorem w_c5 : (Jvm.Cond.code ({ cls := "tidewatch/decision/Snapshot$Instance", name := "<init>", desc := "(JJLjava/util/OptionalDouble;)V" } : Jvm.MethodName) prog_42_method_1_code (6 : Nat) (Option.none : Option Jvm.ClassFile.FieldType)).before args0 about1 = true := code_word (m := ⟨3, 0⟩) (meth := k3m0) (c := k3c0) (by decide +kernel) rfl rfl rfl (by decide +kernel)
set_option maxRecDepth 65536 in
theorem w_c6 : (Jvm.Cond.code ({ cls := "tidewatch/decision/Snapshot$Instance", name := "<init>", desc := "(JJLjava/util/OptionalDouble;D)V" } : Jvm.MethodName) prog_42_method_3_code (8 : Nat) (Option.none : Option Jvm.ClassFile.FieldType)).before args0 about1 = true := code_word (m := ⟨3, 2⟩) (meth := k3m2) (c := k3c2) (by decide +kernel) rfl rfl rfl (by decide +kernel)
set_option maxRecDepth 65536 in
theorem w_c7 : (Jvm.Cond.code ({ cls := "java/lang/Record", name := "<init>", desc := "()V" } : Jvm.MethodName) jdk_30_method_1_code (1 : Nat) (Option.none : Option Jvm.ClassFile.FieldType)).before args0 about1 = true := code_word (m := ⟨2, 0⟩) (meth := k2m0) (c := k2c0) (by decide +kernel) rfl rfl rfl (by decide +kernel)
set_option maxRecDepth 65536 in
theorem w_c8 : (Jvm.Cond.code ({ cls := "tidewatch/decision/Snapshot$Instance", name := "usefulSeconds", desc := "()Ljava/util/OptionalDouble;" } : Jvm.MethodName) prog_42_method_10_code (1 : Nat) (Option.some (Jvm.ClassFile.FieldType.object "java/util/OptionalDouble"))).before args0 about1 = true := code_word (m := ⟨3, 4⟩) (meth := k3m4) (c := k3c4) (by decide +kernel) rfl rfl rfl (by decide +kernel)
set_option maxRecDepth 65536 in
theorem w_c9 : (Jvm.Cond.code ({ cls := "tidewatch/decision/Snapshot$Instance", name := "countedSecondsIn", desc := "(D)D" } : Jvm.MethodName) prog_42_method_4_code (3 : Nat) (Option.some Jvm.ClassFile.FieldType.double)).before args0 about1 = true := code_word (m := ⟨3, 3⟩) (meth := k3m3) (c := k3c3) (by decide +kernel) rfl rfl rfl (by decide +kernel)
def codes1 : List Jvm.Cond := [Jvm.Cond.code x code maxLocals ret, Jvm.Cond.code ({ cls := "tidewatch/decision/Snapshot$Instance", name := "<init>", desc := "(JJD)V" } : Jvm.MethodName) prog_42_method_2_code (7 : Nat) (Option.none : Option Jvm.ClassFile.FieldType), Jvm.Cond.code ({ cls := "java/util/OptionalDouble", name := "of", desc := "(D)Ljava/util/OptionalDouble;" } : Jvm.MethodName) jdk_2648_method_4_code (2 : Nat) (Option.some (Jvm.ClassFile.FieldType.object "java/util/OptionalDouble")), Jvm.Cond.code ({ cls := "java/util/OptionalDouble", name := "<init>", desc := "(D)V" } : Jvm.MethodName) jdk_2648_method_3_code (3 : Nat) (Option.none : Option Jvm.ClassFile.FieldType), Jvm.Cond.code ({ cls := "java/lang/Object", name := "<init>", desc := "()V" } : Jvm.MethodName) object_method_1_code (1 : Nat) (Option.none : Option Jvm.ClassFile.FieldType), Jvm.Cond.code ({ cls := "tidewatch/decision/Snapshot$Instance", name := "<init>", desc := "(JJLjava/util/OptionalDouble;)V" } : Jvm.MethodName) prog_42_method_1_code (6 : Nat) (Option.none : Option Jvm.ClassFile.FieldType), Jvm.Cond.code ({ cls := "tidewatch/decision/Snapshot$Instance", name := "<init>", desc := "(JJLjava/util/OptionalDouble;D)V" } : Jvm.MethodName) prog_42_method_3_code (8 : Nat) (Option.none : Option Jvm.ClassFile.FieldType), Jvm.Cond.code ({ cls := "java/lang/Record", name := "<init>", desc := "()V" } : Jvm.MethodName) jdk_30_method_1_code (1 : Nat) (Option.none : Option Jvm.ClassFile.FieldType), Jvm.Cond.code ({ cls := "tidewatch/decision/Snapshot$Instance", name := "usefulSeconds", desc := "()Ljava/util/OptionalDouble;" } : Jvm.MethodName) prog_42_method_10_code (1 : Nat) (Option.some (Jvm.ClassFile.FieldType.object "java/util/OptionalDouble")), Jvm.Cond.code ({ cls := "tidewatch/decision/Snapshot$Instance", name := "countedSecondsIn", desc := "(D)D" } : Jvm.MethodName) prog_42_method_4_code (3 : Nat) (Option.some Jvm.ClassFile.FieldType.double)]
set_option maxRecDepth 65536 in
theorem codes_eq : words1.filter isCode = codes1 := rfl
theorem w_codes : ∀ c ∈ words1.filter isCode, c.before args0 about1 = true := by
  rw [codes_eq]
  intro c hc
  simp only [codes1, List.mem_cons, List.not_mem_nil, or_false] at hc
  rcases hc with rfl | rfl | rfl | rfl | rfl | rfl | rfl | rfl | rfl | rfl
  · exact w_c0
  · exact w_c1
  · exact w_c2
  · exact w_c3
  · exact w_c4
  · exact w_c5
  · exact w_c6
  · exact w_c7
  · exact w_c8
  · exact w_c9
set_option maxRecDepth 65536 in
theorem w_t1 : (words1.take 24).all (fun c => isCode c || c.before args0 about1) = true := by decide +kernel
set_option maxRecDepth 65536 in
theorem w_t2 : ((words1.drop 24).take 24).all (fun c => isCode c || c.before args0 about1) = true := by decide +kernel
set_option maxRecDepth 65536 in
theorem w_t3 : ((words1.drop 24).drop 24).all (fun c => isCode c || c.before args0 about1) = true := by decide +kernel
theorem w_tables : (allAtoms (Jvm.Cond.code x code maxLocals ret :: tables_1)).before args0 about1 = true := by
  rw [allAtoms_all]
  show words1.all (fun c => c.before args0 about1) = true
  refine all_split ?_ w_codes
  rw [← List.take_append_drop 24 words1, List.all_append, w_t1, ← List.take_append_drop 24 (words1.drop 24), List.all_append, w_t2, w_t3]
  rfl
set_option maxRecDepth 65536 in
theorem w_case : (Jvm.Cond.and given_1 narrow_1).before args0 about1 = true := by decide +kernel
theorem w_applies : (headSpec (Jvm.Cond.code x code maxLocals ret :: tables_1) room_1).applies x e0.platform about1 = true :=
  (Spec.applies_iff w_frames).mpr ⟨w_running, w_runnable, w_alone, w_named, w_hears, w_ripe, w_room, w_tables⟩
theorem atStart : AtStart classFile x code maxLocals ret World_1 tables_1 room_1 Calls_1 rest_1 Pre_1 launch0 p0 e0 about1 theMethod args0 below0 :=
  ⟨lists_1, trivial, launch0.admits_env _ _ _, launch0.least_env, fairChoices_fair.cas, fairChoices_fair.clock, w_frames, w_args, w_heap, w_applies, trivial, trivial, w_case⟩
end start1
theorem witness_1 : WitnessClaimed_1 := ⟨start1.p0, start1.e0, start1.about1, start1.theMethod, start1.args0, start1.below0, start1.atStart⟩
end Jvm.Pilot.@@N@@
