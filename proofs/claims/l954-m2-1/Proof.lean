import JvmDerived
import JvmDerived.Pilot.@@N@@Statement
import JvmDerived.Pilot.@@N@@Code
set_option linter.unusedVariables false
set_option linter.unusedSimpArgs false
namespace Jvm.Pilot.@@N@@
open Jvm Jvm.ClassFile Sem Op Lib Jvm.Free Jvm.Stand Jvm.LawKit Jvm.RoadKit Bundle Jvm.Pilot.@@N@@.Jvm.D
/-! OWN: the walk as a tree. Go: from here the run comes to a return that Q allows. -/
def Go (p : Program) (e : Env) (below : List Frame) (s : State) (C S : Nat) (Q : Option Value → Heap → List Loc → Prop) (T : State) (g : JFrame) : Prop :=
  ∃ s₂ o, Steps p.tables e below (T.setTop g) s₂ ∧ s₂.status = .running ∧ Ended s₂ below o ∧ ∃ v L, o = .returned v ∧ Q v s₂.heap L ∧ FrameEnd s o s₂ L C S
section OwnGo
variable {p : Program} {l : Launch} {e : Env} {R : Room} {s : State} {m : MethodId} {args : Array Value} {below : List Frame} {meth : Method} {c : Code} {T T' : State} {locs : List Loc} {cells slots : Nat} {Z : State} {a0 : Array Value} {h : Heap} {C S : Nat} {Q : Option Value → Heap → List Loc → Prop} {g g' : JFrame}
theorem Go.step (st : ∀ target, Steps p.tables e below (T'.setTop g') target → Steps p.tables e below (T.setTop g) target) (h : Go p e below s C S Q T' g') : Go p e below s C S Q T g := by
  obtain ⟨s₂, o, h1, r⟩ := h; exact ⟨s₂, o, st _ h1, r⟩
theorem Go.cast (q : g = g') (h : Go p e below s C S Q T g') : Go p e below s C S Q T g := q ▸ h
theorem Go.ret (X : Stand p l e R s m args below meth c T locs cells slots) (hlk : meth.locks = false) {v : Option Value} (hv : meth.sig.returnType = none → v = none)
    (st : ∀ fs, (∀ (f : JFrame) (acts : List Action), f.method = m → f.locked = none → f.entered = [] → (doReturn e (T.setTop f) acts v).1 = T.setFrames fs) → Steps p.tables e below (T.setTop g) (T.setFrames fs))
    (hq : Q v T.heap locs) (hc : cells ≤ C) (hs : slots ≤ S) : Go p e below s C S Q T g := by
  obtain ⟨fs, hr, hrun, hended, hW, hsame⟩ := X.leave (v := v) hv hlk
  exact ⟨_, _, st fs hr, hrun, hended, v, locs, rfl, hq, ⟨_, rfl⟩, hW, hsame.mono hc hs⟩
theorem Go.retV (X : Stand p l e R s m args below meth c T locs cells slots) (hx : p.tables.exec = Jvm.exec) (hlk : meth.locks = false) (hret : meth.sig.returnType = none) {pc : Nat} {Ls : Array Slot} (hd : decode c.code pc = .ok (.return_, 1))
    (hc : cells ≤ C) (hs : slots ≤ S) (hq : Q none T.heap locs) : Go p e below s C S Q T (mkF m pc Ls []) :=
  Go.ret X hlk (fun _ => rfl) (fun fs hr => X.returnOut hx hret hd hr) hq hc hs
theorem Go.retW (X : Stand p l e R s m args below meth c T locs cells slots) (hx : p.tables.exec = Jvm.exec) (hlk : meth.locks = false) {t : FieldType} (hret : meth.sig.returnType = some t) {pc : Nat} {Ls : Array Slot} {w : Value} {i : Instr} {rest : List Value} (hn : narrow t w = w)
    (hi : (i = .ireturn ∧ (t = .int ∨ t = .boolean ∨ t = .byte ∨ t = .char ∨ t = .short) ∧ ∃ z, w = .int z) ∨ (i = .lreturn ∧ t = .long ∧ ∃ z, w = .long z) ∨ (i = .dreturn ∧ t = .double ∧ ∃ z, w = .double z) ∨ (i = .freturn ∧ t = .float ∧ ∃ z, w = .float z) ∨ (i = .areturn ∧ t.isReference = true ∧ w.isRef = true))
    (hd : decode c.code pc = .ok (i, 1)) (hc : cells ≤ C) (hs : slots ≤ S) (hq : Q (some w) T.heap locs) : Go p e below s C S Q T (mkF m pc Ls (w :: rest)) :=
  Go.ret X hlk (fun h => by rw [hret] at h; cases h) (fun fs hr => retOut X hx hret hn hi hd hr) hq hc hs
theorem Go.retI (X : Stand p l e R s m args below meth c T locs cells slots) (hx : p.tables.exec = Jvm.exec) (hlk : meth.locks = false) (hret : meth.sig.returnType = some .int) {pc : Nat} {Ls : Array Slot} {z : Int32} {rest : List Value}
    (hd : decode c.code pc = .ok (.ireturn, 1)) (hc : cells ≤ C) (hs : slots ≤ S) (hq : Q (some (.int z)) T.heap locs) : Go p e below s C S Q T (mkF m pc Ls (.int z :: rest)) :=
  Go.retW X hx hlk hret rfl (Or.inl ⟨rfl, Or.inl rfl, z, rfl⟩) hd hc hs hq
theorem Go.retZ (X : Stand p l e R s m args below meth c T locs cells slots) (hx : p.tables.exec = Jvm.exec) (hlk : meth.locks = false) (hret : meth.sig.returnType = some .boolean) {pc : Nat} {Ls : Array Slot} {z : Int32} {rest : List Value} (hz : z = 0 ∨ z = 1)
    (hd : decode c.code pc = .ok (.ireturn, 1)) (hc : cells ≤ C) (hs : slots ≤ S) (hq : Q (some (.int z)) T.heap locs) : Go p e below s C S Q T (mkF m pc Ls (.int z :: rest)) :=
  Go.retW X hx hlk hret (by rcases hz with rfl | rfl <;> rfl) (Or.inl ⟨rfl, Or.inr (Or.inl rfl), z, rfl⟩) hd hc hs hq
theorem Go.retJ (X : Stand p l e R s m args below meth c T locs cells slots) (hx : p.tables.exec = Jvm.exec) (hlk : meth.locks = false) (hret : meth.sig.returnType = some .long) {pc : Nat} {Ls : Array Slot} {z : Int64} {rest : List Value}
    (hd : decode c.code pc = .ok (.lreturn, 1)) (hc : cells ≤ C) (hs : slots ≤ S) (hq : Q (some (.long z)) T.heap locs) : Go p e below s C S Q T (mkF m pc Ls (.long z :: rest)) :=
  Go.retW X hx hlk hret rfl (Or.inr (Or.inl ⟨rfl, rfl, z, rfl⟩)) hd hc hs hq
theorem Go.retD (X : Stand p l e R s m args below meth c T locs cells slots) (hx : p.tables.exec = Jvm.exec) (hlk : meth.locks = false) (hret : meth.sig.returnType = some .double) {pc : Nat} {Ls : Array Slot} {z : UInt64} {rest : List Value}
    (hd : decode c.code pc = .ok (.dreturn, 1)) (hc : cells ≤ C) (hs : slots ≤ S) (hq : Q (some (.double z)) T.heap locs) : Go p e below s C S Q T (mkF m pc Ls (.double z :: rest)) :=
  Go.retW X hx hlk hret rfl (Or.inr (Or.inr (Or.inl ⟨rfl, rfl, z, rfl⟩))) hd hc hs hq
theorem Go.retR (X : Stand p l e R s m args below meth c T locs cells slots) (hx : p.tables.exec = Jvm.exec) (hlk : meth.locks = false) {t : FieldType} (hret : meth.sig.returnType = some t) (ht : t.isReference = true) {pc : Nat} {Ls : Array Slot} {w : Value} {rest : List Value} (hn : narrow t w = w) (hw : w.isRef = true)
    (hd : decode c.code pc = .ok (.areturn, 1)) (hc : cells ≤ C) (hs : slots ≤ S) (hq : Q (some w) T.heap locs) : Go p e below s C S Q T (mkF m pc Ls (w :: rest)) :=
  Go.retW X hx hlk hret hn (Or.inr (Or.inr (Or.inr (Or.inr ⟨rfl, ht, hw⟩)))) hd hc hs hq
/-- a method's contract out of its walk -/
theorem con_of {y : MethodName} {bytes : ByteArray} {ml : Nat} {rt : Option FieldType} {ws : List Jvm.Cond} {rm : Room} {as' : Array Value} {h0 : Heap} (hpl : plainFor y = true)
    (body : ∀ (p : Program) (e : Env) (s : State) (m : MethodId) (below : List Frame) (meth : Method) (c : Code) (T : State), Stand p l e rm s m as' below meth c T [] 0 0 → p.tables.exec = Jvm.exec → Z.Warmed39 s.vm → c.code = bytes → c.maxLocals = ml → s.vm.findClass y.cls = some m.cls → meth.name = y.name →
      meth.sig.returnType = rt → meth.locks = false → T.heap = h0 → Go p e below s rm.cells rm.slots Q T (entryFrame m as' ml)) :
    MetFree l y (head1 (Jvm.Cond.code y bytes ml rt :: ws) rm) (fun a U => a = as' ∧ Z.Warmed39 U.vm ∧ U.heap = h0) (fun _ _ _ _ _ => True) (fun _ U o U' => ∃ v L, o = .returned v ∧ Q v U'.heap L ∧ FrameEnd U o U' L rm.cells rm.slots) := by
  refine MetFree.of_bodySF hpl hisR ?_
  intro p e s m args below meth c s₁ Bd hml0 hP hK
  obtain ⟨rfl, hZ, hh⟩ := hP
  exact body p e s m below meth c s₁ (Stand.of_body Bd) Bd.exec hZ Bd.bytes hml0 (findClass_of_methodNamed Bd.named) (name_of_methodNamed Bd.named Bd.method).1 Bd.returns (BodyLoose.notSynchronized Bd) (by rw [← hh, Bd.state]; rfl)
abbrev Con (l : Launch) (Z : State) (y : MethodName) (bytes : ByteArray) (ml : Nat) (rt : Option FieldType) (rm : Room) (as' : Array Value) (h0 : Heap) (Q : Option Value → Heap → List Loc → Prop) : Prop :=
  MetFree l y (head1 [Jvm.Cond.code y bytes ml rt] rm) (fun a U => a = as' ∧ Z.Warmed39 U.vm ∧ U.heap = h0) (fun _ _ _ _ _ => True) (fun _ U o U' => ∃ v L, o = .returned v ∧ Q v U'.heap L ∧ FrameEnd U o U' L rm.cells rm.slots)
theorem Go.callS (X : Stand p l e R s m args below meth c T locs cells slots) (hx : p.tables.exec = Jvm.exec) (hZ : Z.Warmed39 s.vm) {own : String} {index : Nat} {y : MethodName} {bytes : ByteArray} {maxL : Nat} {ret : Option FieldType} {rm : Room} {as' : Array Value} {Qc : Option Value → Heap → List Loc → Prop} {W pc : Nat} {Ls : Array Slot} {st : List Value} {argsL rest : List Value} (hml : Ls.size = c.maxLocals)
    (hown : s.vm.findClass own = some m.cls) (w1 : (Jvm.Cond.methodLink own index y).before a0 Z = true) (w2 : (Jvm.Cond.static y).before a0 Z = true) (w3 : (Jvm.Cond.initialized y.cls).before a0 Z = true) (w4 : (Jvm.Cond.code y bytes maxL ret).before a0 Z = true) (hy : y.cls ≠ "java/lang/invoke/MethodHandle" ∧ y.cls ≠ "java/lang/invoke/VarHandle")
    (hM : Con l Z y bytes maxL ret rm as' h Qc) (eT : T.heap = h) (hd : decode c.code pc = .ok (.invokestatic index, 3)) (hlen : ∀ sig, parseMethodDescriptor y.desc = some sig → argsL.length = sig.parameters.length) (hst : st = argsL.reverse ++ rest) (has : argsL.toArray = as')
    (hW : (rest.map fun v => v.category).sum ≤ W) (hf : rm.frames + 1 ≤ R.frames) (hl : W + (maxL + 11) + rm.locals ≤ R.locals) (hc : cells + rm.cells ≤ R.cells) (hs : slots + rm.slots ≤ R.slots)
    (k : ∀ (v : Option Value) (T' : State) (L : List Loc), Stand p l e R s m args below meth c T' (locs ++ L) (cells + rm.cells) (slots + rm.slots) → Qc v T'.heap L → Go p e below s C S Q T' (mkF m (pc + 3) Ls (v.toList ++ rest))) :
    Go p e below s C S Q T (mkF m pc Ls st) := by
  obtain ⟨v, _, ⟨T', L', k', n'⟩, -, X', ⟨Lc, hQ, l1, y1, z1⟩, stp⟩ := Jvm.LawKit.callS X hx (y := y) hown (mvT hZ w1) (mvT hZ w2) (mvT hZ w3) (mvT hZ w4) hy (backOf (W := W) hM hZ w4 w3 hf hl) (g := mkF m pc Ls st) rfl hml (argsL := argsL) (rest := rest) hlen hst (by show 2 * 0 + _ ≤ _; omega) hd (fun _ _ => ⟨has, eT, hc, hs⟩)
  dsimp only [Pt.U, Pt.locs, Pt.cells, Pt.slots] at X' l1 y1 z1 stp hQ
  subst l1 y1 z1
  exact Go.step stp (k v T' Lc X' hQ)
theorem Go.callI (X : Stand p l e R s m args below meth c T locs cells slots) (hx : p.tables.exec = Jvm.exec) (hZ : Z.Warmed39 s.vm) {own : String} {index : Nat} {y : MethodName} {bytes : ByteArray} {maxL : Nat} {rm : Room} {as' : Array Value} {Qc : Option Value → Heap → List Loc → Prop} {W pc : Nat} {Ls : Array Slot} {st : List Value} {a : Addr} {argsL rest : List Value} (hml : Ls.size = c.maxLocals)
    (hy1 : y.name = "<init>") (hown : s.vm.findClass own = some m.cls) (w1 : (Jvm.Cond.methodLink own index y).before a0 Z = true) (w2 : (Jvm.Cond.instanceMethod y).before a0 Z = true) (w3 : (Jvm.Cond.initialized y.cls).before a0 Z = true) (w4 : (Jvm.Cond.code y bytes maxL none).before a0 Z = true) (hy : y.cls ≠ "java/lang/invoke/MethodHandle" ∧ y.cls ≠ "java/lang/invoke/VarHandle")
    (hM : Con l Z y bytes maxL none rm as' h Qc) (eT : T.heap = h) (hd : decode c.code pc = .ok (.invokespecial index, 3)) (hlen : ∀ sig, parseMethodDescriptor y.desc = some sig → argsL.length = sig.parameters.length) (hst : st = argsL.reverse ++ .ref a :: rest) (has : (Value.ref a :: argsL).toArray = as')
    (hW : (rest.map fun v => v.category).sum ≤ W) (hf : rm.frames + 1 ≤ R.frames) (hl : W + (maxL + 11) + rm.locals ≤ R.locals) (hc : cells + rm.cells ≤ R.cells) (hs : slots + rm.slots ≤ R.slots)
    (k : ∀ (v : Option Value) (T' : State) (L : List Loc), Stand p l e R s m args below meth c T' (locs ++ L) (cells + rm.cells) (slots + rm.slots) → Qc v T'.heap L → Go p e below s C S Q T' (mkF m (pc + 3) Ls (v.toList ++ rest))) :
    Go p e below s C S Q T (mkF m pc Ls st) := by
  obtain ⟨v, _, ⟨T', L', k', n'⟩, -, X', ⟨Lc, hQ, l1, y1, z1⟩, stp⟩ := X.specialBack hx (y := y) hy1 hown (mvT hZ w1) (mvT hZ w2) (mvT hZ w4) hy (backOf (W := W) hM hZ w4 w3 hf hl) (g := mkF m pc Ls st) rfl hml (Steps.refl _) (a := a) (argsL := argsL) (rest := rest) hlen hst (by show 2 * 0 + _ ≤ _; omega) hd (fun _ _ => ⟨has, eT, hc, hs⟩)
  dsimp only [Pt.U, Pt.locs, Pt.cells, Pt.slots] at X' l1 y1 z1 stp hQ
  subst l1 y1 z1
  exact Go.step (fun _ q => stp.trans q) (k v T' Lc X' hQ)
theorem Go.callV (X : Stand p l e R s m args below meth c T locs cells slots) (hx : p.tables.exec = Jvm.exec) (hZ : Z.Warmed39 s.vm) {own K : String} {index : Nat} {y z : MethodName} {bytes : ByteArray} {maxL : Nat} {ret : Option FieldType} {rm : Room} {as' : Array Value} {Qc : Option Value → Heap → List Loc → Prop} {W pc : Nat} {Ls : Array Slot} {st : List Value} {a : Addr} {argsL rest : List Value} (hml : Ls.size = c.maxLocals)
    (hown : s.vm.findClass own = some m.cls) (w1 : (Jvm.Cond.methodLink own index y).before a0 Z = true) (w2 : (Jvm.Cond.declares y).before a0 Z = true) (hnf : NotFace s y) (w5 : (Jvm.Cond.selects K y z).before a0 Z = true) (w6 : (Jvm.Cond.instanceMethod z).before a0 Z = true) (w3 : (Jvm.Cond.initialized z.cls).before a0 Z = true) (w4 : (Jvm.Cond.code z bytes maxL ret).before a0 Z = true) (hy : y.cls ≠ "java/lang/invoke/MethodHandle" ∧ y.cls ≠ "java/lang/invoke/VarHandle")
    (hM : Con l Z z bytes maxL ret rm as' h Qc) (eT : T.heap = h) (E : Exa Z h a K) (hd : decode c.code pc = .ok (.invokevirtual index, 3)) (hlen : ∀ sig, parseMethodDescriptor y.desc = some sig → argsL.length = sig.parameters.length) (hst : st = argsL.reverse ++ .ref a :: rest) (has : (Value.ref a :: argsL).toArray = as')
    (hW : (rest.map fun v => v.category).sum ≤ W) (hf : rm.frames + 1 ≤ R.frames) (hl : W + (maxL + 11) + rm.locals ≤ R.locals) (hc : cells + rm.cells ≤ R.cells) (hs : slots + rm.slots ≤ R.slots)
    (k : ∀ (v : Option Value) (T' : State) (L : List Loc), Stand p l e R s m args below meth c T' (locs ++ L) (cells + rm.cells) (slots + rm.slots) → Qc v T'.heap L → Go p e below s C S Q T' (mkF m (pc + 3) Ls (v.toList ++ rest))) :
    Go p e below s C S Q T (mkF m pc Ls st) := by
  obtain ⟨cq, kq, qa, qb, qc⟩ := isOf hZ eT E
  obtain ⟨v, _, ⟨T', L', k', n'⟩, -, X', ⟨Lc, hQ, l1, y1, z1⟩, stp⟩ := X.virtualBack hx (y := y) (z := z) hown (mvT hZ w1) (mvT hZ w2) hnf (mvT hZ w5) (mvT hZ w6) hy (backOf (W := W) hM hZ w4 w3 hf hl) qa qc (g := mkF m pc Ls st) rfl hml (Steps.refl _) (argsL := argsL) (rest := rest) hlen hst (by show 2 * 0 + _ ≤ _; omega) hd (fun _ _ => ⟨has, eT, hc, hs⟩)
  dsimp only [Pt.U, Pt.locs, Pt.cells, Pt.slots] at X' l1 y1 z1 stp hQ
  subst l1 y1 z1
  exact Go.step (fun _ q => stp.trans q) (k v T' Lc X' hQ)
theorem Go.callP (X : Stand p l e R s m args below meth c T locs cells slots) (hx : p.tables.exec = Jvm.exec) (hZ : Z.Warmed39 s.vm) {own : String} {index : Nat} {y : MethodName} {bytes : ByteArray} {maxL : Nat} {ret : Option FieldType} {rm : Room} {as' : Array Value} {Qc : Option Value → Heap → List Loc → Prop} {W pc : Nat} {Ls : Array Slot} {st : List Value} {a : Addr} {argsL rest : List Value} (hml : Ls.size = c.maxLocals)
    (hown : s.vm.findClass own = some m.cls) (w1 : (Jvm.Cond.methodLink own index y).before a0 Z = true) (w6 : (Jvm.Cond.instanceMethod y).before a0 Z = true) {kk : Nat} (w5 : (Jvm.Cond.instantiable y.cls kk).before a0 Z = true) (w7 : (Jvm.Cond.privateMethod y).before a0 Z = true) (w3 : (Jvm.Cond.initialized y.cls).before a0 Z = true) (w4 : (Jvm.Cond.code y bytes maxL ret).before a0 Z = true) (hy : y.cls ≠ "java/lang/invoke/MethodHandle" ∧ y.cls ≠ "java/lang/invoke/VarHandle")
    (hM : Con l Z y bytes maxL ret rm as' h Qc) (eT : T.heap = h) {K : String} (E : Exa Z h a K) (hd : decode c.code pc = .ok (.invokevirtual index, 3)) (hlen : ∀ sig, parseMethodDescriptor y.desc = some sig → argsL.length = sig.parameters.length) (hst : st = argsL.reverse ++ .ref a :: rest) (has : (Value.ref a :: argsL).toArray = as')
    (hW : (rest.map fun v => v.category).sum ≤ W) (hf : rm.frames + 1 ≤ R.frames) (hl : W + (maxL + 11) + rm.locals ≤ R.locals) (hc : cells + rm.cells ≤ R.cells) (hs : slots + rm.slots ≤ R.slots)
    (k : ∀ (v : Option Value) (T' : State) (L : List Loc), Stand p l e R s m args below meth c T' (locs ++ L) (cells + rm.cells) (slots + rm.slots) → Qc v T'.heap L → Go p e below s C S Q T' (mkF m (pc + 3) Ls (v.toList ++ rest))) :
    Go p e below s C S Q T (mkF m pc Ls st) := by
  obtain ⟨cq, q1, q2⟩ := E.cell
  have hpriv : s.PrivateAt y := Cond.privateMethod_at (mvP hZ w7 (args := #[]))
  have w5' : (Jvm.Cond.instantiable y.cls kk).before args s = true := mvT hZ w5
  obtain ⟨c1, k1, i1, i2, -, i4, -⟩ := Cond.instantiable_spec w5'
  have hsel : (Jvm.Cond.selects y.cls y y).before args s = true := selects_self_of_private i1 i2 (by simp only [Bool.or_eq_false_iff] at i4; exact i4.1) hpriv (mvT hZ w6) hy
  obtain ⟨v, _, ⟨T', L', k', n'⟩, -, X', ⟨Lc, hQ, l1, y1, z1⟩, stp⟩ := X.privateBack hx (y := y) hown (mvT hZ w1) (mvT hZ w6) hsel hpriv (mvT hZ w4) hy (backOf (W := W) hM hZ w4 w3 hf hl) (g := mkF m pc Ls st) rfl hml (Steps.refl _) (a := a) (by rw [eT]; exact q1) q2 (argsL := argsL) (rest := rest) hlen hst (by show 2 * 0 + _ ≤ _; omega) hd (fun _ _ => ⟨has, eT, hc, hs⟩)
  dsimp only [Pt.U, Pt.locs, Pt.cells, Pt.slots] at X' l1 y1 z1 stp hQ
  subst l1 y1 z1
  exact Go.step (fun _ q => stp.trans q) (k v T' Lc X' hQ)
end OwnGo
/-! OWN: branches on a comparison of doubles, as javac writes them -/
section OwnCmp
variable {x y : UInt64}
theorem cv_none (o : CmpOp) (h : FP.dcmp x y = none) : cmpValue (FP.dcmp x y) o = (match o with | .l => -1 | .g => 1) := by rw [h]; cases o <;> rfl
theorem gt_y (h : FP.dcmp x y = some .gt) : ifCond.holds .le (cmpValue (FP.dcmp x y) .l) = false := by rw [h]; rfl
theorem gt_n (h : ¬ FP.dcmp x y = some .gt) : ifCond.holds .le (cmpValue (FP.dcmp x y) .l) = true := by
  rcases q : FP.dcmp x y with _ | (_ | _ | _) <;> first | rfl | exact absurd q h
theorem ge_y (h : FP.dcmp x y = some .gt ∨ FP.dcmp x y = some .eq) : ifCond.holds .lt (cmpValue (FP.dcmp x y) .l) = false := by rcases h with h | h <;> rw [h] <;> rfl
theorem ge_n (h : ¬ (FP.dcmp x y = some .gt ∨ FP.dcmp x y = some .eq)) : ifCond.holds .lt (cmpValue (FP.dcmp x y) .l) = true := by
  rcases q : FP.dcmp x y with _ | (_ | _ | _) <;> first | rfl | exact absurd (Or.inl q) h | exact absurd (Or.inr q) h
theorem lt_y (h : FP.dcmp x y = some .lt) : ifCond.holds .ge (cmpValue (FP.dcmp x y) .g) = false := by rw [h]; rfl
theorem lt_n (h : ¬ FP.dcmp x y = some .lt) : ifCond.holds .ge (cmpValue (FP.dcmp x y) .g) = true := by
  rcases q : FP.dcmp x y with _ | (_ | _ | _) <;> first | rfl | exact absurd q h
theorem le_y (h : FP.dcmp x y = some .lt ∨ FP.dcmp x y = some .eq) : ifCond.holds .gt (cmpValue (FP.dcmp x y) .g) = false := by rcases h with h | h <;> rw [h] <;> rfl
theorem le_n (h : ¬ (FP.dcmp x y = some .lt ∨ FP.dcmp x y = some .eq)) : ifCond.holds .gt (cmpValue (FP.dcmp x y) .g) = true := by
  rcases q : FP.dcmp x y with _ | (_ | _ | _) <;> first | rfl | exact absurd (Or.inl q) h | exact absurd (Or.inr q) h
theorem eq_y (o : CmpOp) (h : FP.dcmp x y = some .eq) : ifCond.holds .ne (cmpValue (FP.dcmp x y) o) = false ∧ ifCond.holds .eq (cmpValue (FP.dcmp x y) o) = true := by rw [h]; cases o <;> exact ⟨rfl, rfl⟩
theorem eq_n (o : CmpOp) (h : ¬ FP.dcmp x y = some .eq) : ifCond.holds .ne (cmpValue (FP.dcmp x y) o) = true ∧ ifCond.holds .eq (cmpValue (FP.dcmp x y) o) = false := by
  rcases q : FP.dcmp x y with _ | (_ | _ | _) <;> cases o <;> first | exact ⟨rfl, rfl⟩ | exact absurd q h
/-- x > y, by a taken 'ifgt' over dcmpl -/
theorem gtT_y (h : FP.dcmp x y = some .gt) : ifCond.holds .gt (cmpValue (FP.dcmp x y) .l) = true := by rw [h]; rfl
theorem gtT_n (h : ¬ FP.dcmp x y = some .gt) : ifCond.holds .gt (cmpValue (FP.dcmp x y) .l) = false := by
  rcases q : FP.dcmp x y with _ | (_ | _ | _) <;> first | rfl | exact absurd q h
theorem geT_y (h : FP.dcmp x y = some .gt ∨ FP.dcmp x y = some .eq) : ifCond.holds .ge (cmpValue (FP.dcmp x y) .l) = true := by rcases h with h | h <;> rw [h] <;> rfl
theorem geT_n (h : ¬ (FP.dcmp x y = some .gt ∨ FP.dcmp x y = some .eq)) : ifCond.holds .ge (cmpValue (FP.dcmp x y) .l) = false := by
  rcases q : FP.dcmp x y with _ | (_ | _ | _) <;> first | rfl | exact absurd (Or.inl q) h | exact absurd (Or.inr q) h
theorem ltT_y (h : FP.dcmp x y = some .lt) : ifCond.holds .lt (cmpValue (FP.dcmp x y) .g) = true := by rw [h]; rfl
theorem ltT_n (h : ¬ FP.dcmp x y = some .lt) : ifCond.holds .lt (cmpValue (FP.dcmp x y) .g) = false := by
  rcases q : FP.dcmp x y with _ | (_ | _ | _) <;> first | rfl | exact absurd q h
theorem leT_y (h : FP.dcmp x y = some .lt ∨ FP.dcmp x y = some .eq) : ifCond.holds .le (cmpValue (FP.dcmp x y) .g) = true := by rcases h with h | h <;> rw [h] <;> rfl
theorem leT_n (h : ¬ (FP.dcmp x y = some .lt ∨ FP.dcmp x y = some .eq)) : ifCond.holds .le (cmpValue (FP.dcmp x y) .g) = false := by
  rcases q : FP.dcmp x y with _ | (_ | _ | _) <;> first | rfl | exact absurd (Or.inl q) h | exact absurd (Or.inr q) h
end OwnCmp

/-! OWN: arrays by a function of the place -/
def updN {α : Type} (g : Nat → α) (j : Nat) (x : α) : Nat → α := fun i => if i = j then x else g i
theorem updN_same {α : Type} (g : Nat → α) (j : Nat) (x : α) : updN g j x j = x := by simp [updN]
theorem updN_ne {α : Type} {g : Nat → α} {i j : Nat} {x : α} (h : i ≠ j) : updN g j x i = g i := by simp [updN, h]
def Fv (Z : State) (h : Heap) (a : Addr) (ty : FieldType) (n : Int32) (f : Nat → Value) : Prop :=
  ∃ c : Cell, Arr Z h a c ty ∧ c.slots.size = n.toNatClampNeg ∧ ¬ n < 0 ∧ (∀ i, fits ty (f i) = true) ∧ ∀ i, i < c.slots.size → c.slots[i]? = some (f i)
abbrev Dv (Z : State) (h : Heap) (a : Addr) (n : Int32) (g : Nat → UInt64) : Prop := Fv Z h a .double n (fun i => .double (g i))
abbrev Iv (Z : State) (h : Heap) (a : Addr) (n : Int32) (g : Nat → Int32) : Prop := Fv Z h a .int n (fun i => .int (g i))
section OwnFv
variable {Z : State} {h h' : Heap} {a b : Addr} {ty : FieldType} {n j : Int32} {f : Nat → Value} {v : Value} {sl : Nat} {ws : List Addr}
theorem Fv.lt (F : Fv Z h a ty n f) : a < h.size := by obtain ⟨c, A, -⟩ := F; exact A.lt
theorem Fv.ext (F : Fv Z h a ty n f) (E : Ext h h') : Fv Z h' a ty n f := by obtain ⟨c, A, r⟩ := F; exact ⟨c, A.ext E, r⟩
theorem Fv.other (F : Fv Z h b ty n f) (W : Wr h h' a sl v) (q : b ≠ a) : Fv Z h' b ty n f := by obtain ⟨c, A, r⟩ := F; exact ⟨c, A.other W q, r⟩
theorem Fv.keep (F : Fv Z h a ty n f) (K : Keep h h' ws) (q : a ∉ ws) : Fv Z h' a ty n f := by obtain ⟨c, A, r⟩ := F; exact ⟨c, ⟨K.2.1 a c A.1 q, A.2⟩, r⟩
theorem Fv.new {k : ClassId} (A : Arr Z h a (newA k ty n) ty) (q : ¬ n < 0) : Fv Z h a ty n (fun _ => defaultValue ty) := ⟨_, A, sz_new _ _ _, q, fun i => by cases ty <;> rfl, fun i hi => by
  rw [sz_new] at hi; simp [newA, hi]⟩
theorem own_nat_of {j : Int32} (h : ¬ j < 0) : (j.toNatClampNeg : Int) = j.toInt := by
  rw [Int32.lt_iff_toInt_lt] at h; have e0 : (0 : Int32).toInt = 0 := rfl
  rw [Int32.toNatClampNeg]; omega
theorem Fv.set (F : Fv Z h a ty n f) (W : Wr h h' a j.toNatClampNeg v) (hv : fits ty v = true) : Fv Z h' a ty n (updN f j.toNatClampNeg v) := by
  obtain ⟨c, A, S, P, G, H⟩ := F
  refine ⟨_, A.same W, by rw [sz_set]; exact S, P, fun i => ?_, fun i hi => ?_⟩
  · unfold updN; split
    · exact hv
    · exact G i
  · rw [sz_set] at hi
    unfold updN
    by_cases u : i = j.toNatClampNeg
    · rw [if_pos u, u]; rw [u] at hi; simp [Cell.setSlot, hi]
    · rw [if_neg u]; simp only [Cell.setSlot]; rw [Array.getElem?_setIfInBounds_ne (Ne.symm u)]; exact H i hi
theorem Dv.set {g : Nat → UInt64} {x : UInt64} (F : Dv Z h a n g) (W : Wr h h' a j.toNatClampNeg (.double x)) : Dv Z h' a n (updN g j.toNatClampNeg x) := by
  have := Fv.set F W rfl
  have e : (updN (fun i => Value.double (g i)) j.toNatClampNeg (.double x)) = fun i => Value.double (updN g j.toNatClampNeg x i) := by
    funext i; unfold updN; split <;> rfl
  rw [e] at this; exact this
theorem Iv.set {g : Nat → Int32} {x : Int32} (F : Iv Z h a n g) (W : Wr h h' a j.toNatClampNeg (.int x)) : Iv Z h' a n (updN g j.toNatClampNeg x) := by
  have := Fv.set F W rfl
  have e : (updN (fun i => Value.int (g i)) j.toNatClampNeg (.int x)) = fun i => Value.int (updN g j.toNatClampNeg x i) := by
    funext i; unfold updN; split <;> rfl
  rw [e] at this; exact this
theorem Fv.congr {f' : Nat → Value} (F : Fv Z h a ty n f) (q : ∀ i, f i = f' i) : Fv Z h a ty n f' := by rw [← (funext q : f = f')]; exact F
theorem Fv.inb {c : Cell} (S : c.slots.size = n.toNatClampNeg) (q : ¬ j < 0 ∧ j < n) : ¬ (j < 0 ∨ c.slots.size ≤ j.toNatClampNeg) := inb_of S q
variable {p : Program} {l : Launch} {e : Env} {R : Room} {s : State} {m : MethodId} {args : Array Value} {below : List Frame} {meth : Method} {c : Code} {T : State} {locs : List Loc} {cells slots : Nat} {C S : Nat} {Q : Option Value → Heap → List Loc → Prop} {pc : Nat} {Ls : Array Slot} {rest : List Value}
theorem Go.alen (X : Stand p l e R s m args below meth c T locs cells slots) (hx : p.tables.exec = Jvm.exec) (hZ : Z.Warmed39 s.vm) (eT : T.heap = h) (F : Fv Z h a ty n f) (hd : decode c.code pc = .ok (.arraylength, 1))
    (k : Go p e below s C S Q T (mkF m (pc + 1) Ls (.int n :: rest))) : Go p e below s C S Q T (mkF m pc Ls (.ref a :: rest)) := by
  obtain ⟨cl, A, S', P, -, -⟩ := F
  refine Go.step (X.arraylength hx (cell := cl) (by rw [eT]; exact A.1) (State.isArrayOf_alike hZ.alike A.2.1) (g := mkF m pc Ls (.ref a :: rest)) rfl rfl hd) ?_
  rw [len_of S' P]; exact k
theorem Go.iaload {g : Nat → Int32} {v : Int32} (X : Stand p l e R s m args below meth c T locs cells slots) (hx : p.tables.exec = Jvm.exec) (hZ : Z.Warmed39 s.vm) (eT : T.heap = h) (F : Iv Z h a n g) (hj : ¬ j < 0 ∧ j < n) (hv : g j.toNatClampNeg = v) (hd : decode c.code pc = .ok (.iaload, 1))
    (k : Go p e below s C S Q T (mkF m (pc + 1) Ls (.int v :: rest))) : Go p e below s C S Q T (mkF m pc Ls (.int j :: .ref a :: rest)) := by
  obtain ⟨cl, A, S', P, G, H⟩ := F
  have q := inb_of S' hj
  exact Go.step (fun t r => X.iaload hx (j := j) (v := .int v) (by rw [eT]; exact A.1) (State.isArrayOf_alike hZ.alike A.2.1) A.2.2 q (by rw [← hv]; exact H _ (Nat.lt_of_not_le fun z => q (Or.inr z))) (g := mkF m pc Ls (.int j :: .ref a :: rest)) rfl rfl hd t r) k
theorem Go.daload {g : Nat → UInt64} {v : UInt64} (X : Stand p l e R s m args below meth c T locs cells slots) (hx : p.tables.exec = Jvm.exec) (hZ : Z.Warmed39 s.vm) (eT : T.heap = h) (F : Dv Z h a n g) (hj : ¬ j < 0 ∧ j < n) (hv : g j.toNatClampNeg = v) (hd : decode c.code pc = .ok (.daload, 1))
    (k : Go p e below s C S Q T (mkF m (pc + 1) Ls (.double v :: rest))) : Go p e below s C S Q T (mkF m pc Ls (.int j :: .ref a :: rest)) := by
  obtain ⟨cl, A, S', P, G, H⟩ := F
  have q := inb_of S' hj
  exact Go.step (fun t r => X.daload hx (j := j) (v := .double v) (by rw [eT]; exact A.1) (State.isArrayOf_alike hZ.alike A.2.1) A.2.2 q (by rw [← hv]; exact H _ (Nat.lt_of_not_le fun z => q (Or.inr z))) (g := mkF m pc Ls (.int j :: .ref a :: rest)) rfl rfl hd t r) k
theorem Go.iastore {g : Nat → Int32} {x : Int32} (X : Stand p l e R s m args below meth c T locs cells slots) (hx : p.tables.exec = Jvm.exec) (hZ : Z.Warmed39 s.vm) (eT : T.heap = h) (F : Iv Z h a n g) (hj : ¬ j < 0 ∧ j < n) (hd : decode c.code pc = .ok (.iastore, 1))
    (k : ∀ T' h', Stand p l e R s m args below meth c T' (locs ++ [⟨a, j.toNatClampNeg⟩]) cells slots → T'.heap = h' → Wr h h' a j.toNatClampNeg (.int x) → Iv Z h' a n (updN g j.toNatClampNeg x) → Go p e below s C S Q T' (mkF m (pc + 1) Ls rest)) : Go p e below s C S Q T (mkF m pc Ls (.int x :: .int j :: .ref a :: rest)) := by
  have F0 := F
  obtain ⟨cl, A, S', P, G, H⟩ := F
  obtain ⟨T', h', X', e', W, st⟩ := stI X hx hZ eT A (j := j) (x := x) (inb_of S' hj) (g := mkF m pc Ls (.int x :: .int j :: .ref a :: rest)) rfl rfl hd
  exact Go.step st (k T' h' X' e' W (Iv.set F0 W))
theorem Go.dastore {g : Nat → UInt64} {x : UInt64} (X : Stand p l e R s m args below meth c T locs cells slots) (hx : p.tables.exec = Jvm.exec) (hZ : Z.Warmed39 s.vm) (eT : T.heap = h) (F : Dv Z h a n g) (hj : ¬ j < 0 ∧ j < n) (hd : decode c.code pc = .ok (.dastore, 1))
    (k : ∀ T' h', Stand p l e R s m args below meth c T' (locs ++ [⟨a, j.toNatClampNeg⟩]) cells slots → T'.heap = h' → Wr h h' a j.toNatClampNeg (.double x) → Dv Z h' a n (updN g j.toNatClampNeg x) → Go p e below s C S Q T' (mkF m (pc + 1) Ls rest)) : Go p e below s C S Q T (mkF m pc Ls (.double x :: .int j :: .ref a :: rest)) := by
  have F0 := F
  obtain ⟨cl, A, S', P, G, H⟩ := F
  obtain ⟨T', h', X', e', W, st⟩ := stD X hx hZ eT A (j := j) (x := x) (inb_of S' hj) (g := mkF m pc Ls (.double x :: .int j :: .ref a :: rest)) rfl rfl hd
  exact Go.step st (k T' h' X' e' W (Dv.set F0 W))
abbrev Zv (Z : State) (h : Heap) (a : Addr) (n : Int32) (g : Nat → Int32) : Prop := Fv Z h a .boolean n (fun i => .int (g i))
theorem Zv.set {g : Nat → Int32} {x : Int32} (F : Zv Z h a n g) (W : Wr h h' a j.toNatClampNeg (.int x)) (hb : fits .boolean (.int x) = true) : Zv Z h' a n (updN g j.toNatClampNeg x) := by
  have := Fv.set F W hb
  have e : (updN (fun i => Value.int (g i)) j.toNatClampNeg (.int x)) = fun i => Value.int (updN g j.toNatClampNeg x i) := by
    funext i; unfold updN; split <;> rfl
  rw [e] at this; exact this
theorem Go.zaload {g : Nat → Int32} {v : Int32} (X : Stand p l e R s m args below meth c T locs cells slots) (hx : p.tables.exec = Jvm.exec) (hZ : Z.Warmed39 s.vm) (eT : T.heap = h) (F : Zv Z h a n g) (hj : ¬ j < 0 ∧ j < n) (hv : g j.toNatClampNeg = v) (hd : decode c.code pc = .ok (.baload, 1))
    (k : Go p e below s C S Q T (mkF m (pc + 1) Ls (.int v :: rest))) : Go p e below s C S Q T (mkF m pc Ls (.int j :: .ref a :: rest)) := by
  obtain ⟨cl, A, S', P, G, H⟩ := F
  have q := inb_of S' hj
  exact Go.step (fun t r => X.baloadBooleans hx (j := j) (v := .int v) (by rw [eT]; exact A.1) (State.isArrayOf_alike hZ.alike A.2.1) A.2.2 q (by rw [← hv]; exact H _ (Nat.lt_of_not_le fun z => q (Or.inr z))) (g := mkF m pc Ls (.int j :: .ref a :: rest)) rfl rfl hd t r) k
theorem Go.zastore {g : Nat → Int32} {x : Int32} (X : Stand p l e R s m args below meth c T locs cells slots) (hx : p.tables.exec = Jvm.exec) (hZ : Z.Warmed39 s.vm) (eT : T.heap = h) (F : Zv Z h a n g) (hj : ¬ j < 0 ∧ j < n) (hn : nar .boolean x = x) (hd : decode c.code pc = .ok (.bastore, 1))
    (k : ∀ T' h', Stand p l e R s m args below meth c T' (locs ++ [⟨a, j.toNatClampNeg⟩]) cells slots → T'.heap = h' → Wr h h' a j.toNatClampNeg (.int x) → Zv Z h' a n (updN g j.toNatClampNeg x) → Go p e below s C S Q T' (mkF m (pc + 1) Ls rest)) : Go p e below s C S Q T (mkF m pc Ls (.int x :: .int j :: .ref a :: rest)) := by
  have F0 := F
  obtain ⟨cl, A, S', P, G, H⟩ := F
  have hj' := inb_of S' hj
  obtain ⟨X', st⟩ := bastoreZ X hx (by rw [eT]; exact A.1) (State.isArrayOf_alike hZ.alike A.2.1) A.2.2 hj' (g := mkF m pc Ls (.int x :: .int j :: .ref a :: rest)) rfl rfl hd
  rw [hn] at X' st
  have W : Wr h (T.setCell a (cl.setSlot j.toNatClampNeg (.int x))).heap a j.toNatClampNeg (.int x) := ⟨cl, A.1, A.plain, Nat.lt_of_not_le fun q => hj' (Or.inr q), by rw [← eT]; rfl⟩
  exact Go.step st (k _ _ X' rfl W (Zv.set F0 W (by rw [← hn]; exact fits_nar_bool x)))
/-- clone() of an array -/
theorem Go.clone {a0 : Array Value} {own ad : String} {index W cap : Nat} (X : Stand p l e R s m args below meth c T locs cells slots) (hx : p.tables.exec = Jvm.exec) (hZ : Z.Warmed39 s.vm) (hml : Ls.size = c.maxLocals) (hown : s.vm.findClass own = some m.cls)
    (w1 : (Jvm.Cond.methodLink own index ⟨ad, "clone", "()Ljava/lang/Object;"⟩).before a0 Z = true) (w2 : (Jvm.Cond.sameMethod ad "java/lang/Object" "clone" "()Ljava/lang/Object;").before a0 Z = true) (w3 : (Jvm.Cond.native ⟨"java/lang/Object", "clone", "()Ljava/lang/Object;"⟩).before a0 Z = true)
    (w4 : (Jvm.Cond.instanceMethod ⟨"java/lang/Object", "clone", "()Ljava/lang/Object;"⟩).before a0 Z = true) (w5 : (Jvm.Cond.selects ad ⟨ad, "clone", "()Ljava/lang/Object;"⟩ ⟨"java/lang/Object", "clone", "()Ljava/lang/Object;"⟩).before a0 Z = true) (w6 : (Jvm.Cond.castable ad "java/lang/Cloneable").before a0 Z = true)
    (eT : T.heap = h) (F : Fv Z h a ty n f) (E : Exa Z h a ad) (hd : decode c.code pc = .ok (.invokevirtual index, 3)) (hf : 1 ≤ R.frames) (hW : (rest.map fun v => v.category).sum ≤ W) (hl : W + 14 ≤ R.locals) (hcap : n.toNatClampNeg ≤ cap) (hc : cells + 1 ≤ R.cells) (hsl : slots + cap ≤ R.slots)
    (k : ∀ T' h' b, b = h.size → Stand p l e R s m args below meth c T' locs (cells + 1) (slots + cap) → T'.heap = h' → Ext h h' → Fv Z h' b ty n f → Exa Z h' b ad → Go p e below s C S Q T' (mkF m (pc + 3) Ls (.ref b :: rest))) : Go p e below s C S Q T (mkF m pc Ls (.ref a :: rest)) := by
  obtain ⟨cl, A, S', P, G, H⟩ := F
  have FC : FitC Z cl := fitC_of A fun i hi v hv => by rw [H i hi] at hv; cases hv; exact G i
  obtain ⟨T', h', X', e', ex, A', E', st⟩ := cloneA X hx hZ hown w1 w2 w3 w4 w5 w6 eT A E FC (g := mkF m pc Ls (.ref a :: rest)) rfl hml rfl hd hf (by show 2 * 0 + _ ≤ _; omega) hl (by rw [S']; exact hcap) hc hsl
  exact Go.step st (k T' h' _ rfl X' e' ex ⟨cloneOf cl, A', S', P, G, H⟩ E')
end OwnFv

section OwnConv
open Jvm.FP.Core
theorem own_nnN {a : UInt64} (h : val64 a ≠ .nan) : Jvm.Free.Fl.NoNaN64 a := Jvm.Free.Fl.noNaN64_no.mpr ((notNaN_iff a).mpr h)
theorem own_Nnn {a : UInt64} (h : Jvm.Free.Fl.NoNaN64 a) : val64 a ≠ .nan := (notNaN_iff a).mp (Jvm.Free.Fl.noNaN64_no.mp h)
theorem own_finF {a : UInt64} (h : DFin a) : Jvm.Free.Fl.Fin64 a := Jvm.Free.Fl.fin64_core.mpr h
theorem own_Ffin {a : UInt64} (h : Jvm.Free.Fl.Fin64 a) : DFin a := Jvm.Free.Fl.fin64_core.mp h
theorem own_nnF {a : UInt64} (h : DFin a) : Jvm.Free.Fl.NoNaN64 a := own_nnN h.ne_nan
theorem own_nz {x : Int64} (h : x ≠ 0) : Jvm.Free.Fl.Nz64 (FP.l2d x) := Jvm.Free.Fl.nz64_core.mpr (fun z => l2d_ne_zero h ((zero_bits2 _).mp z))
theorem own_eqD {a b : UInt64} (h : a = b) (n : Jvm.Free.Fl.NoNaN64 a) : FP.dcmp a b = some .eq := by subst h; exact dcmp_self (own_Nnn n)
end OwnConv

def imaxW (u v : Int32) : Int32 := if u < v then v else u
theorem d1_0 : decode jdk_29_method_65_code 0 = .ok (.iload_n 0, 1) := by decide +kernel
theorem d1_1 : decode jdk_29_method_65_code 1 = .ok (.iload_n 1, 1) := by decide +kernel
theorem d1_2 : decode jdk_29_method_65_code 2 = .ok (.if_icmp .lt 7, 3) := by decide +kernel
theorem d1_9 : decode jdk_29_method_65_code 9 = .ok (.iload_n 1, 1) := by decide +kernel
theorem d1_10 : decode jdk_29_method_65_code 10 = .ok (.ireturn, 1) := by decide +kernel
theorem d1_5 : decode jdk_29_method_65_code 5 = .ok (.iload_n 0, 1) := by decide +kernel
theorem d1_6 : decode jdk_29_method_65_code 6 = .ok (.goto 4, 3) := by decide +kernel
set_option maxRecDepth 65536 in
set_option maxHeartbeats 40000000 in
theorem w1 {p : Program} {l : Launch} {e : Env} {s : State} {m : MethodId} {args : Array Value} {below : List Frame} {meth : Method} {c_ : Code} {T0 : State} {locs : List Loc} {Z : State} {a0 : Array Value} {h0 : Heap} {n0 : Nat} (u v : Int32)
    (X0 : Stand p l e ({ frames := 0, cells := 0, slots := 0, locals := 0 } : Room) s m args below meth c_ T0 locs 0 0) (hx : p.tables.exec = Jvm.exec) (hZ : Z.Warmed39 s.vm) (hw : ∀ d ∈ tables_1, d.before a0 Z = true) (hby : c_.code = jdk_29_method_65_code) (hml : c_.maxLocals = 2) (hown : s.vm.findClass "java/lang/Math" = some m.cls) (hnm : meth.name = "max") (hret : meth.sig.returnType = some .int) (hlk : meth.locks = false) (e0 : T0.heap = h0) (Z0 : n0 ≤ h0.size) (N0 : Fr n0 locs)  :
    Go p e below s ({ frames := 0, cells := 0, slots := 0, locals := 0 } : Room).cells ({ frames := 0, cells := 0, slots := 0, locals := 0 } : Room).slots (fun r h L => r = some (.int (imaxW u v)) ∧ Fr n0 L ∧ h = h0) T0 (mkF m 0 #[.val (.int u), .val (.int v)] []) := by
  show Go _ _ _ _ _ _ _ T0 (mkF m 0 #[.val (.int u), .val (.int v)] [])
  refine Go.step (fun _ k => XS.iloadN X0.here hx rfl (hb hby d1_0) rfl k) ?_
  show Go _ _ _ _ _ _ _ T0 (mkF m 1 #[.val (.int u), .val (.int v)] [(.int u)])
  refine Go.step (fun _ k => XS.iloadN X0.here hx rfl (hb hby d1_1) rfl k) ?_
  show Go _ _ _ _ _ _ _ T0 (mkF m 2 #[.val (.int u), .val (.int v)] [(.int v), (.int u)])
  by_cases hc2_1 : u < v
  · refine Go.step (fun _ k => XS.icmpYes X0.here hx rfl (pc0 := 2) (pc' := 9) rfl (hb hby d1_2) rfl (tlt hc2_1).1 (by decide) (by decide) k) ?_
    show Go _ _ _ _ _ _ _ T0 (mkF m 9 #[.val (.int u), .val (.int v)] [])
    refine Go.step (fun _ k => XS.iloadN X0.here hx rfl (hb hby d1_9) rfl k) ?_
    show Go _ _ _ _ _ _ _ T0 (mkF m 10 #[.val (.int u), .val (.int v)] [(.int v)])
    refine Go.retI X0 hx hlk hret (hb hby d1_10) (by decide) (by decide) ?_
    try rw [e0]
    exact ⟨by simp only [imaxW]; rw [if_pos hc2_1], N0, rfl⟩
  · refine Go.step (fun _ k => XS.icmpNo X0.here hx rfl (hb hby d1_2) rfl (flt hc2_1).1 k) ?_
    show Go _ _ _ _ _ _ _ T0 (mkF m 5 #[.val (.int u), .val (.int v)] [])
    refine Go.step (fun _ k => XS.iloadN X0.here hx rfl (hb hby d1_5) rfl k) ?_
    show Go _ _ _ _ _ _ _ T0 (mkF m 6 #[.val (.int u), .val (.int v)] [(.int u)])
    refine Go.step (fun _ k => XS.goto X0.here hx rfl (pc0 := 6) (pc' := 10) rfl (hb hby d1_6) (by decide) (by decide) k) ?_
    show Go _ _ _ _ _ _ _ T0 (mkF m 10 #[.val (.int u), .val (.int v)] [(.int u)])
    refine Go.retI X0 hx hlk hret (hb hby d1_10) (by decide) (by decide) ?_
    try rw [e0]
    exact ⟨by simp only [imaxW]; rw [if_neg hc2_1], N0, rfl⟩
theorem ef_rm1 (m : MethodId) (u : Int32) (v : Int32) : entryFrame m #[(.int u), (.int v)] 2 = mkF m 0 #[.val (.int u), .val (.int v)] [] := by first | (simp [entryFrame, mkF, argsToLocals, Value.category]; done) | rfl
theorem rm1 (l : Launch) (Z : State) (a0 : Array Value) (hw : ∀ d ∈ tables_1, d.before a0 Z = true) (u v : Int32) (h0 : Heap) (n0 : Nat) (Z0 : n0 ≤ h0.size)  :
    Con l Z (⟨"java/lang/Math", "max", "(II)I"⟩ : MethodName) jdk_29_method_65_code 2 (some .int) ({ frames := 0, cells := 0, slots := 0, locals := 0 } : Room) #[(.int u), (.int v)] h0 (fun r h L => r = some (.int (imaxW u v)) ∧ Fr n0 L ∧ h = h0) :=
  con_of (Jvm.Free.JP.mathPlain rfl (by decide +kernel)) (fun p_ e_ s_ m_ b_ meth_ c_ T_ X_ hx hZ hby hml hown hnm hret hlk e0 => Go.cast (ef_rm1 m_ u v) (w1 u v X_ hx hZ hw hby hml hown hnm hret hlk e0 Z0 (Fr.nil n0) ))
section OwnKG
theorem own_max {p k : Int32} (hp : 1 ≤ p.toInt) (K : Int32) (hK : K = imaxW p (k &&& (2147483647 : Int32))) : ¬ K < p ∧ 1 ≤ K.toInt := by
  have h1 := c_mask k 2147483647 31 (by decide) (by decide)
  rw [hK]; unfold imaxW
  by_cases h : p < (k &&& (2147483647 : Int32))
  · rw [if_pos h]; rw [Int32.lt_iff_toInt_lt] at h ⊢; omega
  · rw [if_neg h]; rw [Int32.lt_iff_toInt_lt]; omega
theorem own_k0 {K : Int32} (h : 1 ≤ K.toInt) : ¬ K = (0 : Int32) := fun q => by rw [q] at h; exact absurd h (by decide)
theorem own_first {K x fi : Int32} (h : 1 ≤ K.toInt) (hf : fi = ((x &&& (2147483647 : Int32)) % K)) : 0 ≤ fi.toInt ∧ fi.toInt < K.toInt := by
  have h1 := c_mask x 2147483647 31 (by decide) (by decide)
  have h3 := (c_iremV (x &&& (2147483647 : Int32)) K).1 (by omega) (by omega)
  rw [hf]; omega
theorem own_kf {K fi : Int32} (h1 : 0 ≤ fi.toInt) (h2 : fi.toInt < K.toInt) : (K - fi).toInt = K.toInt - fi.toInt := by
  have h := c_isub K fi
  have a := Int32.toInt_lt (K - fi); have b := Int32.le_toInt (K - fi); have c := Int32.toInt_lt K
  omega
theorem own_kf0 {K fi : Int32} (h1 : 0 ≤ fi.toInt) (h2 : fi.toInt < K.toInt) : ¬ (K - fi) = (0 : Int32) := fun q => by
  have := own_kf h1 h2; rw [q, show (0 : Int32).toInt = 0 from rfl] at this; omega
theorem own_last {K fi x la : Int32} (h1 : 0 ≤ fi.toInt) (h2 : fi.toInt < K.toInt) (hl : la = (fi + ((x &&& (2147483647 : Int32)) % (K - fi)))) : fi.toInt ≤ la.toInt ∧ la.toInt < K.toInt := by
  have hk := own_kf h1 h2
  have g1 := c_mask x 2147483647 31 (by decide) (by decide)
  have g3 := (c_iremV (x &&& (2147483647 : Int32)) (K - fi)).1 (by omega) (by omega)
  have g4 := c_iadd fi ((x &&& (2147483647 : Int32)) % (K - fi))
  have a := Int32.toInt_lt (fi + ((x &&& (2147483647 : Int32)) % (K - fi))); have b := Int32.le_toInt (fi + ((x &&& (2147483647 : Int32)) % (K - fi))); have c := Int32.toInt_lt K
  rw [hl]; obtain ⟨z1, z2, -⟩ := g3; omega
/-- the owner, as the class reckons it, with p shares -/
def ownW (g p K : Int32) : Int32 := ((g.toInt64 * p.toInt64) / K.toInt64).toInt32
theorem own_Kl {K : Int32} (h : 1 ≤ K.toInt) : ¬ K.toInt64 = (0 : Int64) := fun q => by
  have := congrArg Int64.toInt q; rw [c_i2l, show (0 : Int64).toInt = 0 from rfl] at this; omega
theorem own_ownW {g p K : Int32} {i : Nat} (hp1 : 1 ≤ p.toInt) (hp : p.toInt ≤ 3) (h0 : 0 ≤ g.toInt) (h1 : g.toInt < K.toInt) (hi : (i : Int) * K.toInt ≤ g.toInt * p.toInt) (hi2 : g.toInt * p.toInt < ((i : Int) + 1) * K.toInt) (hi3 : i ≤ 3) : ownW g p K = Int32.ofNat i := by
  have m : (g.toInt64 * p.toInt64).toInt = g.toInt * p.toInt := by
    rw [Int64.toInt_mul, c_i2l, c_i2l]
    have := Int32.toInt_lt g
    have b : (g.toInt * p.toInt).natAbs ≤ 2147483648 * 3 := by rw [Int.natAbs_mul]; exact Nat.mul_le_mul (by omega) (by omega)
    exact Int.bmod_eq_of_le (by omega) (by omega)
  have nn : 0 ≤ g.toInt * p.toInt := Int.mul_nonneg h0 (by omega)
  have hk1 : K.toInt64 ≠ -1 := fun q => by have := congrArg Int64.toInt q; rw [c_i2l, show (-1 : Int64).toInt = -1 from rfl] at this; omega
  have d := (c_ldiv (g.toInt64 * p.toInt64) K.toInt64 K.toInt (c_i2l K) hk1).1 (by omega)
  have e : (g.toInt * p.toInt) / K.toInt = (i : Int) := by
    refine Int.le_antisymm (Int.lt_add_one_iff.mp (Int.ediv_lt_of_lt_mul (by omega) hi2)) (Int.le_ediv_of_mul_le (by omega) hi)
  rw [m, e] at d
  unfold ownW
  apply Int32.toInt_inj.mp
  have h2 := c_l2i ((g.toInt64 * p.toInt64) / K.toInt64)
  rw [d] at h2
  have a := Int32.toInt_lt ((g.toInt64 * p.toInt64) / K.toInt64).toInt32; have b := Int32.le_toInt ((g.toInt64 * p.toInt64) / K.toInt64).toInt32
  have q : (Int32.ofNat i).toInt = (i : Int) := by
    rcases (by omega : i = 0 ∨ i = 1 ∨ i = 2 ∨ i = 3) with rfl | rfl | rfl | rfl <;> decide
  rw [q]; omega
abbrev st1 (K p : Int32) : Int64 := ((K.toInt64 + p.toInt64) - (1 : Int64)) / p.toInt64
abbrev st2 (K p : Int32) : Int64 := (((2 : Int64) * K.toInt64 + p.toInt64) - (1 : Int64)) / p.toInt64
def refW (p : Nat) (g K : Int32) : Int32 := match p with
  | 3 => if g.toInt64 < st2 K 3 then (if g.toInt64 < st1 K 3 then 0 else 1) else 2
  | 2 => if g.toInt64 < st1 K 2 then 0 else 1
  | _ => 0
theorem own_st1 {K p : Int32} (hp1 : 1 ≤ p.toInt) (hp : p.toInt ≤ 3) (h : 1 ≤ K.toInt) : (st1 K p).toInt = (K.toInt + p.toInt - 1) / p.toInt := by
  have h1 := c_ladd K.toInt64 p.toInt64
  have h2 := c_lsub (K.toInt64 + p.toInt64) 1
  rw [c_i2l, c_i2l] at h1
  rw [show (1 : Int64).toInt = 1 from rfl] at h2
  have a := Int64.toInt_lt (K.toInt64 + p.toInt64); have b := Int64.le_toInt (K.toInt64 + p.toInt64); have c := Int32.toInt_lt K
  have a2 := Int64.toInt_lt ((K.toInt64 + p.toInt64) - (1 : Int64)); have b2 := Int64.le_toInt ((K.toInt64 + p.toInt64) - (1 : Int64))
  have e : ((K.toInt64 + p.toInt64) - (1 : Int64)).toInt = K.toInt + p.toInt - 1 := by omega
  have hk1 : p.toInt64 ≠ -1 := fun q => by have := congrArg Int64.toInt q; rw [c_i2l, show (-1 : Int64).toInt = -1 from rfl] at this; omega
  have d := (c_ldiv ((K.toInt64 + p.toInt64) - (1 : Int64)) p.toInt64 p.toInt (c_i2l p) hk1).1 (by omega)
  rw [e] at d; exact d
theorem own_st2 {K p : Int32} (hp1 : 1 ≤ p.toInt) (hp : p.toInt ≤ 3) (h : 1 ≤ K.toInt) : (st2 K p).toInt = (2 * K.toInt + p.toInt - 1) / p.toInt := by
  have h0 := c_lmul 2 K.toInt64
  rw [show (2 : Int64).toInt = 2 from rfl, c_i2l] at h0
  have a0 := Int64.toInt_lt ((2 : Int64) * K.toInt64); have b0 := Int64.le_toInt ((2 : Int64) * K.toInt64); have c := Int32.toInt_lt K
  have h1 := c_ladd ((2 : Int64) * K.toInt64) p.toInt64
  have h2 := c_lsub ((2 : Int64) * K.toInt64 + p.toInt64) 1
  rw [c_i2l] at h1
  rw [show (1 : Int64).toInt = 1 from rfl] at h2
  have a := Int64.toInt_lt ((2 : Int64) * K.toInt64 + p.toInt64); have b := Int64.le_toInt ((2 : Int64) * K.toInt64 + p.toInt64)
  have a2 := Int64.toInt_lt (((2 : Int64) * K.toInt64 + p.toInt64) - (1 : Int64)); have b2 := Int64.le_toInt (((2 : Int64) * K.toInt64 + p.toInt64) - (1 : Int64))
  have e : (((2 : Int64) * K.toInt64 + p.toInt64) - (1 : Int64)).toInt = 2 * K.toInt + p.toInt - 1 := by omega
  have hk1 : p.toInt64 ≠ -1 := fun q => by have := congrArg Int64.toInt q; rw [c_i2l, show (-1 : Int64).toInt = -1 from rfl] at this; omega
  have d := (c_ldiv (((2 : Int64) * K.toInt64 + p.toInt64) - (1 : Int64)) p.toInt64 p.toInt (c_i2l p) hk1).1 (by omega)
  rw [e] at d; exact d
/-- both owners agree -/
theorem own_agree1 {g K : Int32} (h0 : 0 ≤ g.toInt) (h1 : g.toInt < K.toInt) : refW 1 g K = 0 ∧ ownW g 1 K = 0 :=
  ⟨rfl, own_ownW (p := 1) (i := 0) (by decide) (by decide) h0 h1 (by simp; omega) (by simp; omega) (by decide)⟩
theorem own_agree2 {g K : Int32} (h0 : 0 ≤ g.toInt) (h1 : g.toInt < K.toInt) : (refW 2 g K = 0 ∧ ownW g 2 K = 0 ∧ 2 * g.toInt < K.toInt) ∨ (refW 2 g K = 1 ∧ ownW g 2 K = 1 ∧ K.toInt ≤ 2 * g.toInt) := by
  have e := own_st1 (K := K) (p := 2) (by decide) (by decide) (by omega)
  rw [show (2 : Int32).toInt = 2 from rfl] at e
  have t2 : (2 : Int32).toInt = 2 := rfl
  by_cases h : 2 * g.toInt < K.toInt
  · left
    refine ⟨?_, own_ownW (p := 2) (i := 0) (by decide) (by decide) h0 h1 (by simp; omega) (by simp; omega) (by decide), h⟩
    unfold refW; exact if_pos (by rw [Int64.lt_iff_toInt_lt, c_i2l, e]; omega)
  · right
    refine ⟨?_, own_ownW (p := 2) (i := 1) (by decide) (by decide) h0 h1 (by simp; omega) (by simp; omega) (by decide), by omega⟩
    unfold refW; exact if_neg (by rw [Int64.lt_iff_toInt_lt, c_i2l, e]; omega)
theorem own_agree3 {g K : Int32} (h0 : 0 ≤ g.toInt) (h1 : g.toInt < K.toInt) : (refW 3 g K = 0 ∧ ownW g 3 K = 0 ∧ 3 * g.toInt < K.toInt) ∨ (refW 3 g K = 1 ∧ ownW g 3 K = 1 ∧ K.toInt ≤ 3 * g.toInt ∧ 3 * g.toInt < 2 * K.toInt) ∨ (refW 3 g K = 2 ∧ ownW g 3 K = 2 ∧ 2 * K.toInt ≤ 3 * g.toInt) := by
  have e := own_st1 (K := K) (p := 3) (by decide) (by decide) (by omega)
  have e2 := own_st2 (K := K) (p := 3) (by decide) (by decide) (by omega)
  rw [show (3 : Int32).toInt = 3 from rfl] at e e2
  have t3 : (3 : Int32).toInt = 3 := rfl
  by_cases h : 3 * g.toInt < K.toInt
  · left
    refine ⟨?_, own_ownW (p := 3) (i := 0) (by decide) (by decide) h0 h1 (by simp; omega) (by simp; omega) (by decide), h⟩
    unfold refW; exact (if_pos (by rw [Int64.lt_iff_toInt_lt, c_i2l, e2]; omega)).trans (if_pos (by rw [Int64.lt_iff_toInt_lt, c_i2l, e]; omega))
  · by_cases h' : 3 * g.toInt < 2 * K.toInt
    · right; left
      refine ⟨?_, own_ownW (p := 3) (i := 1) (by decide) (by decide) h0 h1 (by simp; omega) (by simp; omega) (by decide), by omega, h'⟩
      unfold refW; exact (if_pos (by rw [Int64.lt_iff_toInt_lt, c_i2l, e2]; omega)).trans (if_neg (by rw [Int64.lt_iff_toInt_lt, c_i2l, e]; omega))
    · right; right
      refine ⟨?_, own_ownW (p := 3) (i := 2) (by decide) (by decide) h0 h1 (by simp; omega) (by simp; omega) (by decide), by omega⟩
      unfold refW; exact if_neg (by rw [Int64.lt_iff_toInt_lt, c_i2l, e2]; omega)
def Ow (p : Nat) (P x K : Int32) (i : Int32) : Prop := refW p x K = i ∧ ownW x P K = i
theorem own_combo1 {K x y : Int32} (h0 : 0 ≤ x.toInt) (h1 : x.toInt ≤ y.toInt) (h2 : y.toInt < K.toInt) : Ow 1 1 x K 0 ∧ Ow 1 1 y K 0 := ⟨own_agree1 h0 (by omega), own_agree1 (by omega) h2⟩
theorem own_combo2 {K x y : Int32} (h0 : 0 ≤ x.toInt) (h1 : x.toInt ≤ y.toInt) (h2 : y.toInt < K.toInt) : (Ow 2 2 x K 0 ∧ Ow 2 2 y K 0) ∨ (Ow 2 2 x K 0 ∧ Ow 2 2 y K 1) ∨ (Ow 2 2 x K 1 ∧ Ow 2 2 y K 1) := by
  rcases own_agree2 h0 (by omega : x.toInt < K.toInt) with ⟨a, b, c⟩ | ⟨a, b, c⟩ <;> rcases own_agree2 (by omega : 0 ≤ y.toInt) h2 with ⟨d, e, f⟩ | ⟨d, e, f⟩
  · exact Or.inl ⟨⟨a, b⟩, ⟨d, e⟩⟩
  · exact Or.inr (Or.inl ⟨⟨a, b⟩, ⟨d, e⟩⟩)
  · omega
  · exact Or.inr (Or.inr ⟨⟨a, b⟩, ⟨d, e⟩⟩)
theorem own_combo3 {K x y : Int32} (h0 : 0 ≤ x.toInt) (h1 : x.toInt ≤ y.toInt) (h2 : y.toInt < K.toInt) : (Ow 3 3 x K 0 ∧ Ow 3 3 y K 0) ∨ (Ow 3 3 x K 0 ∧ Ow 3 3 y K 1) ∨ (Ow 3 3 x K 0 ∧ Ow 3 3 y K 2) ∨ (Ow 3 3 x K 1 ∧ Ow 3 3 y K 1) ∨ (Ow 3 3 x K 1 ∧ Ow 3 3 y K 2) ∨ (Ow 3 3 x K 2 ∧ Ow 3 3 y K 2) := by
  rcases own_agree3 h0 (by omega : x.toInt < K.toInt) with ⟨a, b, c⟩ | ⟨a, b, c⟩ | ⟨a, b, c⟩ <;> rcases own_agree3 (by omega : 0 ≤ y.toInt) h2 with ⟨d, e, f⟩ | ⟨d, e, f⟩ | ⟨d, e, f⟩
  · exact Or.inl ⟨⟨a, b⟩, ⟨d, e⟩⟩
  · exact Or.inr (Or.inl ⟨⟨a, b⟩, ⟨d, e⟩⟩)
  · exact Or.inr (Or.inr (Or.inl ⟨⟨a, b⟩, ⟨d, e⟩⟩))
  · omega
  · exact Or.inr (Or.inr (Or.inr (Or.inl ⟨⟨a, b⟩, ⟨d, e⟩⟩)))
  · exact Or.inr (Or.inr (Or.inr (Or.inr (Or.inl ⟨⟨a, b⟩, ⟨d, e⟩⟩))))
  · omega
  · omega
  · exact Or.inr (Or.inr (Or.inr (Or.inr (Or.inr ⟨⟨a, b⟩, ⟨d, e⟩⟩))))
theorem own_pp (x : Int32) : ((1 : Int32) + (x &&& (2147483647 : Int32)) % (3 : Int32)) = 1 ∨ ((1 : Int32) + (x &&& (2147483647 : Int32)) % (3 : Int32)) = 2 ∨ ((1 : Int32) + (x &&& (2147483647 : Int32)) % (3 : Int32)) = 3 := by
  have h1 := c_mask x 2147483647 31 (by decide) (by decide)
  have h2 := (c_irem (x &&& (2147483647 : Int32)) 3 3 (by decide)).1 (by omega)
  have h3 := c_iadd 1 ((x &&& (2147483647 : Int32)) % (3 : Int32))
  have h4 := Int32.toInt_lt ((1 : Int32) + (x &&& (2147483647 : Int32)) % (3 : Int32)); have h5 := Int32.le_toInt ((1 : Int32) + (x &&& (2147483647 : Int32)) % (3 : Int32))
  simp only [← Int32.toInt_inj, show (1 : Int32).toInt = 1 from rfl, show (2 : Int32).toInt = 2 from rfl, show (3 : Int32).toInt = 3 from rfl] at h3 ⊢
  omega
def S20 (s : Int64) : Prop := 0 ≤ s.toInt ∧ s.toInt < 1048576
theorem own_s (x : Int32) : S20 ((x &&& (1048575 : Int32)).toInt64) := by
  have h1 := c_mask x 1048575 20 (by decide) (by decide)
  unfold S20; rw [c_i2l]; omega
theorem own_B {s : Int64} (h1 : -100000000 < s.toInt) (h2 : s.toInt < 100000000) : B53 s := ⟨by omega, by omega⟩
theorem own_sum {a b : Int64} (ha1 : 0 ≤ a.toInt) (ha2 : a.toInt < 10000000) (hb : S20 b) : (a + b).toInt = a.toInt + b.toInt := add64 (own_B (by omega) (by omega)) (own_B (by have := hb.1; omega) (by have := hb.2; omega))
theorem own_nneg {s : Int64} (h : S20 s) : ¬ FP.dcmp (FP.l2d s) (0 : UInt64) = some .lt := by
  rw [← l2d_zero, dcmp_ws (own_B (by have := h.1; omega) (by have := h.2; omega)) (own_B (by decide) (by decide))]
  rw [show (0 : Int64).toInt = 0 from rfl, if_neg (by have := h.1; omega)]
  split <;> decide
/-- the sums, as doubles -/
theorem own_d1 {a : Int64} (ha : S20 a) : FP.dadd (0 : UInt64) (FP.l2d a) = FP.l2d a := by
  have := dadd_w (a := 0) (b := a) (own_B (by decide) (by decide)) (own_B (by have := ha.1; omega) (by have := ha.2; omega))
  rw [l2d_zero] at this; rw [this]; congr 1; exact Int64.zero_add a
theorem own_d2 {a b : Int64} (ha : S20 a) (hb : S20 b) : FP.dadd (FP.dadd (0 : UInt64) (FP.l2d a)) (FP.l2d b) = FP.l2d (a + b) := by
  rw [own_d1 ha]; exact dadd_w (own_B (by have := ha.1; omega) (by have := ha.2; omega)) (own_B (by have := hb.1; omega) (by have := hb.2; omega))
theorem own_d3 {a b c : Int64} (ha : S20 a) (hb : S20 b) (hc : S20 c) : FP.dadd (FP.dadd (FP.dadd (0 : UInt64) (FP.l2d a)) (FP.l2d b)) (FP.l2d c) = FP.l2d (a + b + c) := by
  have e := own_sum (a := a) (b := b) ha.1 (by have := ha.2; omega) hb
  rw [own_d2 ha hb]; exact dadd_w (own_B (by have := ha.1; have := hb.1; omega) (by have := ha.2; have := hb.2; omega)) (own_B (by have := hc.1; omega) (by have := hc.2; omega))
theorem own_at {x y : UInt64} {a b c : Int64} (hx : x = FP.l2d a) (hy : y = FP.l2d b) (ha1 : -100000000 < a.toInt) (ha2 : a.toInt < 100000000) (hb1 : -100000000 < b.toInt) (hb2 : b.toInt < 100000000) (hc : a - b = c) : FP.dcmp (FP.dsub x y) (FP.l2d c) = some .eq := by
  rw [hx, hy, dsub_w (own_B ha1 ha2) (own_B hb1 hb2), hc]; exact Jvm.FP.Core.dcmp_self (Jvm.FP.Core.l2d_fin c).ne_nan
theorem own_eq64 {x y : Int64} (h : (x.toInt - y.toInt) % 18446744073709551616 = 0) : x = y := by
  apply Int64.toInt_inj.mp
  have a := Int64.toInt_lt x; have b := Int64.le_toInt x; have c := Int64.toInt_lt y; have d := Int64.le_toInt y
  omega
end OwnKG

theorem d4_0 : decode jdk_117_method_8_code 0 = .ok (.dload_n 0, 1) := by decide +kernel
theorem pd_0 : parseMethodDescriptor "(D)D" = some ⟨[.double], some .double⟩ := by decide +kernel
theorem d4_1 : decode jdk_117_method_8_code 1 = .ok (.invokestatic 38, 3) := by decide +kernel
theorem d4_4 : decode jdk_117_method_8_code 4 = .ok (.ldc2_w 111, 3) := by decide +kernel
theorem d4_7 : decode jdk_117_method_8_code 7 = .ok (.dcmp .g, 1) := by decide +kernel
theorem d4_8 : decode jdk_117_method_8_code 8 = .ok (.ifCond .gt 7, 3) := by decide +kernel
theorem d4_11 : decode jdk_117_method_8_code 11 = .ok (.iconst 1, 1) := by decide +kernel
theorem d4_12 : decode jdk_117_method_8_code 12 = .ok (.goto 4, 3) := by decide +kernel
theorem d4_16 : decode jdk_117_method_8_code 16 = .ok (.ireturn, 1) := by decide +kernel
set_option maxRecDepth 65536 in
set_option maxHeartbeats 40000000 in
theorem w4 {p : Program} {l : Launch} {e : Env} {s : State} {m : MethodId} {args : Array Value} {below : List Frame} {meth : Method} {c_ : Code} {T0 : State} {locs : List Loc} {Z : State} {a0 : Array Value} {h0 : Heap} {n0 : Nat} (v : UInt64)
    (X0 : Stand p l e ({ frames := 1, cells := 0, slots := 0, locals := 13 } : Room) s m args below meth c_ T0 locs 0 0) (hx : p.tables.exec = Jvm.exec) (hZ : Z.Warmed39 s.vm) (hw : ∀ d ∈ tables_1, d.before a0 Z = true) (hby : c_.code = jdk_117_method_8_code) (hml : c_.maxLocals = 2) (hown : s.vm.findClass "java/lang/Double" = some m.cls) (hnm : meth.name = "isFinite") (hret : meth.sig.returnType = some .boolean) (hlk : meth.locks = false) (e0 : T0.heap = h0) (Z0 : n0 ≤ h0.size) (N0 : Fr n0 locs) (hf : Jvm.Free.Fl.Fin64 v) :
    Go p e below s ({ frames := 1, cells := 0, slots := 0, locals := 13 } : Room).cells ({ frames := 1, cells := 0, slots := 0, locals := 13 } : Room).slots (fun r h L => r = some (.int 1) ∧ Fr n0 L ∧ h = h0) T0 (mkF m 0 #[.val (.double v), .second] []) := by
  show Go _ _ _ _ _ _ _ T0 (mkF m 0 #[.val (.double v), .second] [])
  refine Go.step (fun _ k => XS.dloadN X0.here hx rfl (hb hby d4_0) rfl k) ?_
  show Go _ _ _ _ _ _ _ T0 (mkF m 1 #[.val (.double v), .second] [(.double v)])
  obtain ⟨T1, X1, e1, st1⟩ := natS X0 hx hZ (y := (⟨"java/lang/Math", "abs", "(D)D"⟩ : MethodName)) hown (hw _ (List.mem_of_getElem? (i := 35) rfl)) (hw _ (List.mem_of_getElem? (i := 36) rfl)) (hw _ (List.mem_of_getElem? (i := 5) rfl)) (hw _ (List.mem_of_getElem? (i := 37) rfl)) (by decide) e0 (W := 0) (F := fun a' => a' = #[.double v] ∧ Jvm.Free.Fl.NoNaN64 v) (val' := (.double (v &&& 0x7fffffffffffffff))) (fun hc => Jvm.Free.Fl.Abs.absD_pays v hc (by decide) (by decide)) (g := (mkF m 1 #[.val (.double v), .second] [(.double v)])) rfl (by rw [hml]; rfl) (argsL := [(.double v)]) (rest := []) (lenOf pd_0 rfl) rfl (by show 2 * 0 + _ ≤ _; exact Nat.le_of_eq rfl) (hb hby d4_1) (by decide) (by decide) ⟨rfl, hf.noNaN⟩ rfl
  refine Go.step st1 ?_
  show Go _ _ _ _ _ _ _ T1 (mkF m 4 #[.val (.double v), .second] [(.double (v &&& 0x7fffffffffffffff))])
  refine Go.step (X1.ldc2DoubleC hx hown (mvT hZ (hw _ (List.mem_of_getElem? (i := 38) rfl))) (g := (mkF m 4 #[.val (.double v), .second] [(.double (v &&& 0x7fffffffffffffff))])) rfl (hb hby d4_4)) ?_
  show Go _ _ _ _ _ _ _ T1 (mkF m 7 #[.val (.double v), .second] [(.double (9218868437227405311 : UInt64)), (.double (v &&& 0x7fffffffffffffff))])
  refine Go.step (fun _ k => XS.dcmpS X1.here hx rfl (hb hby d4_7) rfl rfl k) ?_
  show Go _ _ _ _ _ _ _ T1 (mkF m 8 #[.val (.double v), .second] [(.int (cmpValue (FP.dcmp (v &&& 0x7fffffffffffffff) (9218868437227405311 : UInt64)) .g))])
  refine Go.step (fun _ k => XS.ifNo X1.here hx rfl (hb hby d4_8) rfl (le_y ((Jvm.FP.Core.le_max (own_Ffin hf).notNaN).mpr (own_Ffin hf))) k) ?_
  show Go _ _ _ _ _ _ _ T1 (mkF m 11 #[.val (.double v), .second] [])
  refine Go.step (fun _ k => XS.iconst X1.here hx rfl (hb hby d4_11) k) ?_
  show Go _ _ _ _ _ _ _ T1 (mkF m 12 #[.val (.double v), .second] [(.int (1 : Int32))])
  refine Go.step (fun _ k => XS.goto X1.here hx rfl (pc0 := 12) (pc' := 16) rfl (hb hby d4_12) (by decide) (by decide) k) ?_
  show Go _ _ _ _ _ _ _ T1 (mkF m 16 #[.val (.double v), .second] [(.int (1 : Int32))])
  refine Go.retZ X1 hx hlk hret (by decide) (hb hby d4_16) (by decide) (by decide) ?_
  try rw [e1]
  exact ⟨rfl, N0, rfl⟩
theorem pn_4 : plainName "java/lang/Double" = true := by first | (simp [plainName, overriddenIn]; done) | decide +kernel
theorem ef_rm4 (m : MethodId) (v : UInt64) : entryFrame m #[(.double v)] 2 = mkF m 0 #[.val (.double v), .second] [] := by first | (simp [entryFrame, mkF, argsToLocals, Value.category]; done) | rfl
theorem rm4 (l : Launch) (Z : State) (a0 : Array Value) (hw : ∀ d ∈ tables_1, d.before a0 Z = true) (v : UInt64) (h0 : Heap) (n0 : Nat) (Z0 : n0 ≤ h0.size) (hf : Jvm.Free.Fl.Fin64 v) :
    Con l Z (⟨"java/lang/Double", "isFinite", "(D)Z"⟩ : MethodName) jdk_117_method_8_code 2 (some .boolean) ({ frames := 1, cells := 0, slots := 0, locals := 13 } : Room) #[(.double v)] h0 (fun r h L => r = some (.int 1) ∧ Fr n0 L ∧ h = h0) :=
  con_of (plainFor_of_name pn_4) (fun p_ e_ s_ m_ b_ meth_ c_ T_ X_ hx hZ hby hml hown hnm hret hlk e0 => Go.cast (ef_rm4 m_ v) (w4 v X_ hx hZ hw hby hml hown hnm hret hlk e0 Z0 (Fr.nil n0) hf))
theorem d2_0 : decode prog_33_method_1_code 0 = .ok (.aload_n 0, 1) := by decide +kernel
theorem d2_1 : decode prog_33_method_1_code 1 = .ok (.invokespecial 1, 3) := by decide +kernel
theorem d2_4 : decode prog_33_method_1_code 4 = .ok (.aload_n 2, 1) := by decide +kernel
theorem d2_5 : decode prog_33_method_1_code 5 = .ok (.arraylength, 1) := by decide +kernel
theorem d2_6 : decode prog_33_method_1_code 6 = .ok (.iconst 1, 1) := by decide +kernel
theorem d2_7 : decode prog_33_method_1_code 7 = .ok (.if_icmp .lt 9, 3) := by decide +kernel
theorem d2_10 : decode prog_33_method_1_code 10 = .ok (.aload_n 2, 1) := by decide +kernel
theorem d2_11 : decode prog_33_method_1_code 11 = .ok (.arraylength, 1) := by decide +kernel
theorem d2_12 : decode prog_33_method_1_code 12 = .ok (.iload_n 1, 1) := by decide +kernel
theorem d2_13 : decode prog_33_method_1_code 13 = .ok (.if_icmp .le 19, 3) := by decide +kernel
theorem d2_32 : decode prog_33_method_1_code 32 = .ok (.aload_n 0, 1) := by decide +kernel
theorem d2_33 : decode prog_33_method_1_code 33 = .ok (.iload_n 1, 1) := by decide +kernel
theorem d2_34 : decode prog_33_method_1_code 34 = .ok (.putfield 16, 3) := by decide +kernel
theorem d2_37 : decode prog_33_method_1_code 37 = .ok (.aload_n 0, 1) := by decide +kernel
theorem d2_38 : decode prog_33_method_1_code 38 = .ok (.aload_n 2, 1) := by decide +kernel
theorem d2_39 : decode prog_33_method_1_code 39 = .ok (.invokevirtual 22, 3) := by decide +kernel
theorem d2_42 : decode prog_33_method_1_code 42 = .ok (.checkcast 23, 3) := by decide +kernel
theorem d2_45 : decode prog_33_method_1_code 45 = .ok (.putfield 28, 3) := by decide +kernel
theorem d2_48 : decode prog_33_method_1_code 48 = .ok (.aload_n 0, 1) := by decide +kernel
theorem d2_49 : decode prog_33_method_1_code 49 = .ok (.aload_n 2, 1) := by decide +kernel
theorem d2_50 : decode prog_33_method_1_code 50 = .ok (.arraylength, 1) := by decide +kernel
theorem d2_51 : decode prog_33_method_1_code 51 = .ok (.iconst 1, 1) := by decide +kernel
theorem d2_52 : decode prog_33_method_1_code 52 = .ok (.iadd, 1) := by decide +kernel
theorem d2_53 : decode prog_33_method_1_code 53 = .ok (.newarray .double, 2) := by decide +kernel
theorem d2_55 : decode prog_33_method_1_code 55 = .ok (.putfield 31, 3) := by decide +kernel
theorem d2_58 : decode prog_33_method_1_code 58 = .ok (.iconst 0, 1) := by decide +kernel
theorem d2_59 : decode prog_33_method_1_code 59 = .ok (.istore_n 3, 1) := by decide +kernel
theorem d2_60 : decode prog_33_method_1_code 60 = .ok (.iload_n 3, 1) := by decide +kernel
theorem d2_61 : decode prog_33_method_1_code 61 = .ok (.aload_n 2, 1) := by decide +kernel
theorem d2_62 : decode prog_33_method_1_code 62 = .ok (.arraylength, 1) := by decide +kernel
theorem d2_63 : decode prog_33_method_1_code 63 = .ok (.if_icmp .ge 60, 3) := by decide +kernel
theorem d2_66 : decode prog_33_method_1_code 66 = .ok (.aload_n 2, 1) := by decide +kernel
theorem d2_67 : decode prog_33_method_1_code 67 = .ok (.iload_n 3, 1) := by decide +kernel
theorem d2_68 : decode prog_33_method_1_code 68 = .ok (.daload, 1) := by decide +kernel
theorem d2_69 : decode prog_33_method_1_code 69 = .ok (.invokestatic 34, 3) := by decide +kernel
theorem pd_1 : parseMethodDescriptor "(D)Z" = some ⟨[.double], some .boolean⟩ := by decide +kernel
theorem d2_72 : decode prog_33_method_1_code 72 = .ok (.ifCond .eq 11, 3) := by decide +kernel
theorem d2_75 : decode prog_33_method_1_code 75 = .ok (.aload_n 2, 1) := by decide +kernel
theorem d2_76 : decode prog_33_method_1_code 76 = .ok (.iload_n 3, 1) := by decide +kernel
theorem d2_77 : decode prog_33_method_1_code 77 = .ok (.daload, 1) := by decide +kernel
theorem d2_78 : decode prog_33_method_1_code 78 = .ok (.dconst 0, 1) := by decide +kernel
theorem d2_79 : decode prog_33_method_1_code 79 = .ok (.dcmp .g, 1) := by decide +kernel
theorem d2_80 : decode prog_33_method_1_code 80 = .ok (.ifCond .ge 19, 3) := by decide +kernel
theorem d2_99 : decode prog_33_method_1_code 99 = .ok (.aload_n 0, 1) := by decide +kernel
theorem d2_100 : decode prog_33_method_1_code 100 = .ok (.getfield 31, 3) := by decide +kernel
theorem d2_103 : decode prog_33_method_1_code 103 = .ok (.iload_n 3, 1) := by decide +kernel
theorem d2_104 : decode prog_33_method_1_code 104 = .ok (.iconst 1, 1) := by decide +kernel
theorem d2_105 : decode prog_33_method_1_code 105 = .ok (.iadd, 1) := by decide +kernel
theorem d2_106 : decode prog_33_method_1_code 106 = .ok (.aload_n 0, 1) := by decide +kernel
theorem d2_107 : decode prog_33_method_1_code 107 = .ok (.getfield 31, 3) := by decide +kernel
theorem d2_110 : decode prog_33_method_1_code 110 = .ok (.iload_n 3, 1) := by decide +kernel
theorem d2_111 : decode prog_33_method_1_code 111 = .ok (.daload, 1) := by decide +kernel
theorem d2_112 : decode prog_33_method_1_code 112 = .ok (.aload_n 2, 1) := by decide +kernel
theorem d2_113 : decode prog_33_method_1_code 113 = .ok (.iload_n 3, 1) := by decide +kernel
theorem d2_114 : decode prog_33_method_1_code 114 = .ok (.daload, 1) := by decide +kernel
theorem d2_115 : decode prog_33_method_1_code 115 = .ok (.dadd, 1) := by decide +kernel
theorem d2_116 : decode prog_33_method_1_code 116 = .ok (.dastore, 1) := by decide +kernel
theorem d2_117 : decode prog_33_method_1_code 117 = .ok (.iinc 3 1, 3) := by decide +kernel
theorem d2_120 : decode prog_33_method_1_code 120 = .ok (.goto (-60), 3) := by decide +kernel
theorem d2_123 : decode prog_33_method_1_code 123 = .ok (.return_, 1) := by decide +kernel
set_option maxRecDepth 65536 in
set_option maxHeartbeats 40000000 in
theorem w2_1 {p : Program} {l : Launch} {e : Env} {s : State} {m : MethodId} {args : Array Value} {below : List Frame} {meth : Method} {c_ : Code} {T0 : State} {locs : List Loc} {Z : State} {a0 : Array Value} {h0 : Heap} {n0 : Nat} (a q : Addr) (K : Int32) (g : Nat → UInt64)
    (X0 : Stand p l e ({ frames := 2, cells := 2, slots := 3, locals := 40 } : Room) s m args below meth c_ T0 locs 0 0) (hx : p.tables.exec = Jvm.exec) (hZ : Z.Warmed39 s.vm) (hw : ∀ d ∈ tables_1, d.before a0 Z = true) (hby : c_.code = prog_33_method_1_code) (hml : c_.maxLocals = 4) (hown : s.vm.findClass "tidewatch/decision/KeyGroupCeiling" = some m.cls) (hnm : meth.name = "<init>") (hret : meth.sig.returnType = none) (hlk : meth.locks = false) (e0 : T0.heap = h0) (Z0 : n0 ≤ h0.size) (N0 : Fr n0 locs) (E_a : Exa Z h0 a "tidewatch/decision/KeyGroupCeiling") (F_keyGroups_a : Fld Z h0 a "tidewatch/decision/KeyGroupCeiling" "keyGroups" "I" (.int (0 : Int32))) (F_shares_a : Fld Z h0 a "tidewatch/decision/KeyGroupCeiling" "shares" "[D" .null) (F_before_a : Fld Z h0 a "tidewatch/decision/KeyGroupCeiling" "before" "[D" .null) (E_q : Exa Z h0 q "[D") (V_q : Dv Z h0 q (1 : Int32) g) (ge_a : n0 ≤ a) (ne_a_q : a ≠ q) (hK : ¬ K < (1 : Int32)) (hf : ∀ i, i < 1 → Jvm.Free.Fl.Fin64 (g i)) (hp : ∀ i, i < 1 → ¬ FP.dcmp (g i) (0 : UInt64) = some .lt) :
    Go p e below s ({ frames := 2, cells := 2, slots := 3, locals := 40 } : Room).cells ({ frames := 2, cells := 2, slots := 3, locals := 40 } : Room).slots (fun r h L => r = none ∧ Fr n0 L ∧ Keep h0 h [a] ∧ Exa Z h a "tidewatch/decision/KeyGroupCeiling" ∧ Fld Z h a "tidewatch/decision/KeyGroupCeiling" "keyGroups" "I" (.int K) ∧ ∃ c d : Addr, Fld Z h a "tidewatch/decision/KeyGroupCeiling" "shares" "[D" (.ref c) ∧ Fld Z h a "tidewatch/decision/KeyGroupCeiling" "before" "[D" (.ref d) ∧ Dv Z h c (1 : Int32) g ∧ Dv Z h d (2 : Int32) (updN (fun _ => (0 : UInt64)) 1 (FP.dadd (0 : UInt64) (g 0))) ∧ h0.size ≤ c ∧ h0.size ≤ d ∧ c ≠ d) T0 (mkF m 0 #[.val (.ref a), .val (.int K), .val (.ref q), .unset] []) := by
  show Go _ _ _ _ _ _ _ T0 (mkF m 0 #[.val (.ref a), .val (.int K), .val (.ref q), .unset] [])
  refine Go.step (fun _ k => XS.aloadN X0.here hx rfl (hb hby d2_0) rfl rfl k) ?_
  show Go _ _ _ _ _ _ _ T0 (mkF m 1 #[.val (.ref a), .val (.int K), .val (.ref q), .unset] [(.ref a)])
  obtain ⟨T1, X1, e1, st1⟩ := initO X0 hx hZ hown (hw _ (List.mem_of_getElem? (i := 13) rfl)) (hw _ (List.mem_of_getElem? (i := 14) rfl)) (hw _ (List.mem_of_getElem? (i := 15) rfl)) e0 (g := (mkF m 1 #[.val (.ref a), .val (.int K), .val (.ref q), .unset] [(.ref a)])) rfl (by rw [hml]; rfl) rfl (hb hby d2_1) (by decide) (W := 0) (by show 2 * 0 + _ ≤ _; exact Nat.le_of_eq rfl) (by decide)
  refine Go.step st1 ?_
  show Go _ _ _ _ _ _ _ T1 (mkF m 4 #[.val (.ref a), .val (.int K), .val (.ref q), .unset] [])
  refine Go.step (fun _ k => XS.aloadN X1.here hx rfl (hb hby d2_4) rfl rfl k) ?_
  show Go _ _ _ _ _ _ _ T1 (mkF m 5 #[.val (.ref a), .val (.int K), .val (.ref q), .unset] [(.ref q)])
  refine Go.alen X1 hx hZ e1 V_q (hb hby d2_5) ?_
  show Go _ _ _ _ _ _ _ T1 (mkF m 6 #[.val (.ref a), .val (.int K), .val (.ref q), .unset] [(.int (1 : Int32))])
  refine Go.step (fun _ k => XS.iconst X1.here hx rfl (hb hby d2_6) k) ?_
  show Go _ _ _ _ _ _ _ T1 (mkF m 7 #[.val (.ref a), .val (.int K), .val (.ref q), .unset] [(.int (1 : Int32)), (.int (1 : Int32))])
  refine Go.step (fun _ k => XS.icmpNo X1.here hx rfl (hb hby d2_7) rfl (flt (by decide : ¬ ((1 : Int32) < (1 : Int32)))).1 k) ?_
  show Go _ _ _ _ _ _ _ T1 (mkF m 10 #[.val (.ref a), .val (.int K), .val (.ref q), .unset] [])
  refine Go.step (fun _ k => XS.aloadN X1.here hx rfl (hb hby d2_10) rfl rfl k) ?_
  show Go _ _ _ _ _ _ _ T1 (mkF m 11 #[.val (.ref a), .val (.int K), .val (.ref q), .unset] [(.ref q)])
  refine Go.alen X1 hx hZ e1 V_q (hb hby d2_11) ?_
  show Go _ _ _ _ _ _ _ T1 (mkF m 12 #[.val (.ref a), .val (.int K), .val (.ref q), .unset] [(.int (1 : Int32))])
  refine Go.step (fun _ k => XS.iloadN X1.here hx rfl (hb hby d2_12) rfl k) ?_
  show Go _ _ _ _ _ _ _ T1 (mkF m 13 #[.val (.ref a), .val (.int K), .val (.ref q), .unset] [(.int K), (.int (1 : Int32))])
  refine Go.step (fun _ k => XS.icmpYes X1.here hx rfl (pc0 := 13) (pc' := 32) rfl (hb hby d2_13) rfl (flt hK).2.2.2 (by decide) (by decide) k) ?_
  show Go _ _ _ _ _ _ _ T1 (mkF m 32 #[.val (.ref a), .val (.int K), .val (.ref q), .unset] [])
  refine Go.step (fun _ k => XS.aloadN X1.here hx rfl (hb hby d2_32) rfl rfl k) ?_
  show Go _ _ _ _ _ _ _ T1 (mkF m 33 #[.val (.ref a), .val (.int K), .val (.ref q), .unset] [(.ref a)])
  refine Go.step (fun _ k => XS.iloadN X1.here hx rfl (hb hby d2_33) rfl k) ?_
  show Go _ _ _ _ _ _ _ T1 (mkF m 34 #[.val (.ref a), .val (.int K), .val (.ref q), .unset] [(.int K), (.ref a)])
  obtain ⟨T2, h2, X2, e2, W2, st2⟩ := putF X1 hx hZ hown (host := "") (Or.inl (hw _ (List.mem_of_getElem? (i := 16) rfl))) Via.refl e1 F_keyGroups_a E_a (Or.inr ⟨(hw _ (List.mem_of_getElem? (i := 17) rfl)), rfl, hnm⟩) (hw _ (List.mem_of_getElem? (i := 8) rfl)) (ty := .int) (by decide) rfl rfl (g := (mkF m 34 #[.val (.ref a), .val (.int K), .val (.ref q), .unset] [(.int K), (.ref a)])) rfl rfl (hb hby d2_34)
  refine Go.step st2 ?_
  have N2 := Fr.snoc X2 N0 ge_a
  have F_keyGroups_a_2 := F_keyGroups_a.same W2
  have E_a_2 := E_a.wr W2
  have F_shares_a_2 := F_shares_a.other W2 (Or.inr (slot_ne (Or.inr (hw _ (List.mem_of_getElem? (i := 28) rfl))) (Or.inr (hw _ (List.mem_of_getElem? (i := 17) rfl))) (by decide) (t := (.array .double)) (t' := .int) (by decide) (by decide)))
  have F_before_a_2 := F_before_a.other W2 (Or.inr (slot_ne (Or.inr (hw _ (List.mem_of_getElem? (i := 30) rfl))) (Or.inr (hw _ (List.mem_of_getElem? (i := 17) rfl))) (by decide) (t := (.array .double)) (t' := .int) (by decide) (by decide)))
  have E_q_2 := E_q.wr W2
  have V_q_2 := V_q.other W2 (Ne.symm ne_a_q)
  have K2 : Keep h0 h2 [a] := (Keep.refl h0 [a]).wr W2 (Or.inl (List.mem_of_getElem? (i := 0) rfl))
  show Go _ _ _ _ _ _ _ T2 (mkF m 37 #[.val (.ref a), .val (.int K), .val (.ref q), .unset] [])
  refine Go.step (fun _ k => XS.aloadN X2.here hx rfl (hb hby d2_37) rfl rfl k) ?_
  show Go _ _ _ _ _ _ _ T2 (mkF m 38 #[.val (.ref a), .val (.int K), .val (.ref q), .unset] [(.ref a)])
  refine Go.step (fun _ k => XS.aloadN X2.here hx rfl (hb hby d2_38) rfl rfl k) ?_
  show Go _ _ _ _ _ _ _ T2 (mkF m 39 #[.val (.ref a), .val (.int K), .val (.ref q), .unset] [(.ref q), (.ref a)])
  refine Go.clone X2 hx hZ (by rw [hml]; rfl) hown (hw _ (List.mem_of_getElem? (i := 18) rfl)) (hw _ (List.mem_of_getElem? (i := 19) rfl)) (hw _ (List.mem_of_getElem? (i := 23) rfl)) (hw _ (List.mem_of_getElem? (i := 21) rfl)) (hw _ (List.mem_of_getElem? (i := 22) rfl)) (hw _ (List.mem_of_getElem? (i := 24) rfl)) e2 V_q_2 E_q_2 (hb hby d2_39) (by decide) (W := 1) (Nat.le_of_eq rfl) (by decide) (cap := 1) (by decide) (by decide) (by decide) ?_
  intro T3 h3 b3 g3 X3 e3 E3 Vc3 Ec3
  have K3 : Keep h0 h3 [a] := K2.ext E3
  have sz_b3 : h0.size ≤ b3 := Nat.le_trans (K2 : Keep h0 h2 [a]).1 (Nat.le_of_eq g3.symm)
  have ge_b3 : n0 ≤ b3 := Nat.le_trans Z0 sz_b3
  have ne_a_b3 : a ≠ b3 := Nat.ne_of_lt (Nat.lt_of_lt_of_le E_a_2.lt (Nat.le_of_eq g3.symm))
  have ne_q_b3 : q ≠ b3 := Nat.ne_of_lt (Nat.lt_of_lt_of_le E_q_2.lt (Nat.le_of_eq g3.symm))
  have E_a_3 := E_a_2.ext E3
  have F_keyGroups_a_3 := F_keyGroups_a_2.ext E3
  have F_shares_a_3 := F_shares_a_2.ext E3
  have F_before_a_3 := F_before_a_2.ext E3
  have E_q_3 := E_q_2.ext E3
  have V_q_3 := V_q_2.ext E3
  show Go _ _ _ _ _ _ _ T3 (mkF m 42 #[.val (.ref a), .val (.int K), .val (.ref q), .unset] [(.ref b3), (.ref a)])
  obtain ⟨T4, X4, e4, st4⟩ := castY X3 hx hZ hown (hw _ (List.mem_of_getElem? (i := 25) rfl)) e3 (Ins.self Ec3) (g := (mkF m 42 #[.val (.ref a), .val (.int K), .val (.ref q), .unset] [(.ref b3), (.ref a)])) rfl rfl (hb hby d2_42)
  refine Go.step st4 ?_
  show Go _ _ _ _ _ _ _ T4 (mkF m 45 #[.val (.ref a), .val (.int K), .val (.ref q), .unset] [(.ref b3), (.ref a)])
  obtain ⟨T5, h5, X5, e5, W5, st5⟩ := putF X4 hx hZ hown (host := "") (Or.inl (hw _ (List.mem_of_getElem? (i := 27) rfl))) Via.refl e4 F_shares_a_3 E_a_3 (Or.inr ⟨(hw _ (List.mem_of_getElem? (i := 28) rfl)), rfl, hnm⟩) (hw _ (List.mem_of_getElem? (i := 8) rfl)) (ty := (.array .double)) (by decide) rfl rfl (g := (mkF m 45 #[.val (.ref a), .val (.int K), .val (.ref q), .unset] [(.ref b3), (.ref a)])) rfl rfl (hb hby d2_45)
  refine Go.step st5 ?_
  have N5 := Fr.snoc X5 N2 ge_a
  have F_shares_a_5 := F_shares_a_3.same W5
  have E_a_5 := E_a_3.wr W5
  have F_keyGroups_a_5 := F_keyGroups_a_3.other W5 (Or.inr (slot_ne (Or.inr (hw _ (List.mem_of_getElem? (i := 17) rfl))) (Or.inr (hw _ (List.mem_of_getElem? (i := 28) rfl))) (by decide) (t := .int) (t' := (.array .double)) (by decide) (by decide)))
  have F_before_a_5 := F_before_a_3.other W5 (Or.inr (slot_ne (Or.inr (hw _ (List.mem_of_getElem? (i := 30) rfl))) (Or.inr (hw _ (List.mem_of_getElem? (i := 28) rfl))) (by decide) (t := (.array .double)) (t' := (.array .double)) (by decide) (by decide)))
  have E_q_5 := E_q_3.wr W5
  have V_q_5 := V_q_3.other W5 (Ne.symm ne_a_q)
  have Vc3_5 := Vc3.other W5 (Ne.symm ne_a_b3)
  have Ec3_5 := Ec3.wr W5
  have K5 : Keep h0 h5 [a] := K3.wr W5 (Or.inl (List.mem_of_getElem? (i := 0) rfl))
  show Go _ _ _ _ _ _ _ T5 (mkF m 48 #[.val (.ref a), .val (.int K), .val (.ref q), .unset] [])
  refine Go.step (fun _ k => XS.aloadN X5.here hx rfl (hb hby d2_48) rfl rfl k) ?_
  show Go _ _ _ _ _ _ _ T5 (mkF m 49 #[.val (.ref a), .val (.int K), .val (.ref q), .unset] [(.ref a)])
  refine Go.step (fun _ k => XS.aloadN X5.here hx rfl (hb hby d2_49) rfl rfl k) ?_
  show Go _ _ _ _ _ _ _ T5 (mkF m 50 #[.val (.ref a), .val (.int K), .val (.ref q), .unset] [(.ref q), (.ref a)])
  refine Go.alen X5 hx hZ e5 V_q_5 (hb hby d2_50) ?_
  show Go _ _ _ _ _ _ _ T5 (mkF m 51 #[.val (.ref a), .val (.int K), .val (.ref q), .unset] [(.int (1 : Int32)), (.ref a)])
  refine Go.step (fun _ k => XS.iconst X5.here hx rfl (hb hby d2_51) k) ?_
  show Go _ _ _ _ _ _ _ T5 (mkF m 52 #[.val (.ref a), .val (.int K), .val (.ref q), .unset] [(.int (1 : Int32)), (.int (1 : Int32)), (.ref a)])
  refine Go.step (fun _ k => XS.iadd X5.here hx rfl (hb hby d2_52) rfl k) ?_
  show Go _ _ _ _ _ _ _ T5 (mkF m 53 #[.val (.ref a), .val (.int K), .val (.ref q), .unset] [(.int (2 : Int32)), (.ref a)])
  obtain ⟨T6, h6, k6, X6, e6, E6, A6, st6⟩ := newP X5 hx hZ (hw _ (List.mem_of_getElem? (i := 2) rfl)) e5 (g := (mkF m 53 #[.val (.ref a), .val (.int K), .val (.ref q), .unset] [(.int (2 : Int32)), (.ref a)])) rfl (hb hby d2_53) rfl (by decide) (cap := 2) (by decide) (by decide) (by decide) (by decide)
  obtain ⟨b6, g6⟩ : ∃ z, z = h5.size := ⟨_, rfl⟩
  rw [← g6] at A6 st6
  refine Go.step st6 ?_
  have K6 : Keep h0 h6 [a] := K5.ext E6
  have sz_b6 : h0.size ≤ b6 := Nat.le_trans (K5 : Keep h0 h5 [a]).1 (Nat.le_of_eq g6.symm)
  have ge_b6 : n0 ≤ b6 := Nat.le_trans Z0 sz_b6
  have ne_a_b6 : a ≠ b6 := Nat.ne_of_lt (Nat.lt_of_lt_of_le E_a_5.lt (Nat.le_of_eq g6.symm))
  have ne_q_b6 : q ≠ b6 := Nat.ne_of_lt (Nat.lt_of_lt_of_le E_q_5.lt (Nat.le_of_eq g6.symm))
  have ne_b3_b6 : b3 ≠ b6 := Nat.ne_of_lt (Nat.lt_of_lt_of_le Vc3_5.lt (Nat.le_of_eq g6.symm))
  have E_a_6 := E_a_5.ext E6
  have F_keyGroups_a_6 := F_keyGroups_a_5.ext E6
  have F_shares_a_6 := F_shares_a_5.ext E6
  have F_before_a_6 := F_before_a_5.ext E6
  have E_q_6 := E_q_5.ext E6
  have V_q_6 := V_q_5.ext E6
  have Vc3_6 := Vc3_5.ext E6
  have Ec3_6 := Ec3_5.ext E6
  have V_b6 : Dv Z h6 b6 (2 : Int32) (fun _ => (0 : UInt64)) := Fv.new A6 (by decide)
  show Go _ _ _ _ _ _ _ T6 (mkF m 55 #[.val (.ref a), .val (.int K), .val (.ref q), .unset] [(.ref b6), (.ref a)])
  obtain ⟨T7, h7, X7, e7, W7, st7⟩ := putF X6 hx hZ hown (host := "") (Or.inl (hw _ (List.mem_of_getElem? (i := 29) rfl))) Via.refl e6 F_before_a_6 E_a_6 (Or.inr ⟨(hw _ (List.mem_of_getElem? (i := 30) rfl)), rfl, hnm⟩) (hw _ (List.mem_of_getElem? (i := 8) rfl)) (ty := (.array .double)) (by decide) rfl rfl (g := (mkF m 55 #[.val (.ref a), .val (.int K), .val (.ref q), .unset] [(.ref b6), (.ref a)])) rfl rfl (hb hby d2_55)
  refine Go.step st7 ?_
  have N7 := Fr.snoc X7 N5 ge_a
  have F_before_a_7 := F_before_a_6.same W7
  have E_a_7 := E_a_6.wr W7
  have F_keyGroups_a_7 := F_keyGroups_a_6.other W7 (Or.inr (slot_ne (Or.inr (hw _ (List.mem_of_getElem? (i := 17) rfl))) (Or.inr (hw _ (List.mem_of_getElem? (i := 30) rfl))) (by decide) (t := .int) (t' := (.array .double)) (by decide) (by decide)))
  have F_shares_a_7 := F_shares_a_6.other W7 (Or.inr (slot_ne (Or.inr (hw _ (List.mem_of_getElem? (i := 28) rfl))) (Or.inr (hw _ (List.mem_of_getElem? (i := 30) rfl))) (by decide) (t := (.array .double)) (t' := (.array .double)) (by decide) (by decide)))
  have E_q_7 := E_q_6.wr W7
  have V_q_7 := V_q_6.other W7 (Ne.symm ne_a_q)
  have Vc3_7 := Vc3_6.other W7 (Ne.symm ne_a_b3)
  have Ec3_7 := Ec3_6.wr W7
  have V_b6_7 := V_b6.other W7 (Ne.symm ne_a_b6)
  have K7 : Keep h0 h7 [a] := K6.wr W7 (Or.inl (List.mem_of_getElem? (i := 0) rfl))
  show Go _ _ _ _ _ _ _ T7 (mkF m 58 #[.val (.ref a), .val (.int K), .val (.ref q), .unset] [])
  refine Go.step (fun _ k => XS.iconst X7.here hx rfl (hb hby d2_58) k) ?_
  show Go _ _ _ _ _ _ _ T7 (mkF m 59 #[.val (.ref a), .val (.int K), .val (.ref q), .unset] [(.int (0 : Int32))])
  refine Go.step (fun _ k => XS.istoreN X7.here hx rfl (hb hby d2_59) rfl (l' := #[.val (.ref a), .val (.int K), .val (.ref q), .val (.int (0 : Int32))]) rfl k) ?_
  show Go _ _ _ _ _ _ _ T7 (mkF m 60 #[.val (.ref a), .val (.int K), .val (.ref q), .val (.int (0 : Int32))] [])
  refine Go.step (fun _ k => XS.iloadN X7.here hx rfl (hb hby d2_60) rfl k) ?_
  show Go _ _ _ _ _ _ _ T7 (mkF m 61 #[.val (.ref a), .val (.int K), .val (.ref q), .val (.int (0 : Int32))] [(.int (0 : Int32))])
  refine Go.step (fun _ k => XS.aloadN X7.here hx rfl (hb hby d2_61) rfl rfl k) ?_
  show Go _ _ _ _ _ _ _ T7 (mkF m 62 #[.val (.ref a), .val (.int K), .val (.ref q), .val (.int (0 : Int32))] [(.ref q), (.int (0 : Int32))])
  refine Go.alen X7 hx hZ e7 V_q_7 (hb hby d2_62) ?_
  show Go _ _ _ _ _ _ _ T7 (mkF m 63 #[.val (.ref a), .val (.int K), .val (.ref q), .val (.int (0 : Int32))] [(.int (1 : Int32)), (.int (0 : Int32))])
  refine Go.step (fun _ k => XS.icmpNo X7.here hx rfl (hb hby d2_63) rfl (tlt (by decide : (0 : Int32) < (1 : Int32))).2.1 k) ?_
  show Go _ _ _ _ _ _ _ T7 (mkF m 66 #[.val (.ref a), .val (.int K), .val (.ref q), .val (.int (0 : Int32))] [])
  refine Go.step (fun _ k => XS.aloadN X7.here hx rfl (hb hby d2_66) rfl rfl k) ?_
  show Go _ _ _ _ _ _ _ T7 (mkF m 67 #[.val (.ref a), .val (.int K), .val (.ref q), .val (.int (0 : Int32))] [(.ref q)])
  refine Go.step (fun _ k => XS.iloadN X7.here hx rfl (hb hby d2_67) rfl k) ?_
  show Go _ _ _ _ _ _ _ T7 (mkF m 68 #[.val (.ref a), .val (.int K), .val (.ref q), .val (.int (0 : Int32))] [(.int (0 : Int32)), (.ref q)])
  refine Go.daload X7 hx hZ e7 V_q_7 (j := (0 : Int32)) (v := (g 0)) (by decide) rfl (hb hby d2_68) ?_
  show Go _ _ _ _ _ _ _ T7 (mkF m 69 #[.val (.ref a), .val (.int K), .val (.ref q), .val (.int (0 : Int32))] [(.double (g 0))])
  refine Go.callS X7 hx hZ (by rw [hml]; rfl) (y := (⟨"java/lang/Double", "isFinite", "(D)Z"⟩ : MethodName)) (argsL := [(.double (g 0))]) (rest := []) hown (hw _ (List.mem_of_getElem? (i := 31) rfl)) (hw _ (List.mem_of_getElem? (i := 32) rfl)) (hw _ (List.mem_of_getElem? (i := 33) rfl)) (hw _ (List.mem_of_getElem? (i := 34) rfl)) (by decide) (rm4 l Z a0 hw (g 0) h7 n0 (Nat.le_trans Z0 (K7 : Keep h0 h7 [a]).1) (hf 0 (by decide))) e7 (hb hby d2_69) (lenOf pd_1 rfl) rfl rfl (W := 0) (Nat.le_of_eq rfl) (by decide) (by decide) (by decide) (by decide) ?_
  intro v8 T8 L8 X8 Q8
  obtain ⟨rfl, N8q, hh8⟩ := Q8
  have N8 := Fr.app N7 N8q
  show Go _ _ _ _ _ _ _ T8 (mkF m 72 #[.val (.ref a), .val (.int K), .val (.ref q), .val (.int (0 : Int32))] [(.int (1 : Int32))])
  refine Go.step (fun _ k => XS.ifNo X8.here hx rfl (hb hby d2_72) rfl ((if0 _ _).trans (feq (by decide : ¬ ((1 : Int32) = (0 : Int32)))).1) k) ?_
  show Go _ _ _ _ _ _ _ T8 (mkF m 75 #[.val (.ref a), .val (.int K), .val (.ref q), .val (.int (0 : Int32))] [])
  refine Go.step (fun _ k => XS.aloadN X8.here hx rfl (hb hby d2_75) rfl rfl k) ?_
  show Go _ _ _ _ _ _ _ T8 (mkF m 76 #[.val (.ref a), .val (.int K), .val (.ref q), .val (.int (0 : Int32))] [(.ref q)])
  refine Go.step (fun _ k => XS.iloadN X8.here hx rfl (hb hby d2_76) rfl k) ?_
  show Go _ _ _ _ _ _ _ T8 (mkF m 77 #[.val (.ref a), .val (.int K), .val (.ref q), .val (.int (0 : Int32))] [(.int (0 : Int32)), (.ref q)])
  refine Go.daload X8 hx hZ hh8 V_q_7 (j := (0 : Int32)) (v := (g 0)) (by decide) rfl (hb hby d2_77) ?_
  show Go _ _ _ _ _ _ _ T8 (mkF m 78 #[.val (.ref a), .val (.int K), .val (.ref q), .val (.int (0 : Int32))] [(.double (g 0))])
  refine Go.step (fun _ k => XS.dconst0 X8.here hx rfl (hb hby d2_78) rfl k) ?_
  show Go _ _ _ _ _ _ _ T8 (mkF m 79 #[.val (.ref a), .val (.int K), .val (.ref q), .val (.int (0 : Int32))] [(.double (0 : UInt64)), (.double (g 0))])
  refine Go.step (fun _ k => XS.dcmpS X8.here hx rfl (hb hby d2_79) rfl rfl k) ?_
  show Go _ _ _ _ _ _ _ T8 (mkF m 80 #[.val (.ref a), .val (.int K), .val (.ref q), .val (.int (0 : Int32))] [(.int (cmpValue (FP.dcmp (g 0) (0 : UInt64)) .g))])
  refine Go.step (fun _ k => XS.ifYes X8.here hx rfl (pc0 := 80) (pc' := 99) rfl (hb hby d2_80) rfl (lt_n (hp 0 (by decide))) (by decide) (by decide) k) ?_
  show Go _ _ _ _ _ _ _ T8 (mkF m 99 #[.val (.ref a), .val (.int K), .val (.ref q), .val (.int (0 : Int32))] [])
  refine Go.step (fun _ k => XS.aloadN X8.here hx rfl (hb hby d2_99) rfl rfl k) ?_
  show Go _ _ _ _ _ _ _ T8 (mkF m 100 #[.val (.ref a), .val (.int K), .val (.ref q), .val (.int (0 : Int32))] [(.ref a)])
  obtain ⟨T9, X9, e9, st9⟩ := getF X8 hx hZ hown (host := "") (Or.inl (hw _ (List.mem_of_getElem? (i := 29) rfl))) Via.refl hh8 F_before_a_7 (g := (mkF m 100 #[.val (.ref a), .val (.int K), .val (.ref q), .val (.int (0 : Int32))] [(.ref a)])) rfl rfl (hb hby d2_100)
  refine Go.step st9 ?_
  show Go _ _ _ _ _ _ _ T9 (mkF m 103 #[.val (.ref a), .val (.int K), .val (.ref q), .val (.int (0 : Int32))] [(.ref b6)])
  refine Go.step (fun _ k => XS.iloadN X9.here hx rfl (hb hby d2_103) rfl k) ?_
  show Go _ _ _ _ _ _ _ T9 (mkF m 104 #[.val (.ref a), .val (.int K), .val (.ref q), .val (.int (0 : Int32))] [(.int (0 : Int32)), (.ref b6)])
  refine Go.step (fun _ k => XS.iconst X9.here hx rfl (hb hby d2_104) k) ?_
  show Go _ _ _ _ _ _ _ T9 (mkF m 105 #[.val (.ref a), .val (.int K), .val (.ref q), .val (.int (0 : Int32))] [(.int (1 : Int32)), (.int (0 : Int32)), (.ref b6)])
  refine Go.step (fun _ k => XS.iadd X9.here hx rfl (hb hby d2_105) rfl k) ?_
  show Go _ _ _ _ _ _ _ T9 (mkF m 106 #[.val (.ref a), .val (.int K), .val (.ref q), .val (.int (0 : Int32))] [(.int (1 : Int32)), (.ref b6)])
  refine Go.step (fun _ k => XS.aloadN X9.here hx rfl (hb hby d2_106) rfl rfl k) ?_
  show Go _ _ _ _ _ _ _ T9 (mkF m 107 #[.val (.ref a), .val (.int K), .val (.ref q), .val (.int (0 : Int32))] [(.ref a), (.int (1 : Int32)), (.ref b6)])
  obtain ⟨T10, X10, e10, st10⟩ := getF X9 hx hZ hown (host := "") (Or.inl (hw _ (List.mem_of_getElem? (i := 29) rfl))) Via.refl e9 F_before_a_7 (g := (mkF m 107 #[.val (.ref a), .val (.int K), .val (.ref q), .val (.int (0 : Int32))] [(.ref a), (.int (1 : Int32)), (.ref b6)])) rfl rfl (hb hby d2_107)
  refine Go.step st10 ?_
  show Go _ _ _ _ _ _ _ T10 (mkF m 110 #[.val (.ref a), .val (.int K), .val (.ref q), .val (.int (0 : Int32))] [(.ref b6), (.int (1 : Int32)), (.ref b6)])
  refine Go.step (fun _ k => XS.iloadN X10.here hx rfl (hb hby d2_110) rfl k) ?_
  show Go _ _ _ _ _ _ _ T10 (mkF m 111 #[.val (.ref a), .val (.int K), .val (.ref q), .val (.int (0 : Int32))] [(.int (0 : Int32)), (.ref b6), (.int (1 : Int32)), (.ref b6)])
  refine Go.daload X10 hx hZ e10 V_b6_7 (j := (0 : Int32)) (v := (0 : UInt64)) (by decide) rfl (hb hby d2_111) ?_
  show Go _ _ _ _ _ _ _ T10 (mkF m 112 #[.val (.ref a), .val (.int K), .val (.ref q), .val (.int (0 : Int32))] [(.double (0 : UInt64)), (.int (1 : Int32)), (.ref b6)])
  refine Go.step (fun _ k => XS.aloadN X10.here hx rfl (hb hby d2_112) rfl rfl k) ?_
  show Go _ _ _ _ _ _ _ T10 (mkF m 113 #[.val (.ref a), .val (.int K), .val (.ref q), .val (.int (0 : Int32))] [(.ref q), (.double (0 : UInt64)), (.int (1 : Int32)), (.ref b6)])
  refine Go.step (fun _ k => XS.iloadN X10.here hx rfl (hb hby d2_113) rfl k) ?_
  show Go _ _ _ _ _ _ _ T10 (mkF m 114 #[.val (.ref a), .val (.int K), .val (.ref q), .val (.int (0 : Int32))] [(.int (0 : Int32)), (.ref q), (.double (0 : UInt64)), (.int (1 : Int32)), (.ref b6)])
  refine Go.daload X10 hx hZ e10 V_q_7 (j := (0 : Int32)) (v := (g 0)) (by decide) rfl (hb hby d2_114) ?_
  show Go _ _ _ _ _ _ _ T10 (mkF m 115 #[.val (.ref a), .val (.int K), .val (.ref q), .val (.int (0 : Int32))] [(.double (g 0)), (.double (0 : UInt64)), (.int (1 : Int32)), (.ref b6)])
  refine Go.step (fun _ k => XS.daddS X10.here hx rfl (hb hby d2_115) rfl (Jvm.Free.Fl.dadd_out (by first | decide +kernel | (unfold Jvm.Free.Fl.Fin64; decide +kernel) | (unfold Jvm.Free.Fl.Nz64; decide +kernel) | (unfold Jvm.Free.Fl.NoNaN64; decide +kernel) : Jvm.Free.Fl.NoNaN64 0) (hf 0 (by decide))) rfl k) ?_
  show Go _ _ _ _ _ _ _ T10 (mkF m 116 #[.val (.ref a), .val (.int K), .val (.ref q), .val (.int (0 : Int32))] [(.double (FP.dadd (0 : UInt64) (g 0))), (.int (1 : Int32)), (.ref b6)])
  refine Go.dastore X10 hx hZ e10 V_b6_7 (j := (1 : Int32)) (x := (FP.dadd (0 : UInt64) (g 0))) (by decide) (hb hby d2_116) ?_
  intro T11 h11 X11 e11 W11 Vn11
  have V_b6_11 : Dv Z h11 b6 (2 : Int32) (updN (fun _ => (0 : UInt64)) 1 (FP.dadd (0 : UInt64) (g 0))) := Vn11
  have N11 := Fr.snoc X11 N8 ge_b6
  have E_a_11 := E_a_7.wr W11
  have F_keyGroups_a_11 := F_keyGroups_a_7.other W11 (Or.inl ne_a_b6)
  have F_shares_a_11 := F_shares_a_7.other W11 (Or.inl ne_a_b6)
  have F_before_a_11 := F_before_a_7.other W11 (Or.inl ne_a_b6)
  have E_q_11 := E_q_7.wr W11
  have V_q_11 := V_q_7.other W11 ne_q_b6
  have Vc3_11 := Vc3_7.other W11 ne_b3_b6
  have Ec3_11 := Ec3_7.wr W11
  have K11 : Keep h0 h11 [a] := K7.wr W11 (Or.inr sz_b6)
  show Go _ _ _ _ _ _ _ T11 (mkF m 117 #[.val (.ref a), .val (.int K), .val (.ref q), .val (.int (0 : Int32))] [])
  refine Go.step (fun _ k => XS.iinc X11.here hx rfl (hb hby d2_117) rfl (l' := #[.val (.ref a), .val (.int K), .val (.ref q), .val (.int (1 : Int32))]) rfl k) ?_
  show Go _ _ _ _ _ _ _ T11 (mkF m 120 #[.val (.ref a), .val (.int K), .val (.ref q), .val (.int (1 : Int32))] [])
  refine Go.step (fun _ k => XS.goto X11.here hx rfl (pc0 := 120) (pc' := 60) rfl (hb hby d2_120) (by decide) (by decide) k) ?_
  show Go _ _ _ _ _ _ _ T11 (mkF m 60 #[.val (.ref a), .val (.int K), .val (.ref q), .val (.int (1 : Int32))] [])
  refine Go.step (fun _ k => XS.iloadN X11.here hx rfl (hb hby d2_60) rfl k) ?_
  show Go _ _ _ _ _ _ _ T11 (mkF m 61 #[.val (.ref a), .val (.int K), .val (.ref q), .val (.int (1 : Int32))] [(.int (1 : Int32))])
  refine Go.step (fun _ k => XS.aloadN X11.here hx rfl (hb hby d2_61) rfl rfl k) ?_
  show Go _ _ _ _ _ _ _ T11 (mkF m 62 #[.val (.ref a), .val (.int K), .val (.ref q), .val (.int (1 : Int32))] [(.ref q), (.int (1 : Int32))])
  refine Go.alen X11 hx hZ e11 V_q_11 (hb hby d2_62) ?_
  show Go _ _ _ _ _ _ _ T11 (mkF m 63 #[.val (.ref a), .val (.int K), .val (.ref q), .val (.int (1 : Int32))] [(.int (1 : Int32)), (.int (1 : Int32))])
  refine Go.step (fun _ k => XS.icmpYes X11.here hx rfl (pc0 := 63) (pc' := 123) rfl (hb hby d2_63) rfl (flt (by decide : ¬ ((1 : Int32) < (1 : Int32)))).2.1 (by decide) (by decide) k) ?_
  show Go _ _ _ _ _ _ _ T11 (mkF m 123 #[.val (.ref a), .val (.int K), .val (.ref q), .val (.int (1 : Int32))] [])
  refine Go.retV X11 hx hlk hret (hb hby d2_123) (by decide) (by decide) ?_
  try rw [e11]
  exact ⟨rfl, N11, K11, E_a_11, F_keyGroups_a_11, b3, b6, F_shares_a_11, F_before_a_11, Vc3_11, V_b6_11, sz_b3, sz_b6, ne_b3_b6⟩
theorem pn_2 : plainName "tidewatch/decision/KeyGroupCeiling" = true := by first | (simp [plainName, overriddenIn]; done) | decide +kernel
theorem ef_rm2_1 (m : MethodId) (a : Addr) (K : Int32) (q : Addr) : entryFrame m #[(.ref a), (.int K), (.ref q)] 4 = mkF m 0 #[.val (.ref a), .val (.int K), .val (.ref q), .unset] [] := by first | (simp [entryFrame, mkF, argsToLocals, Value.category]; done) | rfl
theorem rm2_1 (l : Launch) (Z : State) (a0 : Array Value) (hw : ∀ d ∈ tables_1, d.before a0 Z = true) (a q : Addr) (K : Int32) (g : Nat → UInt64) (h0 : Heap) (n0 : Nat) (Z0 : n0 ≤ h0.size) (E_a : Exa Z h0 a "tidewatch/decision/KeyGroupCeiling") (F_keyGroups_a : Fld Z h0 a "tidewatch/decision/KeyGroupCeiling" "keyGroups" "I" (.int (0 : Int32))) (F_shares_a : Fld Z h0 a "tidewatch/decision/KeyGroupCeiling" "shares" "[D" .null) (F_before_a : Fld Z h0 a "tidewatch/decision/KeyGroupCeiling" "before" "[D" .null) (E_q : Exa Z h0 q "[D") (V_q : Dv Z h0 q (1 : Int32) g) (ge_a : n0 ≤ a) (ne_a_q : a ≠ q) (hK : ¬ K < (1 : Int32)) (hf : ∀ i, i < 1 → Jvm.Free.Fl.Fin64 (g i)) (hp : ∀ i, i < 1 → ¬ FP.dcmp (g i) (0 : UInt64) = some .lt) :
    Con l Z (⟨"tidewatch/decision/KeyGroupCeiling", "<init>", "(I[D)V"⟩ : MethodName) prog_33_method_1_code 4 none ({ frames := 2, cells := 2, slots := 3, locals := 40 } : Room) #[(.ref a), (.int K), (.ref q)] h0 (fun r h L => r = none ∧ Fr n0 L ∧ Keep h0 h [a] ∧ Exa Z h a "tidewatch/decision/KeyGroupCeiling" ∧ Fld Z h a "tidewatch/decision/KeyGroupCeiling" "keyGroups" "I" (.int K) ∧ ∃ c d : Addr, Fld Z h a "tidewatch/decision/KeyGroupCeiling" "shares" "[D" (.ref c) ∧ Fld Z h a "tidewatch/decision/KeyGroupCeiling" "before" "[D" (.ref d) ∧ Dv Z h c (1 : Int32) g ∧ Dv Z h d (2 : Int32) (updN (fun _ => (0 : UInt64)) 1 (FP.dadd (0 : UInt64) (g 0))) ∧ h0.size ≤ c ∧ h0.size ≤ d ∧ c ≠ d) :=
  con_of (plainFor_of_name pn_2) (fun p_ e_ s_ m_ b_ meth_ c_ T_ X_ hx hZ hby hml hown hnm hret hlk e0 => Go.cast (ef_rm2_1 m_ a K q) (w2_1 a q K g X_ hx hZ hw hby hml hown hnm hret hlk e0 Z0 (Fr.nil n0) E_a F_keyGroups_a F_shares_a F_before_a E_q V_q ge_a ne_a_q hK hf hp))
set_option maxRecDepth 65536 in
set_option maxHeartbeats 40000000 in
theorem w2_2 {p : Program} {l : Launch} {e : Env} {s : State} {m : MethodId} {args : Array Value} {below : List Frame} {meth : Method} {c_ : Code} {T0 : State} {locs : List Loc} {Z : State} {a0 : Array Value} {h0 : Heap} {n0 : Nat} (a q : Addr) (K : Int32) (g : Nat → UInt64)
    (X0 : Stand p l e ({ frames := 2, cells := 2, slots := 5, locals := 40 } : Room) s m args below meth c_ T0 locs 0 0) (hx : p.tables.exec = Jvm.exec) (hZ : Z.Warmed39 s.vm) (hw : ∀ d ∈ tables_1, d.before a0 Z = true) (hby : c_.code = prog_33_method_1_code) (hml : c_.maxLocals = 4) (hown : s.vm.findClass "tidewatch/decision/KeyGroupCeiling" = some m.cls) (hnm : meth.name = "<init>") (hret : meth.sig.returnType = none) (hlk : meth.locks = false) (e0 : T0.heap = h0) (Z0 : n0 ≤ h0.size) (N0 : Fr n0 locs) (E_a : Exa Z h0 a "tidewatch/decision/KeyGroupCeiling") (F_keyGroups_a : Fld Z h0 a "tidewatch/decision/KeyGroupCeiling" "keyGroups" "I" (.int (0 : Int32))) (F_shares_a : Fld Z h0 a "tidewatch/decision/KeyGroupCeiling" "shares" "[D" .null) (F_before_a : Fld Z h0 a "tidewatch/decision/KeyGroupCeiling" "before" "[D" .null) (E_q : Exa Z h0 q "[D") (V_q : Dv Z h0 q (2 : Int32) g) (ge_a : n0 ≤ a) (ne_a_q : a ≠ q) (hK : ¬ K < (2 : Int32)) (hf : ∀ i, i < 2 → Jvm.Free.Fl.Fin64 (g i)) (hp : ∀ i, i < 2 → ¬ FP.dcmp (g i) (0 : UInt64) = some .lt) :
    Go p e below s ({ frames := 2, cells := 2, slots := 5, locals := 40 } : Room).cells ({ frames := 2, cells := 2, slots := 5, locals := 40 } : Room).slots (fun r h L => r = none ∧ Fr n0 L ∧ Keep h0 h [a] ∧ Exa Z h a "tidewatch/decision/KeyGroupCeiling" ∧ Fld Z h a "tidewatch/decision/KeyGroupCeiling" "keyGroups" "I" (.int K) ∧ ∃ c d : Addr, Fld Z h a "tidewatch/decision/KeyGroupCeiling" "shares" "[D" (.ref c) ∧ Fld Z h a "tidewatch/decision/KeyGroupCeiling" "before" "[D" (.ref d) ∧ Dv Z h c (2 : Int32) g ∧ Dv Z h d (3 : Int32) (updN (updN (fun _ => (0 : UInt64)) 1 (FP.dadd (0 : UInt64) (g 0))) 2 (FP.dadd (FP.dadd (0 : UInt64) (g 0)) (g 1))) ∧ h0.size ≤ c ∧ h0.size ≤ d ∧ c ≠ d) T0 (mkF m 0 #[.val (.ref a), .val (.int K), .val (.ref q), .unset] []) := by
  show Go _ _ _ _ _ _ _ T0 (mkF m 0 #[.val (.ref a), .val (.int K), .val (.ref q), .unset] [])
  refine Go.step (fun _ k => XS.aloadN X0.here hx rfl (hb hby d2_0) rfl rfl k) ?_
  show Go _ _ _ _ _ _ _ T0 (mkF m 1 #[.val (.ref a), .val (.int K), .val (.ref q), .unset] [(.ref a)])
  obtain ⟨T1, X1, e1, st1⟩ := initO X0 hx hZ hown (hw _ (List.mem_of_getElem? (i := 13) rfl)) (hw _ (List.mem_of_getElem? (i := 14) rfl)) (hw _ (List.mem_of_getElem? (i := 15) rfl)) e0 (g := (mkF m 1 #[.val (.ref a), .val (.int K), .val (.ref q), .unset] [(.ref a)])) rfl (by rw [hml]; rfl) rfl (hb hby d2_1) (by decide) (W := 0) (by show 2 * 0 + _ ≤ _; exact Nat.le_of_eq rfl) (by decide)
  refine Go.step st1 ?_
  show Go _ _ _ _ _ _ _ T1 (mkF m 4 #[.val (.ref a), .val (.int K), .val (.ref q), .unset] [])
  refine Go.step (fun _ k => XS.aloadN X1.here hx rfl (hb hby d2_4) rfl rfl k) ?_
  show Go _ _ _ _ _ _ _ T1 (mkF m 5 #[.val (.ref a), .val (.int K), .val (.ref q), .unset] [(.ref q)])
  refine Go.alen X1 hx hZ e1 V_q (hb hby d2_5) ?_
  show Go _ _ _ _ _ _ _ T1 (mkF m 6 #[.val (.ref a), .val (.int K), .val (.ref q), .unset] [(.int (2 : Int32))])
  refine Go.step (fun _ k => XS.iconst X1.here hx rfl (hb hby d2_6) k) ?_
  show Go _ _ _ _ _ _ _ T1 (mkF m 7 #[.val (.ref a), .val (.int K), .val (.ref q), .unset] [(.int (1 : Int32)), (.int (2 : Int32))])
  refine Go.step (fun _ k => XS.icmpNo X1.here hx rfl (hb hby d2_7) rfl (flt (by decide : ¬ ((2 : Int32) < (1 : Int32)))).1 k) ?_
  show Go _ _ _ _ _ _ _ T1 (mkF m 10 #[.val (.ref a), .val (.int K), .val (.ref q), .unset] [])
  refine Go.step (fun _ k => XS.aloadN X1.here hx rfl (hb hby d2_10) rfl rfl k) ?_
  show Go _ _ _ _ _ _ _ T1 (mkF m 11 #[.val (.ref a), .val (.int K), .val (.ref q), .unset] [(.ref q)])
  refine Go.alen X1 hx hZ e1 V_q (hb hby d2_11) ?_
  show Go _ _ _ _ _ _ _ T1 (mkF m 12 #[.val (.ref a), .val (.int K), .val (.ref q), .unset] [(.int (2 : Int32))])
  refine Go.step (fun _ k => XS.iloadN X1.here hx rfl (hb hby d2_12) rfl k) ?_
  show Go _ _ _ _ _ _ _ T1 (mkF m 13 #[.val (.ref a), .val (.int K), .val (.ref q), .unset] [(.int K), (.int (2 : Int32))])
  refine Go.step (fun _ k => XS.icmpYes X1.here hx rfl (pc0 := 13) (pc' := 32) rfl (hb hby d2_13) rfl (flt hK).2.2.2 (by decide) (by decide) k) ?_
  show Go _ _ _ _ _ _ _ T1 (mkF m 32 #[.val (.ref a), .val (.int K), .val (.ref q), .unset] [])
  refine Go.step (fun _ k => XS.aloadN X1.here hx rfl (hb hby d2_32) rfl rfl k) ?_
  show Go _ _ _ _ _ _ _ T1 (mkF m 33 #[.val (.ref a), .val (.int K), .val (.ref q), .unset] [(.ref a)])
  refine Go.step (fun _ k => XS.iloadN X1.here hx rfl (hb hby d2_33) rfl k) ?_
  show Go _ _ _ _ _ _ _ T1 (mkF m 34 #[.val (.ref a), .val (.int K), .val (.ref q), .unset] [(.int K), (.ref a)])
  obtain ⟨T2, h2, X2, e2, W2, st2⟩ := putF X1 hx hZ hown (host := "") (Or.inl (hw _ (List.mem_of_getElem? (i := 16) rfl))) Via.refl e1 F_keyGroups_a E_a (Or.inr ⟨(hw _ (List.mem_of_getElem? (i := 17) rfl)), rfl, hnm⟩) (hw _ (List.mem_of_getElem? (i := 8) rfl)) (ty := .int) (by decide) rfl rfl (g := (mkF m 34 #[.val (.ref a), .val (.int K), .val (.ref q), .unset] [(.int K), (.ref a)])) rfl rfl (hb hby d2_34)
  refine Go.step st2 ?_
  have N2 := Fr.snoc X2 N0 ge_a
  have F_keyGroups_a_2 := F_keyGroups_a.same W2
  have E_a_2 := E_a.wr W2
  have F_shares_a_2 := F_shares_a.other W2 (Or.inr (slot_ne (Or.inr (hw _ (List.mem_of_getElem? (i := 28) rfl))) (Or.inr (hw _ (List.mem_of_getElem? (i := 17) rfl))) (by decide) (t := (.array .double)) (t' := .int) (by decide) (by decide)))
  have F_before_a_2 := F_before_a.other W2 (Or.inr (slot_ne (Or.inr (hw _ (List.mem_of_getElem? (i := 30) rfl))) (Or.inr (hw _ (List.mem_of_getElem? (i := 17) rfl))) (by decide) (t := (.array .double)) (t' := .int) (by decide) (by decide)))
  have E_q_2 := E_q.wr W2
  have V_q_2 := V_q.other W2 (Ne.symm ne_a_q)
  have K2 : Keep h0 h2 [a] := (Keep.refl h0 [a]).wr W2 (Or.inl (List.mem_of_getElem? (i := 0) rfl))
  show Go _ _ _ _ _ _ _ T2 (mkF m 37 #[.val (.ref a), .val (.int K), .val (.ref q), .unset] [])
  refine Go.step (fun _ k => XS.aloadN X2.here hx rfl (hb hby d2_37) rfl rfl k) ?_
  show Go _ _ _ _ _ _ _ T2 (mkF m 38 #[.val (.ref a), .val (.int K), .val (.ref q), .unset] [(.ref a)])
  refine Go.step (fun _ k => XS.aloadN X2.here hx rfl (hb hby d2_38) rfl rfl k) ?_
  show Go _ _ _ _ _ _ _ T2 (mkF m 39 #[.val (.ref a), .val (.int K), .val (.ref q), .unset] [(.ref q), (.ref a)])
  refine Go.clone X2 hx hZ (by rw [hml]; rfl) hown (hw _ (List.mem_of_getElem? (i := 18) rfl)) (hw _ (List.mem_of_getElem? (i := 19) rfl)) (hw _ (List.mem_of_getElem? (i := 23) rfl)) (hw _ (List.mem_of_getElem? (i := 21) rfl)) (hw _ (List.mem_of_getElem? (i := 22) rfl)) (hw _ (List.mem_of_getElem? (i := 24) rfl)) e2 V_q_2 E_q_2 (hb hby d2_39) (by decide) (W := 1) (Nat.le_of_eq rfl) (by decide) (cap := 2) (by decide) (by decide) (by decide) ?_
  intro T3 h3 b3 g3 X3 e3 E3 Vc3 Ec3
  have K3 : Keep h0 h3 [a] := K2.ext E3
  have sz_b3 : h0.size ≤ b3 := Nat.le_trans (K2 : Keep h0 h2 [a]).1 (Nat.le_of_eq g3.symm)
  have ge_b3 : n0 ≤ b3 := Nat.le_trans Z0 sz_b3
  have ne_a_b3 : a ≠ b3 := Nat.ne_of_lt (Nat.lt_of_lt_of_le E_a_2.lt (Nat.le_of_eq g3.symm))
  have ne_q_b3 : q ≠ b3 := Nat.ne_of_lt (Nat.lt_of_lt_of_le E_q_2.lt (Nat.le_of_eq g3.symm))
  have E_a_3 := E_a_2.ext E3
  have F_keyGroups_a_3 := F_keyGroups_a_2.ext E3
  have F_shares_a_3 := F_shares_a_2.ext E3
  have F_before_a_3 := F_before_a_2.ext E3
  have E_q_3 := E_q_2.ext E3
  have V_q_3 := V_q_2.ext E3
  show Go _ _ _ _ _ _ _ T3 (mkF m 42 #[.val (.ref a), .val (.int K), .val (.ref q), .unset] [(.ref b3), (.ref a)])
  obtain ⟨T4, X4, e4, st4⟩ := castY X3 hx hZ hown (hw _ (List.mem_of_getElem? (i := 25) rfl)) e3 (Ins.self Ec3) (g := (mkF m 42 #[.val (.ref a), .val (.int K), .val (.ref q), .unset] [(.ref b3), (.ref a)])) rfl rfl (hb hby d2_42)
  refine Go.step st4 ?_
  show Go _ _ _ _ _ _ _ T4 (mkF m 45 #[.val (.ref a), .val (.int K), .val (.ref q), .unset] [(.ref b3), (.ref a)])
  obtain ⟨T5, h5, X5, e5, W5, st5⟩ := putF X4 hx hZ hown (host := "") (Or.inl (hw _ (List.mem_of_getElem? (i := 27) rfl))) Via.refl e4 F_shares_a_3 E_a_3 (Or.inr ⟨(hw _ (List.mem_of_getElem? (i := 28) rfl)), rfl, hnm⟩) (hw _ (List.mem_of_getElem? (i := 8) rfl)) (ty := (.array .double)) (by decide) rfl rfl (g := (mkF m 45 #[.val (.ref a), .val (.int K), .val (.ref q), .unset] [(.ref b3), (.ref a)])) rfl rfl (hb hby d2_45)
  refine Go.step st5 ?_
  have N5 := Fr.snoc X5 N2 ge_a
  have F_shares_a_5 := F_shares_a_3.same W5
  have E_a_5 := E_a_3.wr W5
  have F_keyGroups_a_5 := F_keyGroups_a_3.other W5 (Or.inr (slot_ne (Or.inr (hw _ (List.mem_of_getElem? (i := 17) rfl))) (Or.inr (hw _ (List.mem_of_getElem? (i := 28) rfl))) (by decide) (t := .int) (t' := (.array .double)) (by decide) (by decide)))
  have F_before_a_5 := F_before_a_3.other W5 (Or.inr (slot_ne (Or.inr (hw _ (List.mem_of_getElem? (i := 30) rfl))) (Or.inr (hw _ (List.mem_of_getElem? (i := 28) rfl))) (by decide) (t := (.array .double)) (t' := (.array .double)) (by decide) (by decide)))
  have E_q_5 := E_q_3.wr W5
  have V_q_5 := V_q_3.other W5 (Ne.symm ne_a_q)
  have Vc3_5 := Vc3.other W5 (Ne.symm ne_a_b3)
  have Ec3_5 := Ec3.wr W5
  have K5 : Keep h0 h5 [a] := K3.wr W5 (Or.inl (List.mem_of_getElem? (i := 0) rfl))
  show Go _ _ _ _ _ _ _ T5 (mkF m 48 #[.val (.ref a), .val (.int K), .val (.ref q), .unset] [])
  refine Go.step (fun _ k => XS.aloadN X5.here hx rfl (hb hby d2_48) rfl rfl k) ?_
  show Go _ _ _ _ _ _ _ T5 (mkF m 49 #[.val (.ref a), .val (.int K), .val (.ref q), .unset] [(.ref a)])
  refine Go.step (fun _ k => XS.aloadN X5.here hx rfl (hb hby d2_49) rfl rfl k) ?_
  show Go _ _ _ _ _ _ _ T5 (mkF m 50 #[.val (.ref a), .val (.int K), .val (.ref q), .unset] [(.ref q), (.ref a)])
  refine Go.alen X5 hx hZ e5 V_q_5 (hb hby d2_50) ?_
  show Go _ _ _ _ _ _ _ T5 (mkF m 51 #[.val (.ref a), .val (.int K), .val (.ref q), .unset] [(.int (2 : Int32)), (.ref a)])
  refine Go.step (fun _ k => XS.iconst X5.here hx rfl (hb hby d2_51) k) ?_
  show Go _ _ _ _ _ _ _ T5 (mkF m 52 #[.val (.ref a), .val (.int K), .val (.ref q), .unset] [(.int (1 : Int32)), (.int (2 : Int32)), (.ref a)])
  refine Go.step (fun _ k => XS.iadd X5.here hx rfl (hb hby d2_52) rfl k) ?_
  show Go _ _ _ _ _ _ _ T5 (mkF m 53 #[.val (.ref a), .val (.int K), .val (.ref q), .unset] [(.int (3 : Int32)), (.ref a)])
  obtain ⟨T6, h6, k6, X6, e6, E6, A6, st6⟩ := newP X5 hx hZ (hw _ (List.mem_of_getElem? (i := 2) rfl)) e5 (g := (mkF m 53 #[.val (.ref a), .val (.int K), .val (.ref q), .unset] [(.int (3 : Int32)), (.ref a)])) rfl (hb hby d2_53) rfl (by decide) (cap := 3) (by decide) (by decide) (by decide) (by decide)
  obtain ⟨b6, g6⟩ : ∃ z, z = h5.size := ⟨_, rfl⟩
  rw [← g6] at A6 st6
  refine Go.step st6 ?_
  have K6 : Keep h0 h6 [a] := K5.ext E6
  have sz_b6 : h0.size ≤ b6 := Nat.le_trans (K5 : Keep h0 h5 [a]).1 (Nat.le_of_eq g6.symm)
  have ge_b6 : n0 ≤ b6 := Nat.le_trans Z0 sz_b6
  have ne_a_b6 : a ≠ b6 := Nat.ne_of_lt (Nat.lt_of_lt_of_le E_a_5.lt (Nat.le_of_eq g6.symm))
  have ne_q_b6 : q ≠ b6 := Nat.ne_of_lt (Nat.lt_of_lt_of_le E_q_5.lt (Nat.le_of_eq g6.symm))
  have ne_b3_b6 : b3 ≠ b6 := Nat.ne_of_lt (Nat.lt_of_lt_of_le Vc3_5.lt (Nat.le_of_eq g6.symm))
  have E_a_6 := E_a_5.ext E6
  have F_keyGroups_a_6 := F_keyGroups_a_5.ext E6
  have F_shares_a_6 := F_shares_a_5.ext E6
  have F_before_a_6 := F_before_a_5.ext E6
  have E_q_6 := E_q_5.ext E6
  have V_q_6 := V_q_5.ext E6
  have Vc3_6 := Vc3_5.ext E6
  have Ec3_6 := Ec3_5.ext E6
  have V_b6 : Dv Z h6 b6 (3 : Int32) (fun _ => (0 : UInt64)) := Fv.new A6 (by decide)
  show Go _ _ _ _ _ _ _ T6 (mkF m 55 #[.val (.ref a), .val (.int K), .val (.ref q), .unset] [(.ref b6), (.ref a)])
  obtain ⟨T7, h7, X7, e7, W7, st7⟩ := putF X6 hx hZ hown (host := "") (Or.inl (hw _ (List.mem_of_getElem? (i := 29) rfl))) Via.refl e6 F_before_a_6 E_a_6 (Or.inr ⟨(hw _ (List.mem_of_getElem? (i := 30) rfl)), rfl, hnm⟩) (hw _ (List.mem_of_getElem? (i := 8) rfl)) (ty := (.array .double)) (by decide) rfl rfl (g := (mkF m 55 #[.val (.ref a), .val (.int K), .val (.ref q), .unset] [(.ref b6), (.ref a)])) rfl rfl (hb hby d2_55)
  refine Go.step st7 ?_
  have N7 := Fr.snoc X7 N5 ge_a
  have F_before_a_7 := F_before_a_6.same W7
  have E_a_7 := E_a_6.wr W7
  have F_keyGroups_a_7 := F_keyGroups_a_6.other W7 (Or.inr (slot_ne (Or.inr (hw _ (List.mem_of_getElem? (i := 17) rfl))) (Or.inr (hw _ (List.mem_of_getElem? (i := 30) rfl))) (by decide) (t := .int) (t' := (.array .double)) (by decide) (by decide)))
  have F_shares_a_7 := F_shares_a_6.other W7 (Or.inr (slot_ne (Or.inr (hw _ (List.mem_of_getElem? (i := 28) rfl))) (Or.inr (hw _ (List.mem_of_getElem? (i := 30) rfl))) (by decide) (t := (.array .double)) (t' := (.array .double)) (by decide) (by decide)))
  have E_q_7 := E_q_6.wr W7
  have V_q_7 := V_q_6.other W7 (Ne.symm ne_a_q)
  have Vc3_7 := Vc3_6.other W7 (Ne.symm ne_a_b3)
  have Ec3_7 := Ec3_6.wr W7
  have V_b6_7 := V_b6.other W7 (Ne.symm ne_a_b6)
  have K7 : Keep h0 h7 [a] := K6.wr W7 (Or.inl (List.mem_of_getElem? (i := 0) rfl))
  show Go _ _ _ _ _ _ _ T7 (mkF m 58 #[.val (.ref a), .val (.int K), .val (.ref q), .unset] [])
  refine Go.step (fun _ k => XS.iconst X7.here hx rfl (hb hby d2_58) k) ?_
  show Go _ _ _ _ _ _ _ T7 (mkF m 59 #[.val (.ref a), .val (.int K), .val (.ref q), .unset] [(.int (0 : Int32))])
  refine Go.step (fun _ k => XS.istoreN X7.here hx rfl (hb hby d2_59) rfl (l' := #[.val (.ref a), .val (.int K), .val (.ref q), .val (.int (0 : Int32))]) rfl k) ?_
  show Go _ _ _ _ _ _ _ T7 (mkF m 60 #[.val (.ref a), .val (.int K), .val (.ref q), .val (.int (0 : Int32))] [])
  refine Go.step (fun _ k => XS.iloadN X7.here hx rfl (hb hby d2_60) rfl k) ?_
  show Go _ _ _ _ _ _ _ T7 (mkF m 61 #[.val (.ref a), .val (.int K), .val (.ref q), .val (.int (0 : Int32))] [(.int (0 : Int32))])
  refine Go.step (fun _ k => XS.aloadN X7.here hx rfl (hb hby d2_61) rfl rfl k) ?_
  show Go _ _ _ _ _ _ _ T7 (mkF m 62 #[.val (.ref a), .val (.int K), .val (.ref q), .val (.int (0 : Int32))] [(.ref q), (.int (0 : Int32))])
  refine Go.alen X7 hx hZ e7 V_q_7 (hb hby d2_62) ?_
  show Go _ _ _ _ _ _ _ T7 (mkF m 63 #[.val (.ref a), .val (.int K), .val (.ref q), .val (.int (0 : Int32))] [(.int (2 : Int32)), (.int (0 : Int32))])
  refine Go.step (fun _ k => XS.icmpNo X7.here hx rfl (hb hby d2_63) rfl (tlt (by decide : (0 : Int32) < (2 : Int32))).2.1 k) ?_
  show Go _ _ _ _ _ _ _ T7 (mkF m 66 #[.val (.ref a), .val (.int K), .val (.ref q), .val (.int (0 : Int32))] [])
  refine Go.step (fun _ k => XS.aloadN X7.here hx rfl (hb hby d2_66) rfl rfl k) ?_
  show Go _ _ _ _ _ _ _ T7 (mkF m 67 #[.val (.ref a), .val (.int K), .val (.ref q), .val (.int (0 : Int32))] [(.ref q)])
  refine Go.step (fun _ k => XS.iloadN X7.here hx rfl (hb hby d2_67) rfl k) ?_
  show Go _ _ _ _ _ _ _ T7 (mkF m 68 #[.val (.ref a), .val (.int K), .val (.ref q), .val (.int (0 : Int32))] [(.int (0 : Int32)), (.ref q)])
  refine Go.daload X7 hx hZ e7 V_q_7 (j := (0 : Int32)) (v := (g 0)) (by decide) rfl (hb hby d2_68) ?_
  show Go _ _ _ _ _ _ _ T7 (mkF m 69 #[.val (.ref a), .val (.int K), .val (.ref q), .val (.int (0 : Int32))] [(.double (g 0))])
  refine Go.callS X7 hx hZ (by rw [hml]; rfl) (y := (⟨"java/lang/Double", "isFinite", "(D)Z"⟩ : MethodName)) (argsL := [(.double (g 0))]) (rest := []) hown (hw _ (List.mem_of_getElem? (i := 31) rfl)) (hw _ (List.mem_of_getElem? (i := 32) rfl)) (hw _ (List.mem_of_getElem? (i := 33) rfl)) (hw _ (List.mem_of_getElem? (i := 34) rfl)) (by decide) (rm4 l Z a0 hw (g 0) h7 n0 (Nat.le_trans Z0 (K7 : Keep h0 h7 [a]).1) (hf 0 (by decide))) e7 (hb hby d2_69) (lenOf pd_1 rfl) rfl rfl (W := 0) (Nat.le_of_eq rfl) (by decide) (by decide) (by decide) (by decide) ?_
  intro v8 T8 L8 X8 Q8
  obtain ⟨rfl, N8q, hh8⟩ := Q8
  have N8 := Fr.app N7 N8q
  show Go _ _ _ _ _ _ _ T8 (mkF m 72 #[.val (.ref a), .val (.int K), .val (.ref q), .val (.int (0 : Int32))] [(.int (1 : Int32))])
  refine Go.step (fun _ k => XS.ifNo X8.here hx rfl (hb hby d2_72) rfl ((if0 _ _).trans (feq (by decide : ¬ ((1 : Int32) = (0 : Int32)))).1) k) ?_
  show Go _ _ _ _ _ _ _ T8 (mkF m 75 #[.val (.ref a), .val (.int K), .val (.ref q), .val (.int (0 : Int32))] [])
  refine Go.step (fun _ k => XS.aloadN X8.here hx rfl (hb hby d2_75) rfl rfl k) ?_
  show Go _ _ _ _ _ _ _ T8 (mkF m 76 #[.val (.ref a), .val (.int K), .val (.ref q), .val (.int (0 : Int32))] [(.ref q)])
  refine Go.step (fun _ k => XS.iloadN X8.here hx rfl (hb hby d2_76) rfl k) ?_
  show Go _ _ _ _ _ _ _ T8 (mkF m 77 #[.val (.ref a), .val (.int K), .val (.ref q), .val (.int (0 : Int32))] [(.int (0 : Int32)), (.ref q)])
  refine Go.daload X8 hx hZ hh8 V_q_7 (j := (0 : Int32)) (v := (g 0)) (by decide) rfl (hb hby d2_77) ?_
  show Go _ _ _ _ _ _ _ T8 (mkF m 78 #[.val (.ref a), .val (.int K), .val (.ref q), .val (.int (0 : Int32))] [(.double (g 0))])
  refine Go.step (fun _ k => XS.dconst0 X8.here hx rfl (hb hby d2_78) rfl k) ?_
  show Go _ _ _ _ _ _ _ T8 (mkF m 79 #[.val (.ref a), .val (.int K), .val (.ref q), .val (.int (0 : Int32))] [(.double (0 : UInt64)), (.double (g 0))])
  refine Go.step (fun _ k => XS.dcmpS X8.here hx rfl (hb hby d2_79) rfl rfl k) ?_
  show Go _ _ _ _ _ _ _ T8 (mkF m 80 #[.val (.ref a), .val (.int K), .val (.ref q), .val (.int (0 : Int32))] [(.int (cmpValue (FP.dcmp (g 0) (0 : UInt64)) .g))])
  refine Go.step (fun _ k => XS.ifYes X8.here hx rfl (pc0 := 80) (pc' := 99) rfl (hb hby d2_80) rfl (lt_n (hp 0 (by decide))) (by decide) (by decide) k) ?_
  show Go _ _ _ _ _ _ _ T8 (mkF m 99 #[.val (.ref a), .val (.int K), .val (.ref q), .val (.int (0 : Int32))] [])
  refine Go.step (fun _ k => XS.aloadN X8.here hx rfl (hb hby d2_99) rfl rfl k) ?_
  show Go _ _ _ _ _ _ _ T8 (mkF m 100 #[.val (.ref a), .val (.int K), .val (.ref q), .val (.int (0 : Int32))] [(.ref a)])
  obtain ⟨T9, X9, e9, st9⟩ := getF X8 hx hZ hown (host := "") (Or.inl (hw _ (List.mem_of_getElem? (i := 29) rfl))) Via.refl hh8 F_before_a_7 (g := (mkF m 100 #[.val (.ref a), .val (.int K), .val (.ref q), .val (.int (0 : Int32))] [(.ref a)])) rfl rfl (hb hby d2_100)
  refine Go.step st9 ?_
  show Go _ _ _ _ _ _ _ T9 (mkF m 103 #[.val (.ref a), .val (.int K), .val (.ref q), .val (.int (0 : Int32))] [(.ref b6)])
  refine Go.step (fun _ k => XS.iloadN X9.here hx rfl (hb hby d2_103) rfl k) ?_
  show Go _ _ _ _ _ _ _ T9 (mkF m 104 #[.val (.ref a), .val (.int K), .val (.ref q), .val (.int (0 : Int32))] [(.int (0 : Int32)), (.ref b6)])
  refine Go.step (fun _ k => XS.iconst X9.here hx rfl (hb hby d2_104) k) ?_
  show Go _ _ _ _ _ _ _ T9 (mkF m 105 #[.val (.ref a), .val (.int K), .val (.ref q), .val (.int (0 : Int32))] [(.int (1 : Int32)), (.int (0 : Int32)), (.ref b6)])
  refine Go.step (fun _ k => XS.iadd X9.here hx rfl (hb hby d2_105) rfl k) ?_
  show Go _ _ _ _ _ _ _ T9 (mkF m 106 #[.val (.ref a), .val (.int K), .val (.ref q), .val (.int (0 : Int32))] [(.int (1 : Int32)), (.ref b6)])
  refine Go.step (fun _ k => XS.aloadN X9.here hx rfl (hb hby d2_106) rfl rfl k) ?_
  show Go _ _ _ _ _ _ _ T9 (mkF m 107 #[.val (.ref a), .val (.int K), .val (.ref q), .val (.int (0 : Int32))] [(.ref a), (.int (1 : Int32)), (.ref b6)])
  obtain ⟨T10, X10, e10, st10⟩ := getF X9 hx hZ hown (host := "") (Or.inl (hw _ (List.mem_of_getElem? (i := 29) rfl))) Via.refl e9 F_before_a_7 (g := (mkF m 107 #[.val (.ref a), .val (.int K), .val (.ref q), .val (.int (0 : Int32))] [(.ref a), (.int (1 : Int32)), (.ref b6)])) rfl rfl (hb hby d2_107)
  refine Go.step st10 ?_
  show Go _ _ _ _ _ _ _ T10 (mkF m 110 #[.val (.ref a), .val (.int K), .val (.ref q), .val (.int (0 : Int32))] [(.ref b6), (.int (1 : Int32)), (.ref b6)])
  refine Go.step (fun _ k => XS.iloadN X10.here hx rfl (hb hby d2_110) rfl k) ?_
  show Go _ _ _ _ _ _ _ T10 (mkF m 111 #[.val (.ref a), .val (.int K), .val (.ref q), .val (.int (0 : Int32))] [(.int (0 : Int32)), (.ref b6), (.int (1 : Int32)), (.ref b6)])
  refine Go.daload X10 hx hZ e10 V_b6_7 (j := (0 : Int32)) (v := (0 : UInt64)) (by decide) rfl (hb hby d2_111) ?_
  show Go _ _ _ _ _ _ _ T10 (mkF m 112 #[.val (.ref a), .val (.int K), .val (.ref q), .val (.int (0 : Int32))] [(.double (0 : UInt64)), (.int (1 : Int32)), (.ref b6)])
  refine Go.step (fun _ k => XS.aloadN X10.here hx rfl (hb hby d2_112) rfl rfl k) ?_
  show Go _ _ _ _ _ _ _ T10 (mkF m 113 #[.val (.ref a), .val (.int K), .val (.ref q), .val (.int (0 : Int32))] [(.ref q), (.double (0 : UInt64)), (.int (1 : Int32)), (.ref b6)])
  refine Go.step (fun _ k => XS.iloadN X10.here hx rfl (hb hby d2_113) rfl k) ?_
  show Go _ _ _ _ _ _ _ T10 (mkF m 114 #[.val (.ref a), .val (.int K), .val (.ref q), .val (.int (0 : Int32))] [(.int (0 : Int32)), (.ref q), (.double (0 : UInt64)), (.int (1 : Int32)), (.ref b6)])
  refine Go.daload X10 hx hZ e10 V_q_7 (j := (0 : Int32)) (v := (g 0)) (by decide) rfl (hb hby d2_114) ?_
  show Go _ _ _ _ _ _ _ T10 (mkF m 115 #[.val (.ref a), .val (.int K), .val (.ref q), .val (.int (0 : Int32))] [(.double (g 0)), (.double (0 : UInt64)), (.int (1 : Int32)), (.ref b6)])
  refine Go.step (fun _ k => XS.daddS X10.here hx rfl (hb hby d2_115) rfl (Jvm.Free.Fl.dadd_out (by first | decide +kernel | (unfold Jvm.Free.Fl.Fin64; decide +kernel) | (unfold Jvm.Free.Fl.Nz64; decide +kernel) | (unfold Jvm.Free.Fl.NoNaN64; decide +kernel) : Jvm.Free.Fl.NoNaN64 0) (hf 0 (by decide))) rfl k) ?_
  show Go _ _ _ _ _ _ _ T10 (mkF m 116 #[.val (.ref a), .val (.int K), .val (.ref q), .val (.int (0 : Int32))] [(.double (FP.dadd (0 : UInt64) (g 0))), (.int (1 : Int32)), (.ref b6)])
  refine Go.dastore X10 hx hZ e10 V_b6_7 (j := (1 : Int32)) (x := (FP.dadd (0 : UInt64) (g 0))) (by decide) (hb hby d2_116) ?_
  intro T11 h11 X11 e11 W11 Vn11
  have V_b6_11 : Dv Z h11 b6 (3 : Int32) (updN (fun _ => (0 : UInt64)) 1 (FP.dadd (0 : UInt64) (g 0))) := Vn11
  have N11 := Fr.snoc X11 N8 ge_b6
  have E_a_11 := E_a_7.wr W11
  have F_keyGroups_a_11 := F_keyGroups_a_7.other W11 (Or.inl ne_a_b6)
  have F_shares_a_11 := F_shares_a_7.other W11 (Or.inl ne_a_b6)
  have F_before_a_11 := F_before_a_7.other W11 (Or.inl ne_a_b6)
  have E_q_11 := E_q_7.wr W11
  have V_q_11 := V_q_7.other W11 ne_q_b6
  have Vc3_11 := Vc3_7.other W11 ne_b3_b6
  have Ec3_11 := Ec3_7.wr W11
  have K11 : Keep h0 h11 [a] := K7.wr W11 (Or.inr sz_b6)
  show Go _ _ _ _ _ _ _ T11 (mkF m 117 #[.val (.ref a), .val (.int K), .val (.ref q), .val (.int (0 : Int32))] [])
  refine Go.step (fun _ k => XS.iinc X11.here hx rfl (hb hby d2_117) rfl (l' := #[.val (.ref a), .val (.int K), .val (.ref q), .val (.int (1 : Int32))]) rfl k) ?_
  show Go _ _ _ _ _ _ _ T11 (mkF m 120 #[.val (.ref a), .val (.int K), .val (.ref q), .val (.int (1 : Int32))] [])
  refine Go.step (fun _ k => XS.goto X11.here hx rfl (pc0 := 120) (pc' := 60) rfl (hb hby d2_120) (by decide) (by decide) k) ?_
  show Go _ _ _ _ _ _ _ T11 (mkF m 60 #[.val (.ref a), .val (.int K), .val (.ref q), .val (.int (1 : Int32))] [])
  refine Go.step (fun _ k => XS.iloadN X11.here hx rfl (hb hby d2_60) rfl k) ?_
  show Go _ _ _ _ _ _ _ T11 (mkF m 61 #[.val (.ref a), .val (.int K), .val (.ref q), .val (.int (1 : Int32))] [(.int (1 : Int32))])
  refine Go.step (fun _ k => XS.aloadN X11.here hx rfl (hb hby d2_61) rfl rfl k) ?_
  show Go _ _ _ _ _ _ _ T11 (mkF m 62 #[.val (.ref a), .val (.int K), .val (.ref q), .val (.int (1 : Int32))] [(.ref q), (.int (1 : Int32))])
  refine Go.alen X11 hx hZ e11 V_q_11 (hb hby d2_62) ?_
  show Go _ _ _ _ _ _ _ T11 (mkF m 63 #[.val (.ref a), .val (.int K), .val (.ref q), .val (.int (1 : Int32))] [(.int (2 : Int32)), (.int (1 : Int32))])
  refine Go.step (fun _ k => XS.icmpNo X11.here hx rfl (hb hby d2_63) rfl (tlt (by decide : (1 : Int32) < (2 : Int32))).2.1 k) ?_
  show Go _ _ _ _ _ _ _ T11 (mkF m 66 #[.val (.ref a), .val (.int K), .val (.ref q), .val (.int (1 : Int32))] [])
  refine Go.step (fun _ k => XS.aloadN X11.here hx rfl (hb hby d2_66) rfl rfl k) ?_
  show Go _ _ _ _ _ _ _ T11 (mkF m 67 #[.val (.ref a), .val (.int K), .val (.ref q), .val (.int (1 : Int32))] [(.ref q)])
  refine Go.step (fun _ k => XS.iloadN X11.here hx rfl (hb hby d2_67) rfl k) ?_
  show Go _ _ _ _ _ _ _ T11 (mkF m 68 #[.val (.ref a), .val (.int K), .val (.ref q), .val (.int (1 : Int32))] [(.int (1 : Int32)), (.ref q)])
  refine Go.daload X11 hx hZ e11 V_q_11 (j := (1 : Int32)) (v := (g 1)) (by decide) rfl (hb hby d2_68) ?_
  show Go _ _ _ _ _ _ _ T11 (mkF m 69 #[.val (.ref a), .val (.int K), .val (.ref q), .val (.int (1 : Int32))] [(.double (g 1))])
  refine Go.callS X11 hx hZ (by rw [hml]; rfl) (y := (⟨"java/lang/Double", "isFinite", "(D)Z"⟩ : MethodName)) (argsL := [(.double (g 1))]) (rest := []) hown (hw _ (List.mem_of_getElem? (i := 31) rfl)) (hw _ (List.mem_of_getElem? (i := 32) rfl)) (hw _ (List.mem_of_getElem? (i := 33) rfl)) (hw _ (List.mem_of_getElem? (i := 34) rfl)) (by decide) (rm4 l Z a0 hw (g 1) h11 n0 (Nat.le_trans Z0 (K11 : Keep h0 h11 [a]).1) (hf 1 (by decide))) e11 (hb hby d2_69) (lenOf pd_1 rfl) rfl rfl (W := 0) (Nat.le_of_eq rfl) (by decide) (by decide) (by decide) (by decide) ?_
  intro v12 T12 L12 X12 Q12
  obtain ⟨rfl, N12q, hh12⟩ := Q12
  have N12 := Fr.app N11 N12q
  show Go _ _ _ _ _ _ _ T12 (mkF m 72 #[.val (.ref a), .val (.int K), .val (.ref q), .val (.int (1 : Int32))] [(.int (1 : Int32))])
  refine Go.step (fun _ k => XS.ifNo X12.here hx rfl (hb hby d2_72) rfl ((if0 _ _).trans (feq (by decide : ¬ ((1 : Int32) = (0 : Int32)))).1) k) ?_
  show Go _ _ _ _ _ _ _ T12 (mkF m 75 #[.val (.ref a), .val (.int K), .val (.ref q), .val (.int (1 : Int32))] [])
  refine Go.step (fun _ k => XS.aloadN X12.here hx rfl (hb hby d2_75) rfl rfl k) ?_
  show Go _ _ _ _ _ _ _ T12 (mkF m 76 #[.val (.ref a), .val (.int K), .val (.ref q), .val (.int (1 : Int32))] [(.ref q)])
  refine Go.step (fun _ k => XS.iloadN X12.here hx rfl (hb hby d2_76) rfl k) ?_
  show Go _ _ _ _ _ _ _ T12 (mkF m 77 #[.val (.ref a), .val (.int K), .val (.ref q), .val (.int (1 : Int32))] [(.int (1 : Int32)), (.ref q)])
  refine Go.daload X12 hx hZ hh12 V_q_11 (j := (1 : Int32)) (v := (g 1)) (by decide) rfl (hb hby d2_77) ?_
  show Go _ _ _ _ _ _ _ T12 (mkF m 78 #[.val (.ref a), .val (.int K), .val (.ref q), .val (.int (1 : Int32))] [(.double (g 1))])
  refine Go.step (fun _ k => XS.dconst0 X12.here hx rfl (hb hby d2_78) rfl k) ?_
  show Go _ _ _ _ _ _ _ T12 (mkF m 79 #[.val (.ref a), .val (.int K), .val (.ref q), .val (.int (1 : Int32))] [(.double (0 : UInt64)), (.double (g 1))])
  refine Go.step (fun _ k => XS.dcmpS X12.here hx rfl (hb hby d2_79) rfl rfl k) ?_
  show Go _ _ _ _ _ _ _ T12 (mkF m 80 #[.val (.ref a), .val (.int K), .val (.ref q), .val (.int (1 : Int32))] [(.int (cmpValue (FP.dcmp (g 1) (0 : UInt64)) .g))])
  refine Go.step (fun _ k => XS.ifYes X12.here hx rfl (pc0 := 80) (pc' := 99) rfl (hb hby d2_80) rfl (lt_n (hp 1 (by decide))) (by decide) (by decide) k) ?_
  show Go _ _ _ _ _ _ _ T12 (mkF m 99 #[.val (.ref a), .val (.int K), .val (.ref q), .val (.int (1 : Int32))] [])
  refine Go.step (fun _ k => XS.aloadN X12.here hx rfl (hb hby d2_99) rfl rfl k) ?_
  show Go _ _ _ _ _ _ _ T12 (mkF m 100 #[.val (.ref a), .val (.int K), .val (.ref q), .val (.int (1 : Int32))] [(.ref a)])
  obtain ⟨T13, X13, e13, st13⟩ := getF X12 hx hZ hown (host := "") (Or.inl (hw _ (List.mem_of_getElem? (i := 29) rfl))) Via.refl hh12 F_before_a_11 (g := (mkF m 100 #[.val (.ref a), .val (.int K), .val (.ref q), .val (.int (1 : Int32))] [(.ref a)])) rfl rfl (hb hby d2_100)
  refine Go.step st13 ?_
  show Go _ _ _ _ _ _ _ T13 (mkF m 103 #[.val (.ref a), .val (.int K), .val (.ref q), .val (.int (1 : Int32))] [(.ref b6)])
  refine Go.step (fun _ k => XS.iloadN X13.here hx rfl (hb hby d2_103) rfl k) ?_
  show Go _ _ _ _ _ _ _ T13 (mkF m 104 #[.val (.ref a), .val (.int K), .val (.ref q), .val (.int (1 : Int32))] [(.int (1 : Int32)), (.ref b6)])
  refine Go.step (fun _ k => XS.iconst X13.here hx rfl (hb hby d2_104) k) ?_
  show Go _ _ _ _ _ _ _ T13 (mkF m 105 #[.val (.ref a), .val (.int K), .val (.ref q), .val (.int (1 : Int32))] [(.int (1 : Int32)), (.int (1 : Int32)), (.ref b6)])
  refine Go.step (fun _ k => XS.iadd X13.here hx rfl (hb hby d2_105) rfl k) ?_
  show Go _ _ _ _ _ _ _ T13 (mkF m 106 #[.val (.ref a), .val (.int K), .val (.ref q), .val (.int (1 : Int32))] [(.int (2 : Int32)), (.ref b6)])
  refine Go.step (fun _ k => XS.aloadN X13.here hx rfl (hb hby d2_106) rfl rfl k) ?_
  show Go _ _ _ _ _ _ _ T13 (mkF m 107 #[.val (.ref a), .val (.int K), .val (.ref q), .val (.int (1 : Int32))] [(.ref a), (.int (2 : Int32)), (.ref b6)])
  obtain ⟨T14, X14, e14, st14⟩ := getF X13 hx hZ hown (host := "") (Or.inl (hw _ (List.mem_of_getElem? (i := 29) rfl))) Via.refl e13 F_before_a_11 (g := (mkF m 107 #[.val (.ref a), .val (.int K), .val (.ref q), .val (.int (1 : Int32))] [(.ref a), (.int (2 : Int32)), (.ref b6)])) rfl rfl (hb hby d2_107)
  refine Go.step st14 ?_
  show Go _ _ _ _ _ _ _ T14 (mkF m 110 #[.val (.ref a), .val (.int K), .val (.ref q), .val (.int (1 : Int32))] [(.ref b6), (.int (2 : Int32)), (.ref b6)])
  refine Go.step (fun _ k => XS.iloadN X14.here hx rfl (hb hby d2_110) rfl k) ?_
  show Go _ _ _ _ _ _ _ T14 (mkF m 111 #[.val (.ref a), .val (.int K), .val (.ref q), .val (.int (1 : Int32))] [(.int (1 : Int32)), (.ref b6), (.int (2 : Int32)), (.ref b6)])
  refine Go.daload X14 hx hZ e14 V_b6_11 (j := (1 : Int32)) (v := (FP.dadd (0 : UInt64) (g 0))) (by decide) rfl (hb hby d2_111) ?_
  show Go _ _ _ _ _ _ _ T14 (mkF m 112 #[.val (.ref a), .val (.int K), .val (.ref q), .val (.int (1 : Int32))] [(.double (FP.dadd (0 : UInt64) (g 0))), (.int (2 : Int32)), (.ref b6)])
  refine Go.step (fun _ k => XS.aloadN X14.here hx rfl (hb hby d2_112) rfl rfl k) ?_
  show Go _ _ _ _ _ _ _ T14 (mkF m 113 #[.val (.ref a), .val (.int K), .val (.ref q), .val (.int (1 : Int32))] [(.ref q), (.double (FP.dadd (0 : UInt64) (g 0))), (.int (2 : Int32)), (.ref b6)])
  refine Go.step (fun _ k => XS.iloadN X14.here hx rfl (hb hby d2_113) rfl k) ?_
  show Go _ _ _ _ _ _ _ T14 (mkF m 114 #[.val (.ref a), .val (.int K), .val (.ref q), .val (.int (1 : Int32))] [(.int (1 : Int32)), (.ref q), (.double (FP.dadd (0 : UInt64) (g 0))), (.int (2 : Int32)), (.ref b6)])
  refine Go.daload X14 hx hZ e14 V_q_11 (j := (1 : Int32)) (v := (g 1)) (by decide) rfl (hb hby d2_114) ?_
  show Go _ _ _ _ _ _ _ T14 (mkF m 115 #[.val (.ref a), .val (.int K), .val (.ref q), .val (.int (1 : Int32))] [(.double (g 1)), (.double (FP.dadd (0 : UInt64) (g 0))), (.int (2 : Int32)), (.ref b6)])
  refine Go.step (fun _ k => XS.daddS X14.here hx rfl (hb hby d2_115) rfl (Jvm.Free.Fl.dadd_out (Jvm.Free.Fl.dadd_out (by first | decide +kernel | (unfold Jvm.Free.Fl.Fin64; decide +kernel) | (unfold Jvm.Free.Fl.Nz64; decide +kernel) | (unfold Jvm.Free.Fl.NoNaN64; decide +kernel) : Jvm.Free.Fl.NoNaN64 0) (hf 0 (by decide))) (hf 1 (by decide))) rfl k) ?_
  show Go _ _ _ _ _ _ _ T14 (mkF m 116 #[.val (.ref a), .val (.int K), .val (.ref q), .val (.int (1 : Int32))] [(.double (FP.dadd (FP.dadd (0 : UInt64) (g 0)) (g 1))), (.int (2 : Int32)), (.ref b6)])
  refine Go.dastore X14 hx hZ e14 V_b6_11 (j := (2 : Int32)) (x := (FP.dadd (FP.dadd (0 : UInt64) (g 0)) (g 1))) (by decide) (hb hby d2_116) ?_
  intro T15 h15 X15 e15 W15 Vn15
  have V_b6_15 : Dv Z h15 b6 (3 : Int32) (updN (updN (fun _ => (0 : UInt64)) 1 (FP.dadd (0 : UInt64) (g 0))) 2 (FP.dadd (FP.dadd (0 : UInt64) (g 0)) (g 1))) := Vn15
  have N15 := Fr.snoc X15 N12 ge_b6
  have E_a_15 := E_a_11.wr W15
  have F_keyGroups_a_15 := F_keyGroups_a_11.other W15 (Or.inl ne_a_b6)
  have F_shares_a_15 := F_shares_a_11.other W15 (Or.inl ne_a_b6)
  have F_before_a_15 := F_before_a_11.other W15 (Or.inl ne_a_b6)
  have E_q_15 := E_q_11.wr W15
  have V_q_15 := V_q_11.other W15 ne_q_b6
  have Vc3_15 := Vc3_11.other W15 ne_b3_b6
  have Ec3_15 := Ec3_11.wr W15
  have K15 : Keep h0 h15 [a] := K11.wr W15 (Or.inr sz_b6)
  show Go _ _ _ _ _ _ _ T15 (mkF m 117 #[.val (.ref a), .val (.int K), .val (.ref q), .val (.int (1 : Int32))] [])
  refine Go.step (fun _ k => XS.iinc X15.here hx rfl (hb hby d2_117) rfl (l' := #[.val (.ref a), .val (.int K), .val (.ref q), .val (.int (2 : Int32))]) rfl k) ?_
  show Go _ _ _ _ _ _ _ T15 (mkF m 120 #[.val (.ref a), .val (.int K), .val (.ref q), .val (.int (2 : Int32))] [])
  refine Go.step (fun _ k => XS.goto X15.here hx rfl (pc0 := 120) (pc' := 60) rfl (hb hby d2_120) (by decide) (by decide) k) ?_
  show Go _ _ _ _ _ _ _ T15 (mkF m 60 #[.val (.ref a), .val (.int K), .val (.ref q), .val (.int (2 : Int32))] [])
  refine Go.step (fun _ k => XS.iloadN X15.here hx rfl (hb hby d2_60) rfl k) ?_
  show Go _ _ _ _ _ _ _ T15 (mkF m 61 #[.val (.ref a), .val (.int K), .val (.ref q), .val (.int (2 : Int32))] [(.int (2 : Int32))])
  refine Go.step (fun _ k => XS.aloadN X15.here hx rfl (hb hby d2_61) rfl rfl k) ?_
  show Go _ _ _ _ _ _ _ T15 (mkF m 62 #[.val (.ref a), .val (.int K), .val (.ref q), .val (.int (2 : Int32))] [(.ref q), (.int (2 : Int32))])
  refine Go.alen X15 hx hZ e15 V_q_15 (hb hby d2_62) ?_
  show Go _ _ _ _ _ _ _ T15 (mkF m 63 #[.val (.ref a), .val (.int K), .val (.ref q), .val (.int (2 : Int32))] [(.int (2 : Int32)), (.int (2 : Int32))])
  refine Go.step (fun _ k => XS.icmpYes X15.here hx rfl (pc0 := 63) (pc' := 123) rfl (hb hby d2_63) rfl (flt (by decide : ¬ ((2 : Int32) < (2 : Int32)))).2.1 (by decide) (by decide) k) ?_
  show Go _ _ _ _ _ _ _ T15 (mkF m 123 #[.val (.ref a), .val (.int K), .val (.ref q), .val (.int (2 : Int32))] [])
  refine Go.retV X15 hx hlk hret (hb hby d2_123) (by decide) (by decide) ?_
  try rw [e15]
  exact ⟨rfl, N15, K15, E_a_15, F_keyGroups_a_15, b3, b6, F_shares_a_15, F_before_a_15, Vc3_15, V_b6_15, sz_b3, sz_b6, ne_b3_b6⟩
theorem ef_rm2_2 (m : MethodId) (a : Addr) (K : Int32) (q : Addr) : entryFrame m #[(.ref a), (.int K), (.ref q)] 4 = mkF m 0 #[.val (.ref a), .val (.int K), .val (.ref q), .unset] [] := by first | (simp [entryFrame, mkF, argsToLocals, Value.category]; done) | rfl
theorem rm2_2 (l : Launch) (Z : State) (a0 : Array Value) (hw : ∀ d ∈ tables_1, d.before a0 Z = true) (a q : Addr) (K : Int32) (g : Nat → UInt64) (h0 : Heap) (n0 : Nat) (Z0 : n0 ≤ h0.size) (E_a : Exa Z h0 a "tidewatch/decision/KeyGroupCeiling") (F_keyGroups_a : Fld Z h0 a "tidewatch/decision/KeyGroupCeiling" "keyGroups" "I" (.int (0 : Int32))) (F_shares_a : Fld Z h0 a "tidewatch/decision/KeyGroupCeiling" "shares" "[D" .null) (F_before_a : Fld Z h0 a "tidewatch/decision/KeyGroupCeiling" "before" "[D" .null) (E_q : Exa Z h0 q "[D") (V_q : Dv Z h0 q (2 : Int32) g) (ge_a : n0 ≤ a) (ne_a_q : a ≠ q) (hK : ¬ K < (2 : Int32)) (hf : ∀ i, i < 2 → Jvm.Free.Fl.Fin64 (g i)) (hp : ∀ i, i < 2 → ¬ FP.dcmp (g i) (0 : UInt64) = some .lt) :
    Con l Z (⟨"tidewatch/decision/KeyGroupCeiling", "<init>", "(I[D)V"⟩ : MethodName) prog_33_method_1_code 4 none ({ frames := 2, cells := 2, slots := 5, locals := 40 } : Room) #[(.ref a), (.int K), (.ref q)] h0 (fun r h L => r = none ∧ Fr n0 L ∧ Keep h0 h [a] ∧ Exa Z h a "tidewatch/decision/KeyGroupCeiling" ∧ Fld Z h a "tidewatch/decision/KeyGroupCeiling" "keyGroups" "I" (.int K) ∧ ∃ c d : Addr, Fld Z h a "tidewatch/decision/KeyGroupCeiling" "shares" "[D" (.ref c) ∧ Fld Z h a "tidewatch/decision/KeyGroupCeiling" "before" "[D" (.ref d) ∧ Dv Z h c (2 : Int32) g ∧ Dv Z h d (3 : Int32) (updN (updN (fun _ => (0 : UInt64)) 1 (FP.dadd (0 : UInt64) (g 0))) 2 (FP.dadd (FP.dadd (0 : UInt64) (g 0)) (g 1))) ∧ h0.size ≤ c ∧ h0.size ≤ d ∧ c ≠ d) :=
  con_of (plainFor_of_name pn_2) (fun p_ e_ s_ m_ b_ meth_ c_ T_ X_ hx hZ hby hml hown hnm hret hlk e0 => Go.cast (ef_rm2_2 m_ a K q) (w2_2 a q K g X_ hx hZ hw hby hml hown hnm hret hlk e0 Z0 (Fr.nil n0) E_a F_keyGroups_a F_shares_a F_before_a E_q V_q ge_a ne_a_q hK hf hp))
set_option maxRecDepth 65536 in
set_option maxHeartbeats 40000000 in
theorem w2_3 {p : Program} {l : Launch} {e : Env} {s : State} {m : MethodId} {args : Array Value} {below : List Frame} {meth : Method} {c_ : Code} {T0 : State} {locs : List Loc} {Z : State} {a0 : Array Value} {h0 : Heap} {n0 : Nat} (a q : Addr) (K : Int32) (g : Nat → UInt64)
    (X0 : Stand p l e ({ frames := 2, cells := 2, slots := 7, locals := 40 } : Room) s m args below meth c_ T0 locs 0 0) (hx : p.tables.exec = Jvm.exec) (hZ : Z.Warmed39 s.vm) (hw : ∀ d ∈ tables_1, d.before a0 Z = true) (hby : c_.code = prog_33_method_1_code) (hml : c_.maxLocals = 4) (hown : s.vm.findClass "tidewatch/decision/KeyGroupCeiling" = some m.cls) (hnm : meth.name = "<init>") (hret : meth.sig.returnType = none) (hlk : meth.locks = false) (e0 : T0.heap = h0) (Z0 : n0 ≤ h0.size) (N0 : Fr n0 locs) (E_a : Exa Z h0 a "tidewatch/decision/KeyGroupCeiling") (F_keyGroups_a : Fld Z h0 a "tidewatch/decision/KeyGroupCeiling" "keyGroups" "I" (.int (0 : Int32))) (F_shares_a : Fld Z h0 a "tidewatch/decision/KeyGroupCeiling" "shares" "[D" .null) (F_before_a : Fld Z h0 a "tidewatch/decision/KeyGroupCeiling" "before" "[D" .null) (E_q : Exa Z h0 q "[D") (V_q : Dv Z h0 q (3 : Int32) g) (ge_a : n0 ≤ a) (ne_a_q : a ≠ q) (hK : ¬ K < (3 : Int32)) (hf : ∀ i, i < 3 → Jvm.Free.Fl.Fin64 (g i)) (hp : ∀ i, i < 3 → ¬ FP.dcmp (g i) (0 : UInt64) = some .lt) :
    Go p e below s ({ frames := 2, cells := 2, slots := 7, locals := 40 } : Room).cells ({ frames := 2, cells := 2, slots := 7, locals := 40 } : Room).slots (fun r h L => r = none ∧ Fr n0 L ∧ Keep h0 h [a] ∧ Exa Z h a "tidewatch/decision/KeyGroupCeiling" ∧ Fld Z h a "tidewatch/decision/KeyGroupCeiling" "keyGroups" "I" (.int K) ∧ ∃ c d : Addr, Fld Z h a "tidewatch/decision/KeyGroupCeiling" "shares" "[D" (.ref c) ∧ Fld Z h a "tidewatch/decision/KeyGroupCeiling" "before" "[D" (.ref d) ∧ Dv Z h c (3 : Int32) g ∧ Dv Z h d (4 : Int32) (updN (updN (updN (fun _ => (0 : UInt64)) 1 (FP.dadd (0 : UInt64) (g 0))) 2 (FP.dadd (FP.dadd (0 : UInt64) (g 0)) (g 1))) 3 (FP.dadd (FP.dadd (FP.dadd (0 : UInt64) (g 0)) (g 1)) (g 2))) ∧ h0.size ≤ c ∧ h0.size ≤ d ∧ c ≠ d) T0 (mkF m 0 #[.val (.ref a), .val (.int K), .val (.ref q), .unset] []) := by
  show Go _ _ _ _ _ _ _ T0 (mkF m 0 #[.val (.ref a), .val (.int K), .val (.ref q), .unset] [])
  refine Go.step (fun _ k => XS.aloadN X0.here hx rfl (hb hby d2_0) rfl rfl k) ?_
  show Go _ _ _ _ _ _ _ T0 (mkF m 1 #[.val (.ref a), .val (.int K), .val (.ref q), .unset] [(.ref a)])
  obtain ⟨T1, X1, e1, st1⟩ := initO X0 hx hZ hown (hw _ (List.mem_of_getElem? (i := 13) rfl)) (hw _ (List.mem_of_getElem? (i := 14) rfl)) (hw _ (List.mem_of_getElem? (i := 15) rfl)) e0 (g := (mkF m 1 #[.val (.ref a), .val (.int K), .val (.ref q), .unset] [(.ref a)])) rfl (by rw [hml]; rfl) rfl (hb hby d2_1) (by decide) (W := 0) (by show 2 * 0 + _ ≤ _; exact Nat.le_of_eq rfl) (by decide)
  refine Go.step st1 ?_
  show Go _ _ _ _ _ _ _ T1 (mkF m 4 #[.val (.ref a), .val (.int K), .val (.ref q), .unset] [])
  refine Go.step (fun _ k => XS.aloadN X1.here hx rfl (hb hby d2_4) rfl rfl k) ?_
  show Go _ _ _ _ _ _ _ T1 (mkF m 5 #[.val (.ref a), .val (.int K), .val (.ref q), .unset] [(.ref q)])
  refine Go.alen X1 hx hZ e1 V_q (hb hby d2_5) ?_
  show Go _ _ _ _ _ _ _ T1 (mkF m 6 #[.val (.ref a), .val (.int K), .val (.ref q), .unset] [(.int (3 : Int32))])
  refine Go.step (fun _ k => XS.iconst X1.here hx rfl (hb hby d2_6) k) ?_
  show Go _ _ _ _ _ _ _ T1 (mkF m 7 #[.val (.ref a), .val (.int K), .val (.ref q), .unset] [(.int (1 : Int32)), (.int (3 : Int32))])
  refine Go.step (fun _ k => XS.icmpNo X1.here hx rfl (hb hby d2_7) rfl (flt (by decide : ¬ ((3 : Int32) < (1 : Int32)))).1 k) ?_
  show Go _ _ _ _ _ _ _ T1 (mkF m 10 #[.val (.ref a), .val (.int K), .val (.ref q), .unset] [])
  refine Go.step (fun _ k => XS.aloadN X1.here hx rfl (hb hby d2_10) rfl rfl k) ?_
  show Go _ _ _ _ _ _ _ T1 (mkF m 11 #[.val (.ref a), .val (.int K), .val (.ref q), .unset] [(.ref q)])
  refine Go.alen X1 hx hZ e1 V_q (hb hby d2_11) ?_
  show Go _ _ _ _ _ _ _ T1 (mkF m 12 #[.val (.ref a), .val (.int K), .val (.ref q), .unset] [(.int (3 : Int32))])
  refine Go.step (fun _ k => XS.iloadN X1.here hx rfl (hb hby d2_12) rfl k) ?_
  show Go _ _ _ _ _ _ _ T1 (mkF m 13 #[.val (.ref a), .val (.int K), .val (.ref q), .unset] [(.int K), (.int (3 : Int32))])
  refine Go.step (fun _ k => XS.icmpYes X1.here hx rfl (pc0 := 13) (pc' := 32) rfl (hb hby d2_13) rfl (flt hK).2.2.2 (by decide) (by decide) k) ?_
  show Go _ _ _ _ _ _ _ T1 (mkF m 32 #[.val (.ref a), .val (.int K), .val (.ref q), .unset] [])
  refine Go.step (fun _ k => XS.aloadN X1.here hx rfl (hb hby d2_32) rfl rfl k) ?_
  show Go _ _ _ _ _ _ _ T1 (mkF m 33 #[.val (.ref a), .val (.int K), .val (.ref q), .unset] [(.ref a)])
  refine Go.step (fun _ k => XS.iloadN X1.here hx rfl (hb hby d2_33) rfl k) ?_
  show Go _ _ _ _ _ _ _ T1 (mkF m 34 #[.val (.ref a), .val (.int K), .val (.ref q), .unset] [(.int K), (.ref a)])
  obtain ⟨T2, h2, X2, e2, W2, st2⟩ := putF X1 hx hZ hown (host := "") (Or.inl (hw _ (List.mem_of_getElem? (i := 16) rfl))) Via.refl e1 F_keyGroups_a E_a (Or.inr ⟨(hw _ (List.mem_of_getElem? (i := 17) rfl)), rfl, hnm⟩) (hw _ (List.mem_of_getElem? (i := 8) rfl)) (ty := .int) (by decide) rfl rfl (g := (mkF m 34 #[.val (.ref a), .val (.int K), .val (.ref q), .unset] [(.int K), (.ref a)])) rfl rfl (hb hby d2_34)
  refine Go.step st2 ?_
  have N2 := Fr.snoc X2 N0 ge_a
  have F_keyGroups_a_2 := F_keyGroups_a.same W2
  have E_a_2 := E_a.wr W2
  have F_shares_a_2 := F_shares_a.other W2 (Or.inr (slot_ne (Or.inr (hw _ (List.mem_of_getElem? (i := 28) rfl))) (Or.inr (hw _ (List.mem_of_getElem? (i := 17) rfl))) (by decide) (t := (.array .double)) (t' := .int) (by decide) (by decide)))
  have F_before_a_2 := F_before_a.other W2 (Or.inr (slot_ne (Or.inr (hw _ (List.mem_of_getElem? (i := 30) rfl))) (Or.inr (hw _ (List.mem_of_getElem? (i := 17) rfl))) (by decide) (t := (.array .double)) (t' := .int) (by decide) (by decide)))
  have E_q_2 := E_q.wr W2
  have V_q_2 := V_q.other W2 (Ne.symm ne_a_q)
  have K2 : Keep h0 h2 [a] := (Keep.refl h0 [a]).wr W2 (Or.inl (List.mem_of_getElem? (i := 0) rfl))
  show Go _ _ _ _ _ _ _ T2 (mkF m 37 #[.val (.ref a), .val (.int K), .val (.ref q), .unset] [])
  refine Go.step (fun _ k => XS.aloadN X2.here hx rfl (hb hby d2_37) rfl rfl k) ?_
  show Go _ _ _ _ _ _ _ T2 (mkF m 38 #[.val (.ref a), .val (.int K), .val (.ref q), .unset] [(.ref a)])
  refine Go.step (fun _ k => XS.aloadN X2.here hx rfl (hb hby d2_38) rfl rfl k) ?_
  show Go _ _ _ _ _ _ _ T2 (mkF m 39 #[.val (.ref a), .val (.int K), .val (.ref q), .unset] [(.ref q), (.ref a)])
  refine Go.clone X2 hx hZ (by rw [hml]; rfl) hown (hw _ (List.mem_of_getElem? (i := 18) rfl)) (hw _ (List.mem_of_getElem? (i := 19) rfl)) (hw _ (List.mem_of_getElem? (i := 23) rfl)) (hw _ (List.mem_of_getElem? (i := 21) rfl)) (hw _ (List.mem_of_getElem? (i := 22) rfl)) (hw _ (List.mem_of_getElem? (i := 24) rfl)) e2 V_q_2 E_q_2 (hb hby d2_39) (by decide) (W := 1) (Nat.le_of_eq rfl) (by decide) (cap := 3) (by decide) (by decide) (by decide) ?_
  intro T3 h3 b3 g3 X3 e3 E3 Vc3 Ec3
  have K3 : Keep h0 h3 [a] := K2.ext E3
  have sz_b3 : h0.size ≤ b3 := Nat.le_trans (K2 : Keep h0 h2 [a]).1 (Nat.le_of_eq g3.symm)
  have ge_b3 : n0 ≤ b3 := Nat.le_trans Z0 sz_b3
  have ne_a_b3 : a ≠ b3 := Nat.ne_of_lt (Nat.lt_of_lt_of_le E_a_2.lt (Nat.le_of_eq g3.symm))
  have ne_q_b3 : q ≠ b3 := Nat.ne_of_lt (Nat.lt_of_lt_of_le E_q_2.lt (Nat.le_of_eq g3.symm))
  have E_a_3 := E_a_2.ext E3
  have F_keyGroups_a_3 := F_keyGroups_a_2.ext E3
  have F_shares_a_3 := F_shares_a_2.ext E3
  have F_before_a_3 := F_before_a_2.ext E3
  have E_q_3 := E_q_2.ext E3
  have V_q_3 := V_q_2.ext E3
  show Go _ _ _ _ _ _ _ T3 (mkF m 42 #[.val (.ref a), .val (.int K), .val (.ref q), .unset] [(.ref b3), (.ref a)])
  obtain ⟨T4, X4, e4, st4⟩ := castY X3 hx hZ hown (hw _ (List.mem_of_getElem? (i := 25) rfl)) e3 (Ins.self Ec3) (g := (mkF m 42 #[.val (.ref a), .val (.int K), .val (.ref q), .unset] [(.ref b3), (.ref a)])) rfl rfl (hb hby d2_42)
  refine Go.step st4 ?_
  show Go _ _ _ _ _ _ _ T4 (mkF m 45 #[.val (.ref a), .val (.int K), .val (.ref q), .unset] [(.ref b3), (.ref a)])
  obtain ⟨T5, h5, X5, e5, W5, st5⟩ := putF X4 hx hZ hown (host := "") (Or.inl (hw _ (List.mem_of_getElem? (i := 27) rfl))) Via.refl e4 F_shares_a_3 E_a_3 (Or.inr ⟨(hw _ (List.mem_of_getElem? (i := 28) rfl)), rfl, hnm⟩) (hw _ (List.mem_of_getElem? (i := 8) rfl)) (ty := (.array .double)) (by decide) rfl rfl (g := (mkF m 45 #[.val (.ref a), .val (.int K), .val (.ref q), .unset] [(.ref b3), (.ref a)])) rfl rfl (hb hby d2_45)
  refine Go.step st5 ?_
  have N5 := Fr.snoc X5 N2 ge_a
  have F_shares_a_5 := F_shares_a_3.same W5
  have E_a_5 := E_a_3.wr W5
  have F_keyGroups_a_5 := F_keyGroups_a_3.other W5 (Or.inr (slot_ne (Or.inr (hw _ (List.mem_of_getElem? (i := 17) rfl))) (Or.inr (hw _ (List.mem_of_getElem? (i := 28) rfl))) (by decide) (t := .int) (t' := (.array .double)) (by decide) (by decide)))
  have F_before_a_5 := F_before_a_3.other W5 (Or.inr (slot_ne (Or.inr (hw _ (List.mem_of_getElem? (i := 30) rfl))) (Or.inr (hw _ (List.mem_of_getElem? (i := 28) rfl))) (by decide) (t := (.array .double)) (t' := (.array .double)) (by decide) (by decide)))
  have E_q_5 := E_q_3.wr W5
  have V_q_5 := V_q_3.other W5 (Ne.symm ne_a_q)
  have Vc3_5 := Vc3.other W5 (Ne.symm ne_a_b3)
  have Ec3_5 := Ec3.wr W5
  have K5 : Keep h0 h5 [a] := K3.wr W5 (Or.inl (List.mem_of_getElem? (i := 0) rfl))
  show Go _ _ _ _ _ _ _ T5 (mkF m 48 #[.val (.ref a), .val (.int K), .val (.ref q), .unset] [])
  refine Go.step (fun _ k => XS.aloadN X5.here hx rfl (hb hby d2_48) rfl rfl k) ?_
  show Go _ _ _ _ _ _ _ T5 (mkF m 49 #[.val (.ref a), .val (.int K), .val (.ref q), .unset] [(.ref a)])
  refine Go.step (fun _ k => XS.aloadN X5.here hx rfl (hb hby d2_49) rfl rfl k) ?_
  show Go _ _ _ _ _ _ _ T5 (mkF m 50 #[.val (.ref a), .val (.int K), .val (.ref q), .unset] [(.ref q), (.ref a)])
  refine Go.alen X5 hx hZ e5 V_q_5 (hb hby d2_50) ?_
  show Go _ _ _ _ _ _ _ T5 (mkF m 51 #[.val (.ref a), .val (.int K), .val (.ref q), .unset] [(.int (3 : Int32)), (.ref a)])
  refine Go.step (fun _ k => XS.iconst X5.here hx rfl (hb hby d2_51) k) ?_
  show Go _ _ _ _ _ _ _ T5 (mkF m 52 #[.val (.ref a), .val (.int K), .val (.ref q), .unset] [(.int (1 : Int32)), (.int (3 : Int32)), (.ref a)])
  refine Go.step (fun _ k => XS.iadd X5.here hx rfl (hb hby d2_52) rfl k) ?_
  show Go _ _ _ _ _ _ _ T5 (mkF m 53 #[.val (.ref a), .val (.int K), .val (.ref q), .unset] [(.int (4 : Int32)), (.ref a)])
  obtain ⟨T6, h6, k6, X6, e6, E6, A6, st6⟩ := newP X5 hx hZ (hw _ (List.mem_of_getElem? (i := 2) rfl)) e5 (g := (mkF m 53 #[.val (.ref a), .val (.int K), .val (.ref q), .unset] [(.int (4 : Int32)), (.ref a)])) rfl (hb hby d2_53) rfl (by decide) (cap := 4) (by decide) (by decide) (by decide) (by decide)
  obtain ⟨b6, g6⟩ : ∃ z, z = h5.size := ⟨_, rfl⟩
  rw [← g6] at A6 st6
  refine Go.step st6 ?_
  have K6 : Keep h0 h6 [a] := K5.ext E6
  have sz_b6 : h0.size ≤ b6 := Nat.le_trans (K5 : Keep h0 h5 [a]).1 (Nat.le_of_eq g6.symm)
  have ge_b6 : n0 ≤ b6 := Nat.le_trans Z0 sz_b6
  have ne_a_b6 : a ≠ b6 := Nat.ne_of_lt (Nat.lt_of_lt_of_le E_a_5.lt (Nat.le_of_eq g6.symm))
  have ne_q_b6 : q ≠ b6 := Nat.ne_of_lt (Nat.lt_of_lt_of_le E_q_5.lt (Nat.le_of_eq g6.symm))
  have ne_b3_b6 : b3 ≠ b6 := Nat.ne_of_lt (Nat.lt_of_lt_of_le Vc3_5.lt (Nat.le_of_eq g6.symm))
  have E_a_6 := E_a_5.ext E6
  have F_keyGroups_a_6 := F_keyGroups_a_5.ext E6
  have F_shares_a_6 := F_shares_a_5.ext E6
  have F_before_a_6 := F_before_a_5.ext E6
  have E_q_6 := E_q_5.ext E6
  have V_q_6 := V_q_5.ext E6
  have Vc3_6 := Vc3_5.ext E6
  have Ec3_6 := Ec3_5.ext E6
  have V_b6 : Dv Z h6 b6 (4 : Int32) (fun _ => (0 : UInt64)) := Fv.new A6 (by decide)
  show Go _ _ _ _ _ _ _ T6 (mkF m 55 #[.val (.ref a), .val (.int K), .val (.ref q), .unset] [(.ref b6), (.ref a)])
  obtain ⟨T7, h7, X7, e7, W7, st7⟩ := putF X6 hx hZ hown (host := "") (Or.inl (hw _ (List.mem_of_getElem? (i := 29) rfl))) Via.refl e6 F_before_a_6 E_a_6 (Or.inr ⟨(hw _ (List.mem_of_getElem? (i := 30) rfl)), rfl, hnm⟩) (hw _ (List.mem_of_getElem? (i := 8) rfl)) (ty := (.array .double)) (by decide) rfl rfl (g := (mkF m 55 #[.val (.ref a), .val (.int K), .val (.ref q), .unset] [(.ref b6), (.ref a)])) rfl rfl (hb hby d2_55)
  refine Go.step st7 ?_
  have N7 := Fr.snoc X7 N5 ge_a
  have F_before_a_7 := F_before_a_6.same W7
  have E_a_7 := E_a_6.wr W7
  have F_keyGroups_a_7 := F_keyGroups_a_6.other W7 (Or.inr (slot_ne (Or.inr (hw _ (List.mem_of_getElem? (i := 17) rfl))) (Or.inr (hw _ (List.mem_of_getElem? (i := 30) rfl))) (by decide) (t := .int) (t' := (.array .double)) (by decide) (by decide)))
  have F_shares_a_7 := F_shares_a_6.other W7 (Or.inr (slot_ne (Or.inr (hw _ (List.mem_of_getElem? (i := 28) rfl))) (Or.inr (hw _ (List.mem_of_getElem? (i := 30) rfl))) (by decide) (t := (.array .double)) (t' := (.array .double)) (by decide) (by decide)))
  have E_q_7 := E_q_6.wr W7
  have V_q_7 := V_q_6.other W7 (Ne.symm ne_a_q)
  have Vc3_7 := Vc3_6.other W7 (Ne.symm ne_a_b3)
  have Ec3_7 := Ec3_6.wr W7
  have V_b6_7 := V_b6.other W7 (Ne.symm ne_a_b6)
  have K7 : Keep h0 h7 [a] := K6.wr W7 (Or.inl (List.mem_of_getElem? (i := 0) rfl))
  show Go _ _ _ _ _ _ _ T7 (mkF m 58 #[.val (.ref a), .val (.int K), .val (.ref q), .unset] [])
  refine Go.step (fun _ k => XS.iconst X7.here hx rfl (hb hby d2_58) k) ?_
  show Go _ _ _ _ _ _ _ T7 (mkF m 59 #[.val (.ref a), .val (.int K), .val (.ref q), .unset] [(.int (0 : Int32))])
  refine Go.step (fun _ k => XS.istoreN X7.here hx rfl (hb hby d2_59) rfl (l' := #[.val (.ref a), .val (.int K), .val (.ref q), .val (.int (0 : Int32))]) rfl k) ?_
  show Go _ _ _ _ _ _ _ T7 (mkF m 60 #[.val (.ref a), .val (.int K), .val (.ref q), .val (.int (0 : Int32))] [])
  refine Go.step (fun _ k => XS.iloadN X7.here hx rfl (hb hby d2_60) rfl k) ?_
  show Go _ _ _ _ _ _ _ T7 (mkF m 61 #[.val (.ref a), .val (.int K), .val (.ref q), .val (.int (0 : Int32))] [(.int (0 : Int32))])
  refine Go.step (fun _ k => XS.aloadN X7.here hx rfl (hb hby d2_61) rfl rfl k) ?_
  show Go _ _ _ _ _ _ _ T7 (mkF m 62 #[.val (.ref a), .val (.int K), .val (.ref q), .val (.int (0 : Int32))] [(.ref q), (.int (0 : Int32))])
  refine Go.alen X7 hx hZ e7 V_q_7 (hb hby d2_62) ?_
  show Go _ _ _ _ _ _ _ T7 (mkF m 63 #[.val (.ref a), .val (.int K), .val (.ref q), .val (.int (0 : Int32))] [(.int (3 : Int32)), (.int (0 : Int32))])
  refine Go.step (fun _ k => XS.icmpNo X7.here hx rfl (hb hby d2_63) rfl (tlt (by decide : (0 : Int32) < (3 : Int32))).2.1 k) ?_
  show Go _ _ _ _ _ _ _ T7 (mkF m 66 #[.val (.ref a), .val (.int K), .val (.ref q), .val (.int (0 : Int32))] [])
  refine Go.step (fun _ k => XS.aloadN X7.here hx rfl (hb hby d2_66) rfl rfl k) ?_
  show Go _ _ _ _ _ _ _ T7 (mkF m 67 #[.val (.ref a), .val (.int K), .val (.ref q), .val (.int (0 : Int32))] [(.ref q)])
  refine Go.step (fun _ k => XS.iloadN X7.here hx rfl (hb hby d2_67) rfl k) ?_
  show Go _ _ _ _ _ _ _ T7 (mkF m 68 #[.val (.ref a), .val (.int K), .val (.ref q), .val (.int (0 : Int32))] [(.int (0 : Int32)), (.ref q)])
  refine Go.daload X7 hx hZ e7 V_q_7 (j := (0 : Int32)) (v := (g 0)) (by decide) rfl (hb hby d2_68) ?_
  show Go _ _ _ _ _ _ _ T7 (mkF m 69 #[.val (.ref a), .val (.int K), .val (.ref q), .val (.int (0 : Int32))] [(.double (g 0))])
  refine Go.callS X7 hx hZ (by rw [hml]; rfl) (y := (⟨"java/lang/Double", "isFinite", "(D)Z"⟩ : MethodName)) (argsL := [(.double (g 0))]) (rest := []) hown (hw _ (List.mem_of_getElem? (i := 31) rfl)) (hw _ (List.mem_of_getElem? (i := 32) rfl)) (hw _ (List.mem_of_getElem? (i := 33) rfl)) (hw _ (List.mem_of_getElem? (i := 34) rfl)) (by decide) (rm4 l Z a0 hw (g 0) h7 n0 (Nat.le_trans Z0 (K7 : Keep h0 h7 [a]).1) (hf 0 (by decide))) e7 (hb hby d2_69) (lenOf pd_1 rfl) rfl rfl (W := 0) (Nat.le_of_eq rfl) (by decide) (by decide) (by decide) (by decide) ?_
  intro v8 T8 L8 X8 Q8
  obtain ⟨rfl, N8q, hh8⟩ := Q8
  have N8 := Fr.app N7 N8q
  show Go _ _ _ _ _ _ _ T8 (mkF m 72 #[.val (.ref a), .val (.int K), .val (.ref q), .val (.int (0 : Int32))] [(.int (1 : Int32))])
  refine Go.step (fun _ k => XS.ifNo X8.here hx rfl (hb hby d2_72) rfl ((if0 _ _).trans (feq (by decide : ¬ ((1 : Int32) = (0 : Int32)))).1) k) ?_
  show Go _ _ _ _ _ _ _ T8 (mkF m 75 #[.val (.ref a), .val (.int K), .val (.ref q), .val (.int (0 : Int32))] [])
  refine Go.step (fun _ k => XS.aloadN X8.here hx rfl (hb hby d2_75) rfl rfl k) ?_
  show Go _ _ _ _ _ _ _ T8 (mkF m 76 #[.val (.ref a), .val (.int K), .val (.ref q), .val (.int (0 : Int32))] [(.ref q)])
  refine Go.step (fun _ k => XS.iloadN X8.here hx rfl (hb hby d2_76) rfl k) ?_
  show Go _ _ _ _ _ _ _ T8 (mkF m 77 #[.val (.ref a), .val (.int K), .val (.ref q), .val (.int (0 : Int32))] [(.int (0 : Int32)), (.ref q)])
  refine Go.daload X8 hx hZ hh8 V_q_7 (j := (0 : Int32)) (v := (g 0)) (by decide) rfl (hb hby d2_77) ?_
  show Go _ _ _ _ _ _ _ T8 (mkF m 78 #[.val (.ref a), .val (.int K), .val (.ref q), .val (.int (0 : Int32))] [(.double (g 0))])
  refine Go.step (fun _ k => XS.dconst0 X8.here hx rfl (hb hby d2_78) rfl k) ?_
  show Go _ _ _ _ _ _ _ T8 (mkF m 79 #[.val (.ref a), .val (.int K), .val (.ref q), .val (.int (0 : Int32))] [(.double (0 : UInt64)), (.double (g 0))])
  refine Go.step (fun _ k => XS.dcmpS X8.here hx rfl (hb hby d2_79) rfl rfl k) ?_
  show Go _ _ _ _ _ _ _ T8 (mkF m 80 #[.val (.ref a), .val (.int K), .val (.ref q), .val (.int (0 : Int32))] [(.int (cmpValue (FP.dcmp (g 0) (0 : UInt64)) .g))])
  refine Go.step (fun _ k => XS.ifYes X8.here hx rfl (pc0 := 80) (pc' := 99) rfl (hb hby d2_80) rfl (lt_n (hp 0 (by decide))) (by decide) (by decide) k) ?_
  show Go _ _ _ _ _ _ _ T8 (mkF m 99 #[.val (.ref a), .val (.int K), .val (.ref q), .val (.int (0 : Int32))] [])
  refine Go.step (fun _ k => XS.aloadN X8.here hx rfl (hb hby d2_99) rfl rfl k) ?_
  show Go _ _ _ _ _ _ _ T8 (mkF m 100 #[.val (.ref a), .val (.int K), .val (.ref q), .val (.int (0 : Int32))] [(.ref a)])
  obtain ⟨T9, X9, e9, st9⟩ := getF X8 hx hZ hown (host := "") (Or.inl (hw _ (List.mem_of_getElem? (i := 29) rfl))) Via.refl hh8 F_before_a_7 (g := (mkF m 100 #[.val (.ref a), .val (.int K), .val (.ref q), .val (.int (0 : Int32))] [(.ref a)])) rfl rfl (hb hby d2_100)
  refine Go.step st9 ?_
  show Go _ _ _ _ _ _ _ T9 (mkF m 103 #[.val (.ref a), .val (.int K), .val (.ref q), .val (.int (0 : Int32))] [(.ref b6)])
  refine Go.step (fun _ k => XS.iloadN X9.here hx rfl (hb hby d2_103) rfl k) ?_
  show Go _ _ _ _ _ _ _ T9 (mkF m 104 #[.val (.ref a), .val (.int K), .val (.ref q), .val (.int (0 : Int32))] [(.int (0 : Int32)), (.ref b6)])
  refine Go.step (fun _ k => XS.iconst X9.here hx rfl (hb hby d2_104) k) ?_
  show Go _ _ _ _ _ _ _ T9 (mkF m 105 #[.val (.ref a), .val (.int K), .val (.ref q), .val (.int (0 : Int32))] [(.int (1 : Int32)), (.int (0 : Int32)), (.ref b6)])
  refine Go.step (fun _ k => XS.iadd X9.here hx rfl (hb hby d2_105) rfl k) ?_
  show Go _ _ _ _ _ _ _ T9 (mkF m 106 #[.val (.ref a), .val (.int K), .val (.ref q), .val (.int (0 : Int32))] [(.int (1 : Int32)), (.ref b6)])
  refine Go.step (fun _ k => XS.aloadN X9.here hx rfl (hb hby d2_106) rfl rfl k) ?_
  show Go _ _ _ _ _ _ _ T9 (mkF m 107 #[.val (.ref a), .val (.int K), .val (.ref q), .val (.int (0 : Int32))] [(.ref a), (.int (1 : Int32)), (.ref b6)])
  obtain ⟨T10, X10, e10, st10⟩ := getF X9 hx hZ hown (host := "") (Or.inl (hw _ (List.mem_of_getElem? (i := 29) rfl))) Via.refl e9 F_before_a_7 (g := (mkF m 107 #[.val (.ref a), .val (.int K), .val (.ref q), .val (.int (0 : Int32))] [(.ref a), (.int (1 : Int32)), (.ref b6)])) rfl rfl (hb hby d2_107)
  refine Go.step st10 ?_
  show Go _ _ _ _ _ _ _ T10 (mkF m 110 #[.val (.ref a), .val (.int K), .val (.ref q), .val (.int (0 : Int32))] [(.ref b6), (.int (1 : Int32)), (.ref b6)])
  refine Go.step (fun _ k => XS.iloadN X10.here hx rfl (hb hby d2_110) rfl k) ?_
  show Go _ _ _ _ _ _ _ T10 (mkF m 111 #[.val (.ref a), .val (.int K), .val (.ref q), .val (.int (0 : Int32))] [(.int (0 : Int32)), (.ref b6), (.int (1 : Int32)), (.ref b6)])
  refine Go.daload X10 hx hZ e10 V_b6_7 (j := (0 : Int32)) (v := (0 : UInt64)) (by decide) rfl (hb hby d2_111) ?_
  show Go _ _ _ _ _ _ _ T10 (mkF m 112 #[.val (.ref a), .val (.int K), .val (.ref q), .val (.int (0 : Int32))] [(.double (0 : UInt64)), (.int (1 : Int32)), (.ref b6)])
  refine Go.step (fun _ k => XS.aloadN X10.here hx rfl (hb hby d2_112) rfl rfl k) ?_
  show Go _ _ _ _ _ _ _ T10 (mkF m 113 #[.val (.ref a), .val (.int K), .val (.ref q), .val (.int (0 : Int32))] [(.ref q), (.double (0 : UInt64)), (.int (1 : Int32)), (.ref b6)])
  refine Go.step (fun _ k => XS.iloadN X10.here hx rfl (hb hby d2_113) rfl k) ?_
  show Go _ _ _ _ _ _ _ T10 (mkF m 114 #[.val (.ref a), .val (.int K), .val (.ref q), .val (.int (0 : Int32))] [(.int (0 : Int32)), (.ref q), (.double (0 : UInt64)), (.int (1 : Int32)), (.ref b6)])
  refine Go.daload X10 hx hZ e10 V_q_7 (j := (0 : Int32)) (v := (g 0)) (by decide) rfl (hb hby d2_114) ?_
  show Go _ _ _ _ _ _ _ T10 (mkF m 115 #[.val (.ref a), .val (.int K), .val (.ref q), .val (.int (0 : Int32))] [(.double (g 0)), (.double (0 : UInt64)), (.int (1 : Int32)), (.ref b6)])
  refine Go.step (fun _ k => XS.daddS X10.here hx rfl (hb hby d2_115) rfl (Jvm.Free.Fl.dadd_out (by first | decide +kernel | (unfold Jvm.Free.Fl.Fin64; decide +kernel) | (unfold Jvm.Free.Fl.Nz64; decide +kernel) | (unfold Jvm.Free.Fl.NoNaN64; decide +kernel) : Jvm.Free.Fl.NoNaN64 0) (hf 0 (by decide))) rfl k) ?_
  show Go _ _ _ _ _ _ _ T10 (mkF m 116 #[.val (.ref a), .val (.int K), .val (.ref q), .val (.int (0 : Int32))] [(.double (FP.dadd (0 : UInt64) (g 0))), (.int (1 : Int32)), (.ref b6)])
  refine Go.dastore X10 hx hZ e10 V_b6_7 (j := (1 : Int32)) (x := (FP.dadd (0 : UInt64) (g 0))) (by decide) (hb hby d2_116) ?_
  intro T11 h11 X11 e11 W11 Vn11
  have V_b6_11 : Dv Z h11 b6 (4 : Int32) (updN (fun _ => (0 : UInt64)) 1 (FP.dadd (0 : UInt64) (g 0))) := Vn11
  have N11 := Fr.snoc X11 N8 ge_b6
  have E_a_11 := E_a_7.wr W11
  have F_keyGroups_a_11 := F_keyGroups_a_7.other W11 (Or.inl ne_a_b6)
  have F_shares_a_11 := F_shares_a_7.other W11 (Or.inl ne_a_b6)
  have F_before_a_11 := F_before_a_7.other W11 (Or.inl ne_a_b6)
  have E_q_11 := E_q_7.wr W11
  have V_q_11 := V_q_7.other W11 ne_q_b6
  have Vc3_11 := Vc3_7.other W11 ne_b3_b6
  have Ec3_11 := Ec3_7.wr W11
  have K11 : Keep h0 h11 [a] := K7.wr W11 (Or.inr sz_b6)
  show Go _ _ _ _ _ _ _ T11 (mkF m 117 #[.val (.ref a), .val (.int K), .val (.ref q), .val (.int (0 : Int32))] [])
  refine Go.step (fun _ k => XS.iinc X11.here hx rfl (hb hby d2_117) rfl (l' := #[.val (.ref a), .val (.int K), .val (.ref q), .val (.int (1 : Int32))]) rfl k) ?_
  show Go _ _ _ _ _ _ _ T11 (mkF m 120 #[.val (.ref a), .val (.int K), .val (.ref q), .val (.int (1 : Int32))] [])
  refine Go.step (fun _ k => XS.goto X11.here hx rfl (pc0 := 120) (pc' := 60) rfl (hb hby d2_120) (by decide) (by decide) k) ?_
  show Go _ _ _ _ _ _ _ T11 (mkF m 60 #[.val (.ref a), .val (.int K), .val (.ref q), .val (.int (1 : Int32))] [])
  refine Go.step (fun _ k => XS.iloadN X11.here hx rfl (hb hby d2_60) rfl k) ?_
  show Go _ _ _ _ _ _ _ T11 (mkF m 61 #[.val (.ref a), .val (.int K), .val (.ref q), .val (.int (1 : Int32))] [(.int (1 : Int32))])
  refine Go.step (fun _ k => XS.aloadN X11.here hx rfl (hb hby d2_61) rfl rfl k) ?_
  show Go _ _ _ _ _ _ _ T11 (mkF m 62 #[.val (.ref a), .val (.int K), .val (.ref q), .val (.int (1 : Int32))] [(.ref q), (.int (1 : Int32))])
  refine Go.alen X11 hx hZ e11 V_q_11 (hb hby d2_62) ?_
  show Go _ _ _ _ _ _ _ T11 (mkF m 63 #[.val (.ref a), .val (.int K), .val (.ref q), .val (.int (1 : Int32))] [(.int (3 : Int32)), (.int (1 : Int32))])
  refine Go.step (fun _ k => XS.icmpNo X11.here hx rfl (hb hby d2_63) rfl (tlt (by decide : (1 : Int32) < (3 : Int32))).2.1 k) ?_
  show Go _ _ _ _ _ _ _ T11 (mkF m 66 #[.val (.ref a), .val (.int K), .val (.ref q), .val (.int (1 : Int32))] [])
  refine Go.step (fun _ k => XS.aloadN X11.here hx rfl (hb hby d2_66) rfl rfl k) ?_
  show Go _ _ _ _ _ _ _ T11 (mkF m 67 #[.val (.ref a), .val (.int K), .val (.ref q), .val (.int (1 : Int32))] [(.ref q)])
  refine Go.step (fun _ k => XS.iloadN X11.here hx rfl (hb hby d2_67) rfl k) ?_
  show Go _ _ _ _ _ _ _ T11 (mkF m 68 #[.val (.ref a), .val (.int K), .val (.ref q), .val (.int (1 : Int32))] [(.int (1 : Int32)), (.ref q)])
  refine Go.daload X11 hx hZ e11 V_q_11 (j := (1 : Int32)) (v := (g 1)) (by decide) rfl (hb hby d2_68) ?_
  show Go _ _ _ _ _ _ _ T11 (mkF m 69 #[.val (.ref a), .val (.int K), .val (.ref q), .val (.int (1 : Int32))] [(.double (g 1))])
  refine Go.callS X11 hx hZ (by rw [hml]; rfl) (y := (⟨"java/lang/Double", "isFinite", "(D)Z"⟩ : MethodName)) (argsL := [(.double (g 1))]) (rest := []) hown (hw _ (List.mem_of_getElem? (i := 31) rfl)) (hw _ (List.mem_of_getElem? (i := 32) rfl)) (hw _ (List.mem_of_getElem? (i := 33) rfl)) (hw _ (List.mem_of_getElem? (i := 34) rfl)) (by decide) (rm4 l Z a0 hw (g 1) h11 n0 (Nat.le_trans Z0 (K11 : Keep h0 h11 [a]).1) (hf 1 (by decide))) e11 (hb hby d2_69) (lenOf pd_1 rfl) rfl rfl (W := 0) (Nat.le_of_eq rfl) (by decide) (by decide) (by decide) (by decide) ?_
  intro v12 T12 L12 X12 Q12
  obtain ⟨rfl, N12q, hh12⟩ := Q12
  have N12 := Fr.app N11 N12q
  show Go _ _ _ _ _ _ _ T12 (mkF m 72 #[.val (.ref a), .val (.int K), .val (.ref q), .val (.int (1 : Int32))] [(.int (1 : Int32))])
  refine Go.step (fun _ k => XS.ifNo X12.here hx rfl (hb hby d2_72) rfl ((if0 _ _).trans (feq (by decide : ¬ ((1 : Int32) = (0 : Int32)))).1) k) ?_
  show Go _ _ _ _ _ _ _ T12 (mkF m 75 #[.val (.ref a), .val (.int K), .val (.ref q), .val (.int (1 : Int32))] [])
  refine Go.step (fun _ k => XS.aloadN X12.here hx rfl (hb hby d2_75) rfl rfl k) ?_
  show Go _ _ _ _ _ _ _ T12 (mkF m 76 #[.val (.ref a), .val (.int K), .val (.ref q), .val (.int (1 : Int32))] [(.ref q)])
  refine Go.step (fun _ k => XS.iloadN X12.here hx rfl (hb hby d2_76) rfl k) ?_
  show Go _ _ _ _ _ _ _ T12 (mkF m 77 #[.val (.ref a), .val (.int K), .val (.ref q), .val (.int (1 : Int32))] [(.int (1 : Int32)), (.ref q)])
  refine Go.daload X12 hx hZ hh12 V_q_11 (j := (1 : Int32)) (v := (g 1)) (by decide) rfl (hb hby d2_77) ?_
  show Go _ _ _ _ _ _ _ T12 (mkF m 78 #[.val (.ref a), .val (.int K), .val (.ref q), .val (.int (1 : Int32))] [(.double (g 1))])
  refine Go.step (fun _ k => XS.dconst0 X12.here hx rfl (hb hby d2_78) rfl k) ?_
  show Go _ _ _ _ _ _ _ T12 (mkF m 79 #[.val (.ref a), .val (.int K), .val (.ref q), .val (.int (1 : Int32))] [(.double (0 : UInt64)), (.double (g 1))])
  refine Go.step (fun _ k => XS.dcmpS X12.here hx rfl (hb hby d2_79) rfl rfl k) ?_
  show Go _ _ _ _ _ _ _ T12 (mkF m 80 #[.val (.ref a), .val (.int K), .val (.ref q), .val (.int (1 : Int32))] [(.int (cmpValue (FP.dcmp (g 1) (0 : UInt64)) .g))])
  refine Go.step (fun _ k => XS.ifYes X12.here hx rfl (pc0 := 80) (pc' := 99) rfl (hb hby d2_80) rfl (lt_n (hp 1 (by decide))) (by decide) (by decide) k) ?_
  show Go _ _ _ _ _ _ _ T12 (mkF m 99 #[.val (.ref a), .val (.int K), .val (.ref q), .val (.int (1 : Int32))] [])
  refine Go.step (fun _ k => XS.aloadN X12.here hx rfl (hb hby d2_99) rfl rfl k) ?_
  show Go _ _ _ _ _ _ _ T12 (mkF m 100 #[.val (.ref a), .val (.int K), .val (.ref q), .val (.int (1 : Int32))] [(.ref a)])
  obtain ⟨T13, X13, e13, st13⟩ := getF X12 hx hZ hown (host := "") (Or.inl (hw _ (List.mem_of_getElem? (i := 29) rfl))) Via.refl hh12 F_before_a_11 (g := (mkF m 100 #[.val (.ref a), .val (.int K), .val (.ref q), .val (.int (1 : Int32))] [(.ref a)])) rfl rfl (hb hby d2_100)
  refine Go.step st13 ?_
  show Go _ _ _ _ _ _ _ T13 (mkF m 103 #[.val (.ref a), .val (.int K), .val (.ref q), .val (.int (1 : Int32))] [(.ref b6)])
  refine Go.step (fun _ k => XS.iloadN X13.here hx rfl (hb hby d2_103) rfl k) ?_
  show Go _ _ _ _ _ _ _ T13 (mkF m 104 #[.val (.ref a), .val (.int K), .val (.ref q), .val (.int (1 : Int32))] [(.int (1 : Int32)), (.ref b6)])
  refine Go.step (fun _ k => XS.iconst X13.here hx rfl (hb hby d2_104) k) ?_
  show Go _ _ _ _ _ _ _ T13 (mkF m 105 #[.val (.ref a), .val (.int K), .val (.ref q), .val (.int (1 : Int32))] [(.int (1 : Int32)), (.int (1 : Int32)), (.ref b6)])
  refine Go.step (fun _ k => XS.iadd X13.here hx rfl (hb hby d2_105) rfl k) ?_
  show Go _ _ _ _ _ _ _ T13 (mkF m 106 #[.val (.ref a), .val (.int K), .val (.ref q), .val (.int (1 : Int32))] [(.int (2 : Int32)), (.ref b6)])
  refine Go.step (fun _ k => XS.aloadN X13.here hx rfl (hb hby d2_106) rfl rfl k) ?_
  show Go _ _ _ _ _ _ _ T13 (mkF m 107 #[.val (.ref a), .val (.int K), .val (.ref q), .val (.int (1 : Int32))] [(.ref a), (.int (2 : Int32)), (.ref b6)])
  obtain ⟨T14, X14, e14, st14⟩ := getF X13 hx hZ hown (host := "") (Or.inl (hw _ (List.mem_of_getElem? (i := 29) rfl))) Via.refl e13 F_before_a_11 (g := (mkF m 107 #[.val (.ref a), .val (.int K), .val (.ref q), .val (.int (1 : Int32))] [(.ref a), (.int (2 : Int32)), (.ref b6)])) rfl rfl (hb hby d2_107)
  refine Go.step st14 ?_
  show Go _ _ _ _ _ _ _ T14 (mkF m 110 #[.val (.ref a), .val (.int K), .val (.ref q), .val (.int (1 : Int32))] [(.ref b6), (.int (2 : Int32)), (.ref b6)])
  refine Go.step (fun _ k => XS.iloadN X14.here hx rfl (hb hby d2_110) rfl k) ?_
  show Go _ _ _ _ _ _ _ T14 (mkF m 111 #[.val (.ref a), .val (.int K), .val (.ref q), .val (.int (1 : Int32))] [(.int (1 : Int32)), (.ref b6), (.int (2 : Int32)), (.ref b6)])
  refine Go.daload X14 hx hZ e14 V_b6_11 (j := (1 : Int32)) (v := (FP.dadd (0 : UInt64) (g 0))) (by decide) rfl (hb hby d2_111) ?_
  show Go _ _ _ _ _ _ _ T14 (mkF m 112 #[.val (.ref a), .val (.int K), .val (.ref q), .val (.int (1 : Int32))] [(.double (FP.dadd (0 : UInt64) (g 0))), (.int (2 : Int32)), (.ref b6)])
  refine Go.step (fun _ k => XS.aloadN X14.here hx rfl (hb hby d2_112) rfl rfl k) ?_
  show Go _ _ _ _ _ _ _ T14 (mkF m 113 #[.val (.ref a), .val (.int K), .val (.ref q), .val (.int (1 : Int32))] [(.ref q), (.double (FP.dadd (0 : UInt64) (g 0))), (.int (2 : Int32)), (.ref b6)])
  refine Go.step (fun _ k => XS.iloadN X14.here hx rfl (hb hby d2_113) rfl k) ?_
  show Go _ _ _ _ _ _ _ T14 (mkF m 114 #[.val (.ref a), .val (.int K), .val (.ref q), .val (.int (1 : Int32))] [(.int (1 : Int32)), (.ref q), (.double (FP.dadd (0 : UInt64) (g 0))), (.int (2 : Int32)), (.ref b6)])
  refine Go.daload X14 hx hZ e14 V_q_11 (j := (1 : Int32)) (v := (g 1)) (by decide) rfl (hb hby d2_114) ?_
  show Go _ _ _ _ _ _ _ T14 (mkF m 115 #[.val (.ref a), .val (.int K), .val (.ref q), .val (.int (1 : Int32))] [(.double (g 1)), (.double (FP.dadd (0 : UInt64) (g 0))), (.int (2 : Int32)), (.ref b6)])
  refine Go.step (fun _ k => XS.daddS X14.here hx rfl (hb hby d2_115) rfl (Jvm.Free.Fl.dadd_out (Jvm.Free.Fl.dadd_out (by first | decide +kernel | (unfold Jvm.Free.Fl.Fin64; decide +kernel) | (unfold Jvm.Free.Fl.Nz64; decide +kernel) | (unfold Jvm.Free.Fl.NoNaN64; decide +kernel) : Jvm.Free.Fl.NoNaN64 0) (hf 0 (by decide))) (hf 1 (by decide))) rfl k) ?_
  show Go _ _ _ _ _ _ _ T14 (mkF m 116 #[.val (.ref a), .val (.int K), .val (.ref q), .val (.int (1 : Int32))] [(.double (FP.dadd (FP.dadd (0 : UInt64) (g 0)) (g 1))), (.int (2 : Int32)), (.ref b6)])
  refine Go.dastore X14 hx hZ e14 V_b6_11 (j := (2 : Int32)) (x := (FP.dadd (FP.dadd (0 : UInt64) (g 0)) (g 1))) (by decide) (hb hby d2_116) ?_
  intro T15 h15 X15 e15 W15 Vn15
  have V_b6_15 : Dv Z h15 b6 (4 : Int32) (updN (updN (fun _ => (0 : UInt64)) 1 (FP.dadd (0 : UInt64) (g 0))) 2 (FP.dadd (FP.dadd (0 : UInt64) (g 0)) (g 1))) := Vn15
  have N15 := Fr.snoc X15 N12 ge_b6
  have E_a_15 := E_a_11.wr W15
  have F_keyGroups_a_15 := F_keyGroups_a_11.other W15 (Or.inl ne_a_b6)
  have F_shares_a_15 := F_shares_a_11.other W15 (Or.inl ne_a_b6)
  have F_before_a_15 := F_before_a_11.other W15 (Or.inl ne_a_b6)
  have E_q_15 := E_q_11.wr W15
  have V_q_15 := V_q_11.other W15 ne_q_b6
  have Vc3_15 := Vc3_11.other W15 ne_b3_b6
  have Ec3_15 := Ec3_11.wr W15
  have K15 : Keep h0 h15 [a] := K11.wr W15 (Or.inr sz_b6)
  show Go _ _ _ _ _ _ _ T15 (mkF m 117 #[.val (.ref a), .val (.int K), .val (.ref q), .val (.int (1 : Int32))] [])
  refine Go.step (fun _ k => XS.iinc X15.here hx rfl (hb hby d2_117) rfl (l' := #[.val (.ref a), .val (.int K), .val (.ref q), .val (.int (2 : Int32))]) rfl k) ?_
  show Go _ _ _ _ _ _ _ T15 (mkF m 120 #[.val (.ref a), .val (.int K), .val (.ref q), .val (.int (2 : Int32))] [])
  refine Go.step (fun _ k => XS.goto X15.here hx rfl (pc0 := 120) (pc' := 60) rfl (hb hby d2_120) (by decide) (by decide) k) ?_
  show Go _ _ _ _ _ _ _ T15 (mkF m 60 #[.val (.ref a), .val (.int K), .val (.ref q), .val (.int (2 : Int32))] [])
  refine Go.step (fun _ k => XS.iloadN X15.here hx rfl (hb hby d2_60) rfl k) ?_
  show Go _ _ _ _ _ _ _ T15 (mkF m 61 #[.val (.ref a), .val (.int K), .val (.ref q), .val (.int (2 : Int32))] [(.int (2 : Int32))])
  refine Go.step (fun _ k => XS.aloadN X15.here hx rfl (hb hby d2_61) rfl rfl k) ?_
  show Go _ _ _ _ _ _ _ T15 (mkF m 62 #[.val (.ref a), .val (.int K), .val (.ref q), .val (.int (2 : Int32))] [(.ref q), (.int (2 : Int32))])
  refine Go.alen X15 hx hZ e15 V_q_15 (hb hby d2_62) ?_
  show Go _ _ _ _ _ _ _ T15 (mkF m 63 #[.val (.ref a), .val (.int K), .val (.ref q), .val (.int (2 : Int32))] [(.int (3 : Int32)), (.int (2 : Int32))])
  refine Go.step (fun _ k => XS.icmpNo X15.here hx rfl (hb hby d2_63) rfl (tlt (by decide : (2 : Int32) < (3 : Int32))).2.1 k) ?_
  show Go _ _ _ _ _ _ _ T15 (mkF m 66 #[.val (.ref a), .val (.int K), .val (.ref q), .val (.int (2 : Int32))] [])
  refine Go.step (fun _ k => XS.aloadN X15.here hx rfl (hb hby d2_66) rfl rfl k) ?_
  show Go _ _ _ _ _ _ _ T15 (mkF m 67 #[.val (.ref a), .val (.int K), .val (.ref q), .val (.int (2 : Int32))] [(.ref q)])
  refine Go.step (fun _ k => XS.iloadN X15.here hx rfl (hb hby d2_67) rfl k) ?_
  show Go _ _ _ _ _ _ _ T15 (mkF m 68 #[.val (.ref a), .val (.int K), .val (.ref q), .val (.int (2 : Int32))] [(.int (2 : Int32)), (.ref q)])
  refine Go.daload X15 hx hZ e15 V_q_15 (j := (2 : Int32)) (v := (g 2)) (by decide) rfl (hb hby d2_68) ?_
  show Go _ _ _ _ _ _ _ T15 (mkF m 69 #[.val (.ref a), .val (.int K), .val (.ref q), .val (.int (2 : Int32))] [(.double (g 2))])
  refine Go.callS X15 hx hZ (by rw [hml]; rfl) (y := (⟨"java/lang/Double", "isFinite", "(D)Z"⟩ : MethodName)) (argsL := [(.double (g 2))]) (rest := []) hown (hw _ (List.mem_of_getElem? (i := 31) rfl)) (hw _ (List.mem_of_getElem? (i := 32) rfl)) (hw _ (List.mem_of_getElem? (i := 33) rfl)) (hw _ (List.mem_of_getElem? (i := 34) rfl)) (by decide) (rm4 l Z a0 hw (g 2) h15 n0 (Nat.le_trans Z0 (K15 : Keep h0 h15 [a]).1) (hf 2 (by decide))) e15 (hb hby d2_69) (lenOf pd_1 rfl) rfl rfl (W := 0) (Nat.le_of_eq rfl) (by decide) (by decide) (by decide) (by decide) ?_
  intro v16 T16 L16 X16 Q16
  obtain ⟨rfl, N16q, hh16⟩ := Q16
  have N16 := Fr.app N15 N16q
  show Go _ _ _ _ _ _ _ T16 (mkF m 72 #[.val (.ref a), .val (.int K), .val (.ref q), .val (.int (2 : Int32))] [(.int (1 : Int32))])
  refine Go.step (fun _ k => XS.ifNo X16.here hx rfl (hb hby d2_72) rfl ((if0 _ _).trans (feq (by decide : ¬ ((1 : Int32) = (0 : Int32)))).1) k) ?_
  show Go _ _ _ _ _ _ _ T16 (mkF m 75 #[.val (.ref a), .val (.int K), .val (.ref q), .val (.int (2 : Int32))] [])
  refine Go.step (fun _ k => XS.aloadN X16.here hx rfl (hb hby d2_75) rfl rfl k) ?_
  show Go _ _ _ _ _ _ _ T16 (mkF m 76 #[.val (.ref a), .val (.int K), .val (.ref q), .val (.int (2 : Int32))] [(.ref q)])
  refine Go.step (fun _ k => XS.iloadN X16.here hx rfl (hb hby d2_76) rfl k) ?_
  show Go _ _ _ _ _ _ _ T16 (mkF m 77 #[.val (.ref a), .val (.int K), .val (.ref q), .val (.int (2 : Int32))] [(.int (2 : Int32)), (.ref q)])
  refine Go.daload X16 hx hZ hh16 V_q_15 (j := (2 : Int32)) (v := (g 2)) (by decide) rfl (hb hby d2_77) ?_
  show Go _ _ _ _ _ _ _ T16 (mkF m 78 #[.val (.ref a), .val (.int K), .val (.ref q), .val (.int (2 : Int32))] [(.double (g 2))])
  refine Go.step (fun _ k => XS.dconst0 X16.here hx rfl (hb hby d2_78) rfl k) ?_
  show Go _ _ _ _ _ _ _ T16 (mkF m 79 #[.val (.ref a), .val (.int K), .val (.ref q), .val (.int (2 : Int32))] [(.double (0 : UInt64)), (.double (g 2))])
  refine Go.step (fun _ k => XS.dcmpS X16.here hx rfl (hb hby d2_79) rfl rfl k) ?_
  show Go _ _ _ _ _ _ _ T16 (mkF m 80 #[.val (.ref a), .val (.int K), .val (.ref q), .val (.int (2 : Int32))] [(.int (cmpValue (FP.dcmp (g 2) (0 : UInt64)) .g))])
  refine Go.step (fun _ k => XS.ifYes X16.here hx rfl (pc0 := 80) (pc' := 99) rfl (hb hby d2_80) rfl (lt_n (hp 2 (by decide))) (by decide) (by decide) k) ?_
  show Go _ _ _ _ _ _ _ T16 (mkF m 99 #[.val (.ref a), .val (.int K), .val (.ref q), .val (.int (2 : Int32))] [])
  refine Go.step (fun _ k => XS.aloadN X16.here hx rfl (hb hby d2_99) rfl rfl k) ?_
  show Go _ _ _ _ _ _ _ T16 (mkF m 100 #[.val (.ref a), .val (.int K), .val (.ref q), .val (.int (2 : Int32))] [(.ref a)])
  obtain ⟨T17, X17, e17, st17⟩ := getF X16 hx hZ hown (host := "") (Or.inl (hw _ (List.mem_of_getElem? (i := 29) rfl))) Via.refl hh16 F_before_a_15 (g := (mkF m 100 #[.val (.ref a), .val (.int K), .val (.ref q), .val (.int (2 : Int32))] [(.ref a)])) rfl rfl (hb hby d2_100)
  refine Go.step st17 ?_
  show Go _ _ _ _ _ _ _ T17 (mkF m 103 #[.val (.ref a), .val (.int K), .val (.ref q), .val (.int (2 : Int32))] [(.ref b6)])
  refine Go.step (fun _ k => XS.iloadN X17.here hx rfl (hb hby d2_103) rfl k) ?_
  show Go _ _ _ _ _ _ _ T17 (mkF m 104 #[.val (.ref a), .val (.int K), .val (.ref q), .val (.int (2 : Int32))] [(.int (2 : Int32)), (.ref b6)])
  refine Go.step (fun _ k => XS.iconst X17.here hx rfl (hb hby d2_104) k) ?_
  show Go _ _ _ _ _ _ _ T17 (mkF m 105 #[.val (.ref a), .val (.int K), .val (.ref q), .val (.int (2 : Int32))] [(.int (1 : Int32)), (.int (2 : Int32)), (.ref b6)])
  refine Go.step (fun _ k => XS.iadd X17.here hx rfl (hb hby d2_105) rfl k) ?_
  show Go _ _ _ _ _ _ _ T17 (mkF m 106 #[.val (.ref a), .val (.int K), .val (.ref q), .val (.int (2 : Int32))] [(.int (3 : Int32)), (.ref b6)])
  refine Go.step (fun _ k => XS.aloadN X17.here hx rfl (hb hby d2_106) rfl rfl k) ?_
  show Go _ _ _ _ _ _ _ T17 (mkF m 107 #[.val (.ref a), .val (.int K), .val (.ref q), .val (.int (2 : Int32))] [(.ref a), (.int (3 : Int32)), (.ref b6)])
  obtain ⟨T18, X18, e18, st18⟩ := getF X17 hx hZ hown (host := "") (Or.inl (hw _ (List.mem_of_getElem? (i := 29) rfl))) Via.refl e17 F_before_a_15 (g := (mkF m 107 #[.val (.ref a), .val (.int K), .val (.ref q), .val (.int (2 : Int32))] [(.ref a), (.int (3 : Int32)), (.ref b6)])) rfl rfl (hb hby d2_107)
  refine Go.step st18 ?_
  show Go _ _ _ _ _ _ _ T18 (mkF m 110 #[.val (.ref a), .val (.int K), .val (.ref q), .val (.int (2 : Int32))] [(.ref b6), (.int (3 : Int32)), (.ref b6)])
  refine Go.step (fun _ k => XS.iloadN X18.here hx rfl (hb hby d2_110) rfl k) ?_
  show Go _ _ _ _ _ _ _ T18 (mkF m 111 #[.val (.ref a), .val (.int K), .val (.ref q), .val (.int (2 : Int32))] [(.int (2 : Int32)), (.ref b6), (.int (3 : Int32)), (.ref b6)])
  refine Go.daload X18 hx hZ e18 V_b6_15 (j := (2 : Int32)) (v := (FP.dadd (FP.dadd (0 : UInt64) (g 0)) (g 1))) (by decide) rfl (hb hby d2_111) ?_
  show Go _ _ _ _ _ _ _ T18 (mkF m 112 #[.val (.ref a), .val (.int K), .val (.ref q), .val (.int (2 : Int32))] [(.double (FP.dadd (FP.dadd (0 : UInt64) (g 0)) (g 1))), (.int (3 : Int32)), (.ref b6)])
  refine Go.step (fun _ k => XS.aloadN X18.here hx rfl (hb hby d2_112) rfl rfl k) ?_
  show Go _ _ _ _ _ _ _ T18 (mkF m 113 #[.val (.ref a), .val (.int K), .val (.ref q), .val (.int (2 : Int32))] [(.ref q), (.double (FP.dadd (FP.dadd (0 : UInt64) (g 0)) (g 1))), (.int (3 : Int32)), (.ref b6)])
  refine Go.step (fun _ k => XS.iloadN X18.here hx rfl (hb hby d2_113) rfl k) ?_
  show Go _ _ _ _ _ _ _ T18 (mkF m 114 #[.val (.ref a), .val (.int K), .val (.ref q), .val (.int (2 : Int32))] [(.int (2 : Int32)), (.ref q), (.double (FP.dadd (FP.dadd (0 : UInt64) (g 0)) (g 1))), (.int (3 : Int32)), (.ref b6)])
  refine Go.daload X18 hx hZ e18 V_q_15 (j := (2 : Int32)) (v := (g 2)) (by decide) rfl (hb hby d2_114) ?_
  show Go _ _ _ _ _ _ _ T18 (mkF m 115 #[.val (.ref a), .val (.int K), .val (.ref q), .val (.int (2 : Int32))] [(.double (g 2)), (.double (FP.dadd (FP.dadd (0 : UInt64) (g 0)) (g 1))), (.int (3 : Int32)), (.ref b6)])
  refine Go.step (fun _ k => XS.daddS X18.here hx rfl (hb hby d2_115) rfl (Jvm.Free.Fl.dadd_out (Jvm.Free.Fl.dadd_out (Jvm.Free.Fl.dadd_out (by first | decide +kernel | (unfold Jvm.Free.Fl.Fin64; decide +kernel) | (unfold Jvm.Free.Fl.Nz64; decide +kernel) | (unfold Jvm.Free.Fl.NoNaN64; decide +kernel) : Jvm.Free.Fl.NoNaN64 0) (hf 0 (by decide))) (hf 1 (by decide))) (hf 2 (by decide))) rfl k) ?_
  show Go _ _ _ _ _ _ _ T18 (mkF m 116 #[.val (.ref a), .val (.int K), .val (.ref q), .val (.int (2 : Int32))] [(.double (FP.dadd (FP.dadd (FP.dadd (0 : UInt64) (g 0)) (g 1)) (g 2))), (.int (3 : Int32)), (.ref b6)])
  refine Go.dastore X18 hx hZ e18 V_b6_15 (j := (3 : Int32)) (x := (FP.dadd (FP.dadd (FP.dadd (0 : UInt64) (g 0)) (g 1)) (g 2))) (by decide) (hb hby d2_116) ?_
  intro T19 h19 X19 e19 W19 Vn19
  have V_b6_19 : Dv Z h19 b6 (4 : Int32) (updN (updN (updN (fun _ => (0 : UInt64)) 1 (FP.dadd (0 : UInt64) (g 0))) 2 (FP.dadd (FP.dadd (0 : UInt64) (g 0)) (g 1))) 3 (FP.dadd (FP.dadd (FP.dadd (0 : UInt64) (g 0)) (g 1)) (g 2))) := Vn19
  have N19 := Fr.snoc X19 N16 ge_b6
  have E_a_19 := E_a_15.wr W19
  have F_keyGroups_a_19 := F_keyGroups_a_15.other W19 (Or.inl ne_a_b6)
  have F_shares_a_19 := F_shares_a_15.other W19 (Or.inl ne_a_b6)
  have F_before_a_19 := F_before_a_15.other W19 (Or.inl ne_a_b6)
  have E_q_19 := E_q_15.wr W19
  have V_q_19 := V_q_15.other W19 ne_q_b6
  have Vc3_19 := Vc3_15.other W19 ne_b3_b6
  have Ec3_19 := Ec3_15.wr W19
  have K19 : Keep h0 h19 [a] := K15.wr W19 (Or.inr sz_b6)
  show Go _ _ _ _ _ _ _ T19 (mkF m 117 #[.val (.ref a), .val (.int K), .val (.ref q), .val (.int (2 : Int32))] [])
  refine Go.step (fun _ k => XS.iinc X19.here hx rfl (hb hby d2_117) rfl (l' := #[.val (.ref a), .val (.int K), .val (.ref q), .val (.int (3 : Int32))]) rfl k) ?_
  show Go _ _ _ _ _ _ _ T19 (mkF m 120 #[.val (.ref a), .val (.int K), .val (.ref q), .val (.int (3 : Int32))] [])
  refine Go.step (fun _ k => XS.goto X19.here hx rfl (pc0 := 120) (pc' := 60) rfl (hb hby d2_120) (by decide) (by decide) k) ?_
  show Go _ _ _ _ _ _ _ T19 (mkF m 60 #[.val (.ref a), .val (.int K), .val (.ref q), .val (.int (3 : Int32))] [])
  refine Go.step (fun _ k => XS.iloadN X19.here hx rfl (hb hby d2_60) rfl k) ?_
  show Go _ _ _ _ _ _ _ T19 (mkF m 61 #[.val (.ref a), .val (.int K), .val (.ref q), .val (.int (3 : Int32))] [(.int (3 : Int32))])
  refine Go.step (fun _ k => XS.aloadN X19.here hx rfl (hb hby d2_61) rfl rfl k) ?_
  show Go _ _ _ _ _ _ _ T19 (mkF m 62 #[.val (.ref a), .val (.int K), .val (.ref q), .val (.int (3 : Int32))] [(.ref q), (.int (3 : Int32))])
  refine Go.alen X19 hx hZ e19 V_q_19 (hb hby d2_62) ?_
  show Go _ _ _ _ _ _ _ T19 (mkF m 63 #[.val (.ref a), .val (.int K), .val (.ref q), .val (.int (3 : Int32))] [(.int (3 : Int32)), (.int (3 : Int32))])
  refine Go.step (fun _ k => XS.icmpYes X19.here hx rfl (pc0 := 63) (pc' := 123) rfl (hb hby d2_63) rfl (flt (by decide : ¬ ((3 : Int32) < (3 : Int32)))).2.1 (by decide) (by decide) k) ?_
  show Go _ _ _ _ _ _ _ T19 (mkF m 123 #[.val (.ref a), .val (.int K), .val (.ref q), .val (.int (3 : Int32))] [])
  refine Go.retV X19 hx hlk hret (hb hby d2_123) (by decide) (by decide) ?_
  try rw [e19]
  exact ⟨rfl, N19, K19, E_a_19, F_keyGroups_a_19, b3, b6, F_shares_a_19, F_before_a_19, Vc3_19, V_b6_19, sz_b3, sz_b6, ne_b3_b6⟩
theorem ef_rm2_3 (m : MethodId) (a : Addr) (K : Int32) (q : Addr) : entryFrame m #[(.ref a), (.int K), (.ref q)] 4 = mkF m 0 #[.val (.ref a), .val (.int K), .val (.ref q), .unset] [] := by first | (simp [entryFrame, mkF, argsToLocals, Value.category]; done) | rfl
theorem rm2_3 (l : Launch) (Z : State) (a0 : Array Value) (hw : ∀ d ∈ tables_1, d.before a0 Z = true) (a q : Addr) (K : Int32) (g : Nat → UInt64) (h0 : Heap) (n0 : Nat) (Z0 : n0 ≤ h0.size) (E_a : Exa Z h0 a "tidewatch/decision/KeyGroupCeiling") (F_keyGroups_a : Fld Z h0 a "tidewatch/decision/KeyGroupCeiling" "keyGroups" "I" (.int (0 : Int32))) (F_shares_a : Fld Z h0 a "tidewatch/decision/KeyGroupCeiling" "shares" "[D" .null) (F_before_a : Fld Z h0 a "tidewatch/decision/KeyGroupCeiling" "before" "[D" .null) (E_q : Exa Z h0 q "[D") (V_q : Dv Z h0 q (3 : Int32) g) (ge_a : n0 ≤ a) (ne_a_q : a ≠ q) (hK : ¬ K < (3 : Int32)) (hf : ∀ i, i < 3 → Jvm.Free.Fl.Fin64 (g i)) (hp : ∀ i, i < 3 → ¬ FP.dcmp (g i) (0 : UInt64) = some .lt) :
    Con l Z (⟨"tidewatch/decision/KeyGroupCeiling", "<init>", "(I[D)V"⟩ : MethodName) prog_33_method_1_code 4 none ({ frames := 2, cells := 2, slots := 7, locals := 40 } : Room) #[(.ref a), (.int K), (.ref q)] h0 (fun r h L => r = none ∧ Fr n0 L ∧ Keep h0 h [a] ∧ Exa Z h a "tidewatch/decision/KeyGroupCeiling" ∧ Fld Z h a "tidewatch/decision/KeyGroupCeiling" "keyGroups" "I" (.int K) ∧ ∃ c d : Addr, Fld Z h a "tidewatch/decision/KeyGroupCeiling" "shares" "[D" (.ref c) ∧ Fld Z h a "tidewatch/decision/KeyGroupCeiling" "before" "[D" (.ref d) ∧ Dv Z h c (3 : Int32) g ∧ Dv Z h d (4 : Int32) (updN (updN (updN (fun _ => (0 : UInt64)) 1 (FP.dadd (0 : UInt64) (g 0))) 2 (FP.dadd (FP.dadd (0 : UInt64) (g 0)) (g 1))) 3 (FP.dadd (FP.dadd (FP.dadd (0 : UInt64) (g 0)) (g 1)) (g 2))) ∧ h0.size ≤ c ∧ h0.size ≤ d ∧ c ≠ d) :=
  con_of (plainFor_of_name pn_2) (fun p_ e_ s_ m_ b_ meth_ c_ T_ X_ hx hZ hby hml hown hnm hret hlk e0 => Go.cast (ef_rm2_3 m_ a K q) (w2_3 a q K g X_ hx hZ hw hby hml hown hnm hret hlk e0 Z0 (Fr.nil n0) E_a F_keyGroups_a F_shares_a F_before_a E_q V_q ge_a ne_a_q hK hf hp))
theorem d6_0 : decode method_3_code 0 = .ok (.iload_n 2, 1) := by decide +kernel
theorem d6_1 : decode method_3_code 1 = .ok (.i2l, 1) := by decide +kernel
theorem d6_2 : decode method_3_code 2 = .ok (.iload_n 1, 1) := by decide +kernel
theorem d6_3 : decode method_3_code 3 = .ok (.i2l, 1) := by decide +kernel
theorem d6_4 : decode method_3_code 4 = .ok (.ladd, 1) := by decide +kernel
theorem d6_5 : decode method_3_code 5 = .ok (.lconst 1, 1) := by decide +kernel
theorem d6_6 : decode method_3_code 6 = .ok (.lsub, 1) := by decide +kernel
theorem d6_7 : decode method_3_code 7 = .ok (.iload_n 1, 1) := by decide +kernel
theorem d6_8 : decode method_3_code 8 = .ok (.i2l, 1) := by decide +kernel
theorem d6_9 : decode method_3_code 9 = .ok (.ldiv, 1) := by decide +kernel
theorem d6_10 : decode method_3_code 10 = .ok (.lstore_n 3, 1) := by decide +kernel
theorem d6_11 : decode method_3_code 11 = .ok (.ldc2_w 30, 3) := by decide +kernel
theorem d6_14 : decode method_3_code 14 = .ok (.iload_n 2, 1) := by decide +kernel
theorem d6_15 : decode method_3_code 15 = .ok (.i2l, 1) := by decide +kernel
theorem d6_16 : decode method_3_code 16 = .ok (.lmul, 1) := by decide +kernel
theorem d6_17 : decode method_3_code 17 = .ok (.iload_n 1, 1) := by decide +kernel
theorem d6_18 : decode method_3_code 18 = .ok (.i2l, 1) := by decide +kernel
theorem d6_19 : decode method_3_code 19 = .ok (.ladd, 1) := by decide +kernel
theorem d6_20 : decode method_3_code 20 = .ok (.lconst 1, 1) := by decide +kernel
theorem d6_21 : decode method_3_code 21 = .ok (.lsub, 1) := by decide +kernel
theorem d6_22 : decode method_3_code 22 = .ok (.iload_n 1, 1) := by decide +kernel
theorem d6_23 : decode method_3_code 23 = .ok (.i2l, 1) := by decide +kernel
theorem d6_24 : decode method_3_code 24 = .ok (.ldiv, 1) := by decide +kernel
theorem d6_25 : decode method_3_code 25 = .ok (.lstore 5, 2) := by decide +kernel
theorem d6_27 : decode method_3_code 27 = .ok (.iload_n 1, 1) := by decide +kernel
theorem d6_28 : decode method_3_code 28 = .ok (.iconst 3, 1) := by decide +kernel
theorem d6_29 : decode method_3_code 29 = .ok (.if_icmp .lt 13, 3) := by decide +kernel
theorem d6_42 : decode method_3_code 42 = .ok (.iload_n 1, 1) := by decide +kernel
theorem d6_43 : decode method_3_code 43 = .ok (.iconst 2, 1) := by decide +kernel
theorem d6_44 : decode method_3_code 44 = .ok (.if_icmp .lt 12, 3) := by decide +kernel
theorem d6_56 : decode method_3_code 56 = .ok (.iconst 0, 1) := by decide +kernel
theorem d6_57 : decode method_3_code 57 = .ok (.ireturn, 1) := by decide +kernel
set_option maxRecDepth 65536 in
set_option maxHeartbeats 40000000 in
theorem w6_1 {p : Program} {l : Launch} {e : Env} {s : State} {m : MethodId} {args : Array Value} {below : List Frame} {meth : Method} {c_ : Code} {T0 : State} {locs : List Loc} {Z : State} {a0 : Array Value} {h0 : Heap} {n0 : Nat} (x K : Int32)
    (X0 : Stand p l e ({ frames := 0, cells := 0, slots := 0, locals := 0 } : Room) s m args below meth c_ T0 locs 0 0) (hx : p.tables.exec = Jvm.exec) (hZ : Z.Warmed39 s.vm) (hw : ∀ d ∈ tables_1, d.before a0 Z = true) (hby : c_.code = method_3_code) (hml : c_.maxLocals = 7) (hown : s.vm.findClass "tidewatch/decision/KeyGroupCeilingAtMostPinLaw" = some m.cls) (hnm : meth.name = "ownerRef") (hret : meth.sig.returnType = some .int) (hlk : meth.locks = false) (e0 : T0.heap = h0) (Z0 : n0 ≤ h0.size) (N0 : Fr n0 locs)  :
    Go p e below s ({ frames := 0, cells := 0, slots := 0, locals := 0 } : Room).cells ({ frames := 0, cells := 0, slots := 0, locals := 0 } : Room).slots (fun r h L => r = some (.int (refW 1 x K)) ∧ Fr n0 L ∧ h = h0) T0 (mkF m 0 #[.val (.int x), .val (.int (1 : Int32)), .val (.int K), .unset, .unset, .unset, .unset] []) := by
  show Go _ _ _ _ _ _ _ T0 (mkF m 0 #[.val (.int x), .val (.int (1 : Int32)), .val (.int K), .unset, .unset, .unset, .unset] [])
  refine Go.step (fun _ k => XS.iloadN X0.here hx rfl (hb hby d6_0) rfl k) ?_
  show Go _ _ _ _ _ _ _ T0 (mkF m 1 #[.val (.int x), .val (.int (1 : Int32)), .val (.int K), .unset, .unset, .unset, .unset] [(.int K)])
  refine Go.step (fun _ k => XS.i2l X0.here hx rfl (hb hby d6_1) rfl k) ?_
  show Go _ _ _ _ _ _ _ T0 (mkF m 2 #[.val (.int x), .val (.int (1 : Int32)), .val (.int K), .unset, .unset, .unset, .unset] [(.long (K.toInt64))])
  refine Go.step (fun _ k => XS.iloadN X0.here hx rfl (hb hby d6_2) rfl k) ?_
  show Go _ _ _ _ _ _ _ T0 (mkF m 3 #[.val (.int x), .val (.int (1 : Int32)), .val (.int K), .unset, .unset, .unset, .unset] [(.int (1 : Int32)), (.long (K.toInt64))])
  refine Go.step (fun _ k => XS.i2l X0.here hx rfl (hb hby d6_3) rfl k) ?_
  show Go _ _ _ _ _ _ _ T0 (mkF m 4 #[.val (.int x), .val (.int (1 : Int32)), .val (.int K), .unset, .unset, .unset, .unset] [(.long ((1 : Int32).toInt64)), (.long (K.toInt64))])
  refine Go.step (fun _ k => XS.ladd X0.here hx rfl (hb hby d6_4) rfl k) ?_
  show Go _ _ _ _ _ _ _ T0 (mkF m 5 #[.val (.int x), .val (.int (1 : Int32)), .val (.int K), .unset, .unset, .unset, .unset] [(.long ((K.toInt64) + ((1 : Int32).toInt64)))])
  refine Go.step (fun _ k => XS.lconst X0.here hx rfl (hb hby d6_5) k) ?_
  show Go _ _ _ _ _ _ _ T0 (mkF m 6 #[.val (.int x), .val (.int (1 : Int32)), .val (.int K), .unset, .unset, .unset, .unset] [(.long (1 : Int64)), (.long ((K.toInt64) + ((1 : Int32).toInt64)))])
  refine Go.step (fun _ k => XS.lsub X0.here hx rfl (hb hby d6_6) rfl k) ?_
  show Go _ _ _ _ _ _ _ T0 (mkF m 7 #[.val (.int x), .val (.int (1 : Int32)), .val (.int K), .unset, .unset, .unset, .unset] [(.long (((K.toInt64) + ((1 : Int32).toInt64)) - (1 : Int64)))])
  refine Go.step (fun _ k => XS.iloadN X0.here hx rfl (hb hby d6_7) rfl k) ?_
  show Go _ _ _ _ _ _ _ T0 (mkF m 8 #[.val (.int x), .val (.int (1 : Int32)), .val (.int K), .unset, .unset, .unset, .unset] [(.int (1 : Int32)), (.long (((K.toInt64) + ((1 : Int32).toInt64)) - (1 : Int64)))])
  refine Go.step (fun _ k => XS.i2l X0.here hx rfl (hb hby d6_8) rfl k) ?_
  show Go _ _ _ _ _ _ _ T0 (mkF m 9 #[.val (.int x), .val (.int (1 : Int32)), .val (.int K), .unset, .unset, .unset, .unset] [(.long ((1 : Int32).toInt64)), (.long (((K.toInt64) + ((1 : Int32).toInt64)) - (1 : Int64)))])
  refine Go.step (fun _ k => XS.ldiv X0.here hx rfl (hb hby d6_9) rfl (by decide) k) ?_
  show Go _ _ _ _ _ _ _ T0 (mkF m 10 #[.val (.int x), .val (.int (1 : Int32)), .val (.int K), .unset, .unset, .unset, .unset] [(.long ((((K.toInt64) + ((1 : Int32).toInt64)) - (1 : Int64)) / ((1 : Int32).toInt64)))])
  refine Go.step (fun _ k => XS.lstoreN X0.here hx rfl (hb hby d6_10) rfl (l' := #[.val (.int x), .val (.int (1 : Int32)), .val (.int K), .val (.long ((((K.toInt64) + ((1 : Int32).toInt64)) - (1 : Int64)) / ((1 : Int32).toInt64))), .second, .unset, .unset]) rfl k) ?_
  show Go _ _ _ _ _ _ _ T0 (mkF m 11 #[.val (.int x), .val (.int (1 : Int32)), .val (.int K), .val (.long ((((K.toInt64) + ((1 : Int32).toInt64)) - (1 : Int64)) / ((1 : Int32).toInt64))), .second, .unset, .unset] [])
  refine Go.step (X0.ldc2Long hx hown (mvT hZ (hw _ (List.mem_of_getElem? (i := 43) rfl))) (g := (mkF m 11 #[.val (.int x), .val (.int (1 : Int32)), .val (.int K), .val (.long ((((K.toInt64) + ((1 : Int32).toInt64)) - (1 : Int64)) / ((1 : Int32).toInt64))), .second, .unset, .unset] [])) rfl (hb hby d6_11)) ?_
  show Go _ _ _ _ _ _ _ T0 (mkF m 14 #[.val (.int x), .val (.int (1 : Int32)), .val (.int K), .val (.long ((((K.toInt64) + ((1 : Int32).toInt64)) - (1 : Int64)) / ((1 : Int32).toInt64))), .second, .unset, .unset] [(.long (2 : Int64))])
  refine Go.step (fun _ k => XS.iloadN X0.here hx rfl (hb hby d6_14) rfl k) ?_
  show Go _ _ _ _ _ _ _ T0 (mkF m 15 #[.val (.int x), .val (.int (1 : Int32)), .val (.int K), .val (.long ((((K.toInt64) + ((1 : Int32).toInt64)) - (1 : Int64)) / ((1 : Int32).toInt64))), .second, .unset, .unset] [(.int K), (.long (2 : Int64))])
  refine Go.step (fun _ k => XS.i2l X0.here hx rfl (hb hby d6_15) rfl k) ?_
  show Go _ _ _ _ _ _ _ T0 (mkF m 16 #[.val (.int x), .val (.int (1 : Int32)), .val (.int K), .val (.long ((((K.toInt64) + ((1 : Int32).toInt64)) - (1 : Int64)) / ((1 : Int32).toInt64))), .second, .unset, .unset] [(.long (K.toInt64)), (.long (2 : Int64))])
  refine Go.step (fun _ k => XS.lmul X0.here hx rfl (hb hby d6_16) rfl k) ?_
  show Go _ _ _ _ _ _ _ T0 (mkF m 17 #[.val (.int x), .val (.int (1 : Int32)), .val (.int K), .val (.long ((((K.toInt64) + ((1 : Int32).toInt64)) - (1 : Int64)) / ((1 : Int32).toInt64))), .second, .unset, .unset] [(.long ((2 : Int64) * (K.toInt64)))])
  refine Go.step (fun _ k => XS.iloadN X0.here hx rfl (hb hby d6_17) rfl k) ?_
  show Go _ _ _ _ _ _ _ T0 (mkF m 18 #[.val (.int x), .val (.int (1 : Int32)), .val (.int K), .val (.long ((((K.toInt64) + ((1 : Int32).toInt64)) - (1 : Int64)) / ((1 : Int32).toInt64))), .second, .unset, .unset] [(.int (1 : Int32)), (.long ((2 : Int64) * (K.toInt64)))])
  refine Go.step (fun _ k => XS.i2l X0.here hx rfl (hb hby d6_18) rfl k) ?_
  show Go _ _ _ _ _ _ _ T0 (mkF m 19 #[.val (.int x), .val (.int (1 : Int32)), .val (.int K), .val (.long ((((K.toInt64) + ((1 : Int32).toInt64)) - (1 : Int64)) / ((1 : Int32).toInt64))), .second, .unset, .unset] [(.long ((1 : Int32).toInt64)), (.long ((2 : Int64) * (K.toInt64)))])
  refine Go.step (fun _ k => XS.ladd X0.here hx rfl (hb hby d6_19) rfl k) ?_
  show Go _ _ _ _ _ _ _ T0 (mkF m 20 #[.val (.int x), .val (.int (1 : Int32)), .val (.int K), .val (.long ((((K.toInt64) + ((1 : Int32).toInt64)) - (1 : Int64)) / ((1 : Int32).toInt64))), .second, .unset, .unset] [(.long (((2 : Int64) * (K.toInt64)) + ((1 : Int32).toInt64)))])
  refine Go.step (fun _ k => XS.lconst X0.here hx rfl (hb hby d6_20) k) ?_
  show Go _ _ _ _ _ _ _ T0 (mkF m 21 #[.val (.int x), .val (.int (1 : Int32)), .val (.int K), .val (.long ((((K.toInt64) + ((1 : Int32).toInt64)) - (1 : Int64)) / ((1 : Int32).toInt64))), .second, .unset, .unset] [(.long (1 : Int64)), (.long (((2 : Int64) * (K.toInt64)) + ((1 : Int32).toInt64)))])
  refine Go.step (fun _ k => XS.lsub X0.here hx rfl (hb hby d6_21) rfl k) ?_
  show Go _ _ _ _ _ _ _ T0 (mkF m 22 #[.val (.int x), .val (.int (1 : Int32)), .val (.int K), .val (.long ((((K.toInt64) + ((1 : Int32).toInt64)) - (1 : Int64)) / ((1 : Int32).toInt64))), .second, .unset, .unset] [(.long ((((2 : Int64) * (K.toInt64)) + ((1 : Int32).toInt64)) - (1 : Int64)))])
  refine Go.step (fun _ k => XS.iloadN X0.here hx rfl (hb hby d6_22) rfl k) ?_
  show Go _ _ _ _ _ _ _ T0 (mkF m 23 #[.val (.int x), .val (.int (1 : Int32)), .val (.int K), .val (.long ((((K.toInt64) + ((1 : Int32).toInt64)) - (1 : Int64)) / ((1 : Int32).toInt64))), .second, .unset, .unset] [(.int (1 : Int32)), (.long ((((2 : Int64) * (K.toInt64)) + ((1 : Int32).toInt64)) - (1 : Int64)))])
  refine Go.step (fun _ k => XS.i2l X0.here hx rfl (hb hby d6_23) rfl k) ?_
  show Go _ _ _ _ _ _ _ T0 (mkF m 24 #[.val (.int x), .val (.int (1 : Int32)), .val (.int K), .val (.long ((((K.toInt64) + ((1 : Int32).toInt64)) - (1 : Int64)) / ((1 : Int32).toInt64))), .second, .unset, .unset] [(.long ((1 : Int32).toInt64)), (.long ((((2 : Int64) * (K.toInt64)) + ((1 : Int32).toInt64)) - (1 : Int64)))])
  refine Go.step (fun _ k => XS.ldiv X0.here hx rfl (hb hby d6_24) rfl (by decide) k) ?_
  show Go _ _ _ _ _ _ _ T0 (mkF m 25 #[.val (.int x), .val (.int (1 : Int32)), .val (.int K), .val (.long ((((K.toInt64) + ((1 : Int32).toInt64)) - (1 : Int64)) / ((1 : Int32).toInt64))), .second, .unset, .unset] [(.long (((((2 : Int64) * (K.toInt64)) + ((1 : Int32).toInt64)) - (1 : Int64)) / ((1 : Int32).toInt64)))])
  refine Go.step (fun _ k => XS.lstore X0.here hx rfl (hb hby d6_25) rfl (l' := #[.val (.int x), .val (.int (1 : Int32)), .val (.int K), .val (.long ((((K.toInt64) + ((1 : Int32).toInt64)) - (1 : Int64)) / ((1 : Int32).toInt64))), .second, .val (.long (((((2 : Int64) * (K.toInt64)) + ((1 : Int32).toInt64)) - (1 : Int64)) / ((1 : Int32).toInt64))), .second]) rfl k) ?_
  show Go _ _ _ _ _ _ _ T0 (mkF m 27 #[.val (.int x), .val (.int (1 : Int32)), .val (.int K), .val (.long ((((K.toInt64) + ((1 : Int32).toInt64)) - (1 : Int64)) / ((1 : Int32).toInt64))), .second, .val (.long (((((2 : Int64) * (K.toInt64)) + ((1 : Int32).toInt64)) - (1 : Int64)) / ((1 : Int32).toInt64))), .second] [])
  refine Go.step (fun _ k => XS.iloadN X0.here hx rfl (hb hby d6_27) rfl k) ?_
  show Go _ _ _ _ _ _ _ T0 (mkF m 28 #[.val (.int x), .val (.int (1 : Int32)), .val (.int K), .val (.long ((((K.toInt64) + ((1 : Int32).toInt64)) - (1 : Int64)) / ((1 : Int32).toInt64))), .second, .val (.long (((((2 : Int64) * (K.toInt64)) + ((1 : Int32).toInt64)) - (1 : Int64)) / ((1 : Int32).toInt64))), .second] [(.int (1 : Int32))])
  refine Go.step (fun _ k => XS.iconst X0.here hx rfl (hb hby d6_28) k) ?_
  show Go _ _ _ _ _ _ _ T0 (mkF m 29 #[.val (.int x), .val (.int (1 : Int32)), .val (.int K), .val (.long ((((K.toInt64) + ((1 : Int32).toInt64)) - (1 : Int64)) / ((1 : Int32).toInt64))), .second, .val (.long (((((2 : Int64) * (K.toInt64)) + ((1 : Int32).toInt64)) - (1 : Int64)) / ((1 : Int32).toInt64))), .second] [(.int (3 : Int32)), (.int (1 : Int32))])
  refine Go.step (fun _ k => XS.icmpYes X0.here hx rfl (pc0 := 29) (pc' := 42) rfl (hb hby d6_29) rfl (tlt (by decide : (1 : Int32) < (3 : Int32))).1 (by decide) (by decide) k) ?_
  show Go _ _ _ _ _ _ _ T0 (mkF m 42 #[.val (.int x), .val (.int (1 : Int32)), .val (.int K), .val (.long ((((K.toInt64) + ((1 : Int32).toInt64)) - (1 : Int64)) / ((1 : Int32).toInt64))), .second, .val (.long (((((2 : Int64) * (K.toInt64)) + ((1 : Int32).toInt64)) - (1 : Int64)) / ((1 : Int32).toInt64))), .second] [])
  refine Go.step (fun _ k => XS.iloadN X0.here hx rfl (hb hby d6_42) rfl k) ?_
  show Go _ _ _ _ _ _ _ T0 (mkF m 43 #[.val (.int x), .val (.int (1 : Int32)), .val (.int K), .val (.long ((((K.toInt64) + ((1 : Int32).toInt64)) - (1 : Int64)) / ((1 : Int32).toInt64))), .second, .val (.long (((((2 : Int64) * (K.toInt64)) + ((1 : Int32).toInt64)) - (1 : Int64)) / ((1 : Int32).toInt64))), .second] [(.int (1 : Int32))])
  refine Go.step (fun _ k => XS.iconst X0.here hx rfl (hb hby d6_43) k) ?_
  show Go _ _ _ _ _ _ _ T0 (mkF m 44 #[.val (.int x), .val (.int (1 : Int32)), .val (.int K), .val (.long ((((K.toInt64) + ((1 : Int32).toInt64)) - (1 : Int64)) / ((1 : Int32).toInt64))), .second, .val (.long (((((2 : Int64) * (K.toInt64)) + ((1 : Int32).toInt64)) - (1 : Int64)) / ((1 : Int32).toInt64))), .second] [(.int (2 : Int32)), (.int (1 : Int32))])
  refine Go.step (fun _ k => XS.icmpYes X0.here hx rfl (pc0 := 44) (pc' := 56) rfl (hb hby d6_44) rfl (tlt (by decide : (1 : Int32) < (2 : Int32))).1 (by decide) (by decide) k) ?_
  show Go _ _ _ _ _ _ _ T0 (mkF m 56 #[.val (.int x), .val (.int (1 : Int32)), .val (.int K), .val (.long ((((K.toInt64) + ((1 : Int32).toInt64)) - (1 : Int64)) / ((1 : Int32).toInt64))), .second, .val (.long (((((2 : Int64) * (K.toInt64)) + ((1 : Int32).toInt64)) - (1 : Int64)) / ((1 : Int32).toInt64))), .second] [])
  refine Go.step (fun _ k => XS.iconst X0.here hx rfl (hb hby d6_56) k) ?_
  show Go _ _ _ _ _ _ _ T0 (mkF m 57 #[.val (.int x), .val (.int (1 : Int32)), .val (.int K), .val (.long ((((K.toInt64) + ((1 : Int32).toInt64)) - (1 : Int64)) / ((1 : Int32).toInt64))), .second, .val (.long (((((2 : Int64) * (K.toInt64)) + ((1 : Int32).toInt64)) - (1 : Int64)) / ((1 : Int32).toInt64))), .second] [(.int (0 : Int32))])
  refine Go.retI X0 hx hlk hret (hb hby d6_57) (by decide) (by decide) ?_
  try rw [e0]
  exact ⟨by simp only [refW], N0, rfl⟩
theorem pn_6 : plainName "tidewatch/decision/KeyGroupCeilingAtMostPinLaw" = true := by first | (simp [plainName, overriddenIn]; done) | decide +kernel
theorem ef_rm6_1 (m : MethodId) (x : Int32) (K : Int32) : entryFrame m #[(.int x), (.int (1 : Int32)), (.int K)] 7 = mkF m 0 #[.val (.int x), .val (.int (1 : Int32)), .val (.int K), .unset, .unset, .unset, .unset] [] := by first | (simp [entryFrame, mkF, argsToLocals, Value.category]; done) | rfl
theorem rm6_1 (l : Launch) (Z : State) (a0 : Array Value) (hw : ∀ d ∈ tables_1, d.before a0 Z = true) (x K : Int32) (h0 : Heap) (n0 : Nat) (Z0 : n0 ≤ h0.size)  :
    Con l Z (⟨"tidewatch/decision/KeyGroupCeilingAtMostPinLaw", "ownerRef", "(III)I"⟩ : MethodName) method_3_code 7 (some .int) ({ frames := 0, cells := 0, slots := 0, locals := 0 } : Room) #[(.int x), (.int (1 : Int32)), (.int K)] h0 (fun r h L => r = some (.int (refW 1 x K)) ∧ Fr n0 L ∧ h = h0) :=
  con_of (plainFor_of_name pn_6) (fun p_ e_ s_ m_ b_ meth_ c_ T_ X_ hx hZ hby hml hown hnm hret hlk e0 => Go.cast (ef_rm6_1 m_ x K) (w6_1 x K X_ hx hZ hw hby hml hown hnm hret hlk e0 Z0 (Fr.nil n0) ))
theorem d6_47 : decode method_3_code 47 = .ok (.iload_n 0, 1) := by decide +kernel
theorem d6_48 : decode method_3_code 48 = .ok (.i2l, 1) := by decide +kernel
theorem d6_49 : decode method_3_code 49 = .ok (.lload_n 3, 1) := by decide +kernel
theorem d6_50 : decode method_3_code 50 = .ok (.lcmp, 1) := by decide +kernel
theorem d6_51 : decode method_3_code 51 = .ok (.ifCond .lt 5, 3) := by decide +kernel
theorem d6_54 : decode method_3_code 54 = .ok (.iconst 1, 1) := by decide +kernel
theorem d6_55 : decode method_3_code 55 = .ok (.ireturn, 1) := by decide +kernel
set_option maxRecDepth 65536 in
set_option maxHeartbeats 40000000 in
theorem w6_2 {p : Program} {l : Launch} {e : Env} {s : State} {m : MethodId} {args : Array Value} {below : List Frame} {meth : Method} {c_ : Code} {T0 : State} {locs : List Loc} {Z : State} {a0 : Array Value} {h0 : Heap} {n0 : Nat} (x K : Int32)
    (X0 : Stand p l e ({ frames := 0, cells := 0, slots := 0, locals := 0 } : Room) s m args below meth c_ T0 locs 0 0) (hx : p.tables.exec = Jvm.exec) (hZ : Z.Warmed39 s.vm) (hw : ∀ d ∈ tables_1, d.before a0 Z = true) (hby : c_.code = method_3_code) (hml : c_.maxLocals = 7) (hown : s.vm.findClass "tidewatch/decision/KeyGroupCeilingAtMostPinLaw" = some m.cls) (hnm : meth.name = "ownerRef") (hret : meth.sig.returnType = some .int) (hlk : meth.locks = false) (e0 : T0.heap = h0) (Z0 : n0 ≤ h0.size) (N0 : Fr n0 locs)  :
    Go p e below s ({ frames := 0, cells := 0, slots := 0, locals := 0 } : Room).cells ({ frames := 0, cells := 0, slots := 0, locals := 0 } : Room).slots (fun r h L => r = some (.int (refW 2 x K)) ∧ Fr n0 L ∧ h = h0) T0 (mkF m 0 #[.val (.int x), .val (.int (2 : Int32)), .val (.int K), .unset, .unset, .unset, .unset] []) := by
  show Go _ _ _ _ _ _ _ T0 (mkF m 0 #[.val (.int x), .val (.int (2 : Int32)), .val (.int K), .unset, .unset, .unset, .unset] [])
  refine Go.step (fun _ k => XS.iloadN X0.here hx rfl (hb hby d6_0) rfl k) ?_
  show Go _ _ _ _ _ _ _ T0 (mkF m 1 #[.val (.int x), .val (.int (2 : Int32)), .val (.int K), .unset, .unset, .unset, .unset] [(.int K)])
  refine Go.step (fun _ k => XS.i2l X0.here hx rfl (hb hby d6_1) rfl k) ?_
  show Go _ _ _ _ _ _ _ T0 (mkF m 2 #[.val (.int x), .val (.int (2 : Int32)), .val (.int K), .unset, .unset, .unset, .unset] [(.long (K.toInt64))])
  refine Go.step (fun _ k => XS.iloadN X0.here hx rfl (hb hby d6_2) rfl k) ?_
  show Go _ _ _ _ _ _ _ T0 (mkF m 3 #[.val (.int x), .val (.int (2 : Int32)), .val (.int K), .unset, .unset, .unset, .unset] [(.int (2 : Int32)), (.long (K.toInt64))])
  refine Go.step (fun _ k => XS.i2l X0.here hx rfl (hb hby d6_3) rfl k) ?_
  show Go _ _ _ _ _ _ _ T0 (mkF m 4 #[.val (.int x), .val (.int (2 : Int32)), .val (.int K), .unset, .unset, .unset, .unset] [(.long ((2 : Int32).toInt64)), (.long (K.toInt64))])
  refine Go.step (fun _ k => XS.ladd X0.here hx rfl (hb hby d6_4) rfl k) ?_
  show Go _ _ _ _ _ _ _ T0 (mkF m 5 #[.val (.int x), .val (.int (2 : Int32)), .val (.int K), .unset, .unset, .unset, .unset] [(.long ((K.toInt64) + ((2 : Int32).toInt64)))])
  refine Go.step (fun _ k => XS.lconst X0.here hx rfl (hb hby d6_5) k) ?_
  show Go _ _ _ _ _ _ _ T0 (mkF m 6 #[.val (.int x), .val (.int (2 : Int32)), .val (.int K), .unset, .unset, .unset, .unset] [(.long (1 : Int64)), (.long ((K.toInt64) + ((2 : Int32).toInt64)))])
  refine Go.step (fun _ k => XS.lsub X0.here hx rfl (hb hby d6_6) rfl k) ?_
  show Go _ _ _ _ _ _ _ T0 (mkF m 7 #[.val (.int x), .val (.int (2 : Int32)), .val (.int K), .unset, .unset, .unset, .unset] [(.long (((K.toInt64) + ((2 : Int32).toInt64)) - (1 : Int64)))])
  refine Go.step (fun _ k => XS.iloadN X0.here hx rfl (hb hby d6_7) rfl k) ?_
  show Go _ _ _ _ _ _ _ T0 (mkF m 8 #[.val (.int x), .val (.int (2 : Int32)), .val (.int K), .unset, .unset, .unset, .unset] [(.int (2 : Int32)), (.long (((K.toInt64) + ((2 : Int32).toInt64)) - (1 : Int64)))])
  refine Go.step (fun _ k => XS.i2l X0.here hx rfl (hb hby d6_8) rfl k) ?_
  show Go _ _ _ _ _ _ _ T0 (mkF m 9 #[.val (.int x), .val (.int (2 : Int32)), .val (.int K), .unset, .unset, .unset, .unset] [(.long ((2 : Int32).toInt64)), (.long (((K.toInt64) + ((2 : Int32).toInt64)) - (1 : Int64)))])
  refine Go.step (fun _ k => XS.ldiv X0.here hx rfl (hb hby d6_9) rfl (by decide) k) ?_
  show Go _ _ _ _ _ _ _ T0 (mkF m 10 #[.val (.int x), .val (.int (2 : Int32)), .val (.int K), .unset, .unset, .unset, .unset] [(.long ((((K.toInt64) + ((2 : Int32).toInt64)) - (1 : Int64)) / ((2 : Int32).toInt64)))])
  refine Go.step (fun _ k => XS.lstoreN X0.here hx rfl (hb hby d6_10) rfl (l' := #[.val (.int x), .val (.int (2 : Int32)), .val (.int K), .val (.long ((((K.toInt64) + ((2 : Int32).toInt64)) - (1 : Int64)) / ((2 : Int32).toInt64))), .second, .unset, .unset]) rfl k) ?_
  show Go _ _ _ _ _ _ _ T0 (mkF m 11 #[.val (.int x), .val (.int (2 : Int32)), .val (.int K), .val (.long ((((K.toInt64) + ((2 : Int32).toInt64)) - (1 : Int64)) / ((2 : Int32).toInt64))), .second, .unset, .unset] [])
  refine Go.step (X0.ldc2Long hx hown (mvT hZ (hw _ (List.mem_of_getElem? (i := 43) rfl))) (g := (mkF m 11 #[.val (.int x), .val (.int (2 : Int32)), .val (.int K), .val (.long ((((K.toInt64) + ((2 : Int32).toInt64)) - (1 : Int64)) / ((2 : Int32).toInt64))), .second, .unset, .unset] [])) rfl (hb hby d6_11)) ?_
  show Go _ _ _ _ _ _ _ T0 (mkF m 14 #[.val (.int x), .val (.int (2 : Int32)), .val (.int K), .val (.long ((((K.toInt64) + ((2 : Int32).toInt64)) - (1 : Int64)) / ((2 : Int32).toInt64))), .second, .unset, .unset] [(.long (2 : Int64))])
  refine Go.step (fun _ k => XS.iloadN X0.here hx rfl (hb hby d6_14) rfl k) ?_
  show Go _ _ _ _ _ _ _ T0 (mkF m 15 #[.val (.int x), .val (.int (2 : Int32)), .val (.int K), .val (.long ((((K.toInt64) + ((2 : Int32).toInt64)) - (1 : Int64)) / ((2 : Int32).toInt64))), .second, .unset, .unset] [(.int K), (.long (2 : Int64))])
  refine Go.step (fun _ k => XS.i2l X0.here hx rfl (hb hby d6_15) rfl k) ?_
  show Go _ _ _ _ _ _ _ T0 (mkF m 16 #[.val (.int x), .val (.int (2 : Int32)), .val (.int K), .val (.long ((((K.toInt64) + ((2 : Int32).toInt64)) - (1 : Int64)) / ((2 : Int32).toInt64))), .second, .unset, .unset] [(.long (K.toInt64)), (.long (2 : Int64))])
  refine Go.step (fun _ k => XS.lmul X0.here hx rfl (hb hby d6_16) rfl k) ?_
  show Go _ _ _ _ _ _ _ T0 (mkF m 17 #[.val (.int x), .val (.int (2 : Int32)), .val (.int K), .val (.long ((((K.toInt64) + ((2 : Int32).toInt64)) - (1 : Int64)) / ((2 : Int32).toInt64))), .second, .unset, .unset] [(.long ((2 : Int64) * (K.toInt64)))])
  refine Go.step (fun _ k => XS.iloadN X0.here hx rfl (hb hby d6_17) rfl k) ?_
  show Go _ _ _ _ _ _ _ T0 (mkF m 18 #[.val (.int x), .val (.int (2 : Int32)), .val (.int K), .val (.long ((((K.toInt64) + ((2 : Int32).toInt64)) - (1 : Int64)) / ((2 : Int32).toInt64))), .second, .unset, .unset] [(.int (2 : Int32)), (.long ((2 : Int64) * (K.toInt64)))])
  refine Go.step (fun _ k => XS.i2l X0.here hx rfl (hb hby d6_18) rfl k) ?_
  show Go _ _ _ _ _ _ _ T0 (mkF m 19 #[.val (.int x), .val (.int (2 : Int32)), .val (.int K), .val (.long ((((K.toInt64) + ((2 : Int32).toInt64)) - (1 : Int64)) / ((2 : Int32).toInt64))), .second, .unset, .unset] [(.long ((2 : Int32).toInt64)), (.long ((2 : Int64) * (K.toInt64)))])
  refine Go.step (fun _ k => XS.ladd X0.here hx rfl (hb hby d6_19) rfl k) ?_
  show Go _ _ _ _ _ _ _ T0 (mkF m 20 #[.val (.int x), .val (.int (2 : Int32)), .val (.int K), .val (.long ((((K.toInt64) + ((2 : Int32).toInt64)) - (1 : Int64)) / ((2 : Int32).toInt64))), .second, .unset, .unset] [(.long (((2 : Int64) * (K.toInt64)) + ((2 : Int32).toInt64)))])
  refine Go.step (fun _ k => XS.lconst X0.here hx rfl (hb hby d6_20) k) ?_
  show Go _ _ _ _ _ _ _ T0 (mkF m 21 #[.val (.int x), .val (.int (2 : Int32)), .val (.int K), .val (.long ((((K.toInt64) + ((2 : Int32).toInt64)) - (1 : Int64)) / ((2 : Int32).toInt64))), .second, .unset, .unset] [(.long (1 : Int64)), (.long (((2 : Int64) * (K.toInt64)) + ((2 : Int32).toInt64)))])
  refine Go.step (fun _ k => XS.lsub X0.here hx rfl (hb hby d6_21) rfl k) ?_
  show Go _ _ _ _ _ _ _ T0 (mkF m 22 #[.val (.int x), .val (.int (2 : Int32)), .val (.int K), .val (.long ((((K.toInt64) + ((2 : Int32).toInt64)) - (1 : Int64)) / ((2 : Int32).toInt64))), .second, .unset, .unset] [(.long ((((2 : Int64) * (K.toInt64)) + ((2 : Int32).toInt64)) - (1 : Int64)))])
  refine Go.step (fun _ k => XS.iloadN X0.here hx rfl (hb hby d6_22) rfl k) ?_
  show Go _ _ _ _ _ _ _ T0 (mkF m 23 #[.val (.int x), .val (.int (2 : Int32)), .val (.int K), .val (.long ((((K.toInt64) + ((2 : Int32).toInt64)) - (1 : Int64)) / ((2 : Int32).toInt64))), .second, .unset, .unset] [(.int (2 : Int32)), (.long ((((2 : Int64) * (K.toInt64)) + ((2 : Int32).toInt64)) - (1 : Int64)))])
  refine Go.step (fun _ k => XS.i2l X0.here hx rfl (hb hby d6_23) rfl k) ?_
  show Go _ _ _ _ _ _ _ T0 (mkF m 24 #[.val (.int x), .val (.int (2 : Int32)), .val (.int K), .val (.long ((((K.toInt64) + ((2 : Int32).toInt64)) - (1 : Int64)) / ((2 : Int32).toInt64))), .second, .unset, .unset] [(.long ((2 : Int32).toInt64)), (.long ((((2 : Int64) * (K.toInt64)) + ((2 : Int32).toInt64)) - (1 : Int64)))])
  refine Go.step (fun _ k => XS.ldiv X0.here hx rfl (hb hby d6_24) rfl (by decide) k) ?_
  show Go _ _ _ _ _ _ _ T0 (mkF m 25 #[.val (.int x), .val (.int (2 : Int32)), .val (.int K), .val (.long ((((K.toInt64) + ((2 : Int32).toInt64)) - (1 : Int64)) / ((2 : Int32).toInt64))), .second, .unset, .unset] [(.long (((((2 : Int64) * (K.toInt64)) + ((2 : Int32).toInt64)) - (1 : Int64)) / ((2 : Int32).toInt64)))])
  refine Go.step (fun _ k => XS.lstore X0.here hx rfl (hb hby d6_25) rfl (l' := #[.val (.int x), .val (.int (2 : Int32)), .val (.int K), .val (.long ((((K.toInt64) + ((2 : Int32).toInt64)) - (1 : Int64)) / ((2 : Int32).toInt64))), .second, .val (.long (((((2 : Int64) * (K.toInt64)) + ((2 : Int32).toInt64)) - (1 : Int64)) / ((2 : Int32).toInt64))), .second]) rfl k) ?_
  show Go _ _ _ _ _ _ _ T0 (mkF m 27 #[.val (.int x), .val (.int (2 : Int32)), .val (.int K), .val (.long ((((K.toInt64) + ((2 : Int32).toInt64)) - (1 : Int64)) / ((2 : Int32).toInt64))), .second, .val (.long (((((2 : Int64) * (K.toInt64)) + ((2 : Int32).toInt64)) - (1 : Int64)) / ((2 : Int32).toInt64))), .second] [])
  refine Go.step (fun _ k => XS.iloadN X0.here hx rfl (hb hby d6_27) rfl k) ?_
  show Go _ _ _ _ _ _ _ T0 (mkF m 28 #[.val (.int x), .val (.int (2 : Int32)), .val (.int K), .val (.long ((((K.toInt64) + ((2 : Int32).toInt64)) - (1 : Int64)) / ((2 : Int32).toInt64))), .second, .val (.long (((((2 : Int64) * (K.toInt64)) + ((2 : Int32).toInt64)) - (1 : Int64)) / ((2 : Int32).toInt64))), .second] [(.int (2 : Int32))])
  refine Go.step (fun _ k => XS.iconst X0.here hx rfl (hb hby d6_28) k) ?_
  show Go _ _ _ _ _ _ _ T0 (mkF m 29 #[.val (.int x), .val (.int (2 : Int32)), .val (.int K), .val (.long ((((K.toInt64) + ((2 : Int32).toInt64)) - (1 : Int64)) / ((2 : Int32).toInt64))), .second, .val (.long (((((2 : Int64) * (K.toInt64)) + ((2 : Int32).toInt64)) - (1 : Int64)) / ((2 : Int32).toInt64))), .second] [(.int (3 : Int32)), (.int (2 : Int32))])
  refine Go.step (fun _ k => XS.icmpYes X0.here hx rfl (pc0 := 29) (pc' := 42) rfl (hb hby d6_29) rfl (tlt (by decide : (2 : Int32) < (3 : Int32))).1 (by decide) (by decide) k) ?_
  show Go _ _ _ _ _ _ _ T0 (mkF m 42 #[.val (.int x), .val (.int (2 : Int32)), .val (.int K), .val (.long ((((K.toInt64) + ((2 : Int32).toInt64)) - (1 : Int64)) / ((2 : Int32).toInt64))), .second, .val (.long (((((2 : Int64) * (K.toInt64)) + ((2 : Int32).toInt64)) - (1 : Int64)) / ((2 : Int32).toInt64))), .second] [])
  refine Go.step (fun _ k => XS.iloadN X0.here hx rfl (hb hby d6_42) rfl k) ?_
  show Go _ _ _ _ _ _ _ T0 (mkF m 43 #[.val (.int x), .val (.int (2 : Int32)), .val (.int K), .val (.long ((((K.toInt64) + ((2 : Int32).toInt64)) - (1 : Int64)) / ((2 : Int32).toInt64))), .second, .val (.long (((((2 : Int64) * (K.toInt64)) + ((2 : Int32).toInt64)) - (1 : Int64)) / ((2 : Int32).toInt64))), .second] [(.int (2 : Int32))])
  refine Go.step (fun _ k => XS.iconst X0.here hx rfl (hb hby d6_43) k) ?_
  show Go _ _ _ _ _ _ _ T0 (mkF m 44 #[.val (.int x), .val (.int (2 : Int32)), .val (.int K), .val (.long ((((K.toInt64) + ((2 : Int32).toInt64)) - (1 : Int64)) / ((2 : Int32).toInt64))), .second, .val (.long (((((2 : Int64) * (K.toInt64)) + ((2 : Int32).toInt64)) - (1 : Int64)) / ((2 : Int32).toInt64))), .second] [(.int (2 : Int32)), (.int (2 : Int32))])
  refine Go.step (fun _ k => XS.icmpNo X0.here hx rfl (hb hby d6_44) rfl (flt (by decide : ¬ ((2 : Int32) < (2 : Int32)))).1 k) ?_
  show Go _ _ _ _ _ _ _ T0 (mkF m 47 #[.val (.int x), .val (.int (2 : Int32)), .val (.int K), .val (.long ((((K.toInt64) + ((2 : Int32).toInt64)) - (1 : Int64)) / ((2 : Int32).toInt64))), .second, .val (.long (((((2 : Int64) * (K.toInt64)) + ((2 : Int32).toInt64)) - (1 : Int64)) / ((2 : Int32).toInt64))), .second] [])
  refine Go.step (fun _ k => XS.iloadN X0.here hx rfl (hb hby d6_47) rfl k) ?_
  show Go _ _ _ _ _ _ _ T0 (mkF m 48 #[.val (.int x), .val (.int (2 : Int32)), .val (.int K), .val (.long ((((K.toInt64) + ((2 : Int32).toInt64)) - (1 : Int64)) / ((2 : Int32).toInt64))), .second, .val (.long (((((2 : Int64) * (K.toInt64)) + ((2 : Int32).toInt64)) - (1 : Int64)) / ((2 : Int32).toInt64))), .second] [(.int x)])
  refine Go.step (fun _ k => XS.i2l X0.here hx rfl (hb hby d6_48) rfl k) ?_
  show Go _ _ _ _ _ _ _ T0 (mkF m 49 #[.val (.int x), .val (.int (2 : Int32)), .val (.int K), .val (.long ((((K.toInt64) + ((2 : Int32).toInt64)) - (1 : Int64)) / ((2 : Int32).toInt64))), .second, .val (.long (((((2 : Int64) * (K.toInt64)) + ((2 : Int32).toInt64)) - (1 : Int64)) / ((2 : Int32).toInt64))), .second] [(.long (x.toInt64))])
  refine Go.step (fun _ k => XS.lloadN X0.here hx rfl (hb hby d6_49) rfl k) ?_
  show Go _ _ _ _ _ _ _ T0 (mkF m 50 #[.val (.int x), .val (.int (2 : Int32)), .val (.int K), .val (.long ((((K.toInt64) + ((2 : Int32).toInt64)) - (1 : Int64)) / ((2 : Int32).toInt64))), .second, .val (.long (((((2 : Int64) * (K.toInt64)) + ((2 : Int32).toInt64)) - (1 : Int64)) / ((2 : Int32).toInt64))), .second] [(.long ((((K.toInt64) + ((2 : Int32).toInt64)) - (1 : Int64)) / ((2 : Int32).toInt64))), (.long (x.toInt64))])
  refine Go.step (fun _ k => XS.lcmp X0.here hx rfl (hb hby d6_50) rfl k) ?_
  show Go _ _ _ _ _ _ _ T0 (mkF m 51 #[.val (.int x), .val (.int (2 : Int32)), .val (.int K), .val (.long ((((K.toInt64) + ((2 : Int32).toInt64)) - (1 : Int64)) / ((2 : Int32).toInt64))), .second, .val (.long (((((2 : Int64) * (K.toInt64)) + ((2 : Int32).toInt64)) - (1 : Int64)) / ((2 : Int32).toInt64))), .second] [(.int (lcmpW (x.toInt64) ((((K.toInt64) + ((2 : Int32).toInt64)) - (1 : Int64)) / ((2 : Int32).toInt64))))])
  by_cases hc51_1 : (x.toInt64) < ((((K.toInt64) + ((2 : Int32).toInt64)) - (1 : Int64)) / ((2 : Int32).toInt64))
  · refine Go.step (fun _ k => XS.ifYes X0.here hx rfl (pc0 := 51) (pc' := 56) rfl (hb hby d6_51) rfl ((if0 _ _).trans (tlt ((lw_lt (x.toInt64) ((((K.toInt64) + ((2 : Int32).toInt64)) - (1 : Int64)) / ((2 : Int32).toInt64))).mpr hc51_1)).1) (by decide) (by decide) k) ?_
    show Go _ _ _ _ _ _ _ T0 (mkF m 56 #[.val (.int x), .val (.int (2 : Int32)), .val (.int K), .val (.long ((((K.toInt64) + ((2 : Int32).toInt64)) - (1 : Int64)) / ((2 : Int32).toInt64))), .second, .val (.long (((((2 : Int64) * (K.toInt64)) + ((2 : Int32).toInt64)) - (1 : Int64)) / ((2 : Int32).toInt64))), .second] [])
    refine Go.step (fun _ k => XS.iconst X0.here hx rfl (hb hby d6_56) k) ?_
    show Go _ _ _ _ _ _ _ T0 (mkF m 57 #[.val (.int x), .val (.int (2 : Int32)), .val (.int K), .val (.long ((((K.toInt64) + ((2 : Int32).toInt64)) - (1 : Int64)) / ((2 : Int32).toInt64))), .second, .val (.long (((((2 : Int64) * (K.toInt64)) + ((2 : Int32).toInt64)) - (1 : Int64)) / ((2 : Int32).toInt64))), .second] [(.int (0 : Int32))])
    refine Go.retI X0 hx hlk hret (hb hby d6_57) (by decide) (by decide) ?_
    try rw [e0]
    exact ⟨by simp only [refW]; rw [if_pos hc51_1], N0, rfl⟩
  · refine Go.step (fun _ k => XS.ifNo X0.here hx rfl (hb hby d6_51) rfl ((if0 _ _).trans (flt (fun q => hc51_1 ((lw_lt (x.toInt64) ((((K.toInt64) + ((2 : Int32).toInt64)) - (1 : Int64)) / ((2 : Int32).toInt64))).mp q))).1) k) ?_
    show Go _ _ _ _ _ _ _ T0 (mkF m 54 #[.val (.int x), .val (.int (2 : Int32)), .val (.int K), .val (.long ((((K.toInt64) + ((2 : Int32).toInt64)) - (1 : Int64)) / ((2 : Int32).toInt64))), .second, .val (.long (((((2 : Int64) * (K.toInt64)) + ((2 : Int32).toInt64)) - (1 : Int64)) / ((2 : Int32).toInt64))), .second] [])
    refine Go.step (fun _ k => XS.iconst X0.here hx rfl (hb hby d6_54) k) ?_
    show Go _ _ _ _ _ _ _ T0 (mkF m 55 #[.val (.int x), .val (.int (2 : Int32)), .val (.int K), .val (.long ((((K.toInt64) + ((2 : Int32).toInt64)) - (1 : Int64)) / ((2 : Int32).toInt64))), .second, .val (.long (((((2 : Int64) * (K.toInt64)) + ((2 : Int32).toInt64)) - (1 : Int64)) / ((2 : Int32).toInt64))), .second] [(.int (1 : Int32))])
    refine Go.retI X0 hx hlk hret (hb hby d6_55) (by decide) (by decide) ?_
    try rw [e0]
    exact ⟨by simp only [refW]; rw [if_neg hc51_1], N0, rfl⟩
theorem ef_rm6_2 (m : MethodId) (x : Int32) (K : Int32) : entryFrame m #[(.int x), (.int (2 : Int32)), (.int K)] 7 = mkF m 0 #[.val (.int x), .val (.int (2 : Int32)), .val (.int K), .unset, .unset, .unset, .unset] [] := by first | (simp [entryFrame, mkF, argsToLocals, Value.category]; done) | rfl
theorem rm6_2 (l : Launch) (Z : State) (a0 : Array Value) (hw : ∀ d ∈ tables_1, d.before a0 Z = true) (x K : Int32) (h0 : Heap) (n0 : Nat) (Z0 : n0 ≤ h0.size)  :
    Con l Z (⟨"tidewatch/decision/KeyGroupCeilingAtMostPinLaw", "ownerRef", "(III)I"⟩ : MethodName) method_3_code 7 (some .int) ({ frames := 0, cells := 0, slots := 0, locals := 0 } : Room) #[(.int x), (.int (2 : Int32)), (.int K)] h0 (fun r h L => r = some (.int (refW 2 x K)) ∧ Fr n0 L ∧ h = h0) :=
  con_of (plainFor_of_name pn_6) (fun p_ e_ s_ m_ b_ meth_ c_ T_ X_ hx hZ hby hml hown hnm hret hlk e0 => Go.cast (ef_rm6_2 m_ x K) (w6_2 x K X_ hx hZ hw hby hml hown hnm hret hlk e0 Z0 (Fr.nil n0) ))
theorem d6_32 : decode method_3_code 32 = .ok (.iload_n 0, 1) := by decide +kernel
theorem d6_33 : decode method_3_code 33 = .ok (.i2l, 1) := by decide +kernel
theorem d6_34 : decode method_3_code 34 = .ok (.lload 5, 2) := by decide +kernel
theorem d6_36 : decode method_3_code 36 = .ok (.lcmp, 1) := by decide +kernel
theorem d6_37 : decode method_3_code 37 = .ok (.ifCond .lt 5, 3) := by decide +kernel
theorem d6_40 : decode method_3_code 40 = .ok (.iconst 2, 1) := by decide +kernel
theorem d6_41 : decode method_3_code 41 = .ok (.ireturn, 1) := by decide +kernel
set_option maxRecDepth 65536 in
set_option maxHeartbeats 40000000 in
theorem w6_3 {p : Program} {l : Launch} {e : Env} {s : State} {m : MethodId} {args : Array Value} {below : List Frame} {meth : Method} {c_ : Code} {T0 : State} {locs : List Loc} {Z : State} {a0 : Array Value} {h0 : Heap} {n0 : Nat} (x K : Int32)
    (X0 : Stand p l e ({ frames := 0, cells := 0, slots := 0, locals := 0 } : Room) s m args below meth c_ T0 locs 0 0) (hx : p.tables.exec = Jvm.exec) (hZ : Z.Warmed39 s.vm) (hw : ∀ d ∈ tables_1, d.before a0 Z = true) (hby : c_.code = method_3_code) (hml : c_.maxLocals = 7) (hown : s.vm.findClass "tidewatch/decision/KeyGroupCeilingAtMostPinLaw" = some m.cls) (hnm : meth.name = "ownerRef") (hret : meth.sig.returnType = some .int) (hlk : meth.locks = false) (e0 : T0.heap = h0) (Z0 : n0 ≤ h0.size) (N0 : Fr n0 locs)  :
    Go p e below s ({ frames := 0, cells := 0, slots := 0, locals := 0 } : Room).cells ({ frames := 0, cells := 0, slots := 0, locals := 0 } : Room).slots (fun r h L => r = some (.int (refW 3 x K)) ∧ Fr n0 L ∧ h = h0) T0 (mkF m 0 #[.val (.int x), .val (.int (3 : Int32)), .val (.int K), .unset, .unset, .unset, .unset] []) := by
  show Go _ _ _ _ _ _ _ T0 (mkF m 0 #[.val (.int x), .val (.int (3 : Int32)), .val (.int K), .unset, .unset, .unset, .unset] [])
  refine Go.step (fun _ k => XS.iloadN X0.here hx rfl (hb hby d6_0) rfl k) ?_
  show Go _ _ _ _ _ _ _ T0 (mkF m 1 #[.val (.int x), .val (.int (3 : Int32)), .val (.int K), .unset, .unset, .unset, .unset] [(.int K)])
  refine Go.step (fun _ k => XS.i2l X0.here hx rfl (hb hby d6_1) rfl k) ?_
  show Go _ _ _ _ _ _ _ T0 (mkF m 2 #[.val (.int x), .val (.int (3 : Int32)), .val (.int K), .unset, .unset, .unset, .unset] [(.long (K.toInt64))])
  refine Go.step (fun _ k => XS.iloadN X0.here hx rfl (hb hby d6_2) rfl k) ?_
  show Go _ _ _ _ _ _ _ T0 (mkF m 3 #[.val (.int x), .val (.int (3 : Int32)), .val (.int K), .unset, .unset, .unset, .unset] [(.int (3 : Int32)), (.long (K.toInt64))])
  refine Go.step (fun _ k => XS.i2l X0.here hx rfl (hb hby d6_3) rfl k) ?_
  show Go _ _ _ _ _ _ _ T0 (mkF m 4 #[.val (.int x), .val (.int (3 : Int32)), .val (.int K), .unset, .unset, .unset, .unset] [(.long ((3 : Int32).toInt64)), (.long (K.toInt64))])
  refine Go.step (fun _ k => XS.ladd X0.here hx rfl (hb hby d6_4) rfl k) ?_
  show Go _ _ _ _ _ _ _ T0 (mkF m 5 #[.val (.int x), .val (.int (3 : Int32)), .val (.int K), .unset, .unset, .unset, .unset] [(.long ((K.toInt64) + ((3 : Int32).toInt64)))])
  refine Go.step (fun _ k => XS.lconst X0.here hx rfl (hb hby d6_5) k) ?_
  show Go _ _ _ _ _ _ _ T0 (mkF m 6 #[.val (.int x), .val (.int (3 : Int32)), .val (.int K), .unset, .unset, .unset, .unset] [(.long (1 : Int64)), (.long ((K.toInt64) + ((3 : Int32).toInt64)))])
  refine Go.step (fun _ k => XS.lsub X0.here hx rfl (hb hby d6_6) rfl k) ?_
  show Go _ _ _ _ _ _ _ T0 (mkF m 7 #[.val (.int x), .val (.int (3 : Int32)), .val (.int K), .unset, .unset, .unset, .unset] [(.long (((K.toInt64) + ((3 : Int32).toInt64)) - (1 : Int64)))])
  refine Go.step (fun _ k => XS.iloadN X0.here hx rfl (hb hby d6_7) rfl k) ?_
  show Go _ _ _ _ _ _ _ T0 (mkF m 8 #[.val (.int x), .val (.int (3 : Int32)), .val (.int K), .unset, .unset, .unset, .unset] [(.int (3 : Int32)), (.long (((K.toInt64) + ((3 : Int32).toInt64)) - (1 : Int64)))])
  refine Go.step (fun _ k => XS.i2l X0.here hx rfl (hb hby d6_8) rfl k) ?_
  show Go _ _ _ _ _ _ _ T0 (mkF m 9 #[.val (.int x), .val (.int (3 : Int32)), .val (.int K), .unset, .unset, .unset, .unset] [(.long ((3 : Int32).toInt64)), (.long (((K.toInt64) + ((3 : Int32).toInt64)) - (1 : Int64)))])
  refine Go.step (fun _ k => XS.ldiv X0.here hx rfl (hb hby d6_9) rfl (by decide) k) ?_
  show Go _ _ _ _ _ _ _ T0 (mkF m 10 #[.val (.int x), .val (.int (3 : Int32)), .val (.int K), .unset, .unset, .unset, .unset] [(.long ((((K.toInt64) + ((3 : Int32).toInt64)) - (1 : Int64)) / ((3 : Int32).toInt64)))])
  refine Go.step (fun _ k => XS.lstoreN X0.here hx rfl (hb hby d6_10) rfl (l' := #[.val (.int x), .val (.int (3 : Int32)), .val (.int K), .val (.long ((((K.toInt64) + ((3 : Int32).toInt64)) - (1 : Int64)) / ((3 : Int32).toInt64))), .second, .unset, .unset]) rfl k) ?_
  show Go _ _ _ _ _ _ _ T0 (mkF m 11 #[.val (.int x), .val (.int (3 : Int32)), .val (.int K), .val (.long ((((K.toInt64) + ((3 : Int32).toInt64)) - (1 : Int64)) / ((3 : Int32).toInt64))), .second, .unset, .unset] [])
  refine Go.step (X0.ldc2Long hx hown (mvT hZ (hw _ (List.mem_of_getElem? (i := 43) rfl))) (g := (mkF m 11 #[.val (.int x), .val (.int (3 : Int32)), .val (.int K), .val (.long ((((K.toInt64) + ((3 : Int32).toInt64)) - (1 : Int64)) / ((3 : Int32).toInt64))), .second, .unset, .unset] [])) rfl (hb hby d6_11)) ?_
  show Go _ _ _ _ _ _ _ T0 (mkF m 14 #[.val (.int x), .val (.int (3 : Int32)), .val (.int K), .val (.long ((((K.toInt64) + ((3 : Int32).toInt64)) - (1 : Int64)) / ((3 : Int32).toInt64))), .second, .unset, .unset] [(.long (2 : Int64))])
  refine Go.step (fun _ k => XS.iloadN X0.here hx rfl (hb hby d6_14) rfl k) ?_
  show Go _ _ _ _ _ _ _ T0 (mkF m 15 #[.val (.int x), .val (.int (3 : Int32)), .val (.int K), .val (.long ((((K.toInt64) + ((3 : Int32).toInt64)) - (1 : Int64)) / ((3 : Int32).toInt64))), .second, .unset, .unset] [(.int K), (.long (2 : Int64))])
  refine Go.step (fun _ k => XS.i2l X0.here hx rfl (hb hby d6_15) rfl k) ?_
  show Go _ _ _ _ _ _ _ T0 (mkF m 16 #[.val (.int x), .val (.int (3 : Int32)), .val (.int K), .val (.long ((((K.toInt64) + ((3 : Int32).toInt64)) - (1 : Int64)) / ((3 : Int32).toInt64))), .second, .unset, .unset] [(.long (K.toInt64)), (.long (2 : Int64))])
  refine Go.step (fun _ k => XS.lmul X0.here hx rfl (hb hby d6_16) rfl k) ?_
  show Go _ _ _ _ _ _ _ T0 (mkF m 17 #[.val (.int x), .val (.int (3 : Int32)), .val (.int K), .val (.long ((((K.toInt64) + ((3 : Int32).toInt64)) - (1 : Int64)) / ((3 : Int32).toInt64))), .second, .unset, .unset] [(.long ((2 : Int64) * (K.toInt64)))])
  refine Go.step (fun _ k => XS.iloadN X0.here hx rfl (hb hby d6_17) rfl k) ?_
  show Go _ _ _ _ _ _ _ T0 (mkF m 18 #[.val (.int x), .val (.int (3 : Int32)), .val (.int K), .val (.long ((((K.toInt64) + ((3 : Int32).toInt64)) - (1 : Int64)) / ((3 : Int32).toInt64))), .second, .unset, .unset] [(.int (3 : Int32)), (.long ((2 : Int64) * (K.toInt64)))])
  refine Go.step (fun _ k => XS.i2l X0.here hx rfl (hb hby d6_18) rfl k) ?_
  show Go _ _ _ _ _ _ _ T0 (mkF m 19 #[.val (.int x), .val (.int (3 : Int32)), .val (.int K), .val (.long ((((K.toInt64) + ((3 : Int32).toInt64)) - (1 : Int64)) / ((3 : Int32).toInt64))), .second, .unset, .unset] [(.long ((3 : Int32).toInt64)), (.long ((2 : Int64) * (K.toInt64)))])
  refine Go.step (fun _ k => XS.ladd X0.here hx rfl (hb hby d6_19) rfl k) ?_
  show Go _ _ _ _ _ _ _ T0 (mkF m 20 #[.val (.int x), .val (.int (3 : Int32)), .val (.int K), .val (.long ((((K.toInt64) + ((3 : Int32).toInt64)) - (1 : Int64)) / ((3 : Int32).toInt64))), .second, .unset, .unset] [(.long (((2 : Int64) * (K.toInt64)) + ((3 : Int32).toInt64)))])
  refine Go.step (fun _ k => XS.lconst X0.here hx rfl (hb hby d6_20) k) ?_
  show Go _ _ _ _ _ _ _ T0 (mkF m 21 #[.val (.int x), .val (.int (3 : Int32)), .val (.int K), .val (.long ((((K.toInt64) + ((3 : Int32).toInt64)) - (1 : Int64)) / ((3 : Int32).toInt64))), .second, .unset, .unset] [(.long (1 : Int64)), (.long (((2 : Int64) * (K.toInt64)) + ((3 : Int32).toInt64)))])
  refine Go.step (fun _ k => XS.lsub X0.here hx rfl (hb hby d6_21) rfl k) ?_
  show Go _ _ _ _ _ _ _ T0 (mkF m 22 #[.val (.int x), .val (.int (3 : Int32)), .val (.int K), .val (.long ((((K.toInt64) + ((3 : Int32).toInt64)) - (1 : Int64)) / ((3 : Int32).toInt64))), .second, .unset, .unset] [(.long ((((2 : Int64) * (K.toInt64)) + ((3 : Int32).toInt64)) - (1 : Int64)))])
  refine Go.step (fun _ k => XS.iloadN X0.here hx rfl (hb hby d6_22) rfl k) ?_
  show Go _ _ _ _ _ _ _ T0 (mkF m 23 #[.val (.int x), .val (.int (3 : Int32)), .val (.int K), .val (.long ((((K.toInt64) + ((3 : Int32).toInt64)) - (1 : Int64)) / ((3 : Int32).toInt64))), .second, .unset, .unset] [(.int (3 : Int32)), (.long ((((2 : Int64) * (K.toInt64)) + ((3 : Int32).toInt64)) - (1 : Int64)))])
  refine Go.step (fun _ k => XS.i2l X0.here hx rfl (hb hby d6_23) rfl k) ?_
  show Go _ _ _ _ _ _ _ T0 (mkF m 24 #[.val (.int x), .val (.int (3 : Int32)), .val (.int K), .val (.long ((((K.toInt64) + ((3 : Int32).toInt64)) - (1 : Int64)) / ((3 : Int32).toInt64))), .second, .unset, .unset] [(.long ((3 : Int32).toInt64)), (.long ((((2 : Int64) * (K.toInt64)) + ((3 : Int32).toInt64)) - (1 : Int64)))])
  refine Go.step (fun _ k => XS.ldiv X0.here hx rfl (hb hby d6_24) rfl (by decide) k) ?_
  show Go _ _ _ _ _ _ _ T0 (mkF m 25 #[.val (.int x), .val (.int (3 : Int32)), .val (.int K), .val (.long ((((K.toInt64) + ((3 : Int32).toInt64)) - (1 : Int64)) / ((3 : Int32).toInt64))), .second, .unset, .unset] [(.long (((((2 : Int64) * (K.toInt64)) + ((3 : Int32).toInt64)) - (1 : Int64)) / ((3 : Int32).toInt64)))])
  refine Go.step (fun _ k => XS.lstore X0.here hx rfl (hb hby d6_25) rfl (l' := #[.val (.int x), .val (.int (3 : Int32)), .val (.int K), .val (.long ((((K.toInt64) + ((3 : Int32).toInt64)) - (1 : Int64)) / ((3 : Int32).toInt64))), .second, .val (.long (((((2 : Int64) * (K.toInt64)) + ((3 : Int32).toInt64)) - (1 : Int64)) / ((3 : Int32).toInt64))), .second]) rfl k) ?_
  show Go _ _ _ _ _ _ _ T0 (mkF m 27 #[.val (.int x), .val (.int (3 : Int32)), .val (.int K), .val (.long ((((K.toInt64) + ((3 : Int32).toInt64)) - (1 : Int64)) / ((3 : Int32).toInt64))), .second, .val (.long (((((2 : Int64) * (K.toInt64)) + ((3 : Int32).toInt64)) - (1 : Int64)) / ((3 : Int32).toInt64))), .second] [])
  refine Go.step (fun _ k => XS.iloadN X0.here hx rfl (hb hby d6_27) rfl k) ?_
  show Go _ _ _ _ _ _ _ T0 (mkF m 28 #[.val (.int x), .val (.int (3 : Int32)), .val (.int K), .val (.long ((((K.toInt64) + ((3 : Int32).toInt64)) - (1 : Int64)) / ((3 : Int32).toInt64))), .second, .val (.long (((((2 : Int64) * (K.toInt64)) + ((3 : Int32).toInt64)) - (1 : Int64)) / ((3 : Int32).toInt64))), .second] [(.int (3 : Int32))])
  refine Go.step (fun _ k => XS.iconst X0.here hx rfl (hb hby d6_28) k) ?_
  show Go _ _ _ _ _ _ _ T0 (mkF m 29 #[.val (.int x), .val (.int (3 : Int32)), .val (.int K), .val (.long ((((K.toInt64) + ((3 : Int32).toInt64)) - (1 : Int64)) / ((3 : Int32).toInt64))), .second, .val (.long (((((2 : Int64) * (K.toInt64)) + ((3 : Int32).toInt64)) - (1 : Int64)) / ((3 : Int32).toInt64))), .second] [(.int (3 : Int32)), (.int (3 : Int32))])
  refine Go.step (fun _ k => XS.icmpNo X0.here hx rfl (hb hby d6_29) rfl (flt (by decide : ¬ ((3 : Int32) < (3 : Int32)))).1 k) ?_
  show Go _ _ _ _ _ _ _ T0 (mkF m 32 #[.val (.int x), .val (.int (3 : Int32)), .val (.int K), .val (.long ((((K.toInt64) + ((3 : Int32).toInt64)) - (1 : Int64)) / ((3 : Int32).toInt64))), .second, .val (.long (((((2 : Int64) * (K.toInt64)) + ((3 : Int32).toInt64)) - (1 : Int64)) / ((3 : Int32).toInt64))), .second] [])
  refine Go.step (fun _ k => XS.iloadN X0.here hx rfl (hb hby d6_32) rfl k) ?_
  show Go _ _ _ _ _ _ _ T0 (mkF m 33 #[.val (.int x), .val (.int (3 : Int32)), .val (.int K), .val (.long ((((K.toInt64) + ((3 : Int32).toInt64)) - (1 : Int64)) / ((3 : Int32).toInt64))), .second, .val (.long (((((2 : Int64) * (K.toInt64)) + ((3 : Int32).toInt64)) - (1 : Int64)) / ((3 : Int32).toInt64))), .second] [(.int x)])
  refine Go.step (fun _ k => XS.i2l X0.here hx rfl (hb hby d6_33) rfl k) ?_
  show Go _ _ _ _ _ _ _ T0 (mkF m 34 #[.val (.int x), .val (.int (3 : Int32)), .val (.int K), .val (.long ((((K.toInt64) + ((3 : Int32).toInt64)) - (1 : Int64)) / ((3 : Int32).toInt64))), .second, .val (.long (((((2 : Int64) * (K.toInt64)) + ((3 : Int32).toInt64)) - (1 : Int64)) / ((3 : Int32).toInt64))), .second] [(.long (x.toInt64))])
  refine Go.step (fun _ k => XS.lload X0.here hx rfl (hb hby d6_34) rfl k) ?_
  show Go _ _ _ _ _ _ _ T0 (mkF m 36 #[.val (.int x), .val (.int (3 : Int32)), .val (.int K), .val (.long ((((K.toInt64) + ((3 : Int32).toInt64)) - (1 : Int64)) / ((3 : Int32).toInt64))), .second, .val (.long (((((2 : Int64) * (K.toInt64)) + ((3 : Int32).toInt64)) - (1 : Int64)) / ((3 : Int32).toInt64))), .second] [(.long (((((2 : Int64) * (K.toInt64)) + ((3 : Int32).toInt64)) - (1 : Int64)) / ((3 : Int32).toInt64))), (.long (x.toInt64))])
  refine Go.step (fun _ k => XS.lcmp X0.here hx rfl (hb hby d6_36) rfl k) ?_
  show Go _ _ _ _ _ _ _ T0 (mkF m 37 #[.val (.int x), .val (.int (3 : Int32)), .val (.int K), .val (.long ((((K.toInt64) + ((3 : Int32).toInt64)) - (1 : Int64)) / ((3 : Int32).toInt64))), .second, .val (.long (((((2 : Int64) * (K.toInt64)) + ((3 : Int32).toInt64)) - (1 : Int64)) / ((3 : Int32).toInt64))), .second] [(.int (lcmpW (x.toInt64) (((((2 : Int64) * (K.toInt64)) + ((3 : Int32).toInt64)) - (1 : Int64)) / ((3 : Int32).toInt64))))])
  by_cases hc37_1 : (x.toInt64) < (((((2 : Int64) * (K.toInt64)) + ((3 : Int32).toInt64)) - (1 : Int64)) / ((3 : Int32).toInt64))
  · refine Go.step (fun _ k => XS.ifYes X0.here hx rfl (pc0 := 37) (pc' := 42) rfl (hb hby d6_37) rfl ((if0 _ _).trans (tlt ((lw_lt (x.toInt64) (((((2 : Int64) * (K.toInt64)) + ((3 : Int32).toInt64)) - (1 : Int64)) / ((3 : Int32).toInt64))).mpr hc37_1)).1) (by decide) (by decide) k) ?_
    show Go _ _ _ _ _ _ _ T0 (mkF m 42 #[.val (.int x), .val (.int (3 : Int32)), .val (.int K), .val (.long ((((K.toInt64) + ((3 : Int32).toInt64)) - (1 : Int64)) / ((3 : Int32).toInt64))), .second, .val (.long (((((2 : Int64) * (K.toInt64)) + ((3 : Int32).toInt64)) - (1 : Int64)) / ((3 : Int32).toInt64))), .second] [])
    refine Go.step (fun _ k => XS.iloadN X0.here hx rfl (hb hby d6_42) rfl k) ?_
    show Go _ _ _ _ _ _ _ T0 (mkF m 43 #[.val (.int x), .val (.int (3 : Int32)), .val (.int K), .val (.long ((((K.toInt64) + ((3 : Int32).toInt64)) - (1 : Int64)) / ((3 : Int32).toInt64))), .second, .val (.long (((((2 : Int64) * (K.toInt64)) + ((3 : Int32).toInt64)) - (1 : Int64)) / ((3 : Int32).toInt64))), .second] [(.int (3 : Int32))])
    refine Go.step (fun _ k => XS.iconst X0.here hx rfl (hb hby d6_43) k) ?_
    show Go _ _ _ _ _ _ _ T0 (mkF m 44 #[.val (.int x), .val (.int (3 : Int32)), .val (.int K), .val (.long ((((K.toInt64) + ((3 : Int32).toInt64)) - (1 : Int64)) / ((3 : Int32).toInt64))), .second, .val (.long (((((2 : Int64) * (K.toInt64)) + ((3 : Int32).toInt64)) - (1 : Int64)) / ((3 : Int32).toInt64))), .second] [(.int (2 : Int32)), (.int (3 : Int32))])
    refine Go.step (fun _ k => XS.icmpNo X0.here hx rfl (hb hby d6_44) rfl (flt (by decide : ¬ ((3 : Int32) < (2 : Int32)))).1 k) ?_
    show Go _ _ _ _ _ _ _ T0 (mkF m 47 #[.val (.int x), .val (.int (3 : Int32)), .val (.int K), .val (.long ((((K.toInt64) + ((3 : Int32).toInt64)) - (1 : Int64)) / ((3 : Int32).toInt64))), .second, .val (.long (((((2 : Int64) * (K.toInt64)) + ((3 : Int32).toInt64)) - (1 : Int64)) / ((3 : Int32).toInt64))), .second] [])
    refine Go.step (fun _ k => XS.iloadN X0.here hx rfl (hb hby d6_47) rfl k) ?_
    show Go _ _ _ _ _ _ _ T0 (mkF m 48 #[.val (.int x), .val (.int (3 : Int32)), .val (.int K), .val (.long ((((K.toInt64) + ((3 : Int32).toInt64)) - (1 : Int64)) / ((3 : Int32).toInt64))), .second, .val (.long (((((2 : Int64) * (K.toInt64)) + ((3 : Int32).toInt64)) - (1 : Int64)) / ((3 : Int32).toInt64))), .second] [(.int x)])
    refine Go.step (fun _ k => XS.i2l X0.here hx rfl (hb hby d6_48) rfl k) ?_
    show Go _ _ _ _ _ _ _ T0 (mkF m 49 #[.val (.int x), .val (.int (3 : Int32)), .val (.int K), .val (.long ((((K.toInt64) + ((3 : Int32).toInt64)) - (1 : Int64)) / ((3 : Int32).toInt64))), .second, .val (.long (((((2 : Int64) * (K.toInt64)) + ((3 : Int32).toInt64)) - (1 : Int64)) / ((3 : Int32).toInt64))), .second] [(.long (x.toInt64))])
    refine Go.step (fun _ k => XS.lloadN X0.here hx rfl (hb hby d6_49) rfl k) ?_
    show Go _ _ _ _ _ _ _ T0 (mkF m 50 #[.val (.int x), .val (.int (3 : Int32)), .val (.int K), .val (.long ((((K.toInt64) + ((3 : Int32).toInt64)) - (1 : Int64)) / ((3 : Int32).toInt64))), .second, .val (.long (((((2 : Int64) * (K.toInt64)) + ((3 : Int32).toInt64)) - (1 : Int64)) / ((3 : Int32).toInt64))), .second] [(.long ((((K.toInt64) + ((3 : Int32).toInt64)) - (1 : Int64)) / ((3 : Int32).toInt64))), (.long (x.toInt64))])
    refine Go.step (fun _ k => XS.lcmp X0.here hx rfl (hb hby d6_50) rfl k) ?_
    show Go _ _ _ _ _ _ _ T0 (mkF m 51 #[.val (.int x), .val (.int (3 : Int32)), .val (.int K), .val (.long ((((K.toInt64) + ((3 : Int32).toInt64)) - (1 : Int64)) / ((3 : Int32).toInt64))), .second, .val (.long (((((2 : Int64) * (K.toInt64)) + ((3 : Int32).toInt64)) - (1 : Int64)) / ((3 : Int32).toInt64))), .second] [(.int (lcmpW (x.toInt64) ((((K.toInt64) + ((3 : Int32).toInt64)) - (1 : Int64)) / ((3 : Int32).toInt64))))])
    by_cases hc51_2 : (x.toInt64) < ((((K.toInt64) + ((3 : Int32).toInt64)) - (1 : Int64)) / ((3 : Int32).toInt64))
    · refine Go.step (fun _ k => XS.ifYes X0.here hx rfl (pc0 := 51) (pc' := 56) rfl (hb hby d6_51) rfl ((if0 _ _).trans (tlt ((lw_lt (x.toInt64) ((((K.toInt64) + ((3 : Int32).toInt64)) - (1 : Int64)) / ((3 : Int32).toInt64))).mpr hc51_2)).1) (by decide) (by decide) k) ?_
      show Go _ _ _ _ _ _ _ T0 (mkF m 56 #[.val (.int x), .val (.int (3 : Int32)), .val (.int K), .val (.long ((((K.toInt64) + ((3 : Int32).toInt64)) - (1 : Int64)) / ((3 : Int32).toInt64))), .second, .val (.long (((((2 : Int64) * (K.toInt64)) + ((3 : Int32).toInt64)) - (1 : Int64)) / ((3 : Int32).toInt64))), .second] [])
      refine Go.step (fun _ k => XS.iconst X0.here hx rfl (hb hby d6_56) k) ?_
      show Go _ _ _ _ _ _ _ T0 (mkF m 57 #[.val (.int x), .val (.int (3 : Int32)), .val (.int K), .val (.long ((((K.toInt64) + ((3 : Int32).toInt64)) - (1 : Int64)) / ((3 : Int32).toInt64))), .second, .val (.long (((((2 : Int64) * (K.toInt64)) + ((3 : Int32).toInt64)) - (1 : Int64)) / ((3 : Int32).toInt64))), .second] [(.int (0 : Int32))])
      refine Go.retI X0 hx hlk hret (hb hby d6_57) (by decide) (by decide) ?_
      try rw [e0]
      exact ⟨by simp only [refW]; rw [if_pos hc37_1]; rw [if_pos hc51_2], N0, rfl⟩
    · refine Go.step (fun _ k => XS.ifNo X0.here hx rfl (hb hby d6_51) rfl ((if0 _ _).trans (flt (fun q => hc51_2 ((lw_lt (x.toInt64) ((((K.toInt64) + ((3 : Int32).toInt64)) - (1 : Int64)) / ((3 : Int32).toInt64))).mp q))).1) k) ?_
      show Go _ _ _ _ _ _ _ T0 (mkF m 54 #[.val (.int x), .val (.int (3 : Int32)), .val (.int K), .val (.long ((((K.toInt64) + ((3 : Int32).toInt64)) - (1 : Int64)) / ((3 : Int32).toInt64))), .second, .val (.long (((((2 : Int64) * (K.toInt64)) + ((3 : Int32).toInt64)) - (1 : Int64)) / ((3 : Int32).toInt64))), .second] [])
      refine Go.step (fun _ k => XS.iconst X0.here hx rfl (hb hby d6_54) k) ?_
      show Go _ _ _ _ _ _ _ T0 (mkF m 55 #[.val (.int x), .val (.int (3 : Int32)), .val (.int K), .val (.long ((((K.toInt64) + ((3 : Int32).toInt64)) - (1 : Int64)) / ((3 : Int32).toInt64))), .second, .val (.long (((((2 : Int64) * (K.toInt64)) + ((3 : Int32).toInt64)) - (1 : Int64)) / ((3 : Int32).toInt64))), .second] [(.int (1 : Int32))])
      refine Go.retI X0 hx hlk hret (hb hby d6_55) (by decide) (by decide) ?_
      try rw [e0]
      exact ⟨by simp only [refW]; rw [if_pos hc37_1]; rw [if_neg hc51_2], N0, rfl⟩
  · refine Go.step (fun _ k => XS.ifNo X0.here hx rfl (hb hby d6_37) rfl ((if0 _ _).trans (flt (fun q => hc37_1 ((lw_lt (x.toInt64) (((((2 : Int64) * (K.toInt64)) + ((3 : Int32).toInt64)) - (1 : Int64)) / ((3 : Int32).toInt64))).mp q))).1) k) ?_
    show Go _ _ _ _ _ _ _ T0 (mkF m 40 #[.val (.int x), .val (.int (3 : Int32)), .val (.int K), .val (.long ((((K.toInt64) + ((3 : Int32).toInt64)) - (1 : Int64)) / ((3 : Int32).toInt64))), .second, .val (.long (((((2 : Int64) * (K.toInt64)) + ((3 : Int32).toInt64)) - (1 : Int64)) / ((3 : Int32).toInt64))), .second] [])
    refine Go.step (fun _ k => XS.iconst X0.here hx rfl (hb hby d6_40) k) ?_
    show Go _ _ _ _ _ _ _ T0 (mkF m 41 #[.val (.int x), .val (.int (3 : Int32)), .val (.int K), .val (.long ((((K.toInt64) + ((3 : Int32).toInt64)) - (1 : Int64)) / ((3 : Int32).toInt64))), .second, .val (.long (((((2 : Int64) * (K.toInt64)) + ((3 : Int32).toInt64)) - (1 : Int64)) / ((3 : Int32).toInt64))), .second] [(.int (2 : Int32))])
    refine Go.retI X0 hx hlk hret (hb hby d6_41) (by decide) (by decide) ?_
    try rw [e0]
    exact ⟨by simp only [refW]; rw [if_neg hc37_1], N0, rfl⟩
theorem ef_rm6_3 (m : MethodId) (x : Int32) (K : Int32) : entryFrame m #[(.int x), (.int (3 : Int32)), (.int K)] 7 = mkF m 0 #[.val (.int x), .val (.int (3 : Int32)), .val (.int K), .unset, .unset, .unset, .unset] [] := by first | (simp [entryFrame, mkF, argsToLocals, Value.category]; done) | rfl
theorem rm6_3 (l : Launch) (Z : State) (a0 : Array Value) (hw : ∀ d ∈ tables_1, d.before a0 Z = true) (x K : Int32) (h0 : Heap) (n0 : Nat) (Z0 : n0 ≤ h0.size)  :
    Con l Z (⟨"tidewatch/decision/KeyGroupCeilingAtMostPinLaw", "ownerRef", "(III)I"⟩ : MethodName) method_3_code 7 (some .int) ({ frames := 0, cells := 0, slots := 0, locals := 0 } : Room) #[(.int x), (.int (3 : Int32)), (.int K)] h0 (fun r h L => r = some (.int (refW 3 x K)) ∧ Fr n0 L ∧ h = h0) :=
  con_of (plainFor_of_name pn_6) (fun p_ e_ s_ m_ b_ meth_ c_ T_ X_ hx hZ hby hml hown hnm hret hlk e0 => Go.cast (ef_rm6_3 m_ x K) (w6_3 x K X_ hx hZ hw hby hml hown hnm hret hlk e0 Z0 (Fr.nil n0) ))
theorem d8_0 : decode prog_33_method_7_code 0 = .ok (.iload_n 1, 1) := by decide +kernel
theorem d8_1 : decode prog_33_method_7_code 1 = .ok (.i2l, 1) := by decide +kernel
theorem d8_2 : decode prog_33_method_7_code 2 = .ok (.aload_n 0, 1) := by decide +kernel
theorem d8_3 : decode prog_33_method_7_code 3 = .ok (.getfield 28, 3) := by decide +kernel
theorem d8_6 : decode prog_33_method_7_code 6 = .ok (.arraylength, 1) := by decide +kernel
theorem d8_7 : decode prog_33_method_7_code 7 = .ok (.i2l, 1) := by decide +kernel
theorem d8_8 : decode prog_33_method_7_code 8 = .ok (.lmul, 1) := by decide +kernel
theorem d8_9 : decode prog_33_method_7_code 9 = .ok (.aload_n 0, 1) := by decide +kernel
theorem d8_10 : decode prog_33_method_7_code 10 = .ok (.getfield 16, 3) := by decide +kernel
theorem d8_13 : decode prog_33_method_7_code 13 = .ok (.i2l, 1) := by decide +kernel
theorem d8_14 : decode prog_33_method_7_code 14 = .ok (.ldiv, 1) := by decide +kernel
theorem d8_15 : decode prog_33_method_7_code 15 = .ok (.l2i, 1) := by decide +kernel
theorem d8_16 : decode prog_33_method_7_code 16 = .ok (.ireturn, 1) := by decide +kernel
set_option maxRecDepth 65536 in
set_option maxHeartbeats 40000000 in
theorem w8_1 {p : Program} {l : Launch} {e : Env} {s : State} {m : MethodId} {args : Array Value} {below : List Frame} {meth : Method} {c_ : Code} {T0 : State} {locs : List Loc} {Z : State} {a0 : Array Value} {h0 : Heap} {n0 : Nat} (a : Addr) (x : Int32) (c : Addr) (K : Int32) (g : Nat → UInt64)
    (X0 : Stand p l e ({ frames := 0, cells := 0, slots := 0, locals := 0 } : Room) s m args below meth c_ T0 locs 0 0) (hx : p.tables.exec = Jvm.exec) (hZ : Z.Warmed39 s.vm) (hw : ∀ d ∈ tables_1, d.before a0 Z = true) (hby : c_.code = prog_33_method_7_code) (hml : c_.maxLocals = 2) (hown : s.vm.findClass "tidewatch/decision/KeyGroupCeiling" = some m.cls) (hnm : meth.name = "owner") (hret : meth.sig.returnType = some .int) (hlk : meth.locks = false) (e0 : T0.heap = h0) (Z0 : n0 ≤ h0.size) (N0 : Fr n0 locs) (E_a : Exa Z h0 a "tidewatch/decision/KeyGroupCeiling") (F_keyGroups_a : Fld Z h0 a "tidewatch/decision/KeyGroupCeiling" "keyGroups" "I" (.int K)) (F_shares_a : Fld Z h0 a "tidewatch/decision/KeyGroupCeiling" "shares" "[D" (.ref c)) (V_c : Dv Z h0 c (1 : Int32) g) (hK : 1 ≤ K.toInt) :
    Go p e below s ({ frames := 0, cells := 0, slots := 0, locals := 0 } : Room).cells ({ frames := 0, cells := 0, slots := 0, locals := 0 } : Room).slots (fun r h L => r = some (.int (ownW x (1 : Int32) K)) ∧ Fr n0 L ∧ h = h0) T0 (mkF m 0 #[.val (.ref a), .val (.int x)] []) := by
  show Go _ _ _ _ _ _ _ T0 (mkF m 0 #[.val (.ref a), .val (.int x)] [])
  refine Go.step (fun _ k => XS.iloadN X0.here hx rfl (hb hby d8_0) rfl k) ?_
  show Go _ _ _ _ _ _ _ T0 (mkF m 1 #[.val (.ref a), .val (.int x)] [(.int x)])
  refine Go.step (fun _ k => XS.i2l X0.here hx rfl (hb hby d8_1) rfl k) ?_
  show Go _ _ _ _ _ _ _ T0 (mkF m 2 #[.val (.ref a), .val (.int x)] [(.long (x.toInt64))])
  refine Go.step (fun _ k => XS.aloadN X0.here hx rfl (hb hby d8_2) rfl rfl k) ?_
  show Go _ _ _ _ _ _ _ T0 (mkF m 3 #[.val (.ref a), .val (.int x)] [(.ref a), (.long (x.toInt64))])
  obtain ⟨T1, X1, e1, st1⟩ := getF X0 hx hZ hown (host := "") (Or.inl (hw _ (List.mem_of_getElem? (i := 27) rfl))) Via.refl e0 F_shares_a (g := (mkF m 3 #[.val (.ref a), .val (.int x)] [(.ref a), (.long (x.toInt64))])) rfl rfl (hb hby d8_3)
  refine Go.step st1 ?_
  show Go _ _ _ _ _ _ _ T1 (mkF m 6 #[.val (.ref a), .val (.int x)] [(.ref c), (.long (x.toInt64))])
  refine Go.alen X1 hx hZ e1 V_c (hb hby d8_6) ?_
  show Go _ _ _ _ _ _ _ T1 (mkF m 7 #[.val (.ref a), .val (.int x)] [(.int (1 : Int32)), (.long (x.toInt64))])
  refine Go.step (fun _ k => XS.i2l X1.here hx rfl (hb hby d8_7) rfl k) ?_
  show Go _ _ _ _ _ _ _ T1 (mkF m 8 #[.val (.ref a), .val (.int x)] [(.long ((1 : Int32).toInt64)), (.long (x.toInt64))])
  refine Go.step (fun _ k => XS.lmul X1.here hx rfl (hb hby d8_8) rfl k) ?_
  show Go _ _ _ _ _ _ _ T1 (mkF m 9 #[.val (.ref a), .val (.int x)] [(.long ((x.toInt64) * ((1 : Int32).toInt64)))])
  refine Go.step (fun _ k => XS.aloadN X1.here hx rfl (hb hby d8_9) rfl rfl k) ?_
  show Go _ _ _ _ _ _ _ T1 (mkF m 10 #[.val (.ref a), .val (.int x)] [(.ref a), (.long ((x.toInt64) * ((1 : Int32).toInt64)))])
  obtain ⟨T2, X2, e2, st2⟩ := getF X1 hx hZ hown (host := "") (Or.inl (hw _ (List.mem_of_getElem? (i := 16) rfl))) Via.refl e1 F_keyGroups_a (g := (mkF m 10 #[.val (.ref a), .val (.int x)] [(.ref a), (.long ((x.toInt64) * ((1 : Int32).toInt64)))])) rfl rfl (hb hby d8_10)
  refine Go.step st2 ?_
  show Go _ _ _ _ _ _ _ T2 (mkF m 13 #[.val (.ref a), .val (.int x)] [(.int K), (.long ((x.toInt64) * ((1 : Int32).toInt64)))])
  refine Go.step (fun _ k => XS.i2l X2.here hx rfl (hb hby d8_13) rfl k) ?_
  show Go _ _ _ _ _ _ _ T2 (mkF m 14 #[.val (.ref a), .val (.int x)] [(.long (K.toInt64)), (.long ((x.toInt64) * ((1 : Int32).toInt64)))])
  refine Go.step (fun _ k => XS.ldiv X2.here hx rfl (hb hby d8_14) rfl (own_Kl hK) k) ?_
  show Go _ _ _ _ _ _ _ T2 (mkF m 15 #[.val (.ref a), .val (.int x)] [(.long (((x.toInt64) * ((1 : Int32).toInt64)) / (K.toInt64)))])
  refine Go.step (fun _ k => XS.l2i X2.here hx rfl (hb hby d8_15) rfl k) ?_
  show Go _ _ _ _ _ _ _ T2 (mkF m 16 #[.val (.ref a), .val (.int x)] [(.int ((((x.toInt64) * ((1 : Int32).toInt64)) / (K.toInt64)).toInt32))])
  refine Go.retI X2 hx hlk hret (hb hby d8_16) (by decide) (by decide) ?_
  try rw [e2]
  exact ⟨rfl, N0, rfl⟩
theorem ef_rm8_1 (m : MethodId) (a : Addr) (x : Int32) : entryFrame m #[(.ref a), (.int x)] 2 = mkF m 0 #[.val (.ref a), .val (.int x)] [] := by first | (simp [entryFrame, mkF, argsToLocals, Value.category]; done) | rfl
theorem rm8_1 (l : Launch) (Z : State) (a0 : Array Value) (hw : ∀ d ∈ tables_1, d.before a0 Z = true) (a : Addr) (x : Int32) (c : Addr) (K : Int32) (g : Nat → UInt64) (h0 : Heap) (n0 : Nat) (Z0 : n0 ≤ h0.size) (E_a : Exa Z h0 a "tidewatch/decision/KeyGroupCeiling") (F_keyGroups_a : Fld Z h0 a "tidewatch/decision/KeyGroupCeiling" "keyGroups" "I" (.int K)) (F_shares_a : Fld Z h0 a "tidewatch/decision/KeyGroupCeiling" "shares" "[D" (.ref c)) (V_c : Dv Z h0 c (1 : Int32) g) (hK : 1 ≤ K.toInt) :
    Con l Z (⟨"tidewatch/decision/KeyGroupCeiling", "owner", "(I)I"⟩ : MethodName) prog_33_method_7_code 2 (some .int) ({ frames := 0, cells := 0, slots := 0, locals := 0 } : Room) #[(.ref a), (.int x)] h0 (fun r h L => r = some (.int (ownW x (1 : Int32) K)) ∧ Fr n0 L ∧ h = h0) :=
  con_of (plainFor_of_name pn_2) (fun p_ e_ s_ m_ b_ meth_ c_ T_ X_ hx hZ hby hml hown hnm hret hlk e0 => Go.cast (ef_rm8_1 m_ a x) (w8_1 a x c K g X_ hx hZ hw hby hml hown hnm hret hlk e0 Z0 (Fr.nil n0) E_a F_keyGroups_a F_shares_a V_c hK))
theorem d7_0 : decode prog_33_method_6_code 0 = .ok (.aload_n 0, 1) := by decide +kernel
theorem d7_1 : decode prog_33_method_6_code 1 = .ok (.getfield 31, 3) := by decide +kernel
theorem d7_4 : decode prog_33_method_6_code 4 = .ok (.aload_n 0, 1) := by decide +kernel
theorem d7_5 : decode prog_33_method_6_code 5 = .ok (.iload_n 2, 1) := by decide +kernel
theorem d7_6 : decode prog_33_method_6_code 6 = .ok (.invokevirtual 82, 3) := by decide +kernel
theorem pd_2 : parseMethodDescriptor "(I)I" = some ⟨[.int], some .int⟩ := by decide +kernel
theorem d7_9 : decode prog_33_method_6_code 9 = .ok (.iconst 1, 1) := by decide +kernel
theorem d7_10 : decode prog_33_method_6_code 10 = .ok (.iadd, 1) := by decide +kernel
theorem d7_11 : decode prog_33_method_6_code 11 = .ok (.daload, 1) := by decide +kernel
theorem d7_12 : decode prog_33_method_6_code 12 = .ok (.aload_n 0, 1) := by decide +kernel
theorem d7_13 : decode prog_33_method_6_code 13 = .ok (.getfield 31, 3) := by decide +kernel
theorem d7_16 : decode prog_33_method_6_code 16 = .ok (.aload_n 0, 1) := by decide +kernel
theorem d7_17 : decode prog_33_method_6_code 17 = .ok (.iload_n 1, 1) := by decide +kernel
theorem d7_18 : decode prog_33_method_6_code 18 = .ok (.invokevirtual 82, 3) := by decide +kernel
theorem d7_21 : decode prog_33_method_6_code 21 = .ok (.daload, 1) := by decide +kernel
theorem d7_22 : decode prog_33_method_6_code 22 = .ok (.dsub, 1) := by decide +kernel
theorem d7_23 : decode prog_33_method_6_code 23 = .ok (.dreturn, 1) := by decide +kernel
set_option maxRecDepth 65536 in
set_option maxHeartbeats 40000000 in
theorem w7_100 {p : Program} {l : Launch} {e : Env} {s : State} {m : MethodId} {args : Array Value} {below : List Frame} {meth : Method} {c_ : Code} {T0 : State} {locs : List Loc} {Z : State} {a0 : Array Value} {h0 : Heap} {n0 : Nat} (a : Addr) (fi la : Int32) (c d : Addr) (K : Int32) (g gb : Nat → UInt64)
    (X0 : Stand p l e ({ frames := 1, cells := 0, slots := 0, locals := 30 } : Room) s m args below meth c_ T0 locs 0 0) (hx : p.tables.exec = Jvm.exec) (hZ : Z.Warmed39 s.vm) (hw : ∀ d ∈ tables_1, d.before a0 Z = true) (hby : c_.code = prog_33_method_6_code) (hml : c_.maxLocals = 3) (hown : s.vm.findClass "tidewatch/decision/KeyGroupCeiling" = some m.cls) (hnm : meth.name = "atMost") (hret : meth.sig.returnType = some .double) (hlk : meth.locks = false) (e0 : T0.heap = h0) (Z0 : n0 ≤ h0.size) (N0 : Fr n0 locs) (E_a : Exa Z h0 a "tidewatch/decision/KeyGroupCeiling") (F_keyGroups_a : Fld Z h0 a "tidewatch/decision/KeyGroupCeiling" "keyGroups" "I" (.int K)) (F_shares_a : Fld Z h0 a "tidewatch/decision/KeyGroupCeiling" "shares" "[D" (.ref c)) (V_c : Dv Z h0 c (1 : Int32) g) (F_before_a : Fld Z h0 a "tidewatch/decision/KeyGroupCeiling" "before" "[D" (.ref d)) (V_d : Dv Z h0 d (2 : Int32) gb) (hK : 1 ≤ K.toInt) (ho1 : ownW fi (1 : Int32) K = (0 : Int32)) (ho2 : ownW la (1 : Int32) K = (0 : Int32)) (hn : Jvm.Free.Fl.NoNaN64 (FP.dsub (gb 1) (gb 0))) :
    Go p e below s ({ frames := 1, cells := 0, slots := 0, locals := 30 } : Room).cells ({ frames := 1, cells := 0, slots := 0, locals := 30 } : Room).slots (fun r h L => r = some (.double (FP.dsub (gb 1) (gb 0))) ∧ Fr n0 L ∧ h = h0) T0 (mkF m 0 #[.val (.ref a), .val (.int fi), .val (.int la)] []) := by
  show Go _ _ _ _ _ _ _ T0 (mkF m 0 #[.val (.ref a), .val (.int fi), .val (.int la)] [])
  refine Go.step (fun _ k => XS.aloadN X0.here hx rfl (hb hby d7_0) rfl rfl k) ?_
  show Go _ _ _ _ _ _ _ T0 (mkF m 1 #[.val (.ref a), .val (.int fi), .val (.int la)] [(.ref a)])
  obtain ⟨T1, X1, e1, st1⟩ := getF X0 hx hZ hown (host := "") (Or.inl (hw _ (List.mem_of_getElem? (i := 29) rfl))) Via.refl e0 F_before_a (g := (mkF m 1 #[.val (.ref a), .val (.int fi), .val (.int la)] [(.ref a)])) rfl rfl (hb hby d7_1)
  refine Go.step st1 ?_
  show Go _ _ _ _ _ _ _ T1 (mkF m 4 #[.val (.ref a), .val (.int fi), .val (.int la)] [(.ref d)])
  refine Go.step (fun _ k => XS.aloadN X1.here hx rfl (hb hby d7_4) rfl rfl k) ?_
  show Go _ _ _ _ _ _ _ T1 (mkF m 5 #[.val (.ref a), .val (.int fi), .val (.int la)] [(.ref a), (.ref d)])
  refine Go.step (fun _ k => XS.iloadN X1.here hx rfl (hb hby d7_5) rfl k) ?_
  show Go _ _ _ _ _ _ _ T1 (mkF m 6 #[.val (.ref a), .val (.int fi), .val (.int la)] [(.int la), (.ref a), (.ref d)])
  refine Go.callP X1 hx hZ (by rw [hml]; rfl) (y := (⟨"tidewatch/decision/KeyGroupCeiling", "owner", "(I)I"⟩ : MethodName)) (a := a) (argsL := [(.int la)]) (rest := [(.ref d)]) hown (hw _ (List.mem_of_getElem? (i := 49) rfl)) (hw _ (List.mem_of_getElem? (i := 50) rfl)) (hw _ (List.mem_of_getElem? (i := 8) rfl)) (hw _ (List.mem_of_getElem? (i := 51) rfl)) (hw _ (List.mem_of_getElem? (i := 9) rfl)) (hw _ (List.mem_of_getElem? (i := 52) rfl)) (by decide) (rm8_1 l Z a0 hw a la c K g h0 n0 Z0 E_a F_keyGroups_a F_shares_a V_c hK) e1 E_a (hb hby d7_6) (lenOf pd_2 rfl) rfl rfl (W := 1) (Nat.le_of_eq rfl) (by decide) (by decide) (by decide) (by decide) ?_
  intro v2 T2 L2 X2 Q2
  rw [ho2] at Q2
  obtain ⟨rfl, N2q, hh2⟩ := Q2
  have N2 := Fr.app N0 N2q
  show Go _ _ _ _ _ _ _ T2 (mkF m 9 #[.val (.ref a), .val (.int fi), .val (.int la)] [(.int (0 : Int32)), (.ref d)])
  refine Go.step (fun _ k => XS.iconst X2.here hx rfl (hb hby d7_9) k) ?_
  show Go _ _ _ _ _ _ _ T2 (mkF m 10 #[.val (.ref a), .val (.int fi), .val (.int la)] [(.int (1 : Int32)), (.int (0 : Int32)), (.ref d)])
  refine Go.step (fun _ k => XS.iadd X2.here hx rfl (hb hby d7_10) rfl k) ?_
  show Go _ _ _ _ _ _ _ T2 (mkF m 11 #[.val (.ref a), .val (.int fi), .val (.int la)] [(.int (1 : Int32)), (.ref d)])
  refine Go.daload X2 hx hZ hh2 V_d (j := (1 : Int32)) (v := (gb 1)) (by decide) rfl (hb hby d7_11) ?_
  show Go _ _ _ _ _ _ _ T2 (mkF m 12 #[.val (.ref a), .val (.int fi), .val (.int la)] [(.double (gb 1))])
  refine Go.step (fun _ k => XS.aloadN X2.here hx rfl (hb hby d7_12) rfl rfl k) ?_
  show Go _ _ _ _ _ _ _ T2 (mkF m 13 #[.val (.ref a), .val (.int fi), .val (.int la)] [(.ref a), (.double (gb 1))])
  obtain ⟨T3, X3, e3, st3⟩ := getF X2 hx hZ hown (host := "") (Or.inl (hw _ (List.mem_of_getElem? (i := 29) rfl))) Via.refl hh2 F_before_a (g := (mkF m 13 #[.val (.ref a), .val (.int fi), .val (.int la)] [(.ref a), (.double (gb 1))])) rfl rfl (hb hby d7_13)
  refine Go.step st3 ?_
  show Go _ _ _ _ _ _ _ T3 (mkF m 16 #[.val (.ref a), .val (.int fi), .val (.int la)] [(.ref d), (.double (gb 1))])
  refine Go.step (fun _ k => XS.aloadN X3.here hx rfl (hb hby d7_16) rfl rfl k) ?_
  show Go _ _ _ _ _ _ _ T3 (mkF m 17 #[.val (.ref a), .val (.int fi), .val (.int la)] [(.ref a), (.ref d), (.double (gb 1))])
  refine Go.step (fun _ k => XS.iloadN X3.here hx rfl (hb hby d7_17) rfl k) ?_
  show Go _ _ _ _ _ _ _ T3 (mkF m 18 #[.val (.ref a), .val (.int fi), .val (.int la)] [(.int fi), (.ref a), (.ref d), (.double (gb 1))])
  refine Go.callP X3 hx hZ (by rw [hml]; rfl) (y := (⟨"tidewatch/decision/KeyGroupCeiling", "owner", "(I)I"⟩ : MethodName)) (a := a) (argsL := [(.int fi)]) (rest := [(.ref d), (.double (gb 1))]) hown (hw _ (List.mem_of_getElem? (i := 49) rfl)) (hw _ (List.mem_of_getElem? (i := 50) rfl)) (hw _ (List.mem_of_getElem? (i := 8) rfl)) (hw _ (List.mem_of_getElem? (i := 51) rfl)) (hw _ (List.mem_of_getElem? (i := 9) rfl)) (hw _ (List.mem_of_getElem? (i := 52) rfl)) (by decide) (rm8_1 l Z a0 hw a fi c K g h0 n0 Z0 E_a F_keyGroups_a F_shares_a V_c hK) e3 E_a (hb hby d7_18) (lenOf pd_2 rfl) rfl rfl (W := 3) (Nat.le_of_eq rfl) (by decide) (by decide) (by decide) (by decide) ?_
  intro v4 T4 L4 X4 Q4
  rw [ho1] at Q4
  obtain ⟨rfl, N4q, hh4⟩ := Q4
  have N4 := Fr.app N2 N4q
  show Go _ _ _ _ _ _ _ T4 (mkF m 21 #[.val (.ref a), .val (.int fi), .val (.int la)] [(.int (0 : Int32)), (.ref d), (.double (gb 1))])
  refine Go.daload X4 hx hZ hh4 V_d (j := (0 : Int32)) (v := (gb 0)) (by decide) rfl (hb hby d7_21) ?_
  show Go _ _ _ _ _ _ _ T4 (mkF m 22 #[.val (.ref a), .val (.int fi), .val (.int la)] [(.double (gb 0)), (.double (gb 1))])
  refine Go.step (fun _ k => XS.dsubS X4.here hx rfl (hb hby d7_22) rfl hn rfl k) ?_
  show Go _ _ _ _ _ _ _ T4 (mkF m 23 #[.val (.ref a), .val (.int fi), .val (.int la)] [(.double (FP.dsub (gb 1) (gb 0)))])
  refine Go.retD X4 hx hlk hret (hb hby d7_23) (by decide) (by decide) ?_
  try rw [hh4]
  exact ⟨rfl, N4, rfl⟩
theorem ef_rm7_100 (m : MethodId) (a : Addr) (fi : Int32) (la : Int32) : entryFrame m #[(.ref a), (.int fi), (.int la)] 3 = mkF m 0 #[.val (.ref a), .val (.int fi), .val (.int la)] [] := by first | (simp [entryFrame, mkF, argsToLocals, Value.category]; done) | rfl
theorem rm7_100 (l : Launch) (Z : State) (a0 : Array Value) (hw : ∀ d ∈ tables_1, d.before a0 Z = true) (a : Addr) (fi la : Int32) (c d : Addr) (K : Int32) (g gb : Nat → UInt64) (h0 : Heap) (n0 : Nat) (Z0 : n0 ≤ h0.size) (E_a : Exa Z h0 a "tidewatch/decision/KeyGroupCeiling") (F_keyGroups_a : Fld Z h0 a "tidewatch/decision/KeyGroupCeiling" "keyGroups" "I" (.int K)) (F_shares_a : Fld Z h0 a "tidewatch/decision/KeyGroupCeiling" "shares" "[D" (.ref c)) (V_c : Dv Z h0 c (1 : Int32) g) (F_before_a : Fld Z h0 a "tidewatch/decision/KeyGroupCeiling" "before" "[D" (.ref d)) (V_d : Dv Z h0 d (2 : Int32) gb) (hK : 1 ≤ K.toInt) (ho1 : ownW fi (1 : Int32) K = (0 : Int32)) (ho2 : ownW la (1 : Int32) K = (0 : Int32)) (hn : Jvm.Free.Fl.NoNaN64 (FP.dsub (gb 1) (gb 0))) :
    Con l Z (⟨"tidewatch/decision/KeyGroupCeiling", "atMost", "(II)D"⟩ : MethodName) prog_33_method_6_code 3 (some .double) ({ frames := 1, cells := 0, slots := 0, locals := 30 } : Room) #[(.ref a), (.int fi), (.int la)] h0 (fun r h L => r = some (.double (FP.dsub (gb 1) (gb 0))) ∧ Fr n0 L ∧ h = h0) :=
  con_of (plainFor_of_name pn_2) (fun p_ e_ s_ m_ b_ meth_ c_ T_ X_ hx hZ hby hml hown hnm hret hlk e0 => Go.cast (ef_rm7_100 m_ a fi la) (w7_100 a fi la c d K g gb X_ hx hZ hw hby hml hown hnm hret hlk e0 Z0 (Fr.nil n0) E_a F_keyGroups_a F_shares_a V_c F_before_a V_d hK ho1 ho2 hn))
set_option maxRecDepth 65536 in
set_option maxHeartbeats 40000000 in
theorem w8_2 {p : Program} {l : Launch} {e : Env} {s : State} {m : MethodId} {args : Array Value} {below : List Frame} {meth : Method} {c_ : Code} {T0 : State} {locs : List Loc} {Z : State} {a0 : Array Value} {h0 : Heap} {n0 : Nat} (a : Addr) (x : Int32) (c : Addr) (K : Int32) (g : Nat → UInt64)
    (X0 : Stand p l e ({ frames := 0, cells := 0, slots := 0, locals := 0 } : Room) s m args below meth c_ T0 locs 0 0) (hx : p.tables.exec = Jvm.exec) (hZ : Z.Warmed39 s.vm) (hw : ∀ d ∈ tables_1, d.before a0 Z = true) (hby : c_.code = prog_33_method_7_code) (hml : c_.maxLocals = 2) (hown : s.vm.findClass "tidewatch/decision/KeyGroupCeiling" = some m.cls) (hnm : meth.name = "owner") (hret : meth.sig.returnType = some .int) (hlk : meth.locks = false) (e0 : T0.heap = h0) (Z0 : n0 ≤ h0.size) (N0 : Fr n0 locs) (E_a : Exa Z h0 a "tidewatch/decision/KeyGroupCeiling") (F_keyGroups_a : Fld Z h0 a "tidewatch/decision/KeyGroupCeiling" "keyGroups" "I" (.int K)) (F_shares_a : Fld Z h0 a "tidewatch/decision/KeyGroupCeiling" "shares" "[D" (.ref c)) (V_c : Dv Z h0 c (2 : Int32) g) (hK : 1 ≤ K.toInt) :
    Go p e below s ({ frames := 0, cells := 0, slots := 0, locals := 0 } : Room).cells ({ frames := 0, cells := 0, slots := 0, locals := 0 } : Room).slots (fun r h L => r = some (.int (ownW x (2 : Int32) K)) ∧ Fr n0 L ∧ h = h0) T0 (mkF m 0 #[.val (.ref a), .val (.int x)] []) := by
  show Go _ _ _ _ _ _ _ T0 (mkF m 0 #[.val (.ref a), .val (.int x)] [])
  refine Go.step (fun _ k => XS.iloadN X0.here hx rfl (hb hby d8_0) rfl k) ?_
  show Go _ _ _ _ _ _ _ T0 (mkF m 1 #[.val (.ref a), .val (.int x)] [(.int x)])
  refine Go.step (fun _ k => XS.i2l X0.here hx rfl (hb hby d8_1) rfl k) ?_
  show Go _ _ _ _ _ _ _ T0 (mkF m 2 #[.val (.ref a), .val (.int x)] [(.long (x.toInt64))])
  refine Go.step (fun _ k => XS.aloadN X0.here hx rfl (hb hby d8_2) rfl rfl k) ?_
  show Go _ _ _ _ _ _ _ T0 (mkF m 3 #[.val (.ref a), .val (.int x)] [(.ref a), (.long (x.toInt64))])
  obtain ⟨T1, X1, e1, st1⟩ := getF X0 hx hZ hown (host := "") (Or.inl (hw _ (List.mem_of_getElem? (i := 27) rfl))) Via.refl e0 F_shares_a (g := (mkF m 3 #[.val (.ref a), .val (.int x)] [(.ref a), (.long (x.toInt64))])) rfl rfl (hb hby d8_3)
  refine Go.step st1 ?_
  show Go _ _ _ _ _ _ _ T1 (mkF m 6 #[.val (.ref a), .val (.int x)] [(.ref c), (.long (x.toInt64))])
  refine Go.alen X1 hx hZ e1 V_c (hb hby d8_6) ?_
  show Go _ _ _ _ _ _ _ T1 (mkF m 7 #[.val (.ref a), .val (.int x)] [(.int (2 : Int32)), (.long (x.toInt64))])
  refine Go.step (fun _ k => XS.i2l X1.here hx rfl (hb hby d8_7) rfl k) ?_
  show Go _ _ _ _ _ _ _ T1 (mkF m 8 #[.val (.ref a), .val (.int x)] [(.long ((2 : Int32).toInt64)), (.long (x.toInt64))])
  refine Go.step (fun _ k => XS.lmul X1.here hx rfl (hb hby d8_8) rfl k) ?_
  show Go _ _ _ _ _ _ _ T1 (mkF m 9 #[.val (.ref a), .val (.int x)] [(.long ((x.toInt64) * ((2 : Int32).toInt64)))])
  refine Go.step (fun _ k => XS.aloadN X1.here hx rfl (hb hby d8_9) rfl rfl k) ?_
  show Go _ _ _ _ _ _ _ T1 (mkF m 10 #[.val (.ref a), .val (.int x)] [(.ref a), (.long ((x.toInt64) * ((2 : Int32).toInt64)))])
  obtain ⟨T2, X2, e2, st2⟩ := getF X1 hx hZ hown (host := "") (Or.inl (hw _ (List.mem_of_getElem? (i := 16) rfl))) Via.refl e1 F_keyGroups_a (g := (mkF m 10 #[.val (.ref a), .val (.int x)] [(.ref a), (.long ((x.toInt64) * ((2 : Int32).toInt64)))])) rfl rfl (hb hby d8_10)
  refine Go.step st2 ?_
  show Go _ _ _ _ _ _ _ T2 (mkF m 13 #[.val (.ref a), .val (.int x)] [(.int K), (.long ((x.toInt64) * ((2 : Int32).toInt64)))])
  refine Go.step (fun _ k => XS.i2l X2.here hx rfl (hb hby d8_13) rfl k) ?_
  show Go _ _ _ _ _ _ _ T2 (mkF m 14 #[.val (.ref a), .val (.int x)] [(.long (K.toInt64)), (.long ((x.toInt64) * ((2 : Int32).toInt64)))])
  refine Go.step (fun _ k => XS.ldiv X2.here hx rfl (hb hby d8_14) rfl (own_Kl hK) k) ?_
  show Go _ _ _ _ _ _ _ T2 (mkF m 15 #[.val (.ref a), .val (.int x)] [(.long (((x.toInt64) * ((2 : Int32).toInt64)) / (K.toInt64)))])
  refine Go.step (fun _ k => XS.l2i X2.here hx rfl (hb hby d8_15) rfl k) ?_
  show Go _ _ _ _ _ _ _ T2 (mkF m 16 #[.val (.ref a), .val (.int x)] [(.int ((((x.toInt64) * ((2 : Int32).toInt64)) / (K.toInt64)).toInt32))])
  refine Go.retI X2 hx hlk hret (hb hby d8_16) (by decide) (by decide) ?_
  try rw [e2]
  exact ⟨rfl, N0, rfl⟩
theorem ef_rm8_2 (m : MethodId) (a : Addr) (x : Int32) : entryFrame m #[(.ref a), (.int x)] 2 = mkF m 0 #[.val (.ref a), .val (.int x)] [] := by first | (simp [entryFrame, mkF, argsToLocals, Value.category]; done) | rfl
theorem rm8_2 (l : Launch) (Z : State) (a0 : Array Value) (hw : ∀ d ∈ tables_1, d.before a0 Z = true) (a : Addr) (x : Int32) (c : Addr) (K : Int32) (g : Nat → UInt64) (h0 : Heap) (n0 : Nat) (Z0 : n0 ≤ h0.size) (E_a : Exa Z h0 a "tidewatch/decision/KeyGroupCeiling") (F_keyGroups_a : Fld Z h0 a "tidewatch/decision/KeyGroupCeiling" "keyGroups" "I" (.int K)) (F_shares_a : Fld Z h0 a "tidewatch/decision/KeyGroupCeiling" "shares" "[D" (.ref c)) (V_c : Dv Z h0 c (2 : Int32) g) (hK : 1 ≤ K.toInt) :
    Con l Z (⟨"tidewatch/decision/KeyGroupCeiling", "owner", "(I)I"⟩ : MethodName) prog_33_method_7_code 2 (some .int) ({ frames := 0, cells := 0, slots := 0, locals := 0 } : Room) #[(.ref a), (.int x)] h0 (fun r h L => r = some (.int (ownW x (2 : Int32) K)) ∧ Fr n0 L ∧ h = h0) :=
  con_of (plainFor_of_name pn_2) (fun p_ e_ s_ m_ b_ meth_ c_ T_ X_ hx hZ hby hml hown hnm hret hlk e0 => Go.cast (ef_rm8_2 m_ a x) (w8_2 a x c K g X_ hx hZ hw hby hml hown hnm hret hlk e0 Z0 (Fr.nil n0) E_a F_keyGroups_a F_shares_a V_c hK))
set_option maxRecDepth 65536 in
set_option maxHeartbeats 40000000 in
theorem w7_200 {p : Program} {l : Launch} {e : Env} {s : State} {m : MethodId} {args : Array Value} {below : List Frame} {meth : Method} {c_ : Code} {T0 : State} {locs : List Loc} {Z : State} {a0 : Array Value} {h0 : Heap} {n0 : Nat} (a : Addr) (fi la : Int32) (c d : Addr) (K : Int32) (g gb : Nat → UInt64)
    (X0 : Stand p l e ({ frames := 1, cells := 0, slots := 0, locals := 30 } : Room) s m args below meth c_ T0 locs 0 0) (hx : p.tables.exec = Jvm.exec) (hZ : Z.Warmed39 s.vm) (hw : ∀ d ∈ tables_1, d.before a0 Z = true) (hby : c_.code = prog_33_method_6_code) (hml : c_.maxLocals = 3) (hown : s.vm.findClass "tidewatch/decision/KeyGroupCeiling" = some m.cls) (hnm : meth.name = "atMost") (hret : meth.sig.returnType = some .double) (hlk : meth.locks = false) (e0 : T0.heap = h0) (Z0 : n0 ≤ h0.size) (N0 : Fr n0 locs) (E_a : Exa Z h0 a "tidewatch/decision/KeyGroupCeiling") (F_keyGroups_a : Fld Z h0 a "tidewatch/decision/KeyGroupCeiling" "keyGroups" "I" (.int K)) (F_shares_a : Fld Z h0 a "tidewatch/decision/KeyGroupCeiling" "shares" "[D" (.ref c)) (V_c : Dv Z h0 c (2 : Int32) g) (F_before_a : Fld Z h0 a "tidewatch/decision/KeyGroupCeiling" "before" "[D" (.ref d)) (V_d : Dv Z h0 d (3 : Int32) gb) (hK : 1 ≤ K.toInt) (ho1 : ownW fi (2 : Int32) K = (0 : Int32)) (ho2 : ownW la (2 : Int32) K = (0 : Int32)) (hn : Jvm.Free.Fl.NoNaN64 (FP.dsub (gb 1) (gb 0))) :
    Go p e below s ({ frames := 1, cells := 0, slots := 0, locals := 30 } : Room).cells ({ frames := 1, cells := 0, slots := 0, locals := 30 } : Room).slots (fun r h L => r = some (.double (FP.dsub (gb 1) (gb 0))) ∧ Fr n0 L ∧ h = h0) T0 (mkF m 0 #[.val (.ref a), .val (.int fi), .val (.int la)] []) := by
  show Go _ _ _ _ _ _ _ T0 (mkF m 0 #[.val (.ref a), .val (.int fi), .val (.int la)] [])
  refine Go.step (fun _ k => XS.aloadN X0.here hx rfl (hb hby d7_0) rfl rfl k) ?_
  show Go _ _ _ _ _ _ _ T0 (mkF m 1 #[.val (.ref a), .val (.int fi), .val (.int la)] [(.ref a)])
  obtain ⟨T1, X1, e1, st1⟩ := getF X0 hx hZ hown (host := "") (Or.inl (hw _ (List.mem_of_getElem? (i := 29) rfl))) Via.refl e0 F_before_a (g := (mkF m 1 #[.val (.ref a), .val (.int fi), .val (.int la)] [(.ref a)])) rfl rfl (hb hby d7_1)
  refine Go.step st1 ?_
  show Go _ _ _ _ _ _ _ T1 (mkF m 4 #[.val (.ref a), .val (.int fi), .val (.int la)] [(.ref d)])
  refine Go.step (fun _ k => XS.aloadN X1.here hx rfl (hb hby d7_4) rfl rfl k) ?_
  show Go _ _ _ _ _ _ _ T1 (mkF m 5 #[.val (.ref a), .val (.int fi), .val (.int la)] [(.ref a), (.ref d)])
  refine Go.step (fun _ k => XS.iloadN X1.here hx rfl (hb hby d7_5) rfl k) ?_
  show Go _ _ _ _ _ _ _ T1 (mkF m 6 #[.val (.ref a), .val (.int fi), .val (.int la)] [(.int la), (.ref a), (.ref d)])
  refine Go.callP X1 hx hZ (by rw [hml]; rfl) (y := (⟨"tidewatch/decision/KeyGroupCeiling", "owner", "(I)I"⟩ : MethodName)) (a := a) (argsL := [(.int la)]) (rest := [(.ref d)]) hown (hw _ (List.mem_of_getElem? (i := 49) rfl)) (hw _ (List.mem_of_getElem? (i := 50) rfl)) (hw _ (List.mem_of_getElem? (i := 8) rfl)) (hw _ (List.mem_of_getElem? (i := 51) rfl)) (hw _ (List.mem_of_getElem? (i := 9) rfl)) (hw _ (List.mem_of_getElem? (i := 52) rfl)) (by decide) (rm8_2 l Z a0 hw a la c K g h0 n0 Z0 E_a F_keyGroups_a F_shares_a V_c hK) e1 E_a (hb hby d7_6) (lenOf pd_2 rfl) rfl rfl (W := 1) (Nat.le_of_eq rfl) (by decide) (by decide) (by decide) (by decide) ?_
  intro v2 T2 L2 X2 Q2
  rw [ho2] at Q2
  obtain ⟨rfl, N2q, hh2⟩ := Q2
  have N2 := Fr.app N0 N2q
  show Go _ _ _ _ _ _ _ T2 (mkF m 9 #[.val (.ref a), .val (.int fi), .val (.int la)] [(.int (0 : Int32)), (.ref d)])
  refine Go.step (fun _ k => XS.iconst X2.here hx rfl (hb hby d7_9) k) ?_
  show Go _ _ _ _ _ _ _ T2 (mkF m 10 #[.val (.ref a), .val (.int fi), .val (.int la)] [(.int (1 : Int32)), (.int (0 : Int32)), (.ref d)])
  refine Go.step (fun _ k => XS.iadd X2.here hx rfl (hb hby d7_10) rfl k) ?_
  show Go _ _ _ _ _ _ _ T2 (mkF m 11 #[.val (.ref a), .val (.int fi), .val (.int la)] [(.int (1 : Int32)), (.ref d)])
  refine Go.daload X2 hx hZ hh2 V_d (j := (1 : Int32)) (v := (gb 1)) (by decide) rfl (hb hby d7_11) ?_
  show Go _ _ _ _ _ _ _ T2 (mkF m 12 #[.val (.ref a), .val (.int fi), .val (.int la)] [(.double (gb 1))])
  refine Go.step (fun _ k => XS.aloadN X2.here hx rfl (hb hby d7_12) rfl rfl k) ?_
  show Go _ _ _ _ _ _ _ T2 (mkF m 13 #[.val (.ref a), .val (.int fi), .val (.int la)] [(.ref a), (.double (gb 1))])
  obtain ⟨T3, X3, e3, st3⟩ := getF X2 hx hZ hown (host := "") (Or.inl (hw _ (List.mem_of_getElem? (i := 29) rfl))) Via.refl hh2 F_before_a (g := (mkF m 13 #[.val (.ref a), .val (.int fi), .val (.int la)] [(.ref a), (.double (gb 1))])) rfl rfl (hb hby d7_13)
  refine Go.step st3 ?_
  show Go _ _ _ _ _ _ _ T3 (mkF m 16 #[.val (.ref a), .val (.int fi), .val (.int la)] [(.ref d), (.double (gb 1))])
  refine Go.step (fun _ k => XS.aloadN X3.here hx rfl (hb hby d7_16) rfl rfl k) ?_
  show Go _ _ _ _ _ _ _ T3 (mkF m 17 #[.val (.ref a), .val (.int fi), .val (.int la)] [(.ref a), (.ref d), (.double (gb 1))])
  refine Go.step (fun _ k => XS.iloadN X3.here hx rfl (hb hby d7_17) rfl k) ?_
  show Go _ _ _ _ _ _ _ T3 (mkF m 18 #[.val (.ref a), .val (.int fi), .val (.int la)] [(.int fi), (.ref a), (.ref d), (.double (gb 1))])
  refine Go.callP X3 hx hZ (by rw [hml]; rfl) (y := (⟨"tidewatch/decision/KeyGroupCeiling", "owner", "(I)I"⟩ : MethodName)) (a := a) (argsL := [(.int fi)]) (rest := [(.ref d), (.double (gb 1))]) hown (hw _ (List.mem_of_getElem? (i := 49) rfl)) (hw _ (List.mem_of_getElem? (i := 50) rfl)) (hw _ (List.mem_of_getElem? (i := 8) rfl)) (hw _ (List.mem_of_getElem? (i := 51) rfl)) (hw _ (List.mem_of_getElem? (i := 9) rfl)) (hw _ (List.mem_of_getElem? (i := 52) rfl)) (by decide) (rm8_2 l Z a0 hw a fi c K g h0 n0 Z0 E_a F_keyGroups_a F_shares_a V_c hK) e3 E_a (hb hby d7_18) (lenOf pd_2 rfl) rfl rfl (W := 3) (Nat.le_of_eq rfl) (by decide) (by decide) (by decide) (by decide) ?_
  intro v4 T4 L4 X4 Q4
  rw [ho1] at Q4
  obtain ⟨rfl, N4q, hh4⟩ := Q4
  have N4 := Fr.app N2 N4q
  show Go _ _ _ _ _ _ _ T4 (mkF m 21 #[.val (.ref a), .val (.int fi), .val (.int la)] [(.int (0 : Int32)), (.ref d), (.double (gb 1))])
  refine Go.daload X4 hx hZ hh4 V_d (j := (0 : Int32)) (v := (gb 0)) (by decide) rfl (hb hby d7_21) ?_
  show Go _ _ _ _ _ _ _ T4 (mkF m 22 #[.val (.ref a), .val (.int fi), .val (.int la)] [(.double (gb 0)), (.double (gb 1))])
  refine Go.step (fun _ k => XS.dsubS X4.here hx rfl (hb hby d7_22) rfl hn rfl k) ?_
  show Go _ _ _ _ _ _ _ T4 (mkF m 23 #[.val (.ref a), .val (.int fi), .val (.int la)] [(.double (FP.dsub (gb 1) (gb 0)))])
  refine Go.retD X4 hx hlk hret (hb hby d7_23) (by decide) (by decide) ?_
  try rw [hh4]
  exact ⟨rfl, N4, rfl⟩
theorem ef_rm7_200 (m : MethodId) (a : Addr) (fi : Int32) (la : Int32) : entryFrame m #[(.ref a), (.int fi), (.int la)] 3 = mkF m 0 #[.val (.ref a), .val (.int fi), .val (.int la)] [] := by first | (simp [entryFrame, mkF, argsToLocals, Value.category]; done) | rfl
theorem rm7_200 (l : Launch) (Z : State) (a0 : Array Value) (hw : ∀ d ∈ tables_1, d.before a0 Z = true) (a : Addr) (fi la : Int32) (c d : Addr) (K : Int32) (g gb : Nat → UInt64) (h0 : Heap) (n0 : Nat) (Z0 : n0 ≤ h0.size) (E_a : Exa Z h0 a "tidewatch/decision/KeyGroupCeiling") (F_keyGroups_a : Fld Z h0 a "tidewatch/decision/KeyGroupCeiling" "keyGroups" "I" (.int K)) (F_shares_a : Fld Z h0 a "tidewatch/decision/KeyGroupCeiling" "shares" "[D" (.ref c)) (V_c : Dv Z h0 c (2 : Int32) g) (F_before_a : Fld Z h0 a "tidewatch/decision/KeyGroupCeiling" "before" "[D" (.ref d)) (V_d : Dv Z h0 d (3 : Int32) gb) (hK : 1 ≤ K.toInt) (ho1 : ownW fi (2 : Int32) K = (0 : Int32)) (ho2 : ownW la (2 : Int32) K = (0 : Int32)) (hn : Jvm.Free.Fl.NoNaN64 (FP.dsub (gb 1) (gb 0))) :
    Con l Z (⟨"tidewatch/decision/KeyGroupCeiling", "atMost", "(II)D"⟩ : MethodName) prog_33_method_6_code 3 (some .double) ({ frames := 1, cells := 0, slots := 0, locals := 30 } : Room) #[(.ref a), (.int fi), (.int la)] h0 (fun r h L => r = some (.double (FP.dsub (gb 1) (gb 0))) ∧ Fr n0 L ∧ h = h0) :=
  con_of (plainFor_of_name pn_2) (fun p_ e_ s_ m_ b_ meth_ c_ T_ X_ hx hZ hby hml hown hnm hret hlk e0 => Go.cast (ef_rm7_200 m_ a fi la) (w7_200 a fi la c d K g gb X_ hx hZ hw hby hml hown hnm hret hlk e0 Z0 (Fr.nil n0) E_a F_keyGroups_a F_shares_a V_c F_before_a V_d hK ho1 ho2 hn))
set_option maxRecDepth 65536 in
set_option maxHeartbeats 40000000 in
theorem w7_201 {p : Program} {l : Launch} {e : Env} {s : State} {m : MethodId} {args : Array Value} {below : List Frame} {meth : Method} {c_ : Code} {T0 : State} {locs : List Loc} {Z : State} {a0 : Array Value} {h0 : Heap} {n0 : Nat} (a : Addr) (fi la : Int32) (c d : Addr) (K : Int32) (g gb : Nat → UInt64)
    (X0 : Stand p l e ({ frames := 1, cells := 0, slots := 0, locals := 30 } : Room) s m args below meth c_ T0 locs 0 0) (hx : p.tables.exec = Jvm.exec) (hZ : Z.Warmed39 s.vm) (hw : ∀ d ∈ tables_1, d.before a0 Z = true) (hby : c_.code = prog_33_method_6_code) (hml : c_.maxLocals = 3) (hown : s.vm.findClass "tidewatch/decision/KeyGroupCeiling" = some m.cls) (hnm : meth.name = "atMost") (hret : meth.sig.returnType = some .double) (hlk : meth.locks = false) (e0 : T0.heap = h0) (Z0 : n0 ≤ h0.size) (N0 : Fr n0 locs) (E_a : Exa Z h0 a "tidewatch/decision/KeyGroupCeiling") (F_keyGroups_a : Fld Z h0 a "tidewatch/decision/KeyGroupCeiling" "keyGroups" "I" (.int K)) (F_shares_a : Fld Z h0 a "tidewatch/decision/KeyGroupCeiling" "shares" "[D" (.ref c)) (V_c : Dv Z h0 c (2 : Int32) g) (F_before_a : Fld Z h0 a "tidewatch/decision/KeyGroupCeiling" "before" "[D" (.ref d)) (V_d : Dv Z h0 d (3 : Int32) gb) (hK : 1 ≤ K.toInt) (ho1 : ownW fi (2 : Int32) K = (0 : Int32)) (ho2 : ownW la (2 : Int32) K = (1 : Int32)) (hn : Jvm.Free.Fl.NoNaN64 (FP.dsub (gb 2) (gb 0))) :
    Go p e below s ({ frames := 1, cells := 0, slots := 0, locals := 30 } : Room).cells ({ frames := 1, cells := 0, slots := 0, locals := 30 } : Room).slots (fun r h L => r = some (.double (FP.dsub (gb 2) (gb 0))) ∧ Fr n0 L ∧ h = h0) T0 (mkF m 0 #[.val (.ref a), .val (.int fi), .val (.int la)] []) := by
  show Go _ _ _ _ _ _ _ T0 (mkF m 0 #[.val (.ref a), .val (.int fi), .val (.int la)] [])
  refine Go.step (fun _ k => XS.aloadN X0.here hx rfl (hb hby d7_0) rfl rfl k) ?_
  show Go _ _ _ _ _ _ _ T0 (mkF m 1 #[.val (.ref a), .val (.int fi), .val (.int la)] [(.ref a)])
  obtain ⟨T1, X1, e1, st1⟩ := getF X0 hx hZ hown (host := "") (Or.inl (hw _ (List.mem_of_getElem? (i := 29) rfl))) Via.refl e0 F_before_a (g := (mkF m 1 #[.val (.ref a), .val (.int fi), .val (.int la)] [(.ref a)])) rfl rfl (hb hby d7_1)
  refine Go.step st1 ?_
  show Go _ _ _ _ _ _ _ T1 (mkF m 4 #[.val (.ref a), .val (.int fi), .val (.int la)] [(.ref d)])
  refine Go.step (fun _ k => XS.aloadN X1.here hx rfl (hb hby d7_4) rfl rfl k) ?_
  show Go _ _ _ _ _ _ _ T1 (mkF m 5 #[.val (.ref a), .val (.int fi), .val (.int la)] [(.ref a), (.ref d)])
  refine Go.step (fun _ k => XS.iloadN X1.here hx rfl (hb hby d7_5) rfl k) ?_
  show Go _ _ _ _ _ _ _ T1 (mkF m 6 #[.val (.ref a), .val (.int fi), .val (.int la)] [(.int la), (.ref a), (.ref d)])
  refine Go.callP X1 hx hZ (by rw [hml]; rfl) (y := (⟨"tidewatch/decision/KeyGroupCeiling", "owner", "(I)I"⟩ : MethodName)) (a := a) (argsL := [(.int la)]) (rest := [(.ref d)]) hown (hw _ (List.mem_of_getElem? (i := 49) rfl)) (hw _ (List.mem_of_getElem? (i := 50) rfl)) (hw _ (List.mem_of_getElem? (i := 8) rfl)) (hw _ (List.mem_of_getElem? (i := 51) rfl)) (hw _ (List.mem_of_getElem? (i := 9) rfl)) (hw _ (List.mem_of_getElem? (i := 52) rfl)) (by decide) (rm8_2 l Z a0 hw a la c K g h0 n0 Z0 E_a F_keyGroups_a F_shares_a V_c hK) e1 E_a (hb hby d7_6) (lenOf pd_2 rfl) rfl rfl (W := 1) (Nat.le_of_eq rfl) (by decide) (by decide) (by decide) (by decide) ?_
  intro v2 T2 L2 X2 Q2
  rw [ho2] at Q2
  obtain ⟨rfl, N2q, hh2⟩ := Q2
  have N2 := Fr.app N0 N2q
  show Go _ _ _ _ _ _ _ T2 (mkF m 9 #[.val (.ref a), .val (.int fi), .val (.int la)] [(.int (1 : Int32)), (.ref d)])
  refine Go.step (fun _ k => XS.iconst X2.here hx rfl (hb hby d7_9) k) ?_
  show Go _ _ _ _ _ _ _ T2 (mkF m 10 #[.val (.ref a), .val (.int fi), .val (.int la)] [(.int (1 : Int32)), (.int (1 : Int32)), (.ref d)])
  refine Go.step (fun _ k => XS.iadd X2.here hx rfl (hb hby d7_10) rfl k) ?_
  show Go _ _ _ _ _ _ _ T2 (mkF m 11 #[.val (.ref a), .val (.int fi), .val (.int la)] [(.int (2 : Int32)), (.ref d)])
  refine Go.daload X2 hx hZ hh2 V_d (j := (2 : Int32)) (v := (gb 2)) (by decide) rfl (hb hby d7_11) ?_
  show Go _ _ _ _ _ _ _ T2 (mkF m 12 #[.val (.ref a), .val (.int fi), .val (.int la)] [(.double (gb 2))])
  refine Go.step (fun _ k => XS.aloadN X2.here hx rfl (hb hby d7_12) rfl rfl k) ?_
  show Go _ _ _ _ _ _ _ T2 (mkF m 13 #[.val (.ref a), .val (.int fi), .val (.int la)] [(.ref a), (.double (gb 2))])
  obtain ⟨T3, X3, e3, st3⟩ := getF X2 hx hZ hown (host := "") (Or.inl (hw _ (List.mem_of_getElem? (i := 29) rfl))) Via.refl hh2 F_before_a (g := (mkF m 13 #[.val (.ref a), .val (.int fi), .val (.int la)] [(.ref a), (.double (gb 2))])) rfl rfl (hb hby d7_13)
  refine Go.step st3 ?_
  show Go _ _ _ _ _ _ _ T3 (mkF m 16 #[.val (.ref a), .val (.int fi), .val (.int la)] [(.ref d), (.double (gb 2))])
  refine Go.step (fun _ k => XS.aloadN X3.here hx rfl (hb hby d7_16) rfl rfl k) ?_
  show Go _ _ _ _ _ _ _ T3 (mkF m 17 #[.val (.ref a), .val (.int fi), .val (.int la)] [(.ref a), (.ref d), (.double (gb 2))])
  refine Go.step (fun _ k => XS.iloadN X3.here hx rfl (hb hby d7_17) rfl k) ?_
  show Go _ _ _ _ _ _ _ T3 (mkF m 18 #[.val (.ref a), .val (.int fi), .val (.int la)] [(.int fi), (.ref a), (.ref d), (.double (gb 2))])
  refine Go.callP X3 hx hZ (by rw [hml]; rfl) (y := (⟨"tidewatch/decision/KeyGroupCeiling", "owner", "(I)I"⟩ : MethodName)) (a := a) (argsL := [(.int fi)]) (rest := [(.ref d), (.double (gb 2))]) hown (hw _ (List.mem_of_getElem? (i := 49) rfl)) (hw _ (List.mem_of_getElem? (i := 50) rfl)) (hw _ (List.mem_of_getElem? (i := 8) rfl)) (hw _ (List.mem_of_getElem? (i := 51) rfl)) (hw _ (List.mem_of_getElem? (i := 9) rfl)) (hw _ (List.mem_of_getElem? (i := 52) rfl)) (by decide) (rm8_2 l Z a0 hw a fi c K g h0 n0 Z0 E_a F_keyGroups_a F_shares_a V_c hK) e3 E_a (hb hby d7_18) (lenOf pd_2 rfl) rfl rfl (W := 3) (Nat.le_of_eq rfl) (by decide) (by decide) (by decide) (by decide) ?_
  intro v4 T4 L4 X4 Q4
  rw [ho1] at Q4
  obtain ⟨rfl, N4q, hh4⟩ := Q4
  have N4 := Fr.app N2 N4q
  show Go _ _ _ _ _ _ _ T4 (mkF m 21 #[.val (.ref a), .val (.int fi), .val (.int la)] [(.int (0 : Int32)), (.ref d), (.double (gb 2))])
  refine Go.daload X4 hx hZ hh4 V_d (j := (0 : Int32)) (v := (gb 0)) (by decide) rfl (hb hby d7_21) ?_
  show Go _ _ _ _ _ _ _ T4 (mkF m 22 #[.val (.ref a), .val (.int fi), .val (.int la)] [(.double (gb 0)), (.double (gb 2))])
  refine Go.step (fun _ k => XS.dsubS X4.here hx rfl (hb hby d7_22) rfl hn rfl k) ?_
  show Go _ _ _ _ _ _ _ T4 (mkF m 23 #[.val (.ref a), .val (.int fi), .val (.int la)] [(.double (FP.dsub (gb 2) (gb 0)))])
  refine Go.retD X4 hx hlk hret (hb hby d7_23) (by decide) (by decide) ?_
  try rw [hh4]
  exact ⟨rfl, N4, rfl⟩
theorem ef_rm7_201 (m : MethodId) (a : Addr) (fi : Int32) (la : Int32) : entryFrame m #[(.ref a), (.int fi), (.int la)] 3 = mkF m 0 #[.val (.ref a), .val (.int fi), .val (.int la)] [] := by first | (simp [entryFrame, mkF, argsToLocals, Value.category]; done) | rfl
theorem rm7_201 (l : Launch) (Z : State) (a0 : Array Value) (hw : ∀ d ∈ tables_1, d.before a0 Z = true) (a : Addr) (fi la : Int32) (c d : Addr) (K : Int32) (g gb : Nat → UInt64) (h0 : Heap) (n0 : Nat) (Z0 : n0 ≤ h0.size) (E_a : Exa Z h0 a "tidewatch/decision/KeyGroupCeiling") (F_keyGroups_a : Fld Z h0 a "tidewatch/decision/KeyGroupCeiling" "keyGroups" "I" (.int K)) (F_shares_a : Fld Z h0 a "tidewatch/decision/KeyGroupCeiling" "shares" "[D" (.ref c)) (V_c : Dv Z h0 c (2 : Int32) g) (F_before_a : Fld Z h0 a "tidewatch/decision/KeyGroupCeiling" "before" "[D" (.ref d)) (V_d : Dv Z h0 d (3 : Int32) gb) (hK : 1 ≤ K.toInt) (ho1 : ownW fi (2 : Int32) K = (0 : Int32)) (ho2 : ownW la (2 : Int32) K = (1 : Int32)) (hn : Jvm.Free.Fl.NoNaN64 (FP.dsub (gb 2) (gb 0))) :
    Con l Z (⟨"tidewatch/decision/KeyGroupCeiling", "atMost", "(II)D"⟩ : MethodName) prog_33_method_6_code 3 (some .double) ({ frames := 1, cells := 0, slots := 0, locals := 30 } : Room) #[(.ref a), (.int fi), (.int la)] h0 (fun r h L => r = some (.double (FP.dsub (gb 2) (gb 0))) ∧ Fr n0 L ∧ h = h0) :=
  con_of (plainFor_of_name pn_2) (fun p_ e_ s_ m_ b_ meth_ c_ T_ X_ hx hZ hby hml hown hnm hret hlk e0 => Go.cast (ef_rm7_201 m_ a fi la) (w7_201 a fi la c d K g gb X_ hx hZ hw hby hml hown hnm hret hlk e0 Z0 (Fr.nil n0) E_a F_keyGroups_a F_shares_a V_c F_before_a V_d hK ho1 ho2 hn))
set_option maxRecDepth 65536 in
set_option maxHeartbeats 40000000 in
theorem w7_211 {p : Program} {l : Launch} {e : Env} {s : State} {m : MethodId} {args : Array Value} {below : List Frame} {meth : Method} {c_ : Code} {T0 : State} {locs : List Loc} {Z : State} {a0 : Array Value} {h0 : Heap} {n0 : Nat} (a : Addr) (fi la : Int32) (c d : Addr) (K : Int32) (g gb : Nat → UInt64)
    (X0 : Stand p l e ({ frames := 1, cells := 0, slots := 0, locals := 30 } : Room) s m args below meth c_ T0 locs 0 0) (hx : p.tables.exec = Jvm.exec) (hZ : Z.Warmed39 s.vm) (hw : ∀ d ∈ tables_1, d.before a0 Z = true) (hby : c_.code = prog_33_method_6_code) (hml : c_.maxLocals = 3) (hown : s.vm.findClass "tidewatch/decision/KeyGroupCeiling" = some m.cls) (hnm : meth.name = "atMost") (hret : meth.sig.returnType = some .double) (hlk : meth.locks = false) (e0 : T0.heap = h0) (Z0 : n0 ≤ h0.size) (N0 : Fr n0 locs) (E_a : Exa Z h0 a "tidewatch/decision/KeyGroupCeiling") (F_keyGroups_a : Fld Z h0 a "tidewatch/decision/KeyGroupCeiling" "keyGroups" "I" (.int K)) (F_shares_a : Fld Z h0 a "tidewatch/decision/KeyGroupCeiling" "shares" "[D" (.ref c)) (V_c : Dv Z h0 c (2 : Int32) g) (F_before_a : Fld Z h0 a "tidewatch/decision/KeyGroupCeiling" "before" "[D" (.ref d)) (V_d : Dv Z h0 d (3 : Int32) gb) (hK : 1 ≤ K.toInt) (ho1 : ownW fi (2 : Int32) K = (1 : Int32)) (ho2 : ownW la (2 : Int32) K = (1 : Int32)) (hn : Jvm.Free.Fl.NoNaN64 (FP.dsub (gb 2) (gb 1))) :
    Go p e below s ({ frames := 1, cells := 0, slots := 0, locals := 30 } : Room).cells ({ frames := 1, cells := 0, slots := 0, locals := 30 } : Room).slots (fun r h L => r = some (.double (FP.dsub (gb 2) (gb 1))) ∧ Fr n0 L ∧ h = h0) T0 (mkF m 0 #[.val (.ref a), .val (.int fi), .val (.int la)] []) := by
  show Go _ _ _ _ _ _ _ T0 (mkF m 0 #[.val (.ref a), .val (.int fi), .val (.int la)] [])
  refine Go.step (fun _ k => XS.aloadN X0.here hx rfl (hb hby d7_0) rfl rfl k) ?_
  show Go _ _ _ _ _ _ _ T0 (mkF m 1 #[.val (.ref a), .val (.int fi), .val (.int la)] [(.ref a)])
  obtain ⟨T1, X1, e1, st1⟩ := getF X0 hx hZ hown (host := "") (Or.inl (hw _ (List.mem_of_getElem? (i := 29) rfl))) Via.refl e0 F_before_a (g := (mkF m 1 #[.val (.ref a), .val (.int fi), .val (.int la)] [(.ref a)])) rfl rfl (hb hby d7_1)
  refine Go.step st1 ?_
  show Go _ _ _ _ _ _ _ T1 (mkF m 4 #[.val (.ref a), .val (.int fi), .val (.int la)] [(.ref d)])
  refine Go.step (fun _ k => XS.aloadN X1.here hx rfl (hb hby d7_4) rfl rfl k) ?_
  show Go _ _ _ _ _ _ _ T1 (mkF m 5 #[.val (.ref a), .val (.int fi), .val (.int la)] [(.ref a), (.ref d)])
  refine Go.step (fun _ k => XS.iloadN X1.here hx rfl (hb hby d7_5) rfl k) ?_
  show Go _ _ _ _ _ _ _ T1 (mkF m 6 #[.val (.ref a), .val (.int fi), .val (.int la)] [(.int la), (.ref a), (.ref d)])
  refine Go.callP X1 hx hZ (by rw [hml]; rfl) (y := (⟨"tidewatch/decision/KeyGroupCeiling", "owner", "(I)I"⟩ : MethodName)) (a := a) (argsL := [(.int la)]) (rest := [(.ref d)]) hown (hw _ (List.mem_of_getElem? (i := 49) rfl)) (hw _ (List.mem_of_getElem? (i := 50) rfl)) (hw _ (List.mem_of_getElem? (i := 8) rfl)) (hw _ (List.mem_of_getElem? (i := 51) rfl)) (hw _ (List.mem_of_getElem? (i := 9) rfl)) (hw _ (List.mem_of_getElem? (i := 52) rfl)) (by decide) (rm8_2 l Z a0 hw a la c K g h0 n0 Z0 E_a F_keyGroups_a F_shares_a V_c hK) e1 E_a (hb hby d7_6) (lenOf pd_2 rfl) rfl rfl (W := 1) (Nat.le_of_eq rfl) (by decide) (by decide) (by decide) (by decide) ?_
  intro v2 T2 L2 X2 Q2
  rw [ho2] at Q2
  obtain ⟨rfl, N2q, hh2⟩ := Q2
  have N2 := Fr.app N0 N2q
  show Go _ _ _ _ _ _ _ T2 (mkF m 9 #[.val (.ref a), .val (.int fi), .val (.int la)] [(.int (1 : Int32)), (.ref d)])
  refine Go.step (fun _ k => XS.iconst X2.here hx rfl (hb hby d7_9) k) ?_
  show Go _ _ _ _ _ _ _ T2 (mkF m 10 #[.val (.ref a), .val (.int fi), .val (.int la)] [(.int (1 : Int32)), (.int (1 : Int32)), (.ref d)])
  refine Go.step (fun _ k => XS.iadd X2.here hx rfl (hb hby d7_10) rfl k) ?_
  show Go _ _ _ _ _ _ _ T2 (mkF m 11 #[.val (.ref a), .val (.int fi), .val (.int la)] [(.int (2 : Int32)), (.ref d)])
  refine Go.daload X2 hx hZ hh2 V_d (j := (2 : Int32)) (v := (gb 2)) (by decide) rfl (hb hby d7_11) ?_
  show Go _ _ _ _ _ _ _ T2 (mkF m 12 #[.val (.ref a), .val (.int fi), .val (.int la)] [(.double (gb 2))])
  refine Go.step (fun _ k => XS.aloadN X2.here hx rfl (hb hby d7_12) rfl rfl k) ?_
  show Go _ _ _ _ _ _ _ T2 (mkF m 13 #[.val (.ref a), .val (.int fi), .val (.int la)] [(.ref a), (.double (gb 2))])
  obtain ⟨T3, X3, e3, st3⟩ := getF X2 hx hZ hown (host := "") (Or.inl (hw _ (List.mem_of_getElem? (i := 29) rfl))) Via.refl hh2 F_before_a (g := (mkF m 13 #[.val (.ref a), .val (.int fi), .val (.int la)] [(.ref a), (.double (gb 2))])) rfl rfl (hb hby d7_13)
  refine Go.step st3 ?_
  show Go _ _ _ _ _ _ _ T3 (mkF m 16 #[.val (.ref a), .val (.int fi), .val (.int la)] [(.ref d), (.double (gb 2))])
  refine Go.step (fun _ k => XS.aloadN X3.here hx rfl (hb hby d7_16) rfl rfl k) ?_
  show Go _ _ _ _ _ _ _ T3 (mkF m 17 #[.val (.ref a), .val (.int fi), .val (.int la)] [(.ref a), (.ref d), (.double (gb 2))])
  refine Go.step (fun _ k => XS.iloadN X3.here hx rfl (hb hby d7_17) rfl k) ?_
  show Go _ _ _ _ _ _ _ T3 (mkF m 18 #[.val (.ref a), .val (.int fi), .val (.int la)] [(.int fi), (.ref a), (.ref d), (.double (gb 2))])
  refine Go.callP X3 hx hZ (by rw [hml]; rfl) (y := (⟨"tidewatch/decision/KeyGroupCeiling", "owner", "(I)I"⟩ : MethodName)) (a := a) (argsL := [(.int fi)]) (rest := [(.ref d), (.double (gb 2))]) hown (hw _ (List.mem_of_getElem? (i := 49) rfl)) (hw _ (List.mem_of_getElem? (i := 50) rfl)) (hw _ (List.mem_of_getElem? (i := 8) rfl)) (hw _ (List.mem_of_getElem? (i := 51) rfl)) (hw _ (List.mem_of_getElem? (i := 9) rfl)) (hw _ (List.mem_of_getElem? (i := 52) rfl)) (by decide) (rm8_2 l Z a0 hw a fi c K g h0 n0 Z0 E_a F_keyGroups_a F_shares_a V_c hK) e3 E_a (hb hby d7_18) (lenOf pd_2 rfl) rfl rfl (W := 3) (Nat.le_of_eq rfl) (by decide) (by decide) (by decide) (by decide) ?_
  intro v4 T4 L4 X4 Q4
  rw [ho1] at Q4
  obtain ⟨rfl, N4q, hh4⟩ := Q4
  have N4 := Fr.app N2 N4q
  show Go _ _ _ _ _ _ _ T4 (mkF m 21 #[.val (.ref a), .val (.int fi), .val (.int la)] [(.int (1 : Int32)), (.ref d), (.double (gb 2))])
  refine Go.daload X4 hx hZ hh4 V_d (j := (1 : Int32)) (v := (gb 1)) (by decide) rfl (hb hby d7_21) ?_
  show Go _ _ _ _ _ _ _ T4 (mkF m 22 #[.val (.ref a), .val (.int fi), .val (.int la)] [(.double (gb 1)), (.double (gb 2))])
  refine Go.step (fun _ k => XS.dsubS X4.here hx rfl (hb hby d7_22) rfl hn rfl k) ?_
  show Go _ _ _ _ _ _ _ T4 (mkF m 23 #[.val (.ref a), .val (.int fi), .val (.int la)] [(.double (FP.dsub (gb 2) (gb 1)))])
  refine Go.retD X4 hx hlk hret (hb hby d7_23) (by decide) (by decide) ?_
  try rw [hh4]
  exact ⟨rfl, N4, rfl⟩
theorem ef_rm7_211 (m : MethodId) (a : Addr) (fi : Int32) (la : Int32) : entryFrame m #[(.ref a), (.int fi), (.int la)] 3 = mkF m 0 #[.val (.ref a), .val (.int fi), .val (.int la)] [] := by first | (simp [entryFrame, mkF, argsToLocals, Value.category]; done) | rfl
theorem rm7_211 (l : Launch) (Z : State) (a0 : Array Value) (hw : ∀ d ∈ tables_1, d.before a0 Z = true) (a : Addr) (fi la : Int32) (c d : Addr) (K : Int32) (g gb : Nat → UInt64) (h0 : Heap) (n0 : Nat) (Z0 : n0 ≤ h0.size) (E_a : Exa Z h0 a "tidewatch/decision/KeyGroupCeiling") (F_keyGroups_a : Fld Z h0 a "tidewatch/decision/KeyGroupCeiling" "keyGroups" "I" (.int K)) (F_shares_a : Fld Z h0 a "tidewatch/decision/KeyGroupCeiling" "shares" "[D" (.ref c)) (V_c : Dv Z h0 c (2 : Int32) g) (F_before_a : Fld Z h0 a "tidewatch/decision/KeyGroupCeiling" "before" "[D" (.ref d)) (V_d : Dv Z h0 d (3 : Int32) gb) (hK : 1 ≤ K.toInt) (ho1 : ownW fi (2 : Int32) K = (1 : Int32)) (ho2 : ownW la (2 : Int32) K = (1 : Int32)) (hn : Jvm.Free.Fl.NoNaN64 (FP.dsub (gb 2) (gb 1))) :
    Con l Z (⟨"tidewatch/decision/KeyGroupCeiling", "atMost", "(II)D"⟩ : MethodName) prog_33_method_6_code 3 (some .double) ({ frames := 1, cells := 0, slots := 0, locals := 30 } : Room) #[(.ref a), (.int fi), (.int la)] h0 (fun r h L => r = some (.double (FP.dsub (gb 2) (gb 1))) ∧ Fr n0 L ∧ h = h0) :=
  con_of (plainFor_of_name pn_2) (fun p_ e_ s_ m_ b_ meth_ c_ T_ X_ hx hZ hby hml hown hnm hret hlk e0 => Go.cast (ef_rm7_211 m_ a fi la) (w7_211 a fi la c d K g gb X_ hx hZ hw hby hml hown hnm hret hlk e0 Z0 (Fr.nil n0) E_a F_keyGroups_a F_shares_a V_c F_before_a V_d hK ho1 ho2 hn))
set_option maxRecDepth 65536 in
set_option maxHeartbeats 40000000 in
theorem w8_3 {p : Program} {l : Launch} {e : Env} {s : State} {m : MethodId} {args : Array Value} {below : List Frame} {meth : Method} {c_ : Code} {T0 : State} {locs : List Loc} {Z : State} {a0 : Array Value} {h0 : Heap} {n0 : Nat} (a : Addr) (x : Int32) (c : Addr) (K : Int32) (g : Nat → UInt64)
    (X0 : Stand p l e ({ frames := 0, cells := 0, slots := 0, locals := 0 } : Room) s m args below meth c_ T0 locs 0 0) (hx : p.tables.exec = Jvm.exec) (hZ : Z.Warmed39 s.vm) (hw : ∀ d ∈ tables_1, d.before a0 Z = true) (hby : c_.code = prog_33_method_7_code) (hml : c_.maxLocals = 2) (hown : s.vm.findClass "tidewatch/decision/KeyGroupCeiling" = some m.cls) (hnm : meth.name = "owner") (hret : meth.sig.returnType = some .int) (hlk : meth.locks = false) (e0 : T0.heap = h0) (Z0 : n0 ≤ h0.size) (N0 : Fr n0 locs) (E_a : Exa Z h0 a "tidewatch/decision/KeyGroupCeiling") (F_keyGroups_a : Fld Z h0 a "tidewatch/decision/KeyGroupCeiling" "keyGroups" "I" (.int K)) (F_shares_a : Fld Z h0 a "tidewatch/decision/KeyGroupCeiling" "shares" "[D" (.ref c)) (V_c : Dv Z h0 c (3 : Int32) g) (hK : 1 ≤ K.toInt) :
    Go p e below s ({ frames := 0, cells := 0, slots := 0, locals := 0 } : Room).cells ({ frames := 0, cells := 0, slots := 0, locals := 0 } : Room).slots (fun r h L => r = some (.int (ownW x (3 : Int32) K)) ∧ Fr n0 L ∧ h = h0) T0 (mkF m 0 #[.val (.ref a), .val (.int x)] []) := by
  show Go _ _ _ _ _ _ _ T0 (mkF m 0 #[.val (.ref a), .val (.int x)] [])
  refine Go.step (fun _ k => XS.iloadN X0.here hx rfl (hb hby d8_0) rfl k) ?_
  show Go _ _ _ _ _ _ _ T0 (mkF m 1 #[.val (.ref a), .val (.int x)] [(.int x)])
  refine Go.step (fun _ k => XS.i2l X0.here hx rfl (hb hby d8_1) rfl k) ?_
  show Go _ _ _ _ _ _ _ T0 (mkF m 2 #[.val (.ref a), .val (.int x)] [(.long (x.toInt64))])
  refine Go.step (fun _ k => XS.aloadN X0.here hx rfl (hb hby d8_2) rfl rfl k) ?_
  show Go _ _ _ _ _ _ _ T0 (mkF m 3 #[.val (.ref a), .val (.int x)] [(.ref a), (.long (x.toInt64))])
  obtain ⟨T1, X1, e1, st1⟩ := getF X0 hx hZ hown (host := "") (Or.inl (hw _ (List.mem_of_getElem? (i := 27) rfl))) Via.refl e0 F_shares_a (g := (mkF m 3 #[.val (.ref a), .val (.int x)] [(.ref a), (.long (x.toInt64))])) rfl rfl (hb hby d8_3)
  refine Go.step st1 ?_
  show Go _ _ _ _ _ _ _ T1 (mkF m 6 #[.val (.ref a), .val (.int x)] [(.ref c), (.long (x.toInt64))])
  refine Go.alen X1 hx hZ e1 V_c (hb hby d8_6) ?_
  show Go _ _ _ _ _ _ _ T1 (mkF m 7 #[.val (.ref a), .val (.int x)] [(.int (3 : Int32)), (.long (x.toInt64))])
  refine Go.step (fun _ k => XS.i2l X1.here hx rfl (hb hby d8_7) rfl k) ?_
  show Go _ _ _ _ _ _ _ T1 (mkF m 8 #[.val (.ref a), .val (.int x)] [(.long ((3 : Int32).toInt64)), (.long (x.toInt64))])
  refine Go.step (fun _ k => XS.lmul X1.here hx rfl (hb hby d8_8) rfl k) ?_
  show Go _ _ _ _ _ _ _ T1 (mkF m 9 #[.val (.ref a), .val (.int x)] [(.long ((x.toInt64) * ((3 : Int32).toInt64)))])
  refine Go.step (fun _ k => XS.aloadN X1.here hx rfl (hb hby d8_9) rfl rfl k) ?_
  show Go _ _ _ _ _ _ _ T1 (mkF m 10 #[.val (.ref a), .val (.int x)] [(.ref a), (.long ((x.toInt64) * ((3 : Int32).toInt64)))])
  obtain ⟨T2, X2, e2, st2⟩ := getF X1 hx hZ hown (host := "") (Or.inl (hw _ (List.mem_of_getElem? (i := 16) rfl))) Via.refl e1 F_keyGroups_a (g := (mkF m 10 #[.val (.ref a), .val (.int x)] [(.ref a), (.long ((x.toInt64) * ((3 : Int32).toInt64)))])) rfl rfl (hb hby d8_10)
  refine Go.step st2 ?_
  show Go _ _ _ _ _ _ _ T2 (mkF m 13 #[.val (.ref a), .val (.int x)] [(.int K), (.long ((x.toInt64) * ((3 : Int32).toInt64)))])
  refine Go.step (fun _ k => XS.i2l X2.here hx rfl (hb hby d8_13) rfl k) ?_
  show Go _ _ _ _ _ _ _ T2 (mkF m 14 #[.val (.ref a), .val (.int x)] [(.long (K.toInt64)), (.long ((x.toInt64) * ((3 : Int32).toInt64)))])
  refine Go.step (fun _ k => XS.ldiv X2.here hx rfl (hb hby d8_14) rfl (own_Kl hK) k) ?_
  show Go _ _ _ _ _ _ _ T2 (mkF m 15 #[.val (.ref a), .val (.int x)] [(.long (((x.toInt64) * ((3 : Int32).toInt64)) / (K.toInt64)))])
  refine Go.step (fun _ k => XS.l2i X2.here hx rfl (hb hby d8_15) rfl k) ?_
  show Go _ _ _ _ _ _ _ T2 (mkF m 16 #[.val (.ref a), .val (.int x)] [(.int ((((x.toInt64) * ((3 : Int32).toInt64)) / (K.toInt64)).toInt32))])
  refine Go.retI X2 hx hlk hret (hb hby d8_16) (by decide) (by decide) ?_
  try rw [e2]
  exact ⟨rfl, N0, rfl⟩
theorem ef_rm8_3 (m : MethodId) (a : Addr) (x : Int32) : entryFrame m #[(.ref a), (.int x)] 2 = mkF m 0 #[.val (.ref a), .val (.int x)] [] := by first | (simp [entryFrame, mkF, argsToLocals, Value.category]; done) | rfl
theorem rm8_3 (l : Launch) (Z : State) (a0 : Array Value) (hw : ∀ d ∈ tables_1, d.before a0 Z = true) (a : Addr) (x : Int32) (c : Addr) (K : Int32) (g : Nat → UInt64) (h0 : Heap) (n0 : Nat) (Z0 : n0 ≤ h0.size) (E_a : Exa Z h0 a "tidewatch/decision/KeyGroupCeiling") (F_keyGroups_a : Fld Z h0 a "tidewatch/decision/KeyGroupCeiling" "keyGroups" "I" (.int K)) (F_shares_a : Fld Z h0 a "tidewatch/decision/KeyGroupCeiling" "shares" "[D" (.ref c)) (V_c : Dv Z h0 c (3 : Int32) g) (hK : 1 ≤ K.toInt) :
    Con l Z (⟨"tidewatch/decision/KeyGroupCeiling", "owner", "(I)I"⟩ : MethodName) prog_33_method_7_code 2 (some .int) ({ frames := 0, cells := 0, slots := 0, locals := 0 } : Room) #[(.ref a), (.int x)] h0 (fun r h L => r = some (.int (ownW x (3 : Int32) K)) ∧ Fr n0 L ∧ h = h0) :=
  con_of (plainFor_of_name pn_2) (fun p_ e_ s_ m_ b_ meth_ c_ T_ X_ hx hZ hby hml hown hnm hret hlk e0 => Go.cast (ef_rm8_3 m_ a x) (w8_3 a x c K g X_ hx hZ hw hby hml hown hnm hret hlk e0 Z0 (Fr.nil n0) E_a F_keyGroups_a F_shares_a V_c hK))
set_option maxRecDepth 65536 in
set_option maxHeartbeats 40000000 in
theorem w7_300 {p : Program} {l : Launch} {e : Env} {s : State} {m : MethodId} {args : Array Value} {below : List Frame} {meth : Method} {c_ : Code} {T0 : State} {locs : List Loc} {Z : State} {a0 : Array Value} {h0 : Heap} {n0 : Nat} (a : Addr) (fi la : Int32) (c d : Addr) (K : Int32) (g gb : Nat → UInt64)
    (X0 : Stand p l e ({ frames := 1, cells := 0, slots := 0, locals := 30 } : Room) s m args below meth c_ T0 locs 0 0) (hx : p.tables.exec = Jvm.exec) (hZ : Z.Warmed39 s.vm) (hw : ∀ d ∈ tables_1, d.before a0 Z = true) (hby : c_.code = prog_33_method_6_code) (hml : c_.maxLocals = 3) (hown : s.vm.findClass "tidewatch/decision/KeyGroupCeiling" = some m.cls) (hnm : meth.name = "atMost") (hret : meth.sig.returnType = some .double) (hlk : meth.locks = false) (e0 : T0.heap = h0) (Z0 : n0 ≤ h0.size) (N0 : Fr n0 locs) (E_a : Exa Z h0 a "tidewatch/decision/KeyGroupCeiling") (F_keyGroups_a : Fld Z h0 a "tidewatch/decision/KeyGroupCeiling" "keyGroups" "I" (.int K)) (F_shares_a : Fld Z h0 a "tidewatch/decision/KeyGroupCeiling" "shares" "[D" (.ref c)) (V_c : Dv Z h0 c (3 : Int32) g) (F_before_a : Fld Z h0 a "tidewatch/decision/KeyGroupCeiling" "before" "[D" (.ref d)) (V_d : Dv Z h0 d (4 : Int32) gb) (hK : 1 ≤ K.toInt) (ho1 : ownW fi (3 : Int32) K = (0 : Int32)) (ho2 : ownW la (3 : Int32) K = (0 : Int32)) (hn : Jvm.Free.Fl.NoNaN64 (FP.dsub (gb 1) (gb 0))) :
    Go p e below s ({ frames := 1, cells := 0, slots := 0, locals := 30 } : Room).cells ({ frames := 1, cells := 0, slots := 0, locals := 30 } : Room).slots (fun r h L => r = some (.double (FP.dsub (gb 1) (gb 0))) ∧ Fr n0 L ∧ h = h0) T0 (mkF m 0 #[.val (.ref a), .val (.int fi), .val (.int la)] []) := by
  show Go _ _ _ _ _ _ _ T0 (mkF m 0 #[.val (.ref a), .val (.int fi), .val (.int la)] [])
  refine Go.step (fun _ k => XS.aloadN X0.here hx rfl (hb hby d7_0) rfl rfl k) ?_
  show Go _ _ _ _ _ _ _ T0 (mkF m 1 #[.val (.ref a), .val (.int fi), .val (.int la)] [(.ref a)])
  obtain ⟨T1, X1, e1, st1⟩ := getF X0 hx hZ hown (host := "") (Or.inl (hw _ (List.mem_of_getElem? (i := 29) rfl))) Via.refl e0 F_before_a (g := (mkF m 1 #[.val (.ref a), .val (.int fi), .val (.int la)] [(.ref a)])) rfl rfl (hb hby d7_1)
  refine Go.step st1 ?_
  show Go _ _ _ _ _ _ _ T1 (mkF m 4 #[.val (.ref a), .val (.int fi), .val (.int la)] [(.ref d)])
  refine Go.step (fun _ k => XS.aloadN X1.here hx rfl (hb hby d7_4) rfl rfl k) ?_
  show Go _ _ _ _ _ _ _ T1 (mkF m 5 #[.val (.ref a), .val (.int fi), .val (.int la)] [(.ref a), (.ref d)])
  refine Go.step (fun _ k => XS.iloadN X1.here hx rfl (hb hby d7_5) rfl k) ?_
  show Go _ _ _ _ _ _ _ T1 (mkF m 6 #[.val (.ref a), .val (.int fi), .val (.int la)] [(.int la), (.ref a), (.ref d)])
  refine Go.callP X1 hx hZ (by rw [hml]; rfl) (y := (⟨"tidewatch/decision/KeyGroupCeiling", "owner", "(I)I"⟩ : MethodName)) (a := a) (argsL := [(.int la)]) (rest := [(.ref d)]) hown (hw _ (List.mem_of_getElem? (i := 49) rfl)) (hw _ (List.mem_of_getElem? (i := 50) rfl)) (hw _ (List.mem_of_getElem? (i := 8) rfl)) (hw _ (List.mem_of_getElem? (i := 51) rfl)) (hw _ (List.mem_of_getElem? (i := 9) rfl)) (hw _ (List.mem_of_getElem? (i := 52) rfl)) (by decide) (rm8_3 l Z a0 hw a la c K g h0 n0 Z0 E_a F_keyGroups_a F_shares_a V_c hK) e1 E_a (hb hby d7_6) (lenOf pd_2 rfl) rfl rfl (W := 1) (Nat.le_of_eq rfl) (by decide) (by decide) (by decide) (by decide) ?_
  intro v2 T2 L2 X2 Q2
  rw [ho2] at Q2
  obtain ⟨rfl, N2q, hh2⟩ := Q2
  have N2 := Fr.app N0 N2q
  show Go _ _ _ _ _ _ _ T2 (mkF m 9 #[.val (.ref a), .val (.int fi), .val (.int la)] [(.int (0 : Int32)), (.ref d)])
  refine Go.step (fun _ k => XS.iconst X2.here hx rfl (hb hby d7_9) k) ?_
  show Go _ _ _ _ _ _ _ T2 (mkF m 10 #[.val (.ref a), .val (.int fi), .val (.int la)] [(.int (1 : Int32)), (.int (0 : Int32)), (.ref d)])
  refine Go.step (fun _ k => XS.iadd X2.here hx rfl (hb hby d7_10) rfl k) ?_
  show Go _ _ _ _ _ _ _ T2 (mkF m 11 #[.val (.ref a), .val (.int fi), .val (.int la)] [(.int (1 : Int32)), (.ref d)])
  refine Go.daload X2 hx hZ hh2 V_d (j := (1 : Int32)) (v := (gb 1)) (by decide) rfl (hb hby d7_11) ?_
  show Go _ _ _ _ _ _ _ T2 (mkF m 12 #[.val (.ref a), .val (.int fi), .val (.int la)] [(.double (gb 1))])
  refine Go.step (fun _ k => XS.aloadN X2.here hx rfl (hb hby d7_12) rfl rfl k) ?_
  show Go _ _ _ _ _ _ _ T2 (mkF m 13 #[.val (.ref a), .val (.int fi), .val (.int la)] [(.ref a), (.double (gb 1))])
  obtain ⟨T3, X3, e3, st3⟩ := getF X2 hx hZ hown (host := "") (Or.inl (hw _ (List.mem_of_getElem? (i := 29) rfl))) Via.refl hh2 F_before_a (g := (mkF m 13 #[.val (.ref a), .val (.int fi), .val (.int la)] [(.ref a), (.double (gb 1))])) rfl rfl (hb hby d7_13)
  refine Go.step st3 ?_
  show Go _ _ _ _ _ _ _ T3 (mkF m 16 #[.val (.ref a), .val (.int fi), .val (.int la)] [(.ref d), (.double (gb 1))])
  refine Go.step (fun _ k => XS.aloadN X3.here hx rfl (hb hby d7_16) rfl rfl k) ?_
  show Go _ _ _ _ _ _ _ T3 (mkF m 17 #[.val (.ref a), .val (.int fi), .val (.int la)] [(.ref a), (.ref d), (.double (gb 1))])
  refine Go.step (fun _ k => XS.iloadN X3.here hx rfl (hb hby d7_17) rfl k) ?_
  show Go _ _ _ _ _ _ _ T3 (mkF m 18 #[.val (.ref a), .val (.int fi), .val (.int la)] [(.int fi), (.ref a), (.ref d), (.double (gb 1))])
  refine Go.callP X3 hx hZ (by rw [hml]; rfl) (y := (⟨"tidewatch/decision/KeyGroupCeiling", "owner", "(I)I"⟩ : MethodName)) (a := a) (argsL := [(.int fi)]) (rest := [(.ref d), (.double (gb 1))]) hown (hw _ (List.mem_of_getElem? (i := 49) rfl)) (hw _ (List.mem_of_getElem? (i := 50) rfl)) (hw _ (List.mem_of_getElem? (i := 8) rfl)) (hw _ (List.mem_of_getElem? (i := 51) rfl)) (hw _ (List.mem_of_getElem? (i := 9) rfl)) (hw _ (List.mem_of_getElem? (i := 52) rfl)) (by decide) (rm8_3 l Z a0 hw a fi c K g h0 n0 Z0 E_a F_keyGroups_a F_shares_a V_c hK) e3 E_a (hb hby d7_18) (lenOf pd_2 rfl) rfl rfl (W := 3) (Nat.le_of_eq rfl) (by decide) (by decide) (by decide) (by decide) ?_
  intro v4 T4 L4 X4 Q4
  rw [ho1] at Q4
  obtain ⟨rfl, N4q, hh4⟩ := Q4
  have N4 := Fr.app N2 N4q
  show Go _ _ _ _ _ _ _ T4 (mkF m 21 #[.val (.ref a), .val (.int fi), .val (.int la)] [(.int (0 : Int32)), (.ref d), (.double (gb 1))])
  refine Go.daload X4 hx hZ hh4 V_d (j := (0 : Int32)) (v := (gb 0)) (by decide) rfl (hb hby d7_21) ?_
  show Go _ _ _ _ _ _ _ T4 (mkF m 22 #[.val (.ref a), .val (.int fi), .val (.int la)] [(.double (gb 0)), (.double (gb 1))])
  refine Go.step (fun _ k => XS.dsubS X4.here hx rfl (hb hby d7_22) rfl hn rfl k) ?_
  show Go _ _ _ _ _ _ _ T4 (mkF m 23 #[.val (.ref a), .val (.int fi), .val (.int la)] [(.double (FP.dsub (gb 1) (gb 0)))])
  refine Go.retD X4 hx hlk hret (hb hby d7_23) (by decide) (by decide) ?_
  try rw [hh4]
  exact ⟨rfl, N4, rfl⟩
theorem ef_rm7_300 (m : MethodId) (a : Addr) (fi : Int32) (la : Int32) : entryFrame m #[(.ref a), (.int fi), (.int la)] 3 = mkF m 0 #[.val (.ref a), .val (.int fi), .val (.int la)] [] := by first | (simp [entryFrame, mkF, argsToLocals, Value.category]; done) | rfl
theorem rm7_300 (l : Launch) (Z : State) (a0 : Array Value) (hw : ∀ d ∈ tables_1, d.before a0 Z = true) (a : Addr) (fi la : Int32) (c d : Addr) (K : Int32) (g gb : Nat → UInt64) (h0 : Heap) (n0 : Nat) (Z0 : n0 ≤ h0.size) (E_a : Exa Z h0 a "tidewatch/decision/KeyGroupCeiling") (F_keyGroups_a : Fld Z h0 a "tidewatch/decision/KeyGroupCeiling" "keyGroups" "I" (.int K)) (F_shares_a : Fld Z h0 a "tidewatch/decision/KeyGroupCeiling" "shares" "[D" (.ref c)) (V_c : Dv Z h0 c (3 : Int32) g) (F_before_a : Fld Z h0 a "tidewatch/decision/KeyGroupCeiling" "before" "[D" (.ref d)) (V_d : Dv Z h0 d (4 : Int32) gb) (hK : 1 ≤ K.toInt) (ho1 : ownW fi (3 : Int32) K = (0 : Int32)) (ho2 : ownW la (3 : Int32) K = (0 : Int32)) (hn : Jvm.Free.Fl.NoNaN64 (FP.dsub (gb 1) (gb 0))) :
    Con l Z (⟨"tidewatch/decision/KeyGroupCeiling", "atMost", "(II)D"⟩ : MethodName) prog_33_method_6_code 3 (some .double) ({ frames := 1, cells := 0, slots := 0, locals := 30 } : Room) #[(.ref a), (.int fi), (.int la)] h0 (fun r h L => r = some (.double (FP.dsub (gb 1) (gb 0))) ∧ Fr n0 L ∧ h = h0) :=
  con_of (plainFor_of_name pn_2) (fun p_ e_ s_ m_ b_ meth_ c_ T_ X_ hx hZ hby hml hown hnm hret hlk e0 => Go.cast (ef_rm7_300 m_ a fi la) (w7_300 a fi la c d K g gb X_ hx hZ hw hby hml hown hnm hret hlk e0 Z0 (Fr.nil n0) E_a F_keyGroups_a F_shares_a V_c F_before_a V_d hK ho1 ho2 hn))
set_option maxRecDepth 65536 in
set_option maxHeartbeats 40000000 in
theorem w7_301 {p : Program} {l : Launch} {e : Env} {s : State} {m : MethodId} {args : Array Value} {below : List Frame} {meth : Method} {c_ : Code} {T0 : State} {locs : List Loc} {Z : State} {a0 : Array Value} {h0 : Heap} {n0 : Nat} (a : Addr) (fi la : Int32) (c d : Addr) (K : Int32) (g gb : Nat → UInt64)
    (X0 : Stand p l e ({ frames := 1, cells := 0, slots := 0, locals := 30 } : Room) s m args below meth c_ T0 locs 0 0) (hx : p.tables.exec = Jvm.exec) (hZ : Z.Warmed39 s.vm) (hw : ∀ d ∈ tables_1, d.before a0 Z = true) (hby : c_.code = prog_33_method_6_code) (hml : c_.maxLocals = 3) (hown : s.vm.findClass "tidewatch/decision/KeyGroupCeiling" = some m.cls) (hnm : meth.name = "atMost") (hret : meth.sig.returnType = some .double) (hlk : meth.locks = false) (e0 : T0.heap = h0) (Z0 : n0 ≤ h0.size) (N0 : Fr n0 locs) (E_a : Exa Z h0 a "tidewatch/decision/KeyGroupCeiling") (F_keyGroups_a : Fld Z h0 a "tidewatch/decision/KeyGroupCeiling" "keyGroups" "I" (.int K)) (F_shares_a : Fld Z h0 a "tidewatch/decision/KeyGroupCeiling" "shares" "[D" (.ref c)) (V_c : Dv Z h0 c (3 : Int32) g) (F_before_a : Fld Z h0 a "tidewatch/decision/KeyGroupCeiling" "before" "[D" (.ref d)) (V_d : Dv Z h0 d (4 : Int32) gb) (hK : 1 ≤ K.toInt) (ho1 : ownW fi (3 : Int32) K = (0 : Int32)) (ho2 : ownW la (3 : Int32) K = (1 : Int32)) (hn : Jvm.Free.Fl.NoNaN64 (FP.dsub (gb 2) (gb 0))) :
    Go p e below s ({ frames := 1, cells := 0, slots := 0, locals := 30 } : Room).cells ({ frames := 1, cells := 0, slots := 0, locals := 30 } : Room).slots (fun r h L => r = some (.double (FP.dsub (gb 2) (gb 0))) ∧ Fr n0 L ∧ h = h0) T0 (mkF m 0 #[.val (.ref a), .val (.int fi), .val (.int la)] []) := by
  show Go _ _ _ _ _ _ _ T0 (mkF m 0 #[.val (.ref a), .val (.int fi), .val (.int la)] [])
  refine Go.step (fun _ k => XS.aloadN X0.here hx rfl (hb hby d7_0) rfl rfl k) ?_
  show Go _ _ _ _ _ _ _ T0 (mkF m 1 #[.val (.ref a), .val (.int fi), .val (.int la)] [(.ref a)])
  obtain ⟨T1, X1, e1, st1⟩ := getF X0 hx hZ hown (host := "") (Or.inl (hw _ (List.mem_of_getElem? (i := 29) rfl))) Via.refl e0 F_before_a (g := (mkF m 1 #[.val (.ref a), .val (.int fi), .val (.int la)] [(.ref a)])) rfl rfl (hb hby d7_1)
  refine Go.step st1 ?_
  show Go _ _ _ _ _ _ _ T1 (mkF m 4 #[.val (.ref a), .val (.int fi), .val (.int la)] [(.ref d)])
  refine Go.step (fun _ k => XS.aloadN X1.here hx rfl (hb hby d7_4) rfl rfl k) ?_
  show Go _ _ _ _ _ _ _ T1 (mkF m 5 #[.val (.ref a), .val (.int fi), .val (.int la)] [(.ref a), (.ref d)])
  refine Go.step (fun _ k => XS.iloadN X1.here hx rfl (hb hby d7_5) rfl k) ?_
  show Go _ _ _ _ _ _ _ T1 (mkF m 6 #[.val (.ref a), .val (.int fi), .val (.int la)] [(.int la), (.ref a), (.ref d)])
  refine Go.callP X1 hx hZ (by rw [hml]; rfl) (y := (⟨"tidewatch/decision/KeyGroupCeiling", "owner", "(I)I"⟩ : MethodName)) (a := a) (argsL := [(.int la)]) (rest := [(.ref d)]) hown (hw _ (List.mem_of_getElem? (i := 49) rfl)) (hw _ (List.mem_of_getElem? (i := 50) rfl)) (hw _ (List.mem_of_getElem? (i := 8) rfl)) (hw _ (List.mem_of_getElem? (i := 51) rfl)) (hw _ (List.mem_of_getElem? (i := 9) rfl)) (hw _ (List.mem_of_getElem? (i := 52) rfl)) (by decide) (rm8_3 l Z a0 hw a la c K g h0 n0 Z0 E_a F_keyGroups_a F_shares_a V_c hK) e1 E_a (hb hby d7_6) (lenOf pd_2 rfl) rfl rfl (W := 1) (Nat.le_of_eq rfl) (by decide) (by decide) (by decide) (by decide) ?_
  intro v2 T2 L2 X2 Q2
  rw [ho2] at Q2
  obtain ⟨rfl, N2q, hh2⟩ := Q2
  have N2 := Fr.app N0 N2q
  show Go _ _ _ _ _ _ _ T2 (mkF m 9 #[.val (.ref a), .val (.int fi), .val (.int la)] [(.int (1 : Int32)), (.ref d)])
  refine Go.step (fun _ k => XS.iconst X2.here hx rfl (hb hby d7_9) k) ?_
  show Go _ _ _ _ _ _ _ T2 (mkF m 10 #[.val (.ref a), .val (.int fi), .val (.int la)] [(.int (1 : Int32)), (.int (1 : Int32)), (.ref d)])
  refine Go.step (fun _ k => XS.iadd X2.here hx rfl (hb hby d7_10) rfl k) ?_
  show Go _ _ _ _ _ _ _ T2 (mkF m 11 #[.val (.ref a), .val (.int fi), .val (.int la)] [(.int (2 : Int32)), (.ref d)])
  refine Go.daload X2 hx hZ hh2 V_d (j := (2 : Int32)) (v := (gb 2)) (by decide) rfl (hb hby d7_11) ?_
  show Go _ _ _ _ _ _ _ T2 (mkF m 12 #[.val (.ref a), .val (.int fi), .val (.int la)] [(.double (gb 2))])
  refine Go.step (fun _ k => XS.aloadN X2.here hx rfl (hb hby d7_12) rfl rfl k) ?_
  show Go _ _ _ _ _ _ _ T2 (mkF m 13 #[.val (.ref a), .val (.int fi), .val (.int la)] [(.ref a), (.double (gb 2))])
  obtain ⟨T3, X3, e3, st3⟩ := getF X2 hx hZ hown (host := "") (Or.inl (hw _ (List.mem_of_getElem? (i := 29) rfl))) Via.refl hh2 F_before_a (g := (mkF m 13 #[.val (.ref a), .val (.int fi), .val (.int la)] [(.ref a), (.double (gb 2))])) rfl rfl (hb hby d7_13)
  refine Go.step st3 ?_
  show Go _ _ _ _ _ _ _ T3 (mkF m 16 #[.val (.ref a), .val (.int fi), .val (.int la)] [(.ref d), (.double (gb 2))])
  refine Go.step (fun _ k => XS.aloadN X3.here hx rfl (hb hby d7_16) rfl rfl k) ?_
  show Go _ _ _ _ _ _ _ T3 (mkF m 17 #[.val (.ref a), .val (.int fi), .val (.int la)] [(.ref a), (.ref d), (.double (gb 2))])
  refine Go.step (fun _ k => XS.iloadN X3.here hx rfl (hb hby d7_17) rfl k) ?_
  show Go _ _ _ _ _ _ _ T3 (mkF m 18 #[.val (.ref a), .val (.int fi), .val (.int la)] [(.int fi), (.ref a), (.ref d), (.double (gb 2))])
  refine Go.callP X3 hx hZ (by rw [hml]; rfl) (y := (⟨"tidewatch/decision/KeyGroupCeiling", "owner", "(I)I"⟩ : MethodName)) (a := a) (argsL := [(.int fi)]) (rest := [(.ref d), (.double (gb 2))]) hown (hw _ (List.mem_of_getElem? (i := 49) rfl)) (hw _ (List.mem_of_getElem? (i := 50) rfl)) (hw _ (List.mem_of_getElem? (i := 8) rfl)) (hw _ (List.mem_of_getElem? (i := 51) rfl)) (hw _ (List.mem_of_getElem? (i := 9) rfl)) (hw _ (List.mem_of_getElem? (i := 52) rfl)) (by decide) (rm8_3 l Z a0 hw a fi c K g h0 n0 Z0 E_a F_keyGroups_a F_shares_a V_c hK) e3 E_a (hb hby d7_18) (lenOf pd_2 rfl) rfl rfl (W := 3) (Nat.le_of_eq rfl) (by decide) (by decide) (by decide) (by decide) ?_
  intro v4 T4 L4 X4 Q4
  rw [ho1] at Q4
  obtain ⟨rfl, N4q, hh4⟩ := Q4
  have N4 := Fr.app N2 N4q
  show Go _ _ _ _ _ _ _ T4 (mkF m 21 #[.val (.ref a), .val (.int fi), .val (.int la)] [(.int (0 : Int32)), (.ref d), (.double (gb 2))])
  refine Go.daload X4 hx hZ hh4 V_d (j := (0 : Int32)) (v := (gb 0)) (by decide) rfl (hb hby d7_21) ?_
  show Go _ _ _ _ _ _ _ T4 (mkF m 22 #[.val (.ref a), .val (.int fi), .val (.int la)] [(.double (gb 0)), (.double (gb 2))])
  refine Go.step (fun _ k => XS.dsubS X4.here hx rfl (hb hby d7_22) rfl hn rfl k) ?_
  show Go _ _ _ _ _ _ _ T4 (mkF m 23 #[.val (.ref a), .val (.int fi), .val (.int la)] [(.double (FP.dsub (gb 2) (gb 0)))])
  refine Go.retD X4 hx hlk hret (hb hby d7_23) (by decide) (by decide) ?_
  try rw [hh4]
  exact ⟨rfl, N4, rfl⟩
theorem ef_rm7_301 (m : MethodId) (a : Addr) (fi : Int32) (la : Int32) : entryFrame m #[(.ref a), (.int fi), (.int la)] 3 = mkF m 0 #[.val (.ref a), .val (.int fi), .val (.int la)] [] := by first | (simp [entryFrame, mkF, argsToLocals, Value.category]; done) | rfl
theorem rm7_301 (l : Launch) (Z : State) (a0 : Array Value) (hw : ∀ d ∈ tables_1, d.before a0 Z = true) (a : Addr) (fi la : Int32) (c d : Addr) (K : Int32) (g gb : Nat → UInt64) (h0 : Heap) (n0 : Nat) (Z0 : n0 ≤ h0.size) (E_a : Exa Z h0 a "tidewatch/decision/KeyGroupCeiling") (F_keyGroups_a : Fld Z h0 a "tidewatch/decision/KeyGroupCeiling" "keyGroups" "I" (.int K)) (F_shares_a : Fld Z h0 a "tidewatch/decision/KeyGroupCeiling" "shares" "[D" (.ref c)) (V_c : Dv Z h0 c (3 : Int32) g) (F_before_a : Fld Z h0 a "tidewatch/decision/KeyGroupCeiling" "before" "[D" (.ref d)) (V_d : Dv Z h0 d (4 : Int32) gb) (hK : 1 ≤ K.toInt) (ho1 : ownW fi (3 : Int32) K = (0 : Int32)) (ho2 : ownW la (3 : Int32) K = (1 : Int32)) (hn : Jvm.Free.Fl.NoNaN64 (FP.dsub (gb 2) (gb 0))) :
    Con l Z (⟨"tidewatch/decision/KeyGroupCeiling", "atMost", "(II)D"⟩ : MethodName) prog_33_method_6_code 3 (some .double) ({ frames := 1, cells := 0, slots := 0, locals := 30 } : Room) #[(.ref a), (.int fi), (.int la)] h0 (fun r h L => r = some (.double (FP.dsub (gb 2) (gb 0))) ∧ Fr n0 L ∧ h = h0) :=
  con_of (plainFor_of_name pn_2) (fun p_ e_ s_ m_ b_ meth_ c_ T_ X_ hx hZ hby hml hown hnm hret hlk e0 => Go.cast (ef_rm7_301 m_ a fi la) (w7_301 a fi la c d K g gb X_ hx hZ hw hby hml hown hnm hret hlk e0 Z0 (Fr.nil n0) E_a F_keyGroups_a F_shares_a V_c F_before_a V_d hK ho1 ho2 hn))
set_option maxRecDepth 65536 in
set_option maxHeartbeats 40000000 in
theorem w7_302 {p : Program} {l : Launch} {e : Env} {s : State} {m : MethodId} {args : Array Value} {below : List Frame} {meth : Method} {c_ : Code} {T0 : State} {locs : List Loc} {Z : State} {a0 : Array Value} {h0 : Heap} {n0 : Nat} (a : Addr) (fi la : Int32) (c d : Addr) (K : Int32) (g gb : Nat → UInt64)
    (X0 : Stand p l e ({ frames := 1, cells := 0, slots := 0, locals := 30 } : Room) s m args below meth c_ T0 locs 0 0) (hx : p.tables.exec = Jvm.exec) (hZ : Z.Warmed39 s.vm) (hw : ∀ d ∈ tables_1, d.before a0 Z = true) (hby : c_.code = prog_33_method_6_code) (hml : c_.maxLocals = 3) (hown : s.vm.findClass "tidewatch/decision/KeyGroupCeiling" = some m.cls) (hnm : meth.name = "atMost") (hret : meth.sig.returnType = some .double) (hlk : meth.locks = false) (e0 : T0.heap = h0) (Z0 : n0 ≤ h0.size) (N0 : Fr n0 locs) (E_a : Exa Z h0 a "tidewatch/decision/KeyGroupCeiling") (F_keyGroups_a : Fld Z h0 a "tidewatch/decision/KeyGroupCeiling" "keyGroups" "I" (.int K)) (F_shares_a : Fld Z h0 a "tidewatch/decision/KeyGroupCeiling" "shares" "[D" (.ref c)) (V_c : Dv Z h0 c (3 : Int32) g) (F_before_a : Fld Z h0 a "tidewatch/decision/KeyGroupCeiling" "before" "[D" (.ref d)) (V_d : Dv Z h0 d (4 : Int32) gb) (hK : 1 ≤ K.toInt) (ho1 : ownW fi (3 : Int32) K = (0 : Int32)) (ho2 : ownW la (3 : Int32) K = (2 : Int32)) (hn : Jvm.Free.Fl.NoNaN64 (FP.dsub (gb 3) (gb 0))) :
    Go p e below s ({ frames := 1, cells := 0, slots := 0, locals := 30 } : Room).cells ({ frames := 1, cells := 0, slots := 0, locals := 30 } : Room).slots (fun r h L => r = some (.double (FP.dsub (gb 3) (gb 0))) ∧ Fr n0 L ∧ h = h0) T0 (mkF m 0 #[.val (.ref a), .val (.int fi), .val (.int la)] []) := by
  show Go _ _ _ _ _ _ _ T0 (mkF m 0 #[.val (.ref a), .val (.int fi), .val (.int la)] [])
  refine Go.step (fun _ k => XS.aloadN X0.here hx rfl (hb hby d7_0) rfl rfl k) ?_
  show Go _ _ _ _ _ _ _ T0 (mkF m 1 #[.val (.ref a), .val (.int fi), .val (.int la)] [(.ref a)])
  obtain ⟨T1, X1, e1, st1⟩ := getF X0 hx hZ hown (host := "") (Or.inl (hw _ (List.mem_of_getElem? (i := 29) rfl))) Via.refl e0 F_before_a (g := (mkF m 1 #[.val (.ref a), .val (.int fi), .val (.int la)] [(.ref a)])) rfl rfl (hb hby d7_1)
  refine Go.step st1 ?_
  show Go _ _ _ _ _ _ _ T1 (mkF m 4 #[.val (.ref a), .val (.int fi), .val (.int la)] [(.ref d)])
  refine Go.step (fun _ k => XS.aloadN X1.here hx rfl (hb hby d7_4) rfl rfl k) ?_
  show Go _ _ _ _ _ _ _ T1 (mkF m 5 #[.val (.ref a), .val (.int fi), .val (.int la)] [(.ref a), (.ref d)])
  refine Go.step (fun _ k => XS.iloadN X1.here hx rfl (hb hby d7_5) rfl k) ?_
  show Go _ _ _ _ _ _ _ T1 (mkF m 6 #[.val (.ref a), .val (.int fi), .val (.int la)] [(.int la), (.ref a), (.ref d)])
  refine Go.callP X1 hx hZ (by rw [hml]; rfl) (y := (⟨"tidewatch/decision/KeyGroupCeiling", "owner", "(I)I"⟩ : MethodName)) (a := a) (argsL := [(.int la)]) (rest := [(.ref d)]) hown (hw _ (List.mem_of_getElem? (i := 49) rfl)) (hw _ (List.mem_of_getElem? (i := 50) rfl)) (hw _ (List.mem_of_getElem? (i := 8) rfl)) (hw _ (List.mem_of_getElem? (i := 51) rfl)) (hw _ (List.mem_of_getElem? (i := 9) rfl)) (hw _ (List.mem_of_getElem? (i := 52) rfl)) (by decide) (rm8_3 l Z a0 hw a la c K g h0 n0 Z0 E_a F_keyGroups_a F_shares_a V_c hK) e1 E_a (hb hby d7_6) (lenOf pd_2 rfl) rfl rfl (W := 1) (Nat.le_of_eq rfl) (by decide) (by decide) (by decide) (by decide) ?_
  intro v2 T2 L2 X2 Q2
  rw [ho2] at Q2
  obtain ⟨rfl, N2q, hh2⟩ := Q2
  have N2 := Fr.app N0 N2q
  show Go _ _ _ _ _ _ _ T2 (mkF m 9 #[.val (.ref a), .val (.int fi), .val (.int la)] [(.int (2 : Int32)), (.ref d)])
  refine Go.step (fun _ k => XS.iconst X2.here hx rfl (hb hby d7_9) k) ?_
  show Go _ _ _ _ _ _ _ T2 (mkF m 10 #[.val (.ref a), .val (.int fi), .val (.int la)] [(.int (1 : Int32)), (.int (2 : Int32)), (.ref d)])
  refine Go.step (fun _ k => XS.iadd X2.here hx rfl (hb hby d7_10) rfl k) ?_
  show Go _ _ _ _ _ _ _ T2 (mkF m 11 #[.val (.ref a), .val (.int fi), .val (.int la)] [(.int (3 : Int32)), (.ref d)])
  refine Go.daload X2 hx hZ hh2 V_d (j := (3 : Int32)) (v := (gb 3)) (by decide) rfl (hb hby d7_11) ?_
  show Go _ _ _ _ _ _ _ T2 (mkF m 12 #[.val (.ref a), .val (.int fi), .val (.int la)] [(.double (gb 3))])
  refine Go.step (fun _ k => XS.aloadN X2.here hx rfl (hb hby d7_12) rfl rfl k) ?_
  show Go _ _ _ _ _ _ _ T2 (mkF m 13 #[.val (.ref a), .val (.int fi), .val (.int la)] [(.ref a), (.double (gb 3))])
  obtain ⟨T3, X3, e3, st3⟩ := getF X2 hx hZ hown (host := "") (Or.inl (hw _ (List.mem_of_getElem? (i := 29) rfl))) Via.refl hh2 F_before_a (g := (mkF m 13 #[.val (.ref a), .val (.int fi), .val (.int la)] [(.ref a), (.double (gb 3))])) rfl rfl (hb hby d7_13)
  refine Go.step st3 ?_
  show Go _ _ _ _ _ _ _ T3 (mkF m 16 #[.val (.ref a), .val (.int fi), .val (.int la)] [(.ref d), (.double (gb 3))])
  refine Go.step (fun _ k => XS.aloadN X3.here hx rfl (hb hby d7_16) rfl rfl k) ?_
  show Go _ _ _ _ _ _ _ T3 (mkF m 17 #[.val (.ref a), .val (.int fi), .val (.int la)] [(.ref a), (.ref d), (.double (gb 3))])
  refine Go.step (fun _ k => XS.iloadN X3.here hx rfl (hb hby d7_17) rfl k) ?_
  show Go _ _ _ _ _ _ _ T3 (mkF m 18 #[.val (.ref a), .val (.int fi), .val (.int la)] [(.int fi), (.ref a), (.ref d), (.double (gb 3))])
  refine Go.callP X3 hx hZ (by rw [hml]; rfl) (y := (⟨"tidewatch/decision/KeyGroupCeiling", "owner", "(I)I"⟩ : MethodName)) (a := a) (argsL := [(.int fi)]) (rest := [(.ref d), (.double (gb 3))]) hown (hw _ (List.mem_of_getElem? (i := 49) rfl)) (hw _ (List.mem_of_getElem? (i := 50) rfl)) (hw _ (List.mem_of_getElem? (i := 8) rfl)) (hw _ (List.mem_of_getElem? (i := 51) rfl)) (hw _ (List.mem_of_getElem? (i := 9) rfl)) (hw _ (List.mem_of_getElem? (i := 52) rfl)) (by decide) (rm8_3 l Z a0 hw a fi c K g h0 n0 Z0 E_a F_keyGroups_a F_shares_a V_c hK) e3 E_a (hb hby d7_18) (lenOf pd_2 rfl) rfl rfl (W := 3) (Nat.le_of_eq rfl) (by decide) (by decide) (by decide) (by decide) ?_
  intro v4 T4 L4 X4 Q4
  rw [ho1] at Q4
  obtain ⟨rfl, N4q, hh4⟩ := Q4
  have N4 := Fr.app N2 N4q
  show Go _ _ _ _ _ _ _ T4 (mkF m 21 #[.val (.ref a), .val (.int fi), .val (.int la)] [(.int (0 : Int32)), (.ref d), (.double (gb 3))])
  refine Go.daload X4 hx hZ hh4 V_d (j := (0 : Int32)) (v := (gb 0)) (by decide) rfl (hb hby d7_21) ?_
  show Go _ _ _ _ _ _ _ T4 (mkF m 22 #[.val (.ref a), .val (.int fi), .val (.int la)] [(.double (gb 0)), (.double (gb 3))])
  refine Go.step (fun _ k => XS.dsubS X4.here hx rfl (hb hby d7_22) rfl hn rfl k) ?_
  show Go _ _ _ _ _ _ _ T4 (mkF m 23 #[.val (.ref a), .val (.int fi), .val (.int la)] [(.double (FP.dsub (gb 3) (gb 0)))])
  refine Go.retD X4 hx hlk hret (hb hby d7_23) (by decide) (by decide) ?_
  try rw [hh4]
  exact ⟨rfl, N4, rfl⟩
theorem ef_rm7_302 (m : MethodId) (a : Addr) (fi : Int32) (la : Int32) : entryFrame m #[(.ref a), (.int fi), (.int la)] 3 = mkF m 0 #[.val (.ref a), .val (.int fi), .val (.int la)] [] := by first | (simp [entryFrame, mkF, argsToLocals, Value.category]; done) | rfl
theorem rm7_302 (l : Launch) (Z : State) (a0 : Array Value) (hw : ∀ d ∈ tables_1, d.before a0 Z = true) (a : Addr) (fi la : Int32) (c d : Addr) (K : Int32) (g gb : Nat → UInt64) (h0 : Heap) (n0 : Nat) (Z0 : n0 ≤ h0.size) (E_a : Exa Z h0 a "tidewatch/decision/KeyGroupCeiling") (F_keyGroups_a : Fld Z h0 a "tidewatch/decision/KeyGroupCeiling" "keyGroups" "I" (.int K)) (F_shares_a : Fld Z h0 a "tidewatch/decision/KeyGroupCeiling" "shares" "[D" (.ref c)) (V_c : Dv Z h0 c (3 : Int32) g) (F_before_a : Fld Z h0 a "tidewatch/decision/KeyGroupCeiling" "before" "[D" (.ref d)) (V_d : Dv Z h0 d (4 : Int32) gb) (hK : 1 ≤ K.toInt) (ho1 : ownW fi (3 : Int32) K = (0 : Int32)) (ho2 : ownW la (3 : Int32) K = (2 : Int32)) (hn : Jvm.Free.Fl.NoNaN64 (FP.dsub (gb 3) (gb 0))) :
    Con l Z (⟨"tidewatch/decision/KeyGroupCeiling", "atMost", "(II)D"⟩ : MethodName) prog_33_method_6_code 3 (some .double) ({ frames := 1, cells := 0, slots := 0, locals := 30 } : Room) #[(.ref a), (.int fi), (.int la)] h0 (fun r h L => r = some (.double (FP.dsub (gb 3) (gb 0))) ∧ Fr n0 L ∧ h = h0) :=
  con_of (plainFor_of_name pn_2) (fun p_ e_ s_ m_ b_ meth_ c_ T_ X_ hx hZ hby hml hown hnm hret hlk e0 => Go.cast (ef_rm7_302 m_ a fi la) (w7_302 a fi la c d K g gb X_ hx hZ hw hby hml hown hnm hret hlk e0 Z0 (Fr.nil n0) E_a F_keyGroups_a F_shares_a V_c F_before_a V_d hK ho1 ho2 hn))
set_option maxRecDepth 65536 in
set_option maxHeartbeats 40000000 in
theorem w7_311 {p : Program} {l : Launch} {e : Env} {s : State} {m : MethodId} {args : Array Value} {below : List Frame} {meth : Method} {c_ : Code} {T0 : State} {locs : List Loc} {Z : State} {a0 : Array Value} {h0 : Heap} {n0 : Nat} (a : Addr) (fi la : Int32) (c d : Addr) (K : Int32) (g gb : Nat → UInt64)
    (X0 : Stand p l e ({ frames := 1, cells := 0, slots := 0, locals := 30 } : Room) s m args below meth c_ T0 locs 0 0) (hx : p.tables.exec = Jvm.exec) (hZ : Z.Warmed39 s.vm) (hw : ∀ d ∈ tables_1, d.before a0 Z = true) (hby : c_.code = prog_33_method_6_code) (hml : c_.maxLocals = 3) (hown : s.vm.findClass "tidewatch/decision/KeyGroupCeiling" = some m.cls) (hnm : meth.name = "atMost") (hret : meth.sig.returnType = some .double) (hlk : meth.locks = false) (e0 : T0.heap = h0) (Z0 : n0 ≤ h0.size) (N0 : Fr n0 locs) (E_a : Exa Z h0 a "tidewatch/decision/KeyGroupCeiling") (F_keyGroups_a : Fld Z h0 a "tidewatch/decision/KeyGroupCeiling" "keyGroups" "I" (.int K)) (F_shares_a : Fld Z h0 a "tidewatch/decision/KeyGroupCeiling" "shares" "[D" (.ref c)) (V_c : Dv Z h0 c (3 : Int32) g) (F_before_a : Fld Z h0 a "tidewatch/decision/KeyGroupCeiling" "before" "[D" (.ref d)) (V_d : Dv Z h0 d (4 : Int32) gb) (hK : 1 ≤ K.toInt) (ho1 : ownW fi (3 : Int32) K = (1 : Int32)) (ho2 : ownW la (3 : Int32) K = (1 : Int32)) (hn : Jvm.Free.Fl.NoNaN64 (FP.dsub (gb 2) (gb 1))) :
    Go p e below s ({ frames := 1, cells := 0, slots := 0, locals := 30 } : Room).cells ({ frames := 1, cells := 0, slots := 0, locals := 30 } : Room).slots (fun r h L => r = some (.double (FP.dsub (gb 2) (gb 1))) ∧ Fr n0 L ∧ h = h0) T0 (mkF m 0 #[.val (.ref a), .val (.int fi), .val (.int la)] []) := by
  show Go _ _ _ _ _ _ _ T0 (mkF m 0 #[.val (.ref a), .val (.int fi), .val (.int la)] [])
  refine Go.step (fun _ k => XS.aloadN X0.here hx rfl (hb hby d7_0) rfl rfl k) ?_
  show Go _ _ _ _ _ _ _ T0 (mkF m 1 #[.val (.ref a), .val (.int fi), .val (.int la)] [(.ref a)])
  obtain ⟨T1, X1, e1, st1⟩ := getF X0 hx hZ hown (host := "") (Or.inl (hw _ (List.mem_of_getElem? (i := 29) rfl))) Via.refl e0 F_before_a (g := (mkF m 1 #[.val (.ref a), .val (.int fi), .val (.int la)] [(.ref a)])) rfl rfl (hb hby d7_1)
  refine Go.step st1 ?_
  show Go _ _ _ _ _ _ _ T1 (mkF m 4 #[.val (.ref a), .val (.int fi), .val (.int la)] [(.ref d)])
  refine Go.step (fun _ k => XS.aloadN X1.here hx rfl (hb hby d7_4) rfl rfl k) ?_
  show Go _ _ _ _ _ _ _ T1 (mkF m 5 #[.val (.ref a), .val (.int fi), .val (.int la)] [(.ref a), (.ref d)])
  refine Go.step (fun _ k => XS.iloadN X1.here hx rfl (hb hby d7_5) rfl k) ?_
  show Go _ _ _ _ _ _ _ T1 (mkF m 6 #[.val (.ref a), .val (.int fi), .val (.int la)] [(.int la), (.ref a), (.ref d)])
  refine Go.callP X1 hx hZ (by rw [hml]; rfl) (y := (⟨"tidewatch/decision/KeyGroupCeiling", "owner", "(I)I"⟩ : MethodName)) (a := a) (argsL := [(.int la)]) (rest := [(.ref d)]) hown (hw _ (List.mem_of_getElem? (i := 49) rfl)) (hw _ (List.mem_of_getElem? (i := 50) rfl)) (hw _ (List.mem_of_getElem? (i := 8) rfl)) (hw _ (List.mem_of_getElem? (i := 51) rfl)) (hw _ (List.mem_of_getElem? (i := 9) rfl)) (hw _ (List.mem_of_getElem? (i := 52) rfl)) (by decide) (rm8_3 l Z a0 hw a la c K g h0 n0 Z0 E_a F_keyGroups_a F_shares_a V_c hK) e1 E_a (hb hby d7_6) (lenOf pd_2 rfl) rfl rfl (W := 1) (Nat.le_of_eq rfl) (by decide) (by decide) (by decide) (by decide) ?_
  intro v2 T2 L2 X2 Q2
  rw [ho2] at Q2
  obtain ⟨rfl, N2q, hh2⟩ := Q2
  have N2 := Fr.app N0 N2q
  show Go _ _ _ _ _ _ _ T2 (mkF m 9 #[.val (.ref a), .val (.int fi), .val (.int la)] [(.int (1 : Int32)), (.ref d)])
  refine Go.step (fun _ k => XS.iconst X2.here hx rfl (hb hby d7_9) k) ?_
  show Go _ _ _ _ _ _ _ T2 (mkF m 10 #[.val (.ref a), .val (.int fi), .val (.int la)] [(.int (1 : Int32)), (.int (1 : Int32)), (.ref d)])
  refine Go.step (fun _ k => XS.iadd X2.here hx rfl (hb hby d7_10) rfl k) ?_
  show Go _ _ _ _ _ _ _ T2 (mkF m 11 #[.val (.ref a), .val (.int fi), .val (.int la)] [(.int (2 : Int32)), (.ref d)])
  refine Go.daload X2 hx hZ hh2 V_d (j := (2 : Int32)) (v := (gb 2)) (by decide) rfl (hb hby d7_11) ?_
  show Go _ _ _ _ _ _ _ T2 (mkF m 12 #[.val (.ref a), .val (.int fi), .val (.int la)] [(.double (gb 2))])
  refine Go.step (fun _ k => XS.aloadN X2.here hx rfl (hb hby d7_12) rfl rfl k) ?_
  show Go _ _ _ _ _ _ _ T2 (mkF m 13 #[.val (.ref a), .val (.int fi), .val (.int la)] [(.ref a), (.double (gb 2))])
  obtain ⟨T3, X3, e3, st3⟩ := getF X2 hx hZ hown (host := "") (Or.inl (hw _ (List.mem_of_getElem? (i := 29) rfl))) Via.refl hh2 F_before_a (g := (mkF m 13 #[.val (.ref a), .val (.int fi), .val (.int la)] [(.ref a), (.double (gb 2))])) rfl rfl (hb hby d7_13)
  refine Go.step st3 ?_
  show Go _ _ _ _ _ _ _ T3 (mkF m 16 #[.val (.ref a), .val (.int fi), .val (.int la)] [(.ref d), (.double (gb 2))])
  refine Go.step (fun _ k => XS.aloadN X3.here hx rfl (hb hby d7_16) rfl rfl k) ?_
  show Go _ _ _ _ _ _ _ T3 (mkF m 17 #[.val (.ref a), .val (.int fi), .val (.int la)] [(.ref a), (.ref d), (.double (gb 2))])
  refine Go.step (fun _ k => XS.iloadN X3.here hx rfl (hb hby d7_17) rfl k) ?_
  show Go _ _ _ _ _ _ _ T3 (mkF m 18 #[.val (.ref a), .val (.int fi), .val (.int la)] [(.int fi), (.ref a), (.ref d), (.double (gb 2))])
  refine Go.callP X3 hx hZ (by rw [hml]; rfl) (y := (⟨"tidewatch/decision/KeyGroupCeiling", "owner", "(I)I"⟩ : MethodName)) (a := a) (argsL := [(.int fi)]) (rest := [(.ref d), (.double (gb 2))]) hown (hw _ (List.mem_of_getElem? (i := 49) rfl)) (hw _ (List.mem_of_getElem? (i := 50) rfl)) (hw _ (List.mem_of_getElem? (i := 8) rfl)) (hw _ (List.mem_of_getElem? (i := 51) rfl)) (hw _ (List.mem_of_getElem? (i := 9) rfl)) (hw _ (List.mem_of_getElem? (i := 52) rfl)) (by decide) (rm8_3 l Z a0 hw a fi c K g h0 n0 Z0 E_a F_keyGroups_a F_shares_a V_c hK) e3 E_a (hb hby d7_18) (lenOf pd_2 rfl) rfl rfl (W := 3) (Nat.le_of_eq rfl) (by decide) (by decide) (by decide) (by decide) ?_
  intro v4 T4 L4 X4 Q4
  rw [ho1] at Q4
  obtain ⟨rfl, N4q, hh4⟩ := Q4
  have N4 := Fr.app N2 N4q
  show Go _ _ _ _ _ _ _ T4 (mkF m 21 #[.val (.ref a), .val (.int fi), .val (.int la)] [(.int (1 : Int32)), (.ref d), (.double (gb 2))])
  refine Go.daload X4 hx hZ hh4 V_d (j := (1 : Int32)) (v := (gb 1)) (by decide) rfl (hb hby d7_21) ?_
  show Go _ _ _ _ _ _ _ T4 (mkF m 22 #[.val (.ref a), .val (.int fi), .val (.int la)] [(.double (gb 1)), (.double (gb 2))])
  refine Go.step (fun _ k => XS.dsubS X4.here hx rfl (hb hby d7_22) rfl hn rfl k) ?_
  show Go _ _ _ _ _ _ _ T4 (mkF m 23 #[.val (.ref a), .val (.int fi), .val (.int la)] [(.double (FP.dsub (gb 2) (gb 1)))])
  refine Go.retD X4 hx hlk hret (hb hby d7_23) (by decide) (by decide) ?_
  try rw [hh4]
  exact ⟨rfl, N4, rfl⟩
theorem ef_rm7_311 (m : MethodId) (a : Addr) (fi : Int32) (la : Int32) : entryFrame m #[(.ref a), (.int fi), (.int la)] 3 = mkF m 0 #[.val (.ref a), .val (.int fi), .val (.int la)] [] := by first | (simp [entryFrame, mkF, argsToLocals, Value.category]; done) | rfl
theorem rm7_311 (l : Launch) (Z : State) (a0 : Array Value) (hw : ∀ d ∈ tables_1, d.before a0 Z = true) (a : Addr) (fi la : Int32) (c d : Addr) (K : Int32) (g gb : Nat → UInt64) (h0 : Heap) (n0 : Nat) (Z0 : n0 ≤ h0.size) (E_a : Exa Z h0 a "tidewatch/decision/KeyGroupCeiling") (F_keyGroups_a : Fld Z h0 a "tidewatch/decision/KeyGroupCeiling" "keyGroups" "I" (.int K)) (F_shares_a : Fld Z h0 a "tidewatch/decision/KeyGroupCeiling" "shares" "[D" (.ref c)) (V_c : Dv Z h0 c (3 : Int32) g) (F_before_a : Fld Z h0 a "tidewatch/decision/KeyGroupCeiling" "before" "[D" (.ref d)) (V_d : Dv Z h0 d (4 : Int32) gb) (hK : 1 ≤ K.toInt) (ho1 : ownW fi (3 : Int32) K = (1 : Int32)) (ho2 : ownW la (3 : Int32) K = (1 : Int32)) (hn : Jvm.Free.Fl.NoNaN64 (FP.dsub (gb 2) (gb 1))) :
    Con l Z (⟨"tidewatch/decision/KeyGroupCeiling", "atMost", "(II)D"⟩ : MethodName) prog_33_method_6_code 3 (some .double) ({ frames := 1, cells := 0, slots := 0, locals := 30 } : Room) #[(.ref a), (.int fi), (.int la)] h0 (fun r h L => r = some (.double (FP.dsub (gb 2) (gb 1))) ∧ Fr n0 L ∧ h = h0) :=
  con_of (plainFor_of_name pn_2) (fun p_ e_ s_ m_ b_ meth_ c_ T_ X_ hx hZ hby hml hown hnm hret hlk e0 => Go.cast (ef_rm7_311 m_ a fi la) (w7_311 a fi la c d K g gb X_ hx hZ hw hby hml hown hnm hret hlk e0 Z0 (Fr.nil n0) E_a F_keyGroups_a F_shares_a V_c F_before_a V_d hK ho1 ho2 hn))
set_option maxRecDepth 65536 in
set_option maxHeartbeats 40000000 in
theorem w7_312 {p : Program} {l : Launch} {e : Env} {s : State} {m : MethodId} {args : Array Value} {below : List Frame} {meth : Method} {c_ : Code} {T0 : State} {locs : List Loc} {Z : State} {a0 : Array Value} {h0 : Heap} {n0 : Nat} (a : Addr) (fi la : Int32) (c d : Addr) (K : Int32) (g gb : Nat → UInt64)
    (X0 : Stand p l e ({ frames := 1, cells := 0, slots := 0, locals := 30 } : Room) s m args below meth c_ T0 locs 0 0) (hx : p.tables.exec = Jvm.exec) (hZ : Z.Warmed39 s.vm) (hw : ∀ d ∈ tables_1, d.before a0 Z = true) (hby : c_.code = prog_33_method_6_code) (hml : c_.maxLocals = 3) (hown : s.vm.findClass "tidewatch/decision/KeyGroupCeiling" = some m.cls) (hnm : meth.name = "atMost") (hret : meth.sig.returnType = some .double) (hlk : meth.locks = false) (e0 : T0.heap = h0) (Z0 : n0 ≤ h0.size) (N0 : Fr n0 locs) (E_a : Exa Z h0 a "tidewatch/decision/KeyGroupCeiling") (F_keyGroups_a : Fld Z h0 a "tidewatch/decision/KeyGroupCeiling" "keyGroups" "I" (.int K)) (F_shares_a : Fld Z h0 a "tidewatch/decision/KeyGroupCeiling" "shares" "[D" (.ref c)) (V_c : Dv Z h0 c (3 : Int32) g) (F_before_a : Fld Z h0 a "tidewatch/decision/KeyGroupCeiling" "before" "[D" (.ref d)) (V_d : Dv Z h0 d (4 : Int32) gb) (hK : 1 ≤ K.toInt) (ho1 : ownW fi (3 : Int32) K = (1 : Int32)) (ho2 : ownW la (3 : Int32) K = (2 : Int32)) (hn : Jvm.Free.Fl.NoNaN64 (FP.dsub (gb 3) (gb 1))) :
    Go p e below s ({ frames := 1, cells := 0, slots := 0, locals := 30 } : Room).cells ({ frames := 1, cells := 0, slots := 0, locals := 30 } : Room).slots (fun r h L => r = some (.double (FP.dsub (gb 3) (gb 1))) ∧ Fr n0 L ∧ h = h0) T0 (mkF m 0 #[.val (.ref a), .val (.int fi), .val (.int la)] []) := by
  show Go _ _ _ _ _ _ _ T0 (mkF m 0 #[.val (.ref a), .val (.int fi), .val (.int la)] [])
  refine Go.step (fun _ k => XS.aloadN X0.here hx rfl (hb hby d7_0) rfl rfl k) ?_
  show Go _ _ _ _ _ _ _ T0 (mkF m 1 #[.val (.ref a), .val (.int fi), .val (.int la)] [(.ref a)])
  obtain ⟨T1, X1, e1, st1⟩ := getF X0 hx hZ hown (host := "") (Or.inl (hw _ (List.mem_of_getElem? (i := 29) rfl))) Via.refl e0 F_before_a (g := (mkF m 1 #[.val (.ref a), .val (.int fi), .val (.int la)] [(.ref a)])) rfl rfl (hb hby d7_1)
  refine Go.step st1 ?_
  show Go _ _ _ _ _ _ _ T1 (mkF m 4 #[.val (.ref a), .val (.int fi), .val (.int la)] [(.ref d)])
  refine Go.step (fun _ k => XS.aloadN X1.here hx rfl (hb hby d7_4) rfl rfl k) ?_
  show Go _ _ _ _ _ _ _ T1 (mkF m 5 #[.val (.ref a), .val (.int fi), .val (.int la)] [(.ref a), (.ref d)])
  refine Go.step (fun _ k => XS.iloadN X1.here hx rfl (hb hby d7_5) rfl k) ?_
  show Go _ _ _ _ _ _ _ T1 (mkF m 6 #[.val (.ref a), .val (.int fi), .val (.int la)] [(.int la), (.ref a), (.ref d)])
  refine Go.callP X1 hx hZ (by rw [hml]; rfl) (y := (⟨"tidewatch/decision/KeyGroupCeiling", "owner", "(I)I"⟩ : MethodName)) (a := a) (argsL := [(.int la)]) (rest := [(.ref d)]) hown (hw _ (List.mem_of_getElem? (i := 49) rfl)) (hw _ (List.mem_of_getElem? (i := 50) rfl)) (hw _ (List.mem_of_getElem? (i := 8) rfl)) (hw _ (List.mem_of_getElem? (i := 51) rfl)) (hw _ (List.mem_of_getElem? (i := 9) rfl)) (hw _ (List.mem_of_getElem? (i := 52) rfl)) (by decide) (rm8_3 l Z a0 hw a la c K g h0 n0 Z0 E_a F_keyGroups_a F_shares_a V_c hK) e1 E_a (hb hby d7_6) (lenOf pd_2 rfl) rfl rfl (W := 1) (Nat.le_of_eq rfl) (by decide) (by decide) (by decide) (by decide) ?_
  intro v2 T2 L2 X2 Q2
  rw [ho2] at Q2
  obtain ⟨rfl, N2q, hh2⟩ := Q2
  have N2 := Fr.app N0 N2q
  show Go _ _ _ _ _ _ _ T2 (mkF m 9 #[.val (.ref a), .val (.int fi), .val (.int la)] [(.int (2 : Int32)), (.ref d)])
  refine Go.step (fun _ k => XS.iconst X2.here hx rfl (hb hby d7_9) k) ?_
  show Go _ _ _ _ _ _ _ T2 (mkF m 10 #[.val (.ref a), .val (.int fi), .val (.int la)] [(.int (1 : Int32)), (.int (2 : Int32)), (.ref d)])
  refine Go.step (fun _ k => XS.iadd X2.here hx rfl (hb hby d7_10) rfl k) ?_
  show Go _ _ _ _ _ _ _ T2 (mkF m 11 #[.val (.ref a), .val (.int fi), .val (.int la)] [(.int (3 : Int32)), (.ref d)])
  refine Go.daload X2 hx hZ hh2 V_d (j := (3 : Int32)) (v := (gb 3)) (by decide) rfl (hb hby d7_11) ?_
  show Go _ _ _ _ _ _ _ T2 (mkF m 12 #[.val (.ref a), .val (.int fi), .val (.int la)] [(.double (gb 3))])
  refine Go.step (fun _ k => XS.aloadN X2.here hx rfl (hb hby d7_12) rfl rfl k) ?_
  show Go _ _ _ _ _ _ _ T2 (mkF m 13 #[.val (.ref a), .val (.int fi), .val (.int la)] [(.ref a), (.double (gb 3))])
  obtain ⟨T3, X3, e3, st3⟩ := getF X2 hx hZ hown (host := "") (Or.inl (hw _ (List.mem_of_getElem? (i := 29) rfl))) Via.refl hh2 F_before_a (g := (mkF m 13 #[.val (.ref a), .val (.int fi), .val (.int la)] [(.ref a), (.double (gb 3))])) rfl rfl (hb hby d7_13)
  refine Go.step st3 ?_
  show Go _ _ _ _ _ _ _ T3 (mkF m 16 #[.val (.ref a), .val (.int fi), .val (.int la)] [(.ref d), (.double (gb 3))])
  refine Go.step (fun _ k => XS.aloadN X3.here hx rfl (hb hby d7_16) rfl rfl k) ?_
  show Go _ _ _ _ _ _ _ T3 (mkF m 17 #[.val (.ref a), .val (.int fi), .val (.int la)] [(.ref a), (.ref d), (.double (gb 3))])
  refine Go.step (fun _ k => XS.iloadN X3.here hx rfl (hb hby d7_17) rfl k) ?_
  show Go _ _ _ _ _ _ _ T3 (mkF m 18 #[.val (.ref a), .val (.int fi), .val (.int la)] [(.int fi), (.ref a), (.ref d), (.double (gb 3))])
  refine Go.callP X3 hx hZ (by rw [hml]; rfl) (y := (⟨"tidewatch/decision/KeyGroupCeiling", "owner", "(I)I"⟩ : MethodName)) (a := a) (argsL := [(.int fi)]) (rest := [(.ref d), (.double (gb 3))]) hown (hw _ (List.mem_of_getElem? (i := 49) rfl)) (hw _ (List.mem_of_getElem? (i := 50) rfl)) (hw _ (List.mem_of_getElem? (i := 8) rfl)) (hw _ (List.mem_of_getElem? (i := 51) rfl)) (hw _ (List.mem_of_getElem? (i := 9) rfl)) (hw _ (List.mem_of_getElem? (i := 52) rfl)) (by decide) (rm8_3 l Z a0 hw a fi c K g h0 n0 Z0 E_a F_keyGroups_a F_shares_a V_c hK) e3 E_a (hb hby d7_18) (lenOf pd_2 rfl) rfl rfl (W := 3) (Nat.le_of_eq rfl) (by decide) (by decide) (by decide) (by decide) ?_
  intro v4 T4 L4 X4 Q4
  rw [ho1] at Q4
  obtain ⟨rfl, N4q, hh4⟩ := Q4
  have N4 := Fr.app N2 N4q
  show Go _ _ _ _ _ _ _ T4 (mkF m 21 #[.val (.ref a), .val (.int fi), .val (.int la)] [(.int (1 : Int32)), (.ref d), (.double (gb 3))])
  refine Go.daload X4 hx hZ hh4 V_d (j := (1 : Int32)) (v := (gb 1)) (by decide) rfl (hb hby d7_21) ?_
  show Go _ _ _ _ _ _ _ T4 (mkF m 22 #[.val (.ref a), .val (.int fi), .val (.int la)] [(.double (gb 1)), (.double (gb 3))])
  refine Go.step (fun _ k => XS.dsubS X4.here hx rfl (hb hby d7_22) rfl hn rfl k) ?_
  show Go _ _ _ _ _ _ _ T4 (mkF m 23 #[.val (.ref a), .val (.int fi), .val (.int la)] [(.double (FP.dsub (gb 3) (gb 1)))])
  refine Go.retD X4 hx hlk hret (hb hby d7_23) (by decide) (by decide) ?_
  try rw [hh4]
  exact ⟨rfl, N4, rfl⟩
theorem ef_rm7_312 (m : MethodId) (a : Addr) (fi : Int32) (la : Int32) : entryFrame m #[(.ref a), (.int fi), (.int la)] 3 = mkF m 0 #[.val (.ref a), .val (.int fi), .val (.int la)] [] := by first | (simp [entryFrame, mkF, argsToLocals, Value.category]; done) | rfl
theorem rm7_312 (l : Launch) (Z : State) (a0 : Array Value) (hw : ∀ d ∈ tables_1, d.before a0 Z = true) (a : Addr) (fi la : Int32) (c d : Addr) (K : Int32) (g gb : Nat → UInt64) (h0 : Heap) (n0 : Nat) (Z0 : n0 ≤ h0.size) (E_a : Exa Z h0 a "tidewatch/decision/KeyGroupCeiling") (F_keyGroups_a : Fld Z h0 a "tidewatch/decision/KeyGroupCeiling" "keyGroups" "I" (.int K)) (F_shares_a : Fld Z h0 a "tidewatch/decision/KeyGroupCeiling" "shares" "[D" (.ref c)) (V_c : Dv Z h0 c (3 : Int32) g) (F_before_a : Fld Z h0 a "tidewatch/decision/KeyGroupCeiling" "before" "[D" (.ref d)) (V_d : Dv Z h0 d (4 : Int32) gb) (hK : 1 ≤ K.toInt) (ho1 : ownW fi (3 : Int32) K = (1 : Int32)) (ho2 : ownW la (3 : Int32) K = (2 : Int32)) (hn : Jvm.Free.Fl.NoNaN64 (FP.dsub (gb 3) (gb 1))) :
    Con l Z (⟨"tidewatch/decision/KeyGroupCeiling", "atMost", "(II)D"⟩ : MethodName) prog_33_method_6_code 3 (some .double) ({ frames := 1, cells := 0, slots := 0, locals := 30 } : Room) #[(.ref a), (.int fi), (.int la)] h0 (fun r h L => r = some (.double (FP.dsub (gb 3) (gb 1))) ∧ Fr n0 L ∧ h = h0) :=
  con_of (plainFor_of_name pn_2) (fun p_ e_ s_ m_ b_ meth_ c_ T_ X_ hx hZ hby hml hown hnm hret hlk e0 => Go.cast (ef_rm7_312 m_ a fi la) (w7_312 a fi la c d K g gb X_ hx hZ hw hby hml hown hnm hret hlk e0 Z0 (Fr.nil n0) E_a F_keyGroups_a F_shares_a V_c F_before_a V_d hK ho1 ho2 hn))
set_option maxRecDepth 65536 in
set_option maxHeartbeats 40000000 in
theorem w7_322 {p : Program} {l : Launch} {e : Env} {s : State} {m : MethodId} {args : Array Value} {below : List Frame} {meth : Method} {c_ : Code} {T0 : State} {locs : List Loc} {Z : State} {a0 : Array Value} {h0 : Heap} {n0 : Nat} (a : Addr) (fi la : Int32) (c d : Addr) (K : Int32) (g gb : Nat → UInt64)
    (X0 : Stand p l e ({ frames := 1, cells := 0, slots := 0, locals := 30 } : Room) s m args below meth c_ T0 locs 0 0) (hx : p.tables.exec = Jvm.exec) (hZ : Z.Warmed39 s.vm) (hw : ∀ d ∈ tables_1, d.before a0 Z = true) (hby : c_.code = prog_33_method_6_code) (hml : c_.maxLocals = 3) (hown : s.vm.findClass "tidewatch/decision/KeyGroupCeiling" = some m.cls) (hnm : meth.name = "atMost") (hret : meth.sig.returnType = some .double) (hlk : meth.locks = false) (e0 : T0.heap = h0) (Z0 : n0 ≤ h0.size) (N0 : Fr n0 locs) (E_a : Exa Z h0 a "tidewatch/decision/KeyGroupCeiling") (F_keyGroups_a : Fld Z h0 a "tidewatch/decision/KeyGroupCeiling" "keyGroups" "I" (.int K)) (F_shares_a : Fld Z h0 a "tidewatch/decision/KeyGroupCeiling" "shares" "[D" (.ref c)) (V_c : Dv Z h0 c (3 : Int32) g) (F_before_a : Fld Z h0 a "tidewatch/decision/KeyGroupCeiling" "before" "[D" (.ref d)) (V_d : Dv Z h0 d (4 : Int32) gb) (hK : 1 ≤ K.toInt) (ho1 : ownW fi (3 : Int32) K = (2 : Int32)) (ho2 : ownW la (3 : Int32) K = (2 : Int32)) (hn : Jvm.Free.Fl.NoNaN64 (FP.dsub (gb 3) (gb 2))) :
    Go p e below s ({ frames := 1, cells := 0, slots := 0, locals := 30 } : Room).cells ({ frames := 1, cells := 0, slots := 0, locals := 30 } : Room).slots (fun r h L => r = some (.double (FP.dsub (gb 3) (gb 2))) ∧ Fr n0 L ∧ h = h0) T0 (mkF m 0 #[.val (.ref a), .val (.int fi), .val (.int la)] []) := by
  show Go _ _ _ _ _ _ _ T0 (mkF m 0 #[.val (.ref a), .val (.int fi), .val (.int la)] [])
  refine Go.step (fun _ k => XS.aloadN X0.here hx rfl (hb hby d7_0) rfl rfl k) ?_
  show Go _ _ _ _ _ _ _ T0 (mkF m 1 #[.val (.ref a), .val (.int fi), .val (.int la)] [(.ref a)])
  obtain ⟨T1, X1, e1, st1⟩ := getF X0 hx hZ hown (host := "") (Or.inl (hw _ (List.mem_of_getElem? (i := 29) rfl))) Via.refl e0 F_before_a (g := (mkF m 1 #[.val (.ref a), .val (.int fi), .val (.int la)] [(.ref a)])) rfl rfl (hb hby d7_1)
  refine Go.step st1 ?_
  show Go _ _ _ _ _ _ _ T1 (mkF m 4 #[.val (.ref a), .val (.int fi), .val (.int la)] [(.ref d)])
  refine Go.step (fun _ k => XS.aloadN X1.here hx rfl (hb hby d7_4) rfl rfl k) ?_
  show Go _ _ _ _ _ _ _ T1 (mkF m 5 #[.val (.ref a), .val (.int fi), .val (.int la)] [(.ref a), (.ref d)])
  refine Go.step (fun _ k => XS.iloadN X1.here hx rfl (hb hby d7_5) rfl k) ?_
  show Go _ _ _ _ _ _ _ T1 (mkF m 6 #[.val (.ref a), .val (.int fi), .val (.int la)] [(.int la), (.ref a), (.ref d)])
  refine Go.callP X1 hx hZ (by rw [hml]; rfl) (y := (⟨"tidewatch/decision/KeyGroupCeiling", "owner", "(I)I"⟩ : MethodName)) (a := a) (argsL := [(.int la)]) (rest := [(.ref d)]) hown (hw _ (List.mem_of_getElem? (i := 49) rfl)) (hw _ (List.mem_of_getElem? (i := 50) rfl)) (hw _ (List.mem_of_getElem? (i := 8) rfl)) (hw _ (List.mem_of_getElem? (i := 51) rfl)) (hw _ (List.mem_of_getElem? (i := 9) rfl)) (hw _ (List.mem_of_getElem? (i := 52) rfl)) (by decide) (rm8_3 l Z a0 hw a la c K g h0 n0 Z0 E_a F_keyGroups_a F_shares_a V_c hK) e1 E_a (hb hby d7_6) (lenOf pd_2 rfl) rfl rfl (W := 1) (Nat.le_of_eq rfl) (by decide) (by decide) (by decide) (by decide) ?_
  intro v2 T2 L2 X2 Q2
  rw [ho2] at Q2
  obtain ⟨rfl, N2q, hh2⟩ := Q2
  have N2 := Fr.app N0 N2q
  show Go _ _ _ _ _ _ _ T2 (mkF m 9 #[.val (.ref a), .val (.int fi), .val (.int la)] [(.int (2 : Int32)), (.ref d)])
  refine Go.step (fun _ k => XS.iconst X2.here hx rfl (hb hby d7_9) k) ?_
  show Go _ _ _ _ _ _ _ T2 (mkF m 10 #[.val (.ref a), .val (.int fi), .val (.int la)] [(.int (1 : Int32)), (.int (2 : Int32)), (.ref d)])
  refine Go.step (fun _ k => XS.iadd X2.here hx rfl (hb hby d7_10) rfl k) ?_
  show Go _ _ _ _ _ _ _ T2 (mkF m 11 #[.val (.ref a), .val (.int fi), .val (.int la)] [(.int (3 : Int32)), (.ref d)])
  refine Go.daload X2 hx hZ hh2 V_d (j := (3 : Int32)) (v := (gb 3)) (by decide) rfl (hb hby d7_11) ?_
  show Go _ _ _ _ _ _ _ T2 (mkF m 12 #[.val (.ref a), .val (.int fi), .val (.int la)] [(.double (gb 3))])
  refine Go.step (fun _ k => XS.aloadN X2.here hx rfl (hb hby d7_12) rfl rfl k) ?_
  show Go _ _ _ _ _ _ _ T2 (mkF m 13 #[.val (.ref a), .val (.int fi), .val (.int la)] [(.ref a), (.double (gb 3))])
  obtain ⟨T3, X3, e3, st3⟩ := getF X2 hx hZ hown (host := "") (Or.inl (hw _ (List.mem_of_getElem? (i := 29) rfl))) Via.refl hh2 F_before_a (g := (mkF m 13 #[.val (.ref a), .val (.int fi), .val (.int la)] [(.ref a), (.double (gb 3))])) rfl rfl (hb hby d7_13)
  refine Go.step st3 ?_
  show Go _ _ _ _ _ _ _ T3 (mkF m 16 #[.val (.ref a), .val (.int fi), .val (.int la)] [(.ref d), (.double (gb 3))])
  refine Go.step (fun _ k => XS.aloadN X3.here hx rfl (hb hby d7_16) rfl rfl k) ?_
  show Go _ _ _ _ _ _ _ T3 (mkF m 17 #[.val (.ref a), .val (.int fi), .val (.int la)] [(.ref a), (.ref d), (.double (gb 3))])
  refine Go.step (fun _ k => XS.iloadN X3.here hx rfl (hb hby d7_17) rfl k) ?_
  show Go _ _ _ _ _ _ _ T3 (mkF m 18 #[.val (.ref a), .val (.int fi), .val (.int la)] [(.int fi), (.ref a), (.ref d), (.double (gb 3))])
  refine Go.callP X3 hx hZ (by rw [hml]; rfl) (y := (⟨"tidewatch/decision/KeyGroupCeiling", "owner", "(I)I"⟩ : MethodName)) (a := a) (argsL := [(.int fi)]) (rest := [(.ref d), (.double (gb 3))]) hown (hw _ (List.mem_of_getElem? (i := 49) rfl)) (hw _ (List.mem_of_getElem? (i := 50) rfl)) (hw _ (List.mem_of_getElem? (i := 8) rfl)) (hw _ (List.mem_of_getElem? (i := 51) rfl)) (hw _ (List.mem_of_getElem? (i := 9) rfl)) (hw _ (List.mem_of_getElem? (i := 52) rfl)) (by decide) (rm8_3 l Z a0 hw a fi c K g h0 n0 Z0 E_a F_keyGroups_a F_shares_a V_c hK) e3 E_a (hb hby d7_18) (lenOf pd_2 rfl) rfl rfl (W := 3) (Nat.le_of_eq rfl) (by decide) (by decide) (by decide) (by decide) ?_
  intro v4 T4 L4 X4 Q4
  rw [ho1] at Q4
  obtain ⟨rfl, N4q, hh4⟩ := Q4
  have N4 := Fr.app N2 N4q
  show Go _ _ _ _ _ _ _ T4 (mkF m 21 #[.val (.ref a), .val (.int fi), .val (.int la)] [(.int (2 : Int32)), (.ref d), (.double (gb 3))])
  refine Go.daload X4 hx hZ hh4 V_d (j := (2 : Int32)) (v := (gb 2)) (by decide) rfl (hb hby d7_21) ?_
  show Go _ _ _ _ _ _ _ T4 (mkF m 22 #[.val (.ref a), .val (.int fi), .val (.int la)] [(.double (gb 2)), (.double (gb 3))])
  refine Go.step (fun _ k => XS.dsubS X4.here hx rfl (hb hby d7_22) rfl hn rfl k) ?_
  show Go _ _ _ _ _ _ _ T4 (mkF m 23 #[.val (.ref a), .val (.int fi), .val (.int la)] [(.double (FP.dsub (gb 3) (gb 2)))])
  refine Go.retD X4 hx hlk hret (hb hby d7_23) (by decide) (by decide) ?_
  try rw [hh4]
  exact ⟨rfl, N4, rfl⟩
theorem ef_rm7_322 (m : MethodId) (a : Addr) (fi : Int32) (la : Int32) : entryFrame m #[(.ref a), (.int fi), (.int la)] 3 = mkF m 0 #[.val (.ref a), .val (.int fi), .val (.int la)] [] := by first | (simp [entryFrame, mkF, argsToLocals, Value.category]; done) | rfl
theorem rm7_322 (l : Launch) (Z : State) (a0 : Array Value) (hw : ∀ d ∈ tables_1, d.before a0 Z = true) (a : Addr) (fi la : Int32) (c d : Addr) (K : Int32) (g gb : Nat → UInt64) (h0 : Heap) (n0 : Nat) (Z0 : n0 ≤ h0.size) (E_a : Exa Z h0 a "tidewatch/decision/KeyGroupCeiling") (F_keyGroups_a : Fld Z h0 a "tidewatch/decision/KeyGroupCeiling" "keyGroups" "I" (.int K)) (F_shares_a : Fld Z h0 a "tidewatch/decision/KeyGroupCeiling" "shares" "[D" (.ref c)) (V_c : Dv Z h0 c (3 : Int32) g) (F_before_a : Fld Z h0 a "tidewatch/decision/KeyGroupCeiling" "before" "[D" (.ref d)) (V_d : Dv Z h0 d (4 : Int32) gb) (hK : 1 ≤ K.toInt) (ho1 : ownW fi (3 : Int32) K = (2 : Int32)) (ho2 : ownW la (3 : Int32) K = (2 : Int32)) (hn : Jvm.Free.Fl.NoNaN64 (FP.dsub (gb 3) (gb 2))) :
    Con l Z (⟨"tidewatch/decision/KeyGroupCeiling", "atMost", "(II)D"⟩ : MethodName) prog_33_method_6_code 3 (some .double) ({ frames := 1, cells := 0, slots := 0, locals := 30 } : Room) #[(.ref a), (.int fi), (.int la)] h0 (fun r h L => r = some (.double (FP.dsub (gb 3) (gb 2))) ∧ Fr n0 L ∧ h = h0) :=
  con_of (plainFor_of_name pn_2) (fun p_ e_ s_ m_ b_ meth_ c_ T_ X_ hx hZ hby hml hown hnm hret hlk e0 => Go.cast (ef_rm7_322 m_ a fi la) (w7_322 a fi la c d K g gb X_ hx hZ hw hby hml hown hnm hret hlk e0 Z0 (Fr.nil n0) E_a F_keyGroups_a F_shares_a V_c F_before_a V_d hK ho1 ho2 hn))
theorem pd_3 : parseMethodDescriptor "(II)I" = some ⟨[.int, .int], some .int⟩ := by decide +kernel
theorem pd_4 : parseMethodDescriptor "(I[D)V" = some ⟨[.int, (.array .double)], none⟩ := by decide +kernel
theorem pd_5 : parseMethodDescriptor "(III)I" = some ⟨[.int, .int, .int], some .int⟩ := by decide +kernel
theorem pd_6 : parseMethodDescriptor "(II)D" = some ⟨[.int, .int], some .double⟩ := by decide +kernel
set_option maxRecDepth 65536 in
set_option maxHeartbeats 40000000 in
theorem w0 {p : Program} {l : Launch} {e : Env} {s : State} {m : MethodId} {args : Array Value} {below : List Frame} {meth : Method} {c_ : Code} {T0 : State} {locs : List Loc} {Z : State} {a0 : Array Value} {h0 : Heap} {n0 : Nat} (p0 p1 p2 p3 p4 p5 : Int32)
    (X0 : Stand p l e room_1 s m args below meth c_ T0 locs 0 0) (hx : p.tables.exec = Jvm.exec) (hZ : Z.Warmed39 s.vm) (hw : ∀ d ∈ tables_1, d.before a0 Z = true) (hby : c_.code = code) (hml : c_.maxLocals = maxLocals) (hown : s.vm.findClass "tidewatch/decision/KeyGroupCeilingAtMostPinLaw" = some m.cls) (hnm : meth.name = "law") (hret : meth.sig.returnType = ret) (hlk : meth.locks = false) (e0 : T0.heap = h0) (Z0 : n0 ≤ h0.size) (N0 : Fr n0 locs)  :
    Go p e below s room_1.cells room_1.slots (fun r h L => r = some (.int 1) ∧ Fr n0 L) T0 (mkF m 0 #[.val (.int p0), .val (.int p1), .val (.int p2), .val (.int p3), .val (.int p4), .val (.int p5), .unset, .unset, .unset, .unset, .unset, .unset, .unset, .unset, .unset, .unset, .unset, .unset, .unset, .unset, .unset, .unset] []) := by
  have hret : meth.sig.returnType = some .boolean := hret
  show Go _ _ _ _ _ _ _ T0 (mkF m 0 #[.val (.int p0), .val (.int p1), .val (.int p2), .val (.int p3), .val (.int p4), .val (.int p5), .unset, .unset, .unset, .unset, .unset, .unset, .unset, .unset, .unset, .unset, .unset, .unset, .unset, .unset, .unset, .unset] [])
  refine Go.step (fun _ k => XS.iconst X0.here hx rfl (hb hby at_0) k) ?_
  show Go _ _ _ _ _ _ _ T0 (mkF m 1 #[.val (.int p0), .val (.int p1), .val (.int p2), .val (.int p3), .val (.int p4), .val (.int p5), .unset, .unset, .unset, .unset, .unset, .unset, .unset, .unset, .unset, .unset, .unset, .unset, .unset, .unset, .unset, .unset] [(.int (1 : Int32))])
  refine Go.step (fun _ k => XS.iloadN X0.here hx rfl (hb hby at_1) rfl k) ?_
  show Go _ _ _ _ _ _ _ T0 (mkF m 2 #[.val (.int p0), .val (.int p1), .val (.int p2), .val (.int p3), .val (.int p4), .val (.int p5), .unset, .unset, .unset, .unset, .unset, .unset, .unset, .unset, .unset, .unset, .unset, .unset, .unset, .unset, .unset, .unset] [(.int p0), (.int (1 : Int32))])
  refine Go.step (X0.ldcInt hx hown (mvT hZ (hw _ (List.mem_of_getElem? (i := 0) rfl))) (g := (mkF m 2 #[.val (.int p0), .val (.int p1), .val (.int p2), .val (.int p3), .val (.int p4), .val (.int p5), .unset, .unset, .unset, .unset, .unset, .unset, .unset, .unset, .unset, .unset, .unset, .unset, .unset, .unset, .unset, .unset] [(.int p0), (.int (1 : Int32))])) rfl (hb hby at_2)) ?_
  show Go _ _ _ _ _ _ _ T0 (mkF m 4 #[.val (.int p0), .val (.int p1), .val (.int p2), .val (.int p3), .val (.int p4), .val (.int p5), .unset, .unset, .unset, .unset, .unset, .unset, .unset, .unset, .unset, .unset, .unset, .unset, .unset, .unset, .unset, .unset] [(.int (2147483647 : Int32)), (.int p0), (.int (1 : Int32))])
  refine Go.step (fun _ k => XS.iand X0.here hx rfl (hb hby at_4) rfl k) ?_
  show Go _ _ _ _ _ _ _ T0 (mkF m 5 #[.val (.int p0), .val (.int p1), .val (.int p2), .val (.int p3), .val (.int p4), .val (.int p5), .unset, .unset, .unset, .unset, .unset, .unset, .unset, .unset, .unset, .unset, .unset, .unset, .unset, .unset, .unset, .unset] [(.int (p0 &&& (2147483647 : Int32))), (.int (1 : Int32))])
  refine Go.step (fun _ k => XS.iconst X0.here hx rfl (hb hby at_5) k) ?_
  show Go _ _ _ _ _ _ _ T0 (mkF m 6 #[.val (.int p0), .val (.int p1), .val (.int p2), .val (.int p3), .val (.int p4), .val (.int p5), .unset, .unset, .unset, .unset, .unset, .unset, .unset, .unset, .unset, .unset, .unset, .unset, .unset, .unset, .unset, .unset] [(.int (3 : Int32)), (.int (p0 &&& (2147483647 : Int32))), (.int (1 : Int32))])
  refine Go.step (fun _ k => iremM X0 hx rfl (hb hby at_6) rfl (by decide) k) ?_
  show Go _ _ _ _ _ _ _ T0 (mkF m 7 #[.val (.int p0), .val (.int p1), .val (.int p2), .val (.int p3), .val (.int p4), .val (.int p5), .unset, .unset, .unset, .unset, .unset, .unset, .unset, .unset, .unset, .unset, .unset, .unset, .unset, .unset, .unset, .unset] [(.int ((p0 &&& (2147483647 : Int32)) % (3 : Int32))), (.int (1 : Int32))])
  refine Go.step (fun _ k => XS.iadd X0.here hx rfl (hb hby at_7) rfl k) ?_
  show Go _ _ _ _ _ _ _ T0 (mkF m 8 #[.val (.int p0), .val (.int p1), .val (.int p2), .val (.int p3), .val (.int p4), .val (.int p5), .unset, .unset, .unset, .unset, .unset, .unset, .unset, .unset, .unset, .unset, .unset, .unset, .unset, .unset, .unset, .unset] [(.int ((1 : Int32) + ((p0 &&& (2147483647 : Int32)) % (3 : Int32))))])
  refine Go.step (fun _ k => XS.istore X0.here hx rfl (hb hby at_8) rfl (l' := #[.val (.int p0), .val (.int p1), .val (.int p2), .val (.int p3), .val (.int p4), .val (.int p5), .val (.int ((1 : Int32) + ((p0 &&& (2147483647 : Int32)) % (3 : Int32)))), .unset, .unset, .unset, .unset, .unset, .unset, .unset, .unset, .unset, .unset, .unset, .unset, .unset, .unset, .unset]) rfl k) ?_
  show Go _ _ _ _ _ _ _ T0 (mkF m 10 #[.val (.int p0), .val (.int p1), .val (.int p2), .val (.int p3), .val (.int p4), .val (.int p5), .val (.int ((1 : Int32) + ((p0 &&& (2147483647 : Int32)) % (3 : Int32)))), .unset, .unset, .unset, .unset, .unset, .unset, .unset, .unset, .unset, .unset, .unset, .unset, .unset, .unset, .unset] [])
  refine Go.step (fun _ k => XS.iload X0.here hx rfl (hb hby at_10) rfl k) ?_
  show Go _ _ _ _ _ _ _ T0 (mkF m 12 #[.val (.int p0), .val (.int p1), .val (.int p2), .val (.int p3), .val (.int p4), .val (.int p5), .val (.int ((1 : Int32) + ((p0 &&& (2147483647 : Int32)) % (3 : Int32)))), .unset, .unset, .unset, .unset, .unset, .unset, .unset, .unset, .unset, .unset, .unset, .unset, .unset, .unset, .unset] [(.int p4)])
  refine Go.step (X0.ldcInt hx hown (mvT hZ (hw _ (List.mem_of_getElem? (i := 1) rfl))) (g := (mkF m 12 #[.val (.int p0), .val (.int p1), .val (.int p2), .val (.int p3), .val (.int p4), .val (.int p5), .val (.int ((1 : Int32) + ((p0 &&& (2147483647 : Int32)) % (3 : Int32)))), .unset, .unset, .unset, .unset, .unset, .unset, .unset, .unset, .unset, .unset, .unset, .unset, .unset, .unset, .unset] [(.int p4)])) rfl (hb hby at_12)) ?_
  show Go _ _ _ _ _ _ _ T0 (mkF m 14 #[.val (.int p0), .val (.int p1), .val (.int p2), .val (.int p3), .val (.int p4), .val (.int p5), .val (.int ((1 : Int32) + ((p0 &&& (2147483647 : Int32)) % (3 : Int32)))), .unset, .unset, .unset, .unset, .unset, .unset, .unset, .unset, .unset, .unset, .unset, .unset, .unset, .unset, .unset] [(.int (1048575 : Int32)), (.int p4)])
  refine Go.step (fun _ k => XS.iand X0.here hx rfl (hb hby at_14) rfl k) ?_
  show Go _ _ _ _ _ _ _ T0 (mkF m 15 #[.val (.int p0), .val (.int p1), .val (.int p2), .val (.int p3), .val (.int p4), .val (.int p5), .val (.int ((1 : Int32) + ((p0 &&& (2147483647 : Int32)) % (3 : Int32)))), .unset, .unset, .unset, .unset, .unset, .unset, .unset, .unset, .unset, .unset, .unset, .unset, .unset, .unset, .unset] [(.int (p4 &&& (1048575 : Int32)))])
  refine Go.step (fun _ k => XS.i2l X0.here hx rfl (hb hby at_15) rfl k) ?_
  show Go _ _ _ _ _ _ _ T0 (mkF m 16 #[.val (.int p0), .val (.int p1), .val (.int p2), .val (.int p3), .val (.int p4), .val (.int p5), .val (.int ((1 : Int32) + ((p0 &&& (2147483647 : Int32)) % (3 : Int32)))), .unset, .unset, .unset, .unset, .unset, .unset, .unset, .unset, .unset, .unset, .unset, .unset, .unset, .unset, .unset] [(.long ((p4 &&& (1048575 : Int32)).toInt64))])
  refine Go.step (fun _ k => XS.lstore X0.here hx rfl (hb hby at_16) rfl (l' := #[.val (.int p0), .val (.int p1), .val (.int p2), .val (.int p3), .val (.int p4), .val (.int p5), .val (.int ((1 : Int32) + ((p0 &&& (2147483647 : Int32)) % (3 : Int32)))), .val (.long ((p4 &&& (1048575 : Int32)).toInt64)), .second, .unset, .unset, .unset, .unset, .unset, .unset, .unset, .unset, .unset, .unset, .unset, .unset, .unset]) rfl k) ?_
  show Go _ _ _ _ _ _ _ T0 (mkF m 18 #[.val (.int p0), .val (.int p1), .val (.int p2), .val (.int p3), .val (.int p4), .val (.int p5), .val (.int ((1 : Int32) + ((p0 &&& (2147483647 : Int32)) % (3 : Int32)))), .val (.long ((p4 &&& (1048575 : Int32)).toInt64)), .second, .unset, .unset, .unset, .unset, .unset, .unset, .unset, .unset, .unset, .unset, .unset, .unset, .unset] [])
  refine Go.step (fun _ k => XS.iload X0.here hx rfl (hb hby at_18) rfl k) ?_
  show Go _ _ _ _ _ _ _ T0 (mkF m 20 #[.val (.int p0), .val (.int p1), .val (.int p2), .val (.int p3), .val (.int p4), .val (.int p5), .val (.int ((1 : Int32) + ((p0 &&& (2147483647 : Int32)) % (3 : Int32)))), .val (.long ((p4 &&& (1048575 : Int32)).toInt64)), .second, .unset, .unset, .unset, .unset, .unset, .unset, .unset, .unset, .unset, .unset, .unset, .unset, .unset] [(.int p5)])
  refine Go.step (X0.ldcInt hx hown (mvT hZ (hw _ (List.mem_of_getElem? (i := 1) rfl))) (g := (mkF m 20 #[.val (.int p0), .val (.int p1), .val (.int p2), .val (.int p3), .val (.int p4), .val (.int p5), .val (.int ((1 : Int32) + ((p0 &&& (2147483647 : Int32)) % (3 : Int32)))), .val (.long ((p4 &&& (1048575 : Int32)).toInt64)), .second, .unset, .unset, .unset, .unset, .unset, .unset, .unset, .unset, .unset, .unset, .unset, .unset, .unset] [(.int p5)])) rfl (hb hby at_20)) ?_
  show Go _ _ _ _ _ _ _ T0 (mkF m 22 #[.val (.int p0), .val (.int p1), .val (.int p2), .val (.int p3), .val (.int p4), .val (.int p5), .val (.int ((1 : Int32) + ((p0 &&& (2147483647 : Int32)) % (3 : Int32)))), .val (.long ((p4 &&& (1048575 : Int32)).toInt64)), .second, .unset, .unset, .unset, .unset, .unset, .unset, .unset, .unset, .unset, .unset, .unset, .unset, .unset] [(.int (1048575 : Int32)), (.int p5)])
  refine Go.step (fun _ k => XS.iand X0.here hx rfl (hb hby at_22) rfl k) ?_
  show Go _ _ _ _ _ _ _ T0 (mkF m 23 #[.val (.int p0), .val (.int p1), .val (.int p2), .val (.int p3), .val (.int p4), .val (.int p5), .val (.int ((1 : Int32) + ((p0 &&& (2147483647 : Int32)) % (3 : Int32)))), .val (.long ((p4 &&& (1048575 : Int32)).toInt64)), .second, .unset, .unset, .unset, .unset, .unset, .unset, .unset, .unset, .unset, .unset, .unset, .unset, .unset] [(.int (p5 &&& (1048575 : Int32)))])
  refine Go.step (fun _ k => XS.i2l X0.here hx rfl (hb hby at_23) rfl k) ?_
  show Go _ _ _ _ _ _ _ T0 (mkF m 24 #[.val (.int p0), .val (.int p1), .val (.int p2), .val (.int p3), .val (.int p4), .val (.int p5), .val (.int ((1 : Int32) + ((p0 &&& (2147483647 : Int32)) % (3 : Int32)))), .val (.long ((p4 &&& (1048575 : Int32)).toInt64)), .second, .unset, .unset, .unset, .unset, .unset, .unset, .unset, .unset, .unset, .unset, .unset, .unset, .unset] [(.long ((p5 &&& (1048575 : Int32)).toInt64))])
  refine Go.step (fun _ k => XS.lstore X0.here hx rfl (hb hby at_24) rfl (l' := #[.val (.int p0), .val (.int p1), .val (.int p2), .val (.int p3), .val (.int p4), .val (.int p5), .val (.int ((1 : Int32) + ((p0 &&& (2147483647 : Int32)) % (3 : Int32)))), .val (.long ((p4 &&& (1048575 : Int32)).toInt64)), .second, .val (.long ((p5 &&& (1048575 : Int32)).toInt64)), .second, .unset, .unset, .unset, .unset, .unset, .unset, .unset, .unset, .unset, .unset, .unset]) rfl k) ?_
  show Go _ _ _ _ _ _ _ T0 (mkF m 26 #[.val (.int p0), .val (.int p1), .val (.int p2), .val (.int p3), .val (.int p4), .val (.int p5), .val (.int ((1 : Int32) + ((p0 &&& (2147483647 : Int32)) % (3 : Int32)))), .val (.long ((p4 &&& (1048575 : Int32)).toInt64)), .second, .val (.long ((p5 &&& (1048575 : Int32)).toInt64)), .second, .unset, .unset, .unset, .unset, .unset, .unset, .unset, .unset, .unset, .unset, .unset] [])
  refine Go.step (fun _ k => XS.iloadN X0.here hx rfl (hb hby at_26) rfl k) ?_
  show Go _ _ _ _ _ _ _ T0 (mkF m 27 #[.val (.int p0), .val (.int p1), .val (.int p2), .val (.int p3), .val (.int p4), .val (.int p5), .val (.int ((1 : Int32) + ((p0 &&& (2147483647 : Int32)) % (3 : Int32)))), .val (.long ((p4 &&& (1048575 : Int32)).toInt64)), .second, .val (.long ((p5 &&& (1048575 : Int32)).toInt64)), .second, .unset, .unset, .unset, .unset, .unset, .unset, .unset, .unset, .unset, .unset, .unset] [(.int p0)])
  refine Go.step (fun _ k => XS.iconst X0.here hx rfl (hb hby at_27) k) ?_
  show Go _ _ _ _ _ _ _ T0 (mkF m 28 #[.val (.int p0), .val (.int p1), .val (.int p2), .val (.int p3), .val (.int p4), .val (.int p5), .val (.int ((1 : Int32) + ((p0 &&& (2147483647 : Int32)) % (3 : Int32)))), .val (.long ((p4 &&& (1048575 : Int32)).toInt64)), .second, .val (.long ((p5 &&& (1048575 : Int32)).toInt64)), .second, .unset, .unset, .unset, .unset, .unset, .unset, .unset, .unset, .unset, .unset, .unset] [(.int (2 : Int32)), (.int p0)])
  refine Go.step (fun _ k => XS.iushr X0.here hx rfl (hb hby at_28) rfl k) ?_
  show Go _ _ _ _ _ _ _ T0 (mkF m 29 #[.val (.int p0), .val (.int p1), .val (.int p2), .val (.int p3), .val (.int p4), .val (.int p5), .val (.int ((1 : Int32) + ((p0 &&& (2147483647 : Int32)) % (3 : Int32)))), .val (.long ((p4 &&& (1048575 : Int32)).toInt64)), .second, .val (.long ((p5 &&& (1048575 : Int32)).toInt64)), .second, .unset, .unset, .unset, .unset, .unset, .unset, .unset, .unset, .unset, .unset, .unset] [(.int ((p0.toUInt32 >>> ((2 : Int32) &&& 31).toUInt32).toInt32))])
  refine Go.step (X0.ldcInt hx hown (mvT hZ (hw _ (List.mem_of_getElem? (i := 1) rfl))) (g := (mkF m 29 #[.val (.int p0), .val (.int p1), .val (.int p2), .val (.int p3), .val (.int p4), .val (.int p5), .val (.int ((1 : Int32) + ((p0 &&& (2147483647 : Int32)) % (3 : Int32)))), .val (.long ((p4 &&& (1048575 : Int32)).toInt64)), .second, .val (.long ((p5 &&& (1048575 : Int32)).toInt64)), .second, .unset, .unset, .unset, .unset, .unset, .unset, .unset, .unset, .unset, .unset, .unset] [(.int ((p0.toUInt32 >>> ((2 : Int32) &&& 31).toUInt32).toInt32))])) rfl (hb hby at_29)) ?_
  show Go _ _ _ _ _ _ _ T0 (mkF m 31 #[.val (.int p0), .val (.int p1), .val (.int p2), .val (.int p3), .val (.int p4), .val (.int p5), .val (.int ((1 : Int32) + ((p0 &&& (2147483647 : Int32)) % (3 : Int32)))), .val (.long ((p4 &&& (1048575 : Int32)).toInt64)), .second, .val (.long ((p5 &&& (1048575 : Int32)).toInt64)), .second, .unset, .unset, .unset, .unset, .unset, .unset, .unset, .unset, .unset, .unset, .unset] [(.int (1048575 : Int32)), (.int ((p0.toUInt32 >>> ((2 : Int32) &&& 31).toUInt32).toInt32))])
  refine Go.step (fun _ k => XS.iand X0.here hx rfl (hb hby at_31) rfl k) ?_
  show Go _ _ _ _ _ _ _ T0 (mkF m 32 #[.val (.int p0), .val (.int p1), .val (.int p2), .val (.int p3), .val (.int p4), .val (.int p5), .val (.int ((1 : Int32) + ((p0 &&& (2147483647 : Int32)) % (3 : Int32)))), .val (.long ((p4 &&& (1048575 : Int32)).toInt64)), .second, .val (.long ((p5 &&& (1048575 : Int32)).toInt64)), .second, .unset, .unset, .unset, .unset, .unset, .unset, .unset, .unset, .unset, .unset, .unset] [(.int (((p0.toUInt32 >>> ((2 : Int32) &&& 31).toUInt32).toInt32) &&& (1048575 : Int32)))])
  refine Go.step (fun _ k => XS.i2l X0.here hx rfl (hb hby at_32) rfl k) ?_
  show Go _ _ _ _ _ _ _ T0 (mkF m 33 #[.val (.int p0), .val (.int p1), .val (.int p2), .val (.int p3), .val (.int p4), .val (.int p5), .val (.int ((1 : Int32) + ((p0 &&& (2147483647 : Int32)) % (3 : Int32)))), .val (.long ((p4 &&& (1048575 : Int32)).toInt64)), .second, .val (.long ((p5 &&& (1048575 : Int32)).toInt64)), .second, .unset, .unset, .unset, .unset, .unset, .unset, .unset, .unset, .unset, .unset, .unset] [(.long ((((p0.toUInt32 >>> ((2 : Int32) &&& 31).toUInt32).toInt32) &&& (1048575 : Int32)).toInt64))])
  refine Go.step (fun _ k => XS.lstore X0.here hx rfl (hb hby at_33) rfl (l' := #[.val (.int p0), .val (.int p1), .val (.int p2), .val (.int p3), .val (.int p4), .val (.int p5), .val (.int ((1 : Int32) + ((p0 &&& (2147483647 : Int32)) % (3 : Int32)))), .val (.long ((p4 &&& (1048575 : Int32)).toInt64)), .second, .val (.long ((p5 &&& (1048575 : Int32)).toInt64)), .second, .val (.long ((((p0.toUInt32 >>> ((2 : Int32) &&& 31).toUInt32).toInt32) &&& (1048575 : Int32)).toInt64)), .second, .unset, .unset, .unset, .unset, .unset, .unset, .unset, .unset, .unset]) rfl k) ?_
  show Go _ _ _ _ _ _ _ T0 (mkF m 35 #[.val (.int p0), .val (.int p1), .val (.int p2), .val (.int p3), .val (.int p4), .val (.int p5), .val (.int ((1 : Int32) + ((p0 &&& (2147483647 : Int32)) % (3 : Int32)))), .val (.long ((p4 &&& (1048575 : Int32)).toInt64)), .second, .val (.long ((p5 &&& (1048575 : Int32)).toInt64)), .second, .val (.long ((((p0.toUInt32 >>> ((2 : Int32) &&& 31).toUInt32).toInt32) &&& (1048575 : Int32)).toInt64)), .second, .unset, .unset, .unset, .unset, .unset, .unset, .unset, .unset, .unset] [])
  have hs0 := own_s p4
  have hs1 := own_s p5
  have hs2 := own_s ((p0.toUInt32 >>> ((2 : Int32) &&& 31).toUInt32).toInt32)
  have hpp := own_pp p0
  obtain ⟨s0, h_s0⟩ : ∃ z, z = ((p4 &&& (1048575 : Int32)).toInt64) := ⟨_, rfl⟩
  rw [← h_s0]
  rw [← h_s0] at hs0
  obtain ⟨s1, h_s1⟩ : ∃ z, z = ((p5 &&& (1048575 : Int32)).toInt64) := ⟨_, rfl⟩
  rw [← h_s1]
  rw [← h_s1] at hs1
  obtain ⟨s2, h_s2⟩ : ∃ z, z = ((((p0.toUInt32 >>> ((2 : Int32) &&& 31).toUInt32).toInt32) &&& (1048575 : Int32)).toInt64) := ⟨_, rfl⟩
  rw [← h_s2]
  rw [← h_s2] at hs2
  obtain ⟨pp, h_pp⟩ : ∃ z, z = ((1 : Int32) + ((p0 &&& (2147483647 : Int32)) % (3 : Int32))) := ⟨_, rfl⟩
  rw [← h_pp]
  rw [← h_pp] at hpp
  rcases hpp with rfl | rfl | rfl
  · show Go _ _ _ _ _ _ _ T0 (mkF m 35 #[.val (.int p0), .val (.int p1), .val (.int p2), .val (.int p3), .val (.int p4), .val (.int p5), .val (.int (1 : Int32)), .val (.long s0), .second, .val (.long s1), .second, .val (.long s2), .second, .unset, .unset, .unset, .unset, .unset, .unset, .unset, .unset, .unset] [])
    refine Go.step (fun _ k => XS.iload X0.here hx rfl (hb hby at_35) rfl k) ?_
    show Go _ _ _ _ _ _ _ T0 (mkF m 37 #[.val (.int p0), .val (.int p1), .val (.int p2), .val (.int p3), .val (.int p4), .val (.int p5), .val (.int (1 : Int32)), .val (.long s0), .second, .val (.long s1), .second, .val (.long s2), .second, .unset, .unset, .unset, .unset, .unset, .unset, .unset, .unset, .unset] [(.int (1 : Int32))])
    refine Go.step (fun _ k => XS.iconst X0.here hx rfl (hb hby at_37) k) ?_
    show Go _ _ _ _ _ _ _ T0 (mkF m 38 #[.val (.int p0), .val (.int p1), .val (.int p2), .val (.int p3), .val (.int p4), .val (.int p5), .val (.int (1 : Int32)), .val (.long s0), .second, .val (.long s1), .second, .val (.long s2), .second, .unset, .unset, .unset, .unset, .unset, .unset, .unset, .unset, .unset] [(.int (1 : Int32)), (.int (1 : Int32))])
    refine Go.step (fun _ k => XS.icmpNo X0.here hx rfl (hb hby at_38) rfl (teq (by decide : (1 : Int32) = (1 : Int32))).2 k) ?_
    show Go _ _ _ _ _ _ _ T0 (mkF m 41 #[.val (.int p0), .val (.int p1), .val (.int p2), .val (.int p3), .val (.int p4), .val (.int p5), .val (.int (1 : Int32)), .val (.long s0), .second, .val (.long s1), .second, .val (.long s2), .second, .unset, .unset, .unset, .unset, .unset, .unset, .unset, .unset, .unset] [])
    refine Go.step (fun _ k => XS.iconst X0.here hx rfl (hb hby at_41) k) ?_
    show Go _ _ _ _ _ _ _ T0 (mkF m 42 #[.val (.int p0), .val (.int p1), .val (.int p2), .val (.int p3), .val (.int p4), .val (.int p5), .val (.int (1 : Int32)), .val (.long s0), .second, .val (.long s1), .second, .val (.long s2), .second, .unset, .unset, .unset, .unset, .unset, .unset, .unset, .unset, .unset] [(.int (1 : Int32))])
    obtain ⟨T1, h1, k1, X1, e1, E1, A1, B1, st1⟩ := newPE X0 hx hZ (hw _ (List.mem_of_getElem? (i := 2) rfl)) e0 (g := (mkF m 42 #[.val (.int p0), .val (.int p1), .val (.int p2), .val (.int p3), .val (.int p4), .val (.int p5), .val (.int (1 : Int32)), .val (.long s0), .second, .val (.long s1), .second, .val (.long s2), .second, .unset, .unset, .unset, .unset, .unset, .unset, .unset, .unset, .unset] [(.int (1 : Int32))])) rfl (hb hby at_42) rfl (by decide) (cap := 1) (by decide) (by decide) (by decide) (by decide) (ad := "[D") (by decide)
    obtain ⟨b1, g1⟩ : ∃ z, z = h0.size := ⟨_, rfl⟩
    rw [← g1] at A1 B1 st1
    refine Go.step st1 ?_
    have K1 : Keep h0 h1 [] := (Keep.refl h0 []).ext E1
    have sz_b1 : h0.size ≤ b1 := Nat.le_trans ((Keep.refl h0 []) : Keep h0 h0 []).1 (Nat.le_of_eq g1.symm)
    have ge_b1 : n0 ≤ b1 := Nat.le_trans Z0 sz_b1
    have V_b1 : Dv Z h1 b1 (1 : Int32) (fun _ => (0 : UInt64)) := Fv.new A1 (by decide)
    have E_b1 := B1
    show Go _ _ _ _ _ _ _ T1 (mkF m 44 #[.val (.int p0), .val (.int p1), .val (.int p2), .val (.int p3), .val (.int p4), .val (.int p5), .val (.int (1 : Int32)), .val (.long s0), .second, .val (.long s1), .second, .val (.long s2), .second, .unset, .unset, .unset, .unset, .unset, .unset, .unset, .unset, .unset] [(.ref b1)])
    refine Go.step (fun _ k => XS.dup X1.here hx rfl (hb hby at_44) rfl rfl k) ?_
    show Go _ _ _ _ _ _ _ T1 (mkF m 45 #[.val (.int p0), .val (.int p1), .val (.int p2), .val (.int p3), .val (.int p4), .val (.int p5), .val (.int (1 : Int32)), .val (.long s0), .second, .val (.long s1), .second, .val (.long s2), .second, .unset, .unset, .unset, .unset, .unset, .unset, .unset, .unset, .unset] [(.ref b1), (.ref b1)])
    refine Go.step (fun _ k => XS.iconst X1.here hx rfl (hb hby at_45) k) ?_
    show Go _ _ _ _ _ _ _ T1 (mkF m 46 #[.val (.int p0), .val (.int p1), .val (.int p2), .val (.int p3), .val (.int p4), .val (.int p5), .val (.int (1 : Int32)), .val (.long s0), .second, .val (.long s1), .second, .val (.long s2), .second, .unset, .unset, .unset, .unset, .unset, .unset, .unset, .unset, .unset] [(.int (0 : Int32)), (.ref b1), (.ref b1)])
    refine Go.step (fun _ k => XS.lload X1.here hx rfl (hb hby at_46) rfl k) ?_
    show Go _ _ _ _ _ _ _ T1 (mkF m 48 #[.val (.int p0), .val (.int p1), .val (.int p2), .val (.int p3), .val (.int p4), .val (.int p5), .val (.int (1 : Int32)), .val (.long s0), .second, .val (.long s1), .second, .val (.long s2), .second, .unset, .unset, .unset, .unset, .unset, .unset, .unset, .unset, .unset] [(.long s0), (.int (0 : Int32)), (.ref b1), (.ref b1)])
    refine Go.step (fun _ k => XS.l2dS X1.here hx rfl (hb hby at_48) rfl rfl k) ?_
    show Go _ _ _ _ _ _ _ T1 (mkF m 49 #[.val (.int p0), .val (.int p1), .val (.int p2), .val (.int p3), .val (.int p4), .val (.int p5), .val (.int (1 : Int32)), .val (.long s0), .second, .val (.long s1), .second, .val (.long s2), .second, .unset, .unset, .unset, .unset, .unset, .unset, .unset, .unset, .unset] [(.double (FP.l2d s0)), (.int (0 : Int32)), (.ref b1), (.ref b1)])
    refine Go.dastore X1 hx hZ e1 V_b1 (j := (0 : Int32)) (x := (FP.l2d s0)) (by decide) (hb hby at_49) ?_
    intro T2 h2 X2 e2 W2 Vn2
    have V_b1_2 : Dv Z h2 b1 (1 : Int32) (updN (fun _ => (0 : UInt64)) 0 (FP.l2d s0)) := Vn2
    have N2 := Fr.snoc X2 N0 ge_b1
    have E_b1_2 := E_b1.wr W2
    have K2 : Keep h0 h2 [] := K1.wr W2 (Or.inr sz_b1)
    show Go _ _ _ _ _ _ _ T2 (mkF m 50 #[.val (.int p0), .val (.int p1), .val (.int p2), .val (.int p3), .val (.int p4), .val (.int p5), .val (.int (1 : Int32)), .val (.long s0), .second, .val (.long s1), .second, .val (.long s2), .second, .unset, .unset, .unset, .unset, .unset, .unset, .unset, .unset, .unset] [(.ref b1)])
    refine Go.step (fun _ k => XS.astore X2.here hx rfl (hb hby at_50) rfl rfl (l' := #[.val (.int p0), .val (.int p1), .val (.int p2), .val (.int p3), .val (.int p4), .val (.int p5), .val (.int (1 : Int32)), .val (.long s0), .second, .val (.long s1), .second, .val (.long s2), .second, .val (.ref b1), .unset, .unset, .unset, .unset, .unset, .unset, .unset, .unset]) rfl k) ?_
    show Go _ _ _ _ _ _ _ T2 (mkF m 52 #[.val (.int p0), .val (.int p1), .val (.int p2), .val (.int p3), .val (.int p4), .val (.int p5), .val (.int (1 : Int32)), .val (.long s0), .second, .val (.long s1), .second, .val (.long s2), .second, .val (.ref b1), .unset, .unset, .unset, .unset, .unset, .unset, .unset, .unset] [])
    refine Go.step (fun _ k => XS.goto X2.here hx rfl (pc0 := 52) (pc' := 104) rfl (hb hby at_52) (by decide) (by decide) k) ?_
    show Go _ _ _ _ _ _ _ T2 (mkF m 104 #[.val (.int p0), .val (.int p1), .val (.int p2), .val (.int p3), .val (.int p4), .val (.int p5), .val (.int (1 : Int32)), .val (.long s0), .second, .val (.long s1), .second, .val (.long s2), .second, .val (.ref b1), .unset, .unset, .unset, .unset, .unset, .unset, .unset, .unset] [])
    refine Go.step (fun _ k => XS.iload X2.here hx rfl (hb hby at_104) rfl k) ?_
    show Go _ _ _ _ _ _ _ T2 (mkF m 106 #[.val (.int p0), .val (.int p1), .val (.int p2), .val (.int p3), .val (.int p4), .val (.int p5), .val (.int (1 : Int32)), .val (.long s0), .second, .val (.long s1), .second, .val (.long s2), .second, .val (.ref b1), .unset, .unset, .unset, .unset, .unset, .unset, .unset, .unset] [(.int (1 : Int32))])
    refine Go.step (fun _ k => XS.iloadN X2.here hx rfl (hb hby at_106) rfl k) ?_
    show Go _ _ _ _ _ _ _ T2 (mkF m 107 #[.val (.int p0), .val (.int p1), .val (.int p2), .val (.int p3), .val (.int p4), .val (.int p5), .val (.int (1 : Int32)), .val (.long s0), .second, .val (.long s1), .second, .val (.long s2), .second, .val (.ref b1), .unset, .unset, .unset, .unset, .unset, .unset, .unset, .unset] [(.int p1), (.int (1 : Int32))])
    refine Go.step (X2.ldcInt hx hown (mvT hZ (hw _ (List.mem_of_getElem? (i := 0) rfl))) (g := (mkF m 107 #[.val (.int p0), .val (.int p1), .val (.int p2), .val (.int p3), .val (.int p4), .val (.int p5), .val (.int (1 : Int32)), .val (.long s0), .second, .val (.long s1), .second, .val (.long s2), .second, .val (.ref b1), .unset, .unset, .unset, .unset, .unset, .unset, .unset, .unset] [(.int p1), (.int (1 : Int32))])) rfl (hb hby at_107)) ?_
    show Go _ _ _ _ _ _ _ T2 (mkF m 109 #[.val (.int p0), .val (.int p1), .val (.int p2), .val (.int p3), .val (.int p4), .val (.int p5), .val (.int (1 : Int32)), .val (.long s0), .second, .val (.long s1), .second, .val (.long s2), .second, .val (.ref b1), .unset, .unset, .unset, .unset, .unset, .unset, .unset, .unset] [(.int (2147483647 : Int32)), (.int p1), (.int (1 : Int32))])
    refine Go.step (fun _ k => XS.iand X2.here hx rfl (hb hby at_109) rfl k) ?_
    show Go _ _ _ _ _ _ _ T2 (mkF m 110 #[.val (.int p0), .val (.int p1), .val (.int p2), .val (.int p3), .val (.int p4), .val (.int p5), .val (.int (1 : Int32)), .val (.long s0), .second, .val (.long s1), .second, .val (.long s2), .second, .val (.ref b1), .unset, .unset, .unset, .unset, .unset, .unset, .unset, .unset] [(.int (p1 &&& (2147483647 : Int32))), (.int (1 : Int32))])
    refine Go.callS X2 hx hZ (by rw [hml]; rfl) (y := (⟨"java/lang/Math", "max", "(II)I"⟩ : MethodName)) (argsL := [(.int (1 : Int32)), (.int (p1 &&& (2147483647 : Int32)))]) (rest := []) hown (hw _ (List.mem_of_getElem? (i := 3) rfl)) (hw _ (List.mem_of_getElem? (i := 4) rfl)) (hw _ (List.mem_of_getElem? (i := 5) rfl)) (hw _ (List.mem_of_getElem? (i := 6) rfl)) (by decide) (rm1 l Z a0 hw (1 : Int32) (p1 &&& (2147483647 : Int32)) h2 n0 (Nat.le_trans Z0 (K2 : Keep h0 h2 []).1)) e2 (hb hby at_110) (lenOf pd_3 rfl) rfl rfl (W := 0) (Nat.le_of_eq rfl) (by decide) (by decide) (by decide) (by decide) ?_
    intro v3 T3 L3 X3 Q3
    obtain ⟨rfl, N3q, hh3⟩ := Q3
    have N3 := Fr.app N2 N3q
    show Go _ _ _ _ _ _ _ T3 (mkF m 113 #[.val (.int p0), .val (.int p1), .val (.int p2), .val (.int p3), .val (.int p4), .val (.int p5), .val (.int (1 : Int32)), .val (.long s0), .second, .val (.long s1), .second, .val (.long s2), .second, .val (.ref b1), .unset, .unset, .unset, .unset, .unset, .unset, .unset, .unset] [(.int (imaxW (1 : Int32) (p1 &&& (2147483647 : Int32))))])
    refine Go.step (fun _ k => XS.istore X3.here hx rfl (hb hby at_113) rfl (l' := #[.val (.int p0), .val (.int p1), .val (.int p2), .val (.int p3), .val (.int p4), .val (.int p5), .val (.int (1 : Int32)), .val (.long s0), .second, .val (.long s1), .second, .val (.long s2), .second, .val (.ref b1), .val (.int (imaxW (1 : Int32) (p1 &&& (2147483647 : Int32)))), .unset, .unset, .unset, .unset, .unset, .unset, .unset]) rfl k) ?_
    obtain ⟨K, h_K⟩ : ∃ z, z = (imaxW (1 : Int32) (p1 &&& (2147483647 : Int32))) := ⟨_, rfl⟩
    rw [← h_K]
    have hK := own_max (p := (1 : Int32)) (by decide) K h_K
    show Go _ _ _ _ _ _ _ T3 (mkF m 115 #[.val (.int p0), .val (.int p1), .val (.int p2), .val (.int p3), .val (.int p4), .val (.int p5), .val (.int (1 : Int32)), .val (.long s0), .second, .val (.long s1), .second, .val (.long s2), .second, .val (.ref b1), .val (.int K), .unset, .unset, .unset, .unset, .unset, .unset, .unset] [])
    refine Go.step (fun _ k => XS.iloadN X3.here hx rfl (hb hby at_115) rfl k) ?_
    show Go _ _ _ _ _ _ _ T3 (mkF m 116 #[.val (.int p0), .val (.int p1), .val (.int p2), .val (.int p3), .val (.int p4), .val (.int p5), .val (.int (1 : Int32)), .val (.long s0), .second, .val (.long s1), .second, .val (.long s2), .second, .val (.ref b1), .val (.int K), .unset, .unset, .unset, .unset, .unset, .unset, .unset] [(.int p2)])
    refine Go.step (X3.ldcInt hx hown (mvT hZ (hw _ (List.mem_of_getElem? (i := 0) rfl))) (g := (mkF m 116 #[.val (.int p0), .val (.int p1), .val (.int p2), .val (.int p3), .val (.int p4), .val (.int p5), .val (.int (1 : Int32)), .val (.long s0), .second, .val (.long s1), .second, .val (.long s2), .second, .val (.ref b1), .val (.int K), .unset, .unset, .unset, .unset, .unset, .unset, .unset] [(.int p2)])) rfl (hb hby at_116)) ?_
    show Go _ _ _ _ _ _ _ T3 (mkF m 118 #[.val (.int p0), .val (.int p1), .val (.int p2), .val (.int p3), .val (.int p4), .val (.int p5), .val (.int (1 : Int32)), .val (.long s0), .second, .val (.long s1), .second, .val (.long s2), .second, .val (.ref b1), .val (.int K), .unset, .unset, .unset, .unset, .unset, .unset, .unset] [(.int (2147483647 : Int32)), (.int p2)])
    refine Go.step (fun _ k => XS.iand X3.here hx rfl (hb hby at_118) rfl k) ?_
    show Go _ _ _ _ _ _ _ T3 (mkF m 119 #[.val (.int p0), .val (.int p1), .val (.int p2), .val (.int p3), .val (.int p4), .val (.int p5), .val (.int (1 : Int32)), .val (.long s0), .second, .val (.long s1), .second, .val (.long s2), .second, .val (.ref b1), .val (.int K), .unset, .unset, .unset, .unset, .unset, .unset, .unset] [(.int (p2 &&& (2147483647 : Int32)))])
    refine Go.step (fun _ k => XS.iload X3.here hx rfl (hb hby at_119) rfl k) ?_
    show Go _ _ _ _ _ _ _ T3 (mkF m 121 #[.val (.int p0), .val (.int p1), .val (.int p2), .val (.int p3), .val (.int p4), .val (.int p5), .val (.int (1 : Int32)), .val (.long s0), .second, .val (.long s1), .second, .val (.long s2), .second, .val (.ref b1), .val (.int K), .unset, .unset, .unset, .unset, .unset, .unset, .unset] [(.int K), (.int (p2 &&& (2147483647 : Int32)))])
    refine Go.step (fun _ k => iremM X3 hx rfl (hb hby at_121) rfl (own_k0 hK.2) k) ?_
    show Go _ _ _ _ _ _ _ T3 (mkF m 122 #[.val (.int p0), .val (.int p1), .val (.int p2), .val (.int p3), .val (.int p4), .val (.int p5), .val (.int (1 : Int32)), .val (.long s0), .second, .val (.long s1), .second, .val (.long s2), .second, .val (.ref b1), .val (.int K), .unset, .unset, .unset, .unset, .unset, .unset, .unset] [(.int ((p2 &&& (2147483647 : Int32)) % K))])
    refine Go.step (fun _ k => XS.istore X3.here hx rfl (hb hby at_122) rfl (l' := #[.val (.int p0), .val (.int p1), .val (.int p2), .val (.int p3), .val (.int p4), .val (.int p5), .val (.int (1 : Int32)), .val (.long s0), .second, .val (.long s1), .second, .val (.long s2), .second, .val (.ref b1), .val (.int K), .val (.int ((p2 &&& (2147483647 : Int32)) % K)), .unset, .unset, .unset, .unset, .unset, .unset]) rfl k) ?_
    obtain ⟨fi, h_fi⟩ : ∃ z, z = ((p2 &&& (2147483647 : Int32)) % K) := ⟨_, rfl⟩
    rw [← h_fi]
    have hfi := own_first hK.2 h_fi
    show Go _ _ _ _ _ _ _ T3 (mkF m 124 #[.val (.int p0), .val (.int p1), .val (.int p2), .val (.int p3), .val (.int p4), .val (.int p5), .val (.int (1 : Int32)), .val (.long s0), .second, .val (.long s1), .second, .val (.long s2), .second, .val (.ref b1), .val (.int K), .val (.int fi), .unset, .unset, .unset, .unset, .unset, .unset] [])
    refine Go.step (fun _ k => XS.iload X3.here hx rfl (hb hby at_124) rfl k) ?_
    show Go _ _ _ _ _ _ _ T3 (mkF m 126 #[.val (.int p0), .val (.int p1), .val (.int p2), .val (.int p3), .val (.int p4), .val (.int p5), .val (.int (1 : Int32)), .val (.long s0), .second, .val (.long s1), .second, .val (.long s2), .second, .val (.ref b1), .val (.int K), .val (.int fi), .unset, .unset, .unset, .unset, .unset, .unset] [(.int fi)])
    refine Go.step (fun _ k => XS.iloadN X3.here hx rfl (hb hby at_126) rfl k) ?_
    show Go _ _ _ _ _ _ _ T3 (mkF m 127 #[.val (.int p0), .val (.int p1), .val (.int p2), .val (.int p3), .val (.int p4), .val (.int p5), .val (.int (1 : Int32)), .val (.long s0), .second, .val (.long s1), .second, .val (.long s2), .second, .val (.ref b1), .val (.int K), .val (.int fi), .unset, .unset, .unset, .unset, .unset, .unset] [(.int p3), (.int fi)])
    refine Go.step (X3.ldcInt hx hown (mvT hZ (hw _ (List.mem_of_getElem? (i := 0) rfl))) (g := (mkF m 127 #[.val (.int p0), .val (.int p1), .val (.int p2), .val (.int p3), .val (.int p4), .val (.int p5), .val (.int (1 : Int32)), .val (.long s0), .second, .val (.long s1), .second, .val (.long s2), .second, .val (.ref b1), .val (.int K), .val (.int fi), .unset, .unset, .unset, .unset, .unset, .unset] [(.int p3), (.int fi)])) rfl (hb hby at_127)) ?_
    show Go _ _ _ _ _ _ _ T3 (mkF m 129 #[.val (.int p0), .val (.int p1), .val (.int p2), .val (.int p3), .val (.int p4), .val (.int p5), .val (.int (1 : Int32)), .val (.long s0), .second, .val (.long s1), .second, .val (.long s2), .second, .val (.ref b1), .val (.int K), .val (.int fi), .unset, .unset, .unset, .unset, .unset, .unset] [(.int (2147483647 : Int32)), (.int p3), (.int fi)])
    refine Go.step (fun _ k => XS.iand X3.here hx rfl (hb hby at_129) rfl k) ?_
    show Go _ _ _ _ _ _ _ T3 (mkF m 130 #[.val (.int p0), .val (.int p1), .val (.int p2), .val (.int p3), .val (.int p4), .val (.int p5), .val (.int (1 : Int32)), .val (.long s0), .second, .val (.long s1), .second, .val (.long s2), .second, .val (.ref b1), .val (.int K), .val (.int fi), .unset, .unset, .unset, .unset, .unset, .unset] [(.int (p3 &&& (2147483647 : Int32))), (.int fi)])
    refine Go.step (fun _ k => XS.iload X3.here hx rfl (hb hby at_130) rfl k) ?_
    show Go _ _ _ _ _ _ _ T3 (mkF m 132 #[.val (.int p0), .val (.int p1), .val (.int p2), .val (.int p3), .val (.int p4), .val (.int p5), .val (.int (1 : Int32)), .val (.long s0), .second, .val (.long s1), .second, .val (.long s2), .second, .val (.ref b1), .val (.int K), .val (.int fi), .unset, .unset, .unset, .unset, .unset, .unset] [(.int K), (.int (p3 &&& (2147483647 : Int32))), (.int fi)])
    refine Go.step (fun _ k => XS.iload X3.here hx rfl (hb hby at_132) rfl k) ?_
    show Go _ _ _ _ _ _ _ T3 (mkF m 134 #[.val (.int p0), .val (.int p1), .val (.int p2), .val (.int p3), .val (.int p4), .val (.int p5), .val (.int (1 : Int32)), .val (.long s0), .second, .val (.long s1), .second, .val (.long s2), .second, .val (.ref b1), .val (.int K), .val (.int fi), .unset, .unset, .unset, .unset, .unset, .unset] [(.int fi), (.int K), (.int (p3 &&& (2147483647 : Int32))), (.int fi)])
    refine Go.step (fun _ k => XS.isub X3.here hx rfl (hb hby at_134) rfl k) ?_
    show Go _ _ _ _ _ _ _ T3 (mkF m 135 #[.val (.int p0), .val (.int p1), .val (.int p2), .val (.int p3), .val (.int p4), .val (.int p5), .val (.int (1 : Int32)), .val (.long s0), .second, .val (.long s1), .second, .val (.long s2), .second, .val (.ref b1), .val (.int K), .val (.int fi), .unset, .unset, .unset, .unset, .unset, .unset] [(.int (K - fi)), (.int (p3 &&& (2147483647 : Int32))), (.int fi)])
    refine Go.step (fun _ k => iremM X3 hx rfl (hb hby at_135) rfl (own_kf0 hfi.1 hfi.2) k) ?_
    show Go _ _ _ _ _ _ _ T3 (mkF m 136 #[.val (.int p0), .val (.int p1), .val (.int p2), .val (.int p3), .val (.int p4), .val (.int p5), .val (.int (1 : Int32)), .val (.long s0), .second, .val (.long s1), .second, .val (.long s2), .second, .val (.ref b1), .val (.int K), .val (.int fi), .unset, .unset, .unset, .unset, .unset, .unset] [(.int ((p3 &&& (2147483647 : Int32)) % (K - fi))), (.int fi)])
    refine Go.step (fun _ k => XS.iadd X3.here hx rfl (hb hby at_136) rfl k) ?_
    show Go _ _ _ _ _ _ _ T3 (mkF m 137 #[.val (.int p0), .val (.int p1), .val (.int p2), .val (.int p3), .val (.int p4), .val (.int p5), .val (.int (1 : Int32)), .val (.long s0), .second, .val (.long s1), .second, .val (.long s2), .second, .val (.ref b1), .val (.int K), .val (.int fi), .unset, .unset, .unset, .unset, .unset, .unset] [(.int (fi + ((p3 &&& (2147483647 : Int32)) % (K - fi))))])
    refine Go.step (fun _ k => XS.istore X3.here hx rfl (hb hby at_137) rfl (l' := #[.val (.int p0), .val (.int p1), .val (.int p2), .val (.int p3), .val (.int p4), .val (.int p5), .val (.int (1 : Int32)), .val (.long s0), .second, .val (.long s1), .second, .val (.long s2), .second, .val (.ref b1), .val (.int K), .val (.int fi), .val (.int (fi + ((p3 &&& (2147483647 : Int32)) % (K - fi)))), .unset, .unset, .unset, .unset, .unset]) rfl k) ?_
    show Go _ _ _ _ _ _ _ T3 (mkF m 139 #[.val (.int p0), .val (.int p1), .val (.int p2), .val (.int p3), .val (.int p4), .val (.int p5), .val (.int (1 : Int32)), .val (.long s0), .second, .val (.long s1), .second, .val (.long s2), .second, .val (.ref b1), .val (.int K), .val (.int fi), .val (.int (fi + ((p3 &&& (2147483647 : Int32)) % (K - fi)))), .unset, .unset, .unset, .unset, .unset] [])
    obtain ⟨la, h_la⟩ : ∃ z, z = (fi + ((p3 &&& (2147483647 : Int32)) % (K - fi))) := ⟨_, rfl⟩
    rw [← h_la]
    have hla := own_last hfi.1 hfi.2 h_la
    obtain ⟨ho1, ho2⟩ := own_combo1 hfi.1 hla.1 hla.2
    obtain ⟨T4, h4, X4, e4, E4, A4, D4, -, st4⟩ := newO X3 hx hZ hown (hw _ (List.mem_of_getElem? (i := 7) rfl)) (hw _ (List.mem_of_getElem? (i := 8) rfl)) (hw _ (List.mem_of_getElem? (i := 9) rfl)) hh3 (g := (mkF m 139 #[.val (.int p0), .val (.int p1), .val (.int p2), .val (.int p3), .val (.int p4), .val (.int p5), .val (.int (1 : Int32)), .val (.long s0), .second, .val (.long s1), .second, .val (.long s2), .second, .val (.ref b1), .val (.int K), .val (.int fi), .val (.int la), .unset, .unset, .unset, .unset, .unset] [])) rfl (hb hby at_139) (by decide) (by decide)
    obtain ⟨b4, g4⟩ : ∃ z, z = h2.size := ⟨_, rfl⟩
    rw [← g4] at A4 D4 st4
    refine Go.step st4 ?_
    have K4 : Keep h0 h4 [] := K2.ext E4
    have sz_b4 : h0.size ≤ b4 := Nat.le_trans (K2 : Keep h0 h2 []).1 (Nat.le_of_eq g4.symm)
    have ge_b4 : n0 ≤ b4 := Nat.le_trans Z0 sz_b4
    have ne_b1_b4 : b1 ≠ b4 := Nat.ne_of_lt (Nat.lt_of_lt_of_le V_b1_2.lt (Nat.le_of_eq g4.symm))
    have V_b1_4 := V_b1_2.ext E4
    have E_b1_4 := E_b1_2.ext E4
    have E_b4 := A4
    have F_keyGroups_b4 : Fld Z h4 b4 "tidewatch/decision/KeyGroupCeiling" "keyGroups" "I" (.int (0 : Int32)) := D4 (Or.inr (hw _ (List.mem_of_getElem? (i := 17) rfl))) (ty := .int) (by decide)
    have F_shares_b4 : Fld Z h4 b4 "tidewatch/decision/KeyGroupCeiling" "shares" "[D" .null := D4 (Or.inr (hw _ (List.mem_of_getElem? (i := 28) rfl))) (ty := (.array .double)) (by decide)
    have F_before_b4 : Fld Z h4 b4 "tidewatch/decision/KeyGroupCeiling" "before" "[D" .null := D4 (Or.inr (hw _ (List.mem_of_getElem? (i := 30) rfl))) (ty := (.array .double)) (by decide)
    show Go _ _ _ _ _ _ _ T4 (mkF m 142 #[.val (.int p0), .val (.int p1), .val (.int p2), .val (.int p3), .val (.int p4), .val (.int p5), .val (.int (1 : Int32)), .val (.long s0), .second, .val (.long s1), .second, .val (.long s2), .second, .val (.ref b1), .val (.int K), .val (.int fi), .val (.int la), .unset, .unset, .unset, .unset, .unset] [(.ref b4)])
    refine Go.step (fun _ k => XS.dup X4.here hx rfl (hb hby at_142) rfl rfl k) ?_
    show Go _ _ _ _ _ _ _ T4 (mkF m 143 #[.val (.int p0), .val (.int p1), .val (.int p2), .val (.int p3), .val (.int p4), .val (.int p5), .val (.int (1 : Int32)), .val (.long s0), .second, .val (.long s1), .second, .val (.long s2), .second, .val (.ref b1), .val (.int K), .val (.int fi), .val (.int la), .unset, .unset, .unset, .unset, .unset] [(.ref b4), (.ref b4)])
    refine Go.step (fun _ k => XS.iload X4.here hx rfl (hb hby at_143) rfl k) ?_
    show Go _ _ _ _ _ _ _ T4 (mkF m 145 #[.val (.int p0), .val (.int p1), .val (.int p2), .val (.int p3), .val (.int p4), .val (.int p5), .val (.int (1 : Int32)), .val (.long s0), .second, .val (.long s1), .second, .val (.long s2), .second, .val (.ref b1), .val (.int K), .val (.int fi), .val (.int la), .unset, .unset, .unset, .unset, .unset] [(.int K), (.ref b4), (.ref b4)])
    refine Go.step (fun _ k => XS.aload X4.here hx rfl (hb hby at_145) rfl rfl k) ?_
    show Go _ _ _ _ _ _ _ T4 (mkF m 147 #[.val (.int p0), .val (.int p1), .val (.int p2), .val (.int p3), .val (.int p4), .val (.int p5), .val (.int (1 : Int32)), .val (.long s0), .second, .val (.long s1), .second, .val (.long s2), .second, .val (.ref b1), .val (.int K), .val (.int fi), .val (.int la), .unset, .unset, .unset, .unset, .unset] [(.ref b1), (.int K), (.ref b4), (.ref b4)])
    refine Go.callI X4 hx hZ (by rw [hml]; rfl) (y := (⟨"tidewatch/decision/KeyGroupCeiling", "<init>", "(I[D)V"⟩ : MethodName)) (a := b4) (argsL := [(.int K), (.ref b1)]) (rest := [(.ref b4)]) rfl hown (hw _ (List.mem_of_getElem? (i := 10) rfl)) (hw _ (List.mem_of_getElem? (i := 11) rfl)) (hw _ (List.mem_of_getElem? (i := 9) rfl)) (hw _ (List.mem_of_getElem? (i := 12) rfl)) (by decide) (rm2_1 l Z a0 hw b4 b1 K (updN (fun _ => (0 : UInt64)) 0 (FP.l2d s0)) h4 n0 (Nat.le_trans Z0 (K4 : Keep h0 h4 []).1) E_b4 F_keyGroups_b4 F_shares_b4 F_before_b4 E_b1_4 V_b1_4 ge_b4 (Ne.symm ne_b1_b4) hK.1 (fun i hi' => by rcases (by omega : i = 0) with rfl; exact Jvm.Free.Fl.l2d_fin _) (fun i hi' => by rcases (by omega : i = 0) with rfl; exact own_nneg hs0)) e4 (hb hby at_147) (lenOf pd_4 rfl) rfl rfl (W := 1) (Nat.le_of_eq rfl) (by decide) (by decide) (by decide) (by decide) ?_
    intro v5 T5 L5 X5 Q5
    obtain ⟨rfl, N5q, Kc5, Ec5, Fk5, c5, d5, Fc5, Fd5, Vc5, Vd5, sc5, sd5, ncd5⟩ := Q5
    have N5 := Fr.app N3 N5q
    have ne_b1_c5 : b1 ≠ c5 := Nat.ne_of_lt (Nat.lt_of_lt_of_le V_b1_4.lt sc5)
    have ne_b1_d5 : b1 ≠ d5 := Nat.ne_of_lt (Nat.lt_of_lt_of_le V_b1_4.lt sd5)
    have V_b1_5 := V_b1_4.keep Kc5 (ninS ne_b1_b4 nin0)
    have E_b1_5 := E_b1_4.keep Kc5
    have E_b4_5 := E_b4.keep Kc5
    have KK5 : Keep h0 T5.heap [] := (K4 : Keep h0 h4 []).trans Kc5 (allS (Or.inr sz_b4) all0)
    show Go _ _ _ _ _ _ _ T5 (mkF m 150 #[.val (.int p0), .val (.int p1), .val (.int p2), .val (.int p3), .val (.int p4), .val (.int p5), .val (.int (1 : Int32)), .val (.long s0), .second, .val (.long s1), .second, .val (.long s2), .second, .val (.ref b1), .val (.int K), .val (.int fi), .val (.int la), .unset, .unset, .unset, .unset, .unset] [(.ref b4)])
    refine Go.step (fun _ k => XS.astore X5.here hx rfl (hb hby at_150) rfl rfl (l' := #[.val (.int p0), .val (.int p1), .val (.int p2), .val (.int p3), .val (.int p4), .val (.int p5), .val (.int (1 : Int32)), .val (.long s0), .second, .val (.long s1), .second, .val (.long s2), .second, .val (.ref b1), .val (.int K), .val (.int fi), .val (.int la), .val (.ref b4), .unset, .unset, .unset, .unset]) rfl k) ?_
    show Go _ _ _ _ _ _ _ T5 (mkF m 152 #[.val (.int p0), .val (.int p1), .val (.int p2), .val (.int p3), .val (.int p4), .val (.int p5), .val (.int (1 : Int32)), .val (.long s0), .second, .val (.long s1), .second, .val (.long s2), .second, .val (.ref b1), .val (.int K), .val (.int fi), .val (.int la), .val (.ref b4), .unset, .unset, .unset, .unset] [])
    refine Go.step (fun _ k => XS.iload X5.here hx rfl (hb hby at_152) rfl k) ?_
    show Go _ _ _ _ _ _ _ T5 (mkF m 154 #[.val (.int p0), .val (.int p1), .val (.int p2), .val (.int p3), .val (.int p4), .val (.int p5), .val (.int (1 : Int32)), .val (.long s0), .second, .val (.long s1), .second, .val (.long s2), .second, .val (.ref b1), .val (.int K), .val (.int fi), .val (.int la), .val (.ref b4), .unset, .unset, .unset, .unset] [(.int fi)])
    refine Go.step (fun _ k => XS.iload X5.here hx rfl (hb hby at_154) rfl k) ?_
    show Go _ _ _ _ _ _ _ T5 (mkF m 156 #[.val (.int p0), .val (.int p1), .val (.int p2), .val (.int p3), .val (.int p4), .val (.int p5), .val (.int (1 : Int32)), .val (.long s0), .second, .val (.long s1), .second, .val (.long s2), .second, .val (.ref b1), .val (.int K), .val (.int fi), .val (.int la), .val (.ref b4), .unset, .unset, .unset, .unset] [(.int (1 : Int32)), (.int fi)])
    refine Go.step (fun _ k => XS.iload X5.here hx rfl (hb hby at_156) rfl k) ?_
    show Go _ _ _ _ _ _ _ T5 (mkF m 158 #[.val (.int p0), .val (.int p1), .val (.int p2), .val (.int p3), .val (.int p4), .val (.int p5), .val (.int (1 : Int32)), .val (.long s0), .second, .val (.long s1), .second, .val (.long s2), .second, .val (.ref b1), .val (.int K), .val (.int fi), .val (.int la), .val (.ref b4), .unset, .unset, .unset, .unset] [(.int K), (.int (1 : Int32)), (.int fi)])
    refine Go.callS X5 hx hZ (by rw [hml]; rfl) (y := (⟨"tidewatch/decision/KeyGroupCeilingAtMostPinLaw", "ownerRef", "(III)I"⟩ : MethodName)) (argsL := [(.int fi), (.int (1 : Int32)), (.int K)]) (rest := []) hown (hw _ (List.mem_of_getElem? (i := 39) rfl)) (hw _ (List.mem_of_getElem? (i := 40) rfl)) (hw _ (List.mem_of_getElem? (i := 41) rfl)) (hw _ (List.mem_of_getElem? (i := 42) rfl)) (by decide) (rm6_1 l Z a0 hw fi K T5.heap n0 (Nat.le_trans Z0 (KK5 : Keep h0 T5.heap []).1)) rfl (hb hby at_158) (lenOf pd_5 rfl) rfl rfl (W := 0) (Nat.le_of_eq rfl) (by decide) (by decide) (by decide) (by decide) ?_
    intro v6 T6 L6 X6 Q6
    rw [ho1.1] at Q6
    obtain ⟨rfl, N6q, hh6⟩ := Q6
    have N6 := Fr.app N5 N6q
    show Go _ _ _ _ _ _ _ T6 (mkF m 161 #[.val (.int p0), .val (.int p1), .val (.int p2), .val (.int p3), .val (.int p4), .val (.int p5), .val (.int (1 : Int32)), .val (.long s0), .second, .val (.long s1), .second, .val (.long s2), .second, .val (.ref b1), .val (.int K), .val (.int fi), .val (.int la), .val (.ref b4), .unset, .unset, .unset, .unset] [(.int (0 : Int32))])
    refine Go.step (fun _ k => XS.istore X6.here hx rfl (hb hby at_161) rfl (l' := #[.val (.int p0), .val (.int p1), .val (.int p2), .val (.int p3), .val (.int p4), .val (.int p5), .val (.int (1 : Int32)), .val (.long s0), .second, .val (.long s1), .second, .val (.long s2), .second, .val (.ref b1), .val (.int K), .val (.int fi), .val (.int la), .val (.ref b4), .val (.int (0 : Int32)), .unset, .unset, .unset]) rfl k) ?_
    show Go _ _ _ _ _ _ _ T6 (mkF m 163 #[.val (.int p0), .val (.int p1), .val (.int p2), .val (.int p3), .val (.int p4), .val (.int p5), .val (.int (1 : Int32)), .val (.long s0), .second, .val (.long s1), .second, .val (.long s2), .second, .val (.ref b1), .val (.int K), .val (.int fi), .val (.int la), .val (.ref b4), .val (.int (0 : Int32)), .unset, .unset, .unset] [])
    refine Go.step (fun _ k => XS.iload X6.here hx rfl (hb hby at_163) rfl k) ?_
    show Go _ _ _ _ _ _ _ T6 (mkF m 165 #[.val (.int p0), .val (.int p1), .val (.int p2), .val (.int p3), .val (.int p4), .val (.int p5), .val (.int (1 : Int32)), .val (.long s0), .second, .val (.long s1), .second, .val (.long s2), .second, .val (.ref b1), .val (.int K), .val (.int fi), .val (.int la), .val (.ref b4), .val (.int (0 : Int32)), .unset, .unset, .unset] [(.int la)])
    refine Go.step (fun _ k => XS.iload X6.here hx rfl (hb hby at_165) rfl k) ?_
    show Go _ _ _ _ _ _ _ T6 (mkF m 167 #[.val (.int p0), .val (.int p1), .val (.int p2), .val (.int p3), .val (.int p4), .val (.int p5), .val (.int (1 : Int32)), .val (.long s0), .second, .val (.long s1), .second, .val (.long s2), .second, .val (.ref b1), .val (.int K), .val (.int fi), .val (.int la), .val (.ref b4), .val (.int (0 : Int32)), .unset, .unset, .unset] [(.int (1 : Int32)), (.int la)])
    refine Go.step (fun _ k => XS.iload X6.here hx rfl (hb hby at_167) rfl k) ?_
    show Go _ _ _ _ _ _ _ T6 (mkF m 169 #[.val (.int p0), .val (.int p1), .val (.int p2), .val (.int p3), .val (.int p4), .val (.int p5), .val (.int (1 : Int32)), .val (.long s0), .second, .val (.long s1), .second, .val (.long s2), .second, .val (.ref b1), .val (.int K), .val (.int fi), .val (.int la), .val (.ref b4), .val (.int (0 : Int32)), .unset, .unset, .unset] [(.int K), (.int (1 : Int32)), (.int la)])
    refine Go.callS X6 hx hZ (by rw [hml]; rfl) (y := (⟨"tidewatch/decision/KeyGroupCeilingAtMostPinLaw", "ownerRef", "(III)I"⟩ : MethodName)) (argsL := [(.int la), (.int (1 : Int32)), (.int K)]) (rest := []) hown (hw _ (List.mem_of_getElem? (i := 39) rfl)) (hw _ (List.mem_of_getElem? (i := 40) rfl)) (hw _ (List.mem_of_getElem? (i := 41) rfl)) (hw _ (List.mem_of_getElem? (i := 42) rfl)) (by decide) (rm6_1 l Z a0 hw la K T5.heap n0 (Nat.le_trans Z0 (KK5 : Keep h0 T5.heap []).1)) hh6 (hb hby at_169) (lenOf pd_5 rfl) rfl rfl (W := 0) (Nat.le_of_eq rfl) (by decide) (by decide) (by decide) (by decide) ?_
    intro v7 T7 L7 X7 Q7
    rw [ho2.1] at Q7
    obtain ⟨rfl, N7q, hh7⟩ := Q7
    have N7 := Fr.app N6 N7q
    show Go _ _ _ _ _ _ _ T7 (mkF m 172 #[.val (.int p0), .val (.int p1), .val (.int p2), .val (.int p3), .val (.int p4), .val (.int p5), .val (.int (1 : Int32)), .val (.long s0), .second, .val (.long s1), .second, .val (.long s2), .second, .val (.ref b1), .val (.int K), .val (.int fi), .val (.int la), .val (.ref b4), .val (.int (0 : Int32)), .unset, .unset, .unset] [(.int (0 : Int32))])
    refine Go.step (fun _ k => XS.istore X7.here hx rfl (hb hby at_172) rfl (l' := #[.val (.int p0), .val (.int p1), .val (.int p2), .val (.int p3), .val (.int p4), .val (.int p5), .val (.int (1 : Int32)), .val (.long s0), .second, .val (.long s1), .second, .val (.long s2), .second, .val (.ref b1), .val (.int K), .val (.int fi), .val (.int la), .val (.ref b4), .val (.int (0 : Int32)), .val (.int (0 : Int32)), .unset, .unset]) rfl k) ?_
    show Go _ _ _ _ _ _ _ T7 (mkF m 174 #[.val (.int p0), .val (.int p1), .val (.int p2), .val (.int p3), .val (.int p4), .val (.int p5), .val (.int (1 : Int32)), .val (.long s0), .second, .val (.long s1), .second, .val (.long s2), .second, .val (.ref b1), .val (.int K), .val (.int fi), .val (.int la), .val (.ref b4), .val (.int (0 : Int32)), .val (.int (0 : Int32)), .unset, .unset] [])
    refine Go.step (fun _ k => XS.lconst X7.here hx rfl (hb hby at_174) k) ?_
    show Go _ _ _ _ _ _ _ T7 (mkF m 175 #[.val (.int p0), .val (.int p1), .val (.int p2), .val (.int p3), .val (.int p4), .val (.int p5), .val (.int (1 : Int32)), .val (.long s0), .second, .val (.long s1), .second, .val (.long s2), .second, .val (.ref b1), .val (.int K), .val (.int fi), .val (.int la), .val (.ref b4), .val (.int (0 : Int32)), .val (.int (0 : Int32)), .unset, .unset] [(.long (0 : Int64))])
    refine Go.step (fun _ k => XS.lstore X7.here hx rfl (hb hby at_175) rfl (l' := #[.val (.int p0), .val (.int p1), .val (.int p2), .val (.int p3), .val (.int p4), .val (.int p5), .val (.int (1 : Int32)), .val (.long s0), .second, .val (.long s1), .second, .val (.long s2), .second, .val (.ref b1), .val (.int K), .val (.int fi), .val (.int la), .val (.ref b4), .val (.int (0 : Int32)), .val (.int (0 : Int32)), .val (.long (0 : Int64)), .second]) rfl k) ?_
    show Go _ _ _ _ _ _ _ T7 (mkF m 177 #[.val (.int p0), .val (.int p1), .val (.int p2), .val (.int p3), .val (.int p4), .val (.int p5), .val (.int (1 : Int32)), .val (.long s0), .second, .val (.long s1), .second, .val (.long s2), .second, .val (.ref b1), .val (.int K), .val (.int fi), .val (.int la), .val (.ref b4), .val (.int (0 : Int32)), .val (.int (0 : Int32)), .val (.long (0 : Int64)), .second] [])
    refine Go.step (fun _ k => XS.iload X7.here hx rfl (hb hby at_177) rfl k) ?_
    show Go _ _ _ _ _ _ _ T7 (mkF m 179 #[.val (.int p0), .val (.int p1), .val (.int p2), .val (.int p3), .val (.int p4), .val (.int p5), .val (.int (1 : Int32)), .val (.long s0), .second, .val (.long s1), .second, .val (.long s2), .second, .val (.ref b1), .val (.int K), .val (.int fi), .val (.int la), .val (.ref b4), .val (.int (0 : Int32)), .val (.int (0 : Int32)), .val (.long (0 : Int64)), .second] [(.int (0 : Int32))])
    refine Go.step (fun _ k => XS.ifNo X7.here hx rfl (hb hby at_179) rfl ((if0 _ _).trans (flt (by decide : ¬ ((0 : Int32) < (0 : Int32)))).2.2.1) k) ?_
    show Go _ _ _ _ _ _ _ T7 (mkF m 182 #[.val (.int p0), .val (.int p1), .val (.int p2), .val (.int p3), .val (.int p4), .val (.int p5), .val (.int (1 : Int32)), .val (.long s0), .second, .val (.long s1), .second, .val (.long s2), .second, .val (.ref b1), .val (.int K), .val (.int fi), .val (.int la), .val (.ref b4), .val (.int (0 : Int32)), .val (.int (0 : Int32)), .val (.long (0 : Int64)), .second] [])
    refine Go.step (fun _ k => XS.lload X7.here hx rfl (hb hby at_182) rfl k) ?_
    show Go _ _ _ _ _ _ _ T7 (mkF m 184 #[.val (.int p0), .val (.int p1), .val (.int p2), .val (.int p3), .val (.int p4), .val (.int p5), .val (.int (1 : Int32)), .val (.long s0), .second, .val (.long s1), .second, .val (.long s2), .second, .val (.ref b1), .val (.int K), .val (.int fi), .val (.int la), .val (.ref b4), .val (.int (0 : Int32)), .val (.int (0 : Int32)), .val (.long (0 : Int64)), .second] [(.long (0 : Int64))])
    refine Go.step (fun _ k => XS.lload X7.here hx rfl (hb hby at_184) rfl k) ?_
    show Go _ _ _ _ _ _ _ T7 (mkF m 186 #[.val (.int p0), .val (.int p1), .val (.int p2), .val (.int p3), .val (.int p4), .val (.int p5), .val (.int (1 : Int32)), .val (.long s0), .second, .val (.long s1), .second, .val (.long s2), .second, .val (.ref b1), .val (.int K), .val (.int fi), .val (.int la), .val (.ref b4), .val (.int (0 : Int32)), .val (.int (0 : Int32)), .val (.long (0 : Int64)), .second] [(.long s0), (.long (0 : Int64))])
    refine Go.step (fun _ k => XS.ladd X7.here hx rfl (hb hby at_186) rfl k) ?_
    show Go _ _ _ _ _ _ _ T7 (mkF m 187 #[.val (.int p0), .val (.int p1), .val (.int p2), .val (.int p3), .val (.int p4), .val (.int p5), .val (.int (1 : Int32)), .val (.long s0), .second, .val (.long s1), .second, .val (.long s2), .second, .val (.ref b1), .val (.int K), .val (.int fi), .val (.int la), .val (.ref b4), .val (.int (0 : Int32)), .val (.int (0 : Int32)), .val (.long (0 : Int64)), .second] [(.long ((0 : Int64) + s0))])
    refine Go.step (fun _ k => XS.lstore X7.here hx rfl (hb hby at_187) rfl (l' := #[.val (.int p0), .val (.int p1), .val (.int p2), .val (.int p3), .val (.int p4), .val (.int p5), .val (.int (1 : Int32)), .val (.long s0), .second, .val (.long s1), .second, .val (.long s2), .second, .val (.ref b1), .val (.int K), .val (.int fi), .val (.int la), .val (.ref b4), .val (.int (0 : Int32)), .val (.int (0 : Int32)), .val (.long ((0 : Int64) + s0)), .second]) rfl k) ?_
    show Go _ _ _ _ _ _ _ T7 (mkF m 189 #[.val (.int p0), .val (.int p1), .val (.int p2), .val (.int p3), .val (.int p4), .val (.int p5), .val (.int (1 : Int32)), .val (.long s0), .second, .val (.long s1), .second, .val (.long s2), .second, .val (.ref b1), .val (.int K), .val (.int fi), .val (.int la), .val (.ref b4), .val (.int (0 : Int32)), .val (.int (0 : Int32)), .val (.long ((0 : Int64) + s0)), .second] [])
    refine Go.step (fun _ k => XS.iload X7.here hx rfl (hb hby at_189) rfl k) ?_
    show Go _ _ _ _ _ _ _ T7 (mkF m 191 #[.val (.int p0), .val (.int p1), .val (.int p2), .val (.int p3), .val (.int p4), .val (.int p5), .val (.int (1 : Int32)), .val (.long s0), .second, .val (.long s1), .second, .val (.long s2), .second, .val (.ref b1), .val (.int K), .val (.int fi), .val (.int la), .val (.ref b4), .val (.int (0 : Int32)), .val (.int (0 : Int32)), .val (.long ((0 : Int64) + s0)), .second] [(.int (0 : Int32))])
    refine Go.step (fun _ k => XS.iconst X7.here hx rfl (hb hby at_191) k) ?_
    show Go _ _ _ _ _ _ _ T7 (mkF m 192 #[.val (.int p0), .val (.int p1), .val (.int p2), .val (.int p3), .val (.int p4), .val (.int p5), .val (.int (1 : Int32)), .val (.long s0), .second, .val (.long s1), .second, .val (.long s2), .second, .val (.ref b1), .val (.int K), .val (.int fi), .val (.int la), .val (.ref b4), .val (.int (0 : Int32)), .val (.int (0 : Int32)), .val (.long ((0 : Int64) + s0)), .second] [(.int (1 : Int32)), (.int (0 : Int32))])
    refine Go.step (fun _ k => XS.icmpNo X7.here hx rfl (hb hby at_192) rfl (flt (by decide : ¬ ((1 : Int32) < (0 : Int32)))).2.2.1 k) ?_
    show Go _ _ _ _ _ _ _ T7 (mkF m 195 #[.val (.int p0), .val (.int p1), .val (.int p2), .val (.int p3), .val (.int p4), .val (.int p5), .val (.int (1 : Int32)), .val (.long s0), .second, .val (.long s1), .second, .val (.long s2), .second, .val (.ref b1), .val (.int K), .val (.int fi), .val (.int la), .val (.ref b4), .val (.int (0 : Int32)), .val (.int (0 : Int32)), .val (.long ((0 : Int64) + s0)), .second] [])
    refine Go.step (fun _ k => XS.iload X7.here hx rfl (hb hby at_195) rfl k) ?_
    show Go _ _ _ _ _ _ _ T7 (mkF m 197 #[.val (.int p0), .val (.int p1), .val (.int p2), .val (.int p3), .val (.int p4), .val (.int p5), .val (.int (1 : Int32)), .val (.long s0), .second, .val (.long s1), .second, .val (.long s2), .second, .val (.ref b1), .val (.int K), .val (.int fi), .val (.int la), .val (.ref b4), .val (.int (0 : Int32)), .val (.int (0 : Int32)), .val (.long ((0 : Int64) + s0)), .second] [(.int (0 : Int32))])
    refine Go.step (fun _ k => XS.iconst X7.here hx rfl (hb hby at_197) k) ?_
    show Go _ _ _ _ _ _ _ T7 (mkF m 198 #[.val (.int p0), .val (.int p1), .val (.int p2), .val (.int p3), .val (.int p4), .val (.int p5), .val (.int (1 : Int32)), .val (.long s0), .second, .val (.long s1), .second, .val (.long s2), .second, .val (.ref b1), .val (.int K), .val (.int fi), .val (.int la), .val (.ref b4), .val (.int (0 : Int32)), .val (.int (0 : Int32)), .val (.long ((0 : Int64) + s0)), .second] [(.int (1 : Int32)), (.int (0 : Int32))])
    refine Go.step (fun _ k => XS.icmpYes X7.here hx rfl (pc0 := 198) (pc' := 208) rfl (hb hby at_198) rfl (tlt (by decide : (0 : Int32) < (1 : Int32))).1 (by decide) (by decide) k) ?_
    show Go _ _ _ _ _ _ _ T7 (mkF m 208 #[.val (.int p0), .val (.int p1), .val (.int p2), .val (.int p3), .val (.int p4), .val (.int p5), .val (.int (1 : Int32)), .val (.long s0), .second, .val (.long s1), .second, .val (.long s2), .second, .val (.ref b1), .val (.int K), .val (.int fi), .val (.int la), .val (.ref b4), .val (.int (0 : Int32)), .val (.int (0 : Int32)), .val (.long ((0 : Int64) + s0)), .second] [])
    refine Go.step (fun _ k => XS.iload X7.here hx rfl (hb hby at_208) rfl k) ?_
    show Go _ _ _ _ _ _ _ T7 (mkF m 210 #[.val (.int p0), .val (.int p1), .val (.int p2), .val (.int p3), .val (.int p4), .val (.int p5), .val (.int (1 : Int32)), .val (.long s0), .second, .val (.long s1), .second, .val (.long s2), .second, .val (.ref b1), .val (.int K), .val (.int fi), .val (.int la), .val (.ref b4), .val (.int (0 : Int32)), .val (.int (0 : Int32)), .val (.long ((0 : Int64) + s0)), .second] [(.int (0 : Int32))])
    refine Go.step (fun _ k => XS.iconst X7.here hx rfl (hb hby at_210) k) ?_
    show Go _ _ _ _ _ _ _ T7 (mkF m 211 #[.val (.int p0), .val (.int p1), .val (.int p2), .val (.int p3), .val (.int p4), .val (.int p5), .val (.int (1 : Int32)), .val (.long s0), .second, .val (.long s1), .second, .val (.long s2), .second, .val (.ref b1), .val (.int K), .val (.int fi), .val (.int la), .val (.ref b4), .val (.int (0 : Int32)), .val (.int (0 : Int32)), .val (.long ((0 : Int64) + s0)), .second] [(.int (2 : Int32)), (.int (0 : Int32))])
    refine Go.step (fun _ k => XS.icmpNo X7.here hx rfl (hb hby at_211) rfl (flt (by decide : ¬ ((2 : Int32) < (0 : Int32)))).2.2.1 k) ?_
    show Go _ _ _ _ _ _ _ T7 (mkF m 214 #[.val (.int p0), .val (.int p1), .val (.int p2), .val (.int p3), .val (.int p4), .val (.int p5), .val (.int (1 : Int32)), .val (.long s0), .second, .val (.long s1), .second, .val (.long s2), .second, .val (.ref b1), .val (.int K), .val (.int fi), .val (.int la), .val (.ref b4), .val (.int (0 : Int32)), .val (.int (0 : Int32)), .val (.long ((0 : Int64) + s0)), .second] [])
    refine Go.step (fun _ k => XS.iload X7.here hx rfl (hb hby at_214) rfl k) ?_
    show Go _ _ _ _ _ _ _ T7 (mkF m 216 #[.val (.int p0), .val (.int p1), .val (.int p2), .val (.int p3), .val (.int p4), .val (.int p5), .val (.int (1 : Int32)), .val (.long s0), .second, .val (.long s1), .second, .val (.long s2), .second, .val (.ref b1), .val (.int K), .val (.int fi), .val (.int la), .val (.ref b4), .val (.int (0 : Int32)), .val (.int (0 : Int32)), .val (.long ((0 : Int64) + s0)), .second] [(.int (0 : Int32))])
    refine Go.step (fun _ k => XS.iconst X7.here hx rfl (hb hby at_216) k) ?_
    show Go _ _ _ _ _ _ _ T7 (mkF m 217 #[.val (.int p0), .val (.int p1), .val (.int p2), .val (.int p3), .val (.int p4), .val (.int p5), .val (.int (1 : Int32)), .val (.long s0), .second, .val (.long s1), .second, .val (.long s2), .second, .val (.ref b1), .val (.int K), .val (.int fi), .val (.int la), .val (.ref b4), .val (.int (0 : Int32)), .val (.int (0 : Int32)), .val (.long ((0 : Int64) + s0)), .second] [(.int (2 : Int32)), (.int (0 : Int32))])
    refine Go.step (fun _ k => XS.icmpYes X7.here hx rfl (pc0 := 217) (pc' := 227) rfl (hb hby at_217) rfl (tlt (by decide : (0 : Int32) < (2 : Int32))).1 (by decide) (by decide) k) ?_
    have hAt : FP.dcmp (FP.dsub ((updN (fun _ => (0 : UInt64)) 1 (FP.dadd (0 : UInt64) ((updN (fun _ => (0 : UInt64)) 0 (FP.l2d s0)) 0))) 1) ((updN (fun _ => (0 : UInt64)) 1 (FP.dadd (0 : UInt64) ((updN (fun _ => (0 : UInt64)) 0 (FP.l2d s0)) 0))) 0)) (FP.l2d ((0 : Int64) + s0)) = some .eq := by
      have t0 := hs0.1; have t1 := hs0.2; have t2 := hs1.1; have t3 := hs1.2; have t4 := hs2.1; have t5 := hs2.2
      have e1 := own_sum (a := s0) (b := s1) t0 (by omega) hs1
      have e2 := own_sum (a := s0 + s1) (b := s2) (by omega) (by omega) hs2
      have hd : s0 - (0 : Int64) = ((0 : Int64) + s0) := own_eq64 (by
        have := c_ladd s0 s1
        have := c_ladd (s0 + s1) s2
        have := c_ladd (0 : Int64) s0
        have := c_lsub s0 (0 : Int64)
        have : (0 : Int64).toInt = 0 := rfl
        omega)
      exact own_at (a := s0) (b := (0 : Int64)) (own_d1 hs0) l2d_zero.symm (by first | omega | decide) (by first | omega | decide) (by first | omega | decide) (by first | omega | decide) hd
    show Go _ _ _ _ _ _ _ T7 (mkF m 227 #[.val (.int p0), .val (.int p1), .val (.int p2), .val (.int p3), .val (.int p4), .val (.int p5), .val (.int (1 : Int32)), .val (.long s0), .second, .val (.long s1), .second, .val (.long s2), .second, .val (.ref b1), .val (.int K), .val (.int fi), .val (.int la), .val (.ref b4), .val (.int (0 : Int32)), .val (.int (0 : Int32)), .val (.long ((0 : Int64) + s0)), .second] [])
    refine Go.step (fun _ k => XS.aload X7.here hx rfl (hb hby at_227) rfl rfl k) ?_
    show Go _ _ _ _ _ _ _ T7 (mkF m 229 #[.val (.int p0), .val (.int p1), .val (.int p2), .val (.int p3), .val (.int p4), .val (.int p5), .val (.int (1 : Int32)), .val (.long s0), .second, .val (.long s1), .second, .val (.long s2), .second, .val (.ref b1), .val (.int K), .val (.int fi), .val (.int la), .val (.ref b4), .val (.int (0 : Int32)), .val (.int (0 : Int32)), .val (.long ((0 : Int64) + s0)), .second] [(.ref b4)])
    refine Go.step (fun _ k => XS.iload X7.here hx rfl (hb hby at_229) rfl k) ?_
    show Go _ _ _ _ _ _ _ T7 (mkF m 231 #[.val (.int p0), .val (.int p1), .val (.int p2), .val (.int p3), .val (.int p4), .val (.int p5), .val (.int (1 : Int32)), .val (.long s0), .second, .val (.long s1), .second, .val (.long s2), .second, .val (.ref b1), .val (.int K), .val (.int fi), .val (.int la), .val (.ref b4), .val (.int (0 : Int32)), .val (.int (0 : Int32)), .val (.long ((0 : Int64) + s0)), .second] [(.int fi), (.ref b4)])
    refine Go.step (fun _ k => XS.iload X7.here hx rfl (hb hby at_231) rfl k) ?_
    show Go _ _ _ _ _ _ _ T7 (mkF m 233 #[.val (.int p0), .val (.int p1), .val (.int p2), .val (.int p3), .val (.int p4), .val (.int p5), .val (.int (1 : Int32)), .val (.long s0), .second, .val (.long s1), .second, .val (.long s2), .second, .val (.ref b1), .val (.int K), .val (.int fi), .val (.int la), .val (.ref b4), .val (.int (0 : Int32)), .val (.int (0 : Int32)), .val (.long ((0 : Int64) + s0)), .second] [(.int la), (.int fi), (.ref b4)])
    refine Go.callV X7 hx hZ (by rw [hml]; rfl) (y := (⟨"tidewatch/decision/KeyGroupCeiling", "atMost", "(II)D"⟩ : MethodName)) (z := (⟨"tidewatch/decision/KeyGroupCeiling", "atMost", "(II)D"⟩ : MethodName)) (a := b4) (argsL := [(.int fi), (.int la)]) (rest := []) hown (hw _ (List.mem_of_getElem? (i := 44) rfl)) (hw _ (List.mem_of_getElem? (i := 45) rfl)) (notFace_of_selects (args := #[]) (mvT hZ (hw _ (List.mem_of_getElem? (i := 47) rfl)))) (hw _ (List.mem_of_getElem? (i := 47) rfl)) (hw _ (List.mem_of_getElem? (i := 46) rfl)) (hw _ (List.mem_of_getElem? (i := 9) rfl)) (hw _ (List.mem_of_getElem? (i := 48) rfl)) (by decide) (rm7_100 l Z a0 hw b4 fi la c5 d5 K (updN (fun _ => (0 : UInt64)) 0 (FP.l2d s0)) (updN (fun _ => (0 : UInt64)) 1 (FP.dadd (0 : UInt64) ((updN (fun _ => (0 : UInt64)) 0 (FP.l2d s0)) 0))) T5.heap n0 (Nat.le_trans Z0 (KK5 : Keep h0 T5.heap []).1) Ec5 Fk5 Fc5 Vc5 Fd5 Vd5 hK.2 ho1.2 ho2.2 (own_nnN (Jvm.FP.Core.dcmp_some hAt).1)) hh7 Ec5 (hb hby at_233) (lenOf pd_6 rfl) rfl rfl (W := 0) (Nat.le_of_eq rfl) (by decide) (by decide) (by decide) (by decide) ?_
    intro v8 T8 L8 X8 Q8
    obtain ⟨rfl, N8q, hh8⟩ := Q8
    have N8 := Fr.app N7 N8q
    show Go _ _ _ _ _ _ _ T8 (mkF m 236 #[.val (.int p0), .val (.int p1), .val (.int p2), .val (.int p3), .val (.int p4), .val (.int p5), .val (.int (1 : Int32)), .val (.long s0), .second, .val (.long s1), .second, .val (.long s2), .second, .val (.ref b1), .val (.int K), .val (.int fi), .val (.int la), .val (.ref b4), .val (.int (0 : Int32)), .val (.int (0 : Int32)), .val (.long ((0 : Int64) + s0)), .second] [(.double (FP.dsub ((updN (fun _ => (0 : UInt64)) 1 (FP.dadd (0 : UInt64) ((updN (fun _ => (0 : UInt64)) 0 (FP.l2d s0)) 0))) 1) ((updN (fun _ => (0 : UInt64)) 1 (FP.dadd (0 : UInt64) ((updN (fun _ => (0 : UInt64)) 0 (FP.l2d s0)) 0))) 0)))])
    refine Go.step (fun _ k => XS.lload X8.here hx rfl (hb hby at_236) rfl k) ?_
    show Go _ _ _ _ _ _ _ T8 (mkF m 238 #[.val (.int p0), .val (.int p1), .val (.int p2), .val (.int p3), .val (.int p4), .val (.int p5), .val (.int (1 : Int32)), .val (.long s0), .second, .val (.long s1), .second, .val (.long s2), .second, .val (.ref b1), .val (.int K), .val (.int fi), .val (.int la), .val (.ref b4), .val (.int (0 : Int32)), .val (.int (0 : Int32)), .val (.long ((0 : Int64) + s0)), .second] [(.long ((0 : Int64) + s0)), (.double (FP.dsub ((updN (fun _ => (0 : UInt64)) 1 (FP.dadd (0 : UInt64) ((updN (fun _ => (0 : UInt64)) 0 (FP.l2d s0)) 0))) 1) ((updN (fun _ => (0 : UInt64)) 1 (FP.dadd (0 : UInt64) ((updN (fun _ => (0 : UInt64)) 0 (FP.l2d s0)) 0))) 0)))])
    refine Go.step (fun _ k => XS.l2dS X8.here hx rfl (hb hby at_238) rfl rfl k) ?_
    show Go _ _ _ _ _ _ _ T8 (mkF m 239 #[.val (.int p0), .val (.int p1), .val (.int p2), .val (.int p3), .val (.int p4), .val (.int p5), .val (.int (1 : Int32)), .val (.long s0), .second, .val (.long s1), .second, .val (.long s2), .second, .val (.ref b1), .val (.int K), .val (.int fi), .val (.int la), .val (.ref b4), .val (.int (0 : Int32)), .val (.int (0 : Int32)), .val (.long ((0 : Int64) + s0)), .second] [(.double (FP.l2d ((0 : Int64) + s0))), (.double (FP.dsub ((updN (fun _ => (0 : UInt64)) 1 (FP.dadd (0 : UInt64) ((updN (fun _ => (0 : UInt64)) 0 (FP.l2d s0)) 0))) 1) ((updN (fun _ => (0 : UInt64)) 1 (FP.dadd (0 : UInt64) ((updN (fun _ => (0 : UInt64)) 0 (FP.l2d s0)) 0))) 0)))])
    refine Go.step (fun _ k => XS.dcmpS X8.here hx rfl (hb hby at_239) rfl rfl k) ?_
    show Go _ _ _ _ _ _ _ T8 (mkF m 240 #[.val (.int p0), .val (.int p1), .val (.int p2), .val (.int p3), .val (.int p4), .val (.int p5), .val (.int (1 : Int32)), .val (.long s0), .second, .val (.long s1), .second, .val (.long s2), .second, .val (.ref b1), .val (.int K), .val (.int fi), .val (.int la), .val (.ref b4), .val (.int (0 : Int32)), .val (.int (0 : Int32)), .val (.long ((0 : Int64) + s0)), .second] [(.int (cmpValue (FP.dcmp (FP.dsub ((updN (fun _ => (0 : UInt64)) 1 (FP.dadd (0 : UInt64) ((updN (fun _ => (0 : UInt64)) 0 (FP.l2d s0)) 0))) 1) ((updN (fun _ => (0 : UInt64)) 1 (FP.dadd (0 : UInt64) ((updN (fun _ => (0 : UInt64)) 0 (FP.l2d s0)) 0))) 0)) (FP.l2d ((0 : Int64) + s0))) .l))])
    refine Go.step (fun _ k => XS.ifNo X8.here hx rfl (hb hby at_240) rfl (eq_y .l hAt).1 k) ?_
    show Go _ _ _ _ _ _ _ T8 (mkF m 243 #[.val (.int p0), .val (.int p1), .val (.int p2), .val (.int p3), .val (.int p4), .val (.int p5), .val (.int (1 : Int32)), .val (.long s0), .second, .val (.long s1), .second, .val (.long s2), .second, .val (.ref b1), .val (.int K), .val (.int fi), .val (.int la), .val (.ref b4), .val (.int (0 : Int32)), .val (.int (0 : Int32)), .val (.long ((0 : Int64) + s0)), .second] [])
    refine Go.step (fun _ k => XS.iconst X8.here hx rfl (hb hby at_243) k) ?_
    show Go _ _ _ _ _ _ _ T8 (mkF m 244 #[.val (.int p0), .val (.int p1), .val (.int p2), .val (.int p3), .val (.int p4), .val (.int p5), .val (.int (1 : Int32)), .val (.long s0), .second, .val (.long s1), .second, .val (.long s2), .second, .val (.ref b1), .val (.int K), .val (.int fi), .val (.int la), .val (.ref b4), .val (.int (0 : Int32)), .val (.int (0 : Int32)), .val (.long ((0 : Int64) + s0)), .second] [(.int (1 : Int32))])
    refine Go.step (fun _ k => XS.goto X8.here hx rfl (pc0 := 244) (pc' := 248) rfl (hb hby at_244) (by decide) (by decide) k) ?_
    show Go _ _ _ _ _ _ _ T8 (mkF m 248 #[.val (.int p0), .val (.int p1), .val (.int p2), .val (.int p3), .val (.int p4), .val (.int p5), .val (.int (1 : Int32)), .val (.long s0), .second, .val (.long s1), .second, .val (.long s2), .second, .val (.ref b1), .val (.int K), .val (.int fi), .val (.int la), .val (.ref b4), .val (.int (0 : Int32)), .val (.int (0 : Int32)), .val (.long ((0 : Int64) + s0)), .second] [(.int (1 : Int32))])
    refine Go.retZ X8 hx hlk hret (by decide) (hb hby at_248) (by decide) (by decide) ?_
    try rw [hh8]
    exact ⟨rfl, N8⟩
  · show Go _ _ _ _ _ _ _ T0 (mkF m 35 #[.val (.int p0), .val (.int p1), .val (.int p2), .val (.int p3), .val (.int p4), .val (.int p5), .val (.int (2 : Int32)), .val (.long s0), .second, .val (.long s1), .second, .val (.long s2), .second, .unset, .unset, .unset, .unset, .unset, .unset, .unset, .unset, .unset] [])
    refine Go.step (fun _ k => XS.iload X0.here hx rfl (hb hby at_35) rfl k) ?_
    show Go _ _ _ _ _ _ _ T0 (mkF m 37 #[.val (.int p0), .val (.int p1), .val (.int p2), .val (.int p3), .val (.int p4), .val (.int p5), .val (.int (2 : Int32)), .val (.long s0), .second, .val (.long s1), .second, .val (.long s2), .second, .unset, .unset, .unset, .unset, .unset, .unset, .unset, .unset, .unset] [(.int (2 : Int32))])
    refine Go.step (fun _ k => XS.iconst X0.here hx rfl (hb hby at_37) k) ?_
    show Go _ _ _ _ _ _ _ T0 (mkF m 38 #[.val (.int p0), .val (.int p1), .val (.int p2), .val (.int p3), .val (.int p4), .val (.int p5), .val (.int (2 : Int32)), .val (.long s0), .second, .val (.long s1), .second, .val (.long s2), .second, .unset, .unset, .unset, .unset, .unset, .unset, .unset, .unset, .unset] [(.int (1 : Int32)), (.int (2 : Int32))])
    refine Go.step (fun _ k => XS.icmpYes X0.here hx rfl (pc0 := 38) (pc' := 55) rfl (hb hby at_38) rfl (feq (by decide : ¬ ((2 : Int32) = (1 : Int32)))).2 (by decide) (by decide) k) ?_
    show Go _ _ _ _ _ _ _ T0 (mkF m 55 #[.val (.int p0), .val (.int p1), .val (.int p2), .val (.int p3), .val (.int p4), .val (.int p5), .val (.int (2 : Int32)), .val (.long s0), .second, .val (.long s1), .second, .val (.long s2), .second, .unset, .unset, .unset, .unset, .unset, .unset, .unset, .unset, .unset] [])
    refine Go.step (fun _ k => XS.iload X0.here hx rfl (hb hby at_55) rfl k) ?_
    show Go _ _ _ _ _ _ _ T0 (mkF m 57 #[.val (.int p0), .val (.int p1), .val (.int p2), .val (.int p3), .val (.int p4), .val (.int p5), .val (.int (2 : Int32)), .val (.long s0), .second, .val (.long s1), .second, .val (.long s2), .second, .unset, .unset, .unset, .unset, .unset, .unset, .unset, .unset, .unset] [(.int (2 : Int32))])
    refine Go.step (fun _ k => XS.iconst X0.here hx rfl (hb hby at_57) k) ?_
    show Go _ _ _ _ _ _ _ T0 (mkF m 58 #[.val (.int p0), .val (.int p1), .val (.int p2), .val (.int p3), .val (.int p4), .val (.int p5), .val (.int (2 : Int32)), .val (.long s0), .second, .val (.long s1), .second, .val (.long s2), .second, .unset, .unset, .unset, .unset, .unset, .unset, .unset, .unset, .unset] [(.int (2 : Int32)), (.int (2 : Int32))])
    refine Go.step (fun _ k => XS.icmpNo X0.here hx rfl (hb hby at_58) rfl (teq (by decide : (2 : Int32) = (2 : Int32))).2 k) ?_
    show Go _ _ _ _ _ _ _ T0 (mkF m 61 #[.val (.int p0), .val (.int p1), .val (.int p2), .val (.int p3), .val (.int p4), .val (.int p5), .val (.int (2 : Int32)), .val (.long s0), .second, .val (.long s1), .second, .val (.long s2), .second, .unset, .unset, .unset, .unset, .unset, .unset, .unset, .unset, .unset] [])
    refine Go.step (fun _ k => XS.iconst X0.here hx rfl (hb hby at_61) k) ?_
    show Go _ _ _ _ _ _ _ T0 (mkF m 62 #[.val (.int p0), .val (.int p1), .val (.int p2), .val (.int p3), .val (.int p4), .val (.int p5), .val (.int (2 : Int32)), .val (.long s0), .second, .val (.long s1), .second, .val (.long s2), .second, .unset, .unset, .unset, .unset, .unset, .unset, .unset, .unset, .unset] [(.int (2 : Int32))])
    obtain ⟨T9, h9, k9, X9, e9, E9, A9, B9, st9⟩ := newPE X0 hx hZ (hw _ (List.mem_of_getElem? (i := 2) rfl)) e0 (g := (mkF m 62 #[.val (.int p0), .val (.int p1), .val (.int p2), .val (.int p3), .val (.int p4), .val (.int p5), .val (.int (2 : Int32)), .val (.long s0), .second, .val (.long s1), .second, .val (.long s2), .second, .unset, .unset, .unset, .unset, .unset, .unset, .unset, .unset, .unset] [(.int (2 : Int32))])) rfl (hb hby at_62) rfl (by decide) (cap := 2) (by decide) (by decide) (by decide) (by decide) (ad := "[D") (by decide)
    obtain ⟨b9, g9⟩ : ∃ z, z = h0.size := ⟨_, rfl⟩
    rw [← g9] at A9 B9 st9
    refine Go.step st9 ?_
    have K9 : Keep h0 h9 [] := (Keep.refl h0 []).ext E9
    have sz_b9 : h0.size ≤ b9 := Nat.le_trans ((Keep.refl h0 []) : Keep h0 h0 []).1 (Nat.le_of_eq g9.symm)
    have ge_b9 : n0 ≤ b9 := Nat.le_trans Z0 sz_b9
    have V_b9 : Dv Z h9 b9 (2 : Int32) (fun _ => (0 : UInt64)) := Fv.new A9 (by decide)
    have E_b9 := B9
    show Go _ _ _ _ _ _ _ T9 (mkF m 64 #[.val (.int p0), .val (.int p1), .val (.int p2), .val (.int p3), .val (.int p4), .val (.int p5), .val (.int (2 : Int32)), .val (.long s0), .second, .val (.long s1), .second, .val (.long s2), .second, .unset, .unset, .unset, .unset, .unset, .unset, .unset, .unset, .unset] [(.ref b9)])
    refine Go.step (fun _ k => XS.dup X9.here hx rfl (hb hby at_64) rfl rfl k) ?_
    show Go _ _ _ _ _ _ _ T9 (mkF m 65 #[.val (.int p0), .val (.int p1), .val (.int p2), .val (.int p3), .val (.int p4), .val (.int p5), .val (.int (2 : Int32)), .val (.long s0), .second, .val (.long s1), .second, .val (.long s2), .second, .unset, .unset, .unset, .unset, .unset, .unset, .unset, .unset, .unset] [(.ref b9), (.ref b9)])
    refine Go.step (fun _ k => XS.iconst X9.here hx rfl (hb hby at_65) k) ?_
    show Go _ _ _ _ _ _ _ T9 (mkF m 66 #[.val (.int p0), .val (.int p1), .val (.int p2), .val (.int p3), .val (.int p4), .val (.int p5), .val (.int (2 : Int32)), .val (.long s0), .second, .val (.long s1), .second, .val (.long s2), .second, .unset, .unset, .unset, .unset, .unset, .unset, .unset, .unset, .unset] [(.int (0 : Int32)), (.ref b9), (.ref b9)])
    refine Go.step (fun _ k => XS.lload X9.here hx rfl (hb hby at_66) rfl k) ?_
    show Go _ _ _ _ _ _ _ T9 (mkF m 68 #[.val (.int p0), .val (.int p1), .val (.int p2), .val (.int p3), .val (.int p4), .val (.int p5), .val (.int (2 : Int32)), .val (.long s0), .second, .val (.long s1), .second, .val (.long s2), .second, .unset, .unset, .unset, .unset, .unset, .unset, .unset, .unset, .unset] [(.long s0), (.int (0 : Int32)), (.ref b9), (.ref b9)])
    refine Go.step (fun _ k => XS.l2dS X9.here hx rfl (hb hby at_68) rfl rfl k) ?_
    show Go _ _ _ _ _ _ _ T9 (mkF m 69 #[.val (.int p0), .val (.int p1), .val (.int p2), .val (.int p3), .val (.int p4), .val (.int p5), .val (.int (2 : Int32)), .val (.long s0), .second, .val (.long s1), .second, .val (.long s2), .second, .unset, .unset, .unset, .unset, .unset, .unset, .unset, .unset, .unset] [(.double (FP.l2d s0)), (.int (0 : Int32)), (.ref b9), (.ref b9)])
    refine Go.dastore X9 hx hZ e9 V_b9 (j := (0 : Int32)) (x := (FP.l2d s0)) (by decide) (hb hby at_69) ?_
    intro T10 h10 X10 e10 W10 Vn10
    have V_b9_10 : Dv Z h10 b9 (2 : Int32) (updN (fun _ => (0 : UInt64)) 0 (FP.l2d s0)) := Vn10
    have N10 := Fr.snoc X10 N0 ge_b9
    have E_b9_10 := E_b9.wr W10
    have K10 : Keep h0 h10 [] := K9.wr W10 (Or.inr sz_b9)
    show Go _ _ _ _ _ _ _ T10 (mkF m 70 #[.val (.int p0), .val (.int p1), .val (.int p2), .val (.int p3), .val (.int p4), .val (.int p5), .val (.int (2 : Int32)), .val (.long s0), .second, .val (.long s1), .second, .val (.long s2), .second, .unset, .unset, .unset, .unset, .unset, .unset, .unset, .unset, .unset] [(.ref b9)])
    refine Go.step (fun _ k => XS.dup X10.here hx rfl (hb hby at_70) rfl rfl k) ?_
    show Go _ _ _ _ _ _ _ T10 (mkF m 71 #[.val (.int p0), .val (.int p1), .val (.int p2), .val (.int p3), .val (.int p4), .val (.int p5), .val (.int (2 : Int32)), .val (.long s0), .second, .val (.long s1), .second, .val (.long s2), .second, .unset, .unset, .unset, .unset, .unset, .unset, .unset, .unset, .unset] [(.ref b9), (.ref b9)])
    refine Go.step (fun _ k => XS.iconst X10.here hx rfl (hb hby at_71) k) ?_
    show Go _ _ _ _ _ _ _ T10 (mkF m 72 #[.val (.int p0), .val (.int p1), .val (.int p2), .val (.int p3), .val (.int p4), .val (.int p5), .val (.int (2 : Int32)), .val (.long s0), .second, .val (.long s1), .second, .val (.long s2), .second, .unset, .unset, .unset, .unset, .unset, .unset, .unset, .unset, .unset] [(.int (1 : Int32)), (.ref b9), (.ref b9)])
    refine Go.step (fun _ k => XS.lload X10.here hx rfl (hb hby at_72) rfl k) ?_
    show Go _ _ _ _ _ _ _ T10 (mkF m 74 #[.val (.int p0), .val (.int p1), .val (.int p2), .val (.int p3), .val (.int p4), .val (.int p5), .val (.int (2 : Int32)), .val (.long s0), .second, .val (.long s1), .second, .val (.long s2), .second, .unset, .unset, .unset, .unset, .unset, .unset, .unset, .unset, .unset] [(.long s1), (.int (1 : Int32)), (.ref b9), (.ref b9)])
    refine Go.step (fun _ k => XS.l2dS X10.here hx rfl (hb hby at_74) rfl rfl k) ?_
    show Go _ _ _ _ _ _ _ T10 (mkF m 75 #[.val (.int p0), .val (.int p1), .val (.int p2), .val (.int p3), .val (.int p4), .val (.int p5), .val (.int (2 : Int32)), .val (.long s0), .second, .val (.long s1), .second, .val (.long s2), .second, .unset, .unset, .unset, .unset, .unset, .unset, .unset, .unset, .unset] [(.double (FP.l2d s1)), (.int (1 : Int32)), (.ref b9), (.ref b9)])
    refine Go.dastore X10 hx hZ e10 V_b9_10 (j := (1 : Int32)) (x := (FP.l2d s1)) (by decide) (hb hby at_75) ?_
    intro T11 h11 X11 e11 W11 Vn11
    have V_b9_11 : Dv Z h11 b9 (2 : Int32) (updN (updN (fun _ => (0 : UInt64)) 0 (FP.l2d s0)) 1 (FP.l2d s1)) := Vn11
    have N11 := Fr.snoc X11 N10 ge_b9
    have E_b9_11 := E_b9_10.wr W11
    have K11 : Keep h0 h11 [] := K10.wr W11 (Or.inr sz_b9)
    show Go _ _ _ _ _ _ _ T11 (mkF m 76 #[.val (.int p0), .val (.int p1), .val (.int p2), .val (.int p3), .val (.int p4), .val (.int p5), .val (.int (2 : Int32)), .val (.long s0), .second, .val (.long s1), .second, .val (.long s2), .second, .unset, .unset, .unset, .unset, .unset, .unset, .unset, .unset, .unset] [(.ref b9)])
    refine Go.step (fun _ k => XS.astore X11.here hx rfl (hb hby at_76) rfl rfl (l' := #[.val (.int p0), .val (.int p1), .val (.int p2), .val (.int p3), .val (.int p4), .val (.int p5), .val (.int (2 : Int32)), .val (.long s0), .second, .val (.long s1), .second, .val (.long s2), .second, .val (.ref b9), .unset, .unset, .unset, .unset, .unset, .unset, .unset, .unset]) rfl k) ?_
    show Go _ _ _ _ _ _ _ T11 (mkF m 78 #[.val (.int p0), .val (.int p1), .val (.int p2), .val (.int p3), .val (.int p4), .val (.int p5), .val (.int (2 : Int32)), .val (.long s0), .second, .val (.long s1), .second, .val (.long s2), .second, .val (.ref b9), .unset, .unset, .unset, .unset, .unset, .unset, .unset, .unset] [])
    refine Go.step (fun _ k => XS.goto X11.here hx rfl (pc0 := 78) (pc' := 104) rfl (hb hby at_78) (by decide) (by decide) k) ?_
    show Go _ _ _ _ _ _ _ T11 (mkF m 104 #[.val (.int p0), .val (.int p1), .val (.int p2), .val (.int p3), .val (.int p4), .val (.int p5), .val (.int (2 : Int32)), .val (.long s0), .second, .val (.long s1), .second, .val (.long s2), .second, .val (.ref b9), .unset, .unset, .unset, .unset, .unset, .unset, .unset, .unset] [])
    refine Go.step (fun _ k => XS.iload X11.here hx rfl (hb hby at_104) rfl k) ?_
    show Go _ _ _ _ _ _ _ T11 (mkF m 106 #[.val (.int p0), .val (.int p1), .val (.int p2), .val (.int p3), .val (.int p4), .val (.int p5), .val (.int (2 : Int32)), .val (.long s0), .second, .val (.long s1), .second, .val (.long s2), .second, .val (.ref b9), .unset, .unset, .unset, .unset, .unset, .unset, .unset, .unset] [(.int (2 : Int32))])
    refine Go.step (fun _ k => XS.iloadN X11.here hx rfl (hb hby at_106) rfl k) ?_
    show Go _ _ _ _ _ _ _ T11 (mkF m 107 #[.val (.int p0), .val (.int p1), .val (.int p2), .val (.int p3), .val (.int p4), .val (.int p5), .val (.int (2 : Int32)), .val (.long s0), .second, .val (.long s1), .second, .val (.long s2), .second, .val (.ref b9), .unset, .unset, .unset, .unset, .unset, .unset, .unset, .unset] [(.int p1), (.int (2 : Int32))])
    refine Go.step (X11.ldcInt hx hown (mvT hZ (hw _ (List.mem_of_getElem? (i := 0) rfl))) (g := (mkF m 107 #[.val (.int p0), .val (.int p1), .val (.int p2), .val (.int p3), .val (.int p4), .val (.int p5), .val (.int (2 : Int32)), .val (.long s0), .second, .val (.long s1), .second, .val (.long s2), .second, .val (.ref b9), .unset, .unset, .unset, .unset, .unset, .unset, .unset, .unset] [(.int p1), (.int (2 : Int32))])) rfl (hb hby at_107)) ?_
    show Go _ _ _ _ _ _ _ T11 (mkF m 109 #[.val (.int p0), .val (.int p1), .val (.int p2), .val (.int p3), .val (.int p4), .val (.int p5), .val (.int (2 : Int32)), .val (.long s0), .second, .val (.long s1), .second, .val (.long s2), .second, .val (.ref b9), .unset, .unset, .unset, .unset, .unset, .unset, .unset, .unset] [(.int (2147483647 : Int32)), (.int p1), (.int (2 : Int32))])
    refine Go.step (fun _ k => XS.iand X11.here hx rfl (hb hby at_109) rfl k) ?_
    show Go _ _ _ _ _ _ _ T11 (mkF m 110 #[.val (.int p0), .val (.int p1), .val (.int p2), .val (.int p3), .val (.int p4), .val (.int p5), .val (.int (2 : Int32)), .val (.long s0), .second, .val (.long s1), .second, .val (.long s2), .second, .val (.ref b9), .unset, .unset, .unset, .unset, .unset, .unset, .unset, .unset] [(.int (p1 &&& (2147483647 : Int32))), (.int (2 : Int32))])
    refine Go.callS X11 hx hZ (by rw [hml]; rfl) (y := (⟨"java/lang/Math", "max", "(II)I"⟩ : MethodName)) (argsL := [(.int (2 : Int32)), (.int (p1 &&& (2147483647 : Int32)))]) (rest := []) hown (hw _ (List.mem_of_getElem? (i := 3) rfl)) (hw _ (List.mem_of_getElem? (i := 4) rfl)) (hw _ (List.mem_of_getElem? (i := 5) rfl)) (hw _ (List.mem_of_getElem? (i := 6) rfl)) (by decide) (rm1 l Z a0 hw (2 : Int32) (p1 &&& (2147483647 : Int32)) h11 n0 (Nat.le_trans Z0 (K11 : Keep h0 h11 []).1)) e11 (hb hby at_110) (lenOf pd_3 rfl) rfl rfl (W := 0) (Nat.le_of_eq rfl) (by decide) (by decide) (by decide) (by decide) ?_
    intro v12 T12 L12 X12 Q12
    obtain ⟨rfl, N12q, hh12⟩ := Q12
    have N12 := Fr.app N11 N12q
    show Go _ _ _ _ _ _ _ T12 (mkF m 113 #[.val (.int p0), .val (.int p1), .val (.int p2), .val (.int p3), .val (.int p4), .val (.int p5), .val (.int (2 : Int32)), .val (.long s0), .second, .val (.long s1), .second, .val (.long s2), .second, .val (.ref b9), .unset, .unset, .unset, .unset, .unset, .unset, .unset, .unset] [(.int (imaxW (2 : Int32) (p1 &&& (2147483647 : Int32))))])
    refine Go.step (fun _ k => XS.istore X12.here hx rfl (hb hby at_113) rfl (l' := #[.val (.int p0), .val (.int p1), .val (.int p2), .val (.int p3), .val (.int p4), .val (.int p5), .val (.int (2 : Int32)), .val (.long s0), .second, .val (.long s1), .second, .val (.long s2), .second, .val (.ref b9), .val (.int (imaxW (2 : Int32) (p1 &&& (2147483647 : Int32)))), .unset, .unset, .unset, .unset, .unset, .unset, .unset]) rfl k) ?_
    obtain ⟨K, h_K⟩ : ∃ z, z = (imaxW (2 : Int32) (p1 &&& (2147483647 : Int32))) := ⟨_, rfl⟩
    rw [← h_K]
    have hK := own_max (p := (2 : Int32)) (by decide) K h_K
    show Go _ _ _ _ _ _ _ T12 (mkF m 115 #[.val (.int p0), .val (.int p1), .val (.int p2), .val (.int p3), .val (.int p4), .val (.int p5), .val (.int (2 : Int32)), .val (.long s0), .second, .val (.long s1), .second, .val (.long s2), .second, .val (.ref b9), .val (.int K), .unset, .unset, .unset, .unset, .unset, .unset, .unset] [])
    refine Go.step (fun _ k => XS.iloadN X12.here hx rfl (hb hby at_115) rfl k) ?_
    show Go _ _ _ _ _ _ _ T12 (mkF m 116 #[.val (.int p0), .val (.int p1), .val (.int p2), .val (.int p3), .val (.int p4), .val (.int p5), .val (.int (2 : Int32)), .val (.long s0), .second, .val (.long s1), .second, .val (.long s2), .second, .val (.ref b9), .val (.int K), .unset, .unset, .unset, .unset, .unset, .unset, .unset] [(.int p2)])
    refine Go.step (X12.ldcInt hx hown (mvT hZ (hw _ (List.mem_of_getElem? (i := 0) rfl))) (g := (mkF m 116 #[.val (.int p0), .val (.int p1), .val (.int p2), .val (.int p3), .val (.int p4), .val (.int p5), .val (.int (2 : Int32)), .val (.long s0), .second, .val (.long s1), .second, .val (.long s2), .second, .val (.ref b9), .val (.int K), .unset, .unset, .unset, .unset, .unset, .unset, .unset] [(.int p2)])) rfl (hb hby at_116)) ?_
    show Go _ _ _ _ _ _ _ T12 (mkF m 118 #[.val (.int p0), .val (.int p1), .val (.int p2), .val (.int p3), .val (.int p4), .val (.int p5), .val (.int (2 : Int32)), .val (.long s0), .second, .val (.long s1), .second, .val (.long s2), .second, .val (.ref b9), .val (.int K), .unset, .unset, .unset, .unset, .unset, .unset, .unset] [(.int (2147483647 : Int32)), (.int p2)])
    refine Go.step (fun _ k => XS.iand X12.here hx rfl (hb hby at_118) rfl k) ?_
    show Go _ _ _ _ _ _ _ T12 (mkF m 119 #[.val (.int p0), .val (.int p1), .val (.int p2), .val (.int p3), .val (.int p4), .val (.int p5), .val (.int (2 : Int32)), .val (.long s0), .second, .val (.long s1), .second, .val (.long s2), .second, .val (.ref b9), .val (.int K), .unset, .unset, .unset, .unset, .unset, .unset, .unset] [(.int (p2 &&& (2147483647 : Int32)))])
    refine Go.step (fun _ k => XS.iload X12.here hx rfl (hb hby at_119) rfl k) ?_
    show Go _ _ _ _ _ _ _ T12 (mkF m 121 #[.val (.int p0), .val (.int p1), .val (.int p2), .val (.int p3), .val (.int p4), .val (.int p5), .val (.int (2 : Int32)), .val (.long s0), .second, .val (.long s1), .second, .val (.long s2), .second, .val (.ref b9), .val (.int K), .unset, .unset, .unset, .unset, .unset, .unset, .unset] [(.int K), (.int (p2 &&& (2147483647 : Int32)))])
    refine Go.step (fun _ k => iremM X12 hx rfl (hb hby at_121) rfl (own_k0 hK.2) k) ?_
    show Go _ _ _ _ _ _ _ T12 (mkF m 122 #[.val (.int p0), .val (.int p1), .val (.int p2), .val (.int p3), .val (.int p4), .val (.int p5), .val (.int (2 : Int32)), .val (.long s0), .second, .val (.long s1), .second, .val (.long s2), .second, .val (.ref b9), .val (.int K), .unset, .unset, .unset, .unset, .unset, .unset, .unset] [(.int ((p2 &&& (2147483647 : Int32)) % K))])
    refine Go.step (fun _ k => XS.istore X12.here hx rfl (hb hby at_122) rfl (l' := #[.val (.int p0), .val (.int p1), .val (.int p2), .val (.int p3), .val (.int p4), .val (.int p5), .val (.int (2 : Int32)), .val (.long s0), .second, .val (.long s1), .second, .val (.long s2), .second, .val (.ref b9), .val (.int K), .val (.int ((p2 &&& (2147483647 : Int32)) % K)), .unset, .unset, .unset, .unset, .unset, .unset]) rfl k) ?_
    obtain ⟨fi, h_fi⟩ : ∃ z, z = ((p2 &&& (2147483647 : Int32)) % K) := ⟨_, rfl⟩
    rw [← h_fi]
    have hfi := own_first hK.2 h_fi
    show Go _ _ _ _ _ _ _ T12 (mkF m 124 #[.val (.int p0), .val (.int p1), .val (.int p2), .val (.int p3), .val (.int p4), .val (.int p5), .val (.int (2 : Int32)), .val (.long s0), .second, .val (.long s1), .second, .val (.long s2), .second, .val (.ref b9), .val (.int K), .val (.int fi), .unset, .unset, .unset, .unset, .unset, .unset] [])
    refine Go.step (fun _ k => XS.iload X12.here hx rfl (hb hby at_124) rfl k) ?_
    show Go _ _ _ _ _ _ _ T12 (mkF m 126 #[.val (.int p0), .val (.int p1), .val (.int p2), .val (.int p3), .val (.int p4), .val (.int p5), .val (.int (2 : Int32)), .val (.long s0), .second, .val (.long s1), .second, .val (.long s2), .second, .val (.ref b9), .val (.int K), .val (.int fi), .unset, .unset, .unset, .unset, .unset, .unset] [(.int fi)])
    refine Go.step (fun _ k => XS.iloadN X12.here hx rfl (hb hby at_126) rfl k) ?_
    show Go _ _ _ _ _ _ _ T12 (mkF m 127 #[.val (.int p0), .val (.int p1), .val (.int p2), .val (.int p3), .val (.int p4), .val (.int p5), .val (.int (2 : Int32)), .val (.long s0), .second, .val (.long s1), .second, .val (.long s2), .second, .val (.ref b9), .val (.int K), .val (.int fi), .unset, .unset, .unset, .unset, .unset, .unset] [(.int p3), (.int fi)])
    refine Go.step (X12.ldcInt hx hown (mvT hZ (hw _ (List.mem_of_getElem? (i := 0) rfl))) (g := (mkF m 127 #[.val (.int p0), .val (.int p1), .val (.int p2), .val (.int p3), .val (.int p4), .val (.int p5), .val (.int (2 : Int32)), .val (.long s0), .second, .val (.long s1), .second, .val (.long s2), .second, .val (.ref b9), .val (.int K), .val (.int fi), .unset, .unset, .unset, .unset, .unset, .unset] [(.int p3), (.int fi)])) rfl (hb hby at_127)) ?_
    show Go _ _ _ _ _ _ _ T12 (mkF m 129 #[.val (.int p0), .val (.int p1), .val (.int p2), .val (.int p3), .val (.int p4), .val (.int p5), .val (.int (2 : Int32)), .val (.long s0), .second, .val (.long s1), .second, .val (.long s2), .second, .val (.ref b9), .val (.int K), .val (.int fi), .unset, .unset, .unset, .unset, .unset, .unset] [(.int (2147483647 : Int32)), (.int p3), (.int fi)])
    refine Go.step (fun _ k => XS.iand X12.here hx rfl (hb hby at_129) rfl k) ?_
    show Go _ _ _ _ _ _ _ T12 (mkF m 130 #[.val (.int p0), .val (.int p1), .val (.int p2), .val (.int p3), .val (.int p4), .val (.int p5), .val (.int (2 : Int32)), .val (.long s0), .second, .val (.long s1), .second, .val (.long s2), .second, .val (.ref b9), .val (.int K), .val (.int fi), .unset, .unset, .unset, .unset, .unset, .unset] [(.int (p3 &&& (2147483647 : Int32))), (.int fi)])
    refine Go.step (fun _ k => XS.iload X12.here hx rfl (hb hby at_130) rfl k) ?_
    show Go _ _ _ _ _ _ _ T12 (mkF m 132 #[.val (.int p0), .val (.int p1), .val (.int p2), .val (.int p3), .val (.int p4), .val (.int p5), .val (.int (2 : Int32)), .val (.long s0), .second, .val (.long s1), .second, .val (.long s2), .second, .val (.ref b9), .val (.int K), .val (.int fi), .unset, .unset, .unset, .unset, .unset, .unset] [(.int K), (.int (p3 &&& (2147483647 : Int32))), (.int fi)])
    refine Go.step (fun _ k => XS.iload X12.here hx rfl (hb hby at_132) rfl k) ?_
    show Go _ _ _ _ _ _ _ T12 (mkF m 134 #[.val (.int p0), .val (.int p1), .val (.int p2), .val (.int p3), .val (.int p4), .val (.int p5), .val (.int (2 : Int32)), .val (.long s0), .second, .val (.long s1), .second, .val (.long s2), .second, .val (.ref b9), .val (.int K), .val (.int fi), .unset, .unset, .unset, .unset, .unset, .unset] [(.int fi), (.int K), (.int (p3 &&& (2147483647 : Int32))), (.int fi)])
    refine Go.step (fun _ k => XS.isub X12.here hx rfl (hb hby at_134) rfl k) ?_
    show Go _ _ _ _ _ _ _ T12 (mkF m 135 #[.val (.int p0), .val (.int p1), .val (.int p2), .val (.int p3), .val (.int p4), .val (.int p5), .val (.int (2 : Int32)), .val (.long s0), .second, .val (.long s1), .second, .val (.long s2), .second, .val (.ref b9), .val (.int K), .val (.int fi), .unset, .unset, .unset, .unset, .unset, .unset] [(.int (K - fi)), (.int (p3 &&& (2147483647 : Int32))), (.int fi)])
    refine Go.step (fun _ k => iremM X12 hx rfl (hb hby at_135) rfl (own_kf0 hfi.1 hfi.2) k) ?_
    show Go _ _ _ _ _ _ _ T12 (mkF m 136 #[.val (.int p0), .val (.int p1), .val (.int p2), .val (.int p3), .val (.int p4), .val (.int p5), .val (.int (2 : Int32)), .val (.long s0), .second, .val (.long s1), .second, .val (.long s2), .second, .val (.ref b9), .val (.int K), .val (.int fi), .unset, .unset, .unset, .unset, .unset, .unset] [(.int ((p3 &&& (2147483647 : Int32)) % (K - fi))), (.int fi)])
    refine Go.step (fun _ k => XS.iadd X12.here hx rfl (hb hby at_136) rfl k) ?_
    show Go _ _ _ _ _ _ _ T12 (mkF m 137 #[.val (.int p0), .val (.int p1), .val (.int p2), .val (.int p3), .val (.int p4), .val (.int p5), .val (.int (2 : Int32)), .val (.long s0), .second, .val (.long s1), .second, .val (.long s2), .second, .val (.ref b9), .val (.int K), .val (.int fi), .unset, .unset, .unset, .unset, .unset, .unset] [(.int (fi + ((p3 &&& (2147483647 : Int32)) % (K - fi))))])
    refine Go.step (fun _ k => XS.istore X12.here hx rfl (hb hby at_137) rfl (l' := #[.val (.int p0), .val (.int p1), .val (.int p2), .val (.int p3), .val (.int p4), .val (.int p5), .val (.int (2 : Int32)), .val (.long s0), .second, .val (.long s1), .second, .val (.long s2), .second, .val (.ref b9), .val (.int K), .val (.int fi), .val (.int (fi + ((p3 &&& (2147483647 : Int32)) % (K - fi)))), .unset, .unset, .unset, .unset, .unset]) rfl k) ?_
    show Go _ _ _ _ _ _ _ T12 (mkF m 139 #[.val (.int p0), .val (.int p1), .val (.int p2), .val (.int p3), .val (.int p4), .val (.int p5), .val (.int (2 : Int32)), .val (.long s0), .second, .val (.long s1), .second, .val (.long s2), .second, .val (.ref b9), .val (.int K), .val (.int fi), .val (.int (fi + ((p3 &&& (2147483647 : Int32)) % (K - fi)))), .unset, .unset, .unset, .unset, .unset] [])
    obtain ⟨la, h_la⟩ : ∃ z, z = (fi + ((p3 &&& (2147483647 : Int32)) % (K - fi))) := ⟨_, rfl⟩
    rw [← h_la]
    have hla := own_last hfi.1 hfi.2 h_la
    rcases own_combo2 hfi.1 hla.1 hla.2 with ⟨ho1, ho2⟩ | ⟨ho1, ho2⟩ | ⟨ho1, ho2⟩
    · show Go _ _ _ _ _ _ _ T12 (mkF m 139 #[.val (.int p0), .val (.int p1), .val (.int p2), .val (.int p3), .val (.int p4), .val (.int p5), .val (.int (2 : Int32)), .val (.long s0), .second, .val (.long s1), .second, .val (.long s2), .second, .val (.ref b9), .val (.int K), .val (.int fi), .val (.int la), .unset, .unset, .unset, .unset, .unset] [])
      obtain ⟨T13, h13, X13, e13, E13, A13, D13, -, st13⟩ := newO X12 hx hZ hown (hw _ (List.mem_of_getElem? (i := 7) rfl)) (hw _ (List.mem_of_getElem? (i := 8) rfl)) (hw _ (List.mem_of_getElem? (i := 9) rfl)) hh12 (g := (mkF m 139 #[.val (.int p0), .val (.int p1), .val (.int p2), .val (.int p3), .val (.int p4), .val (.int p5), .val (.int (2 : Int32)), .val (.long s0), .second, .val (.long s1), .second, .val (.long s2), .second, .val (.ref b9), .val (.int K), .val (.int fi), .val (.int la), .unset, .unset, .unset, .unset, .unset] [])) rfl (hb hby at_139) (by decide) (by decide)
      obtain ⟨b13, g13⟩ : ∃ z, z = h11.size := ⟨_, rfl⟩
      rw [← g13] at A13 D13 st13
      refine Go.step st13 ?_
      have K13 : Keep h0 h13 [] := K11.ext E13
      have sz_b13 : h0.size ≤ b13 := Nat.le_trans (K11 : Keep h0 h11 []).1 (Nat.le_of_eq g13.symm)
      have ge_b13 : n0 ≤ b13 := Nat.le_trans Z0 sz_b13
      have ne_b9_b13 : b9 ≠ b13 := Nat.ne_of_lt (Nat.lt_of_lt_of_le V_b9_11.lt (Nat.le_of_eq g13.symm))
      have V_b9_13 := V_b9_11.ext E13
      have E_b9_13 := E_b9_11.ext E13
      have E_b13 := A13
      have F_keyGroups_b13 : Fld Z h13 b13 "tidewatch/decision/KeyGroupCeiling" "keyGroups" "I" (.int (0 : Int32)) := D13 (Or.inr (hw _ (List.mem_of_getElem? (i := 17) rfl))) (ty := .int) (by decide)
      have F_shares_b13 : Fld Z h13 b13 "tidewatch/decision/KeyGroupCeiling" "shares" "[D" .null := D13 (Or.inr (hw _ (List.mem_of_getElem? (i := 28) rfl))) (ty := (.array .double)) (by decide)
      have F_before_b13 : Fld Z h13 b13 "tidewatch/decision/KeyGroupCeiling" "before" "[D" .null := D13 (Or.inr (hw _ (List.mem_of_getElem? (i := 30) rfl))) (ty := (.array .double)) (by decide)
      show Go _ _ _ _ _ _ _ T13 (mkF m 142 #[.val (.int p0), .val (.int p1), .val (.int p2), .val (.int p3), .val (.int p4), .val (.int p5), .val (.int (2 : Int32)), .val (.long s0), .second, .val (.long s1), .second, .val (.long s2), .second, .val (.ref b9), .val (.int K), .val (.int fi), .val (.int la), .unset, .unset, .unset, .unset, .unset] [(.ref b13)])
      refine Go.step (fun _ k => XS.dup X13.here hx rfl (hb hby at_142) rfl rfl k) ?_
      show Go _ _ _ _ _ _ _ T13 (mkF m 143 #[.val (.int p0), .val (.int p1), .val (.int p2), .val (.int p3), .val (.int p4), .val (.int p5), .val (.int (2 : Int32)), .val (.long s0), .second, .val (.long s1), .second, .val (.long s2), .second, .val (.ref b9), .val (.int K), .val (.int fi), .val (.int la), .unset, .unset, .unset, .unset, .unset] [(.ref b13), (.ref b13)])
      refine Go.step (fun _ k => XS.iload X13.here hx rfl (hb hby at_143) rfl k) ?_
      show Go _ _ _ _ _ _ _ T13 (mkF m 145 #[.val (.int p0), .val (.int p1), .val (.int p2), .val (.int p3), .val (.int p4), .val (.int p5), .val (.int (2 : Int32)), .val (.long s0), .second, .val (.long s1), .second, .val (.long s2), .second, .val (.ref b9), .val (.int K), .val (.int fi), .val (.int la), .unset, .unset, .unset, .unset, .unset] [(.int K), (.ref b13), (.ref b13)])
      refine Go.step (fun _ k => XS.aload X13.here hx rfl (hb hby at_145) rfl rfl k) ?_
      show Go _ _ _ _ _ _ _ T13 (mkF m 147 #[.val (.int p0), .val (.int p1), .val (.int p2), .val (.int p3), .val (.int p4), .val (.int p5), .val (.int (2 : Int32)), .val (.long s0), .second, .val (.long s1), .second, .val (.long s2), .second, .val (.ref b9), .val (.int K), .val (.int fi), .val (.int la), .unset, .unset, .unset, .unset, .unset] [(.ref b9), (.int K), (.ref b13), (.ref b13)])
      refine Go.callI X13 hx hZ (by rw [hml]; rfl) (y := (⟨"tidewatch/decision/KeyGroupCeiling", "<init>", "(I[D)V"⟩ : MethodName)) (a := b13) (argsL := [(.int K), (.ref b9)]) (rest := [(.ref b13)]) rfl hown (hw _ (List.mem_of_getElem? (i := 10) rfl)) (hw _ (List.mem_of_getElem? (i := 11) rfl)) (hw _ (List.mem_of_getElem? (i := 9) rfl)) (hw _ (List.mem_of_getElem? (i := 12) rfl)) (by decide) (rm2_2 l Z a0 hw b13 b9 K (updN (updN (fun _ => (0 : UInt64)) 0 (FP.l2d s0)) 1 (FP.l2d s1)) h13 n0 (Nat.le_trans Z0 (K13 : Keep h0 h13 []).1) E_b13 F_keyGroups_b13 F_shares_b13 F_before_b13 E_b9_13 V_b9_13 ge_b13 (Ne.symm ne_b9_b13) hK.1 (fun i hi' => by rcases (by omega : i = 0 ∨ i = 1) with rfl | rfl; exact Jvm.Free.Fl.l2d_fin _; exact Jvm.Free.Fl.l2d_fin _) (fun i hi' => by rcases (by omega : i = 0 ∨ i = 1) with rfl | rfl; exact own_nneg hs0; exact own_nneg hs1)) e13 (hb hby at_147) (lenOf pd_4 rfl) rfl rfl (W := 1) (Nat.le_of_eq rfl) (by decide) (by decide) (by decide) (by decide) ?_
      intro v14 T14 L14 X14 Q14
      obtain ⟨rfl, N14q, Kc14, Ec14, Fk14, c14, d14, Fc14, Fd14, Vc14, Vd14, sc14, sd14, ncd14⟩ := Q14
      have N14 := Fr.app N12 N14q
      have ne_b9_c14 : b9 ≠ c14 := Nat.ne_of_lt (Nat.lt_of_lt_of_le V_b9_13.lt sc14)
      have ne_b9_d14 : b9 ≠ d14 := Nat.ne_of_lt (Nat.lt_of_lt_of_le V_b9_13.lt sd14)
      have V_b9_14 := V_b9_13.keep Kc14 (ninS ne_b9_b13 nin0)
      have E_b9_14 := E_b9_13.keep Kc14
      have E_b13_14 := E_b13.keep Kc14
      have KK14 : Keep h0 T14.heap [] := (K13 : Keep h0 h13 []).trans Kc14 (allS (Or.inr sz_b13) all0)
      show Go _ _ _ _ _ _ _ T14 (mkF m 150 #[.val (.int p0), .val (.int p1), .val (.int p2), .val (.int p3), .val (.int p4), .val (.int p5), .val (.int (2 : Int32)), .val (.long s0), .second, .val (.long s1), .second, .val (.long s2), .second, .val (.ref b9), .val (.int K), .val (.int fi), .val (.int la), .unset, .unset, .unset, .unset, .unset] [(.ref b13)])
      refine Go.step (fun _ k => XS.astore X14.here hx rfl (hb hby at_150) rfl rfl (l' := #[.val (.int p0), .val (.int p1), .val (.int p2), .val (.int p3), .val (.int p4), .val (.int p5), .val (.int (2 : Int32)), .val (.long s0), .second, .val (.long s1), .second, .val (.long s2), .second, .val (.ref b9), .val (.int K), .val (.int fi), .val (.int la), .val (.ref b13), .unset, .unset, .unset, .unset]) rfl k) ?_
      show Go _ _ _ _ _ _ _ T14 (mkF m 152 #[.val (.int p0), .val (.int p1), .val (.int p2), .val (.int p3), .val (.int p4), .val (.int p5), .val (.int (2 : Int32)), .val (.long s0), .second, .val (.long s1), .second, .val (.long s2), .second, .val (.ref b9), .val (.int K), .val (.int fi), .val (.int la), .val (.ref b13), .unset, .unset, .unset, .unset] [])
      refine Go.step (fun _ k => XS.iload X14.here hx rfl (hb hby at_152) rfl k) ?_
      show Go _ _ _ _ _ _ _ T14 (mkF m 154 #[.val (.int p0), .val (.int p1), .val (.int p2), .val (.int p3), .val (.int p4), .val (.int p5), .val (.int (2 : Int32)), .val (.long s0), .second, .val (.long s1), .second, .val (.long s2), .second, .val (.ref b9), .val (.int K), .val (.int fi), .val (.int la), .val (.ref b13), .unset, .unset, .unset, .unset] [(.int fi)])
      refine Go.step (fun _ k => XS.iload X14.here hx rfl (hb hby at_154) rfl k) ?_
      show Go _ _ _ _ _ _ _ T14 (mkF m 156 #[.val (.int p0), .val (.int p1), .val (.int p2), .val (.int p3), .val (.int p4), .val (.int p5), .val (.int (2 : Int32)), .val (.long s0), .second, .val (.long s1), .second, .val (.long s2), .second, .val (.ref b9), .val (.int K), .val (.int fi), .val (.int la), .val (.ref b13), .unset, .unset, .unset, .unset] [(.int (2 : Int32)), (.int fi)])
      refine Go.step (fun _ k => XS.iload X14.here hx rfl (hb hby at_156) rfl k) ?_
      show Go _ _ _ _ _ _ _ T14 (mkF m 158 #[.val (.int p0), .val (.int p1), .val (.int p2), .val (.int p3), .val (.int p4), .val (.int p5), .val (.int (2 : Int32)), .val (.long s0), .second, .val (.long s1), .second, .val (.long s2), .second, .val (.ref b9), .val (.int K), .val (.int fi), .val (.int la), .val (.ref b13), .unset, .unset, .unset, .unset] [(.int K), (.int (2 : Int32)), (.int fi)])
      refine Go.callS X14 hx hZ (by rw [hml]; rfl) (y := (⟨"tidewatch/decision/KeyGroupCeilingAtMostPinLaw", "ownerRef", "(III)I"⟩ : MethodName)) (argsL := [(.int fi), (.int (2 : Int32)), (.int K)]) (rest := []) hown (hw _ (List.mem_of_getElem? (i := 39) rfl)) (hw _ (List.mem_of_getElem? (i := 40) rfl)) (hw _ (List.mem_of_getElem? (i := 41) rfl)) (hw _ (List.mem_of_getElem? (i := 42) rfl)) (by decide) (rm6_2 l Z a0 hw fi K T14.heap n0 (Nat.le_trans Z0 (KK14 : Keep h0 T14.heap []).1)) rfl (hb hby at_158) (lenOf pd_5 rfl) rfl rfl (W := 0) (Nat.le_of_eq rfl) (by decide) (by decide) (by decide) (by decide) ?_
      intro v15 T15 L15 X15 Q15
      rw [ho1.1] at Q15
      obtain ⟨rfl, N15q, hh15⟩ := Q15
      have N15 := Fr.app N14 N15q
      show Go _ _ _ _ _ _ _ T15 (mkF m 161 #[.val (.int p0), .val (.int p1), .val (.int p2), .val (.int p3), .val (.int p4), .val (.int p5), .val (.int (2 : Int32)), .val (.long s0), .second, .val (.long s1), .second, .val (.long s2), .second, .val (.ref b9), .val (.int K), .val (.int fi), .val (.int la), .val (.ref b13), .unset, .unset, .unset, .unset] [(.int (0 : Int32))])
      refine Go.step (fun _ k => XS.istore X15.here hx rfl (hb hby at_161) rfl (l' := #[.val (.int p0), .val (.int p1), .val (.int p2), .val (.int p3), .val (.int p4), .val (.int p5), .val (.int (2 : Int32)), .val (.long s0), .second, .val (.long s1), .second, .val (.long s2), .second, .val (.ref b9), .val (.int K), .val (.int fi), .val (.int la), .val (.ref b13), .val (.int (0 : Int32)), .unset, .unset, .unset]) rfl k) ?_
      show Go _ _ _ _ _ _ _ T15 (mkF m 163 #[.val (.int p0), .val (.int p1), .val (.int p2), .val (.int p3), .val (.int p4), .val (.int p5), .val (.int (2 : Int32)), .val (.long s0), .second, .val (.long s1), .second, .val (.long s2), .second, .val (.ref b9), .val (.int K), .val (.int fi), .val (.int la), .val (.ref b13), .val (.int (0 : Int32)), .unset, .unset, .unset] [])
      refine Go.step (fun _ k => XS.iload X15.here hx rfl (hb hby at_163) rfl k) ?_
      show Go _ _ _ _ _ _ _ T15 (mkF m 165 #[.val (.int p0), .val (.int p1), .val (.int p2), .val (.int p3), .val (.int p4), .val (.int p5), .val (.int (2 : Int32)), .val (.long s0), .second, .val (.long s1), .second, .val (.long s2), .second, .val (.ref b9), .val (.int K), .val (.int fi), .val (.int la), .val (.ref b13), .val (.int (0 : Int32)), .unset, .unset, .unset] [(.int la)])
      refine Go.step (fun _ k => XS.iload X15.here hx rfl (hb hby at_165) rfl k) ?_
      show Go _ _ _ _ _ _ _ T15 (mkF m 167 #[.val (.int p0), .val (.int p1), .val (.int p2), .val (.int p3), .val (.int p4), .val (.int p5), .val (.int (2 : Int32)), .val (.long s0), .second, .val (.long s1), .second, .val (.long s2), .second, .val (.ref b9), .val (.int K), .val (.int fi), .val (.int la), .val (.ref b13), .val (.int (0 : Int32)), .unset, .unset, .unset] [(.int (2 : Int32)), (.int la)])
      refine Go.step (fun _ k => XS.iload X15.here hx rfl (hb hby at_167) rfl k) ?_
      show Go _ _ _ _ _ _ _ T15 (mkF m 169 #[.val (.int p0), .val (.int p1), .val (.int p2), .val (.int p3), .val (.int p4), .val (.int p5), .val (.int (2 : Int32)), .val (.long s0), .second, .val (.long s1), .second, .val (.long s2), .second, .val (.ref b9), .val (.int K), .val (.int fi), .val (.int la), .val (.ref b13), .val (.int (0 : Int32)), .unset, .unset, .unset] [(.int K), (.int (2 : Int32)), (.int la)])
      refine Go.callS X15 hx hZ (by rw [hml]; rfl) (y := (⟨"tidewatch/decision/KeyGroupCeilingAtMostPinLaw", "ownerRef", "(III)I"⟩ : MethodName)) (argsL := [(.int la), (.int (2 : Int32)), (.int K)]) (rest := []) hown (hw _ (List.mem_of_getElem? (i := 39) rfl)) (hw _ (List.mem_of_getElem? (i := 40) rfl)) (hw _ (List.mem_of_getElem? (i := 41) rfl)) (hw _ (List.mem_of_getElem? (i := 42) rfl)) (by decide) (rm6_2 l Z a0 hw la K T14.heap n0 (Nat.le_trans Z0 (KK14 : Keep h0 T14.heap []).1)) hh15 (hb hby at_169) (lenOf pd_5 rfl) rfl rfl (W := 0) (Nat.le_of_eq rfl) (by decide) (by decide) (by decide) (by decide) ?_
      intro v16 T16 L16 X16 Q16
      rw [ho2.1] at Q16
      obtain ⟨rfl, N16q, hh16⟩ := Q16
      have N16 := Fr.app N15 N16q
      show Go _ _ _ _ _ _ _ T16 (mkF m 172 #[.val (.int p0), .val (.int p1), .val (.int p2), .val (.int p3), .val (.int p4), .val (.int p5), .val (.int (2 : Int32)), .val (.long s0), .second, .val (.long s1), .second, .val (.long s2), .second, .val (.ref b9), .val (.int K), .val (.int fi), .val (.int la), .val (.ref b13), .val (.int (0 : Int32)), .unset, .unset, .unset] [(.int (0 : Int32))])
      refine Go.step (fun _ k => XS.istore X16.here hx rfl (hb hby at_172) rfl (l' := #[.val (.int p0), .val (.int p1), .val (.int p2), .val (.int p3), .val (.int p4), .val (.int p5), .val (.int (2 : Int32)), .val (.long s0), .second, .val (.long s1), .second, .val (.long s2), .second, .val (.ref b9), .val (.int K), .val (.int fi), .val (.int la), .val (.ref b13), .val (.int (0 : Int32)), .val (.int (0 : Int32)), .unset, .unset]) rfl k) ?_
      show Go _ _ _ _ _ _ _ T16 (mkF m 174 #[.val (.int p0), .val (.int p1), .val (.int p2), .val (.int p3), .val (.int p4), .val (.int p5), .val (.int (2 : Int32)), .val (.long s0), .second, .val (.long s1), .second, .val (.long s2), .second, .val (.ref b9), .val (.int K), .val (.int fi), .val (.int la), .val (.ref b13), .val (.int (0 : Int32)), .val (.int (0 : Int32)), .unset, .unset] [])
      refine Go.step (fun _ k => XS.lconst X16.here hx rfl (hb hby at_174) k) ?_
      show Go _ _ _ _ _ _ _ T16 (mkF m 175 #[.val (.int p0), .val (.int p1), .val (.int p2), .val (.int p3), .val (.int p4), .val (.int p5), .val (.int (2 : Int32)), .val (.long s0), .second, .val (.long s1), .second, .val (.long s2), .second, .val (.ref b9), .val (.int K), .val (.int fi), .val (.int la), .val (.ref b13), .val (.int (0 : Int32)), .val (.int (0 : Int32)), .unset, .unset] [(.long (0 : Int64))])
      refine Go.step (fun _ k => XS.lstore X16.here hx rfl (hb hby at_175) rfl (l' := #[.val (.int p0), .val (.int p1), .val (.int p2), .val (.int p3), .val (.int p4), .val (.int p5), .val (.int (2 : Int32)), .val (.long s0), .second, .val (.long s1), .second, .val (.long s2), .second, .val (.ref b9), .val (.int K), .val (.int fi), .val (.int la), .val (.ref b13), .val (.int (0 : Int32)), .val (.int (0 : Int32)), .val (.long (0 : Int64)), .second]) rfl k) ?_
      show Go _ _ _ _ _ _ _ T16 (mkF m 177 #[.val (.int p0), .val (.int p1), .val (.int p2), .val (.int p3), .val (.int p4), .val (.int p5), .val (.int (2 : Int32)), .val (.long s0), .second, .val (.long s1), .second, .val (.long s2), .second, .val (.ref b9), .val (.int K), .val (.int fi), .val (.int la), .val (.ref b13), .val (.int (0 : Int32)), .val (.int (0 : Int32)), .val (.long (0 : Int64)), .second] [])
      refine Go.step (fun _ k => XS.iload X16.here hx rfl (hb hby at_177) rfl k) ?_
      show Go _ _ _ _ _ _ _ T16 (mkF m 179 #[.val (.int p0), .val (.int p1), .val (.int p2), .val (.int p3), .val (.int p4), .val (.int p5), .val (.int (2 : Int32)), .val (.long s0), .second, .val (.long s1), .second, .val (.long s2), .second, .val (.ref b9), .val (.int K), .val (.int fi), .val (.int la), .val (.ref b13), .val (.int (0 : Int32)), .val (.int (0 : Int32)), .val (.long (0 : Int64)), .second] [(.int (0 : Int32))])
      refine Go.step (fun _ k => XS.ifNo X16.here hx rfl (hb hby at_179) rfl ((if0 _ _).trans (flt (by decide : ¬ ((0 : Int32) < (0 : Int32)))).2.2.1) k) ?_
      show Go _ _ _ _ _ _ _ T16 (mkF m 182 #[.val (.int p0), .val (.int p1), .val (.int p2), .val (.int p3), .val (.int p4), .val (.int p5), .val (.int (2 : Int32)), .val (.long s0), .second, .val (.long s1), .second, .val (.long s2), .second, .val (.ref b9), .val (.int K), .val (.int fi), .val (.int la), .val (.ref b13), .val (.int (0 : Int32)), .val (.int (0 : Int32)), .val (.long (0 : Int64)), .second] [])
      refine Go.step (fun _ k => XS.lload X16.here hx rfl (hb hby at_182) rfl k) ?_
      show Go _ _ _ _ _ _ _ T16 (mkF m 184 #[.val (.int p0), .val (.int p1), .val (.int p2), .val (.int p3), .val (.int p4), .val (.int p5), .val (.int (2 : Int32)), .val (.long s0), .second, .val (.long s1), .second, .val (.long s2), .second, .val (.ref b9), .val (.int K), .val (.int fi), .val (.int la), .val (.ref b13), .val (.int (0 : Int32)), .val (.int (0 : Int32)), .val (.long (0 : Int64)), .second] [(.long (0 : Int64))])
      refine Go.step (fun _ k => XS.lload X16.here hx rfl (hb hby at_184) rfl k) ?_
      show Go _ _ _ _ _ _ _ T16 (mkF m 186 #[.val (.int p0), .val (.int p1), .val (.int p2), .val (.int p3), .val (.int p4), .val (.int p5), .val (.int (2 : Int32)), .val (.long s0), .second, .val (.long s1), .second, .val (.long s2), .second, .val (.ref b9), .val (.int K), .val (.int fi), .val (.int la), .val (.ref b13), .val (.int (0 : Int32)), .val (.int (0 : Int32)), .val (.long (0 : Int64)), .second] [(.long s0), (.long (0 : Int64))])
      refine Go.step (fun _ k => XS.ladd X16.here hx rfl (hb hby at_186) rfl k) ?_
      show Go _ _ _ _ _ _ _ T16 (mkF m 187 #[.val (.int p0), .val (.int p1), .val (.int p2), .val (.int p3), .val (.int p4), .val (.int p5), .val (.int (2 : Int32)), .val (.long s0), .second, .val (.long s1), .second, .val (.long s2), .second, .val (.ref b9), .val (.int K), .val (.int fi), .val (.int la), .val (.ref b13), .val (.int (0 : Int32)), .val (.int (0 : Int32)), .val (.long (0 : Int64)), .second] [(.long ((0 : Int64) + s0))])
      refine Go.step (fun _ k => XS.lstore X16.here hx rfl (hb hby at_187) rfl (l' := #[.val (.int p0), .val (.int p1), .val (.int p2), .val (.int p3), .val (.int p4), .val (.int p5), .val (.int (2 : Int32)), .val (.long s0), .second, .val (.long s1), .second, .val (.long s2), .second, .val (.ref b9), .val (.int K), .val (.int fi), .val (.int la), .val (.ref b13), .val (.int (0 : Int32)), .val (.int (0 : Int32)), .val (.long ((0 : Int64) + s0)), .second]) rfl k) ?_
      show Go _ _ _ _ _ _ _ T16 (mkF m 189 #[.val (.int p0), .val (.int p1), .val (.int p2), .val (.int p3), .val (.int p4), .val (.int p5), .val (.int (2 : Int32)), .val (.long s0), .second, .val (.long s1), .second, .val (.long s2), .second, .val (.ref b9), .val (.int K), .val (.int fi), .val (.int la), .val (.ref b13), .val (.int (0 : Int32)), .val (.int (0 : Int32)), .val (.long ((0 : Int64) + s0)), .second] [])
      refine Go.step (fun _ k => XS.iload X16.here hx rfl (hb hby at_189) rfl k) ?_
      show Go _ _ _ _ _ _ _ T16 (mkF m 191 #[.val (.int p0), .val (.int p1), .val (.int p2), .val (.int p3), .val (.int p4), .val (.int p5), .val (.int (2 : Int32)), .val (.long s0), .second, .val (.long s1), .second, .val (.long s2), .second, .val (.ref b9), .val (.int K), .val (.int fi), .val (.int la), .val (.ref b13), .val (.int (0 : Int32)), .val (.int (0 : Int32)), .val (.long ((0 : Int64) + s0)), .second] [(.int (0 : Int32))])
      refine Go.step (fun _ k => XS.iconst X16.here hx rfl (hb hby at_191) k) ?_
      show Go _ _ _ _ _ _ _ T16 (mkF m 192 #[.val (.int p0), .val (.int p1), .val (.int p2), .val (.int p3), .val (.int p4), .val (.int p5), .val (.int (2 : Int32)), .val (.long s0), .second, .val (.long s1), .second, .val (.long s2), .second, .val (.ref b9), .val (.int K), .val (.int fi), .val (.int la), .val (.ref b13), .val (.int (0 : Int32)), .val (.int (0 : Int32)), .val (.long ((0 : Int64) + s0)), .second] [(.int (1 : Int32)), (.int (0 : Int32))])
      refine Go.step (fun _ k => XS.icmpNo X16.here hx rfl (hb hby at_192) rfl (flt (by decide : ¬ ((1 : Int32) < (0 : Int32)))).2.2.1 k) ?_
      show Go _ _ _ _ _ _ _ T16 (mkF m 195 #[.val (.int p0), .val (.int p1), .val (.int p2), .val (.int p3), .val (.int p4), .val (.int p5), .val (.int (2 : Int32)), .val (.long s0), .second, .val (.long s1), .second, .val (.long s2), .second, .val (.ref b9), .val (.int K), .val (.int fi), .val (.int la), .val (.ref b13), .val (.int (0 : Int32)), .val (.int (0 : Int32)), .val (.long ((0 : Int64) + s0)), .second] [])
      refine Go.step (fun _ k => XS.iload X16.here hx rfl (hb hby at_195) rfl k) ?_
      show Go _ _ _ _ _ _ _ T16 (mkF m 197 #[.val (.int p0), .val (.int p1), .val (.int p2), .val (.int p3), .val (.int p4), .val (.int p5), .val (.int (2 : Int32)), .val (.long s0), .second, .val (.long s1), .second, .val (.long s2), .second, .val (.ref b9), .val (.int K), .val (.int fi), .val (.int la), .val (.ref b13), .val (.int (0 : Int32)), .val (.int (0 : Int32)), .val (.long ((0 : Int64) + s0)), .second] [(.int (0 : Int32))])
      refine Go.step (fun _ k => XS.iconst X16.here hx rfl (hb hby at_197) k) ?_
      show Go _ _ _ _ _ _ _ T16 (mkF m 198 #[.val (.int p0), .val (.int p1), .val (.int p2), .val (.int p3), .val (.int p4), .val (.int p5), .val (.int (2 : Int32)), .val (.long s0), .second, .val (.long s1), .second, .val (.long s2), .second, .val (.ref b9), .val (.int K), .val (.int fi), .val (.int la), .val (.ref b13), .val (.int (0 : Int32)), .val (.int (0 : Int32)), .val (.long ((0 : Int64) + s0)), .second] [(.int (1 : Int32)), (.int (0 : Int32))])
      refine Go.step (fun _ k => XS.icmpYes X16.here hx rfl (pc0 := 198) (pc' := 208) rfl (hb hby at_198) rfl (tlt (by decide : (0 : Int32) < (1 : Int32))).1 (by decide) (by decide) k) ?_
      show Go _ _ _ _ _ _ _ T16 (mkF m 208 #[.val (.int p0), .val (.int p1), .val (.int p2), .val (.int p3), .val (.int p4), .val (.int p5), .val (.int (2 : Int32)), .val (.long s0), .second, .val (.long s1), .second, .val (.long s2), .second, .val (.ref b9), .val (.int K), .val (.int fi), .val (.int la), .val (.ref b13), .val (.int (0 : Int32)), .val (.int (0 : Int32)), .val (.long ((0 : Int64) + s0)), .second] [])
      refine Go.step (fun _ k => XS.iload X16.here hx rfl (hb hby at_208) rfl k) ?_
      show Go _ _ _ _ _ _ _ T16 (mkF m 210 #[.val (.int p0), .val (.int p1), .val (.int p2), .val (.int p3), .val (.int p4), .val (.int p5), .val (.int (2 : Int32)), .val (.long s0), .second, .val (.long s1), .second, .val (.long s2), .second, .val (.ref b9), .val (.int K), .val (.int fi), .val (.int la), .val (.ref b13), .val (.int (0 : Int32)), .val (.int (0 : Int32)), .val (.long ((0 : Int64) + s0)), .second] [(.int (0 : Int32))])
      refine Go.step (fun _ k => XS.iconst X16.here hx rfl (hb hby at_210) k) ?_
      show Go _ _ _ _ _ _ _ T16 (mkF m 211 #[.val (.int p0), .val (.int p1), .val (.int p2), .val (.int p3), .val (.int p4), .val (.int p5), .val (.int (2 : Int32)), .val (.long s0), .second, .val (.long s1), .second, .val (.long s2), .second, .val (.ref b9), .val (.int K), .val (.int fi), .val (.int la), .val (.ref b13), .val (.int (0 : Int32)), .val (.int (0 : Int32)), .val (.long ((0 : Int64) + s0)), .second] [(.int (2 : Int32)), (.int (0 : Int32))])
      refine Go.step (fun _ k => XS.icmpNo X16.here hx rfl (hb hby at_211) rfl (flt (by decide : ¬ ((2 : Int32) < (0 : Int32)))).2.2.1 k) ?_
      show Go _ _ _ _ _ _ _ T16 (mkF m 214 #[.val (.int p0), .val (.int p1), .val (.int p2), .val (.int p3), .val (.int p4), .val (.int p5), .val (.int (2 : Int32)), .val (.long s0), .second, .val (.long s1), .second, .val (.long s2), .second, .val (.ref b9), .val (.int K), .val (.int fi), .val (.int la), .val (.ref b13), .val (.int (0 : Int32)), .val (.int (0 : Int32)), .val (.long ((0 : Int64) + s0)), .second] [])
      refine Go.step (fun _ k => XS.iload X16.here hx rfl (hb hby at_214) rfl k) ?_
      show Go _ _ _ _ _ _ _ T16 (mkF m 216 #[.val (.int p0), .val (.int p1), .val (.int p2), .val (.int p3), .val (.int p4), .val (.int p5), .val (.int (2 : Int32)), .val (.long s0), .second, .val (.long s1), .second, .val (.long s2), .second, .val (.ref b9), .val (.int K), .val (.int fi), .val (.int la), .val (.ref b13), .val (.int (0 : Int32)), .val (.int (0 : Int32)), .val (.long ((0 : Int64) + s0)), .second] [(.int (0 : Int32))])
      refine Go.step (fun _ k => XS.iconst X16.here hx rfl (hb hby at_216) k) ?_
      show Go _ _ _ _ _ _ _ T16 (mkF m 217 #[.val (.int p0), .val (.int p1), .val (.int p2), .val (.int p3), .val (.int p4), .val (.int p5), .val (.int (2 : Int32)), .val (.long s0), .second, .val (.long s1), .second, .val (.long s2), .second, .val (.ref b9), .val (.int K), .val (.int fi), .val (.int la), .val (.ref b13), .val (.int (0 : Int32)), .val (.int (0 : Int32)), .val (.long ((0 : Int64) + s0)), .second] [(.int (2 : Int32)), (.int (0 : Int32))])
      refine Go.step (fun _ k => XS.icmpYes X16.here hx rfl (pc0 := 217) (pc' := 227) rfl (hb hby at_217) rfl (tlt (by decide : (0 : Int32) < (2 : Int32))).1 (by decide) (by decide) k) ?_
      have hAt : FP.dcmp (FP.dsub ((updN (updN (fun _ => (0 : UInt64)) 1 (FP.dadd (0 : UInt64) ((updN (updN (fun _ => (0 : UInt64)) 0 (FP.l2d s0)) 1 (FP.l2d s1)) 0))) 2 (FP.dadd (FP.dadd (0 : UInt64) ((updN (updN (fun _ => (0 : UInt64)) 0 (FP.l2d s0)) 1 (FP.l2d s1)) 0)) ((updN (updN (fun _ => (0 : UInt64)) 0 (FP.l2d s0)) 1 (FP.l2d s1)) 1))) 1) ((updN (updN (fun _ => (0 : UInt64)) 1 (FP.dadd (0 : UInt64) ((updN (updN (fun _ => (0 : UInt64)) 0 (FP.l2d s0)) 1 (FP.l2d s1)) 0))) 2 (FP.dadd (FP.dadd (0 : UInt64) ((updN (updN (fun _ => (0 : UInt64)) 0 (FP.l2d s0)) 1 (FP.l2d s1)) 0)) ((updN (updN (fun _ => (0 : UInt64)) 0 (FP.l2d s0)) 1 (FP.l2d s1)) 1))) 0)) (FP.l2d ((0 : Int64) + s0)) = some .eq := by
        have t0 := hs0.1; have t1 := hs0.2; have t2 := hs1.1; have t3 := hs1.2; have t4 := hs2.1; have t5 := hs2.2
        have e1 := own_sum (a := s0) (b := s1) t0 (by omega) hs1
        have e2 := own_sum (a := s0 + s1) (b := s2) (by omega) (by omega) hs2
        have hd : s0 - (0 : Int64) = ((0 : Int64) + s0) := own_eq64 (by
          have := c_ladd s0 s1
          have := c_ladd (s0 + s1) s2
          have := c_ladd (0 : Int64) s0
          have := c_lsub s0 (0 : Int64)
          have : (0 : Int64).toInt = 0 := rfl
          omega)
        exact own_at (a := s0) (b := (0 : Int64)) (own_d1 hs0) l2d_zero.symm (by first | omega | decide) (by first | omega | decide) (by first | omega | decide) (by first | omega | decide) hd
      show Go _ _ _ _ _ _ _ T16 (mkF m 227 #[.val (.int p0), .val (.int p1), .val (.int p2), .val (.int p3), .val (.int p4), .val (.int p5), .val (.int (2 : Int32)), .val (.long s0), .second, .val (.long s1), .second, .val (.long s2), .second, .val (.ref b9), .val (.int K), .val (.int fi), .val (.int la), .val (.ref b13), .val (.int (0 : Int32)), .val (.int (0 : Int32)), .val (.long ((0 : Int64) + s0)), .second] [])
      refine Go.step (fun _ k => XS.aload X16.here hx rfl (hb hby at_227) rfl rfl k) ?_
      show Go _ _ _ _ _ _ _ T16 (mkF m 229 #[.val (.int p0), .val (.int p1), .val (.int p2), .val (.int p3), .val (.int p4), .val (.int p5), .val (.int (2 : Int32)), .val (.long s0), .second, .val (.long s1), .second, .val (.long s2), .second, .val (.ref b9), .val (.int K), .val (.int fi), .val (.int la), .val (.ref b13), .val (.int (0 : Int32)), .val (.int (0 : Int32)), .val (.long ((0 : Int64) + s0)), .second] [(.ref b13)])
      refine Go.step (fun _ k => XS.iload X16.here hx rfl (hb hby at_229) rfl k) ?_
      show Go _ _ _ _ _ _ _ T16 (mkF m 231 #[.val (.int p0), .val (.int p1), .val (.int p2), .val (.int p3), .val (.int p4), .val (.int p5), .val (.int (2 : Int32)), .val (.long s0), .second, .val (.long s1), .second, .val (.long s2), .second, .val (.ref b9), .val (.int K), .val (.int fi), .val (.int la), .val (.ref b13), .val (.int (0 : Int32)), .val (.int (0 : Int32)), .val (.long ((0 : Int64) + s0)), .second] [(.int fi), (.ref b13)])
      refine Go.step (fun _ k => XS.iload X16.here hx rfl (hb hby at_231) rfl k) ?_
      show Go _ _ _ _ _ _ _ T16 (mkF m 233 #[.val (.int p0), .val (.int p1), .val (.int p2), .val (.int p3), .val (.int p4), .val (.int p5), .val (.int (2 : Int32)), .val (.long s0), .second, .val (.long s1), .second, .val (.long s2), .second, .val (.ref b9), .val (.int K), .val (.int fi), .val (.int la), .val (.ref b13), .val (.int (0 : Int32)), .val (.int (0 : Int32)), .val (.long ((0 : Int64) + s0)), .second] [(.int la), (.int fi), (.ref b13)])
      refine Go.callV X16 hx hZ (by rw [hml]; rfl) (y := (⟨"tidewatch/decision/KeyGroupCeiling", "atMost", "(II)D"⟩ : MethodName)) (z := (⟨"tidewatch/decision/KeyGroupCeiling", "atMost", "(II)D"⟩ : MethodName)) (a := b13) (argsL := [(.int fi), (.int la)]) (rest := []) hown (hw _ (List.mem_of_getElem? (i := 44) rfl)) (hw _ (List.mem_of_getElem? (i := 45) rfl)) (notFace_of_selects (args := #[]) (mvT hZ (hw _ (List.mem_of_getElem? (i := 47) rfl)))) (hw _ (List.mem_of_getElem? (i := 47) rfl)) (hw _ (List.mem_of_getElem? (i := 46) rfl)) (hw _ (List.mem_of_getElem? (i := 9) rfl)) (hw _ (List.mem_of_getElem? (i := 48) rfl)) (by decide) (rm7_200 l Z a0 hw b13 fi la c14 d14 K (updN (updN (fun _ => (0 : UInt64)) 0 (FP.l2d s0)) 1 (FP.l2d s1)) (updN (updN (fun _ => (0 : UInt64)) 1 (FP.dadd (0 : UInt64) ((updN (updN (fun _ => (0 : UInt64)) 0 (FP.l2d s0)) 1 (FP.l2d s1)) 0))) 2 (FP.dadd (FP.dadd (0 : UInt64) ((updN (updN (fun _ => (0 : UInt64)) 0 (FP.l2d s0)) 1 (FP.l2d s1)) 0)) ((updN (updN (fun _ => (0 : UInt64)) 0 (FP.l2d s0)) 1 (FP.l2d s1)) 1))) T14.heap n0 (Nat.le_trans Z0 (KK14 : Keep h0 T14.heap []).1) Ec14 Fk14 Fc14 Vc14 Fd14 Vd14 hK.2 ho1.2 ho2.2 (own_nnN (Jvm.FP.Core.dcmp_some hAt).1)) hh16 Ec14 (hb hby at_233) (lenOf pd_6 rfl) rfl rfl (W := 0) (Nat.le_of_eq rfl) (by decide) (by decide) (by decide) (by decide) ?_
      intro v17 T17 L17 X17 Q17
      obtain ⟨rfl, N17q, hh17⟩ := Q17
      have N17 := Fr.app N16 N17q
      show Go _ _ _ _ _ _ _ T17 (mkF m 236 #[.val (.int p0), .val (.int p1), .val (.int p2), .val (.int p3), .val (.int p4), .val (.int p5), .val (.int (2 : Int32)), .val (.long s0), .second, .val (.long s1), .second, .val (.long s2), .second, .val (.ref b9), .val (.int K), .val (.int fi), .val (.int la), .val (.ref b13), .val (.int (0 : Int32)), .val (.int (0 : Int32)), .val (.long ((0 : Int64) + s0)), .second] [(.double (FP.dsub ((updN (updN (fun _ => (0 : UInt64)) 1 (FP.dadd (0 : UInt64) ((updN (updN (fun _ => (0 : UInt64)) 0 (FP.l2d s0)) 1 (FP.l2d s1)) 0))) 2 (FP.dadd (FP.dadd (0 : UInt64) ((updN (updN (fun _ => (0 : UInt64)) 0 (FP.l2d s0)) 1 (FP.l2d s1)) 0)) ((updN (updN (fun _ => (0 : UInt64)) 0 (FP.l2d s0)) 1 (FP.l2d s1)) 1))) 1) ((updN (updN (fun _ => (0 : UInt64)) 1 (FP.dadd (0 : UInt64) ((updN (updN (fun _ => (0 : UInt64)) 0 (FP.l2d s0)) 1 (FP.l2d s1)) 0))) 2 (FP.dadd (FP.dadd (0 : UInt64) ((updN (updN (fun _ => (0 : UInt64)) 0 (FP.l2d s0)) 1 (FP.l2d s1)) 0)) ((updN (updN (fun _ => (0 : UInt64)) 0 (FP.l2d s0)) 1 (FP.l2d s1)) 1))) 0)))])
      refine Go.step (fun _ k => XS.lload X17.here hx rfl (hb hby at_236) rfl k) ?_
      show Go _ _ _ _ _ _ _ T17 (mkF m 238 #[.val (.int p0), .val (.int p1), .val (.int p2), .val (.int p3), .val (.int p4), .val (.int p5), .val (.int (2 : Int32)), .val (.long s0), .second, .val (.long s1), .second, .val (.long s2), .second, .val (.ref b9), .val (.int K), .val (.int fi), .val (.int la), .val (.ref b13), .val (.int (0 : Int32)), .val (.int (0 : Int32)), .val (.long ((0 : Int64) + s0)), .second] [(.long ((0 : Int64) + s0)), (.double (FP.dsub ((updN (updN (fun _ => (0 : UInt64)) 1 (FP.dadd (0 : UInt64) ((updN (updN (fun _ => (0 : UInt64)) 0 (FP.l2d s0)) 1 (FP.l2d s1)) 0))) 2 (FP.dadd (FP.dadd (0 : UInt64) ((updN (updN (fun _ => (0 : UInt64)) 0 (FP.l2d s0)) 1 (FP.l2d s1)) 0)) ((updN (updN (fun _ => (0 : UInt64)) 0 (FP.l2d s0)) 1 (FP.l2d s1)) 1))) 1) ((updN (updN (fun _ => (0 : UInt64)) 1 (FP.dadd (0 : UInt64) ((updN (updN (fun _ => (0 : UInt64)) 0 (FP.l2d s0)) 1 (FP.l2d s1)) 0))) 2 (FP.dadd (FP.dadd (0 : UInt64) ((updN (updN (fun _ => (0 : UInt64)) 0 (FP.l2d s0)) 1 (FP.l2d s1)) 0)) ((updN (updN (fun _ => (0 : UInt64)) 0 (FP.l2d s0)) 1 (FP.l2d s1)) 1))) 0)))])
      refine Go.step (fun _ k => XS.l2dS X17.here hx rfl (hb hby at_238) rfl rfl k) ?_
      show Go _ _ _ _ _ _ _ T17 (mkF m 239 #[.val (.int p0), .val (.int p1), .val (.int p2), .val (.int p3), .val (.int p4), .val (.int p5), .val (.int (2 : Int32)), .val (.long s0), .second, .val (.long s1), .second, .val (.long s2), .second, .val (.ref b9), .val (.int K), .val (.int fi), .val (.int la), .val (.ref b13), .val (.int (0 : Int32)), .val (.int (0 : Int32)), .val (.long ((0 : Int64) + s0)), .second] [(.double (FP.l2d ((0 : Int64) + s0))), (.double (FP.dsub ((updN (updN (fun _ => (0 : UInt64)) 1 (FP.dadd (0 : UInt64) ((updN (updN (fun _ => (0 : UInt64)) 0 (FP.l2d s0)) 1 (FP.l2d s1)) 0))) 2 (FP.dadd (FP.dadd (0 : UInt64) ((updN (updN (fun _ => (0 : UInt64)) 0 (FP.l2d s0)) 1 (FP.l2d s1)) 0)) ((updN (updN (fun _ => (0 : UInt64)) 0 (FP.l2d s0)) 1 (FP.l2d s1)) 1))) 1) ((updN (updN (fun _ => (0 : UInt64)) 1 (FP.dadd (0 : UInt64) ((updN (updN (fun _ => (0 : UInt64)) 0 (FP.l2d s0)) 1 (FP.l2d s1)) 0))) 2 (FP.dadd (FP.dadd (0 : UInt64) ((updN (updN (fun _ => (0 : UInt64)) 0 (FP.l2d s0)) 1 (FP.l2d s1)) 0)) ((updN (updN (fun _ => (0 : UInt64)) 0 (FP.l2d s0)) 1 (FP.l2d s1)) 1))) 0)))])
      refine Go.step (fun _ k => XS.dcmpS X17.here hx rfl (hb hby at_239) rfl rfl k) ?_
      show Go _ _ _ _ _ _ _ T17 (mkF m 240 #[.val (.int p0), .val (.int p1), .val (.int p2), .val (.int p3), .val (.int p4), .val (.int p5), .val (.int (2 : Int32)), .val (.long s0), .second, .val (.long s1), .second, .val (.long s2), .second, .val (.ref b9), .val (.int K), .val (.int fi), .val (.int la), .val (.ref b13), .val (.int (0 : Int32)), .val (.int (0 : Int32)), .val (.long ((0 : Int64) + s0)), .second] [(.int (cmpValue (FP.dcmp (FP.dsub ((updN (updN (fun _ => (0 : UInt64)) 1 (FP.dadd (0 : UInt64) ((updN (updN (fun _ => (0 : UInt64)) 0 (FP.l2d s0)) 1 (FP.l2d s1)) 0))) 2 (FP.dadd (FP.dadd (0 : UInt64) ((updN (updN (fun _ => (0 : UInt64)) 0 (FP.l2d s0)) 1 (FP.l2d s1)) 0)) ((updN (updN (fun _ => (0 : UInt64)) 0 (FP.l2d s0)) 1 (FP.l2d s1)) 1))) 1) ((updN (updN (fun _ => (0 : UInt64)) 1 (FP.dadd (0 : UInt64) ((updN (updN (fun _ => (0 : UInt64)) 0 (FP.l2d s0)) 1 (FP.l2d s1)) 0))) 2 (FP.dadd (FP.dadd (0 : UInt64) ((updN (updN (fun _ => (0 : UInt64)) 0 (FP.l2d s0)) 1 (FP.l2d s1)) 0)) ((updN (updN (fun _ => (0 : UInt64)) 0 (FP.l2d s0)) 1 (FP.l2d s1)) 1))) 0)) (FP.l2d ((0 : Int64) + s0))) .l))])
      refine Go.step (fun _ k => XS.ifNo X17.here hx rfl (hb hby at_240) rfl (eq_y .l hAt).1 k) ?_
      show Go _ _ _ _ _ _ _ T17 (mkF m 243 #[.val (.int p0), .val (.int p1), .val (.int p2), .val (.int p3), .val (.int p4), .val (.int p5), .val (.int (2 : Int32)), .val (.long s0), .second, .val (.long s1), .second, .val (.long s2), .second, .val (.ref b9), .val (.int K), .val (.int fi), .val (.int la), .val (.ref b13), .val (.int (0 : Int32)), .val (.int (0 : Int32)), .val (.long ((0 : Int64) + s0)), .second] [])
      refine Go.step (fun _ k => XS.iconst X17.here hx rfl (hb hby at_243) k) ?_
      show Go _ _ _ _ _ _ _ T17 (mkF m 244 #[.val (.int p0), .val (.int p1), .val (.int p2), .val (.int p3), .val (.int p4), .val (.int p5), .val (.int (2 : Int32)), .val (.long s0), .second, .val (.long s1), .second, .val (.long s2), .second, .val (.ref b9), .val (.int K), .val (.int fi), .val (.int la), .val (.ref b13), .val (.int (0 : Int32)), .val (.int (0 : Int32)), .val (.long ((0 : Int64) + s0)), .second] [(.int (1 : Int32))])
      refine Go.step (fun _ k => XS.goto X17.here hx rfl (pc0 := 244) (pc' := 248) rfl (hb hby at_244) (by decide) (by decide) k) ?_
      show Go _ _ _ _ _ _ _ T17 (mkF m 248 #[.val (.int p0), .val (.int p1), .val (.int p2), .val (.int p3), .val (.int p4), .val (.int p5), .val (.int (2 : Int32)), .val (.long s0), .second, .val (.long s1), .second, .val (.long s2), .second, .val (.ref b9), .val (.int K), .val (.int fi), .val (.int la), .val (.ref b13), .val (.int (0 : Int32)), .val (.int (0 : Int32)), .val (.long ((0 : Int64) + s0)), .second] [(.int (1 : Int32))])
      refine Go.retZ X17 hx hlk hret (by decide) (hb hby at_248) (by decide) (by decide) ?_
      try rw [hh17]
      exact ⟨rfl, N17⟩
    · show Go _ _ _ _ _ _ _ T12 (mkF m 139 #[.val (.int p0), .val (.int p1), .val (.int p2), .val (.int p3), .val (.int p4), .val (.int p5), .val (.int (2 : Int32)), .val (.long s0), .second, .val (.long s1), .second, .val (.long s2), .second, .val (.ref b9), .val (.int K), .val (.int fi), .val (.int la), .unset, .unset, .unset, .unset, .unset] [])
      obtain ⟨T18, h18, X18, e18, E18, A18, D18, -, st18⟩ := newO X12 hx hZ hown (hw _ (List.mem_of_getElem? (i := 7) rfl)) (hw _ (List.mem_of_getElem? (i := 8) rfl)) (hw _ (List.mem_of_getElem? (i := 9) rfl)) hh12 (g := (mkF m 139 #[.val (.int p0), .val (.int p1), .val (.int p2), .val (.int p3), .val (.int p4), .val (.int p5), .val (.int (2 : Int32)), .val (.long s0), .second, .val (.long s1), .second, .val (.long s2), .second, .val (.ref b9), .val (.int K), .val (.int fi), .val (.int la), .unset, .unset, .unset, .unset, .unset] [])) rfl (hb hby at_139) (by decide) (by decide)
      obtain ⟨b18, g18⟩ : ∃ z, z = h11.size := ⟨_, rfl⟩
      rw [← g18] at A18 D18 st18
      refine Go.step st18 ?_
      have K18 : Keep h0 h18 [] := K11.ext E18
      have sz_b18 : h0.size ≤ b18 := Nat.le_trans (K11 : Keep h0 h11 []).1 (Nat.le_of_eq g18.symm)
      have ge_b18 : n0 ≤ b18 := Nat.le_trans Z0 sz_b18
      have ne_b9_b18 : b9 ≠ b18 := Nat.ne_of_lt (Nat.lt_of_lt_of_le V_b9_11.lt (Nat.le_of_eq g18.symm))
      have V_b9_18 := V_b9_11.ext E18
      have E_b9_18 := E_b9_11.ext E18
      have E_b18 := A18
      have F_keyGroups_b18 : Fld Z h18 b18 "tidewatch/decision/KeyGroupCeiling" "keyGroups" "I" (.int (0 : Int32)) := D18 (Or.inr (hw _ (List.mem_of_getElem? (i := 17) rfl))) (ty := .int) (by decide)
      have F_shares_b18 : Fld Z h18 b18 "tidewatch/decision/KeyGroupCeiling" "shares" "[D" .null := D18 (Or.inr (hw _ (List.mem_of_getElem? (i := 28) rfl))) (ty := (.array .double)) (by decide)
      have F_before_b18 : Fld Z h18 b18 "tidewatch/decision/KeyGroupCeiling" "before" "[D" .null := D18 (Or.inr (hw _ (List.mem_of_getElem? (i := 30) rfl))) (ty := (.array .double)) (by decide)
      show Go _ _ _ _ _ _ _ T18 (mkF m 142 #[.val (.int p0), .val (.int p1), .val (.int p2), .val (.int p3), .val (.int p4), .val (.int p5), .val (.int (2 : Int32)), .val (.long s0), .second, .val (.long s1), .second, .val (.long s2), .second, .val (.ref b9), .val (.int K), .val (.int fi), .val (.int la), .unset, .unset, .unset, .unset, .unset] [(.ref b18)])
      refine Go.step (fun _ k => XS.dup X18.here hx rfl (hb hby at_142) rfl rfl k) ?_
      show Go _ _ _ _ _ _ _ T18 (mkF m 143 #[.val (.int p0), .val (.int p1), .val (.int p2), .val (.int p3), .val (.int p4), .val (.int p5), .val (.int (2 : Int32)), .val (.long s0), .second, .val (.long s1), .second, .val (.long s2), .second, .val (.ref b9), .val (.int K), .val (.int fi), .val (.int la), .unset, .unset, .unset, .unset, .unset] [(.ref b18), (.ref b18)])
      refine Go.step (fun _ k => XS.iload X18.here hx rfl (hb hby at_143) rfl k) ?_
      show Go _ _ _ _ _ _ _ T18 (mkF m 145 #[.val (.int p0), .val (.int p1), .val (.int p2), .val (.int p3), .val (.int p4), .val (.int p5), .val (.int (2 : Int32)), .val (.long s0), .second, .val (.long s1), .second, .val (.long s2), .second, .val (.ref b9), .val (.int K), .val (.int fi), .val (.int la), .unset, .unset, .unset, .unset, .unset] [(.int K), (.ref b18), (.ref b18)])
      refine Go.step (fun _ k => XS.aload X18.here hx rfl (hb hby at_145) rfl rfl k) ?_
      show Go _ _ _ _ _ _ _ T18 (mkF m 147 #[.val (.int p0), .val (.int p1), .val (.int p2), .val (.int p3), .val (.int p4), .val (.int p5), .val (.int (2 : Int32)), .val (.long s0), .second, .val (.long s1), .second, .val (.long s2), .second, .val (.ref b9), .val (.int K), .val (.int fi), .val (.int la), .unset, .unset, .unset, .unset, .unset] [(.ref b9), (.int K), (.ref b18), (.ref b18)])
      refine Go.callI X18 hx hZ (by rw [hml]; rfl) (y := (⟨"tidewatch/decision/KeyGroupCeiling", "<init>", "(I[D)V"⟩ : MethodName)) (a := b18) (argsL := [(.int K), (.ref b9)]) (rest := [(.ref b18)]) rfl hown (hw _ (List.mem_of_getElem? (i := 10) rfl)) (hw _ (List.mem_of_getElem? (i := 11) rfl)) (hw _ (List.mem_of_getElem? (i := 9) rfl)) (hw _ (List.mem_of_getElem? (i := 12) rfl)) (by decide) (rm2_2 l Z a0 hw b18 b9 K (updN (updN (fun _ => (0 : UInt64)) 0 (FP.l2d s0)) 1 (FP.l2d s1)) h18 n0 (Nat.le_trans Z0 (K18 : Keep h0 h18 []).1) E_b18 F_keyGroups_b18 F_shares_b18 F_before_b18 E_b9_18 V_b9_18 ge_b18 (Ne.symm ne_b9_b18) hK.1 (fun i hi' => by rcases (by omega : i = 0 ∨ i = 1) with rfl | rfl; exact Jvm.Free.Fl.l2d_fin _; exact Jvm.Free.Fl.l2d_fin _) (fun i hi' => by rcases (by omega : i = 0 ∨ i = 1) with rfl | rfl; exact own_nneg hs0; exact own_nneg hs1)) e18 (hb hby at_147) (lenOf pd_4 rfl) rfl rfl (W := 1) (Nat.le_of_eq rfl) (by decide) (by decide) (by decide) (by decide) ?_
      intro v19 T19 L19 X19 Q19
      obtain ⟨rfl, N19q, Kc19, Ec19, Fk19, c19, d19, Fc19, Fd19, Vc19, Vd19, sc19, sd19, ncd19⟩ := Q19
      have N19 := Fr.app N12 N19q
      have ne_b9_c19 : b9 ≠ c19 := Nat.ne_of_lt (Nat.lt_of_lt_of_le V_b9_18.lt sc19)
      have ne_b9_d19 : b9 ≠ d19 := Nat.ne_of_lt (Nat.lt_of_lt_of_le V_b9_18.lt sd19)
      have V_b9_19 := V_b9_18.keep Kc19 (ninS ne_b9_b18 nin0)
      have E_b9_19 := E_b9_18.keep Kc19
      have E_b18_19 := E_b18.keep Kc19
      have KK19 : Keep h0 T19.heap [] := (K18 : Keep h0 h18 []).trans Kc19 (allS (Or.inr sz_b18) all0)
      show Go _ _ _ _ _ _ _ T19 (mkF m 150 #[.val (.int p0), .val (.int p1), .val (.int p2), .val (.int p3), .val (.int p4), .val (.int p5), .val (.int (2 : Int32)), .val (.long s0), .second, .val (.long s1), .second, .val (.long s2), .second, .val (.ref b9), .val (.int K), .val (.int fi), .val (.int la), .unset, .unset, .unset, .unset, .unset] [(.ref b18)])
      refine Go.step (fun _ k => XS.astore X19.here hx rfl (hb hby at_150) rfl rfl (l' := #[.val (.int p0), .val (.int p1), .val (.int p2), .val (.int p3), .val (.int p4), .val (.int p5), .val (.int (2 : Int32)), .val (.long s0), .second, .val (.long s1), .second, .val (.long s2), .second, .val (.ref b9), .val (.int K), .val (.int fi), .val (.int la), .val (.ref b18), .unset, .unset, .unset, .unset]) rfl k) ?_
      show Go _ _ _ _ _ _ _ T19 (mkF m 152 #[.val (.int p0), .val (.int p1), .val (.int p2), .val (.int p3), .val (.int p4), .val (.int p5), .val (.int (2 : Int32)), .val (.long s0), .second, .val (.long s1), .second, .val (.long s2), .second, .val (.ref b9), .val (.int K), .val (.int fi), .val (.int la), .val (.ref b18), .unset, .unset, .unset, .unset] [])
      refine Go.step (fun _ k => XS.iload X19.here hx rfl (hb hby at_152) rfl k) ?_
      show Go _ _ _ _ _ _ _ T19 (mkF m 154 #[.val (.int p0), .val (.int p1), .val (.int p2), .val (.int p3), .val (.int p4), .val (.int p5), .val (.int (2 : Int32)), .val (.long s0), .second, .val (.long s1), .second, .val (.long s2), .second, .val (.ref b9), .val (.int K), .val (.int fi), .val (.int la), .val (.ref b18), .unset, .unset, .unset, .unset] [(.int fi)])
      refine Go.step (fun _ k => XS.iload X19.here hx rfl (hb hby at_154) rfl k) ?_
      show Go _ _ _ _ _ _ _ T19 (mkF m 156 #[.val (.int p0), .val (.int p1), .val (.int p2), .val (.int p3), .val (.int p4), .val (.int p5), .val (.int (2 : Int32)), .val (.long s0), .second, .val (.long s1), .second, .val (.long s2), .second, .val (.ref b9), .val (.int K), .val (.int fi), .val (.int la), .val (.ref b18), .unset, .unset, .unset, .unset] [(.int (2 : Int32)), (.int fi)])
      refine Go.step (fun _ k => XS.iload X19.here hx rfl (hb hby at_156) rfl k) ?_
      show Go _ _ _ _ _ _ _ T19 (mkF m 158 #[.val (.int p0), .val (.int p1), .val (.int p2), .val (.int p3), .val (.int p4), .val (.int p5), .val (.int (2 : Int32)), .val (.long s0), .second, .val (.long s1), .second, .val (.long s2), .second, .val (.ref b9), .val (.int K), .val (.int fi), .val (.int la), .val (.ref b18), .unset, .unset, .unset, .unset] [(.int K), (.int (2 : Int32)), (.int fi)])
      refine Go.callS X19 hx hZ (by rw [hml]; rfl) (y := (⟨"tidewatch/decision/KeyGroupCeilingAtMostPinLaw", "ownerRef", "(III)I"⟩ : MethodName)) (argsL := [(.int fi), (.int (2 : Int32)), (.int K)]) (rest := []) hown (hw _ (List.mem_of_getElem? (i := 39) rfl)) (hw _ (List.mem_of_getElem? (i := 40) rfl)) (hw _ (List.mem_of_getElem? (i := 41) rfl)) (hw _ (List.mem_of_getElem? (i := 42) rfl)) (by decide) (rm6_2 l Z a0 hw fi K T19.heap n0 (Nat.le_trans Z0 (KK19 : Keep h0 T19.heap []).1)) rfl (hb hby at_158) (lenOf pd_5 rfl) rfl rfl (W := 0) (Nat.le_of_eq rfl) (by decide) (by decide) (by decide) (by decide) ?_
      intro v20 T20 L20 X20 Q20
      rw [ho1.1] at Q20
      obtain ⟨rfl, N20q, hh20⟩ := Q20
      have N20 := Fr.app N19 N20q
      show Go _ _ _ _ _ _ _ T20 (mkF m 161 #[.val (.int p0), .val (.int p1), .val (.int p2), .val (.int p3), .val (.int p4), .val (.int p5), .val (.int (2 : Int32)), .val (.long s0), .second, .val (.long s1), .second, .val (.long s2), .second, .val (.ref b9), .val (.int K), .val (.int fi), .val (.int la), .val (.ref b18), .unset, .unset, .unset, .unset] [(.int (0 : Int32))])
      refine Go.step (fun _ k => XS.istore X20.here hx rfl (hb hby at_161) rfl (l' := #[.val (.int p0), .val (.int p1), .val (.int p2), .val (.int p3), .val (.int p4), .val (.int p5), .val (.int (2 : Int32)), .val (.long s0), .second, .val (.long s1), .second, .val (.long s2), .second, .val (.ref b9), .val (.int K), .val (.int fi), .val (.int la), .val (.ref b18), .val (.int (0 : Int32)), .unset, .unset, .unset]) rfl k) ?_
      show Go _ _ _ _ _ _ _ T20 (mkF m 163 #[.val (.int p0), .val (.int p1), .val (.int p2), .val (.int p3), .val (.int p4), .val (.int p5), .val (.int (2 : Int32)), .val (.long s0), .second, .val (.long s1), .second, .val (.long s2), .second, .val (.ref b9), .val (.int K), .val (.int fi), .val (.int la), .val (.ref b18), .val (.int (0 : Int32)), .unset, .unset, .unset] [])
      refine Go.step (fun _ k => XS.iload X20.here hx rfl (hb hby at_163) rfl k) ?_
      show Go _ _ _ _ _ _ _ T20 (mkF m 165 #[.val (.int p0), .val (.int p1), .val (.int p2), .val (.int p3), .val (.int p4), .val (.int p5), .val (.int (2 : Int32)), .val (.long s0), .second, .val (.long s1), .second, .val (.long s2), .second, .val (.ref b9), .val (.int K), .val (.int fi), .val (.int la), .val (.ref b18), .val (.int (0 : Int32)), .unset, .unset, .unset] [(.int la)])
      refine Go.step (fun _ k => XS.iload X20.here hx rfl (hb hby at_165) rfl k) ?_
      show Go _ _ _ _ _ _ _ T20 (mkF m 167 #[.val (.int p0), .val (.int p1), .val (.int p2), .val (.int p3), .val (.int p4), .val (.int p5), .val (.int (2 : Int32)), .val (.long s0), .second, .val (.long s1), .second, .val (.long s2), .second, .val (.ref b9), .val (.int K), .val (.int fi), .val (.int la), .val (.ref b18), .val (.int (0 : Int32)), .unset, .unset, .unset] [(.int (2 : Int32)), (.int la)])
      refine Go.step (fun _ k => XS.iload X20.here hx rfl (hb hby at_167) rfl k) ?_
      show Go _ _ _ _ _ _ _ T20 (mkF m 169 #[.val (.int p0), .val (.int p1), .val (.int p2), .val (.int p3), .val (.int p4), .val (.int p5), .val (.int (2 : Int32)), .val (.long s0), .second, .val (.long s1), .second, .val (.long s2), .second, .val (.ref b9), .val (.int K), .val (.int fi), .val (.int la), .val (.ref b18), .val (.int (0 : Int32)), .unset, .unset, .unset] [(.int K), (.int (2 : Int32)), (.int la)])
      refine Go.callS X20 hx hZ (by rw [hml]; rfl) (y := (⟨"tidewatch/decision/KeyGroupCeilingAtMostPinLaw", "ownerRef", "(III)I"⟩ : MethodName)) (argsL := [(.int la), (.int (2 : Int32)), (.int K)]) (rest := []) hown (hw _ (List.mem_of_getElem? (i := 39) rfl)) (hw _ (List.mem_of_getElem? (i := 40) rfl)) (hw _ (List.mem_of_getElem? (i := 41) rfl)) (hw _ (List.mem_of_getElem? (i := 42) rfl)) (by decide) (rm6_2 l Z a0 hw la K T19.heap n0 (Nat.le_trans Z0 (KK19 : Keep h0 T19.heap []).1)) hh20 (hb hby at_169) (lenOf pd_5 rfl) rfl rfl (W := 0) (Nat.le_of_eq rfl) (by decide) (by decide) (by decide) (by decide) ?_
      intro v21 T21 L21 X21 Q21
      rw [ho2.1] at Q21
      obtain ⟨rfl, N21q, hh21⟩ := Q21
      have N21 := Fr.app N20 N21q
      show Go _ _ _ _ _ _ _ T21 (mkF m 172 #[.val (.int p0), .val (.int p1), .val (.int p2), .val (.int p3), .val (.int p4), .val (.int p5), .val (.int (2 : Int32)), .val (.long s0), .second, .val (.long s1), .second, .val (.long s2), .second, .val (.ref b9), .val (.int K), .val (.int fi), .val (.int la), .val (.ref b18), .val (.int (0 : Int32)), .unset, .unset, .unset] [(.int (1 : Int32))])
      refine Go.step (fun _ k => XS.istore X21.here hx rfl (hb hby at_172) rfl (l' := #[.val (.int p0), .val (.int p1), .val (.int p2), .val (.int p3), .val (.int p4), .val (.int p5), .val (.int (2 : Int32)), .val (.long s0), .second, .val (.long s1), .second, .val (.long s2), .second, .val (.ref b9), .val (.int K), .val (.int fi), .val (.int la), .val (.ref b18), .val (.int (0 : Int32)), .val (.int (1 : Int32)), .unset, .unset]) rfl k) ?_
      show Go _ _ _ _ _ _ _ T21 (mkF m 174 #[.val (.int p0), .val (.int p1), .val (.int p2), .val (.int p3), .val (.int p4), .val (.int p5), .val (.int (2 : Int32)), .val (.long s0), .second, .val (.long s1), .second, .val (.long s2), .second, .val (.ref b9), .val (.int K), .val (.int fi), .val (.int la), .val (.ref b18), .val (.int (0 : Int32)), .val (.int (1 : Int32)), .unset, .unset] [])
      refine Go.step (fun _ k => XS.lconst X21.here hx rfl (hb hby at_174) k) ?_
      show Go _ _ _ _ _ _ _ T21 (mkF m 175 #[.val (.int p0), .val (.int p1), .val (.int p2), .val (.int p3), .val (.int p4), .val (.int p5), .val (.int (2 : Int32)), .val (.long s0), .second, .val (.long s1), .second, .val (.long s2), .second, .val (.ref b9), .val (.int K), .val (.int fi), .val (.int la), .val (.ref b18), .val (.int (0 : Int32)), .val (.int (1 : Int32)), .unset, .unset] [(.long (0 : Int64))])
      refine Go.step (fun _ k => XS.lstore X21.here hx rfl (hb hby at_175) rfl (l' := #[.val (.int p0), .val (.int p1), .val (.int p2), .val (.int p3), .val (.int p4), .val (.int p5), .val (.int (2 : Int32)), .val (.long s0), .second, .val (.long s1), .second, .val (.long s2), .second, .val (.ref b9), .val (.int K), .val (.int fi), .val (.int la), .val (.ref b18), .val (.int (0 : Int32)), .val (.int (1 : Int32)), .val (.long (0 : Int64)), .second]) rfl k) ?_
      show Go _ _ _ _ _ _ _ T21 (mkF m 177 #[.val (.int p0), .val (.int p1), .val (.int p2), .val (.int p3), .val (.int p4), .val (.int p5), .val (.int (2 : Int32)), .val (.long s0), .second, .val (.long s1), .second, .val (.long s2), .second, .val (.ref b9), .val (.int K), .val (.int fi), .val (.int la), .val (.ref b18), .val (.int (0 : Int32)), .val (.int (1 : Int32)), .val (.long (0 : Int64)), .second] [])
      refine Go.step (fun _ k => XS.iload X21.here hx rfl (hb hby at_177) rfl k) ?_
      show Go _ _ _ _ _ _ _ T21 (mkF m 179 #[.val (.int p0), .val (.int p1), .val (.int p2), .val (.int p3), .val (.int p4), .val (.int p5), .val (.int (2 : Int32)), .val (.long s0), .second, .val (.long s1), .second, .val (.long s2), .second, .val (.ref b9), .val (.int K), .val (.int fi), .val (.int la), .val (.ref b18), .val (.int (0 : Int32)), .val (.int (1 : Int32)), .val (.long (0 : Int64)), .second] [(.int (0 : Int32))])
      refine Go.step (fun _ k => XS.ifNo X21.here hx rfl (hb hby at_179) rfl ((if0 _ _).trans (flt (by decide : ¬ ((0 : Int32) < (0 : Int32)))).2.2.1) k) ?_
      show Go _ _ _ _ _ _ _ T21 (mkF m 182 #[.val (.int p0), .val (.int p1), .val (.int p2), .val (.int p3), .val (.int p4), .val (.int p5), .val (.int (2 : Int32)), .val (.long s0), .second, .val (.long s1), .second, .val (.long s2), .second, .val (.ref b9), .val (.int K), .val (.int fi), .val (.int la), .val (.ref b18), .val (.int (0 : Int32)), .val (.int (1 : Int32)), .val (.long (0 : Int64)), .second] [])
      refine Go.step (fun _ k => XS.lload X21.here hx rfl (hb hby at_182) rfl k) ?_
      show Go _ _ _ _ _ _ _ T21 (mkF m 184 #[.val (.int p0), .val (.int p1), .val (.int p2), .val (.int p3), .val (.int p4), .val (.int p5), .val (.int (2 : Int32)), .val (.long s0), .second, .val (.long s1), .second, .val (.long s2), .second, .val (.ref b9), .val (.int K), .val (.int fi), .val (.int la), .val (.ref b18), .val (.int (0 : Int32)), .val (.int (1 : Int32)), .val (.long (0 : Int64)), .second] [(.long (0 : Int64))])
      refine Go.step (fun _ k => XS.lload X21.here hx rfl (hb hby at_184) rfl k) ?_
      show Go _ _ _ _ _ _ _ T21 (mkF m 186 #[.val (.int p0), .val (.int p1), .val (.int p2), .val (.int p3), .val (.int p4), .val (.int p5), .val (.int (2 : Int32)), .val (.long s0), .second, .val (.long s1), .second, .val (.long s2), .second, .val (.ref b9), .val (.int K), .val (.int fi), .val (.int la), .val (.ref b18), .val (.int (0 : Int32)), .val (.int (1 : Int32)), .val (.long (0 : Int64)), .second] [(.long s0), (.long (0 : Int64))])
      refine Go.step (fun _ k => XS.ladd X21.here hx rfl (hb hby at_186) rfl k) ?_
      show Go _ _ _ _ _ _ _ T21 (mkF m 187 #[.val (.int p0), .val (.int p1), .val (.int p2), .val (.int p3), .val (.int p4), .val (.int p5), .val (.int (2 : Int32)), .val (.long s0), .second, .val (.long s1), .second, .val (.long s2), .second, .val (.ref b9), .val (.int K), .val (.int fi), .val (.int la), .val (.ref b18), .val (.int (0 : Int32)), .val (.int (1 : Int32)), .val (.long (0 : Int64)), .second] [(.long ((0 : Int64) + s0))])
      refine Go.step (fun _ k => XS.lstore X21.here hx rfl (hb hby at_187) rfl (l' := #[.val (.int p0), .val (.int p1), .val (.int p2), .val (.int p3), .val (.int p4), .val (.int p5), .val (.int (2 : Int32)), .val (.long s0), .second, .val (.long s1), .second, .val (.long s2), .second, .val (.ref b9), .val (.int K), .val (.int fi), .val (.int la), .val (.ref b18), .val (.int (0 : Int32)), .val (.int (1 : Int32)), .val (.long ((0 : Int64) + s0)), .second]) rfl k) ?_
      show Go _ _ _ _ _ _ _ T21 (mkF m 189 #[.val (.int p0), .val (.int p1), .val (.int p2), .val (.int p3), .val (.int p4), .val (.int p5), .val (.int (2 : Int32)), .val (.long s0), .second, .val (.long s1), .second, .val (.long s2), .second, .val (.ref b9), .val (.int K), .val (.int fi), .val (.int la), .val (.ref b18), .val (.int (0 : Int32)), .val (.int (1 : Int32)), .val (.long ((0 : Int64) + s0)), .second] [])
      refine Go.step (fun _ k => XS.iload X21.here hx rfl (hb hby at_189) rfl k) ?_
      show Go _ _ _ _ _ _ _ T21 (mkF m 191 #[.val (.int p0), .val (.int p1), .val (.int p2), .val (.int p3), .val (.int p4), .val (.int p5), .val (.int (2 : Int32)), .val (.long s0), .second, .val (.long s1), .second, .val (.long s2), .second, .val (.ref b9), .val (.int K), .val (.int fi), .val (.int la), .val (.ref b18), .val (.int (0 : Int32)), .val (.int (1 : Int32)), .val (.long ((0 : Int64) + s0)), .second] [(.int (0 : Int32))])
      refine Go.step (fun _ k => XS.iconst X21.here hx rfl (hb hby at_191) k) ?_
      show Go _ _ _ _ _ _ _ T21 (mkF m 192 #[.val (.int p0), .val (.int p1), .val (.int p2), .val (.int p3), .val (.int p4), .val (.int p5), .val (.int (2 : Int32)), .val (.long s0), .second, .val (.long s1), .second, .val (.long s2), .second, .val (.ref b9), .val (.int K), .val (.int fi), .val (.int la), .val (.ref b18), .val (.int (0 : Int32)), .val (.int (1 : Int32)), .val (.long ((0 : Int64) + s0)), .second] [(.int (1 : Int32)), (.int (0 : Int32))])
      refine Go.step (fun _ k => XS.icmpNo X21.here hx rfl (hb hby at_192) rfl (flt (by decide : ¬ ((1 : Int32) < (0 : Int32)))).2.2.1 k) ?_
      show Go _ _ _ _ _ _ _ T21 (mkF m 195 #[.val (.int p0), .val (.int p1), .val (.int p2), .val (.int p3), .val (.int p4), .val (.int p5), .val (.int (2 : Int32)), .val (.long s0), .second, .val (.long s1), .second, .val (.long s2), .second, .val (.ref b9), .val (.int K), .val (.int fi), .val (.int la), .val (.ref b18), .val (.int (0 : Int32)), .val (.int (1 : Int32)), .val (.long ((0 : Int64) + s0)), .second] [])
      refine Go.step (fun _ k => XS.iload X21.here hx rfl (hb hby at_195) rfl k) ?_
      show Go _ _ _ _ _ _ _ T21 (mkF m 197 #[.val (.int p0), .val (.int p1), .val (.int p2), .val (.int p3), .val (.int p4), .val (.int p5), .val (.int (2 : Int32)), .val (.long s0), .second, .val (.long s1), .second, .val (.long s2), .second, .val (.ref b9), .val (.int K), .val (.int fi), .val (.int la), .val (.ref b18), .val (.int (0 : Int32)), .val (.int (1 : Int32)), .val (.long ((0 : Int64) + s0)), .second] [(.int (1 : Int32))])
      refine Go.step (fun _ k => XS.iconst X21.here hx rfl (hb hby at_197) k) ?_
      show Go _ _ _ _ _ _ _ T21 (mkF m 198 #[.val (.int p0), .val (.int p1), .val (.int p2), .val (.int p3), .val (.int p4), .val (.int p5), .val (.int (2 : Int32)), .val (.long s0), .second, .val (.long s1), .second, .val (.long s2), .second, .val (.ref b9), .val (.int K), .val (.int fi), .val (.int la), .val (.ref b18), .val (.int (0 : Int32)), .val (.int (1 : Int32)), .val (.long ((0 : Int64) + s0)), .second] [(.int (1 : Int32)), (.int (1 : Int32))])
      refine Go.step (fun _ k => XS.icmpNo X21.here hx rfl (hb hby at_198) rfl (flt (by decide : ¬ ((1 : Int32) < (1 : Int32)))).1 k) ?_
      show Go _ _ _ _ _ _ _ T21 (mkF m 201 #[.val (.int p0), .val (.int p1), .val (.int p2), .val (.int p3), .val (.int p4), .val (.int p5), .val (.int (2 : Int32)), .val (.long s0), .second, .val (.long s1), .second, .val (.long s2), .second, .val (.ref b9), .val (.int K), .val (.int fi), .val (.int la), .val (.ref b18), .val (.int (0 : Int32)), .val (.int (1 : Int32)), .val (.long ((0 : Int64) + s0)), .second] [])
      refine Go.step (fun _ k => XS.lload X21.here hx rfl (hb hby at_201) rfl k) ?_
      show Go _ _ _ _ _ _ _ T21 (mkF m 203 #[.val (.int p0), .val (.int p1), .val (.int p2), .val (.int p3), .val (.int p4), .val (.int p5), .val (.int (2 : Int32)), .val (.long s0), .second, .val (.long s1), .second, .val (.long s2), .second, .val (.ref b9), .val (.int K), .val (.int fi), .val (.int la), .val (.ref b18), .val (.int (0 : Int32)), .val (.int (1 : Int32)), .val (.long ((0 : Int64) + s0)), .second] [(.long ((0 : Int64) + s0))])
      refine Go.step (fun _ k => XS.lload X21.here hx rfl (hb hby at_203) rfl k) ?_
      show Go _ _ _ _ _ _ _ T21 (mkF m 205 #[.val (.int p0), .val (.int p1), .val (.int p2), .val (.int p3), .val (.int p4), .val (.int p5), .val (.int (2 : Int32)), .val (.long s0), .second, .val (.long s1), .second, .val (.long s2), .second, .val (.ref b9), .val (.int K), .val (.int fi), .val (.int la), .val (.ref b18), .val (.int (0 : Int32)), .val (.int (1 : Int32)), .val (.long ((0 : Int64) + s0)), .second] [(.long s1), (.long ((0 : Int64) + s0))])
      refine Go.step (fun _ k => XS.ladd X21.here hx rfl (hb hby at_205) rfl k) ?_
      show Go _ _ _ _ _ _ _ T21 (mkF m 206 #[.val (.int p0), .val (.int p1), .val (.int p2), .val (.int p3), .val (.int p4), .val (.int p5), .val (.int (2 : Int32)), .val (.long s0), .second, .val (.long s1), .second, .val (.long s2), .second, .val (.ref b9), .val (.int K), .val (.int fi), .val (.int la), .val (.ref b18), .val (.int (0 : Int32)), .val (.int (1 : Int32)), .val (.long ((0 : Int64) + s0)), .second] [(.long (((0 : Int64) + s0) + s1))])
      refine Go.step (fun _ k => XS.lstore X21.here hx rfl (hb hby at_206) rfl (l' := #[.val (.int p0), .val (.int p1), .val (.int p2), .val (.int p3), .val (.int p4), .val (.int p5), .val (.int (2 : Int32)), .val (.long s0), .second, .val (.long s1), .second, .val (.long s2), .second, .val (.ref b9), .val (.int K), .val (.int fi), .val (.int la), .val (.ref b18), .val (.int (0 : Int32)), .val (.int (1 : Int32)), .val (.long (((0 : Int64) + s0) + s1)), .second]) rfl k) ?_
      show Go _ _ _ _ _ _ _ T21 (mkF m 208 #[.val (.int p0), .val (.int p1), .val (.int p2), .val (.int p3), .val (.int p4), .val (.int p5), .val (.int (2 : Int32)), .val (.long s0), .second, .val (.long s1), .second, .val (.long s2), .second, .val (.ref b9), .val (.int K), .val (.int fi), .val (.int la), .val (.ref b18), .val (.int (0 : Int32)), .val (.int (1 : Int32)), .val (.long (((0 : Int64) + s0) + s1)), .second] [])
      refine Go.step (fun _ k => XS.iload X21.here hx rfl (hb hby at_208) rfl k) ?_
      show Go _ _ _ _ _ _ _ T21 (mkF m 210 #[.val (.int p0), .val (.int p1), .val (.int p2), .val (.int p3), .val (.int p4), .val (.int p5), .val (.int (2 : Int32)), .val (.long s0), .second, .val (.long s1), .second, .val (.long s2), .second, .val (.ref b9), .val (.int K), .val (.int fi), .val (.int la), .val (.ref b18), .val (.int (0 : Int32)), .val (.int (1 : Int32)), .val (.long (((0 : Int64) + s0) + s1)), .second] [(.int (0 : Int32))])
      refine Go.step (fun _ k => XS.iconst X21.here hx rfl (hb hby at_210) k) ?_
      show Go _ _ _ _ _ _ _ T21 (mkF m 211 #[.val (.int p0), .val (.int p1), .val (.int p2), .val (.int p3), .val (.int p4), .val (.int p5), .val (.int (2 : Int32)), .val (.long s0), .second, .val (.long s1), .second, .val (.long s2), .second, .val (.ref b9), .val (.int K), .val (.int fi), .val (.int la), .val (.ref b18), .val (.int (0 : Int32)), .val (.int (1 : Int32)), .val (.long (((0 : Int64) + s0) + s1)), .second] [(.int (2 : Int32)), (.int (0 : Int32))])
      refine Go.step (fun _ k => XS.icmpNo X21.here hx rfl (hb hby at_211) rfl (flt (by decide : ¬ ((2 : Int32) < (0 : Int32)))).2.2.1 k) ?_
      show Go _ _ _ _ _ _ _ T21 (mkF m 214 #[.val (.int p0), .val (.int p1), .val (.int p2), .val (.int p3), .val (.int p4), .val (.int p5), .val (.int (2 : Int32)), .val (.long s0), .second, .val (.long s1), .second, .val (.long s2), .second, .val (.ref b9), .val (.int K), .val (.int fi), .val (.int la), .val (.ref b18), .val (.int (0 : Int32)), .val (.int (1 : Int32)), .val (.long (((0 : Int64) + s0) + s1)), .second] [])
      refine Go.step (fun _ k => XS.iload X21.here hx rfl (hb hby at_214) rfl k) ?_
      show Go _ _ _ _ _ _ _ T21 (mkF m 216 #[.val (.int p0), .val (.int p1), .val (.int p2), .val (.int p3), .val (.int p4), .val (.int p5), .val (.int (2 : Int32)), .val (.long s0), .second, .val (.long s1), .second, .val (.long s2), .second, .val (.ref b9), .val (.int K), .val (.int fi), .val (.int la), .val (.ref b18), .val (.int (0 : Int32)), .val (.int (1 : Int32)), .val (.long (((0 : Int64) + s0) + s1)), .second] [(.int (1 : Int32))])
      refine Go.step (fun _ k => XS.iconst X21.here hx rfl (hb hby at_216) k) ?_
      show Go _ _ _ _ _ _ _ T21 (mkF m 217 #[.val (.int p0), .val (.int p1), .val (.int p2), .val (.int p3), .val (.int p4), .val (.int p5), .val (.int (2 : Int32)), .val (.long s0), .second, .val (.long s1), .second, .val (.long s2), .second, .val (.ref b9), .val (.int K), .val (.int fi), .val (.int la), .val (.ref b18), .val (.int (0 : Int32)), .val (.int (1 : Int32)), .val (.long (((0 : Int64) + s0) + s1)), .second] [(.int (2 : Int32)), (.int (1 : Int32))])
      refine Go.step (fun _ k => XS.icmpYes X21.here hx rfl (pc0 := 217) (pc' := 227) rfl (hb hby at_217) rfl (tlt (by decide : (1 : Int32) < (2 : Int32))).1 (by decide) (by decide) k) ?_
      have hAt : FP.dcmp (FP.dsub ((updN (updN (fun _ => (0 : UInt64)) 1 (FP.dadd (0 : UInt64) ((updN (updN (fun _ => (0 : UInt64)) 0 (FP.l2d s0)) 1 (FP.l2d s1)) 0))) 2 (FP.dadd (FP.dadd (0 : UInt64) ((updN (updN (fun _ => (0 : UInt64)) 0 (FP.l2d s0)) 1 (FP.l2d s1)) 0)) ((updN (updN (fun _ => (0 : UInt64)) 0 (FP.l2d s0)) 1 (FP.l2d s1)) 1))) 2) ((updN (updN (fun _ => (0 : UInt64)) 1 (FP.dadd (0 : UInt64) ((updN (updN (fun _ => (0 : UInt64)) 0 (FP.l2d s0)) 1 (FP.l2d s1)) 0))) 2 (FP.dadd (FP.dadd (0 : UInt64) ((updN (updN (fun _ => (0 : UInt64)) 0 (FP.l2d s0)) 1 (FP.l2d s1)) 0)) ((updN (updN (fun _ => (0 : UInt64)) 0 (FP.l2d s0)) 1 (FP.l2d s1)) 1))) 0)) (FP.l2d (((0 : Int64) + s0) + s1)) = some .eq := by
        have t0 := hs0.1; have t1 := hs0.2; have t2 := hs1.1; have t3 := hs1.2; have t4 := hs2.1; have t5 := hs2.2
        have e1 := own_sum (a := s0) (b := s1) t0 (by omega) hs1
        have e2 := own_sum (a := s0 + s1) (b := s2) (by omega) (by omega) hs2
        have hd : (s0 + s1) - (0 : Int64) = (((0 : Int64) + s0) + s1) := own_eq64 (by
          have := c_ladd s0 s1
          have := c_ladd (s0 + s1) s2
          have := c_ladd (0 : Int64) s0
          have := c_ladd ((0 : Int64) + s0) s1
          have := c_lsub (s0 + s1) (0 : Int64)
          have : (0 : Int64).toInt = 0 := rfl
          omega)
        exact own_at (a := (s0 + s1)) (b := (0 : Int64)) (own_d2 hs0 hs1) l2d_zero.symm (by first | omega | decide) (by first | omega | decide) (by first | omega | decide) (by first | omega | decide) hd
      show Go _ _ _ _ _ _ _ T21 (mkF m 227 #[.val (.int p0), .val (.int p1), .val (.int p2), .val (.int p3), .val (.int p4), .val (.int p5), .val (.int (2 : Int32)), .val (.long s0), .second, .val (.long s1), .second, .val (.long s2), .second, .val (.ref b9), .val (.int K), .val (.int fi), .val (.int la), .val (.ref b18), .val (.int (0 : Int32)), .val (.int (1 : Int32)), .val (.long (((0 : Int64) + s0) + s1)), .second] [])
      refine Go.step (fun _ k => XS.aload X21.here hx rfl (hb hby at_227) rfl rfl k) ?_
      show Go _ _ _ _ _ _ _ T21 (mkF m 229 #[.val (.int p0), .val (.int p1), .val (.int p2), .val (.int p3), .val (.int p4), .val (.int p5), .val (.int (2 : Int32)), .val (.long s0), .second, .val (.long s1), .second, .val (.long s2), .second, .val (.ref b9), .val (.int K), .val (.int fi), .val (.int la), .val (.ref b18), .val (.int (0 : Int32)), .val (.int (1 : Int32)), .val (.long (((0 : Int64) + s0) + s1)), .second] [(.ref b18)])
      refine Go.step (fun _ k => XS.iload X21.here hx rfl (hb hby at_229) rfl k) ?_
      show Go _ _ _ _ _ _ _ T21 (mkF m 231 #[.val (.int p0), .val (.int p1), .val (.int p2), .val (.int p3), .val (.int p4), .val (.int p5), .val (.int (2 : Int32)), .val (.long s0), .second, .val (.long s1), .second, .val (.long s2), .second, .val (.ref b9), .val (.int K), .val (.int fi), .val (.int la), .val (.ref b18), .val (.int (0 : Int32)), .val (.int (1 : Int32)), .val (.long (((0 : Int64) + s0) + s1)), .second] [(.int fi), (.ref b18)])
      refine Go.step (fun _ k => XS.iload X21.here hx rfl (hb hby at_231) rfl k) ?_
      show Go _ _ _ _ _ _ _ T21 (mkF m 233 #[.val (.int p0), .val (.int p1), .val (.int p2), .val (.int p3), .val (.int p4), .val (.int p5), .val (.int (2 : Int32)), .val (.long s0), .second, .val (.long s1), .second, .val (.long s2), .second, .val (.ref b9), .val (.int K), .val (.int fi), .val (.int la), .val (.ref b18), .val (.int (0 : Int32)), .val (.int (1 : Int32)), .val (.long (((0 : Int64) + s0) + s1)), .second] [(.int la), (.int fi), (.ref b18)])
      refine Go.callV X21 hx hZ (by rw [hml]; rfl) (y := (⟨"tidewatch/decision/KeyGroupCeiling", "atMost", "(II)D"⟩ : MethodName)) (z := (⟨"tidewatch/decision/KeyGroupCeiling", "atMost", "(II)D"⟩ : MethodName)) (a := b18) (argsL := [(.int fi), (.int la)]) (rest := []) hown (hw _ (List.mem_of_getElem? (i := 44) rfl)) (hw _ (List.mem_of_getElem? (i := 45) rfl)) (notFace_of_selects (args := #[]) (mvT hZ (hw _ (List.mem_of_getElem? (i := 47) rfl)))) (hw _ (List.mem_of_getElem? (i := 47) rfl)) (hw _ (List.mem_of_getElem? (i := 46) rfl)) (hw _ (List.mem_of_getElem? (i := 9) rfl)) (hw _ (List.mem_of_getElem? (i := 48) rfl)) (by decide) (rm7_201 l Z a0 hw b18 fi la c19 d19 K (updN (updN (fun _ => (0 : UInt64)) 0 (FP.l2d s0)) 1 (FP.l2d s1)) (updN (updN (fun _ => (0 : UInt64)) 1 (FP.dadd (0 : UInt64) ((updN (updN (fun _ => (0 : UInt64)) 0 (FP.l2d s0)) 1 (FP.l2d s1)) 0))) 2 (FP.dadd (FP.dadd (0 : UInt64) ((updN (updN (fun _ => (0 : UInt64)) 0 (FP.l2d s0)) 1 (FP.l2d s1)) 0)) ((updN (updN (fun _ => (0 : UInt64)) 0 (FP.l2d s0)) 1 (FP.l2d s1)) 1))) T19.heap n0 (Nat.le_trans Z0 (KK19 : Keep h0 T19.heap []).1) Ec19 Fk19 Fc19 Vc19 Fd19 Vd19 hK.2 ho1.2 ho2.2 (own_nnN (Jvm.FP.Core.dcmp_some hAt).1)) hh21 Ec19 (hb hby at_233) (lenOf pd_6 rfl) rfl rfl (W := 0) (Nat.le_of_eq rfl) (by decide) (by decide) (by decide) (by decide) ?_
      intro v22 T22 L22 X22 Q22
      obtain ⟨rfl, N22q, hh22⟩ := Q22
      have N22 := Fr.app N21 N22q
      show Go _ _ _ _ _ _ _ T22 (mkF m 236 #[.val (.int p0), .val (.int p1), .val (.int p2), .val (.int p3), .val (.int p4), .val (.int p5), .val (.int (2 : Int32)), .val (.long s0), .second, .val (.long s1), .second, .val (.long s2), .second, .val (.ref b9), .val (.int K), .val (.int fi), .val (.int la), .val (.ref b18), .val (.int (0 : Int32)), .val (.int (1 : Int32)), .val (.long (((0 : Int64) + s0) + s1)), .second] [(.double (FP.dsub ((updN (updN (fun _ => (0 : UInt64)) 1 (FP.dadd (0 : UInt64) ((updN (updN (fun _ => (0 : UInt64)) 0 (FP.l2d s0)) 1 (FP.l2d s1)) 0))) 2 (FP.dadd (FP.dadd (0 : UInt64) ((updN (updN (fun _ => (0 : UInt64)) 0 (FP.l2d s0)) 1 (FP.l2d s1)) 0)) ((updN (updN (fun _ => (0 : UInt64)) 0 (FP.l2d s0)) 1 (FP.l2d s1)) 1))) 2) ((updN (updN (fun _ => (0 : UInt64)) 1 (FP.dadd (0 : UInt64) ((updN (updN (fun _ => (0 : UInt64)) 0 (FP.l2d s0)) 1 (FP.l2d s1)) 0))) 2 (FP.dadd (FP.dadd (0 : UInt64) ((updN (updN (fun _ => (0 : UInt64)) 0 (FP.l2d s0)) 1 (FP.l2d s1)) 0)) ((updN (updN (fun _ => (0 : UInt64)) 0 (FP.l2d s0)) 1 (FP.l2d s1)) 1))) 0)))])
      refine Go.step (fun _ k => XS.lload X22.here hx rfl (hb hby at_236) rfl k) ?_
      show Go _ _ _ _ _ _ _ T22 (mkF m 238 #[.val (.int p0), .val (.int p1), .val (.int p2), .val (.int p3), .val (.int p4), .val (.int p5), .val (.int (2 : Int32)), .val (.long s0), .second, .val (.long s1), .second, .val (.long s2), .second, .val (.ref b9), .val (.int K), .val (.int fi), .val (.int la), .val (.ref b18), .val (.int (0 : Int32)), .val (.int (1 : Int32)), .val (.long (((0 : Int64) + s0) + s1)), .second] [(.long (((0 : Int64) + s0) + s1)), (.double (FP.dsub ((updN (updN (fun _ => (0 : UInt64)) 1 (FP.dadd (0 : UInt64) ((updN (updN (fun _ => (0 : UInt64)) 0 (FP.l2d s0)) 1 (FP.l2d s1)) 0))) 2 (FP.dadd (FP.dadd (0 : UInt64) ((updN (updN (fun _ => (0 : UInt64)) 0 (FP.l2d s0)) 1 (FP.l2d s1)) 0)) ((updN (updN (fun _ => (0 : UInt64)) 0 (FP.l2d s0)) 1 (FP.l2d s1)) 1))) 2) ((updN (updN (fun _ => (0 : UInt64)) 1 (FP.dadd (0 : UInt64) ((updN (updN (fun _ => (0 : UInt64)) 0 (FP.l2d s0)) 1 (FP.l2d s1)) 0))) 2 (FP.dadd (FP.dadd (0 : UInt64) ((updN (updN (fun _ => (0 : UInt64)) 0 (FP.l2d s0)) 1 (FP.l2d s1)) 0)) ((updN (updN (fun _ => (0 : UInt64)) 0 (FP.l2d s0)) 1 (FP.l2d s1)) 1))) 0)))])
      refine Go.step (fun _ k => XS.l2dS X22.here hx rfl (hb hby at_238) rfl rfl k) ?_
      show Go _ _ _ _ _ _ _ T22 (mkF m 239 #[.val (.int p0), .val (.int p1), .val (.int p2), .val (.int p3), .val (.int p4), .val (.int p5), .val (.int (2 : Int32)), .val (.long s0), .second, .val (.long s1), .second, .val (.long s2), .second, .val (.ref b9), .val (.int K), .val (.int fi), .val (.int la), .val (.ref b18), .val (.int (0 : Int32)), .val (.int (1 : Int32)), .val (.long (((0 : Int64) + s0) + s1)), .second] [(.double (FP.l2d (((0 : Int64) + s0) + s1))), (.double (FP.dsub ((updN (updN (fun _ => (0 : UInt64)) 1 (FP.dadd (0 : UInt64) ((updN (updN (fun _ => (0 : UInt64)) 0 (FP.l2d s0)) 1 (FP.l2d s1)) 0))) 2 (FP.dadd (FP.dadd (0 : UInt64) ((updN (updN (fun _ => (0 : UInt64)) 0 (FP.l2d s0)) 1 (FP.l2d s1)) 0)) ((updN (updN (fun _ => (0 : UInt64)) 0 (FP.l2d s0)) 1 (FP.l2d s1)) 1))) 2) ((updN (updN (fun _ => (0 : UInt64)) 1 (FP.dadd (0 : UInt64) ((updN (updN (fun _ => (0 : UInt64)) 0 (FP.l2d s0)) 1 (FP.l2d s1)) 0))) 2 (FP.dadd (FP.dadd (0 : UInt64) ((updN (updN (fun _ => (0 : UInt64)) 0 (FP.l2d s0)) 1 (FP.l2d s1)) 0)) ((updN (updN (fun _ => (0 : UInt64)) 0 (FP.l2d s0)) 1 (FP.l2d s1)) 1))) 0)))])
      refine Go.step (fun _ k => XS.dcmpS X22.here hx rfl (hb hby at_239) rfl rfl k) ?_
      show Go _ _ _ _ _ _ _ T22 (mkF m 240 #[.val (.int p0), .val (.int p1), .val (.int p2), .val (.int p3), .val (.int p4), .val (.int p5), .val (.int (2 : Int32)), .val (.long s0), .second, .val (.long s1), .second, .val (.long s2), .second, .val (.ref b9), .val (.int K), .val (.int fi), .val (.int la), .val (.ref b18), .val (.int (0 : Int32)), .val (.int (1 : Int32)), .val (.long (((0 : Int64) + s0) + s1)), .second] [(.int (cmpValue (FP.dcmp (FP.dsub ((updN (updN (fun _ => (0 : UInt64)) 1 (FP.dadd (0 : UInt64) ((updN (updN (fun _ => (0 : UInt64)) 0 (FP.l2d s0)) 1 (FP.l2d s1)) 0))) 2 (FP.dadd (FP.dadd (0 : UInt64) ((updN (updN (fun _ => (0 : UInt64)) 0 (FP.l2d s0)) 1 (FP.l2d s1)) 0)) ((updN (updN (fun _ => (0 : UInt64)) 0 (FP.l2d s0)) 1 (FP.l2d s1)) 1))) 2) ((updN (updN (fun _ => (0 : UInt64)) 1 (FP.dadd (0 : UInt64) ((updN (updN (fun _ => (0 : UInt64)) 0 (FP.l2d s0)) 1 (FP.l2d s1)) 0))) 2 (FP.dadd (FP.dadd (0 : UInt64) ((updN (updN (fun _ => (0 : UInt64)) 0 (FP.l2d s0)) 1 (FP.l2d s1)) 0)) ((updN (updN (fun _ => (0 : UInt64)) 0 (FP.l2d s0)) 1 (FP.l2d s1)) 1))) 0)) (FP.l2d (((0 : Int64) + s0) + s1))) .l))])
      refine Go.step (fun _ k => XS.ifNo X22.here hx rfl (hb hby at_240) rfl (eq_y .l hAt).1 k) ?_
      show Go _ _ _ _ _ _ _ T22 (mkF m 243 #[.val (.int p0), .val (.int p1), .val (.int p2), .val (.int p3), .val (.int p4), .val (.int p5), .val (.int (2 : Int32)), .val (.long s0), .second, .val (.long s1), .second, .val (.long s2), .second, .val (.ref b9), .val (.int K), .val (.int fi), .val (.int la), .val (.ref b18), .val (.int (0 : Int32)), .val (.int (1 : Int32)), .val (.long (((0 : Int64) + s0) + s1)), .second] [])
      refine Go.step (fun _ k => XS.iconst X22.here hx rfl (hb hby at_243) k) ?_
      show Go _ _ _ _ _ _ _ T22 (mkF m 244 #[.val (.int p0), .val (.int p1), .val (.int p2), .val (.int p3), .val (.int p4), .val (.int p5), .val (.int (2 : Int32)), .val (.long s0), .second, .val (.long s1), .second, .val (.long s2), .second, .val (.ref b9), .val (.int K), .val (.int fi), .val (.int la), .val (.ref b18), .val (.int (0 : Int32)), .val (.int (1 : Int32)), .val (.long (((0 : Int64) + s0) + s1)), .second] [(.int (1 : Int32))])
      refine Go.step (fun _ k => XS.goto X22.here hx rfl (pc0 := 244) (pc' := 248) rfl (hb hby at_244) (by decide) (by decide) k) ?_
      show Go _ _ _ _ _ _ _ T22 (mkF m 248 #[.val (.int p0), .val (.int p1), .val (.int p2), .val (.int p3), .val (.int p4), .val (.int p5), .val (.int (2 : Int32)), .val (.long s0), .second, .val (.long s1), .second, .val (.long s2), .second, .val (.ref b9), .val (.int K), .val (.int fi), .val (.int la), .val (.ref b18), .val (.int (0 : Int32)), .val (.int (1 : Int32)), .val (.long (((0 : Int64) + s0) + s1)), .second] [(.int (1 : Int32))])
      refine Go.retZ X22 hx hlk hret (by decide) (hb hby at_248) (by decide) (by decide) ?_
      try rw [hh22]
      exact ⟨rfl, N22⟩
    · show Go _ _ _ _ _ _ _ T12 (mkF m 139 #[.val (.int p0), .val (.int p1), .val (.int p2), .val (.int p3), .val (.int p4), .val (.int p5), .val (.int (2 : Int32)), .val (.long s0), .second, .val (.long s1), .second, .val (.long s2), .second, .val (.ref b9), .val (.int K), .val (.int fi), .val (.int la), .unset, .unset, .unset, .unset, .unset] [])
      obtain ⟨T23, h23, X23, e23, E23, A23, D23, -, st23⟩ := newO X12 hx hZ hown (hw _ (List.mem_of_getElem? (i := 7) rfl)) (hw _ (List.mem_of_getElem? (i := 8) rfl)) (hw _ (List.mem_of_getElem? (i := 9) rfl)) hh12 (g := (mkF m 139 #[.val (.int p0), .val (.int p1), .val (.int p2), .val (.int p3), .val (.int p4), .val (.int p5), .val (.int (2 : Int32)), .val (.long s0), .second, .val (.long s1), .second, .val (.long s2), .second, .val (.ref b9), .val (.int K), .val (.int fi), .val (.int la), .unset, .unset, .unset, .unset, .unset] [])) rfl (hb hby at_139) (by decide) (by decide)
      obtain ⟨b23, g23⟩ : ∃ z, z = h11.size := ⟨_, rfl⟩
      rw [← g23] at A23 D23 st23
      refine Go.step st23 ?_
      have K23 : Keep h0 h23 [] := K11.ext E23
      have sz_b23 : h0.size ≤ b23 := Nat.le_trans (K11 : Keep h0 h11 []).1 (Nat.le_of_eq g23.symm)
      have ge_b23 : n0 ≤ b23 := Nat.le_trans Z0 sz_b23
      have ne_b9_b23 : b9 ≠ b23 := Nat.ne_of_lt (Nat.lt_of_lt_of_le V_b9_11.lt (Nat.le_of_eq g23.symm))
      have V_b9_23 := V_b9_11.ext E23
      have E_b9_23 := E_b9_11.ext E23
      have E_b23 := A23
      have F_keyGroups_b23 : Fld Z h23 b23 "tidewatch/decision/KeyGroupCeiling" "keyGroups" "I" (.int (0 : Int32)) := D23 (Or.inr (hw _ (List.mem_of_getElem? (i := 17) rfl))) (ty := .int) (by decide)
      have F_shares_b23 : Fld Z h23 b23 "tidewatch/decision/KeyGroupCeiling" "shares" "[D" .null := D23 (Or.inr (hw _ (List.mem_of_getElem? (i := 28) rfl))) (ty := (.array .double)) (by decide)
      have F_before_b23 : Fld Z h23 b23 "tidewatch/decision/KeyGroupCeiling" "before" "[D" .null := D23 (Or.inr (hw _ (List.mem_of_getElem? (i := 30) rfl))) (ty := (.array .double)) (by decide)
      show Go _ _ _ _ _ _ _ T23 (mkF m 142 #[.val (.int p0), .val (.int p1), .val (.int p2), .val (.int p3), .val (.int p4), .val (.int p5), .val (.int (2 : Int32)), .val (.long s0), .second, .val (.long s1), .second, .val (.long s2), .second, .val (.ref b9), .val (.int K), .val (.int fi), .val (.int la), .unset, .unset, .unset, .unset, .unset] [(.ref b23)])
      refine Go.step (fun _ k => XS.dup X23.here hx rfl (hb hby at_142) rfl rfl k) ?_
      show Go _ _ _ _ _ _ _ T23 (mkF m 143 #[.val (.int p0), .val (.int p1), .val (.int p2), .val (.int p3), .val (.int p4), .val (.int p5), .val (.int (2 : Int32)), .val (.long s0), .second, .val (.long s1), .second, .val (.long s2), .second, .val (.ref b9), .val (.int K), .val (.int fi), .val (.int la), .unset, .unset, .unset, .unset, .unset] [(.ref b23), (.ref b23)])
      refine Go.step (fun _ k => XS.iload X23.here hx rfl (hb hby at_143) rfl k) ?_
      show Go _ _ _ _ _ _ _ T23 (mkF m 145 #[.val (.int p0), .val (.int p1), .val (.int p2), .val (.int p3), .val (.int p4), .val (.int p5), .val (.int (2 : Int32)), .val (.long s0), .second, .val (.long s1), .second, .val (.long s2), .second, .val (.ref b9), .val (.int K), .val (.int fi), .val (.int la), .unset, .unset, .unset, .unset, .unset] [(.int K), (.ref b23), (.ref b23)])
      refine Go.step (fun _ k => XS.aload X23.here hx rfl (hb hby at_145) rfl rfl k) ?_
      show Go _ _ _ _ _ _ _ T23 (mkF m 147 #[.val (.int p0), .val (.int p1), .val (.int p2), .val (.int p3), .val (.int p4), .val (.int p5), .val (.int (2 : Int32)), .val (.long s0), .second, .val (.long s1), .second, .val (.long s2), .second, .val (.ref b9), .val (.int K), .val (.int fi), .val (.int la), .unset, .unset, .unset, .unset, .unset] [(.ref b9), (.int K), (.ref b23), (.ref b23)])
      refine Go.callI X23 hx hZ (by rw [hml]; rfl) (y := (⟨"tidewatch/decision/KeyGroupCeiling", "<init>", "(I[D)V"⟩ : MethodName)) (a := b23) (argsL := [(.int K), (.ref b9)]) (rest := [(.ref b23)]) rfl hown (hw _ (List.mem_of_getElem? (i := 10) rfl)) (hw _ (List.mem_of_getElem? (i := 11) rfl)) (hw _ (List.mem_of_getElem? (i := 9) rfl)) (hw _ (List.mem_of_getElem? (i := 12) rfl)) (by decide) (rm2_2 l Z a0 hw b23 b9 K (updN (updN (fun _ => (0 : UInt64)) 0 (FP.l2d s0)) 1 (FP.l2d s1)) h23 n0 (Nat.le_trans Z0 (K23 : Keep h0 h23 []).1) E_b23 F_keyGroups_b23 F_shares_b23 F_before_b23 E_b9_23 V_b9_23 ge_b23 (Ne.symm ne_b9_b23) hK.1 (fun i hi' => by rcases (by omega : i = 0 ∨ i = 1) with rfl | rfl; exact Jvm.Free.Fl.l2d_fin _; exact Jvm.Free.Fl.l2d_fin _) (fun i hi' => by rcases (by omega : i = 0 ∨ i = 1) with rfl | rfl; exact own_nneg hs0; exact own_nneg hs1)) e23 (hb hby at_147) (lenOf pd_4 rfl) rfl rfl (W := 1) (Nat.le_of_eq rfl) (by decide) (by decide) (by decide) (by decide) ?_
      intro v24 T24 L24 X24 Q24
      obtain ⟨rfl, N24q, Kc24, Ec24, Fk24, c24, d24, Fc24, Fd24, Vc24, Vd24, sc24, sd24, ncd24⟩ := Q24
      have N24 := Fr.app N12 N24q
      have ne_b9_c24 : b9 ≠ c24 := Nat.ne_of_lt (Nat.lt_of_lt_of_le V_b9_23.lt sc24)
      have ne_b9_d24 : b9 ≠ d24 := Nat.ne_of_lt (Nat.lt_of_lt_of_le V_b9_23.lt sd24)
      have V_b9_24 := V_b9_23.keep Kc24 (ninS ne_b9_b23 nin0)
      have E_b9_24 := E_b9_23.keep Kc24
      have E_b23_24 := E_b23.keep Kc24
      have KK24 : Keep h0 T24.heap [] := (K23 : Keep h0 h23 []).trans Kc24 (allS (Or.inr sz_b23) all0)
      show Go _ _ _ _ _ _ _ T24 (mkF m 150 #[.val (.int p0), .val (.int p1), .val (.int p2), .val (.int p3), .val (.int p4), .val (.int p5), .val (.int (2 : Int32)), .val (.long s0), .second, .val (.long s1), .second, .val (.long s2), .second, .val (.ref b9), .val (.int K), .val (.int fi), .val (.int la), .unset, .unset, .unset, .unset, .unset] [(.ref b23)])
      refine Go.step (fun _ k => XS.astore X24.here hx rfl (hb hby at_150) rfl rfl (l' := #[.val (.int p0), .val (.int p1), .val (.int p2), .val (.int p3), .val (.int p4), .val (.int p5), .val (.int (2 : Int32)), .val (.long s0), .second, .val (.long s1), .second, .val (.long s2), .second, .val (.ref b9), .val (.int K), .val (.int fi), .val (.int la), .val (.ref b23), .unset, .unset, .unset, .unset]) rfl k) ?_
      show Go _ _ _ _ _ _ _ T24 (mkF m 152 #[.val (.int p0), .val (.int p1), .val (.int p2), .val (.int p3), .val (.int p4), .val (.int p5), .val (.int (2 : Int32)), .val (.long s0), .second, .val (.long s1), .second, .val (.long s2), .second, .val (.ref b9), .val (.int K), .val (.int fi), .val (.int la), .val (.ref b23), .unset, .unset, .unset, .unset] [])
      refine Go.step (fun _ k => XS.iload X24.here hx rfl (hb hby at_152) rfl k) ?_
      show Go _ _ _ _ _ _ _ T24 (mkF m 154 #[.val (.int p0), .val (.int p1), .val (.int p2), .val (.int p3), .val (.int p4), .val (.int p5), .val (.int (2 : Int32)), .val (.long s0), .second, .val (.long s1), .second, .val (.long s2), .second, .val (.ref b9), .val (.int K), .val (.int fi), .val (.int la), .val (.ref b23), .unset, .unset, .unset, .unset] [(.int fi)])
      refine Go.step (fun _ k => XS.iload X24.here hx rfl (hb hby at_154) rfl k) ?_
      show Go _ _ _ _ _ _ _ T24 (mkF m 156 #[.val (.int p0), .val (.int p1), .val (.int p2), .val (.int p3), .val (.int p4), .val (.int p5), .val (.int (2 : Int32)), .val (.long s0), .second, .val (.long s1), .second, .val (.long s2), .second, .val (.ref b9), .val (.int K), .val (.int fi), .val (.int la), .val (.ref b23), .unset, .unset, .unset, .unset] [(.int (2 : Int32)), (.int fi)])
      refine Go.step (fun _ k => XS.iload X24.here hx rfl (hb hby at_156) rfl k) ?_
      show Go _ _ _ _ _ _ _ T24 (mkF m 158 #[.val (.int p0), .val (.int p1), .val (.int p2), .val (.int p3), .val (.int p4), .val (.int p5), .val (.int (2 : Int32)), .val (.long s0), .second, .val (.long s1), .second, .val (.long s2), .second, .val (.ref b9), .val (.int K), .val (.int fi), .val (.int la), .val (.ref b23), .unset, .unset, .unset, .unset] [(.int K), (.int (2 : Int32)), (.int fi)])
      refine Go.callS X24 hx hZ (by rw [hml]; rfl) (y := (⟨"tidewatch/decision/KeyGroupCeilingAtMostPinLaw", "ownerRef", "(III)I"⟩ : MethodName)) (argsL := [(.int fi), (.int (2 : Int32)), (.int K)]) (rest := []) hown (hw _ (List.mem_of_getElem? (i := 39) rfl)) (hw _ (List.mem_of_getElem? (i := 40) rfl)) (hw _ (List.mem_of_getElem? (i := 41) rfl)) (hw _ (List.mem_of_getElem? (i := 42) rfl)) (by decide) (rm6_2 l Z a0 hw fi K T24.heap n0 (Nat.le_trans Z0 (KK24 : Keep h0 T24.heap []).1)) rfl (hb hby at_158) (lenOf pd_5 rfl) rfl rfl (W := 0) (Nat.le_of_eq rfl) (by decide) (by decide) (by decide) (by decide) ?_
      intro v25 T25 L25 X25 Q25
      rw [ho1.1] at Q25
      obtain ⟨rfl, N25q, hh25⟩ := Q25
      have N25 := Fr.app N24 N25q
      show Go _ _ _ _ _ _ _ T25 (mkF m 161 #[.val (.int p0), .val (.int p1), .val (.int p2), .val (.int p3), .val (.int p4), .val (.int p5), .val (.int (2 : Int32)), .val (.long s0), .second, .val (.long s1), .second, .val (.long s2), .second, .val (.ref b9), .val (.int K), .val (.int fi), .val (.int la), .val (.ref b23), .unset, .unset, .unset, .unset] [(.int (1 : Int32))])
      refine Go.step (fun _ k => XS.istore X25.here hx rfl (hb hby at_161) rfl (l' := #[.val (.int p0), .val (.int p1), .val (.int p2), .val (.int p3), .val (.int p4), .val (.int p5), .val (.int (2 : Int32)), .val (.long s0), .second, .val (.long s1), .second, .val (.long s2), .second, .val (.ref b9), .val (.int K), .val (.int fi), .val (.int la), .val (.ref b23), .val (.int (1 : Int32)), .unset, .unset, .unset]) rfl k) ?_
      show Go _ _ _ _ _ _ _ T25 (mkF m 163 #[.val (.int p0), .val (.int p1), .val (.int p2), .val (.int p3), .val (.int p4), .val (.int p5), .val (.int (2 : Int32)), .val (.long s0), .second, .val (.long s1), .second, .val (.long s2), .second, .val (.ref b9), .val (.int K), .val (.int fi), .val (.int la), .val (.ref b23), .val (.int (1 : Int32)), .unset, .unset, .unset] [])
      refine Go.step (fun _ k => XS.iload X25.here hx rfl (hb hby at_163) rfl k) ?_
      show Go _ _ _ _ _ _ _ T25 (mkF m 165 #[.val (.int p0), .val (.int p1), .val (.int p2), .val (.int p3), .val (.int p4), .val (.int p5), .val (.int (2 : Int32)), .val (.long s0), .second, .val (.long s1), .second, .val (.long s2), .second, .val (.ref b9), .val (.int K), .val (.int fi), .val (.int la), .val (.ref b23), .val (.int (1 : Int32)), .unset, .unset, .unset] [(.int la)])
      refine Go.step (fun _ k => XS.iload X25.here hx rfl (hb hby at_165) rfl k) ?_
      show Go _ _ _ _ _ _ _ T25 (mkF m 167 #[.val (.int p0), .val (.int p1), .val (.int p2), .val (.int p3), .val (.int p4), .val (.int p5), .val (.int (2 : Int32)), .val (.long s0), .second, .val (.long s1), .second, .val (.long s2), .second, .val (.ref b9), .val (.int K), .val (.int fi), .val (.int la), .val (.ref b23), .val (.int (1 : Int32)), .unset, .unset, .unset] [(.int (2 : Int32)), (.int la)])
      refine Go.step (fun _ k => XS.iload X25.here hx rfl (hb hby at_167) rfl k) ?_
      show Go _ _ _ _ _ _ _ T25 (mkF m 169 #[.val (.int p0), .val (.int p1), .val (.int p2), .val (.int p3), .val (.int p4), .val (.int p5), .val (.int (2 : Int32)), .val (.long s0), .second, .val (.long s1), .second, .val (.long s2), .second, .val (.ref b9), .val (.int K), .val (.int fi), .val (.int la), .val (.ref b23), .val (.int (1 : Int32)), .unset, .unset, .unset] [(.int K), (.int (2 : Int32)), (.int la)])
      refine Go.callS X25 hx hZ (by rw [hml]; rfl) (y := (⟨"tidewatch/decision/KeyGroupCeilingAtMostPinLaw", "ownerRef", "(III)I"⟩ : MethodName)) (argsL := [(.int la), (.int (2 : Int32)), (.int K)]) (rest := []) hown (hw _ (List.mem_of_getElem? (i := 39) rfl)) (hw _ (List.mem_of_getElem? (i := 40) rfl)) (hw _ (List.mem_of_getElem? (i := 41) rfl)) (hw _ (List.mem_of_getElem? (i := 42) rfl)) (by decide) (rm6_2 l Z a0 hw la K T24.heap n0 (Nat.le_trans Z0 (KK24 : Keep h0 T24.heap []).1)) hh25 (hb hby at_169) (lenOf pd_5 rfl) rfl rfl (W := 0) (Nat.le_of_eq rfl) (by decide) (by decide) (by decide) (by decide) ?_
      intro v26 T26 L26 X26 Q26
      rw [ho2.1] at Q26
      obtain ⟨rfl, N26q, hh26⟩ := Q26
      have N26 := Fr.app N25 N26q
      show Go _ _ _ _ _ _ _ T26 (mkF m 172 #[.val (.int p0), .val (.int p1), .val (.int p2), .val (.int p3), .val (.int p4), .val (.int p5), .val (.int (2 : Int32)), .val (.long s0), .second, .val (.long s1), .second, .val (.long s2), .second, .val (.ref b9), .val (.int K), .val (.int fi), .val (.int la), .val (.ref b23), .val (.int (1 : Int32)), .unset, .unset, .unset] [(.int (1 : Int32))])
      refine Go.step (fun _ k => XS.istore X26.here hx rfl (hb hby at_172) rfl (l' := #[.val (.int p0), .val (.int p1), .val (.int p2), .val (.int p3), .val (.int p4), .val (.int p5), .val (.int (2 : Int32)), .val (.long s0), .second, .val (.long s1), .second, .val (.long s2), .second, .val (.ref b9), .val (.int K), .val (.int fi), .val (.int la), .val (.ref b23), .val (.int (1 : Int32)), .val (.int (1 : Int32)), .unset, .unset]) rfl k) ?_
      show Go _ _ _ _ _ _ _ T26 (mkF m 174 #[.val (.int p0), .val (.int p1), .val (.int p2), .val (.int p3), .val (.int p4), .val (.int p5), .val (.int (2 : Int32)), .val (.long s0), .second, .val (.long s1), .second, .val (.long s2), .second, .val (.ref b9), .val (.int K), .val (.int fi), .val (.int la), .val (.ref b23), .val (.int (1 : Int32)), .val (.int (1 : Int32)), .unset, .unset] [])
      refine Go.step (fun _ k => XS.lconst X26.here hx rfl (hb hby at_174) k) ?_
      show Go _ _ _ _ _ _ _ T26 (mkF m 175 #[.val (.int p0), .val (.int p1), .val (.int p2), .val (.int p3), .val (.int p4), .val (.int p5), .val (.int (2 : Int32)), .val (.long s0), .second, .val (.long s1), .second, .val (.long s2), .second, .val (.ref b9), .val (.int K), .val (.int fi), .val (.int la), .val (.ref b23), .val (.int (1 : Int32)), .val (.int (1 : Int32)), .unset, .unset] [(.long (0 : Int64))])
      refine Go.step (fun _ k => XS.lstore X26.here hx rfl (hb hby at_175) rfl (l' := #[.val (.int p0), .val (.int p1), .val (.int p2), .val (.int p3), .val (.int p4), .val (.int p5), .val (.int (2 : Int32)), .val (.long s0), .second, .val (.long s1), .second, .val (.long s2), .second, .val (.ref b9), .val (.int K), .val (.int fi), .val (.int la), .val (.ref b23), .val (.int (1 : Int32)), .val (.int (1 : Int32)), .val (.long (0 : Int64)), .second]) rfl k) ?_
      show Go _ _ _ _ _ _ _ T26 (mkF m 177 #[.val (.int p0), .val (.int p1), .val (.int p2), .val (.int p3), .val (.int p4), .val (.int p5), .val (.int (2 : Int32)), .val (.long s0), .second, .val (.long s1), .second, .val (.long s2), .second, .val (.ref b9), .val (.int K), .val (.int fi), .val (.int la), .val (.ref b23), .val (.int (1 : Int32)), .val (.int (1 : Int32)), .val (.long (0 : Int64)), .second] [])
      refine Go.step (fun _ k => XS.iload X26.here hx rfl (hb hby at_177) rfl k) ?_
      show Go _ _ _ _ _ _ _ T26 (mkF m 179 #[.val (.int p0), .val (.int p1), .val (.int p2), .val (.int p3), .val (.int p4), .val (.int p5), .val (.int (2 : Int32)), .val (.long s0), .second, .val (.long s1), .second, .val (.long s2), .second, .val (.ref b9), .val (.int K), .val (.int fi), .val (.int la), .val (.ref b23), .val (.int (1 : Int32)), .val (.int (1 : Int32)), .val (.long (0 : Int64)), .second] [(.int (1 : Int32))])
      refine Go.step (fun _ k => XS.ifYes X26.here hx rfl (pc0 := 179) (pc' := 189) rfl (hb hby at_179) rfl ((if0 _ _).trans (tlt (by decide : (0 : Int32) < (1 : Int32))).2.2.1) (by decide) (by decide) k) ?_
      show Go _ _ _ _ _ _ _ T26 (mkF m 189 #[.val (.int p0), .val (.int p1), .val (.int p2), .val (.int p3), .val (.int p4), .val (.int p5), .val (.int (2 : Int32)), .val (.long s0), .second, .val (.long s1), .second, .val (.long s2), .second, .val (.ref b9), .val (.int K), .val (.int fi), .val (.int la), .val (.ref b23), .val (.int (1 : Int32)), .val (.int (1 : Int32)), .val (.long (0 : Int64)), .second] [])
      refine Go.step (fun _ k => XS.iload X26.here hx rfl (hb hby at_189) rfl k) ?_
      show Go _ _ _ _ _ _ _ T26 (mkF m 191 #[.val (.int p0), .val (.int p1), .val (.int p2), .val (.int p3), .val (.int p4), .val (.int p5), .val (.int (2 : Int32)), .val (.long s0), .second, .val (.long s1), .second, .val (.long s2), .second, .val (.ref b9), .val (.int K), .val (.int fi), .val (.int la), .val (.ref b23), .val (.int (1 : Int32)), .val (.int (1 : Int32)), .val (.long (0 : Int64)), .second] [(.int (1 : Int32))])
      refine Go.step (fun _ k => XS.iconst X26.here hx rfl (hb hby at_191) k) ?_
      show Go _ _ _ _ _ _ _ T26 (mkF m 192 #[.val (.int p0), .val (.int p1), .val (.int p2), .val (.int p3), .val (.int p4), .val (.int p5), .val (.int (2 : Int32)), .val (.long s0), .second, .val (.long s1), .second, .val (.long s2), .second, .val (.ref b9), .val (.int K), .val (.int fi), .val (.int la), .val (.ref b23), .val (.int (1 : Int32)), .val (.int (1 : Int32)), .val (.long (0 : Int64)), .second] [(.int (1 : Int32)), (.int (1 : Int32))])
      refine Go.step (fun _ k => XS.icmpNo X26.here hx rfl (hb hby at_192) rfl (flt (by decide : ¬ ((1 : Int32) < (1 : Int32)))).2.2.1 k) ?_
      show Go _ _ _ _ _ _ _ T26 (mkF m 195 #[.val (.int p0), .val (.int p1), .val (.int p2), .val (.int p3), .val (.int p4), .val (.int p5), .val (.int (2 : Int32)), .val (.long s0), .second, .val (.long s1), .second, .val (.long s2), .second, .val (.ref b9), .val (.int K), .val (.int fi), .val (.int la), .val (.ref b23), .val (.int (1 : Int32)), .val (.int (1 : Int32)), .val (.long (0 : Int64)), .second] [])
      refine Go.step (fun _ k => XS.iload X26.here hx rfl (hb hby at_195) rfl k) ?_
      show Go _ _ _ _ _ _ _ T26 (mkF m 197 #[.val (.int p0), .val (.int p1), .val (.int p2), .val (.int p3), .val (.int p4), .val (.int p5), .val (.int (2 : Int32)), .val (.long s0), .second, .val (.long s1), .second, .val (.long s2), .second, .val (.ref b9), .val (.int K), .val (.int fi), .val (.int la), .val (.ref b23), .val (.int (1 : Int32)), .val (.int (1 : Int32)), .val (.long (0 : Int64)), .second] [(.int (1 : Int32))])
      refine Go.step (fun _ k => XS.iconst X26.here hx rfl (hb hby at_197) k) ?_
      show Go _ _ _ _ _ _ _ T26 (mkF m 198 #[.val (.int p0), .val (.int p1), .val (.int p2), .val (.int p3), .val (.int p4), .val (.int p5), .val (.int (2 : Int32)), .val (.long s0), .second, .val (.long s1), .second, .val (.long s2), .second, .val (.ref b9), .val (.int K), .val (.int fi), .val (.int la), .val (.ref b23), .val (.int (1 : Int32)), .val (.int (1 : Int32)), .val (.long (0 : Int64)), .second] [(.int (1 : Int32)), (.int (1 : Int32))])
      refine Go.step (fun _ k => XS.icmpNo X26.here hx rfl (hb hby at_198) rfl (flt (by decide : ¬ ((1 : Int32) < (1 : Int32)))).1 k) ?_
      show Go _ _ _ _ _ _ _ T26 (mkF m 201 #[.val (.int p0), .val (.int p1), .val (.int p2), .val (.int p3), .val (.int p4), .val (.int p5), .val (.int (2 : Int32)), .val (.long s0), .second, .val (.long s1), .second, .val (.long s2), .second, .val (.ref b9), .val (.int K), .val (.int fi), .val (.int la), .val (.ref b23), .val (.int (1 : Int32)), .val (.int (1 : Int32)), .val (.long (0 : Int64)), .second] [])
      refine Go.step (fun _ k => XS.lload X26.here hx rfl (hb hby at_201) rfl k) ?_
      show Go _ _ _ _ _ _ _ T26 (mkF m 203 #[.val (.int p0), .val (.int p1), .val (.int p2), .val (.int p3), .val (.int p4), .val (.int p5), .val (.int (2 : Int32)), .val (.long s0), .second, .val (.long s1), .second, .val (.long s2), .second, .val (.ref b9), .val (.int K), .val (.int fi), .val (.int la), .val (.ref b23), .val (.int (1 : Int32)), .val (.int (1 : Int32)), .val (.long (0 : Int64)), .second] [(.long (0 : Int64))])
      refine Go.step (fun _ k => XS.lload X26.here hx rfl (hb hby at_203) rfl k) ?_
      show Go _ _ _ _ _ _ _ T26 (mkF m 205 #[.val (.int p0), .val (.int p1), .val (.int p2), .val (.int p3), .val (.int p4), .val (.int p5), .val (.int (2 : Int32)), .val (.long s0), .second, .val (.long s1), .second, .val (.long s2), .second, .val (.ref b9), .val (.int K), .val (.int fi), .val (.int la), .val (.ref b23), .val (.int (1 : Int32)), .val (.int (1 : Int32)), .val (.long (0 : Int64)), .second] [(.long s1), (.long (0 : Int64))])
      refine Go.step (fun _ k => XS.ladd X26.here hx rfl (hb hby at_205) rfl k) ?_
      show Go _ _ _ _ _ _ _ T26 (mkF m 206 #[.val (.int p0), .val (.int p1), .val (.int p2), .val (.int p3), .val (.int p4), .val (.int p5), .val (.int (2 : Int32)), .val (.long s0), .second, .val (.long s1), .second, .val (.long s2), .second, .val (.ref b9), .val (.int K), .val (.int fi), .val (.int la), .val (.ref b23), .val (.int (1 : Int32)), .val (.int (1 : Int32)), .val (.long (0 : Int64)), .second] [(.long ((0 : Int64) + s1))])
      refine Go.step (fun _ k => XS.lstore X26.here hx rfl (hb hby at_206) rfl (l' := #[.val (.int p0), .val (.int p1), .val (.int p2), .val (.int p3), .val (.int p4), .val (.int p5), .val (.int (2 : Int32)), .val (.long s0), .second, .val (.long s1), .second, .val (.long s2), .second, .val (.ref b9), .val (.int K), .val (.int fi), .val (.int la), .val (.ref b23), .val (.int (1 : Int32)), .val (.int (1 : Int32)), .val (.long ((0 : Int64) + s1)), .second]) rfl k) ?_
      show Go _ _ _ _ _ _ _ T26 (mkF m 208 #[.val (.int p0), .val (.int p1), .val (.int p2), .val (.int p3), .val (.int p4), .val (.int p5), .val (.int (2 : Int32)), .val (.long s0), .second, .val (.long s1), .second, .val (.long s2), .second, .val (.ref b9), .val (.int K), .val (.int fi), .val (.int la), .val (.ref b23), .val (.int (1 : Int32)), .val (.int (1 : Int32)), .val (.long ((0 : Int64) + s1)), .second] [])
      refine Go.step (fun _ k => XS.iload X26.here hx rfl (hb hby at_208) rfl k) ?_
      show Go _ _ _ _ _ _ _ T26 (mkF m 210 #[.val (.int p0), .val (.int p1), .val (.int p2), .val (.int p3), .val (.int p4), .val (.int p5), .val (.int (2 : Int32)), .val (.long s0), .second, .val (.long s1), .second, .val (.long s2), .second, .val (.ref b9), .val (.int K), .val (.int fi), .val (.int la), .val (.ref b23), .val (.int (1 : Int32)), .val (.int (1 : Int32)), .val (.long ((0 : Int64) + s1)), .second] [(.int (1 : Int32))])
      refine Go.step (fun _ k => XS.iconst X26.here hx rfl (hb hby at_210) k) ?_
      show Go _ _ _ _ _ _ _ T26 (mkF m 211 #[.val (.int p0), .val (.int p1), .val (.int p2), .val (.int p3), .val (.int p4), .val (.int p5), .val (.int (2 : Int32)), .val (.long s0), .second, .val (.long s1), .second, .val (.long s2), .second, .val (.ref b9), .val (.int K), .val (.int fi), .val (.int la), .val (.ref b23), .val (.int (1 : Int32)), .val (.int (1 : Int32)), .val (.long ((0 : Int64) + s1)), .second] [(.int (2 : Int32)), (.int (1 : Int32))])
      refine Go.step (fun _ k => XS.icmpNo X26.here hx rfl (hb hby at_211) rfl (flt (by decide : ¬ ((2 : Int32) < (1 : Int32)))).2.2.1 k) ?_
      show Go _ _ _ _ _ _ _ T26 (mkF m 214 #[.val (.int p0), .val (.int p1), .val (.int p2), .val (.int p3), .val (.int p4), .val (.int p5), .val (.int (2 : Int32)), .val (.long s0), .second, .val (.long s1), .second, .val (.long s2), .second, .val (.ref b9), .val (.int K), .val (.int fi), .val (.int la), .val (.ref b23), .val (.int (1 : Int32)), .val (.int (1 : Int32)), .val (.long ((0 : Int64) + s1)), .second] [])
      refine Go.step (fun _ k => XS.iload X26.here hx rfl (hb hby at_214) rfl k) ?_
      show Go _ _ _ _ _ _ _ T26 (mkF m 216 #[.val (.int p0), .val (.int p1), .val (.int p2), .val (.int p3), .val (.int p4), .val (.int p5), .val (.int (2 : Int32)), .val (.long s0), .second, .val (.long s1), .second, .val (.long s2), .second, .val (.ref b9), .val (.int K), .val (.int fi), .val (.int la), .val (.ref b23), .val (.int (1 : Int32)), .val (.int (1 : Int32)), .val (.long ((0 : Int64) + s1)), .second] [(.int (1 : Int32))])
      refine Go.step (fun _ k => XS.iconst X26.here hx rfl (hb hby at_216) k) ?_
      show Go _ _ _ _ _ _ _ T26 (mkF m 217 #[.val (.int p0), .val (.int p1), .val (.int p2), .val (.int p3), .val (.int p4), .val (.int p5), .val (.int (2 : Int32)), .val (.long s0), .second, .val (.long s1), .second, .val (.long s2), .second, .val (.ref b9), .val (.int K), .val (.int fi), .val (.int la), .val (.ref b23), .val (.int (1 : Int32)), .val (.int (1 : Int32)), .val (.long ((0 : Int64) + s1)), .second] [(.int (2 : Int32)), (.int (1 : Int32))])
      refine Go.step (fun _ k => XS.icmpYes X26.here hx rfl (pc0 := 217) (pc' := 227) rfl (hb hby at_217) rfl (tlt (by decide : (1 : Int32) < (2 : Int32))).1 (by decide) (by decide) k) ?_
      have hAt : FP.dcmp (FP.dsub ((updN (updN (fun _ => (0 : UInt64)) 1 (FP.dadd (0 : UInt64) ((updN (updN (fun _ => (0 : UInt64)) 0 (FP.l2d s0)) 1 (FP.l2d s1)) 0))) 2 (FP.dadd (FP.dadd (0 : UInt64) ((updN (updN (fun _ => (0 : UInt64)) 0 (FP.l2d s0)) 1 (FP.l2d s1)) 0)) ((updN (updN (fun _ => (0 : UInt64)) 0 (FP.l2d s0)) 1 (FP.l2d s1)) 1))) 2) ((updN (updN (fun _ => (0 : UInt64)) 1 (FP.dadd (0 : UInt64) ((updN (updN (fun _ => (0 : UInt64)) 0 (FP.l2d s0)) 1 (FP.l2d s1)) 0))) 2 (FP.dadd (FP.dadd (0 : UInt64) ((updN (updN (fun _ => (0 : UInt64)) 0 (FP.l2d s0)) 1 (FP.l2d s1)) 0)) ((updN (updN (fun _ => (0 : UInt64)) 0 (FP.l2d s0)) 1 (FP.l2d s1)) 1))) 1)) (FP.l2d ((0 : Int64) + s1)) = some .eq := by
        have t0 := hs0.1; have t1 := hs0.2; have t2 := hs1.1; have t3 := hs1.2; have t4 := hs2.1; have t5 := hs2.2
        have e1 := own_sum (a := s0) (b := s1) t0 (by omega) hs1
        have e2 := own_sum (a := s0 + s1) (b := s2) (by omega) (by omega) hs2
        have hd : (s0 + s1) - s0 = ((0 : Int64) + s1) := own_eq64 (by
          have := c_ladd s0 s1
          have := c_ladd (s0 + s1) s2
          have := c_ladd (0 : Int64) s1
          have := c_lsub (s0 + s1) s0
          have : (0 : Int64).toInt = 0 := rfl
          omega)
        exact own_at (a := (s0 + s1)) (b := s0) (own_d2 hs0 hs1) (own_d1 hs0) (by first | omega | decide) (by first | omega | decide) (by first | omega | decide) (by first | omega | decide) hd
      show Go _ _ _ _ _ _ _ T26 (mkF m 227 #[.val (.int p0), .val (.int p1), .val (.int p2), .val (.int p3), .val (.int p4), .val (.int p5), .val (.int (2 : Int32)), .val (.long s0), .second, .val (.long s1), .second, .val (.long s2), .second, .val (.ref b9), .val (.int K), .val (.int fi), .val (.int la), .val (.ref b23), .val (.int (1 : Int32)), .val (.int (1 : Int32)), .val (.long ((0 : Int64) + s1)), .second] [])
      refine Go.step (fun _ k => XS.aload X26.here hx rfl (hb hby at_227) rfl rfl k) ?_
      show Go _ _ _ _ _ _ _ T26 (mkF m 229 #[.val (.int p0), .val (.int p1), .val (.int p2), .val (.int p3), .val (.int p4), .val (.int p5), .val (.int (2 : Int32)), .val (.long s0), .second, .val (.long s1), .second, .val (.long s2), .second, .val (.ref b9), .val (.int K), .val (.int fi), .val (.int la), .val (.ref b23), .val (.int (1 : Int32)), .val (.int (1 : Int32)), .val (.long ((0 : Int64) + s1)), .second] [(.ref b23)])
      refine Go.step (fun _ k => XS.iload X26.here hx rfl (hb hby at_229) rfl k) ?_
      show Go _ _ _ _ _ _ _ T26 (mkF m 231 #[.val (.int p0), .val (.int p1), .val (.int p2), .val (.int p3), .val (.int p4), .val (.int p5), .val (.int (2 : Int32)), .val (.long s0), .second, .val (.long s1), .second, .val (.long s2), .second, .val (.ref b9), .val (.int K), .val (.int fi), .val (.int la), .val (.ref b23), .val (.int (1 : Int32)), .val (.int (1 : Int32)), .val (.long ((0 : Int64) + s1)), .second] [(.int fi), (.ref b23)])
      refine Go.step (fun _ k => XS.iload X26.here hx rfl (hb hby at_231) rfl k) ?_
      show Go _ _ _ _ _ _ _ T26 (mkF m 233 #[.val (.int p0), .val (.int p1), .val (.int p2), .val (.int p3), .val (.int p4), .val (.int p5), .val (.int (2 : Int32)), .val (.long s0), .second, .val (.long s1), .second, .val (.long s2), .second, .val (.ref b9), .val (.int K), .val (.int fi), .val (.int la), .val (.ref b23), .val (.int (1 : Int32)), .val (.int (1 : Int32)), .val (.long ((0 : Int64) + s1)), .second] [(.int la), (.int fi), (.ref b23)])
      refine Go.callV X26 hx hZ (by rw [hml]; rfl) (y := (⟨"tidewatch/decision/KeyGroupCeiling", "atMost", "(II)D"⟩ : MethodName)) (z := (⟨"tidewatch/decision/KeyGroupCeiling", "atMost", "(II)D"⟩ : MethodName)) (a := b23) (argsL := [(.int fi), (.int la)]) (rest := []) hown (hw _ (List.mem_of_getElem? (i := 44) rfl)) (hw _ (List.mem_of_getElem? (i := 45) rfl)) (notFace_of_selects (args := #[]) (mvT hZ (hw _ (List.mem_of_getElem? (i := 47) rfl)))) (hw _ (List.mem_of_getElem? (i := 47) rfl)) (hw _ (List.mem_of_getElem? (i := 46) rfl)) (hw _ (List.mem_of_getElem? (i := 9) rfl)) (hw _ (List.mem_of_getElem? (i := 48) rfl)) (by decide) (rm7_211 l Z a0 hw b23 fi la c24 d24 K (updN (updN (fun _ => (0 : UInt64)) 0 (FP.l2d s0)) 1 (FP.l2d s1)) (updN (updN (fun _ => (0 : UInt64)) 1 (FP.dadd (0 : UInt64) ((updN (updN (fun _ => (0 : UInt64)) 0 (FP.l2d s0)) 1 (FP.l2d s1)) 0))) 2 (FP.dadd (FP.dadd (0 : UInt64) ((updN (updN (fun _ => (0 : UInt64)) 0 (FP.l2d s0)) 1 (FP.l2d s1)) 0)) ((updN (updN (fun _ => (0 : UInt64)) 0 (FP.l2d s0)) 1 (FP.l2d s1)) 1))) T24.heap n0 (Nat.le_trans Z0 (KK24 : Keep h0 T24.heap []).1) Ec24 Fk24 Fc24 Vc24 Fd24 Vd24 hK.2 ho1.2 ho2.2 (own_nnN (Jvm.FP.Core.dcmp_some hAt).1)) hh26 Ec24 (hb hby at_233) (lenOf pd_6 rfl) rfl rfl (W := 0) (Nat.le_of_eq rfl) (by decide) (by decide) (by decide) (by decide) ?_
      intro v27 T27 L27 X27 Q27
      obtain ⟨rfl, N27q, hh27⟩ := Q27
      have N27 := Fr.app N26 N27q
      show Go _ _ _ _ _ _ _ T27 (mkF m 236 #[.val (.int p0), .val (.int p1), .val (.int p2), .val (.int p3), .val (.int p4), .val (.int p5), .val (.int (2 : Int32)), .val (.long s0), .second, .val (.long s1), .second, .val (.long s2), .second, .val (.ref b9), .val (.int K), .val (.int fi), .val (.int la), .val (.ref b23), .val (.int (1 : Int32)), .val (.int (1 : Int32)), .val (.long ((0 : Int64) + s1)), .second] [(.double (FP.dsub ((updN (updN (fun _ => (0 : UInt64)) 1 (FP.dadd (0 : UInt64) ((updN (updN (fun _ => (0 : UInt64)) 0 (FP.l2d s0)) 1 (FP.l2d s1)) 0))) 2 (FP.dadd (FP.dadd (0 : UInt64) ((updN (updN (fun _ => (0 : UInt64)) 0 (FP.l2d s0)) 1 (FP.l2d s1)) 0)) ((updN (updN (fun _ => (0 : UInt64)) 0 (FP.l2d s0)) 1 (FP.l2d s1)) 1))) 2) ((updN (updN (fun _ => (0 : UInt64)) 1 (FP.dadd (0 : UInt64) ((updN (updN (fun _ => (0 : UInt64)) 0 (FP.l2d s0)) 1 (FP.l2d s1)) 0))) 2 (FP.dadd (FP.dadd (0 : UInt64) ((updN (updN (fun _ => (0 : UInt64)) 0 (FP.l2d s0)) 1 (FP.l2d s1)) 0)) ((updN (updN (fun _ => (0 : UInt64)) 0 (FP.l2d s0)) 1 (FP.l2d s1)) 1))) 1)))])
      refine Go.step (fun _ k => XS.lload X27.here hx rfl (hb hby at_236) rfl k) ?_
      show Go _ _ _ _ _ _ _ T27 (mkF m 238 #[.val (.int p0), .val (.int p1), .val (.int p2), .val (.int p3), .val (.int p4), .val (.int p5), .val (.int (2 : Int32)), .val (.long s0), .second, .val (.long s1), .second, .val (.long s2), .second, .val (.ref b9), .val (.int K), .val (.int fi), .val (.int la), .val (.ref b23), .val (.int (1 : Int32)), .val (.int (1 : Int32)), .val (.long ((0 : Int64) + s1)), .second] [(.long ((0 : Int64) + s1)), (.double (FP.dsub ((updN (updN (fun _ => (0 : UInt64)) 1 (FP.dadd (0 : UInt64) ((updN (updN (fun _ => (0 : UInt64)) 0 (FP.l2d s0)) 1 (FP.l2d s1)) 0))) 2 (FP.dadd (FP.dadd (0 : UInt64) ((updN (updN (fun _ => (0 : UInt64)) 0 (FP.l2d s0)) 1 (FP.l2d s1)) 0)) ((updN (updN (fun _ => (0 : UInt64)) 0 (FP.l2d s0)) 1 (FP.l2d s1)) 1))) 2) ((updN (updN (fun _ => (0 : UInt64)) 1 (FP.dadd (0 : UInt64) ((updN (updN (fun _ => (0 : UInt64)) 0 (FP.l2d s0)) 1 (FP.l2d s1)) 0))) 2 (FP.dadd (FP.dadd (0 : UInt64) ((updN (updN (fun _ => (0 : UInt64)) 0 (FP.l2d s0)) 1 (FP.l2d s1)) 0)) ((updN (updN (fun _ => (0 : UInt64)) 0 (FP.l2d s0)) 1 (FP.l2d s1)) 1))) 1)))])
      refine Go.step (fun _ k => XS.l2dS X27.here hx rfl (hb hby at_238) rfl rfl k) ?_
      show Go _ _ _ _ _ _ _ T27 (mkF m 239 #[.val (.int p0), .val (.int p1), .val (.int p2), .val (.int p3), .val (.int p4), .val (.int p5), .val (.int (2 : Int32)), .val (.long s0), .second, .val (.long s1), .second, .val (.long s2), .second, .val (.ref b9), .val (.int K), .val (.int fi), .val (.int la), .val (.ref b23), .val (.int (1 : Int32)), .val (.int (1 : Int32)), .val (.long ((0 : Int64) + s1)), .second] [(.double (FP.l2d ((0 : Int64) + s1))), (.double (FP.dsub ((updN (updN (fun _ => (0 : UInt64)) 1 (FP.dadd (0 : UInt64) ((updN (updN (fun _ => (0 : UInt64)) 0 (FP.l2d s0)) 1 (FP.l2d s1)) 0))) 2 (FP.dadd (FP.dadd (0 : UInt64) ((updN (updN (fun _ => (0 : UInt64)) 0 (FP.l2d s0)) 1 (FP.l2d s1)) 0)) ((updN (updN (fun _ => (0 : UInt64)) 0 (FP.l2d s0)) 1 (FP.l2d s1)) 1))) 2) ((updN (updN (fun _ => (0 : UInt64)) 1 (FP.dadd (0 : UInt64) ((updN (updN (fun _ => (0 : UInt64)) 0 (FP.l2d s0)) 1 (FP.l2d s1)) 0))) 2 (FP.dadd (FP.dadd (0 : UInt64) ((updN (updN (fun _ => (0 : UInt64)) 0 (FP.l2d s0)) 1 (FP.l2d s1)) 0)) ((updN (updN (fun _ => (0 : UInt64)) 0 (FP.l2d s0)) 1 (FP.l2d s1)) 1))) 1)))])
      refine Go.step (fun _ k => XS.dcmpS X27.here hx rfl (hb hby at_239) rfl rfl k) ?_
      show Go _ _ _ _ _ _ _ T27 (mkF m 240 #[.val (.int p0), .val (.int p1), .val (.int p2), .val (.int p3), .val (.int p4), .val (.int p5), .val (.int (2 : Int32)), .val (.long s0), .second, .val (.long s1), .second, .val (.long s2), .second, .val (.ref b9), .val (.int K), .val (.int fi), .val (.int la), .val (.ref b23), .val (.int (1 : Int32)), .val (.int (1 : Int32)), .val (.long ((0 : Int64) + s1)), .second] [(.int (cmpValue (FP.dcmp (FP.dsub ((updN (updN (fun _ => (0 : UInt64)) 1 (FP.dadd (0 : UInt64) ((updN (updN (fun _ => (0 : UInt64)) 0 (FP.l2d s0)) 1 (FP.l2d s1)) 0))) 2 (FP.dadd (FP.dadd (0 : UInt64) ((updN (updN (fun _ => (0 : UInt64)) 0 (FP.l2d s0)) 1 (FP.l2d s1)) 0)) ((updN (updN (fun _ => (0 : UInt64)) 0 (FP.l2d s0)) 1 (FP.l2d s1)) 1))) 2) ((updN (updN (fun _ => (0 : UInt64)) 1 (FP.dadd (0 : UInt64) ((updN (updN (fun _ => (0 : UInt64)) 0 (FP.l2d s0)) 1 (FP.l2d s1)) 0))) 2 (FP.dadd (FP.dadd (0 : UInt64) ((updN (updN (fun _ => (0 : UInt64)) 0 (FP.l2d s0)) 1 (FP.l2d s1)) 0)) ((updN (updN (fun _ => (0 : UInt64)) 0 (FP.l2d s0)) 1 (FP.l2d s1)) 1))) 1)) (FP.l2d ((0 : Int64) + s1))) .l))])
      refine Go.step (fun _ k => XS.ifNo X27.here hx rfl (hb hby at_240) rfl (eq_y .l hAt).1 k) ?_
      show Go _ _ _ _ _ _ _ T27 (mkF m 243 #[.val (.int p0), .val (.int p1), .val (.int p2), .val (.int p3), .val (.int p4), .val (.int p5), .val (.int (2 : Int32)), .val (.long s0), .second, .val (.long s1), .second, .val (.long s2), .second, .val (.ref b9), .val (.int K), .val (.int fi), .val (.int la), .val (.ref b23), .val (.int (1 : Int32)), .val (.int (1 : Int32)), .val (.long ((0 : Int64) + s1)), .second] [])
      refine Go.step (fun _ k => XS.iconst X27.here hx rfl (hb hby at_243) k) ?_
      show Go _ _ _ _ _ _ _ T27 (mkF m 244 #[.val (.int p0), .val (.int p1), .val (.int p2), .val (.int p3), .val (.int p4), .val (.int p5), .val (.int (2 : Int32)), .val (.long s0), .second, .val (.long s1), .second, .val (.long s2), .second, .val (.ref b9), .val (.int K), .val (.int fi), .val (.int la), .val (.ref b23), .val (.int (1 : Int32)), .val (.int (1 : Int32)), .val (.long ((0 : Int64) + s1)), .second] [(.int (1 : Int32))])
      refine Go.step (fun _ k => XS.goto X27.here hx rfl (pc0 := 244) (pc' := 248) rfl (hb hby at_244) (by decide) (by decide) k) ?_
      show Go _ _ _ _ _ _ _ T27 (mkF m 248 #[.val (.int p0), .val (.int p1), .val (.int p2), .val (.int p3), .val (.int p4), .val (.int p5), .val (.int (2 : Int32)), .val (.long s0), .second, .val (.long s1), .second, .val (.long s2), .second, .val (.ref b9), .val (.int K), .val (.int fi), .val (.int la), .val (.ref b23), .val (.int (1 : Int32)), .val (.int (1 : Int32)), .val (.long ((0 : Int64) + s1)), .second] [(.int (1 : Int32))])
      refine Go.retZ X27 hx hlk hret (by decide) (hb hby at_248) (by decide) (by decide) ?_
      try rw [hh27]
      exact ⟨rfl, N27⟩
  · show Go _ _ _ _ _ _ _ T0 (mkF m 35 #[.val (.int p0), .val (.int p1), .val (.int p2), .val (.int p3), .val (.int p4), .val (.int p5), .val (.int (3 : Int32)), .val (.long s0), .second, .val (.long s1), .second, .val (.long s2), .second, .unset, .unset, .unset, .unset, .unset, .unset, .unset, .unset, .unset] [])
    refine Go.step (fun _ k => XS.iload X0.here hx rfl (hb hby at_35) rfl k) ?_
    show Go _ _ _ _ _ _ _ T0 (mkF m 37 #[.val (.int p0), .val (.int p1), .val (.int p2), .val (.int p3), .val (.int p4), .val (.int p5), .val (.int (3 : Int32)), .val (.long s0), .second, .val (.long s1), .second, .val (.long s2), .second, .unset, .unset, .unset, .unset, .unset, .unset, .unset, .unset, .unset] [(.int (3 : Int32))])
    refine Go.step (fun _ k => XS.iconst X0.here hx rfl (hb hby at_37) k) ?_
    show Go _ _ _ _ _ _ _ T0 (mkF m 38 #[.val (.int p0), .val (.int p1), .val (.int p2), .val (.int p3), .val (.int p4), .val (.int p5), .val (.int (3 : Int32)), .val (.long s0), .second, .val (.long s1), .second, .val (.long s2), .second, .unset, .unset, .unset, .unset, .unset, .unset, .unset, .unset, .unset] [(.int (1 : Int32)), (.int (3 : Int32))])
    refine Go.step (fun _ k => XS.icmpYes X0.here hx rfl (pc0 := 38) (pc' := 55) rfl (hb hby at_38) rfl (feq (by decide : ¬ ((3 : Int32) = (1 : Int32)))).2 (by decide) (by decide) k) ?_
    show Go _ _ _ _ _ _ _ T0 (mkF m 55 #[.val (.int p0), .val (.int p1), .val (.int p2), .val (.int p3), .val (.int p4), .val (.int p5), .val (.int (3 : Int32)), .val (.long s0), .second, .val (.long s1), .second, .val (.long s2), .second, .unset, .unset, .unset, .unset, .unset, .unset, .unset, .unset, .unset] [])
    refine Go.step (fun _ k => XS.iload X0.here hx rfl (hb hby at_55) rfl k) ?_
    show Go _ _ _ _ _ _ _ T0 (mkF m 57 #[.val (.int p0), .val (.int p1), .val (.int p2), .val (.int p3), .val (.int p4), .val (.int p5), .val (.int (3 : Int32)), .val (.long s0), .second, .val (.long s1), .second, .val (.long s2), .second, .unset, .unset, .unset, .unset, .unset, .unset, .unset, .unset, .unset] [(.int (3 : Int32))])
    refine Go.step (fun _ k => XS.iconst X0.here hx rfl (hb hby at_57) k) ?_
    show Go _ _ _ _ _ _ _ T0 (mkF m 58 #[.val (.int p0), .val (.int p1), .val (.int p2), .val (.int p3), .val (.int p4), .val (.int p5), .val (.int (3 : Int32)), .val (.long s0), .second, .val (.long s1), .second, .val (.long s2), .second, .unset, .unset, .unset, .unset, .unset, .unset, .unset, .unset, .unset] [(.int (2 : Int32)), (.int (3 : Int32))])
    refine Go.step (fun _ k => XS.icmpYes X0.here hx rfl (pc0 := 58) (pc' := 81) rfl (hb hby at_58) rfl (feq (by decide : ¬ ((3 : Int32) = (2 : Int32)))).2 (by decide) (by decide) k) ?_
    show Go _ _ _ _ _ _ _ T0 (mkF m 81 #[.val (.int p0), .val (.int p1), .val (.int p2), .val (.int p3), .val (.int p4), .val (.int p5), .val (.int (3 : Int32)), .val (.long s0), .second, .val (.long s1), .second, .val (.long s2), .second, .unset, .unset, .unset, .unset, .unset, .unset, .unset, .unset, .unset] [])
    refine Go.step (fun _ k => XS.iconst X0.here hx rfl (hb hby at_81) k) ?_
    show Go _ _ _ _ _ _ _ T0 (mkF m 82 #[.val (.int p0), .val (.int p1), .val (.int p2), .val (.int p3), .val (.int p4), .val (.int p5), .val (.int (3 : Int32)), .val (.long s0), .second, .val (.long s1), .second, .val (.long s2), .second, .unset, .unset, .unset, .unset, .unset, .unset, .unset, .unset, .unset] [(.int (3 : Int32))])
    obtain ⟨T28, h28, k28, X28, e28, E28, A28, B28, st28⟩ := newPE X0 hx hZ (hw _ (List.mem_of_getElem? (i := 2) rfl)) e0 (g := (mkF m 82 #[.val (.int p0), .val (.int p1), .val (.int p2), .val (.int p3), .val (.int p4), .val (.int p5), .val (.int (3 : Int32)), .val (.long s0), .second, .val (.long s1), .second, .val (.long s2), .second, .unset, .unset, .unset, .unset, .unset, .unset, .unset, .unset, .unset] [(.int (3 : Int32))])) rfl (hb hby at_82) rfl (by decide) (cap := 3) (by decide) (by decide) (by decide) (by decide) (ad := "[D") (by decide)
    obtain ⟨b28, g28⟩ : ∃ z, z = h0.size := ⟨_, rfl⟩
    rw [← g28] at A28 B28 st28
    refine Go.step st28 ?_
    have K28 : Keep h0 h28 [] := (Keep.refl h0 []).ext E28
    have sz_b28 : h0.size ≤ b28 := Nat.le_trans ((Keep.refl h0 []) : Keep h0 h0 []).1 (Nat.le_of_eq g28.symm)
    have ge_b28 : n0 ≤ b28 := Nat.le_trans Z0 sz_b28
    have V_b28 : Dv Z h28 b28 (3 : Int32) (fun _ => (0 : UInt64)) := Fv.new A28 (by decide)
    have E_b28 := B28
    show Go _ _ _ _ _ _ _ T28 (mkF m 84 #[.val (.int p0), .val (.int p1), .val (.int p2), .val (.int p3), .val (.int p4), .val (.int p5), .val (.int (3 : Int32)), .val (.long s0), .second, .val (.long s1), .second, .val (.long s2), .second, .unset, .unset, .unset, .unset, .unset, .unset, .unset, .unset, .unset] [(.ref b28)])
    refine Go.step (fun _ k => XS.dup X28.here hx rfl (hb hby at_84) rfl rfl k) ?_
    show Go _ _ _ _ _ _ _ T28 (mkF m 85 #[.val (.int p0), .val (.int p1), .val (.int p2), .val (.int p3), .val (.int p4), .val (.int p5), .val (.int (3 : Int32)), .val (.long s0), .second, .val (.long s1), .second, .val (.long s2), .second, .unset, .unset, .unset, .unset, .unset, .unset, .unset, .unset, .unset] [(.ref b28), (.ref b28)])
    refine Go.step (fun _ k => XS.iconst X28.here hx rfl (hb hby at_85) k) ?_
    show Go _ _ _ _ _ _ _ T28 (mkF m 86 #[.val (.int p0), .val (.int p1), .val (.int p2), .val (.int p3), .val (.int p4), .val (.int p5), .val (.int (3 : Int32)), .val (.long s0), .second, .val (.long s1), .second, .val (.long s2), .second, .unset, .unset, .unset, .unset, .unset, .unset, .unset, .unset, .unset] [(.int (0 : Int32)), (.ref b28), (.ref b28)])
    refine Go.step (fun _ k => XS.lload X28.here hx rfl (hb hby at_86) rfl k) ?_
    show Go _ _ _ _ _ _ _ T28 (mkF m 88 #[.val (.int p0), .val (.int p1), .val (.int p2), .val (.int p3), .val (.int p4), .val (.int p5), .val (.int (3 : Int32)), .val (.long s0), .second, .val (.long s1), .second, .val (.long s2), .second, .unset, .unset, .unset, .unset, .unset, .unset, .unset, .unset, .unset] [(.long s0), (.int (0 : Int32)), (.ref b28), (.ref b28)])
    refine Go.step (fun _ k => XS.l2dS X28.here hx rfl (hb hby at_88) rfl rfl k) ?_
    show Go _ _ _ _ _ _ _ T28 (mkF m 89 #[.val (.int p0), .val (.int p1), .val (.int p2), .val (.int p3), .val (.int p4), .val (.int p5), .val (.int (3 : Int32)), .val (.long s0), .second, .val (.long s1), .second, .val (.long s2), .second, .unset, .unset, .unset, .unset, .unset, .unset, .unset, .unset, .unset] [(.double (FP.l2d s0)), (.int (0 : Int32)), (.ref b28), (.ref b28)])
    refine Go.dastore X28 hx hZ e28 V_b28 (j := (0 : Int32)) (x := (FP.l2d s0)) (by decide) (hb hby at_89) ?_
    intro T29 h29 X29 e29 W29 Vn29
    have V_b28_29 : Dv Z h29 b28 (3 : Int32) (updN (fun _ => (0 : UInt64)) 0 (FP.l2d s0)) := Vn29
    have N29 := Fr.snoc X29 N0 ge_b28
    have E_b28_29 := E_b28.wr W29
    have K29 : Keep h0 h29 [] := K28.wr W29 (Or.inr sz_b28)
    show Go _ _ _ _ _ _ _ T29 (mkF m 90 #[.val (.int p0), .val (.int p1), .val (.int p2), .val (.int p3), .val (.int p4), .val (.int p5), .val (.int (3 : Int32)), .val (.long s0), .second, .val (.long s1), .second, .val (.long s2), .second, .unset, .unset, .unset, .unset, .unset, .unset, .unset, .unset, .unset] [(.ref b28)])
    refine Go.step (fun _ k => XS.dup X29.here hx rfl (hb hby at_90) rfl rfl k) ?_
    show Go _ _ _ _ _ _ _ T29 (mkF m 91 #[.val (.int p0), .val (.int p1), .val (.int p2), .val (.int p3), .val (.int p4), .val (.int p5), .val (.int (3 : Int32)), .val (.long s0), .second, .val (.long s1), .second, .val (.long s2), .second, .unset, .unset, .unset, .unset, .unset, .unset, .unset, .unset, .unset] [(.ref b28), (.ref b28)])
    refine Go.step (fun _ k => XS.iconst X29.here hx rfl (hb hby at_91) k) ?_
    show Go _ _ _ _ _ _ _ T29 (mkF m 92 #[.val (.int p0), .val (.int p1), .val (.int p2), .val (.int p3), .val (.int p4), .val (.int p5), .val (.int (3 : Int32)), .val (.long s0), .second, .val (.long s1), .second, .val (.long s2), .second, .unset, .unset, .unset, .unset, .unset, .unset, .unset, .unset, .unset] [(.int (1 : Int32)), (.ref b28), (.ref b28)])
    refine Go.step (fun _ k => XS.lload X29.here hx rfl (hb hby at_92) rfl k) ?_
    show Go _ _ _ _ _ _ _ T29 (mkF m 94 #[.val (.int p0), .val (.int p1), .val (.int p2), .val (.int p3), .val (.int p4), .val (.int p5), .val (.int (3 : Int32)), .val (.long s0), .second, .val (.long s1), .second, .val (.long s2), .second, .unset, .unset, .unset, .unset, .unset, .unset, .unset, .unset, .unset] [(.long s1), (.int (1 : Int32)), (.ref b28), (.ref b28)])
    refine Go.step (fun _ k => XS.l2dS X29.here hx rfl (hb hby at_94) rfl rfl k) ?_
    show Go _ _ _ _ _ _ _ T29 (mkF m 95 #[.val (.int p0), .val (.int p1), .val (.int p2), .val (.int p3), .val (.int p4), .val (.int p5), .val (.int (3 : Int32)), .val (.long s0), .second, .val (.long s1), .second, .val (.long s2), .second, .unset, .unset, .unset, .unset, .unset, .unset, .unset, .unset, .unset] [(.double (FP.l2d s1)), (.int (1 : Int32)), (.ref b28), (.ref b28)])
    refine Go.dastore X29 hx hZ e29 V_b28_29 (j := (1 : Int32)) (x := (FP.l2d s1)) (by decide) (hb hby at_95) ?_
    intro T30 h30 X30 e30 W30 Vn30
    have V_b28_30 : Dv Z h30 b28 (3 : Int32) (updN (updN (fun _ => (0 : UInt64)) 0 (FP.l2d s0)) 1 (FP.l2d s1)) := Vn30
    have N30 := Fr.snoc X30 N29 ge_b28
    have E_b28_30 := E_b28_29.wr W30
    have K30 : Keep h0 h30 [] := K29.wr W30 (Or.inr sz_b28)
    show Go _ _ _ _ _ _ _ T30 (mkF m 96 #[.val (.int p0), .val (.int p1), .val (.int p2), .val (.int p3), .val (.int p4), .val (.int p5), .val (.int (3 : Int32)), .val (.long s0), .second, .val (.long s1), .second, .val (.long s2), .second, .unset, .unset, .unset, .unset, .unset, .unset, .unset, .unset, .unset] [(.ref b28)])
    refine Go.step (fun _ k => XS.dup X30.here hx rfl (hb hby at_96) rfl rfl k) ?_
    show Go _ _ _ _ _ _ _ T30 (mkF m 97 #[.val (.int p0), .val (.int p1), .val (.int p2), .val (.int p3), .val (.int p4), .val (.int p5), .val (.int (3 : Int32)), .val (.long s0), .second, .val (.long s1), .second, .val (.long s2), .second, .unset, .unset, .unset, .unset, .unset, .unset, .unset, .unset, .unset] [(.ref b28), (.ref b28)])
    refine Go.step (fun _ k => XS.iconst X30.here hx rfl (hb hby at_97) k) ?_
    show Go _ _ _ _ _ _ _ T30 (mkF m 98 #[.val (.int p0), .val (.int p1), .val (.int p2), .val (.int p3), .val (.int p4), .val (.int p5), .val (.int (3 : Int32)), .val (.long s0), .second, .val (.long s1), .second, .val (.long s2), .second, .unset, .unset, .unset, .unset, .unset, .unset, .unset, .unset, .unset] [(.int (2 : Int32)), (.ref b28), (.ref b28)])
    refine Go.step (fun _ k => XS.lload X30.here hx rfl (hb hby at_98) rfl k) ?_
    show Go _ _ _ _ _ _ _ T30 (mkF m 100 #[.val (.int p0), .val (.int p1), .val (.int p2), .val (.int p3), .val (.int p4), .val (.int p5), .val (.int (3 : Int32)), .val (.long s0), .second, .val (.long s1), .second, .val (.long s2), .second, .unset, .unset, .unset, .unset, .unset, .unset, .unset, .unset, .unset] [(.long s2), (.int (2 : Int32)), (.ref b28), (.ref b28)])
    refine Go.step (fun _ k => XS.l2dS X30.here hx rfl (hb hby at_100) rfl rfl k) ?_
    show Go _ _ _ _ _ _ _ T30 (mkF m 101 #[.val (.int p0), .val (.int p1), .val (.int p2), .val (.int p3), .val (.int p4), .val (.int p5), .val (.int (3 : Int32)), .val (.long s0), .second, .val (.long s1), .second, .val (.long s2), .second, .unset, .unset, .unset, .unset, .unset, .unset, .unset, .unset, .unset] [(.double (FP.l2d s2)), (.int (2 : Int32)), (.ref b28), (.ref b28)])
    refine Go.dastore X30 hx hZ e30 V_b28_30 (j := (2 : Int32)) (x := (FP.l2d s2)) (by decide) (hb hby at_101) ?_
    intro T31 h31 X31 e31 W31 Vn31
    have V_b28_31 : Dv Z h31 b28 (3 : Int32) (updN (updN (updN (fun _ => (0 : UInt64)) 0 (FP.l2d s0)) 1 (FP.l2d s1)) 2 (FP.l2d s2)) := Vn31
    have N31 := Fr.snoc X31 N30 ge_b28
    have E_b28_31 := E_b28_30.wr W31
    have K31 : Keep h0 h31 [] := K30.wr W31 (Or.inr sz_b28)
    show Go _ _ _ _ _ _ _ T31 (mkF m 102 #[.val (.int p0), .val (.int p1), .val (.int p2), .val (.int p3), .val (.int p4), .val (.int p5), .val (.int (3 : Int32)), .val (.long s0), .second, .val (.long s1), .second, .val (.long s2), .second, .unset, .unset, .unset, .unset, .unset, .unset, .unset, .unset, .unset] [(.ref b28)])
    refine Go.step (fun _ k => XS.astore X31.here hx rfl (hb hby at_102) rfl rfl (l' := #[.val (.int p0), .val (.int p1), .val (.int p2), .val (.int p3), .val (.int p4), .val (.int p5), .val (.int (3 : Int32)), .val (.long s0), .second, .val (.long s1), .second, .val (.long s2), .second, .val (.ref b28), .unset, .unset, .unset, .unset, .unset, .unset, .unset, .unset]) rfl k) ?_
    show Go _ _ _ _ _ _ _ T31 (mkF m 104 #[.val (.int p0), .val (.int p1), .val (.int p2), .val (.int p3), .val (.int p4), .val (.int p5), .val (.int (3 : Int32)), .val (.long s0), .second, .val (.long s1), .second, .val (.long s2), .second, .val (.ref b28), .unset, .unset, .unset, .unset, .unset, .unset, .unset, .unset] [])
    refine Go.step (fun _ k => XS.iload X31.here hx rfl (hb hby at_104) rfl k) ?_
    show Go _ _ _ _ _ _ _ T31 (mkF m 106 #[.val (.int p0), .val (.int p1), .val (.int p2), .val (.int p3), .val (.int p4), .val (.int p5), .val (.int (3 : Int32)), .val (.long s0), .second, .val (.long s1), .second, .val (.long s2), .second, .val (.ref b28), .unset, .unset, .unset, .unset, .unset, .unset, .unset, .unset] [(.int (3 : Int32))])
    refine Go.step (fun _ k => XS.iloadN X31.here hx rfl (hb hby at_106) rfl k) ?_
    show Go _ _ _ _ _ _ _ T31 (mkF m 107 #[.val (.int p0), .val (.int p1), .val (.int p2), .val (.int p3), .val (.int p4), .val (.int p5), .val (.int (3 : Int32)), .val (.long s0), .second, .val (.long s1), .second, .val (.long s2), .second, .val (.ref b28), .unset, .unset, .unset, .unset, .unset, .unset, .unset, .unset] [(.int p1), (.int (3 : Int32))])
    refine Go.step (X31.ldcInt hx hown (mvT hZ (hw _ (List.mem_of_getElem? (i := 0) rfl))) (g := (mkF m 107 #[.val (.int p0), .val (.int p1), .val (.int p2), .val (.int p3), .val (.int p4), .val (.int p5), .val (.int (3 : Int32)), .val (.long s0), .second, .val (.long s1), .second, .val (.long s2), .second, .val (.ref b28), .unset, .unset, .unset, .unset, .unset, .unset, .unset, .unset] [(.int p1), (.int (3 : Int32))])) rfl (hb hby at_107)) ?_
    show Go _ _ _ _ _ _ _ T31 (mkF m 109 #[.val (.int p0), .val (.int p1), .val (.int p2), .val (.int p3), .val (.int p4), .val (.int p5), .val (.int (3 : Int32)), .val (.long s0), .second, .val (.long s1), .second, .val (.long s2), .second, .val (.ref b28), .unset, .unset, .unset, .unset, .unset, .unset, .unset, .unset] [(.int (2147483647 : Int32)), (.int p1), (.int (3 : Int32))])
    refine Go.step (fun _ k => XS.iand X31.here hx rfl (hb hby at_109) rfl k) ?_
    show Go _ _ _ _ _ _ _ T31 (mkF m 110 #[.val (.int p0), .val (.int p1), .val (.int p2), .val (.int p3), .val (.int p4), .val (.int p5), .val (.int (3 : Int32)), .val (.long s0), .second, .val (.long s1), .second, .val (.long s2), .second, .val (.ref b28), .unset, .unset, .unset, .unset, .unset, .unset, .unset, .unset] [(.int (p1 &&& (2147483647 : Int32))), (.int (3 : Int32))])
    refine Go.callS X31 hx hZ (by rw [hml]; rfl) (y := (⟨"java/lang/Math", "max", "(II)I"⟩ : MethodName)) (argsL := [(.int (3 : Int32)), (.int (p1 &&& (2147483647 : Int32)))]) (rest := []) hown (hw _ (List.mem_of_getElem? (i := 3) rfl)) (hw _ (List.mem_of_getElem? (i := 4) rfl)) (hw _ (List.mem_of_getElem? (i := 5) rfl)) (hw _ (List.mem_of_getElem? (i := 6) rfl)) (by decide) (rm1 l Z a0 hw (3 : Int32) (p1 &&& (2147483647 : Int32)) h31 n0 (Nat.le_trans Z0 (K31 : Keep h0 h31 []).1)) e31 (hb hby at_110) (lenOf pd_3 rfl) rfl rfl (W := 0) (Nat.le_of_eq rfl) (by decide) (by decide) (by decide) (by decide) ?_
    intro v32 T32 L32 X32 Q32
    obtain ⟨rfl, N32q, hh32⟩ := Q32
    have N32 := Fr.app N31 N32q
    show Go _ _ _ _ _ _ _ T32 (mkF m 113 #[.val (.int p0), .val (.int p1), .val (.int p2), .val (.int p3), .val (.int p4), .val (.int p5), .val (.int (3 : Int32)), .val (.long s0), .second, .val (.long s1), .second, .val (.long s2), .second, .val (.ref b28), .unset, .unset, .unset, .unset, .unset, .unset, .unset, .unset] [(.int (imaxW (3 : Int32) (p1 &&& (2147483647 : Int32))))])
    refine Go.step (fun _ k => XS.istore X32.here hx rfl (hb hby at_113) rfl (l' := #[.val (.int p0), .val (.int p1), .val (.int p2), .val (.int p3), .val (.int p4), .val (.int p5), .val (.int (3 : Int32)), .val (.long s0), .second, .val (.long s1), .second, .val (.long s2), .second, .val (.ref b28), .val (.int (imaxW (3 : Int32) (p1 &&& (2147483647 : Int32)))), .unset, .unset, .unset, .unset, .unset, .unset, .unset]) rfl k) ?_
    obtain ⟨K, h_K⟩ : ∃ z, z = (imaxW (3 : Int32) (p1 &&& (2147483647 : Int32))) := ⟨_, rfl⟩
    rw [← h_K]
    have hK := own_max (p := (3 : Int32)) (by decide) K h_K
    show Go _ _ _ _ _ _ _ T32 (mkF m 115 #[.val (.int p0), .val (.int p1), .val (.int p2), .val (.int p3), .val (.int p4), .val (.int p5), .val (.int (3 : Int32)), .val (.long s0), .second, .val (.long s1), .second, .val (.long s2), .second, .val (.ref b28), .val (.int K), .unset, .unset, .unset, .unset, .unset, .unset, .unset] [])
    refine Go.step (fun _ k => XS.iloadN X32.here hx rfl (hb hby at_115) rfl k) ?_
    show Go _ _ _ _ _ _ _ T32 (mkF m 116 #[.val (.int p0), .val (.int p1), .val (.int p2), .val (.int p3), .val (.int p4), .val (.int p5), .val (.int (3 : Int32)), .val (.long s0), .second, .val (.long s1), .second, .val (.long s2), .second, .val (.ref b28), .val (.int K), .unset, .unset, .unset, .unset, .unset, .unset, .unset] [(.int p2)])
    refine Go.step (X32.ldcInt hx hown (mvT hZ (hw _ (List.mem_of_getElem? (i := 0) rfl))) (g := (mkF m 116 #[.val (.int p0), .val (.int p1), .val (.int p2), .val (.int p3), .val (.int p4), .val (.int p5), .val (.int (3 : Int32)), .val (.long s0), .second, .val (.long s1), .second, .val (.long s2), .second, .val (.ref b28), .val (.int K), .unset, .unset, .unset, .unset, .unset, .unset, .unset] [(.int p2)])) rfl (hb hby at_116)) ?_
    show Go _ _ _ _ _ _ _ T32 (mkF m 118 #[.val (.int p0), .val (.int p1), .val (.int p2), .val (.int p3), .val (.int p4), .val (.int p5), .val (.int (3 : Int32)), .val (.long s0), .second, .val (.long s1), .second, .val (.long s2), .second, .val (.ref b28), .val (.int K), .unset, .unset, .unset, .unset, .unset, .unset, .unset] [(.int (2147483647 : Int32)), (.int p2)])
    refine Go.step (fun _ k => XS.iand X32.here hx rfl (hb hby at_118) rfl k) ?_
    show Go _ _ _ _ _ _ _ T32 (mkF m 119 #[.val (.int p0), .val (.int p1), .val (.int p2), .val (.int p3), .val (.int p4), .val (.int p5), .val (.int (3 : Int32)), .val (.long s0), .second, .val (.long s1), .second, .val (.long s2), .second, .val (.ref b28), .val (.int K), .unset, .unset, .unset, .unset, .unset, .unset, .unset] [(.int (p2 &&& (2147483647 : Int32)))])
    refine Go.step (fun _ k => XS.iload X32.here hx rfl (hb hby at_119) rfl k) ?_
    show Go _ _ _ _ _ _ _ T32 (mkF m 121 #[.val (.int p0), .val (.int p1), .val (.int p2), .val (.int p3), .val (.int p4), .val (.int p5), .val (.int (3 : Int32)), .val (.long s0), .second, .val (.long s1), .second, .val (.long s2), .second, .val (.ref b28), .val (.int K), .unset, .unset, .unset, .unset, .unset, .unset, .unset] [(.int K), (.int (p2 &&& (2147483647 : Int32)))])
    refine Go.step (fun _ k => iremM X32 hx rfl (hb hby at_121) rfl (own_k0 hK.2) k) ?_
    show Go _ _ _ _ _ _ _ T32 (mkF m 122 #[.val (.int p0), .val (.int p1), .val (.int p2), .val (.int p3), .val (.int p4), .val (.int p5), .val (.int (3 : Int32)), .val (.long s0), .second, .val (.long s1), .second, .val (.long s2), .second, .val (.ref b28), .val (.int K), .unset, .unset, .unset, .unset, .unset, .unset, .unset] [(.int ((p2 &&& (2147483647 : Int32)) % K))])
    refine Go.step (fun _ k => XS.istore X32.here hx rfl (hb hby at_122) rfl (l' := #[.val (.int p0), .val (.int p1), .val (.int p2), .val (.int p3), .val (.int p4), .val (.int p5), .val (.int (3 : Int32)), .val (.long s0), .second, .val (.long s1), .second, .val (.long s2), .second, .val (.ref b28), .val (.int K), .val (.int ((p2 &&& (2147483647 : Int32)) % K)), .unset, .unset, .unset, .unset, .unset, .unset]) rfl k) ?_
    obtain ⟨fi, h_fi⟩ : ∃ z, z = ((p2 &&& (2147483647 : Int32)) % K) := ⟨_, rfl⟩
    rw [← h_fi]
    have hfi := own_first hK.2 h_fi
    show Go _ _ _ _ _ _ _ T32 (mkF m 124 #[.val (.int p0), .val (.int p1), .val (.int p2), .val (.int p3), .val (.int p4), .val (.int p5), .val (.int (3 : Int32)), .val (.long s0), .second, .val (.long s1), .second, .val (.long s2), .second, .val (.ref b28), .val (.int K), .val (.int fi), .unset, .unset, .unset, .unset, .unset, .unset] [])
    refine Go.step (fun _ k => XS.iload X32.here hx rfl (hb hby at_124) rfl k) ?_
    show Go _ _ _ _ _ _ _ T32 (mkF m 126 #[.val (.int p0), .val (.int p1), .val (.int p2), .val (.int p3), .val (.int p4), .val (.int p5), .val (.int (3 : Int32)), .val (.long s0), .second, .val (.long s1), .second, .val (.long s2), .second, .val (.ref b28), .val (.int K), .val (.int fi), .unset, .unset, .unset, .unset, .unset, .unset] [(.int fi)])
    refine Go.step (fun _ k => XS.iloadN X32.here hx rfl (hb hby at_126) rfl k) ?_
    show Go _ _ _ _ _ _ _ T32 (mkF m 127 #[.val (.int p0), .val (.int p1), .val (.int p2), .val (.int p3), .val (.int p4), .val (.int p5), .val (.int (3 : Int32)), .val (.long s0), .second, .val (.long s1), .second, .val (.long s2), .second, .val (.ref b28), .val (.int K), .val (.int fi), .unset, .unset, .unset, .unset, .unset, .unset] [(.int p3), (.int fi)])
    refine Go.step (X32.ldcInt hx hown (mvT hZ (hw _ (List.mem_of_getElem? (i := 0) rfl))) (g := (mkF m 127 #[.val (.int p0), .val (.int p1), .val (.int p2), .val (.int p3), .val (.int p4), .val (.int p5), .val (.int (3 : Int32)), .val (.long s0), .second, .val (.long s1), .second, .val (.long s2), .second, .val (.ref b28), .val (.int K), .val (.int fi), .unset, .unset, .unset, .unset, .unset, .unset] [(.int p3), (.int fi)])) rfl (hb hby at_127)) ?_
    show Go _ _ _ _ _ _ _ T32 (mkF m 129 #[.val (.int p0), .val (.int p1), .val (.int p2), .val (.int p3), .val (.int p4), .val (.int p5), .val (.int (3 : Int32)), .val (.long s0), .second, .val (.long s1), .second, .val (.long s2), .second, .val (.ref b28), .val (.int K), .val (.int fi), .unset, .unset, .unset, .unset, .unset, .unset] [(.int (2147483647 : Int32)), (.int p3), (.int fi)])
    refine Go.step (fun _ k => XS.iand X32.here hx rfl (hb hby at_129) rfl k) ?_
    show Go _ _ _ _ _ _ _ T32 (mkF m 130 #[.val (.int p0), .val (.int p1), .val (.int p2), .val (.int p3), .val (.int p4), .val (.int p5), .val (.int (3 : Int32)), .val (.long s0), .second, .val (.long s1), .second, .val (.long s2), .second, .val (.ref b28), .val (.int K), .val (.int fi), .unset, .unset, .unset, .unset, .unset, .unset] [(.int (p3 &&& (2147483647 : Int32))), (.int fi)])
    refine Go.step (fun _ k => XS.iload X32.here hx rfl (hb hby at_130) rfl k) ?_
    show Go _ _ _ _ _ _ _ T32 (mkF m 132 #[.val (.int p0), .val (.int p1), .val (.int p2), .val (.int p3), .val (.int p4), .val (.int p5), .val (.int (3 : Int32)), .val (.long s0), .second, .val (.long s1), .second, .val (.long s2), .second, .val (.ref b28), .val (.int K), .val (.int fi), .unset, .unset, .unset, .unset, .unset, .unset] [(.int K), (.int (p3 &&& (2147483647 : Int32))), (.int fi)])
    refine Go.step (fun _ k => XS.iload X32.here hx rfl (hb hby at_132) rfl k) ?_
    show Go _ _ _ _ _ _ _ T32 (mkF m 134 #[.val (.int p0), .val (.int p1), .val (.int p2), .val (.int p3), .val (.int p4), .val (.int p5), .val (.int (3 : Int32)), .val (.long s0), .second, .val (.long s1), .second, .val (.long s2), .second, .val (.ref b28), .val (.int K), .val (.int fi), .unset, .unset, .unset, .unset, .unset, .unset] [(.int fi), (.int K), (.int (p3 &&& (2147483647 : Int32))), (.int fi)])
    refine Go.step (fun _ k => XS.isub X32.here hx rfl (hb hby at_134) rfl k) ?_
    show Go _ _ _ _ _ _ _ T32 (mkF m 135 #[.val (.int p0), .val (.int p1), .val (.int p2), .val (.int p3), .val (.int p4), .val (.int p5), .val (.int (3 : Int32)), .val (.long s0), .second, .val (.long s1), .second, .val (.long s2), .second, .val (.ref b28), .val (.int K), .val (.int fi), .unset, .unset, .unset, .unset, .unset, .unset] [(.int (K - fi)), (.int (p3 &&& (2147483647 : Int32))), (.int fi)])
    refine Go.step (fun _ k => iremM X32 hx rfl (hb hby at_135) rfl (own_kf0 hfi.1 hfi.2) k) ?_
    show Go _ _ _ _ _ _ _ T32 (mkF m 136 #[.val (.int p0), .val (.int p1), .val (.int p2), .val (.int p3), .val (.int p4), .val (.int p5), .val (.int (3 : Int32)), .val (.long s0), .second, .val (.long s1), .second, .val (.long s2), .second, .val (.ref b28), .val (.int K), .val (.int fi), .unset, .unset, .unset, .unset, .unset, .unset] [(.int ((p3 &&& (2147483647 : Int32)) % (K - fi))), (.int fi)])
    refine Go.step (fun _ k => XS.iadd X32.here hx rfl (hb hby at_136) rfl k) ?_
    show Go _ _ _ _ _ _ _ T32 (mkF m 137 #[.val (.int p0), .val (.int p1), .val (.int p2), .val (.int p3), .val (.int p4), .val (.int p5), .val (.int (3 : Int32)), .val (.long s0), .second, .val (.long s1), .second, .val (.long s2), .second, .val (.ref b28), .val (.int K), .val (.int fi), .unset, .unset, .unset, .unset, .unset, .unset] [(.int (fi + ((p3 &&& (2147483647 : Int32)) % (K - fi))))])
    refine Go.step (fun _ k => XS.istore X32.here hx rfl (hb hby at_137) rfl (l' := #[.val (.int p0), .val (.int p1), .val (.int p2), .val (.int p3), .val (.int p4), .val (.int p5), .val (.int (3 : Int32)), .val (.long s0), .second, .val (.long s1), .second, .val (.long s2), .second, .val (.ref b28), .val (.int K), .val (.int fi), .val (.int (fi + ((p3 &&& (2147483647 : Int32)) % (K - fi)))), .unset, .unset, .unset, .unset, .unset]) rfl k) ?_
    show Go _ _ _ _ _ _ _ T32 (mkF m 139 #[.val (.int p0), .val (.int p1), .val (.int p2), .val (.int p3), .val (.int p4), .val (.int p5), .val (.int (3 : Int32)), .val (.long s0), .second, .val (.long s1), .second, .val (.long s2), .second, .val (.ref b28), .val (.int K), .val (.int fi), .val (.int (fi + ((p3 &&& (2147483647 : Int32)) % (K - fi)))), .unset, .unset, .unset, .unset, .unset] [])
    obtain ⟨la, h_la⟩ : ∃ z, z = (fi + ((p3 &&& (2147483647 : Int32)) % (K - fi))) := ⟨_, rfl⟩
    rw [← h_la]
    have hla := own_last hfi.1 hfi.2 h_la
    rcases own_combo3 hfi.1 hla.1 hla.2 with ⟨ho1, ho2⟩ | ⟨ho1, ho2⟩ | ⟨ho1, ho2⟩ | ⟨ho1, ho2⟩ | ⟨ho1, ho2⟩ | ⟨ho1, ho2⟩
    · show Go _ _ _ _ _ _ _ T32 (mkF m 139 #[.val (.int p0), .val (.int p1), .val (.int p2), .val (.int p3), .val (.int p4), .val (.int p5), .val (.int (3 : Int32)), .val (.long s0), .second, .val (.long s1), .second, .val (.long s2), .second, .val (.ref b28), .val (.int K), .val (.int fi), .val (.int la), .unset, .unset, .unset, .unset, .unset] [])
      obtain ⟨T33, h33, X33, e33, E33, A33, D33, -, st33⟩ := newO X32 hx hZ hown (hw _ (List.mem_of_getElem? (i := 7) rfl)) (hw _ (List.mem_of_getElem? (i := 8) rfl)) (hw _ (List.mem_of_getElem? (i := 9) rfl)) hh32 (g := (mkF m 139 #[.val (.int p0), .val (.int p1), .val (.int p2), .val (.int p3), .val (.int p4), .val (.int p5), .val (.int (3 : Int32)), .val (.long s0), .second, .val (.long s1), .second, .val (.long s2), .second, .val (.ref b28), .val (.int K), .val (.int fi), .val (.int la), .unset, .unset, .unset, .unset, .unset] [])) rfl (hb hby at_139) (by decide) (by decide)
      obtain ⟨b33, g33⟩ : ∃ z, z = h31.size := ⟨_, rfl⟩
      rw [← g33] at A33 D33 st33
      refine Go.step st33 ?_
      have K33 : Keep h0 h33 [] := K31.ext E33
      have sz_b33 : h0.size ≤ b33 := Nat.le_trans (K31 : Keep h0 h31 []).1 (Nat.le_of_eq g33.symm)
      have ge_b33 : n0 ≤ b33 := Nat.le_trans Z0 sz_b33
      have ne_b28_b33 : b28 ≠ b33 := Nat.ne_of_lt (Nat.lt_of_lt_of_le V_b28_31.lt (Nat.le_of_eq g33.symm))
      have V_b28_33 := V_b28_31.ext E33
      have E_b28_33 := E_b28_31.ext E33
      have E_b33 := A33
      have F_keyGroups_b33 : Fld Z h33 b33 "tidewatch/decision/KeyGroupCeiling" "keyGroups" "I" (.int (0 : Int32)) := D33 (Or.inr (hw _ (List.mem_of_getElem? (i := 17) rfl))) (ty := .int) (by decide)
      have F_shares_b33 : Fld Z h33 b33 "tidewatch/decision/KeyGroupCeiling" "shares" "[D" .null := D33 (Or.inr (hw _ (List.mem_of_getElem? (i := 28) rfl))) (ty := (.array .double)) (by decide)
      have F_before_b33 : Fld Z h33 b33 "tidewatch/decision/KeyGroupCeiling" "before" "[D" .null := D33 (Or.inr (hw _ (List.mem_of_getElem? (i := 30) rfl))) (ty := (.array .double)) (by decide)
      show Go _ _ _ _ _ _ _ T33 (mkF m 142 #[.val (.int p0), .val (.int p1), .val (.int p2), .val (.int p3), .val (.int p4), .val (.int p5), .val (.int (3 : Int32)), .val (.long s0), .second, .val (.long s1), .second, .val (.long s2), .second, .val (.ref b28), .val (.int K), .val (.int fi), .val (.int la), .unset, .unset, .unset, .unset, .unset] [(.ref b33)])
      refine Go.step (fun _ k => XS.dup X33.here hx rfl (hb hby at_142) rfl rfl k) ?_
      show Go _ _ _ _ _ _ _ T33 (mkF m 143 #[.val (.int p0), .val (.int p1), .val (.int p2), .val (.int p3), .val (.int p4), .val (.int p5), .val (.int (3 : Int32)), .val (.long s0), .second, .val (.long s1), .second, .val (.long s2), .second, .val (.ref b28), .val (.int K), .val (.int fi), .val (.int la), .unset, .unset, .unset, .unset, .unset] [(.ref b33), (.ref b33)])
      refine Go.step (fun _ k => XS.iload X33.here hx rfl (hb hby at_143) rfl k) ?_
      show Go _ _ _ _ _ _ _ T33 (mkF m 145 #[.val (.int p0), .val (.int p1), .val (.int p2), .val (.int p3), .val (.int p4), .val (.int p5), .val (.int (3 : Int32)), .val (.long s0), .second, .val (.long s1), .second, .val (.long s2), .second, .val (.ref b28), .val (.int K), .val (.int fi), .val (.int la), .unset, .unset, .unset, .unset, .unset] [(.int K), (.ref b33), (.ref b33)])
      refine Go.step (fun _ k => XS.aload X33.here hx rfl (hb hby at_145) rfl rfl k) ?_
      show Go _ _ _ _ _ _ _ T33 (mkF m 147 #[.val (.int p0), .val (.int p1), .val (.int p2), .val (.int p3), .val (.int p4), .val (.int p5), .val (.int (3 : Int32)), .val (.long s0), .second, .val (.long s1), .second, .val (.long s2), .second, .val (.ref b28), .val (.int K), .val (.int fi), .val (.int la), .unset, .unset, .unset, .unset, .unset] [(.ref b28), (.int K), (.ref b33), (.ref b33)])
      refine Go.callI X33 hx hZ (by rw [hml]; rfl) (y := (⟨"tidewatch/decision/KeyGroupCeiling", "<init>", "(I[D)V"⟩ : MethodName)) (a := b33) (argsL := [(.int K), (.ref b28)]) (rest := [(.ref b33)]) rfl hown (hw _ (List.mem_of_getElem? (i := 10) rfl)) (hw _ (List.mem_of_getElem? (i := 11) rfl)) (hw _ (List.mem_of_getElem? (i := 9) rfl)) (hw _ (List.mem_of_getElem? (i := 12) rfl)) (by decide) (rm2_3 l Z a0 hw b33 b28 K (updN (updN (updN (fun _ => (0 : UInt64)) 0 (FP.l2d s0)) 1 (FP.l2d s1)) 2 (FP.l2d s2)) h33 n0 (Nat.le_trans Z0 (K33 : Keep h0 h33 []).1) E_b33 F_keyGroups_b33 F_shares_b33 F_before_b33 E_b28_33 V_b28_33 ge_b33 (Ne.symm ne_b28_b33) hK.1 (fun i hi' => by rcases (by omega : i = 0 ∨ i = 1 ∨ i = 2) with rfl | rfl | rfl; exact Jvm.Free.Fl.l2d_fin _; exact Jvm.Free.Fl.l2d_fin _; exact Jvm.Free.Fl.l2d_fin _) (fun i hi' => by rcases (by omega : i = 0 ∨ i = 1 ∨ i = 2) with rfl | rfl | rfl; exact own_nneg hs0; exact own_nneg hs1; exact own_nneg hs2)) e33 (hb hby at_147) (lenOf pd_4 rfl) rfl rfl (W := 1) (Nat.le_of_eq rfl) (by decide) (by decide) (by decide) (by decide) ?_
      intro v34 T34 L34 X34 Q34
      obtain ⟨rfl, N34q, Kc34, Ec34, Fk34, c34, d34, Fc34, Fd34, Vc34, Vd34, sc34, sd34, ncd34⟩ := Q34
      have N34 := Fr.app N32 N34q
      have ne_b28_c34 : b28 ≠ c34 := Nat.ne_of_lt (Nat.lt_of_lt_of_le V_b28_33.lt sc34)
      have ne_b28_d34 : b28 ≠ d34 := Nat.ne_of_lt (Nat.lt_of_lt_of_le V_b28_33.lt sd34)
      have V_b28_34 := V_b28_33.keep Kc34 (ninS ne_b28_b33 nin0)
      have E_b28_34 := E_b28_33.keep Kc34
      have E_b33_34 := E_b33.keep Kc34
      have KK34 : Keep h0 T34.heap [] := (K33 : Keep h0 h33 []).trans Kc34 (allS (Or.inr sz_b33) all0)
      show Go _ _ _ _ _ _ _ T34 (mkF m 150 #[.val (.int p0), .val (.int p1), .val (.int p2), .val (.int p3), .val (.int p4), .val (.int p5), .val (.int (3 : Int32)), .val (.long s0), .second, .val (.long s1), .second, .val (.long s2), .second, .val (.ref b28), .val (.int K), .val (.int fi), .val (.int la), .unset, .unset, .unset, .unset, .unset] [(.ref b33)])
      refine Go.step (fun _ k => XS.astore X34.here hx rfl (hb hby at_150) rfl rfl (l' := #[.val (.int p0), .val (.int p1), .val (.int p2), .val (.int p3), .val (.int p4), .val (.int p5), .val (.int (3 : Int32)), .val (.long s0), .second, .val (.long s1), .second, .val (.long s2), .second, .val (.ref b28), .val (.int K), .val (.int fi), .val (.int la), .val (.ref b33), .unset, .unset, .unset, .unset]) rfl k) ?_
      show Go _ _ _ _ _ _ _ T34 (mkF m 152 #[.val (.int p0), .val (.int p1), .val (.int p2), .val (.int p3), .val (.int p4), .val (.int p5), .val (.int (3 : Int32)), .val (.long s0), .second, .val (.long s1), .second, .val (.long s2), .second, .val (.ref b28), .val (.int K), .val (.int fi), .val (.int la), .val (.ref b33), .unset, .unset, .unset, .unset] [])
      refine Go.step (fun _ k => XS.iload X34.here hx rfl (hb hby at_152) rfl k) ?_
      show Go _ _ _ _ _ _ _ T34 (mkF m 154 #[.val (.int p0), .val (.int p1), .val (.int p2), .val (.int p3), .val (.int p4), .val (.int p5), .val (.int (3 : Int32)), .val (.long s0), .second, .val (.long s1), .second, .val (.long s2), .second, .val (.ref b28), .val (.int K), .val (.int fi), .val (.int la), .val (.ref b33), .unset, .unset, .unset, .unset] [(.int fi)])
      refine Go.step (fun _ k => XS.iload X34.here hx rfl (hb hby at_154) rfl k) ?_
      show Go _ _ _ _ _ _ _ T34 (mkF m 156 #[.val (.int p0), .val (.int p1), .val (.int p2), .val (.int p3), .val (.int p4), .val (.int p5), .val (.int (3 : Int32)), .val (.long s0), .second, .val (.long s1), .second, .val (.long s2), .second, .val (.ref b28), .val (.int K), .val (.int fi), .val (.int la), .val (.ref b33), .unset, .unset, .unset, .unset] [(.int (3 : Int32)), (.int fi)])
      refine Go.step (fun _ k => XS.iload X34.here hx rfl (hb hby at_156) rfl k) ?_
      show Go _ _ _ _ _ _ _ T34 (mkF m 158 #[.val (.int p0), .val (.int p1), .val (.int p2), .val (.int p3), .val (.int p4), .val (.int p5), .val (.int (3 : Int32)), .val (.long s0), .second, .val (.long s1), .second, .val (.long s2), .second, .val (.ref b28), .val (.int K), .val (.int fi), .val (.int la), .val (.ref b33), .unset, .unset, .unset, .unset] [(.int K), (.int (3 : Int32)), (.int fi)])
      refine Go.callS X34 hx hZ (by rw [hml]; rfl) (y := (⟨"tidewatch/decision/KeyGroupCeilingAtMostPinLaw", "ownerRef", "(III)I"⟩ : MethodName)) (argsL := [(.int fi), (.int (3 : Int32)), (.int K)]) (rest := []) hown (hw _ (List.mem_of_getElem? (i := 39) rfl)) (hw _ (List.mem_of_getElem? (i := 40) rfl)) (hw _ (List.mem_of_getElem? (i := 41) rfl)) (hw _ (List.mem_of_getElem? (i := 42) rfl)) (by decide) (rm6_3 l Z a0 hw fi K T34.heap n0 (Nat.le_trans Z0 (KK34 : Keep h0 T34.heap []).1)) rfl (hb hby at_158) (lenOf pd_5 rfl) rfl rfl (W := 0) (Nat.le_of_eq rfl) (by decide) (by decide) (by decide) (by decide) ?_
      intro v35 T35 L35 X35 Q35
      rw [ho1.1] at Q35
      obtain ⟨rfl, N35q, hh35⟩ := Q35
      have N35 := Fr.app N34 N35q
      show Go _ _ _ _ _ _ _ T35 (mkF m 161 #[.val (.int p0), .val (.int p1), .val (.int p2), .val (.int p3), .val (.int p4), .val (.int p5), .val (.int (3 : Int32)), .val (.long s0), .second, .val (.long s1), .second, .val (.long s2), .second, .val (.ref b28), .val (.int K), .val (.int fi), .val (.int la), .val (.ref b33), .unset, .unset, .unset, .unset] [(.int (0 : Int32))])
      refine Go.step (fun _ k => XS.istore X35.here hx rfl (hb hby at_161) rfl (l' := #[.val (.int p0), .val (.int p1), .val (.int p2), .val (.int p3), .val (.int p4), .val (.int p5), .val (.int (3 : Int32)), .val (.long s0), .second, .val (.long s1), .second, .val (.long s2), .second, .val (.ref b28), .val (.int K), .val (.int fi), .val (.int la), .val (.ref b33), .val (.int (0 : Int32)), .unset, .unset, .unset]) rfl k) ?_
      show Go _ _ _ _ _ _ _ T35 (mkF m 163 #[.val (.int p0), .val (.int p1), .val (.int p2), .val (.int p3), .val (.int p4), .val (.int p5), .val (.int (3 : Int32)), .val (.long s0), .second, .val (.long s1), .second, .val (.long s2), .second, .val (.ref b28), .val (.int K), .val (.int fi), .val (.int la), .val (.ref b33), .val (.int (0 : Int32)), .unset, .unset, .unset] [])
      refine Go.step (fun _ k => XS.iload X35.here hx rfl (hb hby at_163) rfl k) ?_
      show Go _ _ _ _ _ _ _ T35 (mkF m 165 #[.val (.int p0), .val (.int p1), .val (.int p2), .val (.int p3), .val (.int p4), .val (.int p5), .val (.int (3 : Int32)), .val (.long s0), .second, .val (.long s1), .second, .val (.long s2), .second, .val (.ref b28), .val (.int K), .val (.int fi), .val (.int la), .val (.ref b33), .val (.int (0 : Int32)), .unset, .unset, .unset] [(.int la)])
      refine Go.step (fun _ k => XS.iload X35.here hx rfl (hb hby at_165) rfl k) ?_
      show Go _ _ _ _ _ _ _ T35 (mkF m 167 #[.val (.int p0), .val (.int p1), .val (.int p2), .val (.int p3), .val (.int p4), .val (.int p5), .val (.int (3 : Int32)), .val (.long s0), .second, .val (.long s1), .second, .val (.long s2), .second, .val (.ref b28), .val (.int K), .val (.int fi), .val (.int la), .val (.ref b33), .val (.int (0 : Int32)), .unset, .unset, .unset] [(.int (3 : Int32)), (.int la)])
      refine Go.step (fun _ k => XS.iload X35.here hx rfl (hb hby at_167) rfl k) ?_
      show Go _ _ _ _ _ _ _ T35 (mkF m 169 #[.val (.int p0), .val (.int p1), .val (.int p2), .val (.int p3), .val (.int p4), .val (.int p5), .val (.int (3 : Int32)), .val (.long s0), .second, .val (.long s1), .second, .val (.long s2), .second, .val (.ref b28), .val (.int K), .val (.int fi), .val (.int la), .val (.ref b33), .val (.int (0 : Int32)), .unset, .unset, .unset] [(.int K), (.int (3 : Int32)), (.int la)])
      refine Go.callS X35 hx hZ (by rw [hml]; rfl) (y := (⟨"tidewatch/decision/KeyGroupCeilingAtMostPinLaw", "ownerRef", "(III)I"⟩ : MethodName)) (argsL := [(.int la), (.int (3 : Int32)), (.int K)]) (rest := []) hown (hw _ (List.mem_of_getElem? (i := 39) rfl)) (hw _ (List.mem_of_getElem? (i := 40) rfl)) (hw _ (List.mem_of_getElem? (i := 41) rfl)) (hw _ (List.mem_of_getElem? (i := 42) rfl)) (by decide) (rm6_3 l Z a0 hw la K T34.heap n0 (Nat.le_trans Z0 (KK34 : Keep h0 T34.heap []).1)) hh35 (hb hby at_169) (lenOf pd_5 rfl) rfl rfl (W := 0) (Nat.le_of_eq rfl) (by decide) (by decide) (by decide) (by decide) ?_
      intro v36 T36 L36 X36 Q36
      rw [ho2.1] at Q36
      obtain ⟨rfl, N36q, hh36⟩ := Q36
      have N36 := Fr.app N35 N36q
      show Go _ _ _ _ _ _ _ T36 (mkF m 172 #[.val (.int p0), .val (.int p1), .val (.int p2), .val (.int p3), .val (.int p4), .val (.int p5), .val (.int (3 : Int32)), .val (.long s0), .second, .val (.long s1), .second, .val (.long s2), .second, .val (.ref b28), .val (.int K), .val (.int fi), .val (.int la), .val (.ref b33), .val (.int (0 : Int32)), .unset, .unset, .unset] [(.int (0 : Int32))])
      refine Go.step (fun _ k => XS.istore X36.here hx rfl (hb hby at_172) rfl (l' := #[.val (.int p0), .val (.int p1), .val (.int p2), .val (.int p3), .val (.int p4), .val (.int p5), .val (.int (3 : Int32)), .val (.long s0), .second, .val (.long s1), .second, .val (.long s2), .second, .val (.ref b28), .val (.int K), .val (.int fi), .val (.int la), .val (.ref b33), .val (.int (0 : Int32)), .val (.int (0 : Int32)), .unset, .unset]) rfl k) ?_
      show Go _ _ _ _ _ _ _ T36 (mkF m 174 #[.val (.int p0), .val (.int p1), .val (.int p2), .val (.int p3), .val (.int p4), .val (.int p5), .val (.int (3 : Int32)), .val (.long s0), .second, .val (.long s1), .second, .val (.long s2), .second, .val (.ref b28), .val (.int K), .val (.int fi), .val (.int la), .val (.ref b33), .val (.int (0 : Int32)), .val (.int (0 : Int32)), .unset, .unset] [])
      refine Go.step (fun _ k => XS.lconst X36.here hx rfl (hb hby at_174) k) ?_
      show Go _ _ _ _ _ _ _ T36 (mkF m 175 #[.val (.int p0), .val (.int p1), .val (.int p2), .val (.int p3), .val (.int p4), .val (.int p5), .val (.int (3 : Int32)), .val (.long s0), .second, .val (.long s1), .second, .val (.long s2), .second, .val (.ref b28), .val (.int K), .val (.int fi), .val (.int la), .val (.ref b33), .val (.int (0 : Int32)), .val (.int (0 : Int32)), .unset, .unset] [(.long (0 : Int64))])
      refine Go.step (fun _ k => XS.lstore X36.here hx rfl (hb hby at_175) rfl (l' := #[.val (.int p0), .val (.int p1), .val (.int p2), .val (.int p3), .val (.int p4), .val (.int p5), .val (.int (3 : Int32)), .val (.long s0), .second, .val (.long s1), .second, .val (.long s2), .second, .val (.ref b28), .val (.int K), .val (.int fi), .val (.int la), .val (.ref b33), .val (.int (0 : Int32)), .val (.int (0 : Int32)), .val (.long (0 : Int64)), .second]) rfl k) ?_
      show Go _ _ _ _ _ _ _ T36 (mkF m 177 #[.val (.int p0), .val (.int p1), .val (.int p2), .val (.int p3), .val (.int p4), .val (.int p5), .val (.int (3 : Int32)), .val (.long s0), .second, .val (.long s1), .second, .val (.long s2), .second, .val (.ref b28), .val (.int K), .val (.int fi), .val (.int la), .val (.ref b33), .val (.int (0 : Int32)), .val (.int (0 : Int32)), .val (.long (0 : Int64)), .second] [])
      refine Go.step (fun _ k => XS.iload X36.here hx rfl (hb hby at_177) rfl k) ?_
      show Go _ _ _ _ _ _ _ T36 (mkF m 179 #[.val (.int p0), .val (.int p1), .val (.int p2), .val (.int p3), .val (.int p4), .val (.int p5), .val (.int (3 : Int32)), .val (.long s0), .second, .val (.long s1), .second, .val (.long s2), .second, .val (.ref b28), .val (.int K), .val (.int fi), .val (.int la), .val (.ref b33), .val (.int (0 : Int32)), .val (.int (0 : Int32)), .val (.long (0 : Int64)), .second] [(.int (0 : Int32))])
      refine Go.step (fun _ k => XS.ifNo X36.here hx rfl (hb hby at_179) rfl ((if0 _ _).trans (flt (by decide : ¬ ((0 : Int32) < (0 : Int32)))).2.2.1) k) ?_
      show Go _ _ _ _ _ _ _ T36 (mkF m 182 #[.val (.int p0), .val (.int p1), .val (.int p2), .val (.int p3), .val (.int p4), .val (.int p5), .val (.int (3 : Int32)), .val (.long s0), .second, .val (.long s1), .second, .val (.long s2), .second, .val (.ref b28), .val (.int K), .val (.int fi), .val (.int la), .val (.ref b33), .val (.int (0 : Int32)), .val (.int (0 : Int32)), .val (.long (0 : Int64)), .second] [])
      refine Go.step (fun _ k => XS.lload X36.here hx rfl (hb hby at_182) rfl k) ?_
      show Go _ _ _ _ _ _ _ T36 (mkF m 184 #[.val (.int p0), .val (.int p1), .val (.int p2), .val (.int p3), .val (.int p4), .val (.int p5), .val (.int (3 : Int32)), .val (.long s0), .second, .val (.long s1), .second, .val (.long s2), .second, .val (.ref b28), .val (.int K), .val (.int fi), .val (.int la), .val (.ref b33), .val (.int (0 : Int32)), .val (.int (0 : Int32)), .val (.long (0 : Int64)), .second] [(.long (0 : Int64))])
      refine Go.step (fun _ k => XS.lload X36.here hx rfl (hb hby at_184) rfl k) ?_
      show Go _ _ _ _ _ _ _ T36 (mkF m 186 #[.val (.int p0), .val (.int p1), .val (.int p2), .val (.int p3), .val (.int p4), .val (.int p5), .val (.int (3 : Int32)), .val (.long s0), .second, .val (.long s1), .second, .val (.long s2), .second, .val (.ref b28), .val (.int K), .val (.int fi), .val (.int la), .val (.ref b33), .val (.int (0 : Int32)), .val (.int (0 : Int32)), .val (.long (0 : Int64)), .second] [(.long s0), (.long (0 : Int64))])
      refine Go.step (fun _ k => XS.ladd X36.here hx rfl (hb hby at_186) rfl k) ?_
      show Go _ _ _ _ _ _ _ T36 (mkF m 187 #[.val (.int p0), .val (.int p1), .val (.int p2), .val (.int p3), .val (.int p4), .val (.int p5), .val (.int (3 : Int32)), .val (.long s0), .second, .val (.long s1), .second, .val (.long s2), .second, .val (.ref b28), .val (.int K), .val (.int fi), .val (.int la), .val (.ref b33), .val (.int (0 : Int32)), .val (.int (0 : Int32)), .val (.long (0 : Int64)), .second] [(.long ((0 : Int64) + s0))])
      refine Go.step (fun _ k => XS.lstore X36.here hx rfl (hb hby at_187) rfl (l' := #[.val (.int p0), .val (.int p1), .val (.int p2), .val (.int p3), .val (.int p4), .val (.int p5), .val (.int (3 : Int32)), .val (.long s0), .second, .val (.long s1), .second, .val (.long s2), .second, .val (.ref b28), .val (.int K), .val (.int fi), .val (.int la), .val (.ref b33), .val (.int (0 : Int32)), .val (.int (0 : Int32)), .val (.long ((0 : Int64) + s0)), .second]) rfl k) ?_
      show Go _ _ _ _ _ _ _ T36 (mkF m 189 #[.val (.int p0), .val (.int p1), .val (.int p2), .val (.int p3), .val (.int p4), .val (.int p5), .val (.int (3 : Int32)), .val (.long s0), .second, .val (.long s1), .second, .val (.long s2), .second, .val (.ref b28), .val (.int K), .val (.int fi), .val (.int la), .val (.ref b33), .val (.int (0 : Int32)), .val (.int (0 : Int32)), .val (.long ((0 : Int64) + s0)), .second] [])
      refine Go.step (fun _ k => XS.iload X36.here hx rfl (hb hby at_189) rfl k) ?_
      show Go _ _ _ _ _ _ _ T36 (mkF m 191 #[.val (.int p0), .val (.int p1), .val (.int p2), .val (.int p3), .val (.int p4), .val (.int p5), .val (.int (3 : Int32)), .val (.long s0), .second, .val (.long s1), .second, .val (.long s2), .second, .val (.ref b28), .val (.int K), .val (.int fi), .val (.int la), .val (.ref b33), .val (.int (0 : Int32)), .val (.int (0 : Int32)), .val (.long ((0 : Int64) + s0)), .second] [(.int (0 : Int32))])
      refine Go.step (fun _ k => XS.iconst X36.here hx rfl (hb hby at_191) k) ?_
      show Go _ _ _ _ _ _ _ T36 (mkF m 192 #[.val (.int p0), .val (.int p1), .val (.int p2), .val (.int p3), .val (.int p4), .val (.int p5), .val (.int (3 : Int32)), .val (.long s0), .second, .val (.long s1), .second, .val (.long s2), .second, .val (.ref b28), .val (.int K), .val (.int fi), .val (.int la), .val (.ref b33), .val (.int (0 : Int32)), .val (.int (0 : Int32)), .val (.long ((0 : Int64) + s0)), .second] [(.int (1 : Int32)), (.int (0 : Int32))])
      refine Go.step (fun _ k => XS.icmpNo X36.here hx rfl (hb hby at_192) rfl (flt (by decide : ¬ ((1 : Int32) < (0 : Int32)))).2.2.1 k) ?_
      show Go _ _ _ _ _ _ _ T36 (mkF m 195 #[.val (.int p0), .val (.int p1), .val (.int p2), .val (.int p3), .val (.int p4), .val (.int p5), .val (.int (3 : Int32)), .val (.long s0), .second, .val (.long s1), .second, .val (.long s2), .second, .val (.ref b28), .val (.int K), .val (.int fi), .val (.int la), .val (.ref b33), .val (.int (0 : Int32)), .val (.int (0 : Int32)), .val (.long ((0 : Int64) + s0)), .second] [])
      refine Go.step (fun _ k => XS.iload X36.here hx rfl (hb hby at_195) rfl k) ?_
      show Go _ _ _ _ _ _ _ T36 (mkF m 197 #[.val (.int p0), .val (.int p1), .val (.int p2), .val (.int p3), .val (.int p4), .val (.int p5), .val (.int (3 : Int32)), .val (.long s0), .second, .val (.long s1), .second, .val (.long s2), .second, .val (.ref b28), .val (.int K), .val (.int fi), .val (.int la), .val (.ref b33), .val (.int (0 : Int32)), .val (.int (0 : Int32)), .val (.long ((0 : Int64) + s0)), .second] [(.int (0 : Int32))])
      refine Go.step (fun _ k => XS.iconst X36.here hx rfl (hb hby at_197) k) ?_
      show Go _ _ _ _ _ _ _ T36 (mkF m 198 #[.val (.int p0), .val (.int p1), .val (.int p2), .val (.int p3), .val (.int p4), .val (.int p5), .val (.int (3 : Int32)), .val (.long s0), .second, .val (.long s1), .second, .val (.long s2), .second, .val (.ref b28), .val (.int K), .val (.int fi), .val (.int la), .val (.ref b33), .val (.int (0 : Int32)), .val (.int (0 : Int32)), .val (.long ((0 : Int64) + s0)), .second] [(.int (1 : Int32)), (.int (0 : Int32))])
      refine Go.step (fun _ k => XS.icmpYes X36.here hx rfl (pc0 := 198) (pc' := 208) rfl (hb hby at_198) rfl (tlt (by decide : (0 : Int32) < (1 : Int32))).1 (by decide) (by decide) k) ?_
      show Go _ _ _ _ _ _ _ T36 (mkF m 208 #[.val (.int p0), .val (.int p1), .val (.int p2), .val (.int p3), .val (.int p4), .val (.int p5), .val (.int (3 : Int32)), .val (.long s0), .second, .val (.long s1), .second, .val (.long s2), .second, .val (.ref b28), .val (.int K), .val (.int fi), .val (.int la), .val (.ref b33), .val (.int (0 : Int32)), .val (.int (0 : Int32)), .val (.long ((0 : Int64) + s0)), .second] [])
      refine Go.step (fun _ k => XS.iload X36.here hx rfl (hb hby at_208) rfl k) ?_
      show Go _ _ _ _ _ _ _ T36 (mkF m 210 #[.val (.int p0), .val (.int p1), .val (.int p2), .val (.int p3), .val (.int p4), .val (.int p5), .val (.int (3 : Int32)), .val (.long s0), .second, .val (.long s1), .second, .val (.long s2), .second, .val (.ref b28), .val (.int K), .val (.int fi), .val (.int la), .val (.ref b33), .val (.int (0 : Int32)), .val (.int (0 : Int32)), .val (.long ((0 : Int64) + s0)), .second] [(.int (0 : Int32))])
      refine Go.step (fun _ k => XS.iconst X36.here hx rfl (hb hby at_210) k) ?_
      show Go _ _ _ _ _ _ _ T36 (mkF m 211 #[.val (.int p0), .val (.int p1), .val (.int p2), .val (.int p3), .val (.int p4), .val (.int p5), .val (.int (3 : Int32)), .val (.long s0), .second, .val (.long s1), .second, .val (.long s2), .second, .val (.ref b28), .val (.int K), .val (.int fi), .val (.int la), .val (.ref b33), .val (.int (0 : Int32)), .val (.int (0 : Int32)), .val (.long ((0 : Int64) + s0)), .second] [(.int (2 : Int32)), (.int (0 : Int32))])
      refine Go.step (fun _ k => XS.icmpNo X36.here hx rfl (hb hby at_211) rfl (flt (by decide : ¬ ((2 : Int32) < (0 : Int32)))).2.2.1 k) ?_
      show Go _ _ _ _ _ _ _ T36 (mkF m 214 #[.val (.int p0), .val (.int p1), .val (.int p2), .val (.int p3), .val (.int p4), .val (.int p5), .val (.int (3 : Int32)), .val (.long s0), .second, .val (.long s1), .second, .val (.long s2), .second, .val (.ref b28), .val (.int K), .val (.int fi), .val (.int la), .val (.ref b33), .val (.int (0 : Int32)), .val (.int (0 : Int32)), .val (.long ((0 : Int64) + s0)), .second] [])
      refine Go.step (fun _ k => XS.iload X36.here hx rfl (hb hby at_214) rfl k) ?_
      show Go _ _ _ _ _ _ _ T36 (mkF m 216 #[.val (.int p0), .val (.int p1), .val (.int p2), .val (.int p3), .val (.int p4), .val (.int p5), .val (.int (3 : Int32)), .val (.long s0), .second, .val (.long s1), .second, .val (.long s2), .second, .val (.ref b28), .val (.int K), .val (.int fi), .val (.int la), .val (.ref b33), .val (.int (0 : Int32)), .val (.int (0 : Int32)), .val (.long ((0 : Int64) + s0)), .second] [(.int (0 : Int32))])
      refine Go.step (fun _ k => XS.iconst X36.here hx rfl (hb hby at_216) k) ?_
      show Go _ _ _ _ _ _ _ T36 (mkF m 217 #[.val (.int p0), .val (.int p1), .val (.int p2), .val (.int p3), .val (.int p4), .val (.int p5), .val (.int (3 : Int32)), .val (.long s0), .second, .val (.long s1), .second, .val (.long s2), .second, .val (.ref b28), .val (.int K), .val (.int fi), .val (.int la), .val (.ref b33), .val (.int (0 : Int32)), .val (.int (0 : Int32)), .val (.long ((0 : Int64) + s0)), .second] [(.int (2 : Int32)), (.int (0 : Int32))])
      refine Go.step (fun _ k => XS.icmpYes X36.here hx rfl (pc0 := 217) (pc' := 227) rfl (hb hby at_217) rfl (tlt (by decide : (0 : Int32) < (2 : Int32))).1 (by decide) (by decide) k) ?_
      have hAt : FP.dcmp (FP.dsub ((updN (updN (updN (fun _ => (0 : UInt64)) 1 (FP.dadd (0 : UInt64) ((updN (updN (updN (fun _ => (0 : UInt64)) 0 (FP.l2d s0)) 1 (FP.l2d s1)) 2 (FP.l2d s2)) 0))) 2 (FP.dadd (FP.dadd (0 : UInt64) ((updN (updN (updN (fun _ => (0 : UInt64)) 0 (FP.l2d s0)) 1 (FP.l2d s1)) 2 (FP.l2d s2)) 0)) ((updN (updN (updN (fun _ => (0 : UInt64)) 0 (FP.l2d s0)) 1 (FP.l2d s1)) 2 (FP.l2d s2)) 1))) 3 (FP.dadd (FP.dadd (FP.dadd (0 : UInt64) ((updN (updN (updN (fun _ => (0 : UInt64)) 0 (FP.l2d s0)) 1 (FP.l2d s1)) 2 (FP.l2d s2)) 0)) ((updN (updN (updN (fun _ => (0 : UInt64)) 0 (FP.l2d s0)) 1 (FP.l2d s1)) 2 (FP.l2d s2)) 1)) ((updN (updN (updN (fun _ => (0 : UInt64)) 0 (FP.l2d s0)) 1 (FP.l2d s1)) 2 (FP.l2d s2)) 2))) 1) ((updN (updN (updN (fun _ => (0 : UInt64)) 1 (FP.dadd (0 : UInt64) ((updN (updN (updN (fun _ => (0 : UInt64)) 0 (FP.l2d s0)) 1 (FP.l2d s1)) 2 (FP.l2d s2)) 0))) 2 (FP.dadd (FP.dadd (0 : UInt64) ((updN (updN (updN (fun _ => (0 : UInt64)) 0 (FP.l2d s0)) 1 (FP.l2d s1)) 2 (FP.l2d s2)) 0)) ((updN (updN (updN (fun _ => (0 : UInt64)) 0 (FP.l2d s0)) 1 (FP.l2d s1)) 2 (FP.l2d s2)) 1))) 3 (FP.dadd (FP.dadd (FP.dadd (0 : UInt64) ((updN (updN (updN (fun _ => (0 : UInt64)) 0 (FP.l2d s0)) 1 (FP.l2d s1)) 2 (FP.l2d s2)) 0)) ((updN (updN (updN (fun _ => (0 : UInt64)) 0 (FP.l2d s0)) 1 (FP.l2d s1)) 2 (FP.l2d s2)) 1)) ((updN (updN (updN (fun _ => (0 : UInt64)) 0 (FP.l2d s0)) 1 (FP.l2d s1)) 2 (FP.l2d s2)) 2))) 0)) (FP.l2d ((0 : Int64) + s0)) = some .eq := by
        have t0 := hs0.1; have t1 := hs0.2; have t2 := hs1.1; have t3 := hs1.2; have t4 := hs2.1; have t5 := hs2.2
        have e1 := own_sum (a := s0) (b := s1) t0 (by omega) hs1
        have e2 := own_sum (a := s0 + s1) (b := s2) (by omega) (by omega) hs2
        have hd : s0 - (0 : Int64) = ((0 : Int64) + s0) := own_eq64 (by
          have := c_ladd s0 s1
          have := c_ladd (s0 + s1) s2
          have := c_ladd (0 : Int64) s0
          have := c_lsub s0 (0 : Int64)
          have : (0 : Int64).toInt = 0 := rfl
          omega)
        exact own_at (a := s0) (b := (0 : Int64)) (own_d1 hs0) l2d_zero.symm (by first | omega | decide) (by first | omega | decide) (by first | omega | decide) (by first | omega | decide) hd
      show Go _ _ _ _ _ _ _ T36 (mkF m 227 #[.val (.int p0), .val (.int p1), .val (.int p2), .val (.int p3), .val (.int p4), .val (.int p5), .val (.int (3 : Int32)), .val (.long s0), .second, .val (.long s1), .second, .val (.long s2), .second, .val (.ref b28), .val (.int K), .val (.int fi), .val (.int la), .val (.ref b33), .val (.int (0 : Int32)), .val (.int (0 : Int32)), .val (.long ((0 : Int64) + s0)), .second] [])
      refine Go.step (fun _ k => XS.aload X36.here hx rfl (hb hby at_227) rfl rfl k) ?_
      show Go _ _ _ _ _ _ _ T36 (mkF m 229 #[.val (.int p0), .val (.int p1), .val (.int p2), .val (.int p3), .val (.int p4), .val (.int p5), .val (.int (3 : Int32)), .val (.long s0), .second, .val (.long s1), .second, .val (.long s2), .second, .val (.ref b28), .val (.int K), .val (.int fi), .val (.int la), .val (.ref b33), .val (.int (0 : Int32)), .val (.int (0 : Int32)), .val (.long ((0 : Int64) + s0)), .second] [(.ref b33)])
      refine Go.step (fun _ k => XS.iload X36.here hx rfl (hb hby at_229) rfl k) ?_
      show Go _ _ _ _ _ _ _ T36 (mkF m 231 #[.val (.int p0), .val (.int p1), .val (.int p2), .val (.int p3), .val (.int p4), .val (.int p5), .val (.int (3 : Int32)), .val (.long s0), .second, .val (.long s1), .second, .val (.long s2), .second, .val (.ref b28), .val (.int K), .val (.int fi), .val (.int la), .val (.ref b33), .val (.int (0 : Int32)), .val (.int (0 : Int32)), .val (.long ((0 : Int64) + s0)), .second] [(.int fi), (.ref b33)])
      refine Go.step (fun _ k => XS.iload X36.here hx rfl (hb hby at_231) rfl k) ?_
      show Go _ _ _ _ _ _ _ T36 (mkF m 233 #[.val (.int p0), .val (.int p1), .val (.int p2), .val (.int p3), .val (.int p4), .val (.int p5), .val (.int (3 : Int32)), .val (.long s0), .second, .val (.long s1), .second, .val (.long s2), .second, .val (.ref b28), .val (.int K), .val (.int fi), .val (.int la), .val (.ref b33), .val (.int (0 : Int32)), .val (.int (0 : Int32)), .val (.long ((0 : Int64) + s0)), .second] [(.int la), (.int fi), (.ref b33)])
      refine Go.callV X36 hx hZ (by rw [hml]; rfl) (y := (⟨"tidewatch/decision/KeyGroupCeiling", "atMost", "(II)D"⟩ : MethodName)) (z := (⟨"tidewatch/decision/KeyGroupCeiling", "atMost", "(II)D"⟩ : MethodName)) (a := b33) (argsL := [(.int fi), (.int la)]) (rest := []) hown (hw _ (List.mem_of_getElem? (i := 44) rfl)) (hw _ (List.mem_of_getElem? (i := 45) rfl)) (notFace_of_selects (args := #[]) (mvT hZ (hw _ (List.mem_of_getElem? (i := 47) rfl)))) (hw _ (List.mem_of_getElem? (i := 47) rfl)) (hw _ (List.mem_of_getElem? (i := 46) rfl)) (hw _ (List.mem_of_getElem? (i := 9) rfl)) (hw _ (List.mem_of_getElem? (i := 48) rfl)) (by decide) (rm7_300 l Z a0 hw b33 fi la c34 d34 K (updN (updN (updN (fun _ => (0 : UInt64)) 0 (FP.l2d s0)) 1 (FP.l2d s1)) 2 (FP.l2d s2)) (updN (updN (updN (fun _ => (0 : UInt64)) 1 (FP.dadd (0 : UInt64) ((updN (updN (updN (fun _ => (0 : UInt64)) 0 (FP.l2d s0)) 1 (FP.l2d s1)) 2 (FP.l2d s2)) 0))) 2 (FP.dadd (FP.dadd (0 : UInt64) ((updN (updN (updN (fun _ => (0 : UInt64)) 0 (FP.l2d s0)) 1 (FP.l2d s1)) 2 (FP.l2d s2)) 0)) ((updN (updN (updN (fun _ => (0 : UInt64)) 0 (FP.l2d s0)) 1 (FP.l2d s1)) 2 (FP.l2d s2)) 1))) 3 (FP.dadd (FP.dadd (FP.dadd (0 : UInt64) ((updN (updN (updN (fun _ => (0 : UInt64)) 0 (FP.l2d s0)) 1 (FP.l2d s1)) 2 (FP.l2d s2)) 0)) ((updN (updN (updN (fun _ => (0 : UInt64)) 0 (FP.l2d s0)) 1 (FP.l2d s1)) 2 (FP.l2d s2)) 1)) ((updN (updN (updN (fun _ => (0 : UInt64)) 0 (FP.l2d s0)) 1 (FP.l2d s1)) 2 (FP.l2d s2)) 2))) T34.heap n0 (Nat.le_trans Z0 (KK34 : Keep h0 T34.heap []).1) Ec34 Fk34 Fc34 Vc34 Fd34 Vd34 hK.2 ho1.2 ho2.2 (own_nnN (Jvm.FP.Core.dcmp_some hAt).1)) hh36 Ec34 (hb hby at_233) (lenOf pd_6 rfl) rfl rfl (W := 0) (Nat.le_of_eq rfl) (by decide) (by decide) (by decide) (by decide) ?_
      intro v37 T37 L37 X37 Q37
      obtain ⟨rfl, N37q, hh37⟩ := Q37
      have N37 := Fr.app N36 N37q
      show Go _ _ _ _ _ _ _ T37 (mkF m 236 #[.val (.int p0), .val (.int p1), .val (.int p2), .val (.int p3), .val (.int p4), .val (.int p5), .val (.int (3 : Int32)), .val (.long s0), .second, .val (.long s1), .second, .val (.long s2), .second, .val (.ref b28), .val (.int K), .val (.int fi), .val (.int la), .val (.ref b33), .val (.int (0 : Int32)), .val (.int (0 : Int32)), .val (.long ((0 : Int64) + s0)), .second] [(.double (FP.dsub ((updN (updN (updN (fun _ => (0 : UInt64)) 1 (FP.dadd (0 : UInt64) ((updN (updN (updN (fun _ => (0 : UInt64)) 0 (FP.l2d s0)) 1 (FP.l2d s1)) 2 (FP.l2d s2)) 0))) 2 (FP.dadd (FP.dadd (0 : UInt64) ((updN (updN (updN (fun _ => (0 : UInt64)) 0 (FP.l2d s0)) 1 (FP.l2d s1)) 2 (FP.l2d s2)) 0)) ((updN (updN (updN (fun _ => (0 : UInt64)) 0 (FP.l2d s0)) 1 (FP.l2d s1)) 2 (FP.l2d s2)) 1))) 3 (FP.dadd (FP.dadd (FP.dadd (0 : UInt64) ((updN (updN (updN (fun _ => (0 : UInt64)) 0 (FP.l2d s0)) 1 (FP.l2d s1)) 2 (FP.l2d s2)) 0)) ((updN (updN (updN (fun _ => (0 : UInt64)) 0 (FP.l2d s0)) 1 (FP.l2d s1)) 2 (FP.l2d s2)) 1)) ((updN (updN (updN (fun _ => (0 : UInt64)) 0 (FP.l2d s0)) 1 (FP.l2d s1)) 2 (FP.l2d s2)) 2))) 1) ((updN (updN (updN (fun _ => (0 : UInt64)) 1 (FP.dadd (0 : UInt64) ((updN (updN (updN (fun _ => (0 : UInt64)) 0 (FP.l2d s0)) 1 (FP.l2d s1)) 2 (FP.l2d s2)) 0))) 2 (FP.dadd (FP.dadd (0 : UInt64) ((updN (updN (updN (fun _ => (0 : UInt64)) 0 (FP.l2d s0)) 1 (FP.l2d s1)) 2 (FP.l2d s2)) 0)) ((updN (updN (updN (fun _ => (0 : UInt64)) 0 (FP.l2d s0)) 1 (FP.l2d s1)) 2 (FP.l2d s2)) 1))) 3 (FP.dadd (FP.dadd (FP.dadd (0 : UInt64) ((updN (updN (updN (fun _ => (0 : UInt64)) 0 (FP.l2d s0)) 1 (FP.l2d s1)) 2 (FP.l2d s2)) 0)) ((updN (updN (updN (fun _ => (0 : UInt64)) 0 (FP.l2d s0)) 1 (FP.l2d s1)) 2 (FP.l2d s2)) 1)) ((updN (updN (updN (fun _ => (0 : UInt64)) 0 (FP.l2d s0)) 1 (FP.l2d s1)) 2 (FP.l2d s2)) 2))) 0)))])
      refine Go.step (fun _ k => XS.lload X37.here hx rfl (hb hby at_236) rfl k) ?_
      show Go _ _ _ _ _ _ _ T37 (mkF m 238 #[.val (.int p0), .val (.int p1), .val (.int p2), .val (.int p3), .val (.int p4), .val (.int p5), .val (.int (3 : Int32)), .val (.long s0), .second, .val (.long s1), .second, .val (.long s2), .second, .val (.ref b28), .val (.int K), .val (.int fi), .val (.int la), .val (.ref b33), .val (.int (0 : Int32)), .val (.int (0 : Int32)), .val (.long ((0 : Int64) + s0)), .second] [(.long ((0 : Int64) + s0)), (.double (FP.dsub ((updN (updN (updN (fun _ => (0 : UInt64)) 1 (FP.dadd (0 : UInt64) ((updN (updN (updN (fun _ => (0 : UInt64)) 0 (FP.l2d s0)) 1 (FP.l2d s1)) 2 (FP.l2d s2)) 0))) 2 (FP.dadd (FP.dadd (0 : UInt64) ((updN (updN (updN (fun _ => (0 : UInt64)) 0 (FP.l2d s0)) 1 (FP.l2d s1)) 2 (FP.l2d s2)) 0)) ((updN (updN (updN (fun _ => (0 : UInt64)) 0 (FP.l2d s0)) 1 (FP.l2d s1)) 2 (FP.l2d s2)) 1))) 3 (FP.dadd (FP.dadd (FP.dadd (0 : UInt64) ((updN (updN (updN (fun _ => (0 : UInt64)) 0 (FP.l2d s0)) 1 (FP.l2d s1)) 2 (FP.l2d s2)) 0)) ((updN (updN (updN (fun _ => (0 : UInt64)) 0 (FP.l2d s0)) 1 (FP.l2d s1)) 2 (FP.l2d s2)) 1)) ((updN (updN (updN (fun _ => (0 : UInt64)) 0 (FP.l2d s0)) 1 (FP.l2d s1)) 2 (FP.l2d s2)) 2))) 1) ((updN (updN (updN (fun _ => (0 : UInt64)) 1 (FP.dadd (0 : UInt64) ((updN (updN (updN (fun _ => (0 : UInt64)) 0 (FP.l2d s0)) 1 (FP.l2d s1)) 2 (FP.l2d s2)) 0))) 2 (FP.dadd (FP.dadd (0 : UInt64) ((updN (updN (updN (fun _ => (0 : UInt64)) 0 (FP.l2d s0)) 1 (FP.l2d s1)) 2 (FP.l2d s2)) 0)) ((updN (updN (updN (fun _ => (0 : UInt64)) 0 (FP.l2d s0)) 1 (FP.l2d s1)) 2 (FP.l2d s2)) 1))) 3 (FP.dadd (FP.dadd (FP.dadd (0 : UInt64) ((updN (updN (updN (fun _ => (0 : UInt64)) 0 (FP.l2d s0)) 1 (FP.l2d s1)) 2 (FP.l2d s2)) 0)) ((updN (updN (updN (fun _ => (0 : UInt64)) 0 (FP.l2d s0)) 1 (FP.l2d s1)) 2 (FP.l2d s2)) 1)) ((updN (updN (updN (fun _ => (0 : UInt64)) 0 (FP.l2d s0)) 1 (FP.l2d s1)) 2 (FP.l2d s2)) 2))) 0)))])
      refine Go.step (fun _ k => XS.l2dS X37.here hx rfl (hb hby at_238) rfl rfl k) ?_
      show Go _ _ _ _ _ _ _ T37 (mkF m 239 #[.val (.int p0), .val (.int p1), .val (.int p2), .val (.int p3), .val (.int p4), .val (.int p5), .val (.int (3 : Int32)), .val (.long s0), .second, .val (.long s1), .second, .val (.long s2), .second, .val (.ref b28), .val (.int K), .val (.int fi), .val (.int la), .val (.ref b33), .val (.int (0 : Int32)), .val (.int (0 : Int32)), .val (.long ((0 : Int64) + s0)), .second] [(.double (FP.l2d ((0 : Int64) + s0))), (.double (FP.dsub ((updN (updN (updN (fun _ => (0 : UInt64)) 1 (FP.dadd (0 : UInt64) ((updN (updN (updN (fun _ => (0 : UInt64)) 0 (FP.l2d s0)) 1 (FP.l2d s1)) 2 (FP.l2d s2)) 0))) 2 (FP.dadd (FP.dadd (0 : UInt64) ((updN (updN (updN (fun _ => (0 : UInt64)) 0 (FP.l2d s0)) 1 (FP.l2d s1)) 2 (FP.l2d s2)) 0)) ((updN (updN (updN (fun _ => (0 : UInt64)) 0 (FP.l2d s0)) 1 (FP.l2d s1)) 2 (FP.l2d s2)) 1))) 3 (FP.dadd (FP.dadd (FP.dadd (0 : UInt64) ((updN (updN (updN (fun _ => (0 : UInt64)) 0 (FP.l2d s0)) 1 (FP.l2d s1)) 2 (FP.l2d s2)) 0)) ((updN (updN (updN (fun _ => (0 : UInt64)) 0 (FP.l2d s0)) 1 (FP.l2d s1)) 2 (FP.l2d s2)) 1)) ((updN (updN (updN (fun _ => (0 : UInt64)) 0 (FP.l2d s0)) 1 (FP.l2d s1)) 2 (FP.l2d s2)) 2))) 1) ((updN (updN (updN (fun _ => (0 : UInt64)) 1 (FP.dadd (0 : UInt64) ((updN (updN (updN (fun _ => (0 : UInt64)) 0 (FP.l2d s0)) 1 (FP.l2d s1)) 2 (FP.l2d s2)) 0))) 2 (FP.dadd (FP.dadd (0 : UInt64) ((updN (updN (updN (fun _ => (0 : UInt64)) 0 (FP.l2d s0)) 1 (FP.l2d s1)) 2 (FP.l2d s2)) 0)) ((updN (updN (updN (fun _ => (0 : UInt64)) 0 (FP.l2d s0)) 1 (FP.l2d s1)) 2 (FP.l2d s2)) 1))) 3 (FP.dadd (FP.dadd (FP.dadd (0 : UInt64) ((updN (updN (updN (fun _ => (0 : UInt64)) 0 (FP.l2d s0)) 1 (FP.l2d s1)) 2 (FP.l2d s2)) 0)) ((updN (updN (updN (fun _ => (0 : UInt64)) 0 (FP.l2d s0)) 1 (FP.l2d s1)) 2 (FP.l2d s2)) 1)) ((updN (updN (updN (fun _ => (0 : UInt64)) 0 (FP.l2d s0)) 1 (FP.l2d s1)) 2 (FP.l2d s2)) 2))) 0)))])
      refine Go.step (fun _ k => XS.dcmpS X37.here hx rfl (hb hby at_239) rfl rfl k) ?_
      show Go _ _ _ _ _ _ _ T37 (mkF m 240 #[.val (.int p0), .val (.int p1), .val (.int p2), .val (.int p3), .val (.int p4), .val (.int p5), .val (.int (3 : Int32)), .val (.long s0), .second, .val (.long s1), .second, .val (.long s2), .second, .val (.ref b28), .val (.int K), .val (.int fi), .val (.int la), .val (.ref b33), .val (.int (0 : Int32)), .val (.int (0 : Int32)), .val (.long ((0 : Int64) + s0)), .second] [(.int (cmpValue (FP.dcmp (FP.dsub ((updN (updN (updN (fun _ => (0 : UInt64)) 1 (FP.dadd (0 : UInt64) ((updN (updN (updN (fun _ => (0 : UInt64)) 0 (FP.l2d s0)) 1 (FP.l2d s1)) 2 (FP.l2d s2)) 0))) 2 (FP.dadd (FP.dadd (0 : UInt64) ((updN (updN (updN (fun _ => (0 : UInt64)) 0 (FP.l2d s0)) 1 (FP.l2d s1)) 2 (FP.l2d s2)) 0)) ((updN (updN (updN (fun _ => (0 : UInt64)) 0 (FP.l2d s0)) 1 (FP.l2d s1)) 2 (FP.l2d s2)) 1))) 3 (FP.dadd (FP.dadd (FP.dadd (0 : UInt64) ((updN (updN (updN (fun _ => (0 : UInt64)) 0 (FP.l2d s0)) 1 (FP.l2d s1)) 2 (FP.l2d s2)) 0)) ((updN (updN (updN (fun _ => (0 : UInt64)) 0 (FP.l2d s0)) 1 (FP.l2d s1)) 2 (FP.l2d s2)) 1)) ((updN (updN (updN (fun _ => (0 : UInt64)) 0 (FP.l2d s0)) 1 (FP.l2d s1)) 2 (FP.l2d s2)) 2))) 1) ((updN (updN (updN (fun _ => (0 : UInt64)) 1 (FP.dadd (0 : UInt64) ((updN (updN (updN (fun _ => (0 : UInt64)) 0 (FP.l2d s0)) 1 (FP.l2d s1)) 2 (FP.l2d s2)) 0))) 2 (FP.dadd (FP.dadd (0 : UInt64) ((updN (updN (updN (fun _ => (0 : UInt64)) 0 (FP.l2d s0)) 1 (FP.l2d s1)) 2 (FP.l2d s2)) 0)) ((updN (updN (updN (fun _ => (0 : UInt64)) 0 (FP.l2d s0)) 1 (FP.l2d s1)) 2 (FP.l2d s2)) 1))) 3 (FP.dadd (FP.dadd (FP.dadd (0 : UInt64) ((updN (updN (updN (fun _ => (0 : UInt64)) 0 (FP.l2d s0)) 1 (FP.l2d s1)) 2 (FP.l2d s2)) 0)) ((updN (updN (updN (fun _ => (0 : UInt64)) 0 (FP.l2d s0)) 1 (FP.l2d s1)) 2 (FP.l2d s2)) 1)) ((updN (updN (updN (fun _ => (0 : UInt64)) 0 (FP.l2d s0)) 1 (FP.l2d s1)) 2 (FP.l2d s2)) 2))) 0)) (FP.l2d ((0 : Int64) + s0))) .l))])
      refine Go.step (fun _ k => XS.ifNo X37.here hx rfl (hb hby at_240) rfl (eq_y .l hAt).1 k) ?_
      show Go _ _ _ _ _ _ _ T37 (mkF m 243 #[.val (.int p0), .val (.int p1), .val (.int p2), .val (.int p3), .val (.int p4), .val (.int p5), .val (.int (3 : Int32)), .val (.long s0), .second, .val (.long s1), .second, .val (.long s2), .second, .val (.ref b28), .val (.int K), .val (.int fi), .val (.int la), .val (.ref b33), .val (.int (0 : Int32)), .val (.int (0 : Int32)), .val (.long ((0 : Int64) + s0)), .second] [])
      refine Go.step (fun _ k => XS.iconst X37.here hx rfl (hb hby at_243) k) ?_
      show Go _ _ _ _ _ _ _ T37 (mkF m 244 #[.val (.int p0), .val (.int p1), .val (.int p2), .val (.int p3), .val (.int p4), .val (.int p5), .val (.int (3 : Int32)), .val (.long s0), .second, .val (.long s1), .second, .val (.long s2), .second, .val (.ref b28), .val (.int K), .val (.int fi), .val (.int la), .val (.ref b33), .val (.int (0 : Int32)), .val (.int (0 : Int32)), .val (.long ((0 : Int64) + s0)), .second] [(.int (1 : Int32))])
      refine Go.step (fun _ k => XS.goto X37.here hx rfl (pc0 := 244) (pc' := 248) rfl (hb hby at_244) (by decide) (by decide) k) ?_
      show Go _ _ _ _ _ _ _ T37 (mkF m 248 #[.val (.int p0), .val (.int p1), .val (.int p2), .val (.int p3), .val (.int p4), .val (.int p5), .val (.int (3 : Int32)), .val (.long s0), .second, .val (.long s1), .second, .val (.long s2), .second, .val (.ref b28), .val (.int K), .val (.int fi), .val (.int la), .val (.ref b33), .val (.int (0 : Int32)), .val (.int (0 : Int32)), .val (.long ((0 : Int64) + s0)), .second] [(.int (1 : Int32))])
      refine Go.retZ X37 hx hlk hret (by decide) (hb hby at_248) (by decide) (by decide) ?_
      try rw [hh37]
      exact ⟨rfl, N37⟩
    · show Go _ _ _ _ _ _ _ T32 (mkF m 139 #[.val (.int p0), .val (.int p1), .val (.int p2), .val (.int p3), .val (.int p4), .val (.int p5), .val (.int (3 : Int32)), .val (.long s0), .second, .val (.long s1), .second, .val (.long s2), .second, .val (.ref b28), .val (.int K), .val (.int fi), .val (.int la), .unset, .unset, .unset, .unset, .unset] [])
      obtain ⟨T38, h38, X38, e38, E38, A38, D38, -, st38⟩ := newO X32 hx hZ hown (hw _ (List.mem_of_getElem? (i := 7) rfl)) (hw _ (List.mem_of_getElem? (i := 8) rfl)) (hw _ (List.mem_of_getElem? (i := 9) rfl)) hh32 (g := (mkF m 139 #[.val (.int p0), .val (.int p1), .val (.int p2), .val (.int p3), .val (.int p4), .val (.int p5), .val (.int (3 : Int32)), .val (.long s0), .second, .val (.long s1), .second, .val (.long s2), .second, .val (.ref b28), .val (.int K), .val (.int fi), .val (.int la), .unset, .unset, .unset, .unset, .unset] [])) rfl (hb hby at_139) (by decide) (by decide)
      obtain ⟨b38, g38⟩ : ∃ z, z = h31.size := ⟨_, rfl⟩
      rw [← g38] at A38 D38 st38
      refine Go.step st38 ?_
      have K38 : Keep h0 h38 [] := K31.ext E38
      have sz_b38 : h0.size ≤ b38 := Nat.le_trans (K31 : Keep h0 h31 []).1 (Nat.le_of_eq g38.symm)
      have ge_b38 : n0 ≤ b38 := Nat.le_trans Z0 sz_b38
      have ne_b28_b38 : b28 ≠ b38 := Nat.ne_of_lt (Nat.lt_of_lt_of_le V_b28_31.lt (Nat.le_of_eq g38.symm))
      have V_b28_38 := V_b28_31.ext E38
      have E_b28_38 := E_b28_31.ext E38
      have E_b38 := A38
      have F_keyGroups_b38 : Fld Z h38 b38 "tidewatch/decision/KeyGroupCeiling" "keyGroups" "I" (.int (0 : Int32)) := D38 (Or.inr (hw _ (List.mem_of_getElem? (i := 17) rfl))) (ty := .int) (by decide)
      have F_shares_b38 : Fld Z h38 b38 "tidewatch/decision/KeyGroupCeiling" "shares" "[D" .null := D38 (Or.inr (hw _ (List.mem_of_getElem? (i := 28) rfl))) (ty := (.array .double)) (by decide)
      have F_before_b38 : Fld Z h38 b38 "tidewatch/decision/KeyGroupCeiling" "before" "[D" .null := D38 (Or.inr (hw _ (List.mem_of_getElem? (i := 30) rfl))) (ty := (.array .double)) (by decide)
      show Go _ _ _ _ _ _ _ T38 (mkF m 142 #[.val (.int p0), .val (.int p1), .val (.int p2), .val (.int p3), .val (.int p4), .val (.int p5), .val (.int (3 : Int32)), .val (.long s0), .second, .val (.long s1), .second, .val (.long s2), .second, .val (.ref b28), .val (.int K), .val (.int fi), .val (.int la), .unset, .unset, .unset, .unset, .unset] [(.ref b38)])
      refine Go.step (fun _ k => XS.dup X38.here hx rfl (hb hby at_142) rfl rfl k) ?_
      show Go _ _ _ _ _ _ _ T38 (mkF m 143 #[.val (.int p0), .val (.int p1), .val (.int p2), .val (.int p3), .val (.int p4), .val (.int p5), .val (.int (3 : Int32)), .val (.long s0), .second, .val (.long s1), .second, .val (.long s2), .second, .val (.ref b28), .val (.int K), .val (.int fi), .val (.int la), .unset, .unset, .unset, .unset, .unset] [(.ref b38), (.ref b38)])
      refine Go.step (fun _ k => XS.iload X38.here hx rfl (hb hby at_143) rfl k) ?_
      show Go _ _ _ _ _ _ _ T38 (mkF m 145 #[.val (.int p0), .val (.int p1), .val (.int p2), .val (.int p3), .val (.int p4), .val (.int p5), .val (.int (3 : Int32)), .val (.long s0), .second, .val (.long s1), .second, .val (.long s2), .second, .val (.ref b28), .val (.int K), .val (.int fi), .val (.int la), .unset, .unset, .unset, .unset, .unset] [(.int K), (.ref b38), (.ref b38)])
      refine Go.step (fun _ k => XS.aload X38.here hx rfl (hb hby at_145) rfl rfl k) ?_
      show Go _ _ _ _ _ _ _ T38 (mkF m 147 #[.val (.int p0), .val (.int p1), .val (.int p2), .val (.int p3), .val (.int p4), .val (.int p5), .val (.int (3 : Int32)), .val (.long s0), .second, .val (.long s1), .second, .val (.long s2), .second, .val (.ref b28), .val (.int K), .val (.int fi), .val (.int la), .unset, .unset, .unset, .unset, .unset] [(.ref b28), (.int K), (.ref b38), (.ref b38)])
      refine Go.callI X38 hx hZ (by rw [hml]; rfl) (y := (⟨"tidewatch/decision/KeyGroupCeiling", "<init>", "(I[D)V"⟩ : MethodName)) (a := b38) (argsL := [(.int K), (.ref b28)]) (rest := [(.ref b38)]) rfl hown (hw _ (List.mem_of_getElem? (i := 10) rfl)) (hw _ (List.mem_of_getElem? (i := 11) rfl)) (hw _ (List.mem_of_getElem? (i := 9) rfl)) (hw _ (List.mem_of_getElem? (i := 12) rfl)) (by decide) (rm2_3 l Z a0 hw b38 b28 K (updN (updN (updN (fun _ => (0 : UInt64)) 0 (FP.l2d s0)) 1 (FP.l2d s1)) 2 (FP.l2d s2)) h38 n0 (Nat.le_trans Z0 (K38 : Keep h0 h38 []).1) E_b38 F_keyGroups_b38 F_shares_b38 F_before_b38 E_b28_38 V_b28_38 ge_b38 (Ne.symm ne_b28_b38) hK.1 (fun i hi' => by rcases (by omega : i = 0 ∨ i = 1 ∨ i = 2) with rfl | rfl | rfl; exact Jvm.Free.Fl.l2d_fin _; exact Jvm.Free.Fl.l2d_fin _; exact Jvm.Free.Fl.l2d_fin _) (fun i hi' => by rcases (by omega : i = 0 ∨ i = 1 ∨ i = 2) with rfl | rfl | rfl; exact own_nneg hs0; exact own_nneg hs1; exact own_nneg hs2)) e38 (hb hby at_147) (lenOf pd_4 rfl) rfl rfl (W := 1) (Nat.le_of_eq rfl) (by decide) (by decide) (by decide) (by decide) ?_
      intro v39 T39 L39 X39 Q39
      obtain ⟨rfl, N39q, Kc39, Ec39, Fk39, c39, d39, Fc39, Fd39, Vc39, Vd39, sc39, sd39, ncd39⟩ := Q39
      have N39 := Fr.app N32 N39q
      have ne_b28_c39 : b28 ≠ c39 := Nat.ne_of_lt (Nat.lt_of_lt_of_le V_b28_38.lt sc39)
      have ne_b28_d39 : b28 ≠ d39 := Nat.ne_of_lt (Nat.lt_of_lt_of_le V_b28_38.lt sd39)
      have V_b28_39 := V_b28_38.keep Kc39 (ninS ne_b28_b38 nin0)
      have E_b28_39 := E_b28_38.keep Kc39
      have E_b38_39 := E_b38.keep Kc39
      have KK39 : Keep h0 T39.heap [] := (K38 : Keep h0 h38 []).trans Kc39 (allS (Or.inr sz_b38) all0)
      show Go _ _ _ _ _ _ _ T39 (mkF m 150 #[.val (.int p0), .val (.int p1), .val (.int p2), .val (.int p3), .val (.int p4), .val (.int p5), .val (.int (3 : Int32)), .val (.long s0), .second, .val (.long s1), .second, .val (.long s2), .second, .val (.ref b28), .val (.int K), .val (.int fi), .val (.int la), .unset, .unset, .unset, .unset, .unset] [(.ref b38)])
      refine Go.step (fun _ k => XS.astore X39.here hx rfl (hb hby at_150) rfl rfl (l' := #[.val (.int p0), .val (.int p1), .val (.int p2), .val (.int p3), .val (.int p4), .val (.int p5), .val (.int (3 : Int32)), .val (.long s0), .second, .val (.long s1), .second, .val (.long s2), .second, .val (.ref b28), .val (.int K), .val (.int fi), .val (.int la), .val (.ref b38), .unset, .unset, .unset, .unset]) rfl k) ?_
      show Go _ _ _ _ _ _ _ T39 (mkF m 152 #[.val (.int p0), .val (.int p1), .val (.int p2), .val (.int p3), .val (.int p4), .val (.int p5), .val (.int (3 : Int32)), .val (.long s0), .second, .val (.long s1), .second, .val (.long s2), .second, .val (.ref b28), .val (.int K), .val (.int fi), .val (.int la), .val (.ref b38), .unset, .unset, .unset, .unset] [])
      refine Go.step (fun _ k => XS.iload X39.here hx rfl (hb hby at_152) rfl k) ?_
      show Go _ _ _ _ _ _ _ T39 (mkF m 154 #[.val (.int p0), .val (.int p1), .val (.int p2), .val (.int p3), .val (.int p4), .val (.int p5), .val (.int (3 : Int32)), .val (.long s0), .second, .val (.long s1), .second, .val (.long s2), .second, .val (.ref b28), .val (.int K), .val (.int fi), .val (.int la), .val (.ref b38), .unset, .unset, .unset, .unset] [(.int fi)])
      refine Go.step (fun _ k => XS.iload X39.here hx rfl (hb hby at_154) rfl k) ?_
      show Go _ _ _ _ _ _ _ T39 (mkF m 156 #[.val (.int p0), .val (.int p1), .val (.int p2), .val (.int p3), .val (.int p4), .val (.int p5), .val (.int (3 : Int32)), .val (.long s0), .second, .val (.long s1), .second, .val (.long s2), .second, .val (.ref b28), .val (.int K), .val (.int fi), .val (.int la), .val (.ref b38), .unset, .unset, .unset, .unset] [(.int (3 : Int32)), (.int fi)])
      refine Go.step (fun _ k => XS.iload X39.here hx rfl (hb hby at_156) rfl k) ?_
      show Go _ _ _ _ _ _ _ T39 (mkF m 158 #[.val (.int p0), .val (.int p1), .val (.int p2), .val (.int p3), .val (.int p4), .val (.int p5), .val (.int (3 : Int32)), .val (.long s0), .second, .val (.long s1), .second, .val (.long s2), .second, .val (.ref b28), .val (.int K), .val (.int fi), .val (.int la), .val (.ref b38), .unset, .unset, .unset, .unset] [(.int K), (.int (3 : Int32)), (.int fi)])
      refine Go.callS X39 hx hZ (by rw [hml]; rfl) (y := (⟨"tidewatch/decision/KeyGroupCeilingAtMostPinLaw", "ownerRef", "(III)I"⟩ : MethodName)) (argsL := [(.int fi), (.int (3 : Int32)), (.int K)]) (rest := []) hown (hw _ (List.mem_of_getElem? (i := 39) rfl)) (hw _ (List.mem_of_getElem? (i := 40) rfl)) (hw _ (List.mem_of_getElem? (i := 41) rfl)) (hw _ (List.mem_of_getElem? (i := 42) rfl)) (by decide) (rm6_3 l Z a0 hw fi K T39.heap n0 (Nat.le_trans Z0 (KK39 : Keep h0 T39.heap []).1)) rfl (hb hby at_158) (lenOf pd_5 rfl) rfl rfl (W := 0) (Nat.le_of_eq rfl) (by decide) (by decide) (by decide) (by decide) ?_
      intro v40 T40 L40 X40 Q40
      rw [ho1.1] at Q40
      obtain ⟨rfl, N40q, hh40⟩ := Q40
      have N40 := Fr.app N39 N40q
      show Go _ _ _ _ _ _ _ T40 (mkF m 161 #[.val (.int p0), .val (.int p1), .val (.int p2), .val (.int p3), .val (.int p4), .val (.int p5), .val (.int (3 : Int32)), .val (.long s0), .second, .val (.long s1), .second, .val (.long s2), .second, .val (.ref b28), .val (.int K), .val (.int fi), .val (.int la), .val (.ref b38), .unset, .unset, .unset, .unset] [(.int (0 : Int32))])
      refine Go.step (fun _ k => XS.istore X40.here hx rfl (hb hby at_161) rfl (l' := #[.val (.int p0), .val (.int p1), .val (.int p2), .val (.int p3), .val (.int p4), .val (.int p5), .val (.int (3 : Int32)), .val (.long s0), .second, .val (.long s1), .second, .val (.long s2), .second, .val (.ref b28), .val (.int K), .val (.int fi), .val (.int la), .val (.ref b38), .val (.int (0 : Int32)), .unset, .unset, .unset]) rfl k) ?_
      show Go _ _ _ _ _ _ _ T40 (mkF m 163 #[.val (.int p0), .val (.int p1), .val (.int p2), .val (.int p3), .val (.int p4), .val (.int p5), .val (.int (3 : Int32)), .val (.long s0), .second, .val (.long s1), .second, .val (.long s2), .second, .val (.ref b28), .val (.int K), .val (.int fi), .val (.int la), .val (.ref b38), .val (.int (0 : Int32)), .unset, .unset, .unset] [])
      refine Go.step (fun _ k => XS.iload X40.here hx rfl (hb hby at_163) rfl k) ?_
      show Go _ _ _ _ _ _ _ T40 (mkF m 165 #[.val (.int p0), .val (.int p1), .val (.int p2), .val (.int p3), .val (.int p4), .val (.int p5), .val (.int (3 : Int32)), .val (.long s0), .second, .val (.long s1), .second, .val (.long s2), .second, .val (.ref b28), .val (.int K), .val (.int fi), .val (.int la), .val (.ref b38), .val (.int (0 : Int32)), .unset, .unset, .unset] [(.int la)])
      refine Go.step (fun _ k => XS.iload X40.here hx rfl (hb hby at_165) rfl k) ?_
      show Go _ _ _ _ _ _ _ T40 (mkF m 167 #[.val (.int p0), .val (.int p1), .val (.int p2), .val (.int p3), .val (.int p4), .val (.int p5), .val (.int (3 : Int32)), .val (.long s0), .second, .val (.long s1), .second, .val (.long s2), .second, .val (.ref b28), .val (.int K), .val (.int fi), .val (.int la), .val (.ref b38), .val (.int (0 : Int32)), .unset, .unset, .unset] [(.int (3 : Int32)), (.int la)])
      refine Go.step (fun _ k => XS.iload X40.here hx rfl (hb hby at_167) rfl k) ?_
      show Go _ _ _ _ _ _ _ T40 (mkF m 169 #[.val (.int p0), .val (.int p1), .val (.int p2), .val (.int p3), .val (.int p4), .val (.int p5), .val (.int (3 : Int32)), .val (.long s0), .second, .val (.long s1), .second, .val (.long s2), .second, .val (.ref b28), .val (.int K), .val (.int fi), .val (.int la), .val (.ref b38), .val (.int (0 : Int32)), .unset, .unset, .unset] [(.int K), (.int (3 : Int32)), (.int la)])
      refine Go.callS X40 hx hZ (by rw [hml]; rfl) (y := (⟨"tidewatch/decision/KeyGroupCeilingAtMostPinLaw", "ownerRef", "(III)I"⟩ : MethodName)) (argsL := [(.int la), (.int (3 : Int32)), (.int K)]) (rest := []) hown (hw _ (List.mem_of_getElem? (i := 39) rfl)) (hw _ (List.mem_of_getElem? (i := 40) rfl)) (hw _ (List.mem_of_getElem? (i := 41) rfl)) (hw _ (List.mem_of_getElem? (i := 42) rfl)) (by decide) (rm6_3 l Z a0 hw la K T39.heap n0 (Nat.le_trans Z0 (KK39 : Keep h0 T39.heap []).1)) hh40 (hb hby at_169) (lenOf pd_5 rfl) rfl rfl (W := 0) (Nat.le_of_eq rfl) (by decide) (by decide) (by decide) (by decide) ?_
      intro v41 T41 L41 X41 Q41
      rw [ho2.1] at Q41
      obtain ⟨rfl, N41q, hh41⟩ := Q41
      have N41 := Fr.app N40 N41q
      show Go _ _ _ _ _ _ _ T41 (mkF m 172 #[.val (.int p0), .val (.int p1), .val (.int p2), .val (.int p3), .val (.int p4), .val (.int p5), .val (.int (3 : Int32)), .val (.long s0), .second, .val (.long s1), .second, .val (.long s2), .second, .val (.ref b28), .val (.int K), .val (.int fi), .val (.int la), .val (.ref b38), .val (.int (0 : Int32)), .unset, .unset, .unset] [(.int (1 : Int32))])
      refine Go.step (fun _ k => XS.istore X41.here hx rfl (hb hby at_172) rfl (l' := #[.val (.int p0), .val (.int p1), .val (.int p2), .val (.int p3), .val (.int p4), .val (.int p5), .val (.int (3 : Int32)), .val (.long s0), .second, .val (.long s1), .second, .val (.long s2), .second, .val (.ref b28), .val (.int K), .val (.int fi), .val (.int la), .val (.ref b38), .val (.int (0 : Int32)), .val (.int (1 : Int32)), .unset, .unset]) rfl k) ?_
      show Go _ _ _ _ _ _ _ T41 (mkF m 174 #[.val (.int p0), .val (.int p1), .val (.int p2), .val (.int p3), .val (.int p4), .val (.int p5), .val (.int (3 : Int32)), .val (.long s0), .second, .val (.long s1), .second, .val (.long s2), .second, .val (.ref b28), .val (.int K), .val (.int fi), .val (.int la), .val (.ref b38), .val (.int (0 : Int32)), .val (.int (1 : Int32)), .unset, .unset] [])
      refine Go.step (fun _ k => XS.lconst X41.here hx rfl (hb hby at_174) k) ?_
      show Go _ _ _ _ _ _ _ T41 (mkF m 175 #[.val (.int p0), .val (.int p1), .val (.int p2), .val (.int p3), .val (.int p4), .val (.int p5), .val (.int (3 : Int32)), .val (.long s0), .second, .val (.long s1), .second, .val (.long s2), .second, .val (.ref b28), .val (.int K), .val (.int fi), .val (.int la), .val (.ref b38), .val (.int (0 : Int32)), .val (.int (1 : Int32)), .unset, .unset] [(.long (0 : Int64))])
      refine Go.step (fun _ k => XS.lstore X41.here hx rfl (hb hby at_175) rfl (l' := #[.val (.int p0), .val (.int p1), .val (.int p2), .val (.int p3), .val (.int p4), .val (.int p5), .val (.int (3 : Int32)), .val (.long s0), .second, .val (.long s1), .second, .val (.long s2), .second, .val (.ref b28), .val (.int K), .val (.int fi), .val (.int la), .val (.ref b38), .val (.int (0 : Int32)), .val (.int (1 : Int32)), .val (.long (0 : Int64)), .second]) rfl k) ?_
      show Go _ _ _ _ _ _ _ T41 (mkF m 177 #[.val (.int p0), .val (.int p1), .val (.int p2), .val (.int p3), .val (.int p4), .val (.int p5), .val (.int (3 : Int32)), .val (.long s0), .second, .val (.long s1), .second, .val (.long s2), .second, .val (.ref b28), .val (.int K), .val (.int fi), .val (.int la), .val (.ref b38), .val (.int (0 : Int32)), .val (.int (1 : Int32)), .val (.long (0 : Int64)), .second] [])
      refine Go.step (fun _ k => XS.iload X41.here hx rfl (hb hby at_177) rfl k) ?_
      show Go _ _ _ _ _ _ _ T41 (mkF m 179 #[.val (.int p0), .val (.int p1), .val (.int p2), .val (.int p3), .val (.int p4), .val (.int p5), .val (.int (3 : Int32)), .val (.long s0), .second, .val (.long s1), .second, .val (.long s2), .second, .val (.ref b28), .val (.int K), .val (.int fi), .val (.int la), .val (.ref b38), .val (.int (0 : Int32)), .val (.int (1 : Int32)), .val (.long (0 : Int64)), .second] [(.int (0 : Int32))])
      refine Go.step (fun _ k => XS.ifNo X41.here hx rfl (hb hby at_179) rfl ((if0 _ _).trans (flt (by decide : ¬ ((0 : Int32) < (0 : Int32)))).2.2.1) k) ?_
      show Go _ _ _ _ _ _ _ T41 (mkF m 182 #[.val (.int p0), .val (.int p1), .val (.int p2), .val (.int p3), .val (.int p4), .val (.int p5), .val (.int (3 : Int32)), .val (.long s0), .second, .val (.long s1), .second, .val (.long s2), .second, .val (.ref b28), .val (.int K), .val (.int fi), .val (.int la), .val (.ref b38), .val (.int (0 : Int32)), .val (.int (1 : Int32)), .val (.long (0 : Int64)), .second] [])
      refine Go.step (fun _ k => XS.lload X41.here hx rfl (hb hby at_182) rfl k) ?_
      show Go _ _ _ _ _ _ _ T41 (mkF m 184 #[.val (.int p0), .val (.int p1), .val (.int p2), .val (.int p3), .val (.int p4), .val (.int p5), .val (.int (3 : Int32)), .val (.long s0), .second, .val (.long s1), .second, .val (.long s2), .second, .val (.ref b28), .val (.int K), .val (.int fi), .val (.int la), .val (.ref b38), .val (.int (0 : Int32)), .val (.int (1 : Int32)), .val (.long (0 : Int64)), .second] [(.long (0 : Int64))])
      refine Go.step (fun _ k => XS.lload X41.here hx rfl (hb hby at_184) rfl k) ?_
      show Go _ _ _ _ _ _ _ T41 (mkF m 186 #[.val (.int p0), .val (.int p1), .val (.int p2), .val (.int p3), .val (.int p4), .val (.int p5), .val (.int (3 : Int32)), .val (.long s0), .second, .val (.long s1), .second, .val (.long s2), .second, .val (.ref b28), .val (.int K), .val (.int fi), .val (.int la), .val (.ref b38), .val (.int (0 : Int32)), .val (.int (1 : Int32)), .val (.long (0 : Int64)), .second] [(.long s0), (.long (0 : Int64))])
      refine Go.step (fun _ k => XS.ladd X41.here hx rfl (hb hby at_186) rfl k) ?_
      show Go _ _ _ _ _ _ _ T41 (mkF m 187 #[.val (.int p0), .val (.int p1), .val (.int p2), .val (.int p3), .val (.int p4), .val (.int p5), .val (.int (3 : Int32)), .val (.long s0), .second, .val (.long s1), .second, .val (.long s2), .second, .val (.ref b28), .val (.int K), .val (.int fi), .val (.int la), .val (.ref b38), .val (.int (0 : Int32)), .val (.int (1 : Int32)), .val (.long (0 : Int64)), .second] [(.long ((0 : Int64) + s0))])
      refine Go.step (fun _ k => XS.lstore X41.here hx rfl (hb hby at_187) rfl (l' := #[.val (.int p0), .val (.int p1), .val (.int p2), .val (.int p3), .val (.int p4), .val (.int p5), .val (.int (3 : Int32)), .val (.long s0), .second, .val (.long s1), .second, .val (.long s2), .second, .val (.ref b28), .val (.int K), .val (.int fi), .val (.int la), .val (.ref b38), .val (.int (0 : Int32)), .val (.int (1 : Int32)), .val (.long ((0 : Int64) + s0)), .second]) rfl k) ?_
      show Go _ _ _ _ _ _ _ T41 (mkF m 189 #[.val (.int p0), .val (.int p1), .val (.int p2), .val (.int p3), .val (.int p4), .val (.int p5), .val (.int (3 : Int32)), .val (.long s0), .second, .val (.long s1), .second, .val (.long s2), .second, .val (.ref b28), .val (.int K), .val (.int fi), .val (.int la), .val (.ref b38), .val (.int (0 : Int32)), .val (.int (1 : Int32)), .val (.long ((0 : Int64) + s0)), .second] [])
      refine Go.step (fun _ k => XS.iload X41.here hx rfl (hb hby at_189) rfl k) ?_
      show Go _ _ _ _ _ _ _ T41 (mkF m 191 #[.val (.int p0), .val (.int p1), .val (.int p2), .val (.int p3), .val (.int p4), .val (.int p5), .val (.int (3 : Int32)), .val (.long s0), .second, .val (.long s1), .second, .val (.long s2), .second, .val (.ref b28), .val (.int K), .val (.int fi), .val (.int la), .val (.ref b38), .val (.int (0 : Int32)), .val (.int (1 : Int32)), .val (.long ((0 : Int64) + s0)), .second] [(.int (0 : Int32))])
      refine Go.step (fun _ k => XS.iconst X41.here hx rfl (hb hby at_191) k) ?_
      show Go _ _ _ _ _ _ _ T41 (mkF m 192 #[.val (.int p0), .val (.int p1), .val (.int p2), .val (.int p3), .val (.int p4), .val (.int p5), .val (.int (3 : Int32)), .val (.long s0), .second, .val (.long s1), .second, .val (.long s2), .second, .val (.ref b28), .val (.int K), .val (.int fi), .val (.int la), .val (.ref b38), .val (.int (0 : Int32)), .val (.int (1 : Int32)), .val (.long ((0 : Int64) + s0)), .second] [(.int (1 : Int32)), (.int (0 : Int32))])
      refine Go.step (fun _ k => XS.icmpNo X41.here hx rfl (hb hby at_192) rfl (flt (by decide : ¬ ((1 : Int32) < (0 : Int32)))).2.2.1 k) ?_
      show Go _ _ _ _ _ _ _ T41 (mkF m 195 #[.val (.int p0), .val (.int p1), .val (.int p2), .val (.int p3), .val (.int p4), .val (.int p5), .val (.int (3 : Int32)), .val (.long s0), .second, .val (.long s1), .second, .val (.long s2), .second, .val (.ref b28), .val (.int K), .val (.int fi), .val (.int la), .val (.ref b38), .val (.int (0 : Int32)), .val (.int (1 : Int32)), .val (.long ((0 : Int64) + s0)), .second] [])
      refine Go.step (fun _ k => XS.iload X41.here hx rfl (hb hby at_195) rfl k) ?_
      show Go _ _ _ _ _ _ _ T41 (mkF m 197 #[.val (.int p0), .val (.int p1), .val (.int p2), .val (.int p3), .val (.int p4), .val (.int p5), .val (.int (3 : Int32)), .val (.long s0), .second, .val (.long s1), .second, .val (.long s2), .second, .val (.ref b28), .val (.int K), .val (.int fi), .val (.int la), .val (.ref b38), .val (.int (0 : Int32)), .val (.int (1 : Int32)), .val (.long ((0 : Int64) + s0)), .second] [(.int (1 : Int32))])
      refine Go.step (fun _ k => XS.iconst X41.here hx rfl (hb hby at_197) k) ?_
      show Go _ _ _ _ _ _ _ T41 (mkF m 198 #[.val (.int p0), .val (.int p1), .val (.int p2), .val (.int p3), .val (.int p4), .val (.int p5), .val (.int (3 : Int32)), .val (.long s0), .second, .val (.long s1), .second, .val (.long s2), .second, .val (.ref b28), .val (.int K), .val (.int fi), .val (.int la), .val (.ref b38), .val (.int (0 : Int32)), .val (.int (1 : Int32)), .val (.long ((0 : Int64) + s0)), .second] [(.int (1 : Int32)), (.int (1 : Int32))])
      refine Go.step (fun _ k => XS.icmpNo X41.here hx rfl (hb hby at_198) rfl (flt (by decide : ¬ ((1 : Int32) < (1 : Int32)))).1 k) ?_
      show Go _ _ _ _ _ _ _ T41 (mkF m 201 #[.val (.int p0), .val (.int p1), .val (.int p2), .val (.int p3), .val (.int p4), .val (.int p5), .val (.int (3 : Int32)), .val (.long s0), .second, .val (.long s1), .second, .val (.long s2), .second, .val (.ref b28), .val (.int K), .val (.int fi), .val (.int la), .val (.ref b38), .val (.int (0 : Int32)), .val (.int (1 : Int32)), .val (.long ((0 : Int64) + s0)), .second] [])
      refine Go.step (fun _ k => XS.lload X41.here hx rfl (hb hby at_201) rfl k) ?_
      show Go _ _ _ _ _ _ _ T41 (mkF m 203 #[.val (.int p0), .val (.int p1), .val (.int p2), .val (.int p3), .val (.int p4), .val (.int p5), .val (.int (3 : Int32)), .val (.long s0), .second, .val (.long s1), .second, .val (.long s2), .second, .val (.ref b28), .val (.int K), .val (.int fi), .val (.int la), .val (.ref b38), .val (.int (0 : Int32)), .val (.int (1 : Int32)), .val (.long ((0 : Int64) + s0)), .second] [(.long ((0 : Int64) + s0))])
      refine Go.step (fun _ k => XS.lload X41.here hx rfl (hb hby at_203) rfl k) ?_
      show Go _ _ _ _ _ _ _ T41 (mkF m 205 #[.val (.int p0), .val (.int p1), .val (.int p2), .val (.int p3), .val (.int p4), .val (.int p5), .val (.int (3 : Int32)), .val (.long s0), .second, .val (.long s1), .second, .val (.long s2), .second, .val (.ref b28), .val (.int K), .val (.int fi), .val (.int la), .val (.ref b38), .val (.int (0 : Int32)), .val (.int (1 : Int32)), .val (.long ((0 : Int64) + s0)), .second] [(.long s1), (.long ((0 : Int64) + s0))])
      refine Go.step (fun _ k => XS.ladd X41.here hx rfl (hb hby at_205) rfl k) ?_
      show Go _ _ _ _ _ _ _ T41 (mkF m 206 #[.val (.int p0), .val (.int p1), .val (.int p2), .val (.int p3), .val (.int p4), .val (.int p5), .val (.int (3 : Int32)), .val (.long s0), .second, .val (.long s1), .second, .val (.long s2), .second, .val (.ref b28), .val (.int K), .val (.int fi), .val (.int la), .val (.ref b38), .val (.int (0 : Int32)), .val (.int (1 : Int32)), .val (.long ((0 : Int64) + s0)), .second] [(.long (((0 : Int64) + s0) + s1))])
      refine Go.step (fun _ k => XS.lstore X41.here hx rfl (hb hby at_206) rfl (l' := #[.val (.int p0), .val (.int p1), .val (.int p2), .val (.int p3), .val (.int p4), .val (.int p5), .val (.int (3 : Int32)), .val (.long s0), .second, .val (.long s1), .second, .val (.long s2), .second, .val (.ref b28), .val (.int K), .val (.int fi), .val (.int la), .val (.ref b38), .val (.int (0 : Int32)), .val (.int (1 : Int32)), .val (.long (((0 : Int64) + s0) + s1)), .second]) rfl k) ?_
      show Go _ _ _ _ _ _ _ T41 (mkF m 208 #[.val (.int p0), .val (.int p1), .val (.int p2), .val (.int p3), .val (.int p4), .val (.int p5), .val (.int (3 : Int32)), .val (.long s0), .second, .val (.long s1), .second, .val (.long s2), .second, .val (.ref b28), .val (.int K), .val (.int fi), .val (.int la), .val (.ref b38), .val (.int (0 : Int32)), .val (.int (1 : Int32)), .val (.long (((0 : Int64) + s0) + s1)), .second] [])
      refine Go.step (fun _ k => XS.iload X41.here hx rfl (hb hby at_208) rfl k) ?_
      show Go _ _ _ _ _ _ _ T41 (mkF m 210 #[.val (.int p0), .val (.int p1), .val (.int p2), .val (.int p3), .val (.int p4), .val (.int p5), .val (.int (3 : Int32)), .val (.long s0), .second, .val (.long s1), .second, .val (.long s2), .second, .val (.ref b28), .val (.int K), .val (.int fi), .val (.int la), .val (.ref b38), .val (.int (0 : Int32)), .val (.int (1 : Int32)), .val (.long (((0 : Int64) + s0) + s1)), .second] [(.int (0 : Int32))])
      refine Go.step (fun _ k => XS.iconst X41.here hx rfl (hb hby at_210) k) ?_
      show Go _ _ _ _ _ _ _ T41 (mkF m 211 #[.val (.int p0), .val (.int p1), .val (.int p2), .val (.int p3), .val (.int p4), .val (.int p5), .val (.int (3 : Int32)), .val (.long s0), .second, .val (.long s1), .second, .val (.long s2), .second, .val (.ref b28), .val (.int K), .val (.int fi), .val (.int la), .val (.ref b38), .val (.int (0 : Int32)), .val (.int (1 : Int32)), .val (.long (((0 : Int64) + s0) + s1)), .second] [(.int (2 : Int32)), (.int (0 : Int32))])
      refine Go.step (fun _ k => XS.icmpNo X41.here hx rfl (hb hby at_211) rfl (flt (by decide : ¬ ((2 : Int32) < (0 : Int32)))).2.2.1 k) ?_
      show Go _ _ _ _ _ _ _ T41 (mkF m 214 #[.val (.int p0), .val (.int p1), .val (.int p2), .val (.int p3), .val (.int p4), .val (.int p5), .val (.int (3 : Int32)), .val (.long s0), .second, .val (.long s1), .second, .val (.long s2), .second, .val (.ref b28), .val (.int K), .val (.int fi), .val (.int la), .val (.ref b38), .val (.int (0 : Int32)), .val (.int (1 : Int32)), .val (.long (((0 : Int64) + s0) + s1)), .second] [])
      refine Go.step (fun _ k => XS.iload X41.here hx rfl (hb hby at_214) rfl k) ?_
      show Go _ _ _ _ _ _ _ T41 (mkF m 216 #[.val (.int p0), .val (.int p1), .val (.int p2), .val (.int p3), .val (.int p4), .val (.int p5), .val (.int (3 : Int32)), .val (.long s0), .second, .val (.long s1), .second, .val (.long s2), .second, .val (.ref b28), .val (.int K), .val (.int fi), .val (.int la), .val (.ref b38), .val (.int (0 : Int32)), .val (.int (1 : Int32)), .val (.long (((0 : Int64) + s0) + s1)), .second] [(.int (1 : Int32))])
      refine Go.step (fun _ k => XS.iconst X41.here hx rfl (hb hby at_216) k) ?_
      show Go _ _ _ _ _ _ _ T41 (mkF m 217 #[.val (.int p0), .val (.int p1), .val (.int p2), .val (.int p3), .val (.int p4), .val (.int p5), .val (.int (3 : Int32)), .val (.long s0), .second, .val (.long s1), .second, .val (.long s2), .second, .val (.ref b28), .val (.int K), .val (.int fi), .val (.int la), .val (.ref b38), .val (.int (0 : Int32)), .val (.int (1 : Int32)), .val (.long (((0 : Int64) + s0) + s1)), .second] [(.int (2 : Int32)), (.int (1 : Int32))])
      refine Go.step (fun _ k => XS.icmpYes X41.here hx rfl (pc0 := 217) (pc' := 227) rfl (hb hby at_217) rfl (tlt (by decide : (1 : Int32) < (2 : Int32))).1 (by decide) (by decide) k) ?_
      have hAt : FP.dcmp (FP.dsub ((updN (updN (updN (fun _ => (0 : UInt64)) 1 (FP.dadd (0 : UInt64) ((updN (updN (updN (fun _ => (0 : UInt64)) 0 (FP.l2d s0)) 1 (FP.l2d s1)) 2 (FP.l2d s2)) 0))) 2 (FP.dadd (FP.dadd (0 : UInt64) ((updN (updN (updN (fun _ => (0 : UInt64)) 0 (FP.l2d s0)) 1 (FP.l2d s1)) 2 (FP.l2d s2)) 0)) ((updN (updN (updN (fun _ => (0 : UInt64)) 0 (FP.l2d s0)) 1 (FP.l2d s1)) 2 (FP.l2d s2)) 1))) 3 (FP.dadd (FP.dadd (FP.dadd (0 : UInt64) ((updN (updN (updN (fun _ => (0 : UInt64)) 0 (FP.l2d s0)) 1 (FP.l2d s1)) 2 (FP.l2d s2)) 0)) ((updN (updN (updN (fun _ => (0 : UInt64)) 0 (FP.l2d s0)) 1 (FP.l2d s1)) 2 (FP.l2d s2)) 1)) ((updN (updN (updN (fun _ => (0 : UInt64)) 0 (FP.l2d s0)) 1 (FP.l2d s1)) 2 (FP.l2d s2)) 2))) 2) ((updN (updN (updN (fun _ => (0 : UInt64)) 1 (FP.dadd (0 : UInt64) ((updN (updN (updN (fun _ => (0 : UInt64)) 0 (FP.l2d s0)) 1 (FP.l2d s1)) 2 (FP.l2d s2)) 0))) 2 (FP.dadd (FP.dadd (0 : UInt64) ((updN (updN (updN (fun _ => (0 : UInt64)) 0 (FP.l2d s0)) 1 (FP.l2d s1)) 2 (FP.l2d s2)) 0)) ((updN (updN (updN (fun _ => (0 : UInt64)) 0 (FP.l2d s0)) 1 (FP.l2d s1)) 2 (FP.l2d s2)) 1))) 3 (FP.dadd (FP.dadd (FP.dadd (0 : UInt64) ((updN (updN (updN (fun _ => (0 : UInt64)) 0 (FP.l2d s0)) 1 (FP.l2d s1)) 2 (FP.l2d s2)) 0)) ((updN (updN (updN (fun _ => (0 : UInt64)) 0 (FP.l2d s0)) 1 (FP.l2d s1)) 2 (FP.l2d s2)) 1)) ((updN (updN (updN (fun _ => (0 : UInt64)) 0 (FP.l2d s0)) 1 (FP.l2d s1)) 2 (FP.l2d s2)) 2))) 0)) (FP.l2d (((0 : Int64) + s0) + s1)) = some .eq := by
        have t0 := hs0.1; have t1 := hs0.2; have t2 := hs1.1; have t3 := hs1.2; have t4 := hs2.1; have t5 := hs2.2
        have e1 := own_sum (a := s0) (b := s1) t0 (by omega) hs1
        have e2 := own_sum (a := s0 + s1) (b := s2) (by omega) (by omega) hs2
        have hd : (s0 + s1) - (0 : Int64) = (((0 : Int64) + s0) + s1) := own_eq64 (by
          have := c_ladd s0 s1
          have := c_ladd (s0 + s1) s2
          have := c_ladd (0 : Int64) s0
          have := c_ladd ((0 : Int64) + s0) s1
          have := c_lsub (s0 + s1) (0 : Int64)
          have : (0 : Int64).toInt = 0 := rfl
          omega)
        exact own_at (a := (s0 + s1)) (b := (0 : Int64)) (own_d2 hs0 hs1) l2d_zero.symm (by first | omega | decide) (by first | omega | decide) (by first | omega | decide) (by first | omega | decide) hd
      show Go _ _ _ _ _ _ _ T41 (mkF m 227 #[.val (.int p0), .val (.int p1), .val (.int p2), .val (.int p3), .val (.int p4), .val (.int p5), .val (.int (3 : Int32)), .val (.long s0), .second, .val (.long s1), .second, .val (.long s2), .second, .val (.ref b28), .val (.int K), .val (.int fi), .val (.int la), .val (.ref b38), .val (.int (0 : Int32)), .val (.int (1 : Int32)), .val (.long (((0 : Int64) + s0) + s1)), .second] [])
      refine Go.step (fun _ k => XS.aload X41.here hx rfl (hb hby at_227) rfl rfl k) ?_
      show Go _ _ _ _ _ _ _ T41 (mkF m 229 #[.val (.int p0), .val (.int p1), .val (.int p2), .val (.int p3), .val (.int p4), .val (.int p5), .val (.int (3 : Int32)), .val (.long s0), .second, .val (.long s1), .second, .val (.long s2), .second, .val (.ref b28), .val (.int K), .val (.int fi), .val (.int la), .val (.ref b38), .val (.int (0 : Int32)), .val (.int (1 : Int32)), .val (.long (((0 : Int64) + s0) + s1)), .second] [(.ref b38)])
      refine Go.step (fun _ k => XS.iload X41.here hx rfl (hb hby at_229) rfl k) ?_
      show Go _ _ _ _ _ _ _ T41 (mkF m 231 #[.val (.int p0), .val (.int p1), .val (.int p2), .val (.int p3), .val (.int p4), .val (.int p5), .val (.int (3 : Int32)), .val (.long s0), .second, .val (.long s1), .second, .val (.long s2), .second, .val (.ref b28), .val (.int K), .val (.int fi), .val (.int la), .val (.ref b38), .val (.int (0 : Int32)), .val (.int (1 : Int32)), .val (.long (((0 : Int64) + s0) + s1)), .second] [(.int fi), (.ref b38)])
      refine Go.step (fun _ k => XS.iload X41.here hx rfl (hb hby at_231) rfl k) ?_
      show Go _ _ _ _ _ _ _ T41 (mkF m 233 #[.val (.int p0), .val (.int p1), .val (.int p2), .val (.int p3), .val (.int p4), .val (.int p5), .val (.int (3 : Int32)), .val (.long s0), .second, .val (.long s1), .second, .val (.long s2), .second, .val (.ref b28), .val (.int K), .val (.int fi), .val (.int la), .val (.ref b38), .val (.int (0 : Int32)), .val (.int (1 : Int32)), .val (.long (((0 : Int64) + s0) + s1)), .second] [(.int la), (.int fi), (.ref b38)])
      refine Go.callV X41 hx hZ (by rw [hml]; rfl) (y := (⟨"tidewatch/decision/KeyGroupCeiling", "atMost", "(II)D"⟩ : MethodName)) (z := (⟨"tidewatch/decision/KeyGroupCeiling", "atMost", "(II)D"⟩ : MethodName)) (a := b38) (argsL := [(.int fi), (.int la)]) (rest := []) hown (hw _ (List.mem_of_getElem? (i := 44) rfl)) (hw _ (List.mem_of_getElem? (i := 45) rfl)) (notFace_of_selects (args := #[]) (mvT hZ (hw _ (List.mem_of_getElem? (i := 47) rfl)))) (hw _ (List.mem_of_getElem? (i := 47) rfl)) (hw _ (List.mem_of_getElem? (i := 46) rfl)) (hw _ (List.mem_of_getElem? (i := 9) rfl)) (hw _ (List.mem_of_getElem? (i := 48) rfl)) (by decide) (rm7_301 l Z a0 hw b38 fi la c39 d39 K (updN (updN (updN (fun _ => (0 : UInt64)) 0 (FP.l2d s0)) 1 (FP.l2d s1)) 2 (FP.l2d s2)) (updN (updN (updN (fun _ => (0 : UInt64)) 1 (FP.dadd (0 : UInt64) ((updN (updN (updN (fun _ => (0 : UInt64)) 0 (FP.l2d s0)) 1 (FP.l2d s1)) 2 (FP.l2d s2)) 0))) 2 (FP.dadd (FP.dadd (0 : UInt64) ((updN (updN (updN (fun _ => (0 : UInt64)) 0 (FP.l2d s0)) 1 (FP.l2d s1)) 2 (FP.l2d s2)) 0)) ((updN (updN (updN (fun _ => (0 : UInt64)) 0 (FP.l2d s0)) 1 (FP.l2d s1)) 2 (FP.l2d s2)) 1))) 3 (FP.dadd (FP.dadd (FP.dadd (0 : UInt64) ((updN (updN (updN (fun _ => (0 : UInt64)) 0 (FP.l2d s0)) 1 (FP.l2d s1)) 2 (FP.l2d s2)) 0)) ((updN (updN (updN (fun _ => (0 : UInt64)) 0 (FP.l2d s0)) 1 (FP.l2d s1)) 2 (FP.l2d s2)) 1)) ((updN (updN (updN (fun _ => (0 : UInt64)) 0 (FP.l2d s0)) 1 (FP.l2d s1)) 2 (FP.l2d s2)) 2))) T39.heap n0 (Nat.le_trans Z0 (KK39 : Keep h0 T39.heap []).1) Ec39 Fk39 Fc39 Vc39 Fd39 Vd39 hK.2 ho1.2 ho2.2 (own_nnN (Jvm.FP.Core.dcmp_some hAt).1)) hh41 Ec39 (hb hby at_233) (lenOf pd_6 rfl) rfl rfl (W := 0) (Nat.le_of_eq rfl) (by decide) (by decide) (by decide) (by decide) ?_
      intro v42 T42 L42 X42 Q42
      obtain ⟨rfl, N42q, hh42⟩ := Q42
      have N42 := Fr.app N41 N42q
      show Go _ _ _ _ _ _ _ T42 (mkF m 236 #[.val (.int p0), .val (.int p1), .val (.int p2), .val (.int p3), .val (.int p4), .val (.int p5), .val (.int (3 : Int32)), .val (.long s0), .second, .val (.long s1), .second, .val (.long s2), .second, .val (.ref b28), .val (.int K), .val (.int fi), .val (.int la), .val (.ref b38), .val (.int (0 : Int32)), .val (.int (1 : Int32)), .val (.long (((0 : Int64) + s0) + s1)), .second] [(.double (FP.dsub ((updN (updN (updN (fun _ => (0 : UInt64)) 1 (FP.dadd (0 : UInt64) ((updN (updN (updN (fun _ => (0 : UInt64)) 0 (FP.l2d s0)) 1 (FP.l2d s1)) 2 (FP.l2d s2)) 0))) 2 (FP.dadd (FP.dadd (0 : UInt64) ((updN (updN (updN (fun _ => (0 : UInt64)) 0 (FP.l2d s0)) 1 (FP.l2d s1)) 2 (FP.l2d s2)) 0)) ((updN (updN (updN (fun _ => (0 : UInt64)) 0 (FP.l2d s0)) 1 (FP.l2d s1)) 2 (FP.l2d s2)) 1))) 3 (FP.dadd (FP.dadd (FP.dadd (0 : UInt64) ((updN (updN (updN (fun _ => (0 : UInt64)) 0 (FP.l2d s0)) 1 (FP.l2d s1)) 2 (FP.l2d s2)) 0)) ((updN (updN (updN (fun _ => (0 : UInt64)) 0 (FP.l2d s0)) 1 (FP.l2d s1)) 2 (FP.l2d s2)) 1)) ((updN (updN (updN (fun _ => (0 : UInt64)) 0 (FP.l2d s0)) 1 (FP.l2d s1)) 2 (FP.l2d s2)) 2))) 2) ((updN (updN (updN (fun _ => (0 : UInt64)) 1 (FP.dadd (0 : UInt64) ((updN (updN (updN (fun _ => (0 : UInt64)) 0 (FP.l2d s0)) 1 (FP.l2d s1)) 2 (FP.l2d s2)) 0))) 2 (FP.dadd (FP.dadd (0 : UInt64) ((updN (updN (updN (fun _ => (0 : UInt64)) 0 (FP.l2d s0)) 1 (FP.l2d s1)) 2 (FP.l2d s2)) 0)) ((updN (updN (updN (fun _ => (0 : UInt64)) 0 (FP.l2d s0)) 1 (FP.l2d s1)) 2 (FP.l2d s2)) 1))) 3 (FP.dadd (FP.dadd (FP.dadd (0 : UInt64) ((updN (updN (updN (fun _ => (0 : UInt64)) 0 (FP.l2d s0)) 1 (FP.l2d s1)) 2 (FP.l2d s2)) 0)) ((updN (updN (updN (fun _ => (0 : UInt64)) 0 (FP.l2d s0)) 1 (FP.l2d s1)) 2 (FP.l2d s2)) 1)) ((updN (updN (updN (fun _ => (0 : UInt64)) 0 (FP.l2d s0)) 1 (FP.l2d s1)) 2 (FP.l2d s2)) 2))) 0)))])
      refine Go.step (fun _ k => XS.lload X42.here hx rfl (hb hby at_236) rfl k) ?_
      show Go _ _ _ _ _ _ _ T42 (mkF m 238 #[.val (.int p0), .val (.int p1), .val (.int p2), .val (.int p3), .val (.int p4), .val (.int p5), .val (.int (3 : Int32)), .val (.long s0), .second, .val (.long s1), .second, .val (.long s2), .second, .val (.ref b28), .val (.int K), .val (.int fi), .val (.int la), .val (.ref b38), .val (.int (0 : Int32)), .val (.int (1 : Int32)), .val (.long (((0 : Int64) + s0) + s1)), .second] [(.long (((0 : Int64) + s0) + s1)), (.double (FP.dsub ((updN (updN (updN (fun _ => (0 : UInt64)) 1 (FP.dadd (0 : UInt64) ((updN (updN (updN (fun _ => (0 : UInt64)) 0 (FP.l2d s0)) 1 (FP.l2d s1)) 2 (FP.l2d s2)) 0))) 2 (FP.dadd (FP.dadd (0 : UInt64) ((updN (updN (updN (fun _ => (0 : UInt64)) 0 (FP.l2d s0)) 1 (FP.l2d s1)) 2 (FP.l2d s2)) 0)) ((updN (updN (updN (fun _ => (0 : UInt64)) 0 (FP.l2d s0)) 1 (FP.l2d s1)) 2 (FP.l2d s2)) 1))) 3 (FP.dadd (FP.dadd (FP.dadd (0 : UInt64) ((updN (updN (updN (fun _ => (0 : UInt64)) 0 (FP.l2d s0)) 1 (FP.l2d s1)) 2 (FP.l2d s2)) 0)) ((updN (updN (updN (fun _ => (0 : UInt64)) 0 (FP.l2d s0)) 1 (FP.l2d s1)) 2 (FP.l2d s2)) 1)) ((updN (updN (updN (fun _ => (0 : UInt64)) 0 (FP.l2d s0)) 1 (FP.l2d s1)) 2 (FP.l2d s2)) 2))) 2) ((updN (updN (updN (fun _ => (0 : UInt64)) 1 (FP.dadd (0 : UInt64) ((updN (updN (updN (fun _ => (0 : UInt64)) 0 (FP.l2d s0)) 1 (FP.l2d s1)) 2 (FP.l2d s2)) 0))) 2 (FP.dadd (FP.dadd (0 : UInt64) ((updN (updN (updN (fun _ => (0 : UInt64)) 0 (FP.l2d s0)) 1 (FP.l2d s1)) 2 (FP.l2d s2)) 0)) ((updN (updN (updN (fun _ => (0 : UInt64)) 0 (FP.l2d s0)) 1 (FP.l2d s1)) 2 (FP.l2d s2)) 1))) 3 (FP.dadd (FP.dadd (FP.dadd (0 : UInt64) ((updN (updN (updN (fun _ => (0 : UInt64)) 0 (FP.l2d s0)) 1 (FP.l2d s1)) 2 (FP.l2d s2)) 0)) ((updN (updN (updN (fun _ => (0 : UInt64)) 0 (FP.l2d s0)) 1 (FP.l2d s1)) 2 (FP.l2d s2)) 1)) ((updN (updN (updN (fun _ => (0 : UInt64)) 0 (FP.l2d s0)) 1 (FP.l2d s1)) 2 (FP.l2d s2)) 2))) 0)))])
      refine Go.step (fun _ k => XS.l2dS X42.here hx rfl (hb hby at_238) rfl rfl k) ?_
      show Go _ _ _ _ _ _ _ T42 (mkF m 239 #[.val (.int p0), .val (.int p1), .val (.int p2), .val (.int p3), .val (.int p4), .val (.int p5), .val (.int (3 : Int32)), .val (.long s0), .second, .val (.long s1), .second, .val (.long s2), .second, .val (.ref b28), .val (.int K), .val (.int fi), .val (.int la), .val (.ref b38), .val (.int (0 : Int32)), .val (.int (1 : Int32)), .val (.long (((0 : Int64) + s0) + s1)), .second] [(.double (FP.l2d (((0 : Int64) + s0) + s1))), (.double (FP.dsub ((updN (updN (updN (fun _ => (0 : UInt64)) 1 (FP.dadd (0 : UInt64) ((updN (updN (updN (fun _ => (0 : UInt64)) 0 (FP.l2d s0)) 1 (FP.l2d s1)) 2 (FP.l2d s2)) 0))) 2 (FP.dadd (FP.dadd (0 : UInt64) ((updN (updN (updN (fun _ => (0 : UInt64)) 0 (FP.l2d s0)) 1 (FP.l2d s1)) 2 (FP.l2d s2)) 0)) ((updN (updN (updN (fun _ => (0 : UInt64)) 0 (FP.l2d s0)) 1 (FP.l2d s1)) 2 (FP.l2d s2)) 1))) 3 (FP.dadd (FP.dadd (FP.dadd (0 : UInt64) ((updN (updN (updN (fun _ => (0 : UInt64)) 0 (FP.l2d s0)) 1 (FP.l2d s1)) 2 (FP.l2d s2)) 0)) ((updN (updN (updN (fun _ => (0 : UInt64)) 0 (FP.l2d s0)) 1 (FP.l2d s1)) 2 (FP.l2d s2)) 1)) ((updN (updN (updN (fun _ => (0 : UInt64)) 0 (FP.l2d s0)) 1 (FP.l2d s1)) 2 (FP.l2d s2)) 2))) 2) ((updN (updN (updN (fun _ => (0 : UInt64)) 1 (FP.dadd (0 : UInt64) ((updN (updN (updN (fun _ => (0 : UInt64)) 0 (FP.l2d s0)) 1 (FP.l2d s1)) 2 (FP.l2d s2)) 0))) 2 (FP.dadd (FP.dadd (0 : UInt64) ((updN (updN (updN (fun _ => (0 : UInt64)) 0 (FP.l2d s0)) 1 (FP.l2d s1)) 2 (FP.l2d s2)) 0)) ((updN (updN (updN (fun _ => (0 : UInt64)) 0 (FP.l2d s0)) 1 (FP.l2d s1)) 2 (FP.l2d s2)) 1))) 3 (FP.dadd (FP.dadd (FP.dadd (0 : UInt64) ((updN (updN (updN (fun _ => (0 : UInt64)) 0 (FP.l2d s0)) 1 (FP.l2d s1)) 2 (FP.l2d s2)) 0)) ((updN (updN (updN (fun _ => (0 : UInt64)) 0 (FP.l2d s0)) 1 (FP.l2d s1)) 2 (FP.l2d s2)) 1)) ((updN (updN (updN (fun _ => (0 : UInt64)) 0 (FP.l2d s0)) 1 (FP.l2d s1)) 2 (FP.l2d s2)) 2))) 0)))])
      refine Go.step (fun _ k => XS.dcmpS X42.here hx rfl (hb hby at_239) rfl rfl k) ?_
      show Go _ _ _ _ _ _ _ T42 (mkF m 240 #[.val (.int p0), .val (.int p1), .val (.int p2), .val (.int p3), .val (.int p4), .val (.int p5), .val (.int (3 : Int32)), .val (.long s0), .second, .val (.long s1), .second, .val (.long s2), .second, .val (.ref b28), .val (.int K), .val (.int fi), .val (.int la), .val (.ref b38), .val (.int (0 : Int32)), .val (.int (1 : Int32)), .val (.long (((0 : Int64) + s0) + s1)), .second] [(.int (cmpValue (FP.dcmp (FP.dsub ((updN (updN (updN (fun _ => (0 : UInt64)) 1 (FP.dadd (0 : UInt64) ((updN (updN (updN (fun _ => (0 : UInt64)) 0 (FP.l2d s0)) 1 (FP.l2d s1)) 2 (FP.l2d s2)) 0))) 2 (FP.dadd (FP.dadd (0 : UInt64) ((updN (updN (updN (fun _ => (0 : UInt64)) 0 (FP.l2d s0)) 1 (FP.l2d s1)) 2 (FP.l2d s2)) 0)) ((updN (updN (updN (fun _ => (0 : UInt64)) 0 (FP.l2d s0)) 1 (FP.l2d s1)) 2 (FP.l2d s2)) 1))) 3 (FP.dadd (FP.dadd (FP.dadd (0 : UInt64) ((updN (updN (updN (fun _ => (0 : UInt64)) 0 (FP.l2d s0)) 1 (FP.l2d s1)) 2 (FP.l2d s2)) 0)) ((updN (updN (updN (fun _ => (0 : UInt64)) 0 (FP.l2d s0)) 1 (FP.l2d s1)) 2 (FP.l2d s2)) 1)) ((updN (updN (updN (fun _ => (0 : UInt64)) 0 (FP.l2d s0)) 1 (FP.l2d s1)) 2 (FP.l2d s2)) 2))) 2) ((updN (updN (updN (fun _ => (0 : UInt64)) 1 (FP.dadd (0 : UInt64) ((updN (updN (updN (fun _ => (0 : UInt64)) 0 (FP.l2d s0)) 1 (FP.l2d s1)) 2 (FP.l2d s2)) 0))) 2 (FP.dadd (FP.dadd (0 : UInt64) ((updN (updN (updN (fun _ => (0 : UInt64)) 0 (FP.l2d s0)) 1 (FP.l2d s1)) 2 (FP.l2d s2)) 0)) ((updN (updN (updN (fun _ => (0 : UInt64)) 0 (FP.l2d s0)) 1 (FP.l2d s1)) 2 (FP.l2d s2)) 1))) 3 (FP.dadd (FP.dadd (FP.dadd (0 : UInt64) ((updN (updN (updN (fun _ => (0 : UInt64)) 0 (FP.l2d s0)) 1 (FP.l2d s1)) 2 (FP.l2d s2)) 0)) ((updN (updN (updN (fun _ => (0 : UInt64)) 0 (FP.l2d s0)) 1 (FP.l2d s1)) 2 (FP.l2d s2)) 1)) ((updN (updN (updN (fun _ => (0 : UInt64)) 0 (FP.l2d s0)) 1 (FP.l2d s1)) 2 (FP.l2d s2)) 2))) 0)) (FP.l2d (((0 : Int64) + s0) + s1))) .l))])
      refine Go.step (fun _ k => XS.ifNo X42.here hx rfl (hb hby at_240) rfl (eq_y .l hAt).1 k) ?_
      show Go _ _ _ _ _ _ _ T42 (mkF m 243 #[.val (.int p0), .val (.int p1), .val (.int p2), .val (.int p3), .val (.int p4), .val (.int p5), .val (.int (3 : Int32)), .val (.long s0), .second, .val (.long s1), .second, .val (.long s2), .second, .val (.ref b28), .val (.int K), .val (.int fi), .val (.int la), .val (.ref b38), .val (.int (0 : Int32)), .val (.int (1 : Int32)), .val (.long (((0 : Int64) + s0) + s1)), .second] [])
      refine Go.step (fun _ k => XS.iconst X42.here hx rfl (hb hby at_243) k) ?_
      show Go _ _ _ _ _ _ _ T42 (mkF m 244 #[.val (.int p0), .val (.int p1), .val (.int p2), .val (.int p3), .val (.int p4), .val (.int p5), .val (.int (3 : Int32)), .val (.long s0), .second, .val (.long s1), .second, .val (.long s2), .second, .val (.ref b28), .val (.int K), .val (.int fi), .val (.int la), .val (.ref b38), .val (.int (0 : Int32)), .val (.int (1 : Int32)), .val (.long (((0 : Int64) + s0) + s1)), .second] [(.int (1 : Int32))])
      refine Go.step (fun _ k => XS.goto X42.here hx rfl (pc0 := 244) (pc' := 248) rfl (hb hby at_244) (by decide) (by decide) k) ?_
      show Go _ _ _ _ _ _ _ T42 (mkF m 248 #[.val (.int p0), .val (.int p1), .val (.int p2), .val (.int p3), .val (.int p4), .val (.int p5), .val (.int (3 : Int32)), .val (.long s0), .second, .val (.long s1), .second, .val (.long s2), .second, .val (.ref b28), .val (.int K), .val (.int fi), .val (.int la), .val (.ref b38), .val (.int (0 : Int32)), .val (.int (1 : Int32)), .val (.long (((0 : Int64) + s0) + s1)), .second] [(.int (1 : Int32))])
      refine Go.retZ X42 hx hlk hret (by decide) (hb hby at_248) (by decide) (by decide) ?_
      try rw [hh42]
      exact ⟨rfl, N42⟩
    · show Go _ _ _ _ _ _ _ T32 (mkF m 139 #[.val (.int p0), .val (.int p1), .val (.int p2), .val (.int p3), .val (.int p4), .val (.int p5), .val (.int (3 : Int32)), .val (.long s0), .second, .val (.long s1), .second, .val (.long s2), .second, .val (.ref b28), .val (.int K), .val (.int fi), .val (.int la), .unset, .unset, .unset, .unset, .unset] [])
      obtain ⟨T43, h43, X43, e43, E43, A43, D43, -, st43⟩ := newO X32 hx hZ hown (hw _ (List.mem_of_getElem? (i := 7) rfl)) (hw _ (List.mem_of_getElem? (i := 8) rfl)) (hw _ (List.mem_of_getElem? (i := 9) rfl)) hh32 (g := (mkF m 139 #[.val (.int p0), .val (.int p1), .val (.int p2), .val (.int p3), .val (.int p4), .val (.int p5), .val (.int (3 : Int32)), .val (.long s0), .second, .val (.long s1), .second, .val (.long s2), .second, .val (.ref b28), .val (.int K), .val (.int fi), .val (.int la), .unset, .unset, .unset, .unset, .unset] [])) rfl (hb hby at_139) (by decide) (by decide)
      obtain ⟨b43, g43⟩ : ∃ z, z = h31.size := ⟨_, rfl⟩
      rw [← g43] at A43 D43 st43
      refine Go.step st43 ?_
      have K43 : Keep h0 h43 [] := K31.ext E43
      have sz_b43 : h0.size ≤ b43 := Nat.le_trans (K31 : Keep h0 h31 []).1 (Nat.le_of_eq g43.symm)
      have ge_b43 : n0 ≤ b43 := Nat.le_trans Z0 sz_b43
      have ne_b28_b43 : b28 ≠ b43 := Nat.ne_of_lt (Nat.lt_of_lt_of_le V_b28_31.lt (Nat.le_of_eq g43.symm))
      have V_b28_43 := V_b28_31.ext E43
      have E_b28_43 := E_b28_31.ext E43
      have E_b43 := A43
      have F_keyGroups_b43 : Fld Z h43 b43 "tidewatch/decision/KeyGroupCeiling" "keyGroups" "I" (.int (0 : Int32)) := D43 (Or.inr (hw _ (List.mem_of_getElem? (i := 17) rfl))) (ty := .int) (by decide)
      have F_shares_b43 : Fld Z h43 b43 "tidewatch/decision/KeyGroupCeiling" "shares" "[D" .null := D43 (Or.inr (hw _ (List.mem_of_getElem? (i := 28) rfl))) (ty := (.array .double)) (by decide)
      have F_before_b43 : Fld Z h43 b43 "tidewatch/decision/KeyGroupCeiling" "before" "[D" .null := D43 (Or.inr (hw _ (List.mem_of_getElem? (i := 30) rfl))) (ty := (.array .double)) (by decide)
      show Go _ _ _ _ _ _ _ T43 (mkF m 142 #[.val (.int p0), .val (.int p1), .val (.int p2), .val (.int p3), .val (.int p4), .val (.int p5), .val (.int (3 : Int32)), .val (.long s0), .second, .val (.long s1), .second, .val (.long s2), .second, .val (.ref b28), .val (.int K), .val (.int fi), .val (.int la), .unset, .unset, .unset, .unset, .unset] [(.ref b43)])
      refine Go.step (fun _ k => XS.dup X43.here hx rfl (hb hby at_142) rfl rfl k) ?_
      show Go _ _ _ _ _ _ _ T43 (mkF m 143 #[.val (.int p0), .val (.int p1), .val (.int p2), .val (.int p3), .val (.int p4), .val (.int p5), .val (.int (3 : Int32)), .val (.long s0), .second, .val (.long s1), .second, .val (.long s2), .second, .val (.ref b28), .val (.int K), .val (.int fi), .val (.int la), .unset, .unset, .unset, .unset, .unset] [(.ref b43), (.ref b43)])
      refine Go.step (fun _ k => XS.iload X43.here hx rfl (hb hby at_143) rfl k) ?_
      show Go _ _ _ _ _ _ _ T43 (mkF m 145 #[.val (.int p0), .val (.int p1), .val (.int p2), .val (.int p3), .val (.int p4), .val (.int p5), .val (.int (3 : Int32)), .val (.long s0), .second, .val (.long s1), .second, .val (.long s2), .second, .val (.ref b28), .val (.int K), .val (.int fi), .val (.int la), .unset, .unset, .unset, .unset, .unset] [(.int K), (.ref b43), (.ref b43)])
      refine Go.step (fun _ k => XS.aload X43.here hx rfl (hb hby at_145) rfl rfl k) ?_
      show Go _ _ _ _ _ _ _ T43 (mkF m 147 #[.val (.int p0), .val (.int p1), .val (.int p2), .val (.int p3), .val (.int p4), .val (.int p5), .val (.int (3 : Int32)), .val (.long s0), .second, .val (.long s1), .second, .val (.long s2), .second, .val (.ref b28), .val (.int K), .val (.int fi), .val (.int la), .unset, .unset, .unset, .unset, .unset] [(.ref b28), (.int K), (.ref b43), (.ref b43)])
      refine Go.callI X43 hx hZ (by rw [hml]; rfl) (y := (⟨"tidewatch/decision/KeyGroupCeiling", "<init>", "(I[D)V"⟩ : MethodName)) (a := b43) (argsL := [(.int K), (.ref b28)]) (rest := [(.ref b43)]) rfl hown (hw _ (List.mem_of_getElem? (i := 10) rfl)) (hw _ (List.mem_of_getElem? (i := 11) rfl)) (hw _ (List.mem_of_getElem? (i := 9) rfl)) (hw _ (List.mem_of_getElem? (i := 12) rfl)) (by decide) (rm2_3 l Z a0 hw b43 b28 K (updN (updN (updN (fun _ => (0 : UInt64)) 0 (FP.l2d s0)) 1 (FP.l2d s1)) 2 (FP.l2d s2)) h43 n0 (Nat.le_trans Z0 (K43 : Keep h0 h43 []).1) E_b43 F_keyGroups_b43 F_shares_b43 F_before_b43 E_b28_43 V_b28_43 ge_b43 (Ne.symm ne_b28_b43) hK.1 (fun i hi' => by rcases (by omega : i = 0 ∨ i = 1 ∨ i = 2) with rfl | rfl | rfl; exact Jvm.Free.Fl.l2d_fin _; exact Jvm.Free.Fl.l2d_fin _; exact Jvm.Free.Fl.l2d_fin _) (fun i hi' => by rcases (by omega : i = 0 ∨ i = 1 ∨ i = 2) with rfl | rfl | rfl; exact own_nneg hs0; exact own_nneg hs1; exact own_nneg hs2)) e43 (hb hby at_147) (lenOf pd_4 rfl) rfl rfl (W := 1) (Nat.le_of_eq rfl) (by decide) (by decide) (by decide) (by decide) ?_
      intro v44 T44 L44 X44 Q44
      obtain ⟨rfl, N44q, Kc44, Ec44, Fk44, c44, d44, Fc44, Fd44, Vc44, Vd44, sc44, sd44, ncd44⟩ := Q44
      have N44 := Fr.app N32 N44q
      have ne_b28_c44 : b28 ≠ c44 := Nat.ne_of_lt (Nat.lt_of_lt_of_le V_b28_43.lt sc44)
      have ne_b28_d44 : b28 ≠ d44 := Nat.ne_of_lt (Nat.lt_of_lt_of_le V_b28_43.lt sd44)
      have V_b28_44 := V_b28_43.keep Kc44 (ninS ne_b28_b43 nin0)
      have E_b28_44 := E_b28_43.keep Kc44
      have E_b43_44 := E_b43.keep Kc44
      have KK44 : Keep h0 T44.heap [] := (K43 : Keep h0 h43 []).trans Kc44 (allS (Or.inr sz_b43) all0)
      show Go _ _ _ _ _ _ _ T44 (mkF m 150 #[.val (.int p0), .val (.int p1), .val (.int p2), .val (.int p3), .val (.int p4), .val (.int p5), .val (.int (3 : Int32)), .val (.long s0), .second, .val (.long s1), .second, .val (.long s2), .second, .val (.ref b28), .val (.int K), .val (.int fi), .val (.int la), .unset, .unset, .unset, .unset, .unset] [(.ref b43)])
      refine Go.step (fun _ k => XS.astore X44.here hx rfl (hb hby at_150) rfl rfl (l' := #[.val (.int p0), .val (.int p1), .val (.int p2), .val (.int p3), .val (.int p4), .val (.int p5), .val (.int (3 : Int32)), .val (.long s0), .second, .val (.long s1), .second, .val (.long s2), .second, .val (.ref b28), .val (.int K), .val (.int fi), .val (.int la), .val (.ref b43), .unset, .unset, .unset, .unset]) rfl k) ?_
      show Go _ _ _ _ _ _ _ T44 (mkF m 152 #[.val (.int p0), .val (.int p1), .val (.int p2), .val (.int p3), .val (.int p4), .val (.int p5), .val (.int (3 : Int32)), .val (.long s0), .second, .val (.long s1), .second, .val (.long s2), .second, .val (.ref b28), .val (.int K), .val (.int fi), .val (.int la), .val (.ref b43), .unset, .unset, .unset, .unset] [])
      refine Go.step (fun _ k => XS.iload X44.here hx rfl (hb hby at_152) rfl k) ?_
      show Go _ _ _ _ _ _ _ T44 (mkF m 154 #[.val (.int p0), .val (.int p1), .val (.int p2), .val (.int p3), .val (.int p4), .val (.int p5), .val (.int (3 : Int32)), .val (.long s0), .second, .val (.long s1), .second, .val (.long s2), .second, .val (.ref b28), .val (.int K), .val (.int fi), .val (.int la), .val (.ref b43), .unset, .unset, .unset, .unset] [(.int fi)])
      refine Go.step (fun _ k => XS.iload X44.here hx rfl (hb hby at_154) rfl k) ?_
      show Go _ _ _ _ _ _ _ T44 (mkF m 156 #[.val (.int p0), .val (.int p1), .val (.int p2), .val (.int p3), .val (.int p4), .val (.int p5), .val (.int (3 : Int32)), .val (.long s0), .second, .val (.long s1), .second, .val (.long s2), .second, .val (.ref b28), .val (.int K), .val (.int fi), .val (.int la), .val (.ref b43), .unset, .unset, .unset, .unset] [(.int (3 : Int32)), (.int fi)])
      refine Go.step (fun _ k => XS.iload X44.here hx rfl (hb hby at_156) rfl k) ?_
      show Go _ _ _ _ _ _ _ T44 (mkF m 158 #[.val (.int p0), .val (.int p1), .val (.int p2), .val (.int p3), .val (.int p4), .val (.int p5), .val (.int (3 : Int32)), .val (.long s0), .second, .val (.long s1), .second, .val (.long s2), .second, .val (.ref b28), .val (.int K), .val (.int fi), .val (.int la), .val (.ref b43), .unset, .unset, .unset, .unset] [(.int K), (.int (3 : Int32)), (.int fi)])
      refine Go.callS X44 hx hZ (by rw [hml]; rfl) (y := (⟨"tidewatch/decision/KeyGroupCeilingAtMostPinLaw", "ownerRef", "(III)I"⟩ : MethodName)) (argsL := [(.int fi), (.int (3 : Int32)), (.int K)]) (rest := []) hown (hw _ (List.mem_of_getElem? (i := 39) rfl)) (hw _ (List.mem_of_getElem? (i := 40) rfl)) (hw _ (List.mem_of_getElem? (i := 41) rfl)) (hw _ (List.mem_of_getElem? (i := 42) rfl)) (by decide) (rm6_3 l Z a0 hw fi K T44.heap n0 (Nat.le_trans Z0 (KK44 : Keep h0 T44.heap []).1)) rfl (hb hby at_158) (lenOf pd_5 rfl) rfl rfl (W := 0) (Nat.le_of_eq rfl) (by decide) (by decide) (by decide) (by decide) ?_
      intro v45 T45 L45 X45 Q45
      rw [ho1.1] at Q45
      obtain ⟨rfl, N45q, hh45⟩ := Q45
      have N45 := Fr.app N44 N45q
      show Go _ _ _ _ _ _ _ T45 (mkF m 161 #[.val (.int p0), .val (.int p1), .val (.int p2), .val (.int p3), .val (.int p4), .val (.int p5), .val (.int (3 : Int32)), .val (.long s0), .second, .val (.long s1), .second, .val (.long s2), .second, .val (.ref b28), .val (.int K), .val (.int fi), .val (.int la), .val (.ref b43), .unset, .unset, .unset, .unset] [(.int (0 : Int32))])
      refine Go.step (fun _ k => XS.istore X45.here hx rfl (hb hby at_161) rfl (l' := #[.val (.int p0), .val (.int p1), .val (.int p2), .val (.int p3), .val (.int p4), .val (.int p5), .val (.int (3 : Int32)), .val (.long s0), .second, .val (.long s1), .second, .val (.long s2), .second, .val (.ref b28), .val (.int K), .val (.int fi), .val (.int la), .val (.ref b43), .val (.int (0 : Int32)), .unset, .unset, .unset]) rfl k) ?_
      show Go _ _ _ _ _ _ _ T45 (mkF m 163 #[.val (.int p0), .val (.int p1), .val (.int p2), .val (.int p3), .val (.int p4), .val (.int p5), .val (.int (3 : Int32)), .val (.long s0), .second, .val (.long s1), .second, .val (.long s2), .second, .val (.ref b28), .val (.int K), .val (.int fi), .val (.int la), .val (.ref b43), .val (.int (0 : Int32)), .unset, .unset, .unset] [])
      refine Go.step (fun _ k => XS.iload X45.here hx rfl (hb hby at_163) rfl k) ?_
      show Go _ _ _ _ _ _ _ T45 (mkF m 165 #[.val (.int p0), .val (.int p1), .val (.int p2), .val (.int p3), .val (.int p4), .val (.int p5), .val (.int (3 : Int32)), .val (.long s0), .second, .val (.long s1), .second, .val (.long s2), .second, .val (.ref b28), .val (.int K), .val (.int fi), .val (.int la), .val (.ref b43), .val (.int (0 : Int32)), .unset, .unset, .unset] [(.int la)])
      refine Go.step (fun _ k => XS.iload X45.here hx rfl (hb hby at_165) rfl k) ?_
      show Go _ _ _ _ _ _ _ T45 (mkF m 167 #[.val (.int p0), .val (.int p1), .val (.int p2), .val (.int p3), .val (.int p4), .val (.int p5), .val (.int (3 : Int32)), .val (.long s0), .second, .val (.long s1), .second, .val (.long s2), .second, .val (.ref b28), .val (.int K), .val (.int fi), .val (.int la), .val (.ref b43), .val (.int (0 : Int32)), .unset, .unset, .unset] [(.int (3 : Int32)), (.int la)])
      refine Go.step (fun _ k => XS.iload X45.here hx rfl (hb hby at_167) rfl k) ?_
      show Go _ _ _ _ _ _ _ T45 (mkF m 169 #[.val (.int p0), .val (.int p1), .val (.int p2), .val (.int p3), .val (.int p4), .val (.int p5), .val (.int (3 : Int32)), .val (.long s0), .second, .val (.long s1), .second, .val (.long s2), .second, .val (.ref b28), .val (.int K), .val (.int fi), .val (.int la), .val (.ref b43), .val (.int (0 : Int32)), .unset, .unset, .unset] [(.int K), (.int (3 : Int32)), (.int la)])
      refine Go.callS X45 hx hZ (by rw [hml]; rfl) (y := (⟨"tidewatch/decision/KeyGroupCeilingAtMostPinLaw", "ownerRef", "(III)I"⟩ : MethodName)) (argsL := [(.int la), (.int (3 : Int32)), (.int K)]) (rest := []) hown (hw _ (List.mem_of_getElem? (i := 39) rfl)) (hw _ (List.mem_of_getElem? (i := 40) rfl)) (hw _ (List.mem_of_getElem? (i := 41) rfl)) (hw _ (List.mem_of_getElem? (i := 42) rfl)) (by decide) (rm6_3 l Z a0 hw la K T44.heap n0 (Nat.le_trans Z0 (KK44 : Keep h0 T44.heap []).1)) hh45 (hb hby at_169) (lenOf pd_5 rfl) rfl rfl (W := 0) (Nat.le_of_eq rfl) (by decide) (by decide) (by decide) (by decide) ?_
      intro v46 T46 L46 X46 Q46
      rw [ho2.1] at Q46
      obtain ⟨rfl, N46q, hh46⟩ := Q46
      have N46 := Fr.app N45 N46q
      show Go _ _ _ _ _ _ _ T46 (mkF m 172 #[.val (.int p0), .val (.int p1), .val (.int p2), .val (.int p3), .val (.int p4), .val (.int p5), .val (.int (3 : Int32)), .val (.long s0), .second, .val (.long s1), .second, .val (.long s2), .second, .val (.ref b28), .val (.int K), .val (.int fi), .val (.int la), .val (.ref b43), .val (.int (0 : Int32)), .unset, .unset, .unset] [(.int (2 : Int32))])
      refine Go.step (fun _ k => XS.istore X46.here hx rfl (hb hby at_172) rfl (l' := #[.val (.int p0), .val (.int p1), .val (.int p2), .val (.int p3), .val (.int p4), .val (.int p5), .val (.int (3 : Int32)), .val (.long s0), .second, .val (.long s1), .second, .val (.long s2), .second, .val (.ref b28), .val (.int K), .val (.int fi), .val (.int la), .val (.ref b43), .val (.int (0 : Int32)), .val (.int (2 : Int32)), .unset, .unset]) rfl k) ?_
      show Go _ _ _ _ _ _ _ T46 (mkF m 174 #[.val (.int p0), .val (.int p1), .val (.int p2), .val (.int p3), .val (.int p4), .val (.int p5), .val (.int (3 : Int32)), .val (.long s0), .second, .val (.long s1), .second, .val (.long s2), .second, .val (.ref b28), .val (.int K), .val (.int fi), .val (.int la), .val (.ref b43), .val (.int (0 : Int32)), .val (.int (2 : Int32)), .unset, .unset] [])
      refine Go.step (fun _ k => XS.lconst X46.here hx rfl (hb hby at_174) k) ?_
      show Go _ _ _ _ _ _ _ T46 (mkF m 175 #[.val (.int p0), .val (.int p1), .val (.int p2), .val (.int p3), .val (.int p4), .val (.int p5), .val (.int (3 : Int32)), .val (.long s0), .second, .val (.long s1), .second, .val (.long s2), .second, .val (.ref b28), .val (.int K), .val (.int fi), .val (.int la), .val (.ref b43), .val (.int (0 : Int32)), .val (.int (2 : Int32)), .unset, .unset] [(.long (0 : Int64))])
      refine Go.step (fun _ k => XS.lstore X46.here hx rfl (hb hby at_175) rfl (l' := #[.val (.int p0), .val (.int p1), .val (.int p2), .val (.int p3), .val (.int p4), .val (.int p5), .val (.int (3 : Int32)), .val (.long s0), .second, .val (.long s1), .second, .val (.long s2), .second, .val (.ref b28), .val (.int K), .val (.int fi), .val (.int la), .val (.ref b43), .val (.int (0 : Int32)), .val (.int (2 : Int32)), .val (.long (0 : Int64)), .second]) rfl k) ?_
      show Go _ _ _ _ _ _ _ T46 (mkF m 177 #[.val (.int p0), .val (.int p1), .val (.int p2), .val (.int p3), .val (.int p4), .val (.int p5), .val (.int (3 : Int32)), .val (.long s0), .second, .val (.long s1), .second, .val (.long s2), .second, .val (.ref b28), .val (.int K), .val (.int fi), .val (.int la), .val (.ref b43), .val (.int (0 : Int32)), .val (.int (2 : Int32)), .val (.long (0 : Int64)), .second] [])
      refine Go.step (fun _ k => XS.iload X46.here hx rfl (hb hby at_177) rfl k) ?_
      show Go _ _ _ _ _ _ _ T46 (mkF m 179 #[.val (.int p0), .val (.int p1), .val (.int p2), .val (.int p3), .val (.int p4), .val (.int p5), .val (.int (3 : Int32)), .val (.long s0), .second, .val (.long s1), .second, .val (.long s2), .second, .val (.ref b28), .val (.int K), .val (.int fi), .val (.int la), .val (.ref b43), .val (.int (0 : Int32)), .val (.int (2 : Int32)), .val (.long (0 : Int64)), .second] [(.int (0 : Int32))])
      refine Go.step (fun _ k => XS.ifNo X46.here hx rfl (hb hby at_179) rfl ((if0 _ _).trans (flt (by decide : ¬ ((0 : Int32) < (0 : Int32)))).2.2.1) k) ?_
      show Go _ _ _ _ _ _ _ T46 (mkF m 182 #[.val (.int p0), .val (.int p1), .val (.int p2), .val (.int p3), .val (.int p4), .val (.int p5), .val (.int (3 : Int32)), .val (.long s0), .second, .val (.long s1), .second, .val (.long s2), .second, .val (.ref b28), .val (.int K), .val (.int fi), .val (.int la), .val (.ref b43), .val (.int (0 : Int32)), .val (.int (2 : Int32)), .val (.long (0 : Int64)), .second] [])
      refine Go.step (fun _ k => XS.lload X46.here hx rfl (hb hby at_182) rfl k) ?_
      show Go _ _ _ _ _ _ _ T46 (mkF m 184 #[.val (.int p0), .val (.int p1), .val (.int p2), .val (.int p3), .val (.int p4), .val (.int p5), .val (.int (3 : Int32)), .val (.long s0), .second, .val (.long s1), .second, .val (.long s2), .second, .val (.ref b28), .val (.int K), .val (.int fi), .val (.int la), .val (.ref b43), .val (.int (0 : Int32)), .val (.int (2 : Int32)), .val (.long (0 : Int64)), .second] [(.long (0 : Int64))])
      refine Go.step (fun _ k => XS.lload X46.here hx rfl (hb hby at_184) rfl k) ?_
      show Go _ _ _ _ _ _ _ T46 (mkF m 186 #[.val (.int p0), .val (.int p1), .val (.int p2), .val (.int p3), .val (.int p4), .val (.int p5), .val (.int (3 : Int32)), .val (.long s0), .second, .val (.long s1), .second, .val (.long s2), .second, .val (.ref b28), .val (.int K), .val (.int fi), .val (.int la), .val (.ref b43), .val (.int (0 : Int32)), .val (.int (2 : Int32)), .val (.long (0 : Int64)), .second] [(.long s0), (.long (0 : Int64))])
      refine Go.step (fun _ k => XS.ladd X46.here hx rfl (hb hby at_186) rfl k) ?_
      show Go _ _ _ _ _ _ _ T46 (mkF m 187 #[.val (.int p0), .val (.int p1), .val (.int p2), .val (.int p3), .val (.int p4), .val (.int p5), .val (.int (3 : Int32)), .val (.long s0), .second, .val (.long s1), .second, .val (.long s2), .second, .val (.ref b28), .val (.int K), .val (.int fi), .val (.int la), .val (.ref b43), .val (.int (0 : Int32)), .val (.int (2 : Int32)), .val (.long (0 : Int64)), .second] [(.long ((0 : Int64) + s0))])
      refine Go.step (fun _ k => XS.lstore X46.here hx rfl (hb hby at_187) rfl (l' := #[.val (.int p0), .val (.int p1), .val (.int p2), .val (.int p3), .val (.int p4), .val (.int p5), .val (.int (3 : Int32)), .val (.long s0), .second, .val (.long s1), .second, .val (.long s2), .second, .val (.ref b28), .val (.int K), .val (.int fi), .val (.int la), .val (.ref b43), .val (.int (0 : Int32)), .val (.int (2 : Int32)), .val (.long ((0 : Int64) + s0)), .second]) rfl k) ?_
      show Go _ _ _ _ _ _ _ T46 (mkF m 189 #[.val (.int p0), .val (.int p1), .val (.int p2), .val (.int p3), .val (.int p4), .val (.int p5), .val (.int (3 : Int32)), .val (.long s0), .second, .val (.long s1), .second, .val (.long s2), .second, .val (.ref b28), .val (.int K), .val (.int fi), .val (.int la), .val (.ref b43), .val (.int (0 : Int32)), .val (.int (2 : Int32)), .val (.long ((0 : Int64) + s0)), .second] [])
      refine Go.step (fun _ k => XS.iload X46.here hx rfl (hb hby at_189) rfl k) ?_
      show Go _ _ _ _ _ _ _ T46 (mkF m 191 #[.val (.int p0), .val (.int p1), .val (.int p2), .val (.int p3), .val (.int p4), .val (.int p5), .val (.int (3 : Int32)), .val (.long s0), .second, .val (.long s1), .second, .val (.long s2), .second, .val (.ref b28), .val (.int K), .val (.int fi), .val (.int la), .val (.ref b43), .val (.int (0 : Int32)), .val (.int (2 : Int32)), .val (.long ((0 : Int64) + s0)), .second] [(.int (0 : Int32))])
      refine Go.step (fun _ k => XS.iconst X46.here hx rfl (hb hby at_191) k) ?_
      show Go _ _ _ _ _ _ _ T46 (mkF m 192 #[.val (.int p0), .val (.int p1), .val (.int p2), .val (.int p3), .val (.int p4), .val (.int p5), .val (.int (3 : Int32)), .val (.long s0), .second, .val (.long s1), .second, .val (.long s2), .second, .val (.ref b28), .val (.int K), .val (.int fi), .val (.int la), .val (.ref b43), .val (.int (0 : Int32)), .val (.int (2 : Int32)), .val (.long ((0 : Int64) + s0)), .second] [(.int (1 : Int32)), (.int (0 : Int32))])
      refine Go.step (fun _ k => XS.icmpNo X46.here hx rfl (hb hby at_192) rfl (flt (by decide : ¬ ((1 : Int32) < (0 : Int32)))).2.2.1 k) ?_
      show Go _ _ _ _ _ _ _ T46 (mkF m 195 #[.val (.int p0), .val (.int p1), .val (.int p2), .val (.int p3), .val (.int p4), .val (.int p5), .val (.int (3 : Int32)), .val (.long s0), .second, .val (.long s1), .second, .val (.long s2), .second, .val (.ref b28), .val (.int K), .val (.int fi), .val (.int la), .val (.ref b43), .val (.int (0 : Int32)), .val (.int (2 : Int32)), .val (.long ((0 : Int64) + s0)), .second] [])
      refine Go.step (fun _ k => XS.iload X46.here hx rfl (hb hby at_195) rfl k) ?_
      show Go _ _ _ _ _ _ _ T46 (mkF m 197 #[.val (.int p0), .val (.int p1), .val (.int p2), .val (.int p3), .val (.int p4), .val (.int p5), .val (.int (3 : Int32)), .val (.long s0), .second, .val (.long s1), .second, .val (.long s2), .second, .val (.ref b28), .val (.int K), .val (.int fi), .val (.int la), .val (.ref b43), .val (.int (0 : Int32)), .val (.int (2 : Int32)), .val (.long ((0 : Int64) + s0)), .second] [(.int (2 : Int32))])
      refine Go.step (fun _ k => XS.iconst X46.here hx rfl (hb hby at_197) k) ?_
      show Go _ _ _ _ _ _ _ T46 (mkF m 198 #[.val (.int p0), .val (.int p1), .val (.int p2), .val (.int p3), .val (.int p4), .val (.int p5), .val (.int (3 : Int32)), .val (.long s0), .second, .val (.long s1), .second, .val (.long s2), .second, .val (.ref b28), .val (.int K), .val (.int fi), .val (.int la), .val (.ref b43), .val (.int (0 : Int32)), .val (.int (2 : Int32)), .val (.long ((0 : Int64) + s0)), .second] [(.int (1 : Int32)), (.int (2 : Int32))])
      refine Go.step (fun _ k => XS.icmpNo X46.here hx rfl (hb hby at_198) rfl (flt (by decide : ¬ ((2 : Int32) < (1 : Int32)))).1 k) ?_
      show Go _ _ _ _ _ _ _ T46 (mkF m 201 #[.val (.int p0), .val (.int p1), .val (.int p2), .val (.int p3), .val (.int p4), .val (.int p5), .val (.int (3 : Int32)), .val (.long s0), .second, .val (.long s1), .second, .val (.long s2), .second, .val (.ref b28), .val (.int K), .val (.int fi), .val (.int la), .val (.ref b43), .val (.int (0 : Int32)), .val (.int (2 : Int32)), .val (.long ((0 : Int64) + s0)), .second] [])
      refine Go.step (fun _ k => XS.lload X46.here hx rfl (hb hby at_201) rfl k) ?_
      show Go _ _ _ _ _ _ _ T46 (mkF m 203 #[.val (.int p0), .val (.int p1), .val (.int p2), .val (.int p3), .val (.int p4), .val (.int p5), .val (.int (3 : Int32)), .val (.long s0), .second, .val (.long s1), .second, .val (.long s2), .second, .val (.ref b28), .val (.int K), .val (.int fi), .val (.int la), .val (.ref b43), .val (.int (0 : Int32)), .val (.int (2 : Int32)), .val (.long ((0 : Int64) + s0)), .second] [(.long ((0 : Int64) + s0))])
      refine Go.step (fun _ k => XS.lload X46.here hx rfl (hb hby at_203) rfl k) ?_
      show Go _ _ _ _ _ _ _ T46 (mkF m 205 #[.val (.int p0), .val (.int p1), .val (.int p2), .val (.int p3), .val (.int p4), .val (.int p5), .val (.int (3 : Int32)), .val (.long s0), .second, .val (.long s1), .second, .val (.long s2), .second, .val (.ref b28), .val (.int K), .val (.int fi), .val (.int la), .val (.ref b43), .val (.int (0 : Int32)), .val (.int (2 : Int32)), .val (.long ((0 : Int64) + s0)), .second] [(.long s1), (.long ((0 : Int64) + s0))])
      refine Go.step (fun _ k => XS.ladd X46.here hx rfl (hb hby at_205) rfl k) ?_
      show Go _ _ _ _ _ _ _ T46 (mkF m 206 #[.val (.int p0), .val (.int p1), .val (.int p2), .val (.int p3), .val (.int p4), .val (.int p5), .val (.int (3 : Int32)), .val (.long s0), .second, .val (.long s1), .second, .val (.long s2), .second, .val (.ref b28), .val (.int K), .val (.int fi), .val (.int la), .val (.ref b43), .val (.int (0 : Int32)), .val (.int (2 : Int32)), .val (.long ((0 : Int64) + s0)), .second] [(.long (((0 : Int64) + s0) + s1))])
      refine Go.step (fun _ k => XS.lstore X46.here hx rfl (hb hby at_206) rfl (l' := #[.val (.int p0), .val (.int p1), .val (.int p2), .val (.int p3), .val (.int p4), .val (.int p5), .val (.int (3 : Int32)), .val (.long s0), .second, .val (.long s1), .second, .val (.long s2), .second, .val (.ref b28), .val (.int K), .val (.int fi), .val (.int la), .val (.ref b43), .val (.int (0 : Int32)), .val (.int (2 : Int32)), .val (.long (((0 : Int64) + s0) + s1)), .second]) rfl k) ?_
      show Go _ _ _ _ _ _ _ T46 (mkF m 208 #[.val (.int p0), .val (.int p1), .val (.int p2), .val (.int p3), .val (.int p4), .val (.int p5), .val (.int (3 : Int32)), .val (.long s0), .second, .val (.long s1), .second, .val (.long s2), .second, .val (.ref b28), .val (.int K), .val (.int fi), .val (.int la), .val (.ref b43), .val (.int (0 : Int32)), .val (.int (2 : Int32)), .val (.long (((0 : Int64) + s0) + s1)), .second] [])
      refine Go.step (fun _ k => XS.iload X46.here hx rfl (hb hby at_208) rfl k) ?_
      show Go _ _ _ _ _ _ _ T46 (mkF m 210 #[.val (.int p0), .val (.int p1), .val (.int p2), .val (.int p3), .val (.int p4), .val (.int p5), .val (.int (3 : Int32)), .val (.long s0), .second, .val (.long s1), .second, .val (.long s2), .second, .val (.ref b28), .val (.int K), .val (.int fi), .val (.int la), .val (.ref b43), .val (.int (0 : Int32)), .val (.int (2 : Int32)), .val (.long (((0 : Int64) + s0) + s1)), .second] [(.int (0 : Int32))])
      refine Go.step (fun _ k => XS.iconst X46.here hx rfl (hb hby at_210) k) ?_
      show Go _ _ _ _ _ _ _ T46 (mkF m 211 #[.val (.int p0), .val (.int p1), .val (.int p2), .val (.int p3), .val (.int p4), .val (.int p5), .val (.int (3 : Int32)), .val (.long s0), .second, .val (.long s1), .second, .val (.long s2), .second, .val (.ref b28), .val (.int K), .val (.int fi), .val (.int la), .val (.ref b43), .val (.int (0 : Int32)), .val (.int (2 : Int32)), .val (.long (((0 : Int64) + s0) + s1)), .second] [(.int (2 : Int32)), (.int (0 : Int32))])
      refine Go.step (fun _ k => XS.icmpNo X46.here hx rfl (hb hby at_211) rfl (flt (by decide : ¬ ((2 : Int32) < (0 : Int32)))).2.2.1 k) ?_
      show Go _ _ _ _ _ _ _ T46 (mkF m 214 #[.val (.int p0), .val (.int p1), .val (.int p2), .val (.int p3), .val (.int p4), .val (.int p5), .val (.int (3 : Int32)), .val (.long s0), .second, .val (.long s1), .second, .val (.long s2), .second, .val (.ref b28), .val (.int K), .val (.int fi), .val (.int la), .val (.ref b43), .val (.int (0 : Int32)), .val (.int (2 : Int32)), .val (.long (((0 : Int64) + s0) + s1)), .second] [])
      refine Go.step (fun _ k => XS.iload X46.here hx rfl (hb hby at_214) rfl k) ?_
      show Go _ _ _ _ _ _ _ T46 (mkF m 216 #[.val (.int p0), .val (.int p1), .val (.int p2), .val (.int p3), .val (.int p4), .val (.int p5), .val (.int (3 : Int32)), .val (.long s0), .second, .val (.long s1), .second, .val (.long s2), .second, .val (.ref b28), .val (.int K), .val (.int fi), .val (.int la), .val (.ref b43), .val (.int (0 : Int32)), .val (.int (2 : Int32)), .val (.long (((0 : Int64) + s0) + s1)), .second] [(.int (2 : Int32))])
      refine Go.step (fun _ k => XS.iconst X46.here hx rfl (hb hby at_216) k) ?_
      show Go _ _ _ _ _ _ _ T46 (mkF m 217 #[.val (.int p0), .val (.int p1), .val (.int p2), .val (.int p3), .val (.int p4), .val (.int p5), .val (.int (3 : Int32)), .val (.long s0), .second, .val (.long s1), .second, .val (.long s2), .second, .val (.ref b28), .val (.int K), .val (.int fi), .val (.int la), .val (.ref b43), .val (.int (0 : Int32)), .val (.int (2 : Int32)), .val (.long (((0 : Int64) + s0) + s1)), .second] [(.int (2 : Int32)), (.int (2 : Int32))])
      refine Go.step (fun _ k => XS.icmpNo X46.here hx rfl (hb hby at_217) rfl (flt (by decide : ¬ ((2 : Int32) < (2 : Int32)))).1 k) ?_
      show Go _ _ _ _ _ _ _ T46 (mkF m 220 #[.val (.int p0), .val (.int p1), .val (.int p2), .val (.int p3), .val (.int p4), .val (.int p5), .val (.int (3 : Int32)), .val (.long s0), .second, .val (.long s1), .second, .val (.long s2), .second, .val (.ref b28), .val (.int K), .val (.int fi), .val (.int la), .val (.ref b43), .val (.int (0 : Int32)), .val (.int (2 : Int32)), .val (.long (((0 : Int64) + s0) + s1)), .second] [])
      refine Go.step (fun _ k => XS.lload X46.here hx rfl (hb hby at_220) rfl k) ?_
      show Go _ _ _ _ _ _ _ T46 (mkF m 222 #[.val (.int p0), .val (.int p1), .val (.int p2), .val (.int p3), .val (.int p4), .val (.int p5), .val (.int (3 : Int32)), .val (.long s0), .second, .val (.long s1), .second, .val (.long s2), .second, .val (.ref b28), .val (.int K), .val (.int fi), .val (.int la), .val (.ref b43), .val (.int (0 : Int32)), .val (.int (2 : Int32)), .val (.long (((0 : Int64) + s0) + s1)), .second] [(.long (((0 : Int64) + s0) + s1))])
      refine Go.step (fun _ k => XS.lload X46.here hx rfl (hb hby at_222) rfl k) ?_
      show Go _ _ _ _ _ _ _ T46 (mkF m 224 #[.val (.int p0), .val (.int p1), .val (.int p2), .val (.int p3), .val (.int p4), .val (.int p5), .val (.int (3 : Int32)), .val (.long s0), .second, .val (.long s1), .second, .val (.long s2), .second, .val (.ref b28), .val (.int K), .val (.int fi), .val (.int la), .val (.ref b43), .val (.int (0 : Int32)), .val (.int (2 : Int32)), .val (.long (((0 : Int64) + s0) + s1)), .second] [(.long s2), (.long (((0 : Int64) + s0) + s1))])
      refine Go.step (fun _ k => XS.ladd X46.here hx rfl (hb hby at_224) rfl k) ?_
      show Go _ _ _ _ _ _ _ T46 (mkF m 225 #[.val (.int p0), .val (.int p1), .val (.int p2), .val (.int p3), .val (.int p4), .val (.int p5), .val (.int (3 : Int32)), .val (.long s0), .second, .val (.long s1), .second, .val (.long s2), .second, .val (.ref b28), .val (.int K), .val (.int fi), .val (.int la), .val (.ref b43), .val (.int (0 : Int32)), .val (.int (2 : Int32)), .val (.long (((0 : Int64) + s0) + s1)), .second] [(.long ((((0 : Int64) + s0) + s1) + s2))])
      refine Go.step (fun _ k => XS.lstore X46.here hx rfl (hb hby at_225) rfl (l' := #[.val (.int p0), .val (.int p1), .val (.int p2), .val (.int p3), .val (.int p4), .val (.int p5), .val (.int (3 : Int32)), .val (.long s0), .second, .val (.long s1), .second, .val (.long s2), .second, .val (.ref b28), .val (.int K), .val (.int fi), .val (.int la), .val (.ref b43), .val (.int (0 : Int32)), .val (.int (2 : Int32)), .val (.long ((((0 : Int64) + s0) + s1) + s2)), .second]) rfl k) ?_
      have hAt : FP.dcmp (FP.dsub ((updN (updN (updN (fun _ => (0 : UInt64)) 1 (FP.dadd (0 : UInt64) ((updN (updN (updN (fun _ => (0 : UInt64)) 0 (FP.l2d s0)) 1 (FP.l2d s1)) 2 (FP.l2d s2)) 0))) 2 (FP.dadd (FP.dadd (0 : UInt64) ((updN (updN (updN (fun _ => (0 : UInt64)) 0 (FP.l2d s0)) 1 (FP.l2d s1)) 2 (FP.l2d s2)) 0)) ((updN (updN (updN (fun _ => (0 : UInt64)) 0 (FP.l2d s0)) 1 (FP.l2d s1)) 2 (FP.l2d s2)) 1))) 3 (FP.dadd (FP.dadd (FP.dadd (0 : UInt64) ((updN (updN (updN (fun _ => (0 : UInt64)) 0 (FP.l2d s0)) 1 (FP.l2d s1)) 2 (FP.l2d s2)) 0)) ((updN (updN (updN (fun _ => (0 : UInt64)) 0 (FP.l2d s0)) 1 (FP.l2d s1)) 2 (FP.l2d s2)) 1)) ((updN (updN (updN (fun _ => (0 : UInt64)) 0 (FP.l2d s0)) 1 (FP.l2d s1)) 2 (FP.l2d s2)) 2))) 3) ((updN (updN (updN (fun _ => (0 : UInt64)) 1 (FP.dadd (0 : UInt64) ((updN (updN (updN (fun _ => (0 : UInt64)) 0 (FP.l2d s0)) 1 (FP.l2d s1)) 2 (FP.l2d s2)) 0))) 2 (FP.dadd (FP.dadd (0 : UInt64) ((updN (updN (updN (fun _ => (0 : UInt64)) 0 (FP.l2d s0)) 1 (FP.l2d s1)) 2 (FP.l2d s2)) 0)) ((updN (updN (updN (fun _ => (0 : UInt64)) 0 (FP.l2d s0)) 1 (FP.l2d s1)) 2 (FP.l2d s2)) 1))) 3 (FP.dadd (FP.dadd (FP.dadd (0 : UInt64) ((updN (updN (updN (fun _ => (0 : UInt64)) 0 (FP.l2d s0)) 1 (FP.l2d s1)) 2 (FP.l2d s2)) 0)) ((updN (updN (updN (fun _ => (0 : UInt64)) 0 (FP.l2d s0)) 1 (FP.l2d s1)) 2 (FP.l2d s2)) 1)) ((updN (updN (updN (fun _ => (0 : UInt64)) 0 (FP.l2d s0)) 1 (FP.l2d s1)) 2 (FP.l2d s2)) 2))) 0)) (FP.l2d ((((0 : Int64) + s0) + s1) + s2)) = some .eq := by
        have t0 := hs0.1; have t1 := hs0.2; have t2 := hs1.1; have t3 := hs1.2; have t4 := hs2.1; have t5 := hs2.2
        have e1 := own_sum (a := s0) (b := s1) t0 (by omega) hs1
        have e2 := own_sum (a := s0 + s1) (b := s2) (by omega) (by omega) hs2
        have hd : ((s0 + s1) + s2) - (0 : Int64) = ((((0 : Int64) + s0) + s1) + s2) := own_eq64 (by
          have := c_ladd s0 s1
          have := c_ladd (s0 + s1) s2
          have := c_ladd (0 : Int64) s0
          have := c_ladd ((0 : Int64) + s0) s1
          have := c_ladd (((0 : Int64) + s0) + s1) s2
          have := c_lsub ((s0 + s1) + s2) (0 : Int64)
          have : (0 : Int64).toInt = 0 := rfl
          omega)
        exact own_at (a := ((s0 + s1) + s2)) (b := (0 : Int64)) (own_d3 hs0 hs1 hs2) l2d_zero.symm (by first | omega | decide) (by first | omega | decide) (by first | omega | decide) (by first | omega | decide) hd
      show Go _ _ _ _ _ _ _ T46 (mkF m 227 #[.val (.int p0), .val (.int p1), .val (.int p2), .val (.int p3), .val (.int p4), .val (.int p5), .val (.int (3 : Int32)), .val (.long s0), .second, .val (.long s1), .second, .val (.long s2), .second, .val (.ref b28), .val (.int K), .val (.int fi), .val (.int la), .val (.ref b43), .val (.int (0 : Int32)), .val (.int (2 : Int32)), .val (.long ((((0 : Int64) + s0) + s1) + s2)), .second] [])
      refine Go.step (fun _ k => XS.aload X46.here hx rfl (hb hby at_227) rfl rfl k) ?_
      show Go _ _ _ _ _ _ _ T46 (mkF m 229 #[.val (.int p0), .val (.int p1), .val (.int p2), .val (.int p3), .val (.int p4), .val (.int p5), .val (.int (3 : Int32)), .val (.long s0), .second, .val (.long s1), .second, .val (.long s2), .second, .val (.ref b28), .val (.int K), .val (.int fi), .val (.int la), .val (.ref b43), .val (.int (0 : Int32)), .val (.int (2 : Int32)), .val (.long ((((0 : Int64) + s0) + s1) + s2)), .second] [(.ref b43)])
      refine Go.step (fun _ k => XS.iload X46.here hx rfl (hb hby at_229) rfl k) ?_
      show Go _ _ _ _ _ _ _ T46 (mkF m 231 #[.val (.int p0), .val (.int p1), .val (.int p2), .val (.int p3), .val (.int p4), .val (.int p5), .val (.int (3 : Int32)), .val (.long s0), .second, .val (.long s1), .second, .val (.long s2), .second, .val (.ref b28), .val (.int K), .val (.int fi), .val (.int la), .val (.ref b43), .val (.int (0 : Int32)), .val (.int (2 : Int32)), .val (.long ((((0 : Int64) + s0) + s1) + s2)), .second] [(.int fi), (.ref b43)])
      refine Go.step (fun _ k => XS.iload X46.here hx rfl (hb hby at_231) rfl k) ?_
      show Go _ _ _ _ _ _ _ T46 (mkF m 233 #[.val (.int p0), .val (.int p1), .val (.int p2), .val (.int p3), .val (.int p4), .val (.int p5), .val (.int (3 : Int32)), .val (.long s0), .second, .val (.long s1), .second, .val (.long s2), .second, .val (.ref b28), .val (.int K), .val (.int fi), .val (.int la), .val (.ref b43), .val (.int (0 : Int32)), .val (.int (2 : Int32)), .val (.long ((((0 : Int64) + s0) + s1) + s2)), .second] [(.int la), (.int fi), (.ref b43)])
      refine Go.callV X46 hx hZ (by rw [hml]; rfl) (y := (⟨"tidewatch/decision/KeyGroupCeiling", "atMost", "(II)D"⟩ : MethodName)) (z := (⟨"tidewatch/decision/KeyGroupCeiling", "atMost", "(II)D"⟩ : MethodName)) (a := b43) (argsL := [(.int fi), (.int la)]) (rest := []) hown (hw _ (List.mem_of_getElem? (i := 44) rfl)) (hw _ (List.mem_of_getElem? (i := 45) rfl)) (notFace_of_selects (args := #[]) (mvT hZ (hw _ (List.mem_of_getElem? (i := 47) rfl)))) (hw _ (List.mem_of_getElem? (i := 47) rfl)) (hw _ (List.mem_of_getElem? (i := 46) rfl)) (hw _ (List.mem_of_getElem? (i := 9) rfl)) (hw _ (List.mem_of_getElem? (i := 48) rfl)) (by decide) (rm7_302 l Z a0 hw b43 fi la c44 d44 K (updN (updN (updN (fun _ => (0 : UInt64)) 0 (FP.l2d s0)) 1 (FP.l2d s1)) 2 (FP.l2d s2)) (updN (updN (updN (fun _ => (0 : UInt64)) 1 (FP.dadd (0 : UInt64) ((updN (updN (updN (fun _ => (0 : UInt64)) 0 (FP.l2d s0)) 1 (FP.l2d s1)) 2 (FP.l2d s2)) 0))) 2 (FP.dadd (FP.dadd (0 : UInt64) ((updN (updN (updN (fun _ => (0 : UInt64)) 0 (FP.l2d s0)) 1 (FP.l2d s1)) 2 (FP.l2d s2)) 0)) ((updN (updN (updN (fun _ => (0 : UInt64)) 0 (FP.l2d s0)) 1 (FP.l2d s1)) 2 (FP.l2d s2)) 1))) 3 (FP.dadd (FP.dadd (FP.dadd (0 : UInt64) ((updN (updN (updN (fun _ => (0 : UInt64)) 0 (FP.l2d s0)) 1 (FP.l2d s1)) 2 (FP.l2d s2)) 0)) ((updN (updN (updN (fun _ => (0 : UInt64)) 0 (FP.l2d s0)) 1 (FP.l2d s1)) 2 (FP.l2d s2)) 1)) ((updN (updN (updN (fun _ => (0 : UInt64)) 0 (FP.l2d s0)) 1 (FP.l2d s1)) 2 (FP.l2d s2)) 2))) T44.heap n0 (Nat.le_trans Z0 (KK44 : Keep h0 T44.heap []).1) Ec44 Fk44 Fc44 Vc44 Fd44 Vd44 hK.2 ho1.2 ho2.2 (own_nnN (Jvm.FP.Core.dcmp_some hAt).1)) hh46 Ec44 (hb hby at_233) (lenOf pd_6 rfl) rfl rfl (W := 0) (Nat.le_of_eq rfl) (by decide) (by decide) (by decide) (by decide) ?_
      intro v47 T47 L47 X47 Q47
      obtain ⟨rfl, N47q, hh47⟩ := Q47
      have N47 := Fr.app N46 N47q
      show Go _ _ _ _ _ _ _ T47 (mkF m 236 #[.val (.int p0), .val (.int p1), .val (.int p2), .val (.int p3), .val (.int p4), .val (.int p5), .val (.int (3 : Int32)), .val (.long s0), .second, .val (.long s1), .second, .val (.long s2), .second, .val (.ref b28), .val (.int K), .val (.int fi), .val (.int la), .val (.ref b43), .val (.int (0 : Int32)), .val (.int (2 : Int32)), .val (.long ((((0 : Int64) + s0) + s1) + s2)), .second] [(.double (FP.dsub ((updN (updN (updN (fun _ => (0 : UInt64)) 1 (FP.dadd (0 : UInt64) ((updN (updN (updN (fun _ => (0 : UInt64)) 0 (FP.l2d s0)) 1 (FP.l2d s1)) 2 (FP.l2d s2)) 0))) 2 (FP.dadd (FP.dadd (0 : UInt64) ((updN (updN (updN (fun _ => (0 : UInt64)) 0 (FP.l2d s0)) 1 (FP.l2d s1)) 2 (FP.l2d s2)) 0)) ((updN (updN (updN (fun _ => (0 : UInt64)) 0 (FP.l2d s0)) 1 (FP.l2d s1)) 2 (FP.l2d s2)) 1))) 3 (FP.dadd (FP.dadd (FP.dadd (0 : UInt64) ((updN (updN (updN (fun _ => (0 : UInt64)) 0 (FP.l2d s0)) 1 (FP.l2d s1)) 2 (FP.l2d s2)) 0)) ((updN (updN (updN (fun _ => (0 : UInt64)) 0 (FP.l2d s0)) 1 (FP.l2d s1)) 2 (FP.l2d s2)) 1)) ((updN (updN (updN (fun _ => (0 : UInt64)) 0 (FP.l2d s0)) 1 (FP.l2d s1)) 2 (FP.l2d s2)) 2))) 3) ((updN (updN (updN (fun _ => (0 : UInt64)) 1 (FP.dadd (0 : UInt64) ((updN (updN (updN (fun _ => (0 : UInt64)) 0 (FP.l2d s0)) 1 (FP.l2d s1)) 2 (FP.l2d s2)) 0))) 2 (FP.dadd (FP.dadd (0 : UInt64) ((updN (updN (updN (fun _ => (0 : UInt64)) 0 (FP.l2d s0)) 1 (FP.l2d s1)) 2 (FP.l2d s2)) 0)) ((updN (updN (updN (fun _ => (0 : UInt64)) 0 (FP.l2d s0)) 1 (FP.l2d s1)) 2 (FP.l2d s2)) 1))) 3 (FP.dadd (FP.dadd (FP.dadd (0 : UInt64) ((updN (updN (updN (fun _ => (0 : UInt64)) 0 (FP.l2d s0)) 1 (FP.l2d s1)) 2 (FP.l2d s2)) 0)) ((updN (updN (updN (fun _ => (0 : UInt64)) 0 (FP.l2d s0)) 1 (FP.l2d s1)) 2 (FP.l2d s2)) 1)) ((updN (updN (updN (fun _ => (0 : UInt64)) 0 (FP.l2d s0)) 1 (FP.l2d s1)) 2 (FP.l2d s2)) 2))) 0)))])
      refine Go.step (fun _ k => XS.lload X47.here hx rfl (hb hby at_236) rfl k) ?_
      show Go _ _ _ _ _ _ _ T47 (mkF m 238 #[.val (.int p0), .val (.int p1), .val (.int p2), .val (.int p3), .val (.int p4), .val (.int p5), .val (.int (3 : Int32)), .val (.long s0), .second, .val (.long s1), .second, .val (.long s2), .second, .val (.ref b28), .val (.int K), .val (.int fi), .val (.int la), .val (.ref b43), .val (.int (0 : Int32)), .val (.int (2 : Int32)), .val (.long ((((0 : Int64) + s0) + s1) + s2)), .second] [(.long ((((0 : Int64) + s0) + s1) + s2)), (.double (FP.dsub ((updN (updN (updN (fun _ => (0 : UInt64)) 1 (FP.dadd (0 : UInt64) ((updN (updN (updN (fun _ => (0 : UInt64)) 0 (FP.l2d s0)) 1 (FP.l2d s1)) 2 (FP.l2d s2)) 0))) 2 (FP.dadd (FP.dadd (0 : UInt64) ((updN (updN (updN (fun _ => (0 : UInt64)) 0 (FP.l2d s0)) 1 (FP.l2d s1)) 2 (FP.l2d s2)) 0)) ((updN (updN (updN (fun _ => (0 : UInt64)) 0 (FP.l2d s0)) 1 (FP.l2d s1)) 2 (FP.l2d s2)) 1))) 3 (FP.dadd (FP.dadd (FP.dadd (0 : UInt64) ((updN (updN (updN (fun _ => (0 : UInt64)) 0 (FP.l2d s0)) 1 (FP.l2d s1)) 2 (FP.l2d s2)) 0)) ((updN (updN (updN (fun _ => (0 : UInt64)) 0 (FP.l2d s0)) 1 (FP.l2d s1)) 2 (FP.l2d s2)) 1)) ((updN (updN (updN (fun _ => (0 : UInt64)) 0 (FP.l2d s0)) 1 (FP.l2d s1)) 2 (FP.l2d s2)) 2))) 3) ((updN (updN (updN (fun _ => (0 : UInt64)) 1 (FP.dadd (0 : UInt64) ((updN (updN (updN (fun _ => (0 : UInt64)) 0 (FP.l2d s0)) 1 (FP.l2d s1)) 2 (FP.l2d s2)) 0))) 2 (FP.dadd (FP.dadd (0 : UInt64) ((updN (updN (updN (fun _ => (0 : UInt64)) 0 (FP.l2d s0)) 1 (FP.l2d s1)) 2 (FP.l2d s2)) 0)) ((updN (updN (updN (fun _ => (0 : UInt64)) 0 (FP.l2d s0)) 1 (FP.l2d s1)) 2 (FP.l2d s2)) 1))) 3 (FP.dadd (FP.dadd (FP.dadd (0 : UInt64) ((updN (updN (updN (fun _ => (0 : UInt64)) 0 (FP.l2d s0)) 1 (FP.l2d s1)) 2 (FP.l2d s2)) 0)) ((updN (updN (updN (fun _ => (0 : UInt64)) 0 (FP.l2d s0)) 1 (FP.l2d s1)) 2 (FP.l2d s2)) 1)) ((updN (updN (updN (fun _ => (0 : UInt64)) 0 (FP.l2d s0)) 1 (FP.l2d s1)) 2 (FP.l2d s2)) 2))) 0)))])
      refine Go.step (fun _ k => XS.l2dS X47.here hx rfl (hb hby at_238) rfl rfl k) ?_
      show Go _ _ _ _ _ _ _ T47 (mkF m 239 #[.val (.int p0), .val (.int p1), .val (.int p2), .val (.int p3), .val (.int p4), .val (.int p5), .val (.int (3 : Int32)), .val (.long s0), .second, .val (.long s1), .second, .val (.long s2), .second, .val (.ref b28), .val (.int K), .val (.int fi), .val (.int la), .val (.ref b43), .val (.int (0 : Int32)), .val (.int (2 : Int32)), .val (.long ((((0 : Int64) + s0) + s1) + s2)), .second] [(.double (FP.l2d ((((0 : Int64) + s0) + s1) + s2))), (.double (FP.dsub ((updN (updN (updN (fun _ => (0 : UInt64)) 1 (FP.dadd (0 : UInt64) ((updN (updN (updN (fun _ => (0 : UInt64)) 0 (FP.l2d s0)) 1 (FP.l2d s1)) 2 (FP.l2d s2)) 0))) 2 (FP.dadd (FP.dadd (0 : UInt64) ((updN (updN (updN (fun _ => (0 : UInt64)) 0 (FP.l2d s0)) 1 (FP.l2d s1)) 2 (FP.l2d s2)) 0)) ((updN (updN (updN (fun _ => (0 : UInt64)) 0 (FP.l2d s0)) 1 (FP.l2d s1)) 2 (FP.l2d s2)) 1))) 3 (FP.dadd (FP.dadd (FP.dadd (0 : UInt64) ((updN (updN (updN (fun _ => (0 : UInt64)) 0 (FP.l2d s0)) 1 (FP.l2d s1)) 2 (FP.l2d s2)) 0)) ((updN (updN (updN (fun _ => (0 : UInt64)) 0 (FP.l2d s0)) 1 (FP.l2d s1)) 2 (FP.l2d s2)) 1)) ((updN (updN (updN (fun _ => (0 : UInt64)) 0 (FP.l2d s0)) 1 (FP.l2d s1)) 2 (FP.l2d s2)) 2))) 3) ((updN (updN (updN (fun _ => (0 : UInt64)) 1 (FP.dadd (0 : UInt64) ((updN (updN (updN (fun _ => (0 : UInt64)) 0 (FP.l2d s0)) 1 (FP.l2d s1)) 2 (FP.l2d s2)) 0))) 2 (FP.dadd (FP.dadd (0 : UInt64) ((updN (updN (updN (fun _ => (0 : UInt64)) 0 (FP.l2d s0)) 1 (FP.l2d s1)) 2 (FP.l2d s2)) 0)) ((updN (updN (updN (fun _ => (0 : UInt64)) 0 (FP.l2d s0)) 1 (FP.l2d s1)) 2 (FP.l2d s2)) 1))) 3 (FP.dadd (FP.dadd (FP.dadd (0 : UInt64) ((updN (updN (updN (fun _ => (0 : UInt64)) 0 (FP.l2d s0)) 1 (FP.l2d s1)) 2 (FP.l2d s2)) 0)) ((updN (updN (updN (fun _ => (0 : UInt64)) 0 (FP.l2d s0)) 1 (FP.l2d s1)) 2 (FP.l2d s2)) 1)) ((updN (updN (updN (fun _ => (0 : UInt64)) 0 (FP.l2d s0)) 1 (FP.l2d s1)) 2 (FP.l2d s2)) 2))) 0)))])
      refine Go.step (fun _ k => XS.dcmpS X47.here hx rfl (hb hby at_239) rfl rfl k) ?_
      show Go _ _ _ _ _ _ _ T47 (mkF m 240 #[.val (.int p0), .val (.int p1), .val (.int p2), .val (.int p3), .val (.int p4), .val (.int p5), .val (.int (3 : Int32)), .val (.long s0), .second, .val (.long s1), .second, .val (.long s2), .second, .val (.ref b28), .val (.int K), .val (.int fi), .val (.int la), .val (.ref b43), .val (.int (0 : Int32)), .val (.int (2 : Int32)), .val (.long ((((0 : Int64) + s0) + s1) + s2)), .second] [(.int (cmpValue (FP.dcmp (FP.dsub ((updN (updN (updN (fun _ => (0 : UInt64)) 1 (FP.dadd (0 : UInt64) ((updN (updN (updN (fun _ => (0 : UInt64)) 0 (FP.l2d s0)) 1 (FP.l2d s1)) 2 (FP.l2d s2)) 0))) 2 (FP.dadd (FP.dadd (0 : UInt64) ((updN (updN (updN (fun _ => (0 : UInt64)) 0 (FP.l2d s0)) 1 (FP.l2d s1)) 2 (FP.l2d s2)) 0)) ((updN (updN (updN (fun _ => (0 : UInt64)) 0 (FP.l2d s0)) 1 (FP.l2d s1)) 2 (FP.l2d s2)) 1))) 3 (FP.dadd (FP.dadd (FP.dadd (0 : UInt64) ((updN (updN (updN (fun _ => (0 : UInt64)) 0 (FP.l2d s0)) 1 (FP.l2d s1)) 2 (FP.l2d s2)) 0)) ((updN (updN (updN (fun _ => (0 : UInt64)) 0 (FP.l2d s0)) 1 (FP.l2d s1)) 2 (FP.l2d s2)) 1)) ((updN (updN (updN (fun _ => (0 : UInt64)) 0 (FP.l2d s0)) 1 (FP.l2d s1)) 2 (FP.l2d s2)) 2))) 3) ((updN (updN (updN (fun _ => (0 : UInt64)) 1 (FP.dadd (0 : UInt64) ((updN (updN (updN (fun _ => (0 : UInt64)) 0 (FP.l2d s0)) 1 (FP.l2d s1)) 2 (FP.l2d s2)) 0))) 2 (FP.dadd (FP.dadd (0 : UInt64) ((updN (updN (updN (fun _ => (0 : UInt64)) 0 (FP.l2d s0)) 1 (FP.l2d s1)) 2 (FP.l2d s2)) 0)) ((updN (updN (updN (fun _ => (0 : UInt64)) 0 (FP.l2d s0)) 1 (FP.l2d s1)) 2 (FP.l2d s2)) 1))) 3 (FP.dadd (FP.dadd (FP.dadd (0 : UInt64) ((updN (updN (updN (fun _ => (0 : UInt64)) 0 (FP.l2d s0)) 1 (FP.l2d s1)) 2 (FP.l2d s2)) 0)) ((updN (updN (updN (fun _ => (0 : UInt64)) 0 (FP.l2d s0)) 1 (FP.l2d s1)) 2 (FP.l2d s2)) 1)) ((updN (updN (updN (fun _ => (0 : UInt64)) 0 (FP.l2d s0)) 1 (FP.l2d s1)) 2 (FP.l2d s2)) 2))) 0)) (FP.l2d ((((0 : Int64) + s0) + s1) + s2))) .l))])
      refine Go.step (fun _ k => XS.ifNo X47.here hx rfl (hb hby at_240) rfl (eq_y .l hAt).1 k) ?_
      show Go _ _ _ _ _ _ _ T47 (mkF m 243 #[.val (.int p0), .val (.int p1), .val (.int p2), .val (.int p3), .val (.int p4), .val (.int p5), .val (.int (3 : Int32)), .val (.long s0), .second, .val (.long s1), .second, .val (.long s2), .second, .val (.ref b28), .val (.int K), .val (.int fi), .val (.int la), .val (.ref b43), .val (.int (0 : Int32)), .val (.int (2 : Int32)), .val (.long ((((0 : Int64) + s0) + s1) + s2)), .second] [])
      refine Go.step (fun _ k => XS.iconst X47.here hx rfl (hb hby at_243) k) ?_
      show Go _ _ _ _ _ _ _ T47 (mkF m 244 #[.val (.int p0), .val (.int p1), .val (.int p2), .val (.int p3), .val (.int p4), .val (.int p5), .val (.int (3 : Int32)), .val (.long s0), .second, .val (.long s1), .second, .val (.long s2), .second, .val (.ref b28), .val (.int K), .val (.int fi), .val (.int la), .val (.ref b43), .val (.int (0 : Int32)), .val (.int (2 : Int32)), .val (.long ((((0 : Int64) + s0) + s1) + s2)), .second] [(.int (1 : Int32))])
      refine Go.step (fun _ k => XS.goto X47.here hx rfl (pc0 := 244) (pc' := 248) rfl (hb hby at_244) (by decide) (by decide) k) ?_
      show Go _ _ _ _ _ _ _ T47 (mkF m 248 #[.val (.int p0), .val (.int p1), .val (.int p2), .val (.int p3), .val (.int p4), .val (.int p5), .val (.int (3 : Int32)), .val (.long s0), .second, .val (.long s1), .second, .val (.long s2), .second, .val (.ref b28), .val (.int K), .val (.int fi), .val (.int la), .val (.ref b43), .val (.int (0 : Int32)), .val (.int (2 : Int32)), .val (.long ((((0 : Int64) + s0) + s1) + s2)), .second] [(.int (1 : Int32))])
      refine Go.retZ X47 hx hlk hret (by decide) (hb hby at_248) (by decide) (by decide) ?_
      try rw [hh47]
      exact ⟨rfl, N47⟩
    · show Go _ _ _ _ _ _ _ T32 (mkF m 139 #[.val (.int p0), .val (.int p1), .val (.int p2), .val (.int p3), .val (.int p4), .val (.int p5), .val (.int (3 : Int32)), .val (.long s0), .second, .val (.long s1), .second, .val (.long s2), .second, .val (.ref b28), .val (.int K), .val (.int fi), .val (.int la), .unset, .unset, .unset, .unset, .unset] [])
      obtain ⟨T48, h48, X48, e48, E48, A48, D48, -, st48⟩ := newO X32 hx hZ hown (hw _ (List.mem_of_getElem? (i := 7) rfl)) (hw _ (List.mem_of_getElem? (i := 8) rfl)) (hw _ (List.mem_of_getElem? (i := 9) rfl)) hh32 (g := (mkF m 139 #[.val (.int p0), .val (.int p1), .val (.int p2), .val (.int p3), .val (.int p4), .val (.int p5), .val (.int (3 : Int32)), .val (.long s0), .second, .val (.long s1), .second, .val (.long s2), .second, .val (.ref b28), .val (.int K), .val (.int fi), .val (.int la), .unset, .unset, .unset, .unset, .unset] [])) rfl (hb hby at_139) (by decide) (by decide)
      obtain ⟨b48, g48⟩ : ∃ z, z = h31.size := ⟨_, rfl⟩
      rw [← g48] at A48 D48 st48
      refine Go.step st48 ?_
      have K48 : Keep h0 h48 [] := K31.ext E48
      have sz_b48 : h0.size ≤ b48 := Nat.le_trans (K31 : Keep h0 h31 []).1 (Nat.le_of_eq g48.symm)
      have ge_b48 : n0 ≤ b48 := Nat.le_trans Z0 sz_b48
      have ne_b28_b48 : b28 ≠ b48 := Nat.ne_of_lt (Nat.lt_of_lt_of_le V_b28_31.lt (Nat.le_of_eq g48.symm))
      have V_b28_48 := V_b28_31.ext E48
      have E_b28_48 := E_b28_31.ext E48
      have E_b48 := A48
      have F_keyGroups_b48 : Fld Z h48 b48 "tidewatch/decision/KeyGroupCeiling" "keyGroups" "I" (.int (0 : Int32)) := D48 (Or.inr (hw _ (List.mem_of_getElem? (i := 17) rfl))) (ty := .int) (by decide)
      have F_shares_b48 : Fld Z h48 b48 "tidewatch/decision/KeyGroupCeiling" "shares" "[D" .null := D48 (Or.inr (hw _ (List.mem_of_getElem? (i := 28) rfl))) (ty := (.array .double)) (by decide)
      have F_before_b48 : Fld Z h48 b48 "tidewatch/decision/KeyGroupCeiling" "before" "[D" .null := D48 (Or.inr (hw _ (List.mem_of_getElem? (i := 30) rfl))) (ty := (.array .double)) (by decide)
      show Go _ _ _ _ _ _ _ T48 (mkF m 142 #[.val (.int p0), .val (.int p1), .val (.int p2), .val (.int p3), .val (.int p4), .val (.int p5), .val (.int (3 : Int32)), .val (.long s0), .second, .val (.long s1), .second, .val (.long s2), .second, .val (.ref b28), .val (.int K), .val (.int fi), .val (.int la), .unset, .unset, .unset, .unset, .unset] [(.ref b48)])
      refine Go.step (fun _ k => XS.dup X48.here hx rfl (hb hby at_142) rfl rfl k) ?_
      show Go _ _ _ _ _ _ _ T48 (mkF m 143 #[.val (.int p0), .val (.int p1), .val (.int p2), .val (.int p3), .val (.int p4), .val (.int p5), .val (.int (3 : Int32)), .val (.long s0), .second, .val (.long s1), .second, .val (.long s2), .second, .val (.ref b28), .val (.int K), .val (.int fi), .val (.int la), .unset, .unset, .unset, .unset, .unset] [(.ref b48), (.ref b48)])
      refine Go.step (fun _ k => XS.iload X48.here hx rfl (hb hby at_143) rfl k) ?_
      show Go _ _ _ _ _ _ _ T48 (mkF m 145 #[.val (.int p0), .val (.int p1), .val (.int p2), .val (.int p3), .val (.int p4), .val (.int p5), .val (.int (3 : Int32)), .val (.long s0), .second, .val (.long s1), .second, .val (.long s2), .second, .val (.ref b28), .val (.int K), .val (.int fi), .val (.int la), .unset, .unset, .unset, .unset, .unset] [(.int K), (.ref b48), (.ref b48)])
      refine Go.step (fun _ k => XS.aload X48.here hx rfl (hb hby at_145) rfl rfl k) ?_
      show Go _ _ _ _ _ _ _ T48 (mkF m 147 #[.val (.int p0), .val (.int p1), .val (.int p2), .val (.int p3), .val (.int p4), .val (.int p5), .val (.int (3 : Int32)), .val (.long s0), .second, .val (.long s1), .second, .val (.long s2), .second, .val (.ref b28), .val (.int K), .val (.int fi), .val (.int la), .unset, .unset, .unset, .unset, .unset] [(.ref b28), (.int K), (.ref b48), (.ref b48)])
      refine Go.callI X48 hx hZ (by rw [hml]; rfl) (y := (⟨"tidewatch/decision/KeyGroupCeiling", "<init>", "(I[D)V"⟩ : MethodName)) (a := b48) (argsL := [(.int K), (.ref b28)]) (rest := [(.ref b48)]) rfl hown (hw _ (List.mem_of_getElem? (i := 10) rfl)) (hw _ (List.mem_of_getElem? (i := 11) rfl)) (hw _ (List.mem_of_getElem? (i := 9) rfl)) (hw _ (List.mem_of_getElem? (i := 12) rfl)) (by decide) (rm2_3 l Z a0 hw b48 b28 K (updN (updN (updN (fun _ => (0 : UInt64)) 0 (FP.l2d s0)) 1 (FP.l2d s1)) 2 (FP.l2d s2)) h48 n0 (Nat.le_trans Z0 (K48 : Keep h0 h48 []).1) E_b48 F_keyGroups_b48 F_shares_b48 F_before_b48 E_b28_48 V_b28_48 ge_b48 (Ne.symm ne_b28_b48) hK.1 (fun i hi' => by rcases (by omega : i = 0 ∨ i = 1 ∨ i = 2) with rfl | rfl | rfl; exact Jvm.Free.Fl.l2d_fin _; exact Jvm.Free.Fl.l2d_fin _; exact Jvm.Free.Fl.l2d_fin _) (fun i hi' => by rcases (by omega : i = 0 ∨ i = 1 ∨ i = 2) with rfl | rfl | rfl; exact own_nneg hs0; exact own_nneg hs1; exact own_nneg hs2)) e48 (hb hby at_147) (lenOf pd_4 rfl) rfl rfl (W := 1) (Nat.le_of_eq rfl) (by decide) (by decide) (by decide) (by decide) ?_
      intro v49 T49 L49 X49 Q49
      obtain ⟨rfl, N49q, Kc49, Ec49, Fk49, c49, d49, Fc49, Fd49, Vc49, Vd49, sc49, sd49, ncd49⟩ := Q49
      have N49 := Fr.app N32 N49q
      have ne_b28_c49 : b28 ≠ c49 := Nat.ne_of_lt (Nat.lt_of_lt_of_le V_b28_48.lt sc49)
      have ne_b28_d49 : b28 ≠ d49 := Nat.ne_of_lt (Nat.lt_of_lt_of_le V_b28_48.lt sd49)
      have V_b28_49 := V_b28_48.keep Kc49 (ninS ne_b28_b48 nin0)
      have E_b28_49 := E_b28_48.keep Kc49
      have E_b48_49 := E_b48.keep Kc49
      have KK49 : Keep h0 T49.heap [] := (K48 : Keep h0 h48 []).trans Kc49 (allS (Or.inr sz_b48) all0)
      show Go _ _ _ _ _ _ _ T49 (mkF m 150 #[.val (.int p0), .val (.int p1), .val (.int p2), .val (.int p3), .val (.int p4), .val (.int p5), .val (.int (3 : Int32)), .val (.long s0), .second, .val (.long s1), .second, .val (.long s2), .second, .val (.ref b28), .val (.int K), .val (.int fi), .val (.int la), .unset, .unset, .unset, .unset, .unset] [(.ref b48)])
      refine Go.step (fun _ k => XS.astore X49.here hx rfl (hb hby at_150) rfl rfl (l' := #[.val (.int p0), .val (.int p1), .val (.int p2), .val (.int p3), .val (.int p4), .val (.int p5), .val (.int (3 : Int32)), .val (.long s0), .second, .val (.long s1), .second, .val (.long s2), .second, .val (.ref b28), .val (.int K), .val (.int fi), .val (.int la), .val (.ref b48), .unset, .unset, .unset, .unset]) rfl k) ?_
      show Go _ _ _ _ _ _ _ T49 (mkF m 152 #[.val (.int p0), .val (.int p1), .val (.int p2), .val (.int p3), .val (.int p4), .val (.int p5), .val (.int (3 : Int32)), .val (.long s0), .second, .val (.long s1), .second, .val (.long s2), .second, .val (.ref b28), .val (.int K), .val (.int fi), .val (.int la), .val (.ref b48), .unset, .unset, .unset, .unset] [])
      refine Go.step (fun _ k => XS.iload X49.here hx rfl (hb hby at_152) rfl k) ?_
      show Go _ _ _ _ _ _ _ T49 (mkF m 154 #[.val (.int p0), .val (.int p1), .val (.int p2), .val (.int p3), .val (.int p4), .val (.int p5), .val (.int (3 : Int32)), .val (.long s0), .second, .val (.long s1), .second, .val (.long s2), .second, .val (.ref b28), .val (.int K), .val (.int fi), .val (.int la), .val (.ref b48), .unset, .unset, .unset, .unset] [(.int fi)])
      refine Go.step (fun _ k => XS.iload X49.here hx rfl (hb hby at_154) rfl k) ?_
      show Go _ _ _ _ _ _ _ T49 (mkF m 156 #[.val (.int p0), .val (.int p1), .val (.int p2), .val (.int p3), .val (.int p4), .val (.int p5), .val (.int (3 : Int32)), .val (.long s0), .second, .val (.long s1), .second, .val (.long s2), .second, .val (.ref b28), .val (.int K), .val (.int fi), .val (.int la), .val (.ref b48), .unset, .unset, .unset, .unset] [(.int (3 : Int32)), (.int fi)])
      refine Go.step (fun _ k => XS.iload X49.here hx rfl (hb hby at_156) rfl k) ?_
      show Go _ _ _ _ _ _ _ T49 (mkF m 158 #[.val (.int p0), .val (.int p1), .val (.int p2), .val (.int p3), .val (.int p4), .val (.int p5), .val (.int (3 : Int32)), .val (.long s0), .second, .val (.long s1), .second, .val (.long s2), .second, .val (.ref b28), .val (.int K), .val (.int fi), .val (.int la), .val (.ref b48), .unset, .unset, .unset, .unset] [(.int K), (.int (3 : Int32)), (.int fi)])
      refine Go.callS X49 hx hZ (by rw [hml]; rfl) (y := (⟨"tidewatch/decision/KeyGroupCeilingAtMostPinLaw", "ownerRef", "(III)I"⟩ : MethodName)) (argsL := [(.int fi), (.int (3 : Int32)), (.int K)]) (rest := []) hown (hw _ (List.mem_of_getElem? (i := 39) rfl)) (hw _ (List.mem_of_getElem? (i := 40) rfl)) (hw _ (List.mem_of_getElem? (i := 41) rfl)) (hw _ (List.mem_of_getElem? (i := 42) rfl)) (by decide) (rm6_3 l Z a0 hw fi K T49.heap n0 (Nat.le_trans Z0 (KK49 : Keep h0 T49.heap []).1)) rfl (hb hby at_158) (lenOf pd_5 rfl) rfl rfl (W := 0) (Nat.le_of_eq rfl) (by decide) (by decide) (by decide) (by decide) ?_
      intro v50 T50 L50 X50 Q50
      rw [ho1.1] at Q50
      obtain ⟨rfl, N50q, hh50⟩ := Q50
      have N50 := Fr.app N49 N50q
      show Go _ _ _ _ _ _ _ T50 (mkF m 161 #[.val (.int p0), .val (.int p1), .val (.int p2), .val (.int p3), .val (.int p4), .val (.int p5), .val (.int (3 : Int32)), .val (.long s0), .second, .val (.long s1), .second, .val (.long s2), .second, .val (.ref b28), .val (.int K), .val (.int fi), .val (.int la), .val (.ref b48), .unset, .unset, .unset, .unset] [(.int (1 : Int32))])
      refine Go.step (fun _ k => XS.istore X50.here hx rfl (hb hby at_161) rfl (l' := #[.val (.int p0), .val (.int p1), .val (.int p2), .val (.int p3), .val (.int p4), .val (.int p5), .val (.int (3 : Int32)), .val (.long s0), .second, .val (.long s1), .second, .val (.long s2), .second, .val (.ref b28), .val (.int K), .val (.int fi), .val (.int la), .val (.ref b48), .val (.int (1 : Int32)), .unset, .unset, .unset]) rfl k) ?_
      show Go _ _ _ _ _ _ _ T50 (mkF m 163 #[.val (.int p0), .val (.int p1), .val (.int p2), .val (.int p3), .val (.int p4), .val (.int p5), .val (.int (3 : Int32)), .val (.long s0), .second, .val (.long s1), .second, .val (.long s2), .second, .val (.ref b28), .val (.int K), .val (.int fi), .val (.int la), .val (.ref b48), .val (.int (1 : Int32)), .unset, .unset, .unset] [])
      refine Go.step (fun _ k => XS.iload X50.here hx rfl (hb hby at_163) rfl k) ?_
      show Go _ _ _ _ _ _ _ T50 (mkF m 165 #[.val (.int p0), .val (.int p1), .val (.int p2), .val (.int p3), .val (.int p4), .val (.int p5), .val (.int (3 : Int32)), .val (.long s0), .second, .val (.long s1), .second, .val (.long s2), .second, .val (.ref b28), .val (.int K), .val (.int fi), .val (.int la), .val (.ref b48), .val (.int (1 : Int32)), .unset, .unset, .unset] [(.int la)])
      refine Go.step (fun _ k => XS.iload X50.here hx rfl (hb hby at_165) rfl k) ?_
      show Go _ _ _ _ _ _ _ T50 (mkF m 167 #[.val (.int p0), .val (.int p1), .val (.int p2), .val (.int p3), .val (.int p4), .val (.int p5), .val (.int (3 : Int32)), .val (.long s0), .second, .val (.long s1), .second, .val (.long s2), .second, .val (.ref b28), .val (.int K), .val (.int fi), .val (.int la), .val (.ref b48), .val (.int (1 : Int32)), .unset, .unset, .unset] [(.int (3 : Int32)), (.int la)])
      refine Go.step (fun _ k => XS.iload X50.here hx rfl (hb hby at_167) rfl k) ?_
      show Go _ _ _ _ _ _ _ T50 (mkF m 169 #[.val (.int p0), .val (.int p1), .val (.int p2), .val (.int p3), .val (.int p4), .val (.int p5), .val (.int (3 : Int32)), .val (.long s0), .second, .val (.long s1), .second, .val (.long s2), .second, .val (.ref b28), .val (.int K), .val (.int fi), .val (.int la), .val (.ref b48), .val (.int (1 : Int32)), .unset, .unset, .unset] [(.int K), (.int (3 : Int32)), (.int la)])
      refine Go.callS X50 hx hZ (by rw [hml]; rfl) (y := (⟨"tidewatch/decision/KeyGroupCeilingAtMostPinLaw", "ownerRef", "(III)I"⟩ : MethodName)) (argsL := [(.int la), (.int (3 : Int32)), (.int K)]) (rest := []) hown (hw _ (List.mem_of_getElem? (i := 39) rfl)) (hw _ (List.mem_of_getElem? (i := 40) rfl)) (hw _ (List.mem_of_getElem? (i := 41) rfl)) (hw _ (List.mem_of_getElem? (i := 42) rfl)) (by decide) (rm6_3 l Z a0 hw la K T49.heap n0 (Nat.le_trans Z0 (KK49 : Keep h0 T49.heap []).1)) hh50 (hb hby at_169) (lenOf pd_5 rfl) rfl rfl (W := 0) (Nat.le_of_eq rfl) (by decide) (by decide) (by decide) (by decide) ?_
      intro v51 T51 L51 X51 Q51
      rw [ho2.1] at Q51
      obtain ⟨rfl, N51q, hh51⟩ := Q51
      have N51 := Fr.app N50 N51q
      show Go _ _ _ _ _ _ _ T51 (mkF m 172 #[.val (.int p0), .val (.int p1), .val (.int p2), .val (.int p3), .val (.int p4), .val (.int p5), .val (.int (3 : Int32)), .val (.long s0), .second, .val (.long s1), .second, .val (.long s2), .second, .val (.ref b28), .val (.int K), .val (.int fi), .val (.int la), .val (.ref b48), .val (.int (1 : Int32)), .unset, .unset, .unset] [(.int (1 : Int32))])
      refine Go.step (fun _ k => XS.istore X51.here hx rfl (hb hby at_172) rfl (l' := #[.val (.int p0), .val (.int p1), .val (.int p2), .val (.int p3), .val (.int p4), .val (.int p5), .val (.int (3 : Int32)), .val (.long s0), .second, .val (.long s1), .second, .val (.long s2), .second, .val (.ref b28), .val (.int K), .val (.int fi), .val (.int la), .val (.ref b48), .val (.int (1 : Int32)), .val (.int (1 : Int32)), .unset, .unset]) rfl k) ?_
      show Go _ _ _ _ _ _ _ T51 (mkF m 174 #[.val (.int p0), .val (.int p1), .val (.int p2), .val (.int p3), .val (.int p4), .val (.int p5), .val (.int (3 : Int32)), .val (.long s0), .second, .val (.long s1), .second, .val (.long s2), .second, .val (.ref b28), .val (.int K), .val (.int fi), .val (.int la), .val (.ref b48), .val (.int (1 : Int32)), .val (.int (1 : Int32)), .unset, .unset] [])
      refine Go.step (fun _ k => XS.lconst X51.here hx rfl (hb hby at_174) k) ?_
      show Go _ _ _ _ _ _ _ T51 (mkF m 175 #[.val (.int p0), .val (.int p1), .val (.int p2), .val (.int p3), .val (.int p4), .val (.int p5), .val (.int (3 : Int32)), .val (.long s0), .second, .val (.long s1), .second, .val (.long s2), .second, .val (.ref b28), .val (.int K), .val (.int fi), .val (.int la), .val (.ref b48), .val (.int (1 : Int32)), .val (.int (1 : Int32)), .unset, .unset] [(.long (0 : Int64))])
      refine Go.step (fun _ k => XS.lstore X51.here hx rfl (hb hby at_175) rfl (l' := #[.val (.int p0), .val (.int p1), .val (.int p2), .val (.int p3), .val (.int p4), .val (.int p5), .val (.int (3 : Int32)), .val (.long s0), .second, .val (.long s1), .second, .val (.long s2), .second, .val (.ref b28), .val (.int K), .val (.int fi), .val (.int la), .val (.ref b48), .val (.int (1 : Int32)), .val (.int (1 : Int32)), .val (.long (0 : Int64)), .second]) rfl k) ?_
      show Go _ _ _ _ _ _ _ T51 (mkF m 177 #[.val (.int p0), .val (.int p1), .val (.int p2), .val (.int p3), .val (.int p4), .val (.int p5), .val (.int (3 : Int32)), .val (.long s0), .second, .val (.long s1), .second, .val (.long s2), .second, .val (.ref b28), .val (.int K), .val (.int fi), .val (.int la), .val (.ref b48), .val (.int (1 : Int32)), .val (.int (1 : Int32)), .val (.long (0 : Int64)), .second] [])
      refine Go.step (fun _ k => XS.iload X51.here hx rfl (hb hby at_177) rfl k) ?_
      show Go _ _ _ _ _ _ _ T51 (mkF m 179 #[.val (.int p0), .val (.int p1), .val (.int p2), .val (.int p3), .val (.int p4), .val (.int p5), .val (.int (3 : Int32)), .val (.long s0), .second, .val (.long s1), .second, .val (.long s2), .second, .val (.ref b28), .val (.int K), .val (.int fi), .val (.int la), .val (.ref b48), .val (.int (1 : Int32)), .val (.int (1 : Int32)), .val (.long (0 : Int64)), .second] [(.int (1 : Int32))])
      refine Go.step (fun _ k => XS.ifYes X51.here hx rfl (pc0 := 179) (pc' := 189) rfl (hb hby at_179) rfl ((if0 _ _).trans (tlt (by decide : (0 : Int32) < (1 : Int32))).2.2.1) (by decide) (by decide) k) ?_
      show Go _ _ _ _ _ _ _ T51 (mkF m 189 #[.val (.int p0), .val (.int p1), .val (.int p2), .val (.int p3), .val (.int p4), .val (.int p5), .val (.int (3 : Int32)), .val (.long s0), .second, .val (.long s1), .second, .val (.long s2), .second, .val (.ref b28), .val (.int K), .val (.int fi), .val (.int la), .val (.ref b48), .val (.int (1 : Int32)), .val (.int (1 : Int32)), .val (.long (0 : Int64)), .second] [])
      refine Go.step (fun _ k => XS.iload X51.here hx rfl (hb hby at_189) rfl k) ?_
      show Go _ _ _ _ _ _ _ T51 (mkF m 191 #[.val (.int p0), .val (.int p1), .val (.int p2), .val (.int p3), .val (.int p4), .val (.int p5), .val (.int (3 : Int32)), .val (.long s0), .second, .val (.long s1), .second, .val (.long s2), .second, .val (.ref b28), .val (.int K), .val (.int fi), .val (.int la), .val (.ref b48), .val (.int (1 : Int32)), .val (.int (1 : Int32)), .val (.long (0 : Int64)), .second] [(.int (1 : Int32))])
      refine Go.step (fun _ k => XS.iconst X51.here hx rfl (hb hby at_191) k) ?_
      show Go _ _ _ _ _ _ _ T51 (mkF m 192 #[.val (.int p0), .val (.int p1), .val (.int p2), .val (.int p3), .val (.int p4), .val (.int p5), .val (.int (3 : Int32)), .val (.long s0), .second, .val (.long s1), .second, .val (.long s2), .second, .val (.ref b28), .val (.int K), .val (.int fi), .val (.int la), .val (.ref b48), .val (.int (1 : Int32)), .val (.int (1 : Int32)), .val (.long (0 : Int64)), .second] [(.int (1 : Int32)), (.int (1 : Int32))])
      refine Go.step (fun _ k => XS.icmpNo X51.here hx rfl (hb hby at_192) rfl (flt (by decide : ¬ ((1 : Int32) < (1 : Int32)))).2.2.1 k) ?_
      show Go _ _ _ _ _ _ _ T51 (mkF m 195 #[.val (.int p0), .val (.int p1), .val (.int p2), .val (.int p3), .val (.int p4), .val (.int p5), .val (.int (3 : Int32)), .val (.long s0), .second, .val (.long s1), .second, .val (.long s2), .second, .val (.ref b28), .val (.int K), .val (.int fi), .val (.int la), .val (.ref b48), .val (.int (1 : Int32)), .val (.int (1 : Int32)), .val (.long (0 : Int64)), .second] [])
      refine Go.step (fun _ k => XS.iload X51.here hx rfl (hb hby at_195) rfl k) ?_
      show Go _ _ _ _ _ _ _ T51 (mkF m 197 #[.val (.int p0), .val (.int p1), .val (.int p2), .val (.int p3), .val (.int p4), .val (.int p5), .val (.int (3 : Int32)), .val (.long s0), .second, .val (.long s1), .second, .val (.long s2), .second, .val (.ref b28), .val (.int K), .val (.int fi), .val (.int la), .val (.ref b48), .val (.int (1 : Int32)), .val (.int (1 : Int32)), .val (.long (0 : Int64)), .second] [(.int (1 : Int32))])
      refine Go.step (fun _ k => XS.iconst X51.here hx rfl (hb hby at_197) k) ?_
      show Go _ _ _ _ _ _ _ T51 (mkF m 198 #[.val (.int p0), .val (.int p1), .val (.int p2), .val (.int p3), .val (.int p4), .val (.int p5), .val (.int (3 : Int32)), .val (.long s0), .second, .val (.long s1), .second, .val (.long s2), .second, .val (.ref b28), .val (.int K), .val (.int fi), .val (.int la), .val (.ref b48), .val (.int (1 : Int32)), .val (.int (1 : Int32)), .val (.long (0 : Int64)), .second] [(.int (1 : Int32)), (.int (1 : Int32))])
      refine Go.step (fun _ k => XS.icmpNo X51.here hx rfl (hb hby at_198) rfl (flt (by decide : ¬ ((1 : Int32) < (1 : Int32)))).1 k) ?_
      show Go _ _ _ _ _ _ _ T51 (mkF m 201 #[.val (.int p0), .val (.int p1), .val (.int p2), .val (.int p3), .val (.int p4), .val (.int p5), .val (.int (3 : Int32)), .val (.long s0), .second, .val (.long s1), .second, .val (.long s2), .second, .val (.ref b28), .val (.int K), .val (.int fi), .val (.int la), .val (.ref b48), .val (.int (1 : Int32)), .val (.int (1 : Int32)), .val (.long (0 : Int64)), .second] [])
      refine Go.step (fun _ k => XS.lload X51.here hx rfl (hb hby at_201) rfl k) ?_
      show Go _ _ _ _ _ _ _ T51 (mkF m 203 #[.val (.int p0), .val (.int p1), .val (.int p2), .val (.int p3), .val (.int p4), .val (.int p5), .val (.int (3 : Int32)), .val (.long s0), .second, .val (.long s1), .second, .val (.long s2), .second, .val (.ref b28), .val (.int K), .val (.int fi), .val (.int la), .val (.ref b48), .val (.int (1 : Int32)), .val (.int (1 : Int32)), .val (.long (0 : Int64)), .second] [(.long (0 : Int64))])
      refine Go.step (fun _ k => XS.lload X51.here hx rfl (hb hby at_203) rfl k) ?_
      show Go _ _ _ _ _ _ _ T51 (mkF m 205 #[.val (.int p0), .val (.int p1), .val (.int p2), .val (.int p3), .val (.int p4), .val (.int p5), .val (.int (3 : Int32)), .val (.long s0), .second, .val (.long s1), .second, .val (.long s2), .second, .val (.ref b28), .val (.int K), .val (.int fi), .val (.int la), .val (.ref b48), .val (.int (1 : Int32)), .val (.int (1 : Int32)), .val (.long (0 : Int64)), .second] [(.long s1), (.long (0 : Int64))])
      refine Go.step (fun _ k => XS.ladd X51.here hx rfl (hb hby at_205) rfl k) ?_
      show Go _ _ _ _ _ _ _ T51 (mkF m 206 #[.val (.int p0), .val (.int p1), .val (.int p2), .val (.int p3), .val (.int p4), .val (.int p5), .val (.int (3 : Int32)), .val (.long s0), .second, .val (.long s1), .second, .val (.long s2), .second, .val (.ref b28), .val (.int K), .val (.int fi), .val (.int la), .val (.ref b48), .val (.int (1 : Int32)), .val (.int (1 : Int32)), .val (.long (0 : Int64)), .second] [(.long ((0 : Int64) + s1))])
      refine Go.step (fun _ k => XS.lstore X51.here hx rfl (hb hby at_206) rfl (l' := #[.val (.int p0), .val (.int p1), .val (.int p2), .val (.int p3), .val (.int p4), .val (.int p5), .val (.int (3 : Int32)), .val (.long s0), .second, .val (.long s1), .second, .val (.long s2), .second, .val (.ref b28), .val (.int K), .val (.int fi), .val (.int la), .val (.ref b48), .val (.int (1 : Int32)), .val (.int (1 : Int32)), .val (.long ((0 : Int64) + s1)), .second]) rfl k) ?_
      show Go _ _ _ _ _ _ _ T51 (mkF m 208 #[.val (.int p0), .val (.int p1), .val (.int p2), .val (.int p3), .val (.int p4), .val (.int p5), .val (.int (3 : Int32)), .val (.long s0), .second, .val (.long s1), .second, .val (.long s2), .second, .val (.ref b28), .val (.int K), .val (.int fi), .val (.int la), .val (.ref b48), .val (.int (1 : Int32)), .val (.int (1 : Int32)), .val (.long ((0 : Int64) + s1)), .second] [])
      refine Go.step (fun _ k => XS.iload X51.here hx rfl (hb hby at_208) rfl k) ?_
      show Go _ _ _ _ _ _ _ T51 (mkF m 210 #[.val (.int p0), .val (.int p1), .val (.int p2), .val (.int p3), .val (.int p4), .val (.int p5), .val (.int (3 : Int32)), .val (.long s0), .second, .val (.long s1), .second, .val (.long s2), .second, .val (.ref b28), .val (.int K), .val (.int fi), .val (.int la), .val (.ref b48), .val (.int (1 : Int32)), .val (.int (1 : Int32)), .val (.long ((0 : Int64) + s1)), .second] [(.int (1 : Int32))])
      refine Go.step (fun _ k => XS.iconst X51.here hx rfl (hb hby at_210) k) ?_
      show Go _ _ _ _ _ _ _ T51 (mkF m 211 #[.val (.int p0), .val (.int p1), .val (.int p2), .val (.int p3), .val (.int p4), .val (.int p5), .val (.int (3 : Int32)), .val (.long s0), .second, .val (.long s1), .second, .val (.long s2), .second, .val (.ref b28), .val (.int K), .val (.int fi), .val (.int la), .val (.ref b48), .val (.int (1 : Int32)), .val (.int (1 : Int32)), .val (.long ((0 : Int64) + s1)), .second] [(.int (2 : Int32)), (.int (1 : Int32))])
      refine Go.step (fun _ k => XS.icmpNo X51.here hx rfl (hb hby at_211) rfl (flt (by decide : ¬ ((2 : Int32) < (1 : Int32)))).2.2.1 k) ?_
      show Go _ _ _ _ _ _ _ T51 (mkF m 214 #[.val (.int p0), .val (.int p1), .val (.int p2), .val (.int p3), .val (.int p4), .val (.int p5), .val (.int (3 : Int32)), .val (.long s0), .second, .val (.long s1), .second, .val (.long s2), .second, .val (.ref b28), .val (.int K), .val (.int fi), .val (.int la), .val (.ref b48), .val (.int (1 : Int32)), .val (.int (1 : Int32)), .val (.long ((0 : Int64) + s1)), .second] [])
      refine Go.step (fun _ k => XS.iload X51.here hx rfl (hb hby at_214) rfl k) ?_
      show Go _ _ _ _ _ _ _ T51 (mkF m 216 #[.val (.int p0), .val (.int p1), .val (.int p2), .val (.int p3), .val (.int p4), .val (.int p5), .val (.int (3 : Int32)), .val (.long s0), .second, .val (.long s1), .second, .val (.long s2), .second, .val (.ref b28), .val (.int K), .val (.int fi), .val (.int la), .val (.ref b48), .val (.int (1 : Int32)), .val (.int (1 : Int32)), .val (.long ((0 : Int64) + s1)), .second] [(.int (1 : Int32))])
      refine Go.step (fun _ k => XS.iconst X51.here hx rfl (hb hby at_216) k) ?_
      show Go _ _ _ _ _ _ _ T51 (mkF m 217 #[.val (.int p0), .val (.int p1), .val (.int p2), .val (.int p3), .val (.int p4), .val (.int p5), .val (.int (3 : Int32)), .val (.long s0), .second, .val (.long s1), .second, .val (.long s2), .second, .val (.ref b28), .val (.int K), .val (.int fi), .val (.int la), .val (.ref b48), .val (.int (1 : Int32)), .val (.int (1 : Int32)), .val (.long ((0 : Int64) + s1)), .second] [(.int (2 : Int32)), (.int (1 : Int32))])
      refine Go.step (fun _ k => XS.icmpYes X51.here hx rfl (pc0 := 217) (pc' := 227) rfl (hb hby at_217) rfl (tlt (by decide : (1 : Int32) < (2 : Int32))).1 (by decide) (by decide) k) ?_
      have hAt : FP.dcmp (FP.dsub ((updN (updN (updN (fun _ => (0 : UInt64)) 1 (FP.dadd (0 : UInt64) ((updN (updN (updN (fun _ => (0 : UInt64)) 0 (FP.l2d s0)) 1 (FP.l2d s1)) 2 (FP.l2d s2)) 0))) 2 (FP.dadd (FP.dadd (0 : UInt64) ((updN (updN (updN (fun _ => (0 : UInt64)) 0 (FP.l2d s0)) 1 (FP.l2d s1)) 2 (FP.l2d s2)) 0)) ((updN (updN (updN (fun _ => (0 : UInt64)) 0 (FP.l2d s0)) 1 (FP.l2d s1)) 2 (FP.l2d s2)) 1))) 3 (FP.dadd (FP.dadd (FP.dadd (0 : UInt64) ((updN (updN (updN (fun _ => (0 : UInt64)) 0 (FP.l2d s0)) 1 (FP.l2d s1)) 2 (FP.l2d s2)) 0)) ((updN (updN (updN (fun _ => (0 : UInt64)) 0 (FP.l2d s0)) 1 (FP.l2d s1)) 2 (FP.l2d s2)) 1)) ((updN (updN (updN (fun _ => (0 : UInt64)) 0 (FP.l2d s0)) 1 (FP.l2d s1)) 2 (FP.l2d s2)) 2))) 2) ((updN (updN (updN (fun _ => (0 : UInt64)) 1 (FP.dadd (0 : UInt64) ((updN (updN (updN (fun _ => (0 : UInt64)) 0 (FP.l2d s0)) 1 (FP.l2d s1)) 2 (FP.l2d s2)) 0))) 2 (FP.dadd (FP.dadd (0 : UInt64) ((updN (updN (updN (fun _ => (0 : UInt64)) 0 (FP.l2d s0)) 1 (FP.l2d s1)) 2 (FP.l2d s2)) 0)) ((updN (updN (updN (fun _ => (0 : UInt64)) 0 (FP.l2d s0)) 1 (FP.l2d s1)) 2 (FP.l2d s2)) 1))) 3 (FP.dadd (FP.dadd (FP.dadd (0 : UInt64) ((updN (updN (updN (fun _ => (0 : UInt64)) 0 (FP.l2d s0)) 1 (FP.l2d s1)) 2 (FP.l2d s2)) 0)) ((updN (updN (updN (fun _ => (0 : UInt64)) 0 (FP.l2d s0)) 1 (FP.l2d s1)) 2 (FP.l2d s2)) 1)) ((updN (updN (updN (fun _ => (0 : UInt64)) 0 (FP.l2d s0)) 1 (FP.l2d s1)) 2 (FP.l2d s2)) 2))) 1)) (FP.l2d ((0 : Int64) + s1)) = some .eq := by
        have t0 := hs0.1; have t1 := hs0.2; have t2 := hs1.1; have t3 := hs1.2; have t4 := hs2.1; have t5 := hs2.2
        have e1 := own_sum (a := s0) (b := s1) t0 (by omega) hs1
        have e2 := own_sum (a := s0 + s1) (b := s2) (by omega) (by omega) hs2
        have hd : (s0 + s1) - s0 = ((0 : Int64) + s1) := own_eq64 (by
          have := c_ladd s0 s1
          have := c_ladd (s0 + s1) s2
          have := c_ladd (0 : Int64) s1
          have := c_lsub (s0 + s1) s0
          have : (0 : Int64).toInt = 0 := rfl
          omega)
        exact own_at (a := (s0 + s1)) (b := s0) (own_d2 hs0 hs1) (own_d1 hs0) (by first | omega | decide) (by first | omega | decide) (by first | omega | decide) (by first | omega | decide) hd
      show Go _ _ _ _ _ _ _ T51 (mkF m 227 #[.val (.int p0), .val (.int p1), .val (.int p2), .val (.int p3), .val (.int p4), .val (.int p5), .val (.int (3 : Int32)), .val (.long s0), .second, .val (.long s1), .second, .val (.long s2), .second, .val (.ref b28), .val (.int K), .val (.int fi), .val (.int la), .val (.ref b48), .val (.int (1 : Int32)), .val (.int (1 : Int32)), .val (.long ((0 : Int64) + s1)), .second] [])
      refine Go.step (fun _ k => XS.aload X51.here hx rfl (hb hby at_227) rfl rfl k) ?_
      show Go _ _ _ _ _ _ _ T51 (mkF m 229 #[.val (.int p0), .val (.int p1), .val (.int p2), .val (.int p3), .val (.int p4), .val (.int p5), .val (.int (3 : Int32)), .val (.long s0), .second, .val (.long s1), .second, .val (.long s2), .second, .val (.ref b28), .val (.int K), .val (.int fi), .val (.int la), .val (.ref b48), .val (.int (1 : Int32)), .val (.int (1 : Int32)), .val (.long ((0 : Int64) + s1)), .second] [(.ref b48)])
      refine Go.step (fun _ k => XS.iload X51.here hx rfl (hb hby at_229) rfl k) ?_
      show Go _ _ _ _ _ _ _ T51 (mkF m 231 #[.val (.int p0), .val (.int p1), .val (.int p2), .val (.int p3), .val (.int p4), .val (.int p5), .val (.int (3 : Int32)), .val (.long s0), .second, .val (.long s1), .second, .val (.long s2), .second, .val (.ref b28), .val (.int K), .val (.int fi), .val (.int la), .val (.ref b48), .val (.int (1 : Int32)), .val (.int (1 : Int32)), .val (.long ((0 : Int64) + s1)), .second] [(.int fi), (.ref b48)])
      refine Go.step (fun _ k => XS.iload X51.here hx rfl (hb hby at_231) rfl k) ?_
      show Go _ _ _ _ _ _ _ T51 (mkF m 233 #[.val (.int p0), .val (.int p1), .val (.int p2), .val (.int p3), .val (.int p4), .val (.int p5), .val (.int (3 : Int32)), .val (.long s0), .second, .val (.long s1), .second, .val (.long s2), .second, .val (.ref b28), .val (.int K), .val (.int fi), .val (.int la), .val (.ref b48), .val (.int (1 : Int32)), .val (.int (1 : Int32)), .val (.long ((0 : Int64) + s1)), .second] [(.int la), (.int fi), (.ref b48)])
      refine Go.callV X51 hx hZ (by rw [hml]; rfl) (y := (⟨"tidewatch/decision/KeyGroupCeiling", "atMost", "(II)D"⟩ : MethodName)) (z := (⟨"tidewatch/decision/KeyGroupCeiling", "atMost", "(II)D"⟩ : MethodName)) (a := b48) (argsL := [(.int fi), (.int la)]) (rest := []) hown (hw _ (List.mem_of_getElem? (i := 44) rfl)) (hw _ (List.mem_of_getElem? (i := 45) rfl)) (notFace_of_selects (args := #[]) (mvT hZ (hw _ (List.mem_of_getElem? (i := 47) rfl)))) (hw _ (List.mem_of_getElem? (i := 47) rfl)) (hw _ (List.mem_of_getElem? (i := 46) rfl)) (hw _ (List.mem_of_getElem? (i := 9) rfl)) (hw _ (List.mem_of_getElem? (i := 48) rfl)) (by decide) (rm7_311 l Z a0 hw b48 fi la c49 d49 K (updN (updN (updN (fun _ => (0 : UInt64)) 0 (FP.l2d s0)) 1 (FP.l2d s1)) 2 (FP.l2d s2)) (updN (updN (updN (fun _ => (0 : UInt64)) 1 (FP.dadd (0 : UInt64) ((updN (updN (updN (fun _ => (0 : UInt64)) 0 (FP.l2d s0)) 1 (FP.l2d s1)) 2 (FP.l2d s2)) 0))) 2 (FP.dadd (FP.dadd (0 : UInt64) ((updN (updN (updN (fun _ => (0 : UInt64)) 0 (FP.l2d s0)) 1 (FP.l2d s1)) 2 (FP.l2d s2)) 0)) ((updN (updN (updN (fun _ => (0 : UInt64)) 0 (FP.l2d s0)) 1 (FP.l2d s1)) 2 (FP.l2d s2)) 1))) 3 (FP.dadd (FP.dadd (FP.dadd (0 : UInt64) ((updN (updN (updN (fun _ => (0 : UInt64)) 0 (FP.l2d s0)) 1 (FP.l2d s1)) 2 (FP.l2d s2)) 0)) ((updN (updN (updN (fun _ => (0 : UInt64)) 0 (FP.l2d s0)) 1 (FP.l2d s1)) 2 (FP.l2d s2)) 1)) ((updN (updN (updN (fun _ => (0 : UInt64)) 0 (FP.l2d s0)) 1 (FP.l2d s1)) 2 (FP.l2d s2)) 2))) T49.heap n0 (Nat.le_trans Z0 (KK49 : Keep h0 T49.heap []).1) Ec49 Fk49 Fc49 Vc49 Fd49 Vd49 hK.2 ho1.2 ho2.2 (own_nnN (Jvm.FP.Core.dcmp_some hAt).1)) hh51 Ec49 (hb hby at_233) (lenOf pd_6 rfl) rfl rfl (W := 0) (Nat.le_of_eq rfl) (by decide) (by decide) (by decide) (by decide) ?_
      intro v52 T52 L52 X52 Q52
      obtain ⟨rfl, N52q, hh52⟩ := Q52
      have N52 := Fr.app N51 N52q
      show Go _ _ _ _ _ _ _ T52 (mkF m 236 #[.val (.int p0), .val (.int p1), .val (.int p2), .val (.int p3), .val (.int p4), .val (.int p5), .val (.int (3 : Int32)), .val (.long s0), .second, .val (.long s1), .second, .val (.long s2), .second, .val (.ref b28), .val (.int K), .val (.int fi), .val (.int la), .val (.ref b48), .val (.int (1 : Int32)), .val (.int (1 : Int32)), .val (.long ((0 : Int64) + s1)), .second] [(.double (FP.dsub ((updN (updN (updN (fun _ => (0 : UInt64)) 1 (FP.dadd (0 : UInt64) ((updN (updN (updN (fun _ => (0 : UInt64)) 0 (FP.l2d s0)) 1 (FP.l2d s1)) 2 (FP.l2d s2)) 0))) 2 (FP.dadd (FP.dadd (0 : UInt64) ((updN (updN (updN (fun _ => (0 : UInt64)) 0 (FP.l2d s0)) 1 (FP.l2d s1)) 2 (FP.l2d s2)) 0)) ((updN (updN (updN (fun _ => (0 : UInt64)) 0 (FP.l2d s0)) 1 (FP.l2d s1)) 2 (FP.l2d s2)) 1))) 3 (FP.dadd (FP.dadd (FP.dadd (0 : UInt64) ((updN (updN (updN (fun _ => (0 : UInt64)) 0 (FP.l2d s0)) 1 (FP.l2d s1)) 2 (FP.l2d s2)) 0)) ((updN (updN (updN (fun _ => (0 : UInt64)) 0 (FP.l2d s0)) 1 (FP.l2d s1)) 2 (FP.l2d s2)) 1)) ((updN (updN (updN (fun _ => (0 : UInt64)) 0 (FP.l2d s0)) 1 (FP.l2d s1)) 2 (FP.l2d s2)) 2))) 2) ((updN (updN (updN (fun _ => (0 : UInt64)) 1 (FP.dadd (0 : UInt64) ((updN (updN (updN (fun _ => (0 : UInt64)) 0 (FP.l2d s0)) 1 (FP.l2d s1)) 2 (FP.l2d s2)) 0))) 2 (FP.dadd (FP.dadd (0 : UInt64) ((updN (updN (updN (fun _ => (0 : UInt64)) 0 (FP.l2d s0)) 1 (FP.l2d s1)) 2 (FP.l2d s2)) 0)) ((updN (updN (updN (fun _ => (0 : UInt64)) 0 (FP.l2d s0)) 1 (FP.l2d s1)) 2 (FP.l2d s2)) 1))) 3 (FP.dadd (FP.dadd (FP.dadd (0 : UInt64) ((updN (updN (updN (fun _ => (0 : UInt64)) 0 (FP.l2d s0)) 1 (FP.l2d s1)) 2 (FP.l2d s2)) 0)) ((updN (updN (updN (fun _ => (0 : UInt64)) 0 (FP.l2d s0)) 1 (FP.l2d s1)) 2 (FP.l2d s2)) 1)) ((updN (updN (updN (fun _ => (0 : UInt64)) 0 (FP.l2d s0)) 1 (FP.l2d s1)) 2 (FP.l2d s2)) 2))) 1)))])
      refine Go.step (fun _ k => XS.lload X52.here hx rfl (hb hby at_236) rfl k) ?_
      show Go _ _ _ _ _ _ _ T52 (mkF m 238 #[.val (.int p0), .val (.int p1), .val (.int p2), .val (.int p3), .val (.int p4), .val (.int p5), .val (.int (3 : Int32)), .val (.long s0), .second, .val (.long s1), .second, .val (.long s2), .second, .val (.ref b28), .val (.int K), .val (.int fi), .val (.int la), .val (.ref b48), .val (.int (1 : Int32)), .val (.int (1 : Int32)), .val (.long ((0 : Int64) + s1)), .second] [(.long ((0 : Int64) + s1)), (.double (FP.dsub ((updN (updN (updN (fun _ => (0 : UInt64)) 1 (FP.dadd (0 : UInt64) ((updN (updN (updN (fun _ => (0 : UInt64)) 0 (FP.l2d s0)) 1 (FP.l2d s1)) 2 (FP.l2d s2)) 0))) 2 (FP.dadd (FP.dadd (0 : UInt64) ((updN (updN (updN (fun _ => (0 : UInt64)) 0 (FP.l2d s0)) 1 (FP.l2d s1)) 2 (FP.l2d s2)) 0)) ((updN (updN (updN (fun _ => (0 : UInt64)) 0 (FP.l2d s0)) 1 (FP.l2d s1)) 2 (FP.l2d s2)) 1))) 3 (FP.dadd (FP.dadd (FP.dadd (0 : UInt64) ((updN (updN (updN (fun _ => (0 : UInt64)) 0 (FP.l2d s0)) 1 (FP.l2d s1)) 2 (FP.l2d s2)) 0)) ((updN (updN (updN (fun _ => (0 : UInt64)) 0 (FP.l2d s0)) 1 (FP.l2d s1)) 2 (FP.l2d s2)) 1)) ((updN (updN (updN (fun _ => (0 : UInt64)) 0 (FP.l2d s0)) 1 (FP.l2d s1)) 2 (FP.l2d s2)) 2))) 2) ((updN (updN (updN (fun _ => (0 : UInt64)) 1 (FP.dadd (0 : UInt64) ((updN (updN (updN (fun _ => (0 : UInt64)) 0 (FP.l2d s0)) 1 (FP.l2d s1)) 2 (FP.l2d s2)) 0))) 2 (FP.dadd (FP.dadd (0 : UInt64) ((updN (updN (updN (fun _ => (0 : UInt64)) 0 (FP.l2d s0)) 1 (FP.l2d s1)) 2 (FP.l2d s2)) 0)) ((updN (updN (updN (fun _ => (0 : UInt64)) 0 (FP.l2d s0)) 1 (FP.l2d s1)) 2 (FP.l2d s2)) 1))) 3 (FP.dadd (FP.dadd (FP.dadd (0 : UInt64) ((updN (updN (updN (fun _ => (0 : UInt64)) 0 (FP.l2d s0)) 1 (FP.l2d s1)) 2 (FP.l2d s2)) 0)) ((updN (updN (updN (fun _ => (0 : UInt64)) 0 (FP.l2d s0)) 1 (FP.l2d s1)) 2 (FP.l2d s2)) 1)) ((updN (updN (updN (fun _ => (0 : UInt64)) 0 (FP.l2d s0)) 1 (FP.l2d s1)) 2 (FP.l2d s2)) 2))) 1)))])
      refine Go.step (fun _ k => XS.l2dS X52.here hx rfl (hb hby at_238) rfl rfl k) ?_
      show Go _ _ _ _ _ _ _ T52 (mkF m 239 #[.val (.int p0), .val (.int p1), .val (.int p2), .val (.int p3), .val (.int p4), .val (.int p5), .val (.int (3 : Int32)), .val (.long s0), .second, .val (.long s1), .second, .val (.long s2), .second, .val (.ref b28), .val (.int K), .val (.int fi), .val (.int la), .val (.ref b48), .val (.int (1 : Int32)), .val (.int (1 : Int32)), .val (.long ((0 : Int64) + s1)), .second] [(.double (FP.l2d ((0 : Int64) + s1))), (.double (FP.dsub ((updN (updN (updN (fun _ => (0 : UInt64)) 1 (FP.dadd (0 : UInt64) ((updN (updN (updN (fun _ => (0 : UInt64)) 0 (FP.l2d s0)) 1 (FP.l2d s1)) 2 (FP.l2d s2)) 0))) 2 (FP.dadd (FP.dadd (0 : UInt64) ((updN (updN (updN (fun _ => (0 : UInt64)) 0 (FP.l2d s0)) 1 (FP.l2d s1)) 2 (FP.l2d s2)) 0)) ((updN (updN (updN (fun _ => (0 : UInt64)) 0 (FP.l2d s0)) 1 (FP.l2d s1)) 2 (FP.l2d s2)) 1))) 3 (FP.dadd (FP.dadd (FP.dadd (0 : UInt64) ((updN (updN (updN (fun _ => (0 : UInt64)) 0 (FP.l2d s0)) 1 (FP.l2d s1)) 2 (FP.l2d s2)) 0)) ((updN (updN (updN (fun _ => (0 : UInt64)) 0 (FP.l2d s0)) 1 (FP.l2d s1)) 2 (FP.l2d s2)) 1)) ((updN (updN (updN (fun _ => (0 : UInt64)) 0 (FP.l2d s0)) 1 (FP.l2d s1)) 2 (FP.l2d s2)) 2))) 2) ((updN (updN (updN (fun _ => (0 : UInt64)) 1 (FP.dadd (0 : UInt64) ((updN (updN (updN (fun _ => (0 : UInt64)) 0 (FP.l2d s0)) 1 (FP.l2d s1)) 2 (FP.l2d s2)) 0))) 2 (FP.dadd (FP.dadd (0 : UInt64) ((updN (updN (updN (fun _ => (0 : UInt64)) 0 (FP.l2d s0)) 1 (FP.l2d s1)) 2 (FP.l2d s2)) 0)) ((updN (updN (updN (fun _ => (0 : UInt64)) 0 (FP.l2d s0)) 1 (FP.l2d s1)) 2 (FP.l2d s2)) 1))) 3 (FP.dadd (FP.dadd (FP.dadd (0 : UInt64) ((updN (updN (updN (fun _ => (0 : UInt64)) 0 (FP.l2d s0)) 1 (FP.l2d s1)) 2 (FP.l2d s2)) 0)) ((updN (updN (updN (fun _ => (0 : UInt64)) 0 (FP.l2d s0)) 1 (FP.l2d s1)) 2 (FP.l2d s2)) 1)) ((updN (updN (updN (fun _ => (0 : UInt64)) 0 (FP.l2d s0)) 1 (FP.l2d s1)) 2 (FP.l2d s2)) 2))) 1)))])
      refine Go.step (fun _ k => XS.dcmpS X52.here hx rfl (hb hby at_239) rfl rfl k) ?_
      show Go _ _ _ _ _ _ _ T52 (mkF m 240 #[.val (.int p0), .val (.int p1), .val (.int p2), .val (.int p3), .val (.int p4), .val (.int p5), .val (.int (3 : Int32)), .val (.long s0), .second, .val (.long s1), .second, .val (.long s2), .second, .val (.ref b28), .val (.int K), .val (.int fi), .val (.int la), .val (.ref b48), .val (.int (1 : Int32)), .val (.int (1 : Int32)), .val (.long ((0 : Int64) + s1)), .second] [(.int (cmpValue (FP.dcmp (FP.dsub ((updN (updN (updN (fun _ => (0 : UInt64)) 1 (FP.dadd (0 : UInt64) ((updN (updN (updN (fun _ => (0 : UInt64)) 0 (FP.l2d s0)) 1 (FP.l2d s1)) 2 (FP.l2d s2)) 0))) 2 (FP.dadd (FP.dadd (0 : UInt64) ((updN (updN (updN (fun _ => (0 : UInt64)) 0 (FP.l2d s0)) 1 (FP.l2d s1)) 2 (FP.l2d s2)) 0)) ((updN (updN (updN (fun _ => (0 : UInt64)) 0 (FP.l2d s0)) 1 (FP.l2d s1)) 2 (FP.l2d s2)) 1))) 3 (FP.dadd (FP.dadd (FP.dadd (0 : UInt64) ((updN (updN (updN (fun _ => (0 : UInt64)) 0 (FP.l2d s0)) 1 (FP.l2d s1)) 2 (FP.l2d s2)) 0)) ((updN (updN (updN (fun _ => (0 : UInt64)) 0 (FP.l2d s0)) 1 (FP.l2d s1)) 2 (FP.l2d s2)) 1)) ((updN (updN (updN (fun _ => (0 : UInt64)) 0 (FP.l2d s0)) 1 (FP.l2d s1)) 2 (FP.l2d s2)) 2))) 2) ((updN (updN (updN (fun _ => (0 : UInt64)) 1 (FP.dadd (0 : UInt64) ((updN (updN (updN (fun _ => (0 : UInt64)) 0 (FP.l2d s0)) 1 (FP.l2d s1)) 2 (FP.l2d s2)) 0))) 2 (FP.dadd (FP.dadd (0 : UInt64) ((updN (updN (updN (fun _ => (0 : UInt64)) 0 (FP.l2d s0)) 1 (FP.l2d s1)) 2 (FP.l2d s2)) 0)) ((updN (updN (updN (fun _ => (0 : UInt64)) 0 (FP.l2d s0)) 1 (FP.l2d s1)) 2 (FP.l2d s2)) 1))) 3 (FP.dadd (FP.dadd (FP.dadd (0 : UInt64) ((updN (updN (updN (fun _ => (0 : UInt64)) 0 (FP.l2d s0)) 1 (FP.l2d s1)) 2 (FP.l2d s2)) 0)) ((updN (updN (updN (fun _ => (0 : UInt64)) 0 (FP.l2d s0)) 1 (FP.l2d s1)) 2 (FP.l2d s2)) 1)) ((updN (updN (updN (fun _ => (0 : UInt64)) 0 (FP.l2d s0)) 1 (FP.l2d s1)) 2 (FP.l2d s2)) 2))) 1)) (FP.l2d ((0 : Int64) + s1))) .l))])
      refine Go.step (fun _ k => XS.ifNo X52.here hx rfl (hb hby at_240) rfl (eq_y .l hAt).1 k) ?_
      show Go _ _ _ _ _ _ _ T52 (mkF m 243 #[.val (.int p0), .val (.int p1), .val (.int p2), .val (.int p3), .val (.int p4), .val (.int p5), .val (.int (3 : Int32)), .val (.long s0), .second, .val (.long s1), .second, .val (.long s2), .second, .val (.ref b28), .val (.int K), .val (.int fi), .val (.int la), .val (.ref b48), .val (.int (1 : Int32)), .val (.int (1 : Int32)), .val (.long ((0 : Int64) + s1)), .second] [])
      refine Go.step (fun _ k => XS.iconst X52.here hx rfl (hb hby at_243) k) ?_
      show Go _ _ _ _ _ _ _ T52 (mkF m 244 #[.val (.int p0), .val (.int p1), .val (.int p2), .val (.int p3), .val (.int p4), .val (.int p5), .val (.int (3 : Int32)), .val (.long s0), .second, .val (.long s1), .second, .val (.long s2), .second, .val (.ref b28), .val (.int K), .val (.int fi), .val (.int la), .val (.ref b48), .val (.int (1 : Int32)), .val (.int (1 : Int32)), .val (.long ((0 : Int64) + s1)), .second] [(.int (1 : Int32))])
      refine Go.step (fun _ k => XS.goto X52.here hx rfl (pc0 := 244) (pc' := 248) rfl (hb hby at_244) (by decide) (by decide) k) ?_
      show Go _ _ _ _ _ _ _ T52 (mkF m 248 #[.val (.int p0), .val (.int p1), .val (.int p2), .val (.int p3), .val (.int p4), .val (.int p5), .val (.int (3 : Int32)), .val (.long s0), .second, .val (.long s1), .second, .val (.long s2), .second, .val (.ref b28), .val (.int K), .val (.int fi), .val (.int la), .val (.ref b48), .val (.int (1 : Int32)), .val (.int (1 : Int32)), .val (.long ((0 : Int64) + s1)), .second] [(.int (1 : Int32))])
      refine Go.retZ X52 hx hlk hret (by decide) (hb hby at_248) (by decide) (by decide) ?_
      try rw [hh52]
      exact ⟨rfl, N52⟩
    · show Go _ _ _ _ _ _ _ T32 (mkF m 139 #[.val (.int p0), .val (.int p1), .val (.int p2), .val (.int p3), .val (.int p4), .val (.int p5), .val (.int (3 : Int32)), .val (.long s0), .second, .val (.long s1), .second, .val (.long s2), .second, .val (.ref b28), .val (.int K), .val (.int fi), .val (.int la), .unset, .unset, .unset, .unset, .unset] [])
      obtain ⟨T53, h53, X53, e53, E53, A53, D53, -, st53⟩ := newO X32 hx hZ hown (hw _ (List.mem_of_getElem? (i := 7) rfl)) (hw _ (List.mem_of_getElem? (i := 8) rfl)) (hw _ (List.mem_of_getElem? (i := 9) rfl)) hh32 (g := (mkF m 139 #[.val (.int p0), .val (.int p1), .val (.int p2), .val (.int p3), .val (.int p4), .val (.int p5), .val (.int (3 : Int32)), .val (.long s0), .second, .val (.long s1), .second, .val (.long s2), .second, .val (.ref b28), .val (.int K), .val (.int fi), .val (.int la), .unset, .unset, .unset, .unset, .unset] [])) rfl (hb hby at_139) (by decide) (by decide)
      obtain ⟨b53, g53⟩ : ∃ z, z = h31.size := ⟨_, rfl⟩
      rw [← g53] at A53 D53 st53
      refine Go.step st53 ?_
      have K53 : Keep h0 h53 [] := K31.ext E53
      have sz_b53 : h0.size ≤ b53 := Nat.le_trans (K31 : Keep h0 h31 []).1 (Nat.le_of_eq g53.symm)
      have ge_b53 : n0 ≤ b53 := Nat.le_trans Z0 sz_b53
      have ne_b28_b53 : b28 ≠ b53 := Nat.ne_of_lt (Nat.lt_of_lt_of_le V_b28_31.lt (Nat.le_of_eq g53.symm))
      have V_b28_53 := V_b28_31.ext E53
      have E_b28_53 := E_b28_31.ext E53
      have E_b53 := A53
      have F_keyGroups_b53 : Fld Z h53 b53 "tidewatch/decision/KeyGroupCeiling" "keyGroups" "I" (.int (0 : Int32)) := D53 (Or.inr (hw _ (List.mem_of_getElem? (i := 17) rfl))) (ty := .int) (by decide)
      have F_shares_b53 : Fld Z h53 b53 "tidewatch/decision/KeyGroupCeiling" "shares" "[D" .null := D53 (Or.inr (hw _ (List.mem_of_getElem? (i := 28) rfl))) (ty := (.array .double)) (by decide)
      have F_before_b53 : Fld Z h53 b53 "tidewatch/decision/KeyGroupCeiling" "before" "[D" .null := D53 (Or.inr (hw _ (List.mem_of_getElem? (i := 30) rfl))) (ty := (.array .double)) (by decide)
      show Go _ _ _ _ _ _ _ T53 (mkF m 142 #[.val (.int p0), .val (.int p1), .val (.int p2), .val (.int p3), .val (.int p4), .val (.int p5), .val (.int (3 : Int32)), .val (.long s0), .second, .val (.long s1), .second, .val (.long s2), .second, .val (.ref b28), .val (.int K), .val (.int fi), .val (.int la), .unset, .unset, .unset, .unset, .unset] [(.ref b53)])
      refine Go.step (fun _ k => XS.dup X53.here hx rfl (hb hby at_142) rfl rfl k) ?_
      show Go _ _ _ _ _ _ _ T53 (mkF m 143 #[.val (.int p0), .val (.int p1), .val (.int p2), .val (.int p3), .val (.int p4), .val (.int p5), .val (.int (3 : Int32)), .val (.long s0), .second, .val (.long s1), .second, .val (.long s2), .second, .val (.ref b28), .val (.int K), .val (.int fi), .val (.int la), .unset, .unset, .unset, .unset, .unset] [(.ref b53), (.ref b53)])
      refine Go.step (fun _ k => XS.iload X53.here hx rfl (hb hby at_143) rfl k) ?_
      show Go _ _ _ _ _ _ _ T53 (mkF m 145 #[.val (.int p0), .val (.int p1), .val (.int p2), .val (.int p3), .val (.int p4), .val (.int p5), .val (.int (3 : Int32)), .val (.long s0), .second, .val (.long s1), .second, .val (.long s2), .second, .val (.ref b28), .val (.int K), .val (.int fi), .val (.int la), .unset, .unset, .unset, .unset, .unset] [(.int K), (.ref b53), (.ref b53)])
      refine Go.step (fun _ k => XS.aload X53.here hx rfl (hb hby at_145) rfl rfl k) ?_
      show Go _ _ _ _ _ _ _ T53 (mkF m 147 #[.val (.int p0), .val (.int p1), .val (.int p2), .val (.int p3), .val (.int p4), .val (.int p5), .val (.int (3 : Int32)), .val (.long s0), .second, .val (.long s1), .second, .val (.long s2), .second, .val (.ref b28), .val (.int K), .val (.int fi), .val (.int la), .unset, .unset, .unset, .unset, .unset] [(.ref b28), (.int K), (.ref b53), (.ref b53)])
      refine Go.callI X53 hx hZ (by rw [hml]; rfl) (y := (⟨"tidewatch/decision/KeyGroupCeiling", "<init>", "(I[D)V"⟩ : MethodName)) (a := b53) (argsL := [(.int K), (.ref b28)]) (rest := [(.ref b53)]) rfl hown (hw _ (List.mem_of_getElem? (i := 10) rfl)) (hw _ (List.mem_of_getElem? (i := 11) rfl)) (hw _ (List.mem_of_getElem? (i := 9) rfl)) (hw _ (List.mem_of_getElem? (i := 12) rfl)) (by decide) (rm2_3 l Z a0 hw b53 b28 K (updN (updN (updN (fun _ => (0 : UInt64)) 0 (FP.l2d s0)) 1 (FP.l2d s1)) 2 (FP.l2d s2)) h53 n0 (Nat.le_trans Z0 (K53 : Keep h0 h53 []).1) E_b53 F_keyGroups_b53 F_shares_b53 F_before_b53 E_b28_53 V_b28_53 ge_b53 (Ne.symm ne_b28_b53) hK.1 (fun i hi' => by rcases (by omega : i = 0 ∨ i = 1 ∨ i = 2) with rfl | rfl | rfl; exact Jvm.Free.Fl.l2d_fin _; exact Jvm.Free.Fl.l2d_fin _; exact Jvm.Free.Fl.l2d_fin _) (fun i hi' => by rcases (by omega : i = 0 ∨ i = 1 ∨ i = 2) with rfl | rfl | rfl; exact own_nneg hs0; exact own_nneg hs1; exact own_nneg hs2)) e53 (hb hby at_147) (lenOf pd_4 rfl) rfl rfl (W := 1) (Nat.le_of_eq rfl) (by decide) (by decide) (by decide) (by decide) ?_
      intro v54 T54 L54 X54 Q54
      obtain ⟨rfl, N54q, Kc54, Ec54, Fk54, c54, d54, Fc54, Fd54, Vc54, Vd54, sc54, sd54, ncd54⟩ := Q54
      have N54 := Fr.app N32 N54q
      have ne_b28_c54 : b28 ≠ c54 := Nat.ne_of_lt (Nat.lt_of_lt_of_le V_b28_53.lt sc54)
      have ne_b28_d54 : b28 ≠ d54 := Nat.ne_of_lt (Nat.lt_of_lt_of_le V_b28_53.lt sd54)
      have V_b28_54 := V_b28_53.keep Kc54 (ninS ne_b28_b53 nin0)
      have E_b28_54 := E_b28_53.keep Kc54
      have E_b53_54 := E_b53.keep Kc54
      have KK54 : Keep h0 T54.heap [] := (K53 : Keep h0 h53 []).trans Kc54 (allS (Or.inr sz_b53) all0)
      show Go _ _ _ _ _ _ _ T54 (mkF m 150 #[.val (.int p0), .val (.int p1), .val (.int p2), .val (.int p3), .val (.int p4), .val (.int p5), .val (.int (3 : Int32)), .val (.long s0), .second, .val (.long s1), .second, .val (.long s2), .second, .val (.ref b28), .val (.int K), .val (.int fi), .val (.int la), .unset, .unset, .unset, .unset, .unset] [(.ref b53)])
      refine Go.step (fun _ k => XS.astore X54.here hx rfl (hb hby at_150) rfl rfl (l' := #[.val (.int p0), .val (.int p1), .val (.int p2), .val (.int p3), .val (.int p4), .val (.int p5), .val (.int (3 : Int32)), .val (.long s0), .second, .val (.long s1), .second, .val (.long s2), .second, .val (.ref b28), .val (.int K), .val (.int fi), .val (.int la), .val (.ref b53), .unset, .unset, .unset, .unset]) rfl k) ?_
      show Go _ _ _ _ _ _ _ T54 (mkF m 152 #[.val (.int p0), .val (.int p1), .val (.int p2), .val (.int p3), .val (.int p4), .val (.int p5), .val (.int (3 : Int32)), .val (.long s0), .second, .val (.long s1), .second, .val (.long s2), .second, .val (.ref b28), .val (.int K), .val (.int fi), .val (.int la), .val (.ref b53), .unset, .unset, .unset, .unset] [])
      refine Go.step (fun _ k => XS.iload X54.here hx rfl (hb hby at_152) rfl k) ?_
      show Go _ _ _ _ _ _ _ T54 (mkF m 154 #[.val (.int p0), .val (.int p1), .val (.int p2), .val (.int p3), .val (.int p4), .val (.int p5), .val (.int (3 : Int32)), .val (.long s0), .second, .val (.long s1), .second, .val (.long s2), .second, .val (.ref b28), .val (.int K), .val (.int fi), .val (.int la), .val (.ref b53), .unset, .unset, .unset, .unset] [(.int fi)])
      refine Go.step (fun _ k => XS.iload X54.here hx rfl (hb hby at_154) rfl k) ?_
      show Go _ _ _ _ _ _ _ T54 (mkF m 156 #[.val (.int p0), .val (.int p1), .val (.int p2), .val (.int p3), .val (.int p4), .val (.int p5), .val (.int (3 : Int32)), .val (.long s0), .second, .val (.long s1), .second, .val (.long s2), .second, .val (.ref b28), .val (.int K), .val (.int fi), .val (.int la), .val (.ref b53), .unset, .unset, .unset, .unset] [(.int (3 : Int32)), (.int fi)])
      refine Go.step (fun _ k => XS.iload X54.here hx rfl (hb hby at_156) rfl k) ?_
      show Go _ _ _ _ _ _ _ T54 (mkF m 158 #[.val (.int p0), .val (.int p1), .val (.int p2), .val (.int p3), .val (.int p4), .val (.int p5), .val (.int (3 : Int32)), .val (.long s0), .second, .val (.long s1), .second, .val (.long s2), .second, .val (.ref b28), .val (.int K), .val (.int fi), .val (.int la), .val (.ref b53), .unset, .unset, .unset, .unset] [(.int K), (.int (3 : Int32)), (.int fi)])
      refine Go.callS X54 hx hZ (by rw [hml]; rfl) (y := (⟨"tidewatch/decision/KeyGroupCeilingAtMostPinLaw", "ownerRef", "(III)I"⟩ : MethodName)) (argsL := [(.int fi), (.int (3 : Int32)), (.int K)]) (rest := []) hown (hw _ (List.mem_of_getElem? (i := 39) rfl)) (hw _ (List.mem_of_getElem? (i := 40) rfl)) (hw _ (List.mem_of_getElem? (i := 41) rfl)) (hw _ (List.mem_of_getElem? (i := 42) rfl)) (by decide) (rm6_3 l Z a0 hw fi K T54.heap n0 (Nat.le_trans Z0 (KK54 : Keep h0 T54.heap []).1)) rfl (hb hby at_158) (lenOf pd_5 rfl) rfl rfl (W := 0) (Nat.le_of_eq rfl) (by decide) (by decide) (by decide) (by decide) ?_
      intro v55 T55 L55 X55 Q55
      rw [ho1.1] at Q55
      obtain ⟨rfl, N55q, hh55⟩ := Q55
      have N55 := Fr.app N54 N55q
      show Go _ _ _ _ _ _ _ T55 (mkF m 161 #[.val (.int p0), .val (.int p1), .val (.int p2), .val (.int p3), .val (.int p4), .val (.int p5), .val (.int (3 : Int32)), .val (.long s0), .second, .val (.long s1), .second, .val (.long s2), .second, .val (.ref b28), .val (.int K), .val (.int fi), .val (.int la), .val (.ref b53), .unset, .unset, .unset, .unset] [(.int (1 : Int32))])
      refine Go.step (fun _ k => XS.istore X55.here hx rfl (hb hby at_161) rfl (l' := #[.val (.int p0), .val (.int p1), .val (.int p2), .val (.int p3), .val (.int p4), .val (.int p5), .val (.int (3 : Int32)), .val (.long s0), .second, .val (.long s1), .second, .val (.long s2), .second, .val (.ref b28), .val (.int K), .val (.int fi), .val (.int la), .val (.ref b53), .val (.int (1 : Int32)), .unset, .unset, .unset]) rfl k) ?_
      show Go _ _ _ _ _ _ _ T55 (mkF m 163 #[.val (.int p0), .val (.int p1), .val (.int p2), .val (.int p3), .val (.int p4), .val (.int p5), .val (.int (3 : Int32)), .val (.long s0), .second, .val (.long s1), .second, .val (.long s2), .second, .val (.ref b28), .val (.int K), .val (.int fi), .val (.int la), .val (.ref b53), .val (.int (1 : Int32)), .unset, .unset, .unset] [])
      refine Go.step (fun _ k => XS.iload X55.here hx rfl (hb hby at_163) rfl k) ?_
      show Go _ _ _ _ _ _ _ T55 (mkF m 165 #[.val (.int p0), .val (.int p1), .val (.int p2), .val (.int p3), .val (.int p4), .val (.int p5), .val (.int (3 : Int32)), .val (.long s0), .second, .val (.long s1), .second, .val (.long s2), .second, .val (.ref b28), .val (.int K), .val (.int fi), .val (.int la), .val (.ref b53), .val (.int (1 : Int32)), .unset, .unset, .unset] [(.int la)])
      refine Go.step (fun _ k => XS.iload X55.here hx rfl (hb hby at_165) rfl k) ?_
      show Go _ _ _ _ _ _ _ T55 (mkF m 167 #[.val (.int p0), .val (.int p1), .val (.int p2), .val (.int p3), .val (.int p4), .val (.int p5), .val (.int (3 : Int32)), .val (.long s0), .second, .val (.long s1), .second, .val (.long s2), .second, .val (.ref b28), .val (.int K), .val (.int fi), .val (.int la), .val (.ref b53), .val (.int (1 : Int32)), .unset, .unset, .unset] [(.int (3 : Int32)), (.int la)])
      refine Go.step (fun _ k => XS.iload X55.here hx rfl (hb hby at_167) rfl k) ?_
      show Go _ _ _ _ _ _ _ T55 (mkF m 169 #[.val (.int p0), .val (.int p1), .val (.int p2), .val (.int p3), .val (.int p4), .val (.int p5), .val (.int (3 : Int32)), .val (.long s0), .second, .val (.long s1), .second, .val (.long s2), .second, .val (.ref b28), .val (.int K), .val (.int fi), .val (.int la), .val (.ref b53), .val (.int (1 : Int32)), .unset, .unset, .unset] [(.int K), (.int (3 : Int32)), (.int la)])
      refine Go.callS X55 hx hZ (by rw [hml]; rfl) (y := (⟨"tidewatch/decision/KeyGroupCeilingAtMostPinLaw", "ownerRef", "(III)I"⟩ : MethodName)) (argsL := [(.int la), (.int (3 : Int32)), (.int K)]) (rest := []) hown (hw _ (List.mem_of_getElem? (i := 39) rfl)) (hw _ (List.mem_of_getElem? (i := 40) rfl)) (hw _ (List.mem_of_getElem? (i := 41) rfl)) (hw _ (List.mem_of_getElem? (i := 42) rfl)) (by decide) (rm6_3 l Z a0 hw la K T54.heap n0 (Nat.le_trans Z0 (KK54 : Keep h0 T54.heap []).1)) hh55 (hb hby at_169) (lenOf pd_5 rfl) rfl rfl (W := 0) (Nat.le_of_eq rfl) (by decide) (by decide) (by decide) (by decide) ?_
      intro v56 T56 L56 X56 Q56
      rw [ho2.1] at Q56
      obtain ⟨rfl, N56q, hh56⟩ := Q56
      have N56 := Fr.app N55 N56q
      show Go _ _ _ _ _ _ _ T56 (mkF m 172 #[.val (.int p0), .val (.int p1), .val (.int p2), .val (.int p3), .val (.int p4), .val (.int p5), .val (.int (3 : Int32)), .val (.long s0), .second, .val (.long s1), .second, .val (.long s2), .second, .val (.ref b28), .val (.int K), .val (.int fi), .val (.int la), .val (.ref b53), .val (.int (1 : Int32)), .unset, .unset, .unset] [(.int (2 : Int32))])
      refine Go.step (fun _ k => XS.istore X56.here hx rfl (hb hby at_172) rfl (l' := #[.val (.int p0), .val (.int p1), .val (.int p2), .val (.int p3), .val (.int p4), .val (.int p5), .val (.int (3 : Int32)), .val (.long s0), .second, .val (.long s1), .second, .val (.long s2), .second, .val (.ref b28), .val (.int K), .val (.int fi), .val (.int la), .val (.ref b53), .val (.int (1 : Int32)), .val (.int (2 : Int32)), .unset, .unset]) rfl k) ?_
      show Go _ _ _ _ _ _ _ T56 (mkF m 174 #[.val (.int p0), .val (.int p1), .val (.int p2), .val (.int p3), .val (.int p4), .val (.int p5), .val (.int (3 : Int32)), .val (.long s0), .second, .val (.long s1), .second, .val (.long s2), .second, .val (.ref b28), .val (.int K), .val (.int fi), .val (.int la), .val (.ref b53), .val (.int (1 : Int32)), .val (.int (2 : Int32)), .unset, .unset] [])
      refine Go.step (fun _ k => XS.lconst X56.here hx rfl (hb hby at_174) k) ?_
      show Go _ _ _ _ _ _ _ T56 (mkF m 175 #[.val (.int p0), .val (.int p1), .val (.int p2), .val (.int p3), .val (.int p4), .val (.int p5), .val (.int (3 : Int32)), .val (.long s0), .second, .val (.long s1), .second, .val (.long s2), .second, .val (.ref b28), .val (.int K), .val (.int fi), .val (.int la), .val (.ref b53), .val (.int (1 : Int32)), .val (.int (2 : Int32)), .unset, .unset] [(.long (0 : Int64))])
      refine Go.step (fun _ k => XS.lstore X56.here hx rfl (hb hby at_175) rfl (l' := #[.val (.int p0), .val (.int p1), .val (.int p2), .val (.int p3), .val (.int p4), .val (.int p5), .val (.int (3 : Int32)), .val (.long s0), .second, .val (.long s1), .second, .val (.long s2), .second, .val (.ref b28), .val (.int K), .val (.int fi), .val (.int la), .val (.ref b53), .val (.int (1 : Int32)), .val (.int (2 : Int32)), .val (.long (0 : Int64)), .second]) rfl k) ?_
      show Go _ _ _ _ _ _ _ T56 (mkF m 177 #[.val (.int p0), .val (.int p1), .val (.int p2), .val (.int p3), .val (.int p4), .val (.int p5), .val (.int (3 : Int32)), .val (.long s0), .second, .val (.long s1), .second, .val (.long s2), .second, .val (.ref b28), .val (.int K), .val (.int fi), .val (.int la), .val (.ref b53), .val (.int (1 : Int32)), .val (.int (2 : Int32)), .val (.long (0 : Int64)), .second] [])
      refine Go.step (fun _ k => XS.iload X56.here hx rfl (hb hby at_177) rfl k) ?_
      show Go _ _ _ _ _ _ _ T56 (mkF m 179 #[.val (.int p0), .val (.int p1), .val (.int p2), .val (.int p3), .val (.int p4), .val (.int p5), .val (.int (3 : Int32)), .val (.long s0), .second, .val (.long s1), .second, .val (.long s2), .second, .val (.ref b28), .val (.int K), .val (.int fi), .val (.int la), .val (.ref b53), .val (.int (1 : Int32)), .val (.int (2 : Int32)), .val (.long (0 : Int64)), .second] [(.int (1 : Int32))])
      refine Go.step (fun _ k => XS.ifYes X56.here hx rfl (pc0 := 179) (pc' := 189) rfl (hb hby at_179) rfl ((if0 _ _).trans (tlt (by decide : (0 : Int32) < (1 : Int32))).2.2.1) (by decide) (by decide) k) ?_
      show Go _ _ _ _ _ _ _ T56 (mkF m 189 #[.val (.int p0), .val (.int p1), .val (.int p2), .val (.int p3), .val (.int p4), .val (.int p5), .val (.int (3 : Int32)), .val (.long s0), .second, .val (.long s1), .second, .val (.long s2), .second, .val (.ref b28), .val (.int K), .val (.int fi), .val (.int la), .val (.ref b53), .val (.int (1 : Int32)), .val (.int (2 : Int32)), .val (.long (0 : Int64)), .second] [])
      refine Go.step (fun _ k => XS.iload X56.here hx rfl (hb hby at_189) rfl k) ?_
      show Go _ _ _ _ _ _ _ T56 (mkF m 191 #[.val (.int p0), .val (.int p1), .val (.int p2), .val (.int p3), .val (.int p4), .val (.int p5), .val (.int (3 : Int32)), .val (.long s0), .second, .val (.long s1), .second, .val (.long s2), .second, .val (.ref b28), .val (.int K), .val (.int fi), .val (.int la), .val (.ref b53), .val (.int (1 : Int32)), .val (.int (2 : Int32)), .val (.long (0 : Int64)), .second] [(.int (1 : Int32))])
      refine Go.step (fun _ k => XS.iconst X56.here hx rfl (hb hby at_191) k) ?_
      show Go _ _ _ _ _ _ _ T56 (mkF m 192 #[.val (.int p0), .val (.int p1), .val (.int p2), .val (.int p3), .val (.int p4), .val (.int p5), .val (.int (3 : Int32)), .val (.long s0), .second, .val (.long s1), .second, .val (.long s2), .second, .val (.ref b28), .val (.int K), .val (.int fi), .val (.int la), .val (.ref b53), .val (.int (1 : Int32)), .val (.int (2 : Int32)), .val (.long (0 : Int64)), .second] [(.int (1 : Int32)), (.int (1 : Int32))])
      refine Go.step (fun _ k => XS.icmpNo X56.here hx rfl (hb hby at_192) rfl (flt (by decide : ¬ ((1 : Int32) < (1 : Int32)))).2.2.1 k) ?_
      show Go _ _ _ _ _ _ _ T56 (mkF m 195 #[.val (.int p0), .val (.int p1), .val (.int p2), .val (.int p3), .val (.int p4), .val (.int p5), .val (.int (3 : Int32)), .val (.long s0), .second, .val (.long s1), .second, .val (.long s2), .second, .val (.ref b28), .val (.int K), .val (.int fi), .val (.int la), .val (.ref b53), .val (.int (1 : Int32)), .val (.int (2 : Int32)), .val (.long (0 : Int64)), .second] [])
      refine Go.step (fun _ k => XS.iload X56.here hx rfl (hb hby at_195) rfl k) ?_
      show Go _ _ _ _ _ _ _ T56 (mkF m 197 #[.val (.int p0), .val (.int p1), .val (.int p2), .val (.int p3), .val (.int p4), .val (.int p5), .val (.int (3 : Int32)), .val (.long s0), .second, .val (.long s1), .second, .val (.long s2), .second, .val (.ref b28), .val (.int K), .val (.int fi), .val (.int la), .val (.ref b53), .val (.int (1 : Int32)), .val (.int (2 : Int32)), .val (.long (0 : Int64)), .second] [(.int (2 : Int32))])
      refine Go.step (fun _ k => XS.iconst X56.here hx rfl (hb hby at_197) k) ?_
      show Go _ _ _ _ _ _ _ T56 (mkF m 198 #[.val (.int p0), .val (.int p1), .val (.int p2), .val (.int p3), .val (.int p4), .val (.int p5), .val (.int (3 : Int32)), .val (.long s0), .second, .val (.long s1), .second, .val (.long s2), .second, .val (.ref b28), .val (.int K), .val (.int fi), .val (.int la), .val (.ref b53), .val (.int (1 : Int32)), .val (.int (2 : Int32)), .val (.long (0 : Int64)), .second] [(.int (1 : Int32)), (.int (2 : Int32))])
      refine Go.step (fun _ k => XS.icmpNo X56.here hx rfl (hb hby at_198) rfl (flt (by decide : ¬ ((2 : Int32) < (1 : Int32)))).1 k) ?_
      show Go _ _ _ _ _ _ _ T56 (mkF m 201 #[.val (.int p0), .val (.int p1), .val (.int p2), .val (.int p3), .val (.int p4), .val (.int p5), .val (.int (3 : Int32)), .val (.long s0), .second, .val (.long s1), .second, .val (.long s2), .second, .val (.ref b28), .val (.int K), .val (.int fi), .val (.int la), .val (.ref b53), .val (.int (1 : Int32)), .val (.int (2 : Int32)), .val (.long (0 : Int64)), .second] [])
      refine Go.step (fun _ k => XS.lload X56.here hx rfl (hb hby at_201) rfl k) ?_
      show Go _ _ _ _ _ _ _ T56 (mkF m 203 #[.val (.int p0), .val (.int p1), .val (.int p2), .val (.int p3), .val (.int p4), .val (.int p5), .val (.int (3 : Int32)), .val (.long s0), .second, .val (.long s1), .second, .val (.long s2), .second, .val (.ref b28), .val (.int K), .val (.int fi), .val (.int la), .val (.ref b53), .val (.int (1 : Int32)), .val (.int (2 : Int32)), .val (.long (0 : Int64)), .second] [(.long (0 : Int64))])
      refine Go.step (fun _ k => XS.lload X56.here hx rfl (hb hby at_203) rfl k) ?_
      show Go _ _ _ _ _ _ _ T56 (mkF m 205 #[.val (.int p0), .val (.int p1), .val (.int p2), .val (.int p3), .val (.int p4), .val (.int p5), .val (.int (3 : Int32)), .val (.long s0), .second, .val (.long s1), .second, .val (.long s2), .second, .val (.ref b28), .val (.int K), .val (.int fi), .val (.int la), .val (.ref b53), .val (.int (1 : Int32)), .val (.int (2 : Int32)), .val (.long (0 : Int64)), .second] [(.long s1), (.long (0 : Int64))])
      refine Go.step (fun _ k => XS.ladd X56.here hx rfl (hb hby at_205) rfl k) ?_
      show Go _ _ _ _ _ _ _ T56 (mkF m 206 #[.val (.int p0), .val (.int p1), .val (.int p2), .val (.int p3), .val (.int p4), .val (.int p5), .val (.int (3 : Int32)), .val (.long s0), .second, .val (.long s1), .second, .val (.long s2), .second, .val (.ref b28), .val (.int K), .val (.int fi), .val (.int la), .val (.ref b53), .val (.int (1 : Int32)), .val (.int (2 : Int32)), .val (.long (0 : Int64)), .second] [(.long ((0 : Int64) + s1))])
      refine Go.step (fun _ k => XS.lstore X56.here hx rfl (hb hby at_206) rfl (l' := #[.val (.int p0), .val (.int p1), .val (.int p2), .val (.int p3), .val (.int p4), .val (.int p5), .val (.int (3 : Int32)), .val (.long s0), .second, .val (.long s1), .second, .val (.long s2), .second, .val (.ref b28), .val (.int K), .val (.int fi), .val (.int la), .val (.ref b53), .val (.int (1 : Int32)), .val (.int (2 : Int32)), .val (.long ((0 : Int64) + s1)), .second]) rfl k) ?_
      show Go _ _ _ _ _ _ _ T56 (mkF m 208 #[.val (.int p0), .val (.int p1), .val (.int p2), .val (.int p3), .val (.int p4), .val (.int p5), .val (.int (3 : Int32)), .val (.long s0), .second, .val (.long s1), .second, .val (.long s2), .second, .val (.ref b28), .val (.int K), .val (.int fi), .val (.int la), .val (.ref b53), .val (.int (1 : Int32)), .val (.int (2 : Int32)), .val (.long ((0 : Int64) + s1)), .second] [])
      refine Go.step (fun _ k => XS.iload X56.here hx rfl (hb hby at_208) rfl k) ?_
      show Go _ _ _ _ _ _ _ T56 (mkF m 210 #[.val (.int p0), .val (.int p1), .val (.int p2), .val (.int p3), .val (.int p4), .val (.int p5), .val (.int (3 : Int32)), .val (.long s0), .second, .val (.long s1), .second, .val (.long s2), .second, .val (.ref b28), .val (.int K), .val (.int fi), .val (.int la), .val (.ref b53), .val (.int (1 : Int32)), .val (.int (2 : Int32)), .val (.long ((0 : Int64) + s1)), .second] [(.int (1 : Int32))])
      refine Go.step (fun _ k => XS.iconst X56.here hx rfl (hb hby at_210) k) ?_
      show Go _ _ _ _ _ _ _ T56 (mkF m 211 #[.val (.int p0), .val (.int p1), .val (.int p2), .val (.int p3), .val (.int p4), .val (.int p5), .val (.int (3 : Int32)), .val (.long s0), .second, .val (.long s1), .second, .val (.long s2), .second, .val (.ref b28), .val (.int K), .val (.int fi), .val (.int la), .val (.ref b53), .val (.int (1 : Int32)), .val (.int (2 : Int32)), .val (.long ((0 : Int64) + s1)), .second] [(.int (2 : Int32)), (.int (1 : Int32))])
      refine Go.step (fun _ k => XS.icmpNo X56.here hx rfl (hb hby at_211) rfl (flt (by decide : ¬ ((2 : Int32) < (1 : Int32)))).2.2.1 k) ?_
      show Go _ _ _ _ _ _ _ T56 (mkF m 214 #[.val (.int p0), .val (.int p1), .val (.int p2), .val (.int p3), .val (.int p4), .val (.int p5), .val (.int (3 : Int32)), .val (.long s0), .second, .val (.long s1), .second, .val (.long s2), .second, .val (.ref b28), .val (.int K), .val (.int fi), .val (.int la), .val (.ref b53), .val (.int (1 : Int32)), .val (.int (2 : Int32)), .val (.long ((0 : Int64) + s1)), .second] [])
      refine Go.step (fun _ k => XS.iload X56.here hx rfl (hb hby at_214) rfl k) ?_
      show Go _ _ _ _ _ _ _ T56 (mkF m 216 #[.val (.int p0), .val (.int p1), .val (.int p2), .val (.int p3), .val (.int p4), .val (.int p5), .val (.int (3 : Int32)), .val (.long s0), .second, .val (.long s1), .second, .val (.long s2), .second, .val (.ref b28), .val (.int K), .val (.int fi), .val (.int la), .val (.ref b53), .val (.int (1 : Int32)), .val (.int (2 : Int32)), .val (.long ((0 : Int64) + s1)), .second] [(.int (2 : Int32))])
      refine Go.step (fun _ k => XS.iconst X56.here hx rfl (hb hby at_216) k) ?_
      show Go _ _ _ _ _ _ _ T56 (mkF m 217 #[.val (.int p0), .val (.int p1), .val (.int p2), .val (.int p3), .val (.int p4), .val (.int p5), .val (.int (3 : Int32)), .val (.long s0), .second, .val (.long s1), .second, .val (.long s2), .second, .val (.ref b28), .val (.int K), .val (.int fi), .val (.int la), .val (.ref b53), .val (.int (1 : Int32)), .val (.int (2 : Int32)), .val (.long ((0 : Int64) + s1)), .second] [(.int (2 : Int32)), (.int (2 : Int32))])
      refine Go.step (fun _ k => XS.icmpNo X56.here hx rfl (hb hby at_217) rfl (flt (by decide : ¬ ((2 : Int32) < (2 : Int32)))).1 k) ?_
      show Go _ _ _ _ _ _ _ T56 (mkF m 220 #[.val (.int p0), .val (.int p1), .val (.int p2), .val (.int p3), .val (.int p4), .val (.int p5), .val (.int (3 : Int32)), .val (.long s0), .second, .val (.long s1), .second, .val (.long s2), .second, .val (.ref b28), .val (.int K), .val (.int fi), .val (.int la), .val (.ref b53), .val (.int (1 : Int32)), .val (.int (2 : Int32)), .val (.long ((0 : Int64) + s1)), .second] [])
      refine Go.step (fun _ k => XS.lload X56.here hx rfl (hb hby at_220) rfl k) ?_
      show Go _ _ _ _ _ _ _ T56 (mkF m 222 #[.val (.int p0), .val (.int p1), .val (.int p2), .val (.int p3), .val (.int p4), .val (.int p5), .val (.int (3 : Int32)), .val (.long s0), .second, .val (.long s1), .second, .val (.long s2), .second, .val (.ref b28), .val (.int K), .val (.int fi), .val (.int la), .val (.ref b53), .val (.int (1 : Int32)), .val (.int (2 : Int32)), .val (.long ((0 : Int64) + s1)), .second] [(.long ((0 : Int64) + s1))])
      refine Go.step (fun _ k => XS.lload X56.here hx rfl (hb hby at_222) rfl k) ?_
      show Go _ _ _ _ _ _ _ T56 (mkF m 224 #[.val (.int p0), .val (.int p1), .val (.int p2), .val (.int p3), .val (.int p4), .val (.int p5), .val (.int (3 : Int32)), .val (.long s0), .second, .val (.long s1), .second, .val (.long s2), .second, .val (.ref b28), .val (.int K), .val (.int fi), .val (.int la), .val (.ref b53), .val (.int (1 : Int32)), .val (.int (2 : Int32)), .val (.long ((0 : Int64) + s1)), .second] [(.long s2), (.long ((0 : Int64) + s1))])
      refine Go.step (fun _ k => XS.ladd X56.here hx rfl (hb hby at_224) rfl k) ?_
      show Go _ _ _ _ _ _ _ T56 (mkF m 225 #[.val (.int p0), .val (.int p1), .val (.int p2), .val (.int p3), .val (.int p4), .val (.int p5), .val (.int (3 : Int32)), .val (.long s0), .second, .val (.long s1), .second, .val (.long s2), .second, .val (.ref b28), .val (.int K), .val (.int fi), .val (.int la), .val (.ref b53), .val (.int (1 : Int32)), .val (.int (2 : Int32)), .val (.long ((0 : Int64) + s1)), .second] [(.long (((0 : Int64) + s1) + s2))])
      refine Go.step (fun _ k => XS.lstore X56.here hx rfl (hb hby at_225) rfl (l' := #[.val (.int p0), .val (.int p1), .val (.int p2), .val (.int p3), .val (.int p4), .val (.int p5), .val (.int (3 : Int32)), .val (.long s0), .second, .val (.long s1), .second, .val (.long s2), .second, .val (.ref b28), .val (.int K), .val (.int fi), .val (.int la), .val (.ref b53), .val (.int (1 : Int32)), .val (.int (2 : Int32)), .val (.long (((0 : Int64) + s1) + s2)), .second]) rfl k) ?_
      have hAt : FP.dcmp (FP.dsub ((updN (updN (updN (fun _ => (0 : UInt64)) 1 (FP.dadd (0 : UInt64) ((updN (updN (updN (fun _ => (0 : UInt64)) 0 (FP.l2d s0)) 1 (FP.l2d s1)) 2 (FP.l2d s2)) 0))) 2 (FP.dadd (FP.dadd (0 : UInt64) ((updN (updN (updN (fun _ => (0 : UInt64)) 0 (FP.l2d s0)) 1 (FP.l2d s1)) 2 (FP.l2d s2)) 0)) ((updN (updN (updN (fun _ => (0 : UInt64)) 0 (FP.l2d s0)) 1 (FP.l2d s1)) 2 (FP.l2d s2)) 1))) 3 (FP.dadd (FP.dadd (FP.dadd (0 : UInt64) ((updN (updN (updN (fun _ => (0 : UInt64)) 0 (FP.l2d s0)) 1 (FP.l2d s1)) 2 (FP.l2d s2)) 0)) ((updN (updN (updN (fun _ => (0 : UInt64)) 0 (FP.l2d s0)) 1 (FP.l2d s1)) 2 (FP.l2d s2)) 1)) ((updN (updN (updN (fun _ => (0 : UInt64)) 0 (FP.l2d s0)) 1 (FP.l2d s1)) 2 (FP.l2d s2)) 2))) 3) ((updN (updN (updN (fun _ => (0 : UInt64)) 1 (FP.dadd (0 : UInt64) ((updN (updN (updN (fun _ => (0 : UInt64)) 0 (FP.l2d s0)) 1 (FP.l2d s1)) 2 (FP.l2d s2)) 0))) 2 (FP.dadd (FP.dadd (0 : UInt64) ((updN (updN (updN (fun _ => (0 : UInt64)) 0 (FP.l2d s0)) 1 (FP.l2d s1)) 2 (FP.l2d s2)) 0)) ((updN (updN (updN (fun _ => (0 : UInt64)) 0 (FP.l2d s0)) 1 (FP.l2d s1)) 2 (FP.l2d s2)) 1))) 3 (FP.dadd (FP.dadd (FP.dadd (0 : UInt64) ((updN (updN (updN (fun _ => (0 : UInt64)) 0 (FP.l2d s0)) 1 (FP.l2d s1)) 2 (FP.l2d s2)) 0)) ((updN (updN (updN (fun _ => (0 : UInt64)) 0 (FP.l2d s0)) 1 (FP.l2d s1)) 2 (FP.l2d s2)) 1)) ((updN (updN (updN (fun _ => (0 : UInt64)) 0 (FP.l2d s0)) 1 (FP.l2d s1)) 2 (FP.l2d s2)) 2))) 1)) (FP.l2d (((0 : Int64) + s1) + s2)) = some .eq := by
        have t0 := hs0.1; have t1 := hs0.2; have t2 := hs1.1; have t3 := hs1.2; have t4 := hs2.1; have t5 := hs2.2
        have e1 := own_sum (a := s0) (b := s1) t0 (by omega) hs1
        have e2 := own_sum (a := s0 + s1) (b := s2) (by omega) (by omega) hs2
        have hd : ((s0 + s1) + s2) - s0 = (((0 : Int64) + s1) + s2) := own_eq64 (by
          have := c_ladd s0 s1
          have := c_ladd (s0 + s1) s2
          have := c_ladd (0 : Int64) s1
          have := c_ladd ((0 : Int64) + s1) s2
          have := c_lsub ((s0 + s1) + s2) s0
          have : (0 : Int64).toInt = 0 := rfl
          omega)
        exact own_at (a := ((s0 + s1) + s2)) (b := s0) (own_d3 hs0 hs1 hs2) (own_d1 hs0) (by first | omega | decide) (by first | omega | decide) (by first | omega | decide) (by first | omega | decide) hd
      show Go _ _ _ _ _ _ _ T56 (mkF m 227 #[.val (.int p0), .val (.int p1), .val (.int p2), .val (.int p3), .val (.int p4), .val (.int p5), .val (.int (3 : Int32)), .val (.long s0), .second, .val (.long s1), .second, .val (.long s2), .second, .val (.ref b28), .val (.int K), .val (.int fi), .val (.int la), .val (.ref b53), .val (.int (1 : Int32)), .val (.int (2 : Int32)), .val (.long (((0 : Int64) + s1) + s2)), .second] [])
      refine Go.step (fun _ k => XS.aload X56.here hx rfl (hb hby at_227) rfl rfl k) ?_
      show Go _ _ _ _ _ _ _ T56 (mkF m 229 #[.val (.int p0), .val (.int p1), .val (.int p2), .val (.int p3), .val (.int p4), .val (.int p5), .val (.int (3 : Int32)), .val (.long s0), .second, .val (.long s1), .second, .val (.long s2), .second, .val (.ref b28), .val (.int K), .val (.int fi), .val (.int la), .val (.ref b53), .val (.int (1 : Int32)), .val (.int (2 : Int32)), .val (.long (((0 : Int64) + s1) + s2)), .second] [(.ref b53)])
      refine Go.step (fun _ k => XS.iload X56.here hx rfl (hb hby at_229) rfl k) ?_
      show Go _ _ _ _ _ _ _ T56 (mkF m 231 #[.val (.int p0), .val (.int p1), .val (.int p2), .val (.int p3), .val (.int p4), .val (.int p5), .val (.int (3 : Int32)), .val (.long s0), .second, .val (.long s1), .second, .val (.long s2), .second, .val (.ref b28), .val (.int K), .val (.int fi), .val (.int la), .val (.ref b53), .val (.int (1 : Int32)), .val (.int (2 : Int32)), .val (.long (((0 : Int64) + s1) + s2)), .second] [(.int fi), (.ref b53)])
      refine Go.step (fun _ k => XS.iload X56.here hx rfl (hb hby at_231) rfl k) ?_
      show Go _ _ _ _ _ _ _ T56 (mkF m 233 #[.val (.int p0), .val (.int p1), .val (.int p2), .val (.int p3), .val (.int p4), .val (.int p5), .val (.int (3 : Int32)), .val (.long s0), .second, .val (.long s1), .second, .val (.long s2), .second, .val (.ref b28), .val (.int K), .val (.int fi), .val (.int la), .val (.ref b53), .val (.int (1 : Int32)), .val (.int (2 : Int32)), .val (.long (((0 : Int64) + s1) + s2)), .second] [(.int la), (.int fi), (.ref b53)])
      refine Go.callV X56 hx hZ (by rw [hml]; rfl) (y := (⟨"tidewatch/decision/KeyGroupCeiling", "atMost", "(II)D"⟩ : MethodName)) (z := (⟨"tidewatch/decision/KeyGroupCeiling", "atMost", "(II)D"⟩ : MethodName)) (a := b53) (argsL := [(.int fi), (.int la)]) (rest := []) hown (hw _ (List.mem_of_getElem? (i := 44) rfl)) (hw _ (List.mem_of_getElem? (i := 45) rfl)) (notFace_of_selects (args := #[]) (mvT hZ (hw _ (List.mem_of_getElem? (i := 47) rfl)))) (hw _ (List.mem_of_getElem? (i := 47) rfl)) (hw _ (List.mem_of_getElem? (i := 46) rfl)) (hw _ (List.mem_of_getElem? (i := 9) rfl)) (hw _ (List.mem_of_getElem? (i := 48) rfl)) (by decide) (rm7_312 l Z a0 hw b53 fi la c54 d54 K (updN (updN (updN (fun _ => (0 : UInt64)) 0 (FP.l2d s0)) 1 (FP.l2d s1)) 2 (FP.l2d s2)) (updN (updN (updN (fun _ => (0 : UInt64)) 1 (FP.dadd (0 : UInt64) ((updN (updN (updN (fun _ => (0 : UInt64)) 0 (FP.l2d s0)) 1 (FP.l2d s1)) 2 (FP.l2d s2)) 0))) 2 (FP.dadd (FP.dadd (0 : UInt64) ((updN (updN (updN (fun _ => (0 : UInt64)) 0 (FP.l2d s0)) 1 (FP.l2d s1)) 2 (FP.l2d s2)) 0)) ((updN (updN (updN (fun _ => (0 : UInt64)) 0 (FP.l2d s0)) 1 (FP.l2d s1)) 2 (FP.l2d s2)) 1))) 3 (FP.dadd (FP.dadd (FP.dadd (0 : UInt64) ((updN (updN (updN (fun _ => (0 : UInt64)) 0 (FP.l2d s0)) 1 (FP.l2d s1)) 2 (FP.l2d s2)) 0)) ((updN (updN (updN (fun _ => (0 : UInt64)) 0 (FP.l2d s0)) 1 (FP.l2d s1)) 2 (FP.l2d s2)) 1)) ((updN (updN (updN (fun _ => (0 : UInt64)) 0 (FP.l2d s0)) 1 (FP.l2d s1)) 2 (FP.l2d s2)) 2))) T54.heap n0 (Nat.le_trans Z0 (KK54 : Keep h0 T54.heap []).1) Ec54 Fk54 Fc54 Vc54 Fd54 Vd54 hK.2 ho1.2 ho2.2 (own_nnN (Jvm.FP.Core.dcmp_some hAt).1)) hh56 Ec54 (hb hby at_233) (lenOf pd_6 rfl) rfl rfl (W := 0) (Nat.le_of_eq rfl) (by decide) (by decide) (by decide) (by decide) ?_
      intro v57 T57 L57 X57 Q57
      obtain ⟨rfl, N57q, hh57⟩ := Q57
      have N57 := Fr.app N56 N57q
      show Go _ _ _ _ _ _ _ T57 (mkF m 236 #[.val (.int p0), .val (.int p1), .val (.int p2), .val (.int p3), .val (.int p4), .val (.int p5), .val (.int (3 : Int32)), .val (.long s0), .second, .val (.long s1), .second, .val (.long s2), .second, .val (.ref b28), .val (.int K), .val (.int fi), .val (.int la), .val (.ref b53), .val (.int (1 : Int32)), .val (.int (2 : Int32)), .val (.long (((0 : Int64) + s1) + s2)), .second] [(.double (FP.dsub ((updN (updN (updN (fun _ => (0 : UInt64)) 1 (FP.dadd (0 : UInt64) ((updN (updN (updN (fun _ => (0 : UInt64)) 0 (FP.l2d s0)) 1 (FP.l2d s1)) 2 (FP.l2d s2)) 0))) 2 (FP.dadd (FP.dadd (0 : UInt64) ((updN (updN (updN (fun _ => (0 : UInt64)) 0 (FP.l2d s0)) 1 (FP.l2d s1)) 2 (FP.l2d s2)) 0)) ((updN (updN (updN (fun _ => (0 : UInt64)) 0 (FP.l2d s0)) 1 (FP.l2d s1)) 2 (FP.l2d s2)) 1))) 3 (FP.dadd (FP.dadd (FP.dadd (0 : UInt64) ((updN (updN (updN (fun _ => (0 : UInt64)) 0 (FP.l2d s0)) 1 (FP.l2d s1)) 2 (FP.l2d s2)) 0)) ((updN (updN (updN (fun _ => (0 : UInt64)) 0 (FP.l2d s0)) 1 (FP.l2d s1)) 2 (FP.l2d s2)) 1)) ((updN (updN (updN (fun _ => (0 : UInt64)) 0 (FP.l2d s0)) 1 (FP.l2d s1)) 2 (FP.l2d s2)) 2))) 3) ((updN (updN (updN (fun _ => (0 : UInt64)) 1 (FP.dadd (0 : UInt64) ((updN (updN (updN (fun _ => (0 : UInt64)) 0 (FP.l2d s0)) 1 (FP.l2d s1)) 2 (FP.l2d s2)) 0))) 2 (FP.dadd (FP.dadd (0 : UInt64) ((updN (updN (updN (fun _ => (0 : UInt64)) 0 (FP.l2d s0)) 1 (FP.l2d s1)) 2 (FP.l2d s2)) 0)) ((updN (updN (updN (fun _ => (0 : UInt64)) 0 (FP.l2d s0)) 1 (FP.l2d s1)) 2 (FP.l2d s2)) 1))) 3 (FP.dadd (FP.dadd (FP.dadd (0 : UInt64) ((updN (updN (updN (fun _ => (0 : UInt64)) 0 (FP.l2d s0)) 1 (FP.l2d s1)) 2 (FP.l2d s2)) 0)) ((updN (updN (updN (fun _ => (0 : UInt64)) 0 (FP.l2d s0)) 1 (FP.l2d s1)) 2 (FP.l2d s2)) 1)) ((updN (updN (updN (fun _ => (0 : UInt64)) 0 (FP.l2d s0)) 1 (FP.l2d s1)) 2 (FP.l2d s2)) 2))) 1)))])
      refine Go.step (fun _ k => XS.lload X57.here hx rfl (hb hby at_236) rfl k) ?_
      show Go _ _ _ _ _ _ _ T57 (mkF m 238 #[.val (.int p0), .val (.int p1), .val (.int p2), .val (.int p3), .val (.int p4), .val (.int p5), .val (.int (3 : Int32)), .val (.long s0), .second, .val (.long s1), .second, .val (.long s2), .second, .val (.ref b28), .val (.int K), .val (.int fi), .val (.int la), .val (.ref b53), .val (.int (1 : Int32)), .val (.int (2 : Int32)), .val (.long (((0 : Int64) + s1) + s2)), .second] [(.long (((0 : Int64) + s1) + s2)), (.double (FP.dsub ((updN (updN (updN (fun _ => (0 : UInt64)) 1 (FP.dadd (0 : UInt64) ((updN (updN (updN (fun _ => (0 : UInt64)) 0 (FP.l2d s0)) 1 (FP.l2d s1)) 2 (FP.l2d s2)) 0))) 2 (FP.dadd (FP.dadd (0 : UInt64) ((updN (updN (updN (fun _ => (0 : UInt64)) 0 (FP.l2d s0)) 1 (FP.l2d s1)) 2 (FP.l2d s2)) 0)) ((updN (updN (updN (fun _ => (0 : UInt64)) 0 (FP.l2d s0)) 1 (FP.l2d s1)) 2 (FP.l2d s2)) 1))) 3 (FP.dadd (FP.dadd (FP.dadd (0 : UInt64) ((updN (updN (updN (fun _ => (0 : UInt64)) 0 (FP.l2d s0)) 1 (FP.l2d s1)) 2 (FP.l2d s2)) 0)) ((updN (updN (updN (fun _ => (0 : UInt64)) 0 (FP.l2d s0)) 1 (FP.l2d s1)) 2 (FP.l2d s2)) 1)) ((updN (updN (updN (fun _ => (0 : UInt64)) 0 (FP.l2d s0)) 1 (FP.l2d s1)) 2 (FP.l2d s2)) 2))) 3) ((updN (updN (updN (fun _ => (0 : UInt64)) 1 (FP.dadd (0 : UInt64) ((updN (updN (updN (fun _ => (0 : UInt64)) 0 (FP.l2d s0)) 1 (FP.l2d s1)) 2 (FP.l2d s2)) 0))) 2 (FP.dadd (FP.dadd (0 : UInt64) ((updN (updN (updN (fun _ => (0 : UInt64)) 0 (FP.l2d s0)) 1 (FP.l2d s1)) 2 (FP.l2d s2)) 0)) ((updN (updN (updN (fun _ => (0 : UInt64)) 0 (FP.l2d s0)) 1 (FP.l2d s1)) 2 (FP.l2d s2)) 1))) 3 (FP.dadd (FP.dadd (FP.dadd (0 : UInt64) ((updN (updN (updN (fun _ => (0 : UInt64)) 0 (FP.l2d s0)) 1 (FP.l2d s1)) 2 (FP.l2d s2)) 0)) ((updN (updN (updN (fun _ => (0 : UInt64)) 0 (FP.l2d s0)) 1 (FP.l2d s1)) 2 (FP.l2d s2)) 1)) ((updN (updN (updN (fun _ => (0 : UInt64)) 0 (FP.l2d s0)) 1 (FP.l2d s1)) 2 (FP.l2d s2)) 2))) 1)))])
      refine Go.step (fun _ k => XS.l2dS X57.here hx rfl (hb hby at_238) rfl rfl k) ?_
      show Go _ _ _ _ _ _ _ T57 (mkF m 239 #[.val (.int p0), .val (.int p1), .val (.int p2), .val (.int p3), .val (.int p4), .val (.int p5), .val (.int (3 : Int32)), .val (.long s0), .second, .val (.long s1), .second, .val (.long s2), .second, .val (.ref b28), .val (.int K), .val (.int fi), .val (.int la), .val (.ref b53), .val (.int (1 : Int32)), .val (.int (2 : Int32)), .val (.long (((0 : Int64) + s1) + s2)), .second] [(.double (FP.l2d (((0 : Int64) + s1) + s2))), (.double (FP.dsub ((updN (updN (updN (fun _ => (0 : UInt64)) 1 (FP.dadd (0 : UInt64) ((updN (updN (updN (fun _ => (0 : UInt64)) 0 (FP.l2d s0)) 1 (FP.l2d s1)) 2 (FP.l2d s2)) 0))) 2 (FP.dadd (FP.dadd (0 : UInt64) ((updN (updN (updN (fun _ => (0 : UInt64)) 0 (FP.l2d s0)) 1 (FP.l2d s1)) 2 (FP.l2d s2)) 0)) ((updN (updN (updN (fun _ => (0 : UInt64)) 0 (FP.l2d s0)) 1 (FP.l2d s1)) 2 (FP.l2d s2)) 1))) 3 (FP.dadd (FP.dadd (FP.dadd (0 : UInt64) ((updN (updN (updN (fun _ => (0 : UInt64)) 0 (FP.l2d s0)) 1 (FP.l2d s1)) 2 (FP.l2d s2)) 0)) ((updN (updN (updN (fun _ => (0 : UInt64)) 0 (FP.l2d s0)) 1 (FP.l2d s1)) 2 (FP.l2d s2)) 1)) ((updN (updN (updN (fun _ => (0 : UInt64)) 0 (FP.l2d s0)) 1 (FP.l2d s1)) 2 (FP.l2d s2)) 2))) 3) ((updN (updN (updN (fun _ => (0 : UInt64)) 1 (FP.dadd (0 : UInt64) ((updN (updN (updN (fun _ => (0 : UInt64)) 0 (FP.l2d s0)) 1 (FP.l2d s1)) 2 (FP.l2d s2)) 0))) 2 (FP.dadd (FP.dadd (0 : UInt64) ((updN (updN (updN (fun _ => (0 : UInt64)) 0 (FP.l2d s0)) 1 (FP.l2d s1)) 2 (FP.l2d s2)) 0)) ((updN (updN (updN (fun _ => (0 : UInt64)) 0 (FP.l2d s0)) 1 (FP.l2d s1)) 2 (FP.l2d s2)) 1))) 3 (FP.dadd (FP.dadd (FP.dadd (0 : UInt64) ((updN (updN (updN (fun _ => (0 : UInt64)) 0 (FP.l2d s0)) 1 (FP.l2d s1)) 2 (FP.l2d s2)) 0)) ((updN (updN (updN (fun _ => (0 : UInt64)) 0 (FP.l2d s0)) 1 (FP.l2d s1)) 2 (FP.l2d s2)) 1)) ((updN (updN (updN (fun _ => (0 : UInt64)) 0 (FP.l2d s0)) 1 (FP.l2d s1)) 2 (FP.l2d s2)) 2))) 1)))])
      refine Go.step (fun _ k => XS.dcmpS X57.here hx rfl (hb hby at_239) rfl rfl k) ?_
      show Go _ _ _ _ _ _ _ T57 (mkF m 240 #[.val (.int p0), .val (.int p1), .val (.int p2), .val (.int p3), .val (.int p4), .val (.int p5), .val (.int (3 : Int32)), .val (.long s0), .second, .val (.long s1), .second, .val (.long s2), .second, .val (.ref b28), .val (.int K), .val (.int fi), .val (.int la), .val (.ref b53), .val (.int (1 : Int32)), .val (.int (2 : Int32)), .val (.long (((0 : Int64) + s1) + s2)), .second] [(.int (cmpValue (FP.dcmp (FP.dsub ((updN (updN (updN (fun _ => (0 : UInt64)) 1 (FP.dadd (0 : UInt64) ((updN (updN (updN (fun _ => (0 : UInt64)) 0 (FP.l2d s0)) 1 (FP.l2d s1)) 2 (FP.l2d s2)) 0))) 2 (FP.dadd (FP.dadd (0 : UInt64) ((updN (updN (updN (fun _ => (0 : UInt64)) 0 (FP.l2d s0)) 1 (FP.l2d s1)) 2 (FP.l2d s2)) 0)) ((updN (updN (updN (fun _ => (0 : UInt64)) 0 (FP.l2d s0)) 1 (FP.l2d s1)) 2 (FP.l2d s2)) 1))) 3 (FP.dadd (FP.dadd (FP.dadd (0 : UInt64) ((updN (updN (updN (fun _ => (0 : UInt64)) 0 (FP.l2d s0)) 1 (FP.l2d s1)) 2 (FP.l2d s2)) 0)) ((updN (updN (updN (fun _ => (0 : UInt64)) 0 (FP.l2d s0)) 1 (FP.l2d s1)) 2 (FP.l2d s2)) 1)) ((updN (updN (updN (fun _ => (0 : UInt64)) 0 (FP.l2d s0)) 1 (FP.l2d s1)) 2 (FP.l2d s2)) 2))) 3) ((updN (updN (updN (fun _ => (0 : UInt64)) 1 (FP.dadd (0 : UInt64) ((updN (updN (updN (fun _ => (0 : UInt64)) 0 (FP.l2d s0)) 1 (FP.l2d s1)) 2 (FP.l2d s2)) 0))) 2 (FP.dadd (FP.dadd (0 : UInt64) ((updN (updN (updN (fun _ => (0 : UInt64)) 0 (FP.l2d s0)) 1 (FP.l2d s1)) 2 (FP.l2d s2)) 0)) ((updN (updN (updN (fun _ => (0 : UInt64)) 0 (FP.l2d s0)) 1 (FP.l2d s1)) 2 (FP.l2d s2)) 1))) 3 (FP.dadd (FP.dadd (FP.dadd (0 : UInt64) ((updN (updN (updN (fun _ => (0 : UInt64)) 0 (FP.l2d s0)) 1 (FP.l2d s1)) 2 (FP.l2d s2)) 0)) ((updN (updN (updN (fun _ => (0 : UInt64)) 0 (FP.l2d s0)) 1 (FP.l2d s1)) 2 (FP.l2d s2)) 1)) ((updN (updN (updN (fun _ => (0 : UInt64)) 0 (FP.l2d s0)) 1 (FP.l2d s1)) 2 (FP.l2d s2)) 2))) 1)) (FP.l2d (((0 : Int64) + s1) + s2))) .l))])
      refine Go.step (fun _ k => XS.ifNo X57.here hx rfl (hb hby at_240) rfl (eq_y .l hAt).1 k) ?_
      show Go _ _ _ _ _ _ _ T57 (mkF m 243 #[.val (.int p0), .val (.int p1), .val (.int p2), .val (.int p3), .val (.int p4), .val (.int p5), .val (.int (3 : Int32)), .val (.long s0), .second, .val (.long s1), .second, .val (.long s2), .second, .val (.ref b28), .val (.int K), .val (.int fi), .val (.int la), .val (.ref b53), .val (.int (1 : Int32)), .val (.int (2 : Int32)), .val (.long (((0 : Int64) + s1) + s2)), .second] [])
      refine Go.step (fun _ k => XS.iconst X57.here hx rfl (hb hby at_243) k) ?_
      show Go _ _ _ _ _ _ _ T57 (mkF m 244 #[.val (.int p0), .val (.int p1), .val (.int p2), .val (.int p3), .val (.int p4), .val (.int p5), .val (.int (3 : Int32)), .val (.long s0), .second, .val (.long s1), .second, .val (.long s2), .second, .val (.ref b28), .val (.int K), .val (.int fi), .val (.int la), .val (.ref b53), .val (.int (1 : Int32)), .val (.int (2 : Int32)), .val (.long (((0 : Int64) + s1) + s2)), .second] [(.int (1 : Int32))])
      refine Go.step (fun _ k => XS.goto X57.here hx rfl (pc0 := 244) (pc' := 248) rfl (hb hby at_244) (by decide) (by decide) k) ?_
      show Go _ _ _ _ _ _ _ T57 (mkF m 248 #[.val (.int p0), .val (.int p1), .val (.int p2), .val (.int p3), .val (.int p4), .val (.int p5), .val (.int (3 : Int32)), .val (.long s0), .second, .val (.long s1), .second, .val (.long s2), .second, .val (.ref b28), .val (.int K), .val (.int fi), .val (.int la), .val (.ref b53), .val (.int (1 : Int32)), .val (.int (2 : Int32)), .val (.long (((0 : Int64) + s1) + s2)), .second] [(.int (1 : Int32))])
      refine Go.retZ X57 hx hlk hret (by decide) (hb hby at_248) (by decide) (by decide) ?_
      try rw [hh57]
      exact ⟨rfl, N57⟩
    · show Go _ _ _ _ _ _ _ T32 (mkF m 139 #[.val (.int p0), .val (.int p1), .val (.int p2), .val (.int p3), .val (.int p4), .val (.int p5), .val (.int (3 : Int32)), .val (.long s0), .second, .val (.long s1), .second, .val (.long s2), .second, .val (.ref b28), .val (.int K), .val (.int fi), .val (.int la), .unset, .unset, .unset, .unset, .unset] [])
      obtain ⟨T58, h58, X58, e58, E58, A58, D58, -, st58⟩ := newO X32 hx hZ hown (hw _ (List.mem_of_getElem? (i := 7) rfl)) (hw _ (List.mem_of_getElem? (i := 8) rfl)) (hw _ (List.mem_of_getElem? (i := 9) rfl)) hh32 (g := (mkF m 139 #[.val (.int p0), .val (.int p1), .val (.int p2), .val (.int p3), .val (.int p4), .val (.int p5), .val (.int (3 : Int32)), .val (.long s0), .second, .val (.long s1), .second, .val (.long s2), .second, .val (.ref b28), .val (.int K), .val (.int fi), .val (.int la), .unset, .unset, .unset, .unset, .unset] [])) rfl (hb hby at_139) (by decide) (by decide)
      obtain ⟨b58, g58⟩ : ∃ z, z = h31.size := ⟨_, rfl⟩
      rw [← g58] at A58 D58 st58
      refine Go.step st58 ?_
      have K58 : Keep h0 h58 [] := K31.ext E58
      have sz_b58 : h0.size ≤ b58 := Nat.le_trans (K31 : Keep h0 h31 []).1 (Nat.le_of_eq g58.symm)
      have ge_b58 : n0 ≤ b58 := Nat.le_trans Z0 sz_b58
      have ne_b28_b58 : b28 ≠ b58 := Nat.ne_of_lt (Nat.lt_of_lt_of_le V_b28_31.lt (Nat.le_of_eq g58.symm))
      have V_b28_58 := V_b28_31.ext E58
      have E_b28_58 := E_b28_31.ext E58
      have E_b58 := A58
      have F_keyGroups_b58 : Fld Z h58 b58 "tidewatch/decision/KeyGroupCeiling" "keyGroups" "I" (.int (0 : Int32)) := D58 (Or.inr (hw _ (List.mem_of_getElem? (i := 17) rfl))) (ty := .int) (by decide)
      have F_shares_b58 : Fld Z h58 b58 "tidewatch/decision/KeyGroupCeiling" "shares" "[D" .null := D58 (Or.inr (hw _ (List.mem_of_getElem? (i := 28) rfl))) (ty := (.array .double)) (by decide)
      have F_before_b58 : Fld Z h58 b58 "tidewatch/decision/KeyGroupCeiling" "before" "[D" .null := D58 (Or.inr (hw _ (List.mem_of_getElem? (i := 30) rfl))) (ty := (.array .double)) (by decide)
      show Go _ _ _ _ _ _ _ T58 (mkF m 142 #[.val (.int p0), .val (.int p1), .val (.int p2), .val (.int p3), .val (.int p4), .val (.int p5), .val (.int (3 : Int32)), .val (.long s0), .second, .val (.long s1), .second, .val (.long s2), .second, .val (.ref b28), .val (.int K), .val (.int fi), .val (.int la), .unset, .unset, .unset, .unset, .unset] [(.ref b58)])
      refine Go.step (fun _ k => XS.dup X58.here hx rfl (hb hby at_142) rfl rfl k) ?_
      show Go _ _ _ _ _ _ _ T58 (mkF m 143 #[.val (.int p0), .val (.int p1), .val (.int p2), .val (.int p3), .val (.int p4), .val (.int p5), .val (.int (3 : Int32)), .val (.long s0), .second, .val (.long s1), .second, .val (.long s2), .second, .val (.ref b28), .val (.int K), .val (.int fi), .val (.int la), .unset, .unset, .unset, .unset, .unset] [(.ref b58), (.ref b58)])
      refine Go.step (fun _ k => XS.iload X58.here hx rfl (hb hby at_143) rfl k) ?_
      show Go _ _ _ _ _ _ _ T58 (mkF m 145 #[.val (.int p0), .val (.int p1), .val (.int p2), .val (.int p3), .val (.int p4), .val (.int p5), .val (.int (3 : Int32)), .val (.long s0), .second, .val (.long s1), .second, .val (.long s2), .second, .val (.ref b28), .val (.int K), .val (.int fi), .val (.int la), .unset, .unset, .unset, .unset, .unset] [(.int K), (.ref b58), (.ref b58)])
      refine Go.step (fun _ k => XS.aload X58.here hx rfl (hb hby at_145) rfl rfl k) ?_
      show Go _ _ _ _ _ _ _ T58 (mkF m 147 #[.val (.int p0), .val (.int p1), .val (.int p2), .val (.int p3), .val (.int p4), .val (.int p5), .val (.int (3 : Int32)), .val (.long s0), .second, .val (.long s1), .second, .val (.long s2), .second, .val (.ref b28), .val (.int K), .val (.int fi), .val (.int la), .unset, .unset, .unset, .unset, .unset] [(.ref b28), (.int K), (.ref b58), (.ref b58)])
      refine Go.callI X58 hx hZ (by rw [hml]; rfl) (y := (⟨"tidewatch/decision/KeyGroupCeiling", "<init>", "(I[D)V"⟩ : MethodName)) (a := b58) (argsL := [(.int K), (.ref b28)]) (rest := [(.ref b58)]) rfl hown (hw _ (List.mem_of_getElem? (i := 10) rfl)) (hw _ (List.mem_of_getElem? (i := 11) rfl)) (hw _ (List.mem_of_getElem? (i := 9) rfl)) (hw _ (List.mem_of_getElem? (i := 12) rfl)) (by decide) (rm2_3 l Z a0 hw b58 b28 K (updN (updN (updN (fun _ => (0 : UInt64)) 0 (FP.l2d s0)) 1 (FP.l2d s1)) 2 (FP.l2d s2)) h58 n0 (Nat.le_trans Z0 (K58 : Keep h0 h58 []).1) E_b58 F_keyGroups_b58 F_shares_b58 F_before_b58 E_b28_58 V_b28_58 ge_b58 (Ne.symm ne_b28_b58) hK.1 (fun i hi' => by rcases (by omega : i = 0 ∨ i = 1 ∨ i = 2) with rfl | rfl | rfl; exact Jvm.Free.Fl.l2d_fin _; exact Jvm.Free.Fl.l2d_fin _; exact Jvm.Free.Fl.l2d_fin _) (fun i hi' => by rcases (by omega : i = 0 ∨ i = 1 ∨ i = 2) with rfl | rfl | rfl; exact own_nneg hs0; exact own_nneg hs1; exact own_nneg hs2)) e58 (hb hby at_147) (lenOf pd_4 rfl) rfl rfl (W := 1) (Nat.le_of_eq rfl) (by decide) (by decide) (by decide) (by decide) ?_
      intro v59 T59 L59 X59 Q59
      obtain ⟨rfl, N59q, Kc59, Ec59, Fk59, c59, d59, Fc59, Fd59, Vc59, Vd59, sc59, sd59, ncd59⟩ := Q59
      have N59 := Fr.app N32 N59q
      have ne_b28_c59 : b28 ≠ c59 := Nat.ne_of_lt (Nat.lt_of_lt_of_le V_b28_58.lt sc59)
      have ne_b28_d59 : b28 ≠ d59 := Nat.ne_of_lt (Nat.lt_of_lt_of_le V_b28_58.lt sd59)
      have V_b28_59 := V_b28_58.keep Kc59 (ninS ne_b28_b58 nin0)
      have E_b28_59 := E_b28_58.keep Kc59
      have E_b58_59 := E_b58.keep Kc59
      have KK59 : Keep h0 T59.heap [] := (K58 : Keep h0 h58 []).trans Kc59 (allS (Or.inr sz_b58) all0)
      show Go _ _ _ _ _ _ _ T59 (mkF m 150 #[.val (.int p0), .val (.int p1), .val (.int p2), .val (.int p3), .val (.int p4), .val (.int p5), .val (.int (3 : Int32)), .val (.long s0), .second, .val (.long s1), .second, .val (.long s2), .second, .val (.ref b28), .val (.int K), .val (.int fi), .val (.int la), .unset, .unset, .unset, .unset, .unset] [(.ref b58)])
      refine Go.step (fun _ k => XS.astore X59.here hx rfl (hb hby at_150) rfl rfl (l' := #[.val (.int p0), .val (.int p1), .val (.int p2), .val (.int p3), .val (.int p4), .val (.int p5), .val (.int (3 : Int32)), .val (.long s0), .second, .val (.long s1), .second, .val (.long s2), .second, .val (.ref b28), .val (.int K), .val (.int fi), .val (.int la), .val (.ref b58), .unset, .unset, .unset, .unset]) rfl k) ?_
      show Go _ _ _ _ _ _ _ T59 (mkF m 152 #[.val (.int p0), .val (.int p1), .val (.int p2), .val (.int p3), .val (.int p4), .val (.int p5), .val (.int (3 : Int32)), .val (.long s0), .second, .val (.long s1), .second, .val (.long s2), .second, .val (.ref b28), .val (.int K), .val (.int fi), .val (.int la), .val (.ref b58), .unset, .unset, .unset, .unset] [])
      refine Go.step (fun _ k => XS.iload X59.here hx rfl (hb hby at_152) rfl k) ?_
      show Go _ _ _ _ _ _ _ T59 (mkF m 154 #[.val (.int p0), .val (.int p1), .val (.int p2), .val (.int p3), .val (.int p4), .val (.int p5), .val (.int (3 : Int32)), .val (.long s0), .second, .val (.long s1), .second, .val (.long s2), .second, .val (.ref b28), .val (.int K), .val (.int fi), .val (.int la), .val (.ref b58), .unset, .unset, .unset, .unset] [(.int fi)])
      refine Go.step (fun _ k => XS.iload X59.here hx rfl (hb hby at_154) rfl k) ?_
      show Go _ _ _ _ _ _ _ T59 (mkF m 156 #[.val (.int p0), .val (.int p1), .val (.int p2), .val (.int p3), .val (.int p4), .val (.int p5), .val (.int (3 : Int32)), .val (.long s0), .second, .val (.long s1), .second, .val (.long s2), .second, .val (.ref b28), .val (.int K), .val (.int fi), .val (.int la), .val (.ref b58), .unset, .unset, .unset, .unset] [(.int (3 : Int32)), (.int fi)])
      refine Go.step (fun _ k => XS.iload X59.here hx rfl (hb hby at_156) rfl k) ?_
      show Go _ _ _ _ _ _ _ T59 (mkF m 158 #[.val (.int p0), .val (.int p1), .val (.int p2), .val (.int p3), .val (.int p4), .val (.int p5), .val (.int (3 : Int32)), .val (.long s0), .second, .val (.long s1), .second, .val (.long s2), .second, .val (.ref b28), .val (.int K), .val (.int fi), .val (.int la), .val (.ref b58), .unset, .unset, .unset, .unset] [(.int K), (.int (3 : Int32)), (.int fi)])
      refine Go.callS X59 hx hZ (by rw [hml]; rfl) (y := (⟨"tidewatch/decision/KeyGroupCeilingAtMostPinLaw", "ownerRef", "(III)I"⟩ : MethodName)) (argsL := [(.int fi), (.int (3 : Int32)), (.int K)]) (rest := []) hown (hw _ (List.mem_of_getElem? (i := 39) rfl)) (hw _ (List.mem_of_getElem? (i := 40) rfl)) (hw _ (List.mem_of_getElem? (i := 41) rfl)) (hw _ (List.mem_of_getElem? (i := 42) rfl)) (by decide) (rm6_3 l Z a0 hw fi K T59.heap n0 (Nat.le_trans Z0 (KK59 : Keep h0 T59.heap []).1)) rfl (hb hby at_158) (lenOf pd_5 rfl) rfl rfl (W := 0) (Nat.le_of_eq rfl) (by decide) (by decide) (by decide) (by decide) ?_
      intro v60 T60 L60 X60 Q60
      rw [ho1.1] at Q60
      obtain ⟨rfl, N60q, hh60⟩ := Q60
      have N60 := Fr.app N59 N60q
      show Go _ _ _ _ _ _ _ T60 (mkF m 161 #[.val (.int p0), .val (.int p1), .val (.int p2), .val (.int p3), .val (.int p4), .val (.int p5), .val (.int (3 : Int32)), .val (.long s0), .second, .val (.long s1), .second, .val (.long s2), .second, .val (.ref b28), .val (.int K), .val (.int fi), .val (.int la), .val (.ref b58), .unset, .unset, .unset, .unset] [(.int (2 : Int32))])
      refine Go.step (fun _ k => XS.istore X60.here hx rfl (hb hby at_161) rfl (l' := #[.val (.int p0), .val (.int p1), .val (.int p2), .val (.int p3), .val (.int p4), .val (.int p5), .val (.int (3 : Int32)), .val (.long s0), .second, .val (.long s1), .second, .val (.long s2), .second, .val (.ref b28), .val (.int K), .val (.int fi), .val (.int la), .val (.ref b58), .val (.int (2 : Int32)), .unset, .unset, .unset]) rfl k) ?_
      show Go _ _ _ _ _ _ _ T60 (mkF m 163 #[.val (.int p0), .val (.int p1), .val (.int p2), .val (.int p3), .val (.int p4), .val (.int p5), .val (.int (3 : Int32)), .val (.long s0), .second, .val (.long s1), .second, .val (.long s2), .second, .val (.ref b28), .val (.int K), .val (.int fi), .val (.int la), .val (.ref b58), .val (.int (2 : Int32)), .unset, .unset, .unset] [])
      refine Go.step (fun _ k => XS.iload X60.here hx rfl (hb hby at_163) rfl k) ?_
      show Go _ _ _ _ _ _ _ T60 (mkF m 165 #[.val (.int p0), .val (.int p1), .val (.int p2), .val (.int p3), .val (.int p4), .val (.int p5), .val (.int (3 : Int32)), .val (.long s0), .second, .val (.long s1), .second, .val (.long s2), .second, .val (.ref b28), .val (.int K), .val (.int fi), .val (.int la), .val (.ref b58), .val (.int (2 : Int32)), .unset, .unset, .unset] [(.int la)])
      refine Go.step (fun _ k => XS.iload X60.here hx rfl (hb hby at_165) rfl k) ?_
      show Go _ _ _ _ _ _ _ T60 (mkF m 167 #[.val (.int p0), .val (.int p1), .val (.int p2), .val (.int p3), .val (.int p4), .val (.int p5), .val (.int (3 : Int32)), .val (.long s0), .second, .val (.long s1), .second, .val (.long s2), .second, .val (.ref b28), .val (.int K), .val (.int fi), .val (.int la), .val (.ref b58), .val (.int (2 : Int32)), .unset, .unset, .unset] [(.int (3 : Int32)), (.int la)])
      refine Go.step (fun _ k => XS.iload X60.here hx rfl (hb hby at_167) rfl k) ?_
      show Go _ _ _ _ _ _ _ T60 (mkF m 169 #[.val (.int p0), .val (.int p1), .val (.int p2), .val (.int p3), .val (.int p4), .val (.int p5), .val (.int (3 : Int32)), .val (.long s0), .second, .val (.long s1), .second, .val (.long s2), .second, .val (.ref b28), .val (.int K), .val (.int fi), .val (.int la), .val (.ref b58), .val (.int (2 : Int32)), .unset, .unset, .unset] [(.int K), (.int (3 : Int32)), (.int la)])
      refine Go.callS X60 hx hZ (by rw [hml]; rfl) (y := (⟨"tidewatch/decision/KeyGroupCeilingAtMostPinLaw", "ownerRef", "(III)I"⟩ : MethodName)) (argsL := [(.int la), (.int (3 : Int32)), (.int K)]) (rest := []) hown (hw _ (List.mem_of_getElem? (i := 39) rfl)) (hw _ (List.mem_of_getElem? (i := 40) rfl)) (hw _ (List.mem_of_getElem? (i := 41) rfl)) (hw _ (List.mem_of_getElem? (i := 42) rfl)) (by decide) (rm6_3 l Z a0 hw la K T59.heap n0 (Nat.le_trans Z0 (KK59 : Keep h0 T59.heap []).1)) hh60 (hb hby at_169) (lenOf pd_5 rfl) rfl rfl (W := 0) (Nat.le_of_eq rfl) (by decide) (by decide) (by decide) (by decide) ?_
      intro v61 T61 L61 X61 Q61
      rw [ho2.1] at Q61
      obtain ⟨rfl, N61q, hh61⟩ := Q61
      have N61 := Fr.app N60 N61q
      show Go _ _ _ _ _ _ _ T61 (mkF m 172 #[.val (.int p0), .val (.int p1), .val (.int p2), .val (.int p3), .val (.int p4), .val (.int p5), .val (.int (3 : Int32)), .val (.long s0), .second, .val (.long s1), .second, .val (.long s2), .second, .val (.ref b28), .val (.int K), .val (.int fi), .val (.int la), .val (.ref b58), .val (.int (2 : Int32)), .unset, .unset, .unset] [(.int (2 : Int32))])
      refine Go.step (fun _ k => XS.istore X61.here hx rfl (hb hby at_172) rfl (l' := #[.val (.int p0), .val (.int p1), .val (.int p2), .val (.int p3), .val (.int p4), .val (.int p5), .val (.int (3 : Int32)), .val (.long s0), .second, .val (.long s1), .second, .val (.long s2), .second, .val (.ref b28), .val (.int K), .val (.int fi), .val (.int la), .val (.ref b58), .val (.int (2 : Int32)), .val (.int (2 : Int32)), .unset, .unset]) rfl k) ?_
      show Go _ _ _ _ _ _ _ T61 (mkF m 174 #[.val (.int p0), .val (.int p1), .val (.int p2), .val (.int p3), .val (.int p4), .val (.int p5), .val (.int (3 : Int32)), .val (.long s0), .second, .val (.long s1), .second, .val (.long s2), .second, .val (.ref b28), .val (.int K), .val (.int fi), .val (.int la), .val (.ref b58), .val (.int (2 : Int32)), .val (.int (2 : Int32)), .unset, .unset] [])
      refine Go.step (fun _ k => XS.lconst X61.here hx rfl (hb hby at_174) k) ?_
      show Go _ _ _ _ _ _ _ T61 (mkF m 175 #[.val (.int p0), .val (.int p1), .val (.int p2), .val (.int p3), .val (.int p4), .val (.int p5), .val (.int (3 : Int32)), .val (.long s0), .second, .val (.long s1), .second, .val (.long s2), .second, .val (.ref b28), .val (.int K), .val (.int fi), .val (.int la), .val (.ref b58), .val (.int (2 : Int32)), .val (.int (2 : Int32)), .unset, .unset] [(.long (0 : Int64))])
      refine Go.step (fun _ k => XS.lstore X61.here hx rfl (hb hby at_175) rfl (l' := #[.val (.int p0), .val (.int p1), .val (.int p2), .val (.int p3), .val (.int p4), .val (.int p5), .val (.int (3 : Int32)), .val (.long s0), .second, .val (.long s1), .second, .val (.long s2), .second, .val (.ref b28), .val (.int K), .val (.int fi), .val (.int la), .val (.ref b58), .val (.int (2 : Int32)), .val (.int (2 : Int32)), .val (.long (0 : Int64)), .second]) rfl k) ?_
      show Go _ _ _ _ _ _ _ T61 (mkF m 177 #[.val (.int p0), .val (.int p1), .val (.int p2), .val (.int p3), .val (.int p4), .val (.int p5), .val (.int (3 : Int32)), .val (.long s0), .second, .val (.long s1), .second, .val (.long s2), .second, .val (.ref b28), .val (.int K), .val (.int fi), .val (.int la), .val (.ref b58), .val (.int (2 : Int32)), .val (.int (2 : Int32)), .val (.long (0 : Int64)), .second] [])
      refine Go.step (fun _ k => XS.iload X61.here hx rfl (hb hby at_177) rfl k) ?_
      show Go _ _ _ _ _ _ _ T61 (mkF m 179 #[.val (.int p0), .val (.int p1), .val (.int p2), .val (.int p3), .val (.int p4), .val (.int p5), .val (.int (3 : Int32)), .val (.long s0), .second, .val (.long s1), .second, .val (.long s2), .second, .val (.ref b28), .val (.int K), .val (.int fi), .val (.int la), .val (.ref b58), .val (.int (2 : Int32)), .val (.int (2 : Int32)), .val (.long (0 : Int64)), .second] [(.int (2 : Int32))])
      refine Go.step (fun _ k => XS.ifYes X61.here hx rfl (pc0 := 179) (pc' := 189) rfl (hb hby at_179) rfl ((if0 _ _).trans (tlt (by decide : (0 : Int32) < (2 : Int32))).2.2.1) (by decide) (by decide) k) ?_
      show Go _ _ _ _ _ _ _ T61 (mkF m 189 #[.val (.int p0), .val (.int p1), .val (.int p2), .val (.int p3), .val (.int p4), .val (.int p5), .val (.int (3 : Int32)), .val (.long s0), .second, .val (.long s1), .second, .val (.long s2), .second, .val (.ref b28), .val (.int K), .val (.int fi), .val (.int la), .val (.ref b58), .val (.int (2 : Int32)), .val (.int (2 : Int32)), .val (.long (0 : Int64)), .second] [])
      refine Go.step (fun _ k => XS.iload X61.here hx rfl (hb hby at_189) rfl k) ?_
      show Go _ _ _ _ _ _ _ T61 (mkF m 191 #[.val (.int p0), .val (.int p1), .val (.int p2), .val (.int p3), .val (.int p4), .val (.int p5), .val (.int (3 : Int32)), .val (.long s0), .second, .val (.long s1), .second, .val (.long s2), .second, .val (.ref b28), .val (.int K), .val (.int fi), .val (.int la), .val (.ref b58), .val (.int (2 : Int32)), .val (.int (2 : Int32)), .val (.long (0 : Int64)), .second] [(.int (2 : Int32))])
      refine Go.step (fun _ k => XS.iconst X61.here hx rfl (hb hby at_191) k) ?_
      show Go _ _ _ _ _ _ _ T61 (mkF m 192 #[.val (.int p0), .val (.int p1), .val (.int p2), .val (.int p3), .val (.int p4), .val (.int p5), .val (.int (3 : Int32)), .val (.long s0), .second, .val (.long s1), .second, .val (.long s2), .second, .val (.ref b28), .val (.int K), .val (.int fi), .val (.int la), .val (.ref b58), .val (.int (2 : Int32)), .val (.int (2 : Int32)), .val (.long (0 : Int64)), .second] [(.int (1 : Int32)), (.int (2 : Int32))])
      refine Go.step (fun _ k => XS.icmpYes X61.here hx rfl (pc0 := 192) (pc' := 208) rfl (hb hby at_192) rfl (tlt (by decide : (1 : Int32) < (2 : Int32))).2.2.1 (by decide) (by decide) k) ?_
      show Go _ _ _ _ _ _ _ T61 (mkF m 208 #[.val (.int p0), .val (.int p1), .val (.int p2), .val (.int p3), .val (.int p4), .val (.int p5), .val (.int (3 : Int32)), .val (.long s0), .second, .val (.long s1), .second, .val (.long s2), .second, .val (.ref b28), .val (.int K), .val (.int fi), .val (.int la), .val (.ref b58), .val (.int (2 : Int32)), .val (.int (2 : Int32)), .val (.long (0 : Int64)), .second] [])
      refine Go.step (fun _ k => XS.iload X61.here hx rfl (hb hby at_208) rfl k) ?_
      show Go _ _ _ _ _ _ _ T61 (mkF m 210 #[.val (.int p0), .val (.int p1), .val (.int p2), .val (.int p3), .val (.int p4), .val (.int p5), .val (.int (3 : Int32)), .val (.long s0), .second, .val (.long s1), .second, .val (.long s2), .second, .val (.ref b28), .val (.int K), .val (.int fi), .val (.int la), .val (.ref b58), .val (.int (2 : Int32)), .val (.int (2 : Int32)), .val (.long (0 : Int64)), .second] [(.int (2 : Int32))])
      refine Go.step (fun _ k => XS.iconst X61.here hx rfl (hb hby at_210) k) ?_
      show Go _ _ _ _ _ _ _ T61 (mkF m 211 #[.val (.int p0), .val (.int p1), .val (.int p2), .val (.int p3), .val (.int p4), .val (.int p5), .val (.int (3 : Int32)), .val (.long s0), .second, .val (.long s1), .second, .val (.long s2), .second, .val (.ref b28), .val (.int K), .val (.int fi), .val (.int la), .val (.ref b58), .val (.int (2 : Int32)), .val (.int (2 : Int32)), .val (.long (0 : Int64)), .second] [(.int (2 : Int32)), (.int (2 : Int32))])
      refine Go.step (fun _ k => XS.icmpNo X61.here hx rfl (hb hby at_211) rfl (flt (by decide : ¬ ((2 : Int32) < (2 : Int32)))).2.2.1 k) ?_
      show Go _ _ _ _ _ _ _ T61 (mkF m 214 #[.val (.int p0), .val (.int p1), .val (.int p2), .val (.int p3), .val (.int p4), .val (.int p5), .val (.int (3 : Int32)), .val (.long s0), .second, .val (.long s1), .second, .val (.long s2), .second, .val (.ref b28), .val (.int K), .val (.int fi), .val (.int la), .val (.ref b58), .val (.int (2 : Int32)), .val (.int (2 : Int32)), .val (.long (0 : Int64)), .second] [])
      refine Go.step (fun _ k => XS.iload X61.here hx rfl (hb hby at_214) rfl k) ?_
      show Go _ _ _ _ _ _ _ T61 (mkF m 216 #[.val (.int p0), .val (.int p1), .val (.int p2), .val (.int p3), .val (.int p4), .val (.int p5), .val (.int (3 : Int32)), .val (.long s0), .second, .val (.long s1), .second, .val (.long s2), .second, .val (.ref b28), .val (.int K), .val (.int fi), .val (.int la), .val (.ref b58), .val (.int (2 : Int32)), .val (.int (2 : Int32)), .val (.long (0 : Int64)), .second] [(.int (2 : Int32))])
      refine Go.step (fun _ k => XS.iconst X61.here hx rfl (hb hby at_216) k) ?_
      show Go _ _ _ _ _ _ _ T61 (mkF m 217 #[.val (.int p0), .val (.int p1), .val (.int p2), .val (.int p3), .val (.int p4), .val (.int p5), .val (.int (3 : Int32)), .val (.long s0), .second, .val (.long s1), .second, .val (.long s2), .second, .val (.ref b28), .val (.int K), .val (.int fi), .val (.int la), .val (.ref b58), .val (.int (2 : Int32)), .val (.int (2 : Int32)), .val (.long (0 : Int64)), .second] [(.int (2 : Int32)), (.int (2 : Int32))])
      refine Go.step (fun _ k => XS.icmpNo X61.here hx rfl (hb hby at_217) rfl (flt (by decide : ¬ ((2 : Int32) < (2 : Int32)))).1 k) ?_
      show Go _ _ _ _ _ _ _ T61 (mkF m 220 #[.val (.int p0), .val (.int p1), .val (.int p2), .val (.int p3), .val (.int p4), .val (.int p5), .val (.int (3 : Int32)), .val (.long s0), .second, .val (.long s1), .second, .val (.long s2), .second, .val (.ref b28), .val (.int K), .val (.int fi), .val (.int la), .val (.ref b58), .val (.int (2 : Int32)), .val (.int (2 : Int32)), .val (.long (0 : Int64)), .second] [])
      refine Go.step (fun _ k => XS.lload X61.here hx rfl (hb hby at_220) rfl k) ?_
      show Go _ _ _ _ _ _ _ T61 (mkF m 222 #[.val (.int p0), .val (.int p1), .val (.int p2), .val (.int p3), .val (.int p4), .val (.int p5), .val (.int (3 : Int32)), .val (.long s0), .second, .val (.long s1), .second, .val (.long s2), .second, .val (.ref b28), .val (.int K), .val (.int fi), .val (.int la), .val (.ref b58), .val (.int (2 : Int32)), .val (.int (2 : Int32)), .val (.long (0 : Int64)), .second] [(.long (0 : Int64))])
      refine Go.step (fun _ k => XS.lload X61.here hx rfl (hb hby at_222) rfl k) ?_
      show Go _ _ _ _ _ _ _ T61 (mkF m 224 #[.val (.int p0), .val (.int p1), .val (.int p2), .val (.int p3), .val (.int p4), .val (.int p5), .val (.int (3 : Int32)), .val (.long s0), .second, .val (.long s1), .second, .val (.long s2), .second, .val (.ref b28), .val (.int K), .val (.int fi), .val (.int la), .val (.ref b58), .val (.int (2 : Int32)), .val (.int (2 : Int32)), .val (.long (0 : Int64)), .second] [(.long s2), (.long (0 : Int64))])
      refine Go.step (fun _ k => XS.ladd X61.here hx rfl (hb hby at_224) rfl k) ?_
      show Go _ _ _ _ _ _ _ T61 (mkF m 225 #[.val (.int p0), .val (.int p1), .val (.int p2), .val (.int p3), .val (.int p4), .val (.int p5), .val (.int (3 : Int32)), .val (.long s0), .second, .val (.long s1), .second, .val (.long s2), .second, .val (.ref b28), .val (.int K), .val (.int fi), .val (.int la), .val (.ref b58), .val (.int (2 : Int32)), .val (.int (2 : Int32)), .val (.long (0 : Int64)), .second] [(.long ((0 : Int64) + s2))])
      refine Go.step (fun _ k => XS.lstore X61.here hx rfl (hb hby at_225) rfl (l' := #[.val (.int p0), .val (.int p1), .val (.int p2), .val (.int p3), .val (.int p4), .val (.int p5), .val (.int (3 : Int32)), .val (.long s0), .second, .val (.long s1), .second, .val (.long s2), .second, .val (.ref b28), .val (.int K), .val (.int fi), .val (.int la), .val (.ref b58), .val (.int (2 : Int32)), .val (.int (2 : Int32)), .val (.long ((0 : Int64) + s2)), .second]) rfl k) ?_
      have hAt : FP.dcmp (FP.dsub ((updN (updN (updN (fun _ => (0 : UInt64)) 1 (FP.dadd (0 : UInt64) ((updN (updN (updN (fun _ => (0 : UInt64)) 0 (FP.l2d s0)) 1 (FP.l2d s1)) 2 (FP.l2d s2)) 0))) 2 (FP.dadd (FP.dadd (0 : UInt64) ((updN (updN (updN (fun _ => (0 : UInt64)) 0 (FP.l2d s0)) 1 (FP.l2d s1)) 2 (FP.l2d s2)) 0)) ((updN (updN (updN (fun _ => (0 : UInt64)) 0 (FP.l2d s0)) 1 (FP.l2d s1)) 2 (FP.l2d s2)) 1))) 3 (FP.dadd (FP.dadd (FP.dadd (0 : UInt64) ((updN (updN (updN (fun _ => (0 : UInt64)) 0 (FP.l2d s0)) 1 (FP.l2d s1)) 2 (FP.l2d s2)) 0)) ((updN (updN (updN (fun _ => (0 : UInt64)) 0 (FP.l2d s0)) 1 (FP.l2d s1)) 2 (FP.l2d s2)) 1)) ((updN (updN (updN (fun _ => (0 : UInt64)) 0 (FP.l2d s0)) 1 (FP.l2d s1)) 2 (FP.l2d s2)) 2))) 3) ((updN (updN (updN (fun _ => (0 : UInt64)) 1 (FP.dadd (0 : UInt64) ((updN (updN (updN (fun _ => (0 : UInt64)) 0 (FP.l2d s0)) 1 (FP.l2d s1)) 2 (FP.l2d s2)) 0))) 2 (FP.dadd (FP.dadd (0 : UInt64) ((updN (updN (updN (fun _ => (0 : UInt64)) 0 (FP.l2d s0)) 1 (FP.l2d s1)) 2 (FP.l2d s2)) 0)) ((updN (updN (updN (fun _ => (0 : UInt64)) 0 (FP.l2d s0)) 1 (FP.l2d s1)) 2 (FP.l2d s2)) 1))) 3 (FP.dadd (FP.dadd (FP.dadd (0 : UInt64) ((updN (updN (updN (fun _ => (0 : UInt64)) 0 (FP.l2d s0)) 1 (FP.l2d s1)) 2 (FP.l2d s2)) 0)) ((updN (updN (updN (fun _ => (0 : UInt64)) 0 (FP.l2d s0)) 1 (FP.l2d s1)) 2 (FP.l2d s2)) 1)) ((updN (updN (updN (fun _ => (0 : UInt64)) 0 (FP.l2d s0)) 1 (FP.l2d s1)) 2 (FP.l2d s2)) 2))) 2)) (FP.l2d ((0 : Int64) + s2)) = some .eq := by
        have t0 := hs0.1; have t1 := hs0.2; have t2 := hs1.1; have t3 := hs1.2; have t4 := hs2.1; have t5 := hs2.2
        have e1 := own_sum (a := s0) (b := s1) t0 (by omega) hs1
        have e2 := own_sum (a := s0 + s1) (b := s2) (by omega) (by omega) hs2
        have hd : ((s0 + s1) + s2) - (s0 + s1) = ((0 : Int64) + s2) := own_eq64 (by
          have := c_ladd s0 s1
          have := c_ladd (s0 + s1) s2
          have := c_ladd (0 : Int64) s2
          have := c_lsub ((s0 + s1) + s2) (s0 + s1)
          have : (0 : Int64).toInt = 0 := rfl
          omega)
        exact own_at (a := ((s0 + s1) + s2)) (b := (s0 + s1)) (own_d3 hs0 hs1 hs2) (own_d2 hs0 hs1) (by first | omega | decide) (by first | omega | decide) (by first | omega | decide) (by first | omega | decide) hd
      show Go _ _ _ _ _ _ _ T61 (mkF m 227 #[.val (.int p0), .val (.int p1), .val (.int p2), .val (.int p3), .val (.int p4), .val (.int p5), .val (.int (3 : Int32)), .val (.long s0), .second, .val (.long s1), .second, .val (.long s2), .second, .val (.ref b28), .val (.int K), .val (.int fi), .val (.int la), .val (.ref b58), .val (.int (2 : Int32)), .val (.int (2 : Int32)), .val (.long ((0 : Int64) + s2)), .second] [])
      refine Go.step (fun _ k => XS.aload X61.here hx rfl (hb hby at_227) rfl rfl k) ?_
      show Go _ _ _ _ _ _ _ T61 (mkF m 229 #[.val (.int p0), .val (.int p1), .val (.int p2), .val (.int p3), .val (.int p4), .val (.int p5), .val (.int (3 : Int32)), .val (.long s0), .second, .val (.long s1), .second, .val (.long s2), .second, .val (.ref b28), .val (.int K), .val (.int fi), .val (.int la), .val (.ref b58), .val (.int (2 : Int32)), .val (.int (2 : Int32)), .val (.long ((0 : Int64) + s2)), .second] [(.ref b58)])
      refine Go.step (fun _ k => XS.iload X61.here hx rfl (hb hby at_229) rfl k) ?_
      show Go _ _ _ _ _ _ _ T61 (mkF m 231 #[.val (.int p0), .val (.int p1), .val (.int p2), .val (.int p3), .val (.int p4), .val (.int p5), .val (.int (3 : Int32)), .val (.long s0), .second, .val (.long s1), .second, .val (.long s2), .second, .val (.ref b28), .val (.int K), .val (.int fi), .val (.int la), .val (.ref b58), .val (.int (2 : Int32)), .val (.int (2 : Int32)), .val (.long ((0 : Int64) + s2)), .second] [(.int fi), (.ref b58)])
      refine Go.step (fun _ k => XS.iload X61.here hx rfl (hb hby at_231) rfl k) ?_
      show Go _ _ _ _ _ _ _ T61 (mkF m 233 #[.val (.int p0), .val (.int p1), .val (.int p2), .val (.int p3), .val (.int p4), .val (.int p5), .val (.int (3 : Int32)), .val (.long s0), .second, .val (.long s1), .second, .val (.long s2), .second, .val (.ref b28), .val (.int K), .val (.int fi), .val (.int la), .val (.ref b58), .val (.int (2 : Int32)), .val (.int (2 : Int32)), .val (.long ((0 : Int64) + s2)), .second] [(.int la), (.int fi), (.ref b58)])
      refine Go.callV X61 hx hZ (by rw [hml]; rfl) (y := (⟨"tidewatch/decision/KeyGroupCeiling", "atMost", "(II)D"⟩ : MethodName)) (z := (⟨"tidewatch/decision/KeyGroupCeiling", "atMost", "(II)D"⟩ : MethodName)) (a := b58) (argsL := [(.int fi), (.int la)]) (rest := []) hown (hw _ (List.mem_of_getElem? (i := 44) rfl)) (hw _ (List.mem_of_getElem? (i := 45) rfl)) (notFace_of_selects (args := #[]) (mvT hZ (hw _ (List.mem_of_getElem? (i := 47) rfl)))) (hw _ (List.mem_of_getElem? (i := 47) rfl)) (hw _ (List.mem_of_getElem? (i := 46) rfl)) (hw _ (List.mem_of_getElem? (i := 9) rfl)) (hw _ (List.mem_of_getElem? (i := 48) rfl)) (by decide) (rm7_322 l Z a0 hw b58 fi la c59 d59 K (updN (updN (updN (fun _ => (0 : UInt64)) 0 (FP.l2d s0)) 1 (FP.l2d s1)) 2 (FP.l2d s2)) (updN (updN (updN (fun _ => (0 : UInt64)) 1 (FP.dadd (0 : UInt64) ((updN (updN (updN (fun _ => (0 : UInt64)) 0 (FP.l2d s0)) 1 (FP.l2d s1)) 2 (FP.l2d s2)) 0))) 2 (FP.dadd (FP.dadd (0 : UInt64) ((updN (updN (updN (fun _ => (0 : UInt64)) 0 (FP.l2d s0)) 1 (FP.l2d s1)) 2 (FP.l2d s2)) 0)) ((updN (updN (updN (fun _ => (0 : UInt64)) 0 (FP.l2d s0)) 1 (FP.l2d s1)) 2 (FP.l2d s2)) 1))) 3 (FP.dadd (FP.dadd (FP.dadd (0 : UInt64) ((updN (updN (updN (fun _ => (0 : UInt64)) 0 (FP.l2d s0)) 1 (FP.l2d s1)) 2 (FP.l2d s2)) 0)) ((updN (updN (updN (fun _ => (0 : UInt64)) 0 (FP.l2d s0)) 1 (FP.l2d s1)) 2 (FP.l2d s2)) 1)) ((updN (updN (updN (fun _ => (0 : UInt64)) 0 (FP.l2d s0)) 1 (FP.l2d s1)) 2 (FP.l2d s2)) 2))) T59.heap n0 (Nat.le_trans Z0 (KK59 : Keep h0 T59.heap []).1) Ec59 Fk59 Fc59 Vc59 Fd59 Vd59 hK.2 ho1.2 ho2.2 (own_nnN (Jvm.FP.Core.dcmp_some hAt).1)) hh61 Ec59 (hb hby at_233) (lenOf pd_6 rfl) rfl rfl (W := 0) (Nat.le_of_eq rfl) (by decide) (by decide) (by decide) (by decide) ?_
      intro v62 T62 L62 X62 Q62
      obtain ⟨rfl, N62q, hh62⟩ := Q62
      have N62 := Fr.app N61 N62q
      show Go _ _ _ _ _ _ _ T62 (mkF m 236 #[.val (.int p0), .val (.int p1), .val (.int p2), .val (.int p3), .val (.int p4), .val (.int p5), .val (.int (3 : Int32)), .val (.long s0), .second, .val (.long s1), .second, .val (.long s2), .second, .val (.ref b28), .val (.int K), .val (.int fi), .val (.int la), .val (.ref b58), .val (.int (2 : Int32)), .val (.int (2 : Int32)), .val (.long ((0 : Int64) + s2)), .second] [(.double (FP.dsub ((updN (updN (updN (fun _ => (0 : UInt64)) 1 (FP.dadd (0 : UInt64) ((updN (updN (updN (fun _ => (0 : UInt64)) 0 (FP.l2d s0)) 1 (FP.l2d s1)) 2 (FP.l2d s2)) 0))) 2 (FP.dadd (FP.dadd (0 : UInt64) ((updN (updN (updN (fun _ => (0 : UInt64)) 0 (FP.l2d s0)) 1 (FP.l2d s1)) 2 (FP.l2d s2)) 0)) ((updN (updN (updN (fun _ => (0 : UInt64)) 0 (FP.l2d s0)) 1 (FP.l2d s1)) 2 (FP.l2d s2)) 1))) 3 (FP.dadd (FP.dadd (FP.dadd (0 : UInt64) ((updN (updN (updN (fun _ => (0 : UInt64)) 0 (FP.l2d s0)) 1 (FP.l2d s1)) 2 (FP.l2d s2)) 0)) ((updN (updN (updN (fun _ => (0 : UInt64)) 0 (FP.l2d s0)) 1 (FP.l2d s1)) 2 (FP.l2d s2)) 1)) ((updN (updN (updN (fun _ => (0 : UInt64)) 0 (FP.l2d s0)) 1 (FP.l2d s1)) 2 (FP.l2d s2)) 2))) 3) ((updN (updN (updN (fun _ => (0 : UInt64)) 1 (FP.dadd (0 : UInt64) ((updN (updN (updN (fun _ => (0 : UInt64)) 0 (FP.l2d s0)) 1 (FP.l2d s1)) 2 (FP.l2d s2)) 0))) 2 (FP.dadd (FP.dadd (0 : UInt64) ((updN (updN (updN (fun _ => (0 : UInt64)) 0 (FP.l2d s0)) 1 (FP.l2d s1)) 2 (FP.l2d s2)) 0)) ((updN (updN (updN (fun _ => (0 : UInt64)) 0 (FP.l2d s0)) 1 (FP.l2d s1)) 2 (FP.l2d s2)) 1))) 3 (FP.dadd (FP.dadd (FP.dadd (0 : UInt64) ((updN (updN (updN (fun _ => (0 : UInt64)) 0 (FP.l2d s0)) 1 (FP.l2d s1)) 2 (FP.l2d s2)) 0)) ((updN (updN (updN (fun _ => (0 : UInt64)) 0 (FP.l2d s0)) 1 (FP.l2d s1)) 2 (FP.l2d s2)) 1)) ((updN (updN (updN (fun _ => (0 : UInt64)) 0 (FP.l2d s0)) 1 (FP.l2d s1)) 2 (FP.l2d s2)) 2))) 2)))])
      refine Go.step (fun _ k => XS.lload X62.here hx rfl (hb hby at_236) rfl k) ?_
      show Go _ _ _ _ _ _ _ T62 (mkF m 238 #[.val (.int p0), .val (.int p1), .val (.int p2), .val (.int p3), .val (.int p4), .val (.int p5), .val (.int (3 : Int32)), .val (.long s0), .second, .val (.long s1), .second, .val (.long s2), .second, .val (.ref b28), .val (.int K), .val (.int fi), .val (.int la), .val (.ref b58), .val (.int (2 : Int32)), .val (.int (2 : Int32)), .val (.long ((0 : Int64) + s2)), .second] [(.long ((0 : Int64) + s2)), (.double (FP.dsub ((updN (updN (updN (fun _ => (0 : UInt64)) 1 (FP.dadd (0 : UInt64) ((updN (updN (updN (fun _ => (0 : UInt64)) 0 (FP.l2d s0)) 1 (FP.l2d s1)) 2 (FP.l2d s2)) 0))) 2 (FP.dadd (FP.dadd (0 : UInt64) ((updN (updN (updN (fun _ => (0 : UInt64)) 0 (FP.l2d s0)) 1 (FP.l2d s1)) 2 (FP.l2d s2)) 0)) ((updN (updN (updN (fun _ => (0 : UInt64)) 0 (FP.l2d s0)) 1 (FP.l2d s1)) 2 (FP.l2d s2)) 1))) 3 (FP.dadd (FP.dadd (FP.dadd (0 : UInt64) ((updN (updN (updN (fun _ => (0 : UInt64)) 0 (FP.l2d s0)) 1 (FP.l2d s1)) 2 (FP.l2d s2)) 0)) ((updN (updN (updN (fun _ => (0 : UInt64)) 0 (FP.l2d s0)) 1 (FP.l2d s1)) 2 (FP.l2d s2)) 1)) ((updN (updN (updN (fun _ => (0 : UInt64)) 0 (FP.l2d s0)) 1 (FP.l2d s1)) 2 (FP.l2d s2)) 2))) 3) ((updN (updN (updN (fun _ => (0 : UInt64)) 1 (FP.dadd (0 : UInt64) ((updN (updN (updN (fun _ => (0 : UInt64)) 0 (FP.l2d s0)) 1 (FP.l2d s1)) 2 (FP.l2d s2)) 0))) 2 (FP.dadd (FP.dadd (0 : UInt64) ((updN (updN (updN (fun _ => (0 : UInt64)) 0 (FP.l2d s0)) 1 (FP.l2d s1)) 2 (FP.l2d s2)) 0)) ((updN (updN (updN (fun _ => (0 : UInt64)) 0 (FP.l2d s0)) 1 (FP.l2d s1)) 2 (FP.l2d s2)) 1))) 3 (FP.dadd (FP.dadd (FP.dadd (0 : UInt64) ((updN (updN (updN (fun _ => (0 : UInt64)) 0 (FP.l2d s0)) 1 (FP.l2d s1)) 2 (FP.l2d s2)) 0)) ((updN (updN (updN (fun _ => (0 : UInt64)) 0 (FP.l2d s0)) 1 (FP.l2d s1)) 2 (FP.l2d s2)) 1)) ((updN (updN (updN (fun _ => (0 : UInt64)) 0 (FP.l2d s0)) 1 (FP.l2d s1)) 2 (FP.l2d s2)) 2))) 2)))])
      refine Go.step (fun _ k => XS.l2dS X62.here hx rfl (hb hby at_238) rfl rfl k) ?_
      show Go _ _ _ _ _ _ _ T62 (mkF m 239 #[.val (.int p0), .val (.int p1), .val (.int p2), .val (.int p3), .val (.int p4), .val (.int p5), .val (.int (3 : Int32)), .val (.long s0), .second, .val (.long s1), .second, .val (.long s2), .second, .val (.ref b28), .val (.int K), .val (.int fi), .val (.int la), .val (.ref b58), .val (.int (2 : Int32)), .val (.int (2 : Int32)), .val (.long ((0 : Int64) + s2)), .second] [(.double (FP.l2d ((0 : Int64) + s2))), (.double (FP.dsub ((updN (updN (updN (fun _ => (0 : UInt64)) 1 (FP.dadd (0 : UInt64) ((updN (updN (updN (fun _ => (0 : UInt64)) 0 (FP.l2d s0)) 1 (FP.l2d s1)) 2 (FP.l2d s2)) 0))) 2 (FP.dadd (FP.dadd (0 : UInt64) ((updN (updN (updN (fun _ => (0 : UInt64)) 0 (FP.l2d s0)) 1 (FP.l2d s1)) 2 (FP.l2d s2)) 0)) ((updN (updN (updN (fun _ => (0 : UInt64)) 0 (FP.l2d s0)) 1 (FP.l2d s1)) 2 (FP.l2d s2)) 1))) 3 (FP.dadd (FP.dadd (FP.dadd (0 : UInt64) ((updN (updN (updN (fun _ => (0 : UInt64)) 0 (FP.l2d s0)) 1 (FP.l2d s1)) 2 (FP.l2d s2)) 0)) ((updN (updN (updN (fun _ => (0 : UInt64)) 0 (FP.l2d s0)) 1 (FP.l2d s1)) 2 (FP.l2d s2)) 1)) ((updN (updN (updN (fun _ => (0 : UInt64)) 0 (FP.l2d s0)) 1 (FP.l2d s1)) 2 (FP.l2d s2)) 2))) 3) ((updN (updN (updN (fun _ => (0 : UInt64)) 1 (FP.dadd (0 : UInt64) ((updN (updN (updN (fun _ => (0 : UInt64)) 0 (FP.l2d s0)) 1 (FP.l2d s1)) 2 (FP.l2d s2)) 0))) 2 (FP.dadd (FP.dadd (0 : UInt64) ((updN (updN (updN (fun _ => (0 : UInt64)) 0 (FP.l2d s0)) 1 (FP.l2d s1)) 2 (FP.l2d s2)) 0)) ((updN (updN (updN (fun _ => (0 : UInt64)) 0 (FP.l2d s0)) 1 (FP.l2d s1)) 2 (FP.l2d s2)) 1))) 3 (FP.dadd (FP.dadd (FP.dadd (0 : UInt64) ((updN (updN (updN (fun _ => (0 : UInt64)) 0 (FP.l2d s0)) 1 (FP.l2d s1)) 2 (FP.l2d s2)) 0)) ((updN (updN (updN (fun _ => (0 : UInt64)) 0 (FP.l2d s0)) 1 (FP.l2d s1)) 2 (FP.l2d s2)) 1)) ((updN (updN (updN (fun _ => (0 : UInt64)) 0 (FP.l2d s0)) 1 (FP.l2d s1)) 2 (FP.l2d s2)) 2))) 2)))])
      refine Go.step (fun _ k => XS.dcmpS X62.here hx rfl (hb hby at_239) rfl rfl k) ?_
      show Go _ _ _ _ _ _ _ T62 (mkF m 240 #[.val (.int p0), .val (.int p1), .val (.int p2), .val (.int p3), .val (.int p4), .val (.int p5), .val (.int (3 : Int32)), .val (.long s0), .second, .val (.long s1), .second, .val (.long s2), .second, .val (.ref b28), .val (.int K), .val (.int fi), .val (.int la), .val (.ref b58), .val (.int (2 : Int32)), .val (.int (2 : Int32)), .val (.long ((0 : Int64) + s2)), .second] [(.int (cmpValue (FP.dcmp (FP.dsub ((updN (updN (updN (fun _ => (0 : UInt64)) 1 (FP.dadd (0 : UInt64) ((updN (updN (updN (fun _ => (0 : UInt64)) 0 (FP.l2d s0)) 1 (FP.l2d s1)) 2 (FP.l2d s2)) 0))) 2 (FP.dadd (FP.dadd (0 : UInt64) ((updN (updN (updN (fun _ => (0 : UInt64)) 0 (FP.l2d s0)) 1 (FP.l2d s1)) 2 (FP.l2d s2)) 0)) ((updN (updN (updN (fun _ => (0 : UInt64)) 0 (FP.l2d s0)) 1 (FP.l2d s1)) 2 (FP.l2d s2)) 1))) 3 (FP.dadd (FP.dadd (FP.dadd (0 : UInt64) ((updN (updN (updN (fun _ => (0 : UInt64)) 0 (FP.l2d s0)) 1 (FP.l2d s1)) 2 (FP.l2d s2)) 0)) ((updN (updN (updN (fun _ => (0 : UInt64)) 0 (FP.l2d s0)) 1 (FP.l2d s1)) 2 (FP.l2d s2)) 1)) ((updN (updN (updN (fun _ => (0 : UInt64)) 0 (FP.l2d s0)) 1 (FP.l2d s1)) 2 (FP.l2d s2)) 2))) 3) ((updN (updN (updN (fun _ => (0 : UInt64)) 1 (FP.dadd (0 : UInt64) ((updN (updN (updN (fun _ => (0 : UInt64)) 0 (FP.l2d s0)) 1 (FP.l2d s1)) 2 (FP.l2d s2)) 0))) 2 (FP.dadd (FP.dadd (0 : UInt64) ((updN (updN (updN (fun _ => (0 : UInt64)) 0 (FP.l2d s0)) 1 (FP.l2d s1)) 2 (FP.l2d s2)) 0)) ((updN (updN (updN (fun _ => (0 : UInt64)) 0 (FP.l2d s0)) 1 (FP.l2d s1)) 2 (FP.l2d s2)) 1))) 3 (FP.dadd (FP.dadd (FP.dadd (0 : UInt64) ((updN (updN (updN (fun _ => (0 : UInt64)) 0 (FP.l2d s0)) 1 (FP.l2d s1)) 2 (FP.l2d s2)) 0)) ((updN (updN (updN (fun _ => (0 : UInt64)) 0 (FP.l2d s0)) 1 (FP.l2d s1)) 2 (FP.l2d s2)) 1)) ((updN (updN (updN (fun _ => (0 : UInt64)) 0 (FP.l2d s0)) 1 (FP.l2d s1)) 2 (FP.l2d s2)) 2))) 2)) (FP.l2d ((0 : Int64) + s2))) .l))])
      refine Go.step (fun _ k => XS.ifNo X62.here hx rfl (hb hby at_240) rfl (eq_y .l hAt).1 k) ?_
      show Go _ _ _ _ _ _ _ T62 (mkF m 243 #[.val (.int p0), .val (.int p1), .val (.int p2), .val (.int p3), .val (.int p4), .val (.int p5), .val (.int (3 : Int32)), .val (.long s0), .second, .val (.long s1), .second, .val (.long s2), .second, .val (.ref b28), .val (.int K), .val (.int fi), .val (.int la), .val (.ref b58), .val (.int (2 : Int32)), .val (.int (2 : Int32)), .val (.long ((0 : Int64) + s2)), .second] [])
      refine Go.step (fun _ k => XS.iconst X62.here hx rfl (hb hby at_243) k) ?_
      show Go _ _ _ _ _ _ _ T62 (mkF m 244 #[.val (.int p0), .val (.int p1), .val (.int p2), .val (.int p3), .val (.int p4), .val (.int p5), .val (.int (3 : Int32)), .val (.long s0), .second, .val (.long s1), .second, .val (.long s2), .second, .val (.ref b28), .val (.int K), .val (.int fi), .val (.int la), .val (.ref b58), .val (.int (2 : Int32)), .val (.int (2 : Int32)), .val (.long ((0 : Int64) + s2)), .second] [(.int (1 : Int32))])
      refine Go.step (fun _ k => XS.goto X62.here hx rfl (pc0 := 244) (pc' := 248) rfl (hb hby at_244) (by decide) (by decide) k) ?_
      show Go _ _ _ _ _ _ _ T62 (mkF m 248 #[.val (.int p0), .val (.int p1), .val (.int p2), .val (.int p3), .val (.int p4), .val (.int p5), .val (.int (3 : Int32)), .val (.long s0), .second, .val (.long s1), .second, .val (.long s2), .second, .val (.ref b28), .val (.int K), .val (.int fi), .val (.int la), .val (.ref b58), .val (.int (2 : Int32)), .val (.int (2 : Int32)), .val (.long ((0 : Int64) + s2)), .second] [(.int (1 : Int32))])
      refine Go.retZ X62 hx hlk hret (by decide) (hb hby at_248) (by decide) (by decide) ?_
      try rw [hh62]
      exact ⟨rfl, N62⟩
theorem ef_rm0 (m : MethodId) (p0 : Int32) (p1 : Int32) (p2 : Int32) (p3 : Int32) (p4 : Int32) (p5 : Int32) : entryFrame m #[(.int p0), (.int p1), (.int p2), (.int p3), (.int p4), (.int p5)] maxLocals = mkF m 0 #[.val (.int p0), .val (.int p1), .val (.int p2), .val (.int p3), .val (.int p4), .val (.int p5), .unset, .unset, .unset, .unset, .unset, .unset, .unset, .unset, .unset, .unset, .unset, .unset, .unset, .unset, .unset, .unset] [] := by first | (simp [entryFrame, mkF, argsToLocals, Value.category, maxLocals]; done) | rfl
theorem rm0 (l : Launch) (Z : State) (a0 : Array Value) (hw : ∀ d ∈ tables_1, d.before a0 Z = true) (ws : List Jvm.Cond) (p0 p1 p2 p3 p4 p5 : Int32) (h0 : Heap) (n0 : Nat) (Z0 : n0 ≤ h0.size)  :
    MetFree l x (head1 (Jvm.Cond.code x code maxLocals ret :: ws) room_1) (fun a U => a = #[(.int p0), (.int p1), (.int p2), (.int p3), (.int p4), (.int p5)] ∧ Z.Warmed39 U.vm ∧ U.heap = h0) (fun _ _ _ _ _ => True) (fun _ U o U' => ∃ v L, o = .returned v ∧ (fun r h L => r = some (.int 1) ∧ Fr n0 L) v U'.heap L ∧ FrameEnd U o U' L room_1.cells room_1.slots) :=
  con_of (plainFor_of_name pn_6) (fun p_ e_ s_ m_ b_ meth_ c_ T_ X_ hx hZ hby hml hown hnm hret hlk e0 => Go.cast (ef_rm0 m_ p0 p1 p2 p3 p4 p5) (w0 p0 p1 p2 p3 p4 p5 X_ hx hZ hw hby hml hown hnm hret hlk e0 Z0 (Fr.nil n0) ))
set_option maxRecDepth 65536 in
set_option maxHeartbeats 40000000 in
theorem comes_1 {Post : Tables → Env → Array Value → State → Outcome → State → Prop} (hpost : ∀ tb e args s v u, (limb_1_1.after args s (.returned v) u = true ∧ limb_1_2.after args s (.returned v) u = true ∧ True) → FrameEnd s (.returned v) u (Jvm.fieldLocs frame_1_writes args s ++ Jvm.arrayLocs frame_1_arrays args s ++ Jvm.staticLocs frame_1_statics s) 16 128 → Post tb e args s (.returned v) u) :
    ArmFor flags0 classFile x code maxLocals ret World_1 tables_1 room_1 Calls_1 rest_1 Pre_1 Post := by
  intro l hfl _ _ p e ha hc hk s m args below hf hA hF happ hP
  obtain ⟨hcalls, hrest, hpre⟩ := hP
  obtain ⟨-, -, -, hnamed, -, -, -, hat⟩ := (Spec.applies_iff hf).mp happ
  obtain ⟨hg, hn⟩ := and_e (Cond.before_iff.mp (show (Jvm.Cond.and given_1 narrow_1).before args s = true from hpre))
  obtain ⟨g1, g2⟩ := and_e hg
  obtain ⟨g3, g4⟩ := and_e g2
  obtain ⟨g5, g6⟩ := and_e g4
  obtain ⟨g7, g8⟩ := and_e g6
  obtain ⟨g9, g10⟩ := and_e g8
  obtain ⟨g11, g12⟩ := and_e g10
  obtain ⟨w0, w1, w2, w3, w4, w5, rfl⟩ : ∃ w0 w1 w2 w3 w4 w5 : Value, args = #[w0, w1, w2, w3, w4, w5] := by
    have hs : args.size = 6 := by simpa [Cond.value, given_1] using g1
    obtain ⟨L⟩ := args
    match L, hs with
    | [w0, w1, w2, w3, w4, w5], _ => exact ⟨w0, w1, w2, w3, w4, w5, rfl⟩
  have hw := fun d (hd : d ∈ tables_1) => atoms_spec (ws := Jvm.Cond.code x code maxLocals ret :: tables_1) hat d (List.mem_cons_of_mem _ hd)
  have hfit : Fit s := fun {y c} hc i hi => by
    obtain ⟨ha, rfl⟩ := Array.getElem?_eq_some_iff.mp hc
    have q := List.all_eq_true.mp ((Array.all_eq_true_iff_forall_mem.mp hF) _ (Array.getElem_mem ha)) i (List.mem_range.mpr hi)
    simpa [Array.getElem?_eq_getElem hi] using q
  obtain ⟨i0, ei0⟩ := is_v g3
  obtain rfl : w0 = (.int i0) := Option.some.inj ei0
  obtain ⟨i1, ei1⟩ := is_v g5
  obtain rfl : w1 = (.int i1) := Option.some.inj ei1
  obtain ⟨i2, ei2⟩ := is_v g7
  obtain rfl : w2 = (.int i2) := Option.some.inj ei2
  obtain ⟨i3, ei3⟩ := is_v g9
  obtain rfl : w3 = (.int i3) := Option.some.inj ei3
  obtain ⟨i4, ei4⟩ := is_v g11
  obtain rfl : w4 = (.int i4) := Option.some.inj ei4
  obtain ⟨i5, ei5⟩ := is_v g12
  obtain rfl : w5 = (.int i5) := Option.some.inj ei5
  obtain ⟨n, o, h1, h2, h3, _, L, rfl, ⟨rfl, N⟩, hq⟩ := rm0 l s _ hw tables_1 i0 i1 i2 i3 i4 i5 s.heap s.heap.size (Nat.le_refl _)  p e ha hc hk s m _ below hf ((Spec.applies_iff_loose hf).mp happ).1 ⟨rfl, State.Warmed39.refl s, rfl⟩ trivial
  refine ⟨n, _, h1, h2, h3, hpost _ _ _ _ _ _ ⟨Cond.after_iff.mpr rfl, Cond.after_iff.mpr (eq_i res_at (Term.int_eval (1)) rfl), trivial⟩ ⟨hq.1, hq.2.1, (hq.2.2.sift fun y hy => Or.inr (N y hy)).mono (by decide) (by decide)⟩⟩
theorem main_1_1 : Claimed_1_1 := comes_1 fun _ _ _ _ _ _ h hF => ⟨h.1, hF⟩
theorem main_1_2 : Claimed_1_2 := comes_1 fun _ _ _ _ _ _ h hF => ⟨h.2.1, hF⟩
end Jvm.Pilot.@@N@@
namespace Jvm.Pilot.@@N@@
open Jvm Jvm.ClassFile Sem Op Lib Jvm.Free Jvm.Stand Jvm.Pilot.@@N@@.Jvm.D
/-! MADE BY PROGRAM (witnessworld.py) out of the Statement's table words and the real class files: 17 classes; the members and pool entries that the words name. The judged class is class 1, her method 1. -/
namespace start1
open Jvm.ClassFile
def u (s : String) : CpInfo := .utf8 (stringToUtf16 s)
/-- a pool by its gaps: so many unusable entries, then the entry; so many at the end -/
def gap : Nat → List CpInfo → List CpInfo
  | 0, r => r
  | n + 1, r => .unusable :: gap n r
def poolList (es : List (Nat × CpInfo)) (last : Nat) : List CpInfo := es.foldr (fun e r => gap e.1 (e.2 :: r)) (gap last [])
def pool (es : List (Nat × CpInfo)) (last : Nat) : Array CpInfo := ⟨poolList es last⟩
def fileOf (pool : Array CpInfo) (this : Nat) (attrs : Array Attribute := #[]) (ms : Array MethodInfo := #[]) (fl : Nat := 33) (sup : Nat := 0) (ifs : Array Nat := #[]) (fds : Array FieldInfo := #[]) : ClassFile where
  minorVersion := 0
  majorVersion := 65
  constantPool := pool
  accessFlags := fl
  thisClass := this
  superClass := sup
  interfaces := ifs
  fields := fds
  methods := ms
  attributes := attrs
def plain (name : String) (sup : Option ClassId) : Class where
  name := name
  kind := .ordinary
  loader := none
  accessFlags := 33
  super := sup
  interfaces := #[]
  cf := none
  fields := #[]
  methods := #[]
  instanceTypes := #[]
  staticTypes := #[]
  resolved := #[]
  callSites := []
  init := .initialized
  statics := none
  mirror := none

def pool0 : Array CpInfo := pool [(5, u "<init>"), (0, u "()V"), (1, .class_ 10), (1, u "java/lang/Object"), (85, u "clone"), (0, u "()Ljava/lang/Object;")] 26

def k0c0 : Code := { maxStack := 0, maxLocals := 1, code := object_method_1_code, exceptionTable := #[], attributes := #[] }
def k0m0 : Method := { name := "<init>", desc := "()V", sig := { parameters := [], returnType := none }, accessFlags := 1, code := some k0c0 }
def k0m1 : Method := { name := "clone", desc := "()Ljava/lang/Object;", sig := { parameters := [], returnType := some (.object "java/lang/Object") }, accessFlags := 260, code := none }
/-- java/lang/Object -/
def k0 : Class := { plain "java/lang/Object" none with
  accessFlags := 33
  interfaces := #[]
  cf := some (fileOf pool0 8 #[] #[{ accessFlags := 1, nameIndex := 5, descriptorIndex := 6, attributes := #[] }, { accessFlags := 260, nameIndex := 96, descriptorIndex := 97, attributes := #[] }] 33 0 #[] #[])
  fields := #[]
  methods := #[k0m0, k0m1]
  instanceTypes := #[]
  staticTypes := #[]
  resolved := Array.replicate 124 none
  statics := none }

def pool1 : Array CpInfo := pool [(2, .class_ 4), (1, u "java/lang/Object"), (0, u "<init>"), (0, u "()V"), (0, .integer 2147483647), (0, .integer 1048575), (0, .methodref 10 11), (0, .class_ 12), (0, .nameAndType 13 14), (0, u "java/lang/Math"), (0, u "max"), (0, u "(II)I"), (0, .class_ 16), (0, u "tidewatch/decision/KeyGroupCeiling"), (0, .methodref 15 18), (0, .nameAndType 5 19), (0, u "(I[D)V"), (0, .methodref 21 22), (0, .class_ 23), (0, .nameAndType 24 25), (0, u "tidewatch/decision/KeyGroupCeilingAtMostPinLaw"), (0, u "ownerRef"), (0, u "(III)I"), (0, .methodref 15 27), (0, .nameAndType 28 29), (0, u "atMost"), (0, u "(II)D"), (0, .long 2), (3, u "law"), (0, u "(IIIIII)Z")] 5

def k1m0 : Method := { name := "<init>", desc := "()V", sig := { parameters := [], returnType := none }, accessFlags := 1, code := none }
def k1c1 : Code := { maxStack := 5, maxLocals := 22, code := code, exceptionTable := #[], attributes := #[] }
def k1m1 : Method := { name := "law", desc := "(IIIIII)Z", sig := { parameters := [.int, .int, .int, .int, .int, .int], returnType := some .boolean }, accessFlags := 9, code := some k1c1 }
def k1c2 : Code := { maxStack := 4, maxLocals := 7, code := method_3_code, exceptionTable := #[], attributes := #[] }
def k1m2 : Method := { name := "ownerRef", desc := "(III)I", sig := { parameters := [.int, .int, .int], returnType := some .int }, accessFlags := 10, code := some k1c2 }
/-- tidewatch/decision/KeyGroupCeilingAtMostPinLaw -/
def k1 : Class := { plain "tidewatch/decision/KeyGroupCeilingAtMostPinLaw" (some 0) with
  accessFlags := 49
  interfaces := #[]
  cf := some (fileOf pool1 21 #[] #[{ accessFlags := 1, nameIndex := 5, descriptorIndex := 6, attributes := #[] }, { accessFlags := 9, nameIndex := 34, descriptorIndex := 35, attributes := #[] }, { accessFlags := 10, nameIndex := 24, descriptorIndex := 25, attributes := #[] }] 49 2 #[] #[])
  fields := #[]
  methods := #[k1m0, k1m1, k1m2]
  instanceTypes := #[]
  staticTypes := #[]
  resolved := Array.replicate 41 none
  statics := none }

def pool2 : Array CpInfo := pool [(1, .class_ 2), (0, u "java/lang/Math"), (1, .class_ 6), (1, u "java/lang/Object"), (0, u "<init>"), (0, u "()V"), (5, u "(D)D"), (83, .class_ 100), (1, u "java/lang/Math$RandomNumberGeneratorHolder"), (23, u "abs"), (47, u "negativeZeroFloatBits"), (0, u "J"), (2, u "negativeZeroDoubleBits"), (21, u "max"), (46, u "$assertionsDisabled"), (0, u "Z"), (88, u "(II)I"), (2, u "twoToTheDoubleScaleDown"), (0, u "D"), (4, u "twoToTheDoubleScaleUp"), (9, u "E"), (3, u "PI"), (2, u "TAU"), (2, u "DEGREES_TO_RADIANS"), (0, u "RADIANS_TO_DEGREES")] 94

def k2m0 : Method := { name := "<init>", desc := "()V", sig := { parameters := [], returnType := none }, accessFlags := 2, code := none }
def k2c1 : Code := { maxStack := 4, maxLocals := 2, code := jdk_29_method_64_code, exceptionTable := #[], attributes := #[] }
def k2m1 : Method := { name := "abs", desc := "(D)D", sig := { parameters := [.double], returnType := some .double }, accessFlags := 9, code := some k2c1 }
def k2c2 : Code := { maxStack := 2, maxLocals := 2, code := jdk_29_method_65_code, exceptionTable := #[], attributes := #[] }
def k2m2 : Method := { name := "max", desc := "(II)I", sig := { parameters := [.int, .int], returnType := some .int }, accessFlags := 9, code := some k2c2 }
/-- java/lang/Math -/
def k2 : Class := { plain "java/lang/Math" (some 0) with
  accessFlags := 49
  interfaces := #[]
  cf := some (fileOf pool2 1 #[.nestMembers #[98]] #[{ accessFlags := 2, nameIndex := 7, descriptorIndex := 8, attributes := #[] }, { accessFlags := 9, nameIndex := 124, descriptorIndex := 14, attributes := #[] }, { accessFlags := 9, nameIndex := 198, descriptorIndex := 335, attributes := #[] }] 49 4 #[] #[{ accessFlags := 25, nameIndex := 354, descriptorIndex := 339, attributes := #[] }, { accessFlags := 25, nameIndex := 358, descriptorIndex := 339, attributes := #[] }, { accessFlags := 25, nameIndex := 361, descriptorIndex := 339, attributes := #[] }, { accessFlags := 26, nameIndex := 364, descriptorIndex := 339, attributes := #[] }, { accessFlags := 26, nameIndex := 365, descriptorIndex := 339, attributes := #[] }, { accessFlags := 26, nameIndex := 172, descriptorIndex := 173, attributes := #[] }, { accessFlags := 26, nameIndex := 176, descriptorIndex := 173, attributes := #[] }, { accessFlags := 8, nameIndex := 344, descriptorIndex := 339, attributes := #[] }, { accessFlags := 8, nameIndex := 338, descriptorIndex := 339, attributes := #[] }, { accessFlags := 4120, nameIndex := 245, descriptorIndex := 246, attributes := #[] }])
  fields := #[{ name := "E", type := .double, accessFlags := 25, slot := 0, constantValue := 0 }, { name := "PI", type := .double, accessFlags := 25, slot := 1, constantValue := 0 }, { name := "TAU", type := .double, accessFlags := 25, slot := 2, constantValue := 0 }, { name := "DEGREES_TO_RADIANS", type := .double, accessFlags := 26, slot := 3, constantValue := 0 }, { name := "RADIANS_TO_DEGREES", type := .double, accessFlags := 26, slot := 4, constantValue := 0 }, { name := "negativeZeroFloatBits", type := .long, accessFlags := 26, slot := 5, constantValue := 0 }, { name := "negativeZeroDoubleBits", type := .long, accessFlags := 26, slot := 6, constantValue := 0 }, { name := "twoToTheDoubleScaleUp", type := .double, accessFlags := 8, slot := 7, constantValue := 0 }, { name := "twoToTheDoubleScaleDown", type := .double, accessFlags := 8, slot := 8, constantValue := 0 }, { name := "$assertionsDisabled", type := .boolean, accessFlags := 4120, slot := 9, constantValue := 0 }]
  methods := #[k2m0, k2m1, k2m2]
  instanceTypes := #[]
  staticTypes := #[.double, .double, .double, .double, .double, .long, .long, .double, .double, .boolean]
  resolved := Array.replicate 460 none
  statics := none }

def pool3 : Array CpInfo := pool [(1, .methodref 2 3), (0, .class_ 4), (0, .nameAndType 5 6), (0, u "java/lang/Object"), (0, u "<init>"), (0, u "()V"), (9, .fieldref 17 18), (0, .class_ 19), (0, .nameAndType 20 21), (0, u "tidewatch/decision/KeyGroupCeiling"), (0, u "keyGroups"), (0, u "I"), (0, .methodref 23 24), (0, .class_ 25), (0, .nameAndType 26 27), (0, u "[D"), (0, u "clone"), (0, u "()Ljava/lang/Object;"), (0, .fieldref 17 29), (0, .nameAndType 30 25), (0, u "shares"), (0, .fieldref 17 32), (0, .nameAndType 33 25), (0, u "before"), (0, .methodref 35 36), (0, .class_ 37), (0, .nameAndType 38 39), (0, u "java/lang/Double"), (0, u "isFinite"), (0, u "(D)Z"), (38, u "(I[D)V"), (3, .methodref 17 83), (0, .nameAndType 84 85), (0, u "owner"), (0, u "(I)I"), (26, u "atMost"), (0, u "(II)D")] 31

def k3c0 : Code := { maxStack := 6, maxLocals := 4, code := prog_33_method_1_code, exceptionTable := #[], attributes := #[] }
def k3m0 : Method := { name := "<init>", desc := "(I[D)V", sig := { parameters := [.int, (.array .double)], returnType := none }, accessFlags := 1, code := some k3c0 }
def k3c1 : Code := { maxStack := 5, maxLocals := 3, code := prog_33_method_6_code, exceptionTable := #[], attributes := #[] }
def k3m1 : Method := { name := "atMost", desc := "(II)D", sig := { parameters := [.int, .int], returnType := some .double }, accessFlags := 0, code := some k3c1 }
def k3c2 : Code := { maxStack := 4, maxLocals := 2, code := prog_33_method_7_code, exceptionTable := #[], attributes := #[] }
def k3m2 : Method := { name := "owner", desc := "(I)I", sig := { parameters := [.int], returnType := some .int }, accessFlags := 2, code := some k3c2 }
/-- tidewatch/decision/KeyGroupCeiling -/
def k3 : Class := { plain "tidewatch/decision/KeyGroupCeiling" (some 0) with
  accessFlags := 49
  interfaces := #[]
  cf := some (fileOf pool3 17 #[] #[{ accessFlags := 1, nameIndex := 5, descriptorIndex := 78, attributes := #[] }, { accessFlags := 0, nameIndex := 112, descriptorIndex := 113, attributes := #[] }, { accessFlags := 2, nameIndex := 84, descriptorIndex := 85, attributes := #[] }] 49 2 #[] #[{ accessFlags := 18, nameIndex := 20, descriptorIndex := 21, attributes := #[] }, { accessFlags := 18, nameIndex := 30, descriptorIndex := 25, attributes := #[] }, { accessFlags := 18, nameIndex := 33, descriptorIndex := 25, attributes := #[] }])
  fields := #[{ name := "keyGroups", type := .int, accessFlags := 18, slot := 0, constantValue := 0 }, { name := "shares", type := (.array .double), accessFlags := 18, slot := 1, constantValue := 0 }, { name := "before", type := (.array .double), accessFlags := 18, slot := 2, constantValue := 0 }]
  methods := #[k3m0, k3m1, k3m2]
  instanceTypes := #[.int, (.array .double), (.array .double)]
  staticTypes := #[]
  resolved := Array.replicate 145 none
  statics := none }

def pool4 : Array CpInfo := pool [(1, .class_ 2), (0, u "java/lang/Cloneable"), (0, .class_ 4), (0, u "java/lang/Object")] 2

/-- java/lang/Cloneable -/
def k4 : Class := { plain "java/lang/Cloneable" (some 0) with
  accessFlags := 1537
  interfaces := #[]
  cf := some (fileOf pool4 1 #[] #[] 1537 3 #[] #[])
  fields := #[]
  methods := #[]
  instanceTypes := #[]
  staticTypes := #[]
  resolved := Array.replicate 7 none
  statics := none }

def pool5 : Array CpInfo := pool [(1, .class_ 2), (0, u "java/io/Serializable"), (0, .class_ 4), (0, u "java/lang/Object")] 2

/-- java/io/Serializable -/
def k5 : Class := { plain "java/io/Serializable" (some 0) with
  accessFlags := 1537
  interfaces := #[]
  cf := some (fileOf pool5 1 #[] #[] 1537 3 #[] #[])
  fields := #[]
  methods := #[]
  instanceTypes := #[]
  staticTypes := #[]
  resolved := Array.replicate 7 none
  statics := none }

def pool6 : Array CpInfo := pool [(2, .class_ 4), (1, u "java/lang/Object"), (0, u "<init>"), (0, u "()V"), (1, .class_ 10), (1, u "java/lang/Number"), (2, .class_ 14), (0, u "java/io/Serializable"), (0, u "serialVersionUID"), (0, u "J")] 20

def k6m0 : Method := { name := "<init>", desc := "()V", sig := { parameters := [], returnType := none }, accessFlags := 1, code := none }
/-- java/lang/Number -/
def k6 : Class := { plain "java/lang/Number" (some 0) with
  accessFlags := 1057
  interfaces := #[5]
  cf := some (fileOf pool6 8 #[] #[{ accessFlags := 1, nameIndex := 5, descriptorIndex := 6, attributes := #[] }] 1057 2 #[13] #[{ accessFlags := 26, nameIndex := 15, descriptorIndex := 16, attributes := #[] }])
  fields := #[{ name := "serialVersionUID", type := .long, accessFlags := 26, slot := 0, constantValue := 0 }]
  methods := #[k6m0]
  instanceTypes := #[]
  staticTypes := #[.long]
  resolved := Array.replicate 37 none
  statics := none }

def pool7 : Array CpInfo := pool [(1, .class_ 2), (0, u "java/lang/Comparable"), (0, .class_ 4), (0, u "java/lang/Object")] 7

/-- java/lang/Comparable -/
def k7 : Class := { plain "java/lang/Comparable" (some 0) with
  accessFlags := 1537
  interfaces := #[]
  cf := some (fileOf pool7 1 #[] #[] 1537 3 #[] #[])
  fields := #[]
  methods := #[]
  instanceTypes := #[]
  staticTypes := #[]
  resolved := Array.replicate 12 none
  statics := none }

def pool8 : Array CpInfo := pool [(1, .class_ 2), (0, u "java/lang/constant/Constable"), (0, .class_ 4), (0, u "java/lang/Object")] 6

/-- java/lang/constant/Constable -/
def k8 : Class := { plain "java/lang/constant/Constable" (some 0) with
  accessFlags := 1537
  interfaces := #[]
  cf := some (fileOf pool8 1 #[] #[] 1537 3 #[] #[])
  fields := #[]
  methods := #[]
  instanceTypes := #[]
  staticTypes := #[]
  resolved := Array.replicate 11 none
  statics := none }

def pool9 : Array CpInfo := pool [(1, .class_ 2), (0, u "java/lang/constant/ConstantDesc"), (0, .class_ 4), (0, u "java/lang/Object")] 32

/-- java/lang/constant/ConstantDesc -/
def k9 : Class := { plain "java/lang/constant/ConstantDesc" (some 0) with
  accessFlags := 1537
  interfaces := #[]
  cf := some (fileOf pool9 1 #[] #[] 1537 3 #[] #[])
  fields := #[]
  methods := #[]
  instanceTypes := #[]
  staticTypes := #[]
  resolved := Array.replicate 37 none
  statics := none }

def pool10 : Array CpInfo := pool [(1, .class_ 2), (0, u "java/lang/Double"), (10, u "isFinite"), (0, u "(D)Z"), (8, .class_ 25), (1, u "java/lang/Math"), (12, .methodref 23 39), (0, .nameAndType 40 41), (0, u "abs"), (0, u "(D)D"), (69, .double 9218868437227405311), (2, .class_ 116), (1, u "java/lang/Number"), (3, u "value"), (0, u "D"), (51, u "TYPE"), (0, u "Ljava/lang/Class;"), (0, .class_ 176), (0, u "java/lang/Comparable"), (0, .class_ 178), (0, u "java/lang/constant/Constable"), (0, .class_ 180), (0, u "java/lang/constant/ConstantDesc"), (0, u "POSITIVE_INFINITY"), (3, u "NEGATIVE_INFINITY"), (2, u "NaN"), (2, u "MAX_VALUE"), (0, u "MIN_NORMAL"), (0, u "MIN_VALUE"), (2, u "SIZE"), (0, u "I"), (1, u "PRECISION"), (1, u "MAX_EXPONENT"), (1, u "MIN_EXPONENT"), (1, u "BYTES"), (3, u "serialVersionUID"), (0, u "J")] 79

def k10c0 : Code := { maxStack := 4, maxLocals := 2, code := jdk_117_method_8_code, exceptionTable := #[], attributes := #[] }
def k10m0 : Method := { name := "isFinite", desc := "(D)Z", sig := { parameters := [.double], returnType := some .boolean }, accessFlags := 9, code := some k10c0 }
/-- java/lang/Double -/
def k10 : Class := { plain "java/lang/Double" (some 6) with
  accessFlags := 49
  interfaces := #[7, 8, 9]
  cf := some (fileOf pool10 1 #[] #[{ accessFlags := 9, nameIndex := 13, descriptorIndex := 14, attributes := #[] }] 49 114 #[175, 177, 179] #[{ accessFlags := 25, nameIndex := 181, descriptorIndex := 121, attributes := #[] }, { accessFlags := 25, nameIndex := 185, descriptorIndex := 121, attributes := #[] }, { accessFlags := 25, nameIndex := 188, descriptorIndex := 121, attributes := #[] }, { accessFlags := 25, nameIndex := 191, descriptorIndex := 121, attributes := #[] }, { accessFlags := 25, nameIndex := 192, descriptorIndex := 121, attributes := #[] }, { accessFlags := 25, nameIndex := 193, descriptorIndex := 121, attributes := #[] }, { accessFlags := 25, nameIndex := 196, descriptorIndex := 197, attributes := #[] }, { accessFlags := 25, nameIndex := 199, descriptorIndex := 197, attributes := #[] }, { accessFlags := 25, nameIndex := 201, descriptorIndex := 197, attributes := #[] }, { accessFlags := 25, nameIndex := 203, descriptorIndex := 197, attributes := #[] }, { accessFlags := 25, nameIndex := 205, descriptorIndex := 197, attributes := #[] }, { accessFlags := 25, nameIndex := 173, descriptorIndex := 174, attributes := #[] }, { accessFlags := 18, nameIndex := 120, descriptorIndex := 121, attributes := #[] }, { accessFlags := 26, nameIndex := 209, descriptorIndex := 210, attributes := #[] }])
  fields := #[{ name := "POSITIVE_INFINITY", type := .double, accessFlags := 25, slot := 0, constantValue := 0 }, { name := "NEGATIVE_INFINITY", type := .double, accessFlags := 25, slot := 1, constantValue := 0 }, { name := "NaN", type := .double, accessFlags := 25, slot := 2, constantValue := 0 }, { name := "MAX_VALUE", type := .double, accessFlags := 25, slot := 3, constantValue := 0 }, { name := "MIN_NORMAL", type := .double, accessFlags := 25, slot := 4, constantValue := 0 }, { name := "MIN_VALUE", type := .double, accessFlags := 25, slot := 5, constantValue := 0 }, { name := "SIZE", type := .int, accessFlags := 25, slot := 6, constantValue := 0 }, { name := "PRECISION", type := .int, accessFlags := 25, slot := 7, constantValue := 0 }, { name := "MAX_EXPONENT", type := .int, accessFlags := 25, slot := 8, constantValue := 0 }, { name := "MIN_EXPONENT", type := .int, accessFlags := 25, slot := 9, constantValue := 0 }, { name := "BYTES", type := .int, accessFlags := 25, slot := 10, constantValue := 0 }, { name := "TYPE", type := (.object "java/lang/Class"), accessFlags := 25, slot := 11, constantValue := 0 }, { name := "value", type := .double, accessFlags := 18, slot := 0, constantValue := 0 }, { name := "serialVersionUID", type := .long, accessFlags := 26, slot := 12, constantValue := 0 }]
  methods := #[k10m0]
  instanceTypes := #[.double]
  staticTypes := #[.double, .double, .double, .double, .double, .double, .int, .int, .int, .int, .int, (.object "java/lang/Class"), .long]
  resolved := Array.replicate 290 none
  statics := none }

/-- the primitive byte -/
def k11 : Class := { plain "byte" none with kind := .primitive 'B', accessFlags := 0x411 }
/-- [B -/
def k12 : Class := { plain "[B" (some 0) with kind := .array 11 .byte, interfaces := #[4, 5], accessFlags := 1041 }

/-- the primitive double -/
def k13 : Class := { plain "double" none with kind := .primitive 'D', accessFlags := 0x411 }
/-- [D -/
def k14 : Class := { plain "[D" (some 0) with kind := .array 13 .double, interfaces := #[4, 5], accessFlags := 1041 }

/-- the primitive int -/
def k15 : Class := { plain "int" none with kind := .primitive 'I', accessFlags := 0x411 }
/-- [I -/
def k16 : Class := { plain "[I" (some 0) with kind := .array 15 .int, interfaces := #[4, 5], accessFlags := 1041 }

def heap : Heap := #[]
def classes : Array Class := #[k0, k1, k2, k3, k4, k5, k6, k7, k8, k9, k10, k11, k12, k13, k14, k15, k16]
def interned : List (Array UInt16 × Addr) := []
def slotsUsed : Nat := 0
def theMethod : MethodId := ⟨1, 1⟩
def args0 : Array Value := #[.int 3, .int 2, .int 5, .int 6, .int 1, .int 0]
def aboutOver (below : List Frame) : State where
  vm := { classes := classes, interned := interned.toArray }
  heap := heap
  slotsUsed := slotsUsed
  threads := #[{ frames := .invoking theMethod args0 :: below }]
def below0 : List Frame := [.native { method := ⟨0, 0⟩, args := #[] }]
def about1 : State := aboutOver below0
def p0 : Program := .bare "" "" ""
def e0 : Env := launch0.env 0 0 0
theorem w_frames : about1.frames = Frame.invoking theMethod args0 :: below0 := rfl
set_option maxRecDepth 65536 in
theorem w_args : argsFit about1.vm theMethod args0 = true := by decide +kernel
set_option maxRecDepth 65536 in
theorem w_heap : heapFits about1 = true := by decide +kernel
set_option maxRecDepth 65536 in
theorem w_runnable : about1.curStatus? = some .runnable := by decide +kernel
set_option maxRecDepth 65536 in
theorem w_alone : about1.alone = true := by decide +kernel
set_option maxRecDepth 65536 in
theorem w_named : about1.methodNamed? x = some theMethod := by decide +kernel
set_option maxRecDepth 65536 in
theorem w_hears : about1.hears theMethod below0 = true := by decide +kernel
set_option maxRecDepth 65536 in
theorem w_ripe : about1.ripe theMethod args0 below0 = true := by decide +kernel
theorem w_running : about1.status = .running := rfl
set_option maxRecDepth 65536 in
theorem w_room : about1.hasRoom e0.platform room_1 = true :=
  launch0.hasRoom_least _ room_1 (by decide +kernel) (by decide +kernel) (by decide +kernel) (by decide +kernel) (by decide +kernel) (by decide +kernel)
theorem allAtoms_all (ts : List Jvm.Cond) (a : Array Jvm.Value) (st : Jvm.State) : (allAtoms ts).before a st = ts.all (fun c => c.before a st) := by
  induction ts with
  | nil => rfl
  | cons c t ih =>
    show (Jvm.Cond.and c (allAtoms t)).before a st = _
    rw [Jvm.Cond.before_and, ih, List.all_cons]
def words1 : List Jvm.Cond := Jvm.Cond.code x code maxLocals ret :: tables_1
/-- a 'code' word, met by the world's own term for the bytes: nothing is compared byte by byte -/
theorem code_word {y : MethodName} {bytes : ByteArray} {mx : Nat} {rt : Option FieldType} {a : Array Value} {s : State} {m : MethodId} {meth : Method} {c : Code} (h1 : s.methodNamed? y = some m) (h2 : s.vm.method? m = some meth) (h3 : meth.code = some c) (h4 : c.code = bytes)
    (h5 : (c.maxLocals == mx && c.exceptionTable.isEmpty && decide (c.maxStack ≤ mostOperands) && decide (meth.sig.returnType = rt) && !meth.locks && decide (parseMethodDescriptor y.desc = some meth.sig)) = true) : (Jvm.Cond.code y bytes mx rt).before a s = true := by
  simp only [Bool.and_eq_true, beq_iff_eq, Bool.not_eq_true', decide_eq_true_eq] at h5
  obtain ⟨⟨⟨⟨⟨g1, g2⟩, g3⟩, g4⟩, g5⟩, g6⟩ := h5
  simp [Cond.before, Cond.holds, Cond.value, h1, h2, h3, h4, g1, g2, g3, g4, g5, g6]
def isCode : Jvm.Cond → Bool
  | .code _ _ _ _ => true
  | _ => false
theorem all_split {L : List Jvm.Cond} {P : Jvm.Cond → Bool} (h1 : L.all (fun c => isCode c || P c) = true) (h2 : ∀ c ∈ L.filter isCode, P c = true) : L.all P = true := by
  refine List.all_eq_true.mpr fun c hc => ?_
  have h := List.all_eq_true.mp h1 c hc
  rcases Bool.eq_false_or_eq_true (isCode c) with hi | hi
  · exact h2 c (List.mem_filter.mpr ⟨hc, hi⟩)
  · simpa [hi] using h
set_option maxRecDepth 65536 in
theorem w_c0 : (Jvm.Cond.code x code maxLocals ret).before args0 about1 = true := code_word (m := ⟨1, 1⟩) (meth := k1m1) (c := k1c1) (by decide +kernel) rfl rfl rfl (by decide +kernel)
set_option maxRecDepth 65536 in
theorem w_c1 : (Jvm.Cond.code ({ cls := "java/lang/Math", name := "max", desc := "(II)I" } : Jvm.MethodName) jdk_29_method_65_code (2 : Nat) (Option.some Jvm.ClassFile.FieldType.int)).before args0 about1 = true := code_word (m := ⟨2, 2⟩) (meth := k2m2) (c := k2c2) (by decide +kernel) rfl rfl rfl (by decide +kernel)
set_option maxRecDepth 65536 in
theorem w_c2 : (Jvm.Cond.code ({ cls := "tidewatch/decision/KeyGroupCeiling", name := "<init>", desc := "(I[D)V" } : Jvm.MethodName) prog_33_method_1_code (4 : Nat) (Option.none : Option Jvm.ClassFile.FieldType)).before args0 about1 = true := code_word (m := ⟨3, 0⟩) (meth := k3m0) (c := k3c0) (by decide +kernel) rfl rfl rfl (by decide +kernel)
set_option maxRecDepth 65536 in
theorem w_c3 : (Jvm.Cond.code ({ cls := "java/lang/Object", name := "<init>", desc := "()V" } : Jvm.MethodName) object_method_1_code (1 : Nat) (Option.none : Option Jvm.ClassFile.FieldType)).before args0 about1 = true := code_word (m := ⟨0, 0⟩) (meth := k0m0) (c := k0c0) (by decide +kernel) rfl rfl rfl (by decide +kernel)
set_option maxRecDepth 65536 in
theorem w_c4 : (Jvm.Cond.code ({ cls := "java/lang/Double", name := "isFinite", desc := "(D)Z" } : Jvm.MethodName) jdk_117_method_8_code (2 : Nat) (Option.some Jvm.ClassFile.FieldType.boolean)).before args0 about1 = true := code_word (m := ⟨10, 0⟩) (meth := k10m0) (c := k10c0) (by decide +kernel) rfl rfl rfl (by decide +kernel)
set_option maxRecDepth 65536 in
theorem w_c5 : (Jvm.Cond.code ({ cls := "java/lang/Math", name := "abs", desc := "(D)D" } : Jvm.MethodName) jdk_29_method_64_code (2 : Nat) (Option.some Jvm.ClassFile.FieldType.double)).before args0 about1 = true := code_word (m := ⟨2, 1⟩) (meth := k2m1) (c := k2c1) (by decide +kernel) rfl rfl rfl (by decide +kernel)
set_option maxRecDepth 65536 in
theorem w_c6 : (Jvm.Cond.code ({ cls := "tidewatch/decision/KeyGroupCeilingAtMostPinLaw", name := "ownerRef", desc := "(III)I" } : Jvm.MethodName) method_3_code (7 : Nat) (Option.some Jvm.ClassFile.FieldType.int)).before args0 about1 = true := code_word (m := ⟨1, 2⟩) (meth := k1m2) (c := k1c2) (by decide +kernel) rfl rfl rfl (by decide +kernel)
set_option maxRecDepth 65536 in
theorem w_c7 : (Jvm.Cond.code ({ cls := "tidewatch/decision/KeyGroupCeiling", name := "atMost", desc := "(II)D" } : Jvm.MethodName) prog_33_method_6_code (3 : Nat) (Option.some Jvm.ClassFile.FieldType.double)).before args0 about1 = true := code_word (m := ⟨3, 1⟩) (meth := k3m1) (c := k3c1) (by decide +kernel) rfl rfl rfl (by decide +kernel)
set_option maxRecDepth 65536 in
theorem w_c8 : (Jvm.Cond.code ({ cls := "tidewatch/decision/KeyGroupCeiling", name := "owner", desc := "(I)I" } : Jvm.MethodName) prog_33_method_7_code (2 : Nat) (Option.some Jvm.ClassFile.FieldType.int)).before args0 about1 = true := code_word (m := ⟨3, 2⟩) (meth := k3m2) (c := k3c2) (by decide +kernel) rfl rfl rfl (by decide +kernel)
def codes1 : List Jvm.Cond := [Jvm.Cond.code x code maxLocals ret, Jvm.Cond.code ({ cls := "java/lang/Math", name := "max", desc := "(II)I" } : Jvm.MethodName) jdk_29_method_65_code (2 : Nat) (Option.some Jvm.ClassFile.FieldType.int), Jvm.Cond.code ({ cls := "tidewatch/decision/KeyGroupCeiling", name := "<init>", desc := "(I[D)V" } : Jvm.MethodName) prog_33_method_1_code (4 : Nat) (Option.none : Option Jvm.ClassFile.FieldType), Jvm.Cond.code ({ cls := "java/lang/Object", name := "<init>", desc := "()V" } : Jvm.MethodName) object_method_1_code (1 : Nat) (Option.none : Option Jvm.ClassFile.FieldType), Jvm.Cond.code ({ cls := "java/lang/Double", name := "isFinite", desc := "(D)Z" } : Jvm.MethodName) jdk_117_method_8_code (2 : Nat) (Option.some Jvm.ClassFile.FieldType.boolean), Jvm.Cond.code ({ cls := "java/lang/Math", name := "abs", desc := "(D)D" } : Jvm.MethodName) jdk_29_method_64_code (2 : Nat) (Option.some Jvm.ClassFile.FieldType.double), Jvm.Cond.code ({ cls := "tidewatch/decision/KeyGroupCeilingAtMostPinLaw", name := "ownerRef", desc := "(III)I" } : Jvm.MethodName) method_3_code (7 : Nat) (Option.some Jvm.ClassFile.FieldType.int), Jvm.Cond.code ({ cls := "tidewatch/decision/KeyGroupCeiling", name := "atMost", desc := "(II)D" } : Jvm.MethodName) prog_33_method_6_code (3 : Nat) (Option.some Jvm.ClassFile.FieldType.double), Jvm.Cond.code ({ cls := "tidewatch/decision/KeyGroupCeiling", name := "owner", desc := "(I)I" } : Jvm.MethodName) prog_33_method_7_code (2 : Nat) (Option.some Jvm.ClassFile.FieldType.int)]
set_option maxRecDepth 65536 in
theorem codes_eq : words1.filter isCode = codes1 := rfl
theorem w_codes : ∀ c ∈ words1.filter isCode, c.before args0 about1 = true := by
  rw [codes_eq]
  intro c hc
  simp only [codes1, List.mem_cons, List.not_mem_nil, or_false] at hc
  rcases hc with rfl | rfl | rfl | rfl | rfl | rfl | rfl | rfl | rfl
  · exact w_c0
  · exact w_c1
  · exact w_c2
  · exact w_c3
  · exact w_c4
  · exact w_c5
  · exact w_c6
  · exact w_c7
  · exact w_c8
set_option maxRecDepth 65536 in
theorem w_t1 : (words1.take 24).all (fun c => isCode c || c.before args0 about1) = true := by decide +kernel
set_option maxRecDepth 65536 in
theorem w_t2 : ((words1.drop 24).take 24).all (fun c => isCode c || c.before args0 about1) = true := by decide +kernel
set_option maxRecDepth 65536 in
theorem w_t3 : ((words1.drop 24).drop 24).all (fun c => isCode c || c.before args0 about1) = true := by decide +kernel
theorem w_tables : (allAtoms (Jvm.Cond.code x code maxLocals ret :: tables_1)).before args0 about1 = true := by
  rw [allAtoms_all]
  show words1.all (fun c => c.before args0 about1) = true
  refine all_split ?_ w_codes
  rw [← List.take_append_drop 24 words1, List.all_append, w_t1, ← List.take_append_drop 24 (words1.drop 24), List.all_append, w_t2, w_t3]
  rfl
set_option maxRecDepth 65536 in
theorem w_case : (Jvm.Cond.and given_1 narrow_1).before args0 about1 = true := by decide +kernel
theorem w_applies : (headSpec (Jvm.Cond.code x code maxLocals ret :: tables_1) room_1).applies x e0.platform about1 = true :=
  (Spec.applies_iff w_frames).mpr ⟨w_running, w_runnable, w_alone, w_named, w_hears, w_ripe, w_room, w_tables⟩
theorem atStart : AtStart classFile x code maxLocals ret World_1 tables_1 room_1 Calls_1 rest_1 Pre_1 launch0 p0 e0 about1 theMethod args0 below0 :=
  ⟨lists_1, trivial, launch0.admits_env _ _ _, launch0.least_env, fairChoices_fair.cas, fairChoices_fair.clock, w_frames, w_args, w_heap, w_applies, trivial, trivial, w_case⟩
end start1
theorem witness_1 : WitnessClaimed_1 := ⟨start1.p0, start1.e0, start1.about1, start1.theMethod, start1.args0, start1.below0, start1.atStart⟩
end Jvm.Pilot.@@N@@
