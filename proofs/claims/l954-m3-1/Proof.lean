import JvmDerived
import JvmDerived.Pilot.@@N@@Statement
import JvmDerived.Pilot.@@N@@Code
set_option linter.unusedVariables false
set_option linter.unusedSimpArgs false
namespace Jvm.Pilot.@@N@@
open Jvm Jvm.ClassFile Sem Op Lib Jvm.Free Jvm.Stand Jvm.LawKit Jvm.RoadKit Bundle Jvm.Pilot.@@N@@.Jvm.D
/-! OWN: the walk as a tree. Go: from here the run comes to a return that Q allows. -/
def Go (p : Program) (e : Env) (below : List Frame) (s : State) (C S : Nat) (Q : Option Value → Heap → List Loc → Prop) (T : State) (g : JFrame) : Prop :=
  ∃ s₂ o, Steps p.tables e below (T.setTop g) s₂ ∧ s₂.status = .running ∧ Ended s₂ below o ∧ ∃ v L, o = .returned v ∧ Q v s₂.heap L ∧ FrameEnd s o s₂ L C S
section OwnGo
variable {p : Program} {l : Launch} {e : Env} {R : Room} {s : State} {m : MethodId} {args : Array Value} {below : List Frame} {meth : Method} {c : Code} {T T' : State} {locs : List Loc} {cells slots : Nat} {Z : State} {a0 : Array Value} {h : Heap} {C S : Nat} {Q : Option Value → Heap → List Loc → Prop} {g g' : JFrame}
theorem Go.step (st : ∀ target, Steps p.tables e below (T'.setTop g') target → Steps p.tables e below (T.setTop g) target) (h : Go p e below s C S Q T' g') : Go p e below s C S Q T g := by
  obtain ⟨s₂, o, h1, r⟩ := h; exact ⟨s₂, o, st _ h1, r⟩
theorem Go.cast (q : g = g') (h : Go p e below s C S Q T g') : Go p e below s C S Q T g := q ▸ h
theorem Go.ret (X : Stand p l e R s m args below meth c T locs cells slots) (hlk : meth.locks = false) {v : Option Value} (hv : meth.sig.returnType = none → v = none)
    (st : ∀ fs, (∀ (f : JFrame) (acts : List Action), f.method = m → f.locked = none → f.entered = [] → (doReturn e (T.setTop f) acts v).1 = T.setFrames fs) → Steps p.tables e below (T.setTop g) (T.setFrames fs))
    (hq : Q v T.heap locs) (hc : cells ≤ C) (hs : slots ≤ S) : Go p e below s C S Q T g := by
  obtain ⟨fs, hr, hrun, hended, hW, hsame⟩ := X.leave (v := v) hv hlk
  exact ⟨_, _, st fs hr, hrun, hended, v, locs, rfl, hq, ⟨_, rfl⟩, hW, hsame.mono hc hs⟩
theorem Go.retV (X : Stand p l e R s m args below meth c T locs cells slots) (hx : p.tables.exec = Jvm.exec) (hlk : meth.locks = false) (hret : meth.sig.returnType = none) {pc : Nat} {Ls : Array Slot} (hd : decode c.code pc = .ok (.return_, 1))
    (hc : cells ≤ C) (hs : slots ≤ S) (hq : Q none T.heap locs) : Go p e below s C S Q T (mkF m pc Ls []) :=
  Go.ret X hlk (fun _ => rfl) (fun fs hr => X.returnOut hx hret hd hr) hq hc hs
theorem Go.retW (X : Stand p l e R s m args below meth c T locs cells slots) (hx : p.tables.exec = Jvm.exec) (hlk : meth.locks = false) {t : FieldType} (hret : meth.sig.returnType = some t) {pc : Nat} {Ls : Array Slot} {w : Value} {i : Instr} {rest : List Value} (hn : narrow t w = w)
    (hi : (i = .ireturn ∧ (t = .int ∨ t = .boolean ∨ t = .byte ∨ t = .char ∨ t = .short) ∧ ∃ z, w = .int z) ∨ (i = .lreturn ∧ t = .long ∧ ∃ z, w = .long z) ∨ (i = .dreturn ∧ t = .double ∧ ∃ z, w = .double z) ∨ (i = .freturn ∧ t = .float ∧ ∃ z, w = .float z) ∨ (i = .areturn ∧ t.isReference = true ∧ w.isRef = true))
    (hd : decode c.code pc = .ok (i, 1)) (hc : cells ≤ C) (hs : slots ≤ S) (hq : Q (some w) T.heap locs) : Go p e below s C S Q T (mkF m pc Ls (w :: rest)) :=
  Go.ret X hlk (fun h => by rw [hret] at h; cases h) (fun fs hr => retOut X hx hret hn hi hd hr) hq hc hs
theorem Go.retI (X : Stand p l e R s m args below meth c T locs cells slots) (hx : p.tables.exec = Jvm.exec) (hlk : meth.locks = false) (hret : meth.sig.returnType = some .int) {pc : Nat} {Ls : Array Slot} {z : Int32} {rest : List Value}
    (hd : decode c.code pc = .ok (.ireturn, 1)) (hc : cells ≤ C) (hs : slots ≤ S) (hq : Q (some (.int z)) T.heap locs) : Go p e below s C S Q T (mkF m pc Ls (.int z :: rest)) :=
  Go.retW X hx hlk hret rfl (Or.inl ⟨rfl, Or.inl rfl, z, rfl⟩) hd hc hs hq
theorem Go.retZ (X : Stand p l e R s m args below meth c T locs cells slots) (hx : p.tables.exec = Jvm.exec) (hlk : meth.locks = false) (hret : meth.sig.returnType = some .boolean) {pc : Nat} {Ls : Array Slot} {z : Int32} {rest : List Value} (hz : z = 0 ∨ z = 1)
    (hd : decode c.code pc = .ok (.ireturn, 1)) (hc : cells ≤ C) (hs : slots ≤ S) (hq : Q (some (.int z)) T.heap locs) : Go p e below s C S Q T (mkF m pc Ls (.int z :: rest)) :=
  Go.retW X hx hlk hret (by rcases hz with rfl | rfl <;> rfl) (Or.inl ⟨rfl, Or.inr (Or.inl rfl), z, rfl⟩) hd hc hs hq
theorem Go.retJ (X : Stand p l e R s m args below meth c T locs cells slots) (hx : p.tables.exec = Jvm.exec) (hlk : meth.locks = false) (hret : meth.sig.returnType = some .long) {pc : Nat} {Ls : Array Slot} {z : Int64} {rest : List Value}
    (hd : decode c.code pc = .ok (.lreturn, 1)) (hc : cells ≤ C) (hs : slots ≤ S) (hq : Q (some (.long z)) T.heap locs) : Go p e below s C S Q T (mkF m pc Ls (.long z :: rest)) :=
  Go.retW X hx hlk hret rfl (Or.inr (Or.inl ⟨rfl, rfl, z, rfl⟩)) hd hc hs hq
theorem Go.retD (X : Stand p l e R s m args below meth c T locs cells slots) (hx : p.tables.exec = Jvm.exec) (hlk : meth.locks = false) (hret : meth.sig.returnType = some .double) {pc : Nat} {Ls : Array Slot} {z : UInt64} {rest : List Value}
    (hd : decode c.code pc = .ok (.dreturn, 1)) (hc : cells ≤ C) (hs : slots ≤ S) (hq : Q (some (.double z)) T.heap locs) : Go p e below s C S Q T (mkF m pc Ls (.double z :: rest)) :=
  Go.retW X hx hlk hret rfl (Or.inr (Or.inr (Or.inl ⟨rfl, rfl, z, rfl⟩))) hd hc hs hq
theorem Go.retR (X : Stand p l e R s m args below meth c T locs cells slots) (hx : p.tables.exec = Jvm.exec) (hlk : meth.locks = false) {t : FieldType} (hret : meth.sig.returnType = some t) (ht : t.isReference = true) {pc : Nat} {Ls : Array Slot} {w : Value} {rest : List Value} (hn : narrow t w = w) (hw : w.isRef = true)
    (hd : decode c.code pc = .ok (.areturn, 1)) (hc : cells ≤ C) (hs : slots ≤ S) (hq : Q (some w) T.heap locs) : Go p e below s C S Q T (mkF m pc Ls (w :: rest)) :=
  Go.retW X hx hlk hret hn (Or.inr (Or.inr (Or.inr (Or.inr ⟨rfl, ht, hw⟩)))) hd hc hs hq
/-- a method's contract out of its walk -/
theorem con_of {y : MethodName} {bytes : ByteArray} {ml : Nat} {rt : Option FieldType} {ws : List Jvm.Cond} {rm : Room} {as' : Array Value} {h0 : Heap} (hpl : plainFor y = true)
    (body : ∀ (p : Program) (e : Env) (s : State) (m : MethodId) (below : List Frame) (meth : Method) (c : Code) (T : State), Stand p l e rm s m as' below meth c T [] 0 0 → p.tables.exec = Jvm.exec → Z.Warmed39 s.vm → c.code = bytes → c.maxLocals = ml → s.vm.findClass y.cls = some m.cls → meth.name = y.name →
      meth.sig.returnType = rt → meth.locks = false → T.heap = h0 → Go p e below s rm.cells rm.slots Q T (entryFrame m as' ml)) :
    MetFree l y (head1 (Jvm.Cond.code y bytes ml rt :: ws) rm) (fun a U => a = as' ∧ Z.Warmed39 U.vm ∧ U.heap = h0) (fun _ _ _ _ _ => True) (fun _ U o U' => ∃ v L, o = .returned v ∧ Q v U'.heap L ∧ FrameEnd U o U' L rm.cells rm.slots) := by
  refine MetFree.of_bodySF hpl hisR ?_
  intro p e s m args below meth c s₁ Bd hml0 hP hK
  obtain ⟨rfl, hZ, hh⟩ := hP
  exact body p e s m below meth c s₁ (Stand.of_body Bd) Bd.exec hZ Bd.bytes hml0 (findClass_of_methodNamed Bd.named) (name_of_methodNamed Bd.named Bd.method).1 Bd.returns (BodyLoose.notSynchronized Bd) (by rw [← hh, Bd.state]; rfl)
abbrev Con (l : Launch) (Z : State) (y : MethodName) (bytes : ByteArray) (ml : Nat) (rt : Option FieldType) (rm : Room) (as' : Array Value) (h0 : Heap) (Q : Option Value → Heap → List Loc → Prop) : Prop :=
  MetFree l y (head1 [Jvm.Cond.code y bytes ml rt] rm) (fun a U => a = as' ∧ Z.Warmed39 U.vm ∧ U.heap = h0) (fun _ _ _ _ _ => True) (fun _ U o U' => ∃ v L, o = .returned v ∧ Q v U'.heap L ∧ FrameEnd U o U' L rm.cells rm.slots)
theorem Go.callS (X : Stand p l e R s m args below meth c T locs cells slots) (hx : p.tables.exec = Jvm.exec) (hZ : Z.Warmed39 s.vm) {own : String} {index : Nat} {y : MethodName} {bytes : ByteArray} {maxL : Nat} {ret : Option FieldType} {rm : Room} {as' : Array Value} {Qc : Option Value → Heap → List Loc → Prop} {W pc : Nat} {Ls : Array Slot} {st : List Value} {argsL rest : List Value} (hml : Ls.size = c.maxLocals)
    (hown : s.vm.findClass own = some m.cls) (w1 : (Jvm.Cond.methodLink own index y).before a0 Z = true) (w2 : (Jvm.Cond.static y).before a0 Z = true) (w3 : (Jvm.Cond.initialized y.cls).before a0 Z = true) (w4 : (Jvm.Cond.code y bytes maxL ret).before a0 Z = true) (hy : y.cls ≠ "java/lang/invoke/MethodHandle" ∧ y.cls ≠ "java/lang/invoke/VarHandle")
    (hM : Con l Z y bytes maxL ret rm as' h Qc) (eT : T.heap = h) (hd : decode c.code pc = .ok (.invokestatic index, 3)) (hlen : ∀ sig, parseMethodDescriptor y.desc = some sig → argsL.length = sig.parameters.length) (hst : st = argsL.reverse ++ rest) (has : argsL.toArray = as')
    (hW : (rest.map fun v => v.category).sum ≤ W) (hf : rm.frames + 1 ≤ R.frames) (hl : W + (maxL + 11) + rm.locals ≤ R.locals) (hc : cells + rm.cells ≤ R.cells) (hs : slots + rm.slots ≤ R.slots)
    (k : ∀ (v : Option Value) (T' : State) (L : List Loc), Stand p l e R s m args below meth c T' (locs ++ L) (cells + rm.cells) (slots + rm.slots) → Qc v T'.heap L → Go p e below s C S Q T' (mkF m (pc + 3) Ls (v.toList ++ rest))) :
    Go p e below s C S Q T (mkF m pc Ls st) := by
  obtain ⟨v, _, ⟨T', L', k', n'⟩, -, X', ⟨Lc, hQ, l1, y1, z1⟩, stp⟩ := Jvm.LawKit.callS X hx (y := y) hown (mvT hZ w1) (mvT hZ w2) (mvT hZ w3) (mvT hZ w4) hy (backOf (W := W) hM hZ w4 w3 hf hl) (g := mkF m pc Ls st) rfl hml (argsL := argsL) (rest := rest) hlen hst (by show 2 * 0 + _ ≤ _; omega) hd (fun _ _ => ⟨has, eT, hc, hs⟩)
  dsimp only [Pt.U, Pt.locs, Pt.cells, Pt.slots] at X' l1 y1 z1 stp hQ
  subst l1 y1 z1
  exact Go.step stp (k v T' Lc X' hQ)
theorem Go.callI (X : Stand p l e R s m args below meth c T locs cells slots) (hx : p.tables.exec = Jvm.exec) (hZ : Z.Warmed39 s.vm) {own : String} {index : Nat} {y : MethodName} {bytes : ByteArray} {maxL : Nat} {rm : Room} {as' : Array Value} {Qc : Option Value → Heap → List Loc → Prop} {W pc : Nat} {Ls : Array Slot} {st : List Value} {a : Addr} {argsL rest : List Value} (hml : Ls.size = c.maxLocals)
    (hy1 : y.name = "<init>") (hown : s.vm.findClass own = some m.cls) (w1 : (Jvm.Cond.methodLink own index y).before a0 Z = true) (w2 : (Jvm.Cond.instanceMethod y).before a0 Z = true) (w3 : (Jvm.Cond.initialized y.cls).before a0 Z = true) (w4 : (Jvm.Cond.code y bytes maxL none).before a0 Z = true) (hy : y.cls ≠ "java/lang/invoke/MethodHandle" ∧ y.cls ≠ "java/lang/invoke/VarHandle")
    (hM : Con l Z y bytes maxL none rm as' h Qc) (eT : T.heap = h) (hd : decode c.code pc = .ok (.invokespecial index, 3)) (hlen : ∀ sig, parseMethodDescriptor y.desc = some sig → argsL.length = sig.parameters.length) (hst : st = argsL.reverse ++ .ref a :: rest) (has : (Value.ref a :: argsL).toArray = as')
    (hW : (rest.map fun v => v.category).sum ≤ W) (hf : rm.frames + 1 ≤ R.frames) (hl : W + (maxL + 11) + rm.locals ≤ R.locals) (hc : cells + rm.cells ≤ R.cells) (hs : slots + rm.slots ≤ R.slots)
    (k : ∀ (v : Option Value) (T' : State) (L : List Loc), Stand p l e R s m args below meth c T' (locs ++ L) (cells + rm.cells) (slots + rm.slots) → Qc v T'.heap L → Go p e below s C S Q T' (mkF m (pc + 3) Ls (v.toList ++ rest))) :
    Go p e below s C S Q T (mkF m pc Ls st) := by
  obtain ⟨v, _, ⟨T', L', k', n'⟩, -, X', ⟨Lc, hQ, l1, y1, z1⟩, stp⟩ := X.specialBack hx (y := y) hy1 hown (mvT hZ w1) (mvT hZ w2) (mvT hZ w4) hy (backOf (W := W) hM hZ w4 w3 hf hl) (g := mkF m pc Ls st) rfl hml (Steps.refl _) (a := a) (argsL := argsL) (rest := rest) hlen hst (by show 2 * 0 + _ ≤ _; omega) hd (fun _ _ => ⟨has, eT, hc, hs⟩)
  dsimp only [Pt.U, Pt.locs, Pt.cells, Pt.slots] at X' l1 y1 z1 stp hQ
  subst l1 y1 z1
  exact Go.step (fun _ q => stp.trans q) (k v T' Lc X' hQ)
theorem Go.callV (X : Stand p l e R s m args below meth c T locs cells slots) (hx : p.tables.exec = Jvm.exec) (hZ : Z.Warmed39 s.vm) {own K : String} {index : Nat} {y z : MethodName} {bytes : ByteArray} {maxL : Nat} {ret : Option FieldType} {rm : Room} {as' : Array Value} {Qc : Option Value → Heap → List Loc → Prop} {W pc : Nat} {Ls : Array Slot} {st : List Value} {a : Addr} {argsL rest : List Value} (hml : Ls.size = c.maxLocals)
    (hown : s.vm.findClass own = some m.cls) (w1 : (Jvm.Cond.methodLink own index y).before a0 Z = true) (w2 : (Jvm.Cond.declares y).before a0 Z = true) (hnf : NotFace s y) (w5 : (Jvm.Cond.selects K y z).before a0 Z = true) (w6 : (Jvm.Cond.instanceMethod z).before a0 Z = true) (w3 : (Jvm.Cond.initialized z.cls).before a0 Z = true) (w4 : (Jvm.Cond.code z bytes maxL ret).before a0 Z = true) (hy : y.cls ≠ "java/lang/invoke/MethodHandle" ∧ y.cls ≠ "java/lang/invoke/VarHandle")
    (hM : Con l Z z bytes maxL ret rm as' h Qc) (eT : T.heap = h) (E : Exa Z h a K) (hd : decode c.code pc = .ok (.invokevirtual index, 3)) (hlen : ∀ sig, parseMethodDescriptor y.desc = some sig → argsL.length = sig.parameters.length) (hst : st = argsL.reverse ++ .ref a :: rest) (has : (Value.ref a :: argsL).toArray = as')
    (hW : (rest.map fun v => v.category).sum ≤ W) (hf : rm.frames + 1 ≤ R.frames) (hl : W + (maxL + 11) + rm.locals ≤ R.locals) (hc : cells + rm.cells ≤ R.cells) (hs : slots + rm.slots ≤ R.slots)
    (k : ∀ (v : Option Value) (T' : State) (L : List Loc), Stand p l e R s m args below meth c T' (locs ++ L) (cells + rm.cells) (slots + rm.slots) → Qc v T'.heap L → Go p e below s C S Q T' (mkF m (pc + 3) Ls (v.toList ++ rest))) :
    Go p e below s C S Q T (mkF m pc Ls st) := by
  obtain ⟨cq, kq, qa, qb, qc⟩ := isOf hZ eT E
  obtain ⟨v, _, ⟨T', L', k', n'⟩, -, X', ⟨Lc, hQ, l1, y1, z1⟩, stp⟩ := X.virtualBack hx (y := y) (z := z) hown (mvT hZ w1) (mvT hZ w2) hnf (mvT hZ w5) (mvT hZ w6) hy (backOf (W := W) hM hZ w4 w3 hf hl) qa qc (g := mkF m pc Ls st) rfl hml (Steps.refl _) (argsL := argsL) (rest := rest) hlen hst (by show 2 * 0 + _ ≤ _; omega) hd (fun _ _ => ⟨has, eT, hc, hs⟩)
  dsimp only [Pt.U, Pt.locs, Pt.cells, Pt.slots] at X' l1 y1 z1 stp hQ
  subst l1 y1 z1
  exact Go.step (fun _ q => stp.trans q) (k v T' Lc X' hQ)
theorem Go.callP (X : Stand p l e R s m args below meth c T locs cells slots) (hx : p.tables.exec = Jvm.exec) (hZ : Z.Warmed39 s.vm) {own : String} {index : Nat} {y : MethodName} {bytes : ByteArray} {maxL : Nat} {ret : Option FieldType} {rm : Room} {as' : Array Value} {Qc : Option Value → Heap → List Loc → Prop} {W pc : Nat} {Ls : Array Slot} {st : List Value} {a : Addr} {argsL rest : List Value} (hml : Ls.size = c.maxLocals)
    (hown : s.vm.findClass own = some m.cls) (w1 : (Jvm.Cond.methodLink own index y).before a0 Z = true) (w6 : (Jvm.Cond.instanceMethod y).before a0 Z = true) {kk : Nat} (w5 : (Jvm.Cond.instantiable y.cls kk).before a0 Z = true) (w7 : (Jvm.Cond.privateMethod y).before a0 Z = true) (w3 : (Jvm.Cond.initialized y.cls).before a0 Z = true) (w4 : (Jvm.Cond.code y bytes maxL ret).before a0 Z = true) (hy : y.cls ≠ "java/lang/invoke/MethodHandle" ∧ y.cls ≠ "java/lang/invoke/VarHandle")
    (hM : Con l Z y bytes maxL ret rm as' h Qc) (eT : T.heap = h) {K : String} (E : Exa Z h a K) (hd : decode c.code pc = .ok (.invokevirtual index, 3)) (hlen : ∀ sig, parseMethodDescriptor y.desc = some sig → argsL.length = sig.parameters.length) (hst : st = argsL.reverse ++ .ref a :: rest) (has : (Value.ref a :: argsL).toArray = as')
    (hW : (rest.map fun v => v.category).sum ≤ W) (hf : rm.frames + 1 ≤ R.frames) (hl : W + (maxL + 11) + rm.locals ≤ R.locals) (hc : cells + rm.cells ≤ R.cells) (hs : slots + rm.slots ≤ R.slots)
    (k : ∀ (v : Option Value) (T' : State) (L : List Loc), Stand p l e R s m args below meth c T' (locs ++ L) (cells + rm.cells) (slots + rm.slots) → Qc v T'.heap L → Go p e below s C S Q T' (mkF m (pc + 3) Ls (v.toList ++ rest))) :
    Go p e below s C S Q T (mkF m pc Ls st) := by
  obtain ⟨cq, q1, q2⟩ := E.cell
  have hpriv : s.PrivateAt y := Cond.privateMethod_at (mvP hZ w7 (args := #[]))
  have w5' : (Jvm.Cond.instantiable y.cls kk).before args s = true := mvT hZ w5
  obtain ⟨c1, k1, i1, i2, -, i4, -⟩ := Cond.instantiable_spec w5'
  have hsel : (Jvm.Cond.selects y.cls y y).before args s = true := selects_self_of_private i1 i2 (by simp only [Bool.or_eq_false_iff] at i4; exact i4.1) hpriv (mvT hZ w6) hy
  obtain ⟨v, _, ⟨T', L', k', n'⟩, -, X', ⟨Lc, hQ, l1, y1, z1⟩, stp⟩ := X.privateBack hx (y := y) hown (mvT hZ w1) (mvT hZ w6) hsel hpriv (mvT hZ w4) hy (backOf (W := W) hM hZ w4 w3 hf hl) (g := mkF m pc Ls st) rfl hml (Steps.refl _) (a := a) (by rw [eT]; exact q1) q2 (argsL := argsL) (rest := rest) hlen hst (by show 2 * 0 + _ ≤ _; omega) hd (fun _ _ => ⟨has, eT, hc, hs⟩)
  dsimp only [Pt.U, Pt.locs, Pt.cells, Pt.slots] at X' l1 y1 z1 stp hQ
  subst l1 y1 z1
  exact Go.step (fun _ q => stp.trans q) (k v T' Lc X' hQ)
end OwnGo
/-! OWN: branches on a comparison of doubles, as javac writes them -/
section OwnCmp
variable {x y : UInt64}
theorem cv_none (o : CmpOp) (h : FP.dcmp x y = none) : cmpValue (FP.dcmp x y) o = (match o with | .l => -1 | .g => 1) := by rw [h]; cases o <;> rfl
theorem gt_y (h : FP.dcmp x y = some .gt) : ifCond.holds .le (cmpValue (FP.dcmp x y) .l) = false := by rw [h]; rfl
theorem gt_n (h : ¬ FP.dcmp x y = some .gt) : ifCond.holds .le (cmpValue (FP.dcmp x y) .l) = true := by
  rcases q : FP.dcmp x y with _ | (_ | _ | _) <;> first | rfl | exact absurd q h
theorem ge_y (h : FP.dcmp x y = some .gt ∨ FP.dcmp x y = some .eq) : ifCond.holds .lt (cmpValue (FP.dcmp x y) .l) = false := by rcases h with h | h <;> rw [h] <;> rfl
theorem ge_n (h : ¬ (FP.dcmp x y = some .gt ∨ FP.dcmp x y = some .eq)) : ifCond.holds .lt (cmpValue (FP.dcmp x y) .l) = true := by
  rcases q : FP.dcmp x y with _ | (_ | _ | _) <;> first | rfl | exact absurd (Or.inl q) h | exact absurd (Or.inr q) h
theorem lt_y (h : FP.dcmp x y = some .lt) : ifCond.holds .ge (cmpValue (FP.dcmp x y) .g) = false := by rw [h]; rfl
theorem lt_n (h : ¬ FP.dcmp x y = some .lt) : ifCond.holds .ge (cmpValue (FP.dcmp x y) .g) = true := by
  rcases q : FP.dcmp x y with _ | (_ | _ | _) <;> first | rfl | exact absurd q h
theorem le_y (h : FP.dcmp x y = some .lt ∨ FP.dcmp x y = some .eq) : ifCond.holds .gt (cmpValue (FP.dcmp x y) .g) = false := by rcases h with h | h <;> rw [h] <;> rfl
theorem le_n (h : ¬ (FP.dcmp x y = some .lt ∨ FP.dcmp x y = some .eq)) : ifCond.holds .gt (cmpValue (FP.dcmp x y) .g) = true := by
  rcases q : FP.dcmp x y with _ | (_ | _ | _) <;> first | rfl | exact absurd (Or.inl q) h | exact absurd (Or.inr q) h
theorem eq_y (o : CmpOp) (h : FP.dcmp x y = some .eq) : ifCond.holds .ne (cmpValue (FP.dcmp x y) o) = false ∧ ifCond.holds .eq (cmpValue (FP.dcmp x y) o) = true := by rw [h]; cases o <;> exact ⟨rfl, rfl⟩
theorem eq_n (o : CmpOp) (h : ¬ FP.dcmp x y = some .eq) : ifCond.holds .ne (cmpValue (FP.dcmp x y) o) = true ∧ ifCond.holds .eq (cmpValue (FP.dcmp x y) o) = false := by
  rcases q : FP.dcmp x y with _ | (_ | _ | _) <;> cases o <;> first | exact ⟨rfl, rfl⟩ | exact absurd q h
/-- x > y, by a taken 'ifgt' over dcmpl -/
theorem gtT_y (h : FP.dcmp x y = some .gt) : ifCond.holds .gt (cmpValue (FP.dcmp x y) .l) = true := by rw [h]; rfl
theorem gtT_n (h : ¬ FP.dcmp x y = some .gt) : ifCond.holds .gt (cmpValue (FP.dcmp x y) .l) = false := by
  rcases q : FP.dcmp x y with _ | (_ | _ | _) <;> first | rfl | exact absurd q h
theorem geT_y (h : FP.dcmp x y = some .gt ∨ FP.dcmp x y = some .eq) : ifCond.holds .ge (cmpValue (FP.dcmp x y) .l) = true := by rcases h with h | h <;> rw [h] <;> rfl
theorem geT_n (h : ¬ (FP.dcmp x y = some .gt ∨ FP.dcmp x y = some .eq)) : ifCond.holds .ge (cmpValue (FP.dcmp x y) .l) = false := by
  rcases q : FP.dcmp x y with _ | (_ | _ | _) <;> first | rfl | exact absurd (Or.inl q) h | exact absurd (Or.inr q) h
theorem ltT_y (h : FP.dcmp x y = some .lt) : ifCond.holds .lt (cmpValue (FP.dcmp x y) .g) = true := by rw [h]; rfl
theorem ltT_n (h : ¬ FP.dcmp x y = some .lt) : ifCond.holds .lt (cmpValue (FP.dcmp x y) .g) = false := by
  rcases q : FP.dcmp x y with _ | (_ | _ | _) <;> first | rfl | exact absurd q h
theorem leT_y (h : FP.dcmp x y = some .lt ∨ FP.dcmp x y = some .eq) : ifCond.holds .le (cmpValue (FP.dcmp x y) .g) = true := by rcases h with h | h <;> rw [h] <;> rfl
theorem leT_n (h : ¬ (FP.dcmp x y = some .lt ∨ FP.dcmp x y = some .eq)) : ifCond.holds .le (cmpValue (FP.dcmp x y) .g) = false := by
  rcases q : FP.dcmp x y with _ | (_ | _ | _) <;> first | rfl | exact absurd (Or.inl q) h | exact absurd (Or.inr q) h
end OwnCmp

/-! OWN: arrays by a function of the place -/
def updN {α : Type} (g : Nat → α) (j : Nat) (x : α) : Nat → α := fun i => if i = j then x else g i
theorem updN_same {α : Type} (g : Nat → α) (j : Nat) (x : α) : updN g j x j = x := by simp [updN]
theorem updN_ne {α : Type} {g : Nat → α} {i j : Nat} {x : α} (h : i ≠ j) : updN g j x i = g i := by simp [updN, h]
def Fv (Z : State) (h : Heap) (a : Addr) (ty : FieldType) (n : Int32) (f : Nat → Value) : Prop :=
  ∃ c : Cell, Arr Z h a c ty ∧ c.slots.size = n.toNatClampNeg ∧ ¬ n < 0 ∧ (∀ i, fits ty (f i) = true) ∧ ∀ i, i < c.slots.size → c.slots[i]? = some (f i)
abbrev Dv (Z : State) (h : Heap) (a : Addr) (n : Int32) (g : Nat → UInt64) : Prop := Fv Z h a .double n (fun i => .double (g i))
abbrev Iv (Z : State) (h : Heap) (a : Addr) (n : Int32) (g : Nat → Int32) : Prop := Fv Z h a .int n (fun i => .int (g i))
section OwnFv
variable {Z : State} {h h' : Heap} {a b : Addr} {ty : FieldType} {n j : Int32} {f : Nat → Value} {v : Value} {sl : Nat} {ws : List Addr}
theorem Fv.lt (F : Fv Z h a ty n f) : a < h.size := by obtain ⟨c, A, -⟩ := F; exact A.lt
theorem Fv.ext (F : Fv Z h a ty n f) (E : Ext h h') : Fv Z h' a ty n f := by obtain ⟨c, A, r⟩ := F; exact ⟨c, A.ext E, r⟩
theorem Fv.other (F : Fv Z h b ty n f) (W : Wr h h' a sl v) (q : b ≠ a) : Fv Z h' b ty n f := by obtain ⟨c, A, r⟩ := F; exact ⟨c, A.other W q, r⟩
theorem Fv.keep (F : Fv Z h a ty n f) (K : Keep h h' ws) (q : a ∉ ws) : Fv Z h' a ty n f := by obtain ⟨c, A, r⟩ := F; exact ⟨c, ⟨K.2.1 a c A.1 q, A.2⟩, r⟩
theorem Fv.new {k : ClassId} (A : Arr Z h a (newA k ty n) ty) (q : ¬ n < 0) : Fv Z h a ty n (fun _ => defaultValue ty) := ⟨_, A, sz_new _ _ _, q, fun i => by cases ty <;> rfl, fun i hi => by
  rw [sz_new] at hi; simp [newA, hi]⟩
theorem own_nat_of {j : Int32} (h : ¬ j < 0) : (j.toNatClampNeg : Int) = j.toInt := by
  rw [Int32.lt_iff_toInt_lt] at h; have e0 : (0 : Int32).toInt = 0 := rfl
  rw [Int32.toNatClampNeg]; omega
theorem Fv.set (F : Fv Z h a ty n f) (W : Wr h h' a j.toNatClampNeg v) (hv : fits ty v = true) : Fv Z h' a ty n (updN f j.toNatClampNeg v) := by
  obtain ⟨c, A, S, P, G, H⟩ := F
  refine ⟨_, A.same W, by rw [sz_set]; exact S, P, fun i => ?_, fun i hi => ?_⟩
  · unfold updN; split
    · exact hv
    · exact G i
  · rw [sz_set] at hi
    unfold updN
    by_cases u : i = j.toNatClampNeg
    · rw [if_pos u, u]; rw [u] at hi; simp [Cell.setSlot, hi]
    · rw [if_neg u]; simp only [Cell.setSlot]; rw [Array.getElem?_setIfInBounds_ne (Ne.symm u)]; exact H i hi
theorem Dv.set {g : Nat → UInt64} {x : UInt64} (F : Dv Z h a n g) (W : Wr h h' a j.toNatClampNeg (.double x)) : Dv Z h' a n (updN g j.toNatClampNeg x) := by
  have := Fv.set F W rfl
  have e : (updN (fun i => Value.double (g i)) j.toNatClampNeg (.double x)) = fun i => Value.double (updN g j.toNatClampNeg x i) := by
    funext i; unfold updN; split <;> rfl
  rw [e] at this; exact this
theorem Iv.set {g : Nat → Int32} {x : Int32} (F : Iv Z h a n g) (W : Wr h h' a j.toNatClampNeg (.int x)) : Iv Z h' a n (updN g j.toNatClampNeg x) := by
  have := Fv.set F W rfl
  have e : (updN (fun i => Value.int (g i)) j.toNatClampNeg (.int x)) = fun i => Value.int (updN g j.toNatClampNeg x i) := by
    funext i; unfold updN; split <;> rfl
  rw [e] at this; exact this
theorem Fv.congr {f' : Nat → Value} (F : Fv Z h a ty n f) (q : ∀ i, f i = f' i) : Fv Z h a ty n f' := by rw [← (funext q : f = f')]; exact F
theorem Fv.inb {c : Cell} (S : c.slots.size = n.toNatClampNeg) (q : ¬ j < 0 ∧ j < n) : ¬ (j < 0 ∨ c.slots.size ≤ j.toNatClampNeg) := inb_of S q
variable {p : Program} {l : Launch} {e : Env} {R : Room} {s : State} {m : MethodId} {args : Array Value} {below : List Frame} {meth : Method} {c : Code} {T : State} {locs : List Loc} {cells slots : Nat} {C S : Nat} {Q : Option Value → Heap → List Loc → Prop} {pc : Nat} {Ls : Array Slot} {rest : List Value}
theorem Go.alen (X : Stand p l e R s m args below meth c T locs cells slots) (hx : p.tables.exec = Jvm.exec) (hZ : Z.Warmed39 s.vm) (eT : T.heap = h) (F : Fv Z h a ty n f) (hd : decode c.code pc = .ok (.arraylength, 1))
    (k : Go p e below s C S Q T (mkF m (pc + 1) Ls (.int n :: rest))) : Go p e below s C S Q T (mkF m pc Ls (.ref a :: rest)) := by
  obtain ⟨cl, A, S', P, -, -⟩ := F
  refine Go.step (X.arraylength hx (cell := cl) (by rw [eT]; exact A.1) (State.isArrayOf_alike hZ.alike A.2.1) (g := mkF m pc Ls (.ref a :: rest)) rfl rfl hd) ?_
  rw [len_of S' P]; exact k
theorem Go.iaload {g : Nat → Int32} {v : Int32} (X : Stand p l e R s m args below meth c T locs cells slots) (hx : p.tables.exec = Jvm.exec) (hZ : Z.Warmed39 s.vm) (eT : T.heap = h) (F : Iv Z h a n g) (hj : ¬ j < 0 ∧ j < n) (hv : g j.toNatClampNeg = v) (hd : decode c.code pc = .ok (.iaload, 1))
    (k : Go p e below s C S Q T (mkF m (pc + 1) Ls (.int v :: rest))) : Go p e below s C S Q T (mkF m pc Ls (.int j :: .ref a :: rest)) := by
  obtain ⟨cl, A, S', P, G, H⟩ := F
  have q := inb_of S' hj
  exact Go.step (fun t r => X.iaload hx (j := j) (v := .int v) (by rw [eT]; exact A.1) (State.isArrayOf_alike hZ.alike A.2.1) A.2.2 q (by rw [← hv]; exact H _ (Nat.lt_of_not_le fun z => q (Or.inr z))) (g := mkF m pc Ls (.int j :: .ref a :: rest)) rfl rfl hd t r) k
theorem Go.daload {g : Nat → UInt64} {v : UInt64} (X : Stand p l e R s m args below meth c T locs cells slots) (hx : p.tables.exec = Jvm.exec) (hZ : Z.Warmed39 s.vm) (eT : T.heap = h) (F : Dv Z h a n g) (hj : ¬ j < 0 ∧ j < n) (hv : g j.toNatClampNeg = v) (hd : decode c.code pc = .ok (.daload, 1))
    (k : Go p e below s C S Q T (mkF m (pc + 1) Ls (.double v :: rest))) : Go p e below s C S Q T (mkF m pc Ls (.int j :: .ref a :: rest)) := by
  obtain ⟨cl, A, S', P, G, H⟩ := F
  have q := inb_of S' hj
  exact Go.step (fun t r => X.daload hx (j := j) (v := .double v) (by rw [eT]; exact A.1) (State.isArrayOf_alike hZ.alike A.2.1) A.2.2 q (by rw [← hv]; exact H _ (Nat.lt_of_not_le fun z => q (Or.inr z))) (g := mkF m pc Ls (.int j :: .ref a :: rest)) rfl rfl hd t r) k
theorem Go.iastore {g : Nat → Int32} {x : Int32} (X : Stand p l e R s m args below meth c T locs cells slots) (hx : p.tables.exec = Jvm.exec) (hZ : Z.Warmed39 s.vm) (eT : T.heap = h) (F : Iv Z h a n g) (hj : ¬ j < 0 ∧ j < n) (hd : decode c.code pc = .ok (.iastore, 1))
    (k : ∀ T' h', Stand p l e R s m args below meth c T' (locs ++ [⟨a, j.toNatClampNeg⟩]) cells slots → T'.heap = h' → Wr h h' a j.toNatClampNeg (.int x) → Iv Z h' a n (updN g j.toNatClampNeg x) → Go p e below s C S Q T' (mkF m (pc + 1) Ls rest)) : Go p e below s C S Q T (mkF m pc Ls (.int x :: .int j :: .ref a :: rest)) := by
  have F0 := F
  obtain ⟨cl, A, S', P, G, H⟩ := F
  obtain ⟨T', h', X', e', W, st⟩ := stI X hx hZ eT A (j := j) (x := x) (inb_of S' hj) (g := mkF m pc Ls (.int x :: .int j :: .ref a :: rest)) rfl rfl hd
  exact Go.step st (k T' h' X' e' W (Iv.set F0 W))
theorem Go.dastore {g : Nat → UInt64} {x : UInt64} (X : Stand p l e R s m args below meth c T locs cells slots) (hx : p.tables.exec = Jvm.exec) (hZ : Z.Warmed39 s.vm) (eT : T.heap = h) (F : Dv Z h a n g) (hj : ¬ j < 0 ∧ j < n) (hd : decode c.code pc = .ok (.dastore, 1))
    (k : ∀ T' h', Stand p l e R s m args below meth c T' (locs ++ [⟨a, j.toNatClampNeg⟩]) cells slots → T'.heap = h' → Wr h h' a j.toNatClampNeg (.double x) → Dv Z h' a n (updN g j.toNatClampNeg x) → Go p e below s C S Q T' (mkF m (pc + 1) Ls rest)) : Go p e below s C S Q T (mkF m pc Ls (.double x :: .int j :: .ref a :: rest)) := by
  have F0 := F
  obtain ⟨cl, A, S', P, G, H⟩ := F
  obtain ⟨T', h', X', e', W, st⟩ := stD X hx hZ eT A (j := j) (x := x) (inb_of S' hj) (g := mkF m pc Ls (.double x :: .int j :: .ref a :: rest)) rfl rfl hd
  exact Go.step st (k T' h' X' e' W (Dv.set F0 W))
abbrev Zv (Z : State) (h : Heap) (a : Addr) (n : Int32) (g : Nat → Int32) : Prop := Fv Z h a .boolean n (fun i => .int (g i))
theorem Zv.set {g : Nat → Int32} {x : Int32} (F : Zv Z h a n g) (W : Wr h h' a j.toNatClampNeg (.int x)) (hb : fits .boolean (.int x) = true) : Zv Z h' a n (updN g j.toNatClampNeg x) := by
  have := Fv.set F W hb
  have e : (updN (fun i => Value.int (g i)) j.toNatClampNeg (.int x)) = fun i => Value.int (updN g j.toNatClampNeg x i) := by
    funext i; unfold updN; split <;> rfl
  rw [e] at this; exact this
theorem Go.zaload {g : Nat → Int32} {v : Int32} (X : Stand p l e R s m args below meth c T locs cells slots) (hx : p.tables.exec = Jvm.exec) (hZ : Z.Warmed39 s.vm) (eT : T.heap = h) (F : Zv Z h a n g) (hj : ¬ j < 0 ∧ j < n) (hv : g j.toNatClampNeg = v) (hd : decode c.code pc = .ok (.baload, 1))
    (k : Go p e below s C S Q T (mkF m (pc + 1) Ls (.int v :: rest))) : Go p e below s C S Q T (mkF m pc Ls (.int j :: .ref a :: rest)) := by
  obtain ⟨cl, A, S', P, G, H⟩ := F
  have q := inb_of S' hj
  exact Go.step (fun t r => X.baloadBooleans hx (j := j) (v := .int v) (by rw [eT]; exact A.1) (State.isArrayOf_alike hZ.alike A.2.1) A.2.2 q (by rw [← hv]; exact H _ (Nat.lt_of_not_le fun z => q (Or.inr z))) (g := mkF m pc Ls (.int j :: .ref a :: rest)) rfl rfl hd t r) k
theorem Go.zastore {g : Nat → Int32} {x : Int32} (X : Stand p l e R s m args below meth c T locs cells slots) (hx : p.tables.exec = Jvm.exec) (hZ : Z.Warmed39 s.vm) (eT : T.heap = h) (F : Zv Z h a n g) (hj : ¬ j < 0 ∧ j < n) (hn : nar .boolean x = x) (hd : decode c.code pc = .ok (.bastore, 1))
    (k : ∀ T' h', Stand p l e R s m args below meth c T' (locs ++ [⟨a, j.toNatClampNeg⟩]) cells slots → T'.heap = h' → Wr h h' a j.toNatClampNeg (.int x) → Zv Z h' a n (updN g j.toNatClampNeg x) → Go p e below s C S Q T' (mkF m (pc + 1) Ls rest)) : Go p e below s C S Q T (mkF m pc Ls (.int x :: .int j :: .ref a :: rest)) := by
  have F0 := F
  obtain ⟨cl, A, S', P, G, H⟩ := F
  have hj' := inb_of S' hj
  obtain ⟨X', st⟩ := bastoreZ X hx (by rw [eT]; exact A.1) (State.isArrayOf_alike hZ.alike A.2.1) A.2.2 hj' (g := mkF m pc Ls (.int x :: .int j :: .ref a :: rest)) rfl rfl hd
  rw [hn] at X' st
  have W : Wr h (T.setCell a (cl.setSlot j.toNatClampNeg (.int x))).heap a j.toNatClampNeg (.int x) := ⟨cl, A.1, A.plain, Nat.lt_of_not_le fun q => hj' (Or.inr q), by rw [← eT]; rfl⟩
  exact Go.step st (k _ _ X' rfl W (Zv.set F0 W (by rw [← hn]; exact fits_nar_bool x)))
/-- clone() of an array -/
theorem Go.clone {a0 : Array Value} {own ad : String} {index W cap : Nat} (X : Stand p l e R s m args below meth c T locs cells slots) (hx : p.tables.exec = Jvm.exec) (hZ : Z.Warmed39 s.vm) (hml : Ls.size = c.maxLocals) (hown : s.vm.findClass own = some m.cls)
    (w1 : (Jvm.Cond.methodLink own index ⟨ad, "clone", "()Ljava/lang/Object;"⟩).before a0 Z = true) (w2 : (Jvm.Cond.sameMethod ad "java/lang/Object" "clone" "()Ljava/lang/Object;").before a0 Z = true) (w3 : (Jvm.Cond.native ⟨"java/lang/Object", "clone", "()Ljava/lang/Object;"⟩).before a0 Z = true)
    (w4 : (Jvm.Cond.instanceMethod ⟨"java/lang/Object", "clone", "()Ljava/lang/Object;"⟩).before a0 Z = true) (w5 : (Jvm.Cond.selects ad ⟨ad, "clone", "()Ljava/lang/Object;"⟩ ⟨"java/lang/Object", "clone", "()Ljava/lang/Object;"⟩).before a0 Z = true) (w6 : (Jvm.Cond.castable ad "java/lang/Cloneable").before a0 Z = true)
    (eT : T.heap = h) (F : Fv Z h a ty n f) (E : Exa Z h a ad) (hd : decode c.code pc = .ok (.invokevirtual index, 3)) (hf : 1 ≤ R.frames) (hW : (rest.map fun v => v.category).sum ≤ W) (hl : W + 14 ≤ R.locals) (hcap : n.toNatClampNeg ≤ cap) (hc : cells + 1 ≤ R.cells) (hsl : slots + cap ≤ R.slots)
    (k : ∀ T' h' b, b = h.size → Stand p l e R s m args below meth c T' locs (cells + 1) (slots + cap) → T'.heap = h' → Ext h h' → Fv Z h' b ty n f → Exa Z h' b ad → Go p e below s C S Q T' (mkF m (pc + 3) Ls (.ref b :: rest))) : Go p e below s C S Q T (mkF m pc Ls (.ref a :: rest)) := by
  obtain ⟨cl, A, S', P, G, H⟩ := F
  have FC : FitC Z cl := fitC_of A fun i hi v hv => by rw [H i hi] at hv; cases hv; exact G i
  obtain ⟨T', h', X', e', ex, A', E', st⟩ := cloneA X hx hZ hown w1 w2 w3 w4 w5 w6 eT A E FC (g := mkF m pc Ls (.ref a :: rest)) rfl hml rfl hd hf (by show 2 * 0 + _ ≤ _; omega) hl (by rw [S']; exact hcap) hc hsl
  exact Go.step st (k T' h' _ rfl X' e' ex ⟨cloneOf cl, A', S', P, G, H⟩ E')
end OwnFv

section OwnConv
open Jvm.FP.Core
theorem own_nnN {a : UInt64} (h : val64 a ≠ .nan) : Jvm.Free.Fl.NoNaN64 a := Jvm.Free.Fl.noNaN64_no.mpr ((notNaN_iff a).mpr h)
theorem own_Nnn {a : UInt64} (h : Jvm.Free.Fl.NoNaN64 a) : val64 a ≠ .nan := (notNaN_iff a).mp (Jvm.Free.Fl.noNaN64_no.mp h)
theorem own_finF {a : UInt64} (h : DFin a) : Jvm.Free.Fl.Fin64 a := Jvm.Free.Fl.fin64_core.mpr h
theorem own_Ffin {a : UInt64} (h : Jvm.Free.Fl.Fin64 a) : DFin a := Jvm.Free.Fl.fin64_core.mp h
theorem own_nnF {a : UInt64} (h : DFin a) : Jvm.Free.Fl.NoNaN64 a := own_nnN h.ne_nan
theorem own_nz {x : Int64} (h : x ≠ 0) : Jvm.Free.Fl.Nz64 (FP.l2d x) := Jvm.Free.Fl.nz64_core.mpr (fun z => l2d_ne_zero h ((zero_bits2 _).mp z))
theorem own_eqD {a b : UInt64} (h : a = b) (n : Jvm.Free.Fl.NoNaN64 a) : FP.dcmp a b = some .eq := by subst h; exact dcmp_self (own_Nnn n)
end OwnConv

def imaxW (u v : Int32) : Int32 := if u < v then v else u
theorem d1_0 : decode jdk_29_method_65_code 0 = .ok (.iload_n 0, 1) := by decide +kernel
theorem d1_1 : decode jdk_29_method_65_code 1 = .ok (.iload_n 1, 1) := by decide +kernel
theorem d1_2 : decode jdk_29_method_65_code 2 = .ok (.if_icmp .lt 7, 3) := by decide +kernel
theorem d1_9 : decode jdk_29_method_65_code 9 = .ok (.iload_n 1, 1) := by decide +kernel
theorem d1_10 : decode jdk_29_method_65_code 10 = .ok (.ireturn, 1) := by decide +kernel
theorem d1_5 : decode jdk_29_method_65_code 5 = .ok (.iload_n 0, 1) := by decide +kernel
theorem d1_6 : decode jdk_29_method_65_code 6 = .ok (.goto 4, 3) := by decide +kernel
set_option maxRecDepth 65536 in
set_option maxHeartbeats 40000000 in
theorem w1 {p : Program} {l : Launch} {e : Env} {s : State} {m : MethodId} {args : Array Value} {below : List Frame} {meth : Method} {c_ : Code} {T0 : State} {locs : List Loc} {Z : State} {a0 : Array Value} {h0 : Heap} {n0 : Nat} (u v : Int32)
    (X0 : Stand p l e ({ frames := 0, cells := 0, slots := 0, locals := 0 } : Room) s m args below meth c_ T0 locs 0 0) (hx : p.tables.exec = Jvm.exec) (hZ : Z.Warmed39 s.vm) (hw : ∀ d ∈ tables_1, d.before a0 Z = true) (hby : c_.code = jdk_29_method_65_code) (hml : c_.maxLocals = 2) (hown : s.vm.findClass "java/lang/Math" = some m.cls) (hnm : meth.name = "max") (hret : meth.sig.returnType = some .int) (hlk : meth.locks = false) (e0 : T0.heap = h0) (Z0 : n0 ≤ h0.size) (N0 : Fr n0 locs)  :
    Go p e below s ({ frames := 0, cells := 0, slots := 0, locals := 0 } : Room).cells ({ frames := 0, cells := 0, slots := 0, locals := 0 } : Room).slots (fun r h L => r = some (.int (imaxW u v)) ∧ Fr n0 L ∧ h = h0) T0 (mkF m 0 #[.val (.int u), .val (.int v)] []) := by
  show Go _ _ _ _ _ _ _ T0 (mkF m 0 #[.val (.int u), .val (.int v)] [])
  refine Go.step (fun _ k => XS.iloadN X0.here hx rfl (hb hby d1_0) rfl k) ?_
  show Go _ _ _ _ _ _ _ T0 (mkF m 1 #[.val (.int u), .val (.int v)] [(.int u)])
  refine Go.step (fun _ k => XS.iloadN X0.here hx rfl (hb hby d1_1) rfl k) ?_
  show Go _ _ _ _ _ _ _ T0 (mkF m 2 #[.val (.int u), .val (.int v)] [(.int v), (.int u)])
  by_cases hc2_1 : u < v
  · refine Go.step (fun _ k => XS.icmpYes X0.here hx rfl (pc0 := 2) (pc' := 9) rfl (hb hby d1_2) rfl (tlt hc2_1).1 (by decide) (by decide) k) ?_
    show Go _ _ _ _ _ _ _ T0 (mkF m 9 #[.val (.int u), .val (.int v)] [])
    refine Go.step (fun _ k => XS.iloadN X0.here hx rfl (hb hby d1_9) rfl k) ?_
    show Go _ _ _ _ _ _ _ T0 (mkF m 10 #[.val (.int u), .val (.int v)] [(.int v)])
    refine Go.retI X0 hx hlk hret (hb hby d1_10) (by decide) (by decide) ?_
    try rw [e0]
    exact ⟨by simp only [imaxW]; rw [if_pos hc2_1], N0, rfl⟩
  · refine Go.step (fun _ k => XS.icmpNo X0.here hx rfl (hb hby d1_2) rfl (flt hc2_1).1 k) ?_
    show Go _ _ _ _ _ _ _ T0 (mkF m 5 #[.val (.int u), .val (.int v)] [])
    refine Go.step (fun _ k => XS.iloadN X0.here hx rfl (hb hby d1_5) rfl k) ?_
    show Go _ _ _ _ _ _ _ T0 (mkF m 6 #[.val (.int u), .val (.int v)] [(.int u)])
    refine Go.step (fun _ k => XS.goto X0.here hx rfl (pc0 := 6) (pc' := 10) rfl (hb hby d1_6) (by decide) (by decide) k) ?_
    show Go _ _ _ _ _ _ _ T0 (mkF m 10 #[.val (.int u), .val (.int v)] [(.int u)])
    refine Go.retI X0 hx hlk hret (hb hby d1_10) (by decide) (by decide) ?_
    try rw [e0]
    exact ⟨by simp only [imaxW]; rw [if_neg hc2_1], N0, rfl⟩
theorem ef_rm1 (m : MethodId) (u : Int32) (v : Int32) : entryFrame m #[(.int u), (.int v)] 2 = mkF m 0 #[.val (.int u), .val (.int v)] [] := by first | (simp [entryFrame, mkF, argsToLocals, Value.category]; done) | rfl
theorem rm1 (l : Launch) (Z : State) (a0 : Array Value) (hw : ∀ d ∈ tables_1, d.before a0 Z = true) (u v : Int32) (h0 : Heap) (n0 : Nat) (Z0 : n0 ≤ h0.size)  :
    Con l Z (⟨"java/lang/Math", "max", "(II)I"⟩ : MethodName) jdk_29_method_65_code 2 (some .int) ({ frames := 0, cells := 0, slots := 0, locals := 0 } : Room) #[(.int u), (.int v)] h0 (fun r h L => r = some (.int (imaxW u v)) ∧ Fr n0 L ∧ h = h0) :=
  con_of (Jvm.Free.JP.mathPlain rfl (by decide +kernel)) (fun p_ e_ s_ m_ b_ meth_ c_ T_ X_ hx hZ hby hml hown hnm hret hlk e0 => Go.cast (ef_rm1 m_ u v) (w1 u v X_ hx hZ hw hby hml hown hnm hret hlk e0 Z0 (Fr.nil n0) ))
section OwnH
def hW (x : UInt64) : Int32 := ((((x).toInt64) ^^^ ((((x).toInt64).toUInt64 >>> ((32 : Int32) &&& 0x3f).toInt64.toUInt64).toInt64)).toInt32)
def hashW : Nat → (Nat → UInt64) → Int32
  | 0, _ => 1
  | n + 1, g => (31 : Int32) * hashW n g + hW (g n)
def valG : Nat → UInt64 := (updN (updN (updN (updN (updN (updN (updN (updN (fun _ => (0 : UInt64)) 0 (0 : UInt64)) 1 (9223372036854775808 : UInt64)) 2 (4602678819172646912 : UInt64)) 3 (4607182418800017408 : UInt64)) 4 (4609434218613702656 : UInt64)) 5 (4611686018427387904 : UInt64)) 6 (4613937818241073152 : UInt64)) 7 (4591870180066957722 : UInt64))
def elemG : Nat → Int32 := (updN (updN (updN (updN (updN (updN (updN (updN (fun _ => (0 : Int32)) 0 (0 : Int32)) 1 (-2147483648 : Int32)) 2 (1071644672 : Int32)) 3 (1072693248 : Int32)) 4 (1073217536 : Int32)) 5 (1073741824 : Int32)) 6 (1074266112 : Int32)) 7 (-1507852285 : Int32))
theorem own_v : ∀ i : Fin 8, hW (valG i.1) = elemG i.1 ∧ Jvm.Free.Fl.Fin64 (valG i.1) ∧ ¬ FP.dcmp (valG i.1) 0 = some .lt := by unfold Jvm.Free.Fl.Fin64; decide +kernel
theorem own_i7 (x : Int32) : ¬ (x &&& (7 : Int32)) < (0 : Int32) ∧ (x &&& (7 : Int32)) < (8 : Int32) := by
  have h := c_mask x 7 3 (by decide) (by decide)
  rw [Int32.lt_iff_toInt_lt, Int32.lt_iff_toInt_lt, show (0 : Int32).toInt = 0 from rfl, show (8 : Int32).toInt = 8 from rfl]; omega
theorem own_n7 (x : Int32) : (x &&& (7 : Int32)).toNatClampNeg < 8 := by
  have h := own_i7 x
  rw [Int32.lt_iff_toInt_lt, Int32.lt_iff_toInt_lt, show (0 : Int32).toInt = 0 from rfl, show (8 : Int32).toInt = 8 from rfl] at h
  rw [Int32.toNatClampNeg]; omega
theorem own_at7 (x : Int32) : hW (valG (x &&& (7 : Int32)).toNatClampNeg) = elemG (x &&& (7 : Int32)).toNatClampNeg ∧ Jvm.Free.Fl.Fin64 (valG (x &&& (7 : Int32)).toNatClampNeg) ∧ ¬ FP.dcmp (valG (x &&& (7 : Int32)).toNatClampNeg) 0 = some .lt := own_v ⟨_, own_n7 x⟩
theorem own_kk {p k K : Int32} (hK : K = imaxW p k) : ¬ K < p := by
  rw [hK]; unfold imaxW
  split
  · rename_i h; rw [Int32.lt_iff_toInt_lt] at h ⊢; omega
  · rw [Int32.lt_iff_toInt_lt]; omega
theorem own_pp (x : Int32) : ((1 : Int32) + (x &&& (2147483647 : Int32)) % (3 : Int32)) = 1 ∨ ((1 : Int32) + (x &&& (2147483647 : Int32)) % (3 : Int32)) = 2 ∨ ((1 : Int32) + (x &&& (2147483647 : Int32)) % (3 : Int32)) = 3 := by
  have h1 := c_mask x 2147483647 31 (by decide) (by decide)
  have h2 := (c_irem (x &&& (2147483647 : Int32)) 3 3 (by decide)).1 (by omega)
  have h3 := c_iadd 1 ((x &&& (2147483647 : Int32)) % (3 : Int32))
  have h4 := Int32.toInt_lt ((1 : Int32) + (x &&& (2147483647 : Int32)) % (3 : Int32)); have h5 := Int32.le_toInt ((1 : Int32) + (x &&& (2147483647 : Int32)) % (3 : Int32))
  simp only [← Int32.toInt_inj, show (1 : Int32).toInt = 1 from rfl, show (2 : Int32).toInt = 2 from rfl, show (3 : Int32).toInt = 3 from rfl] at h3 ⊢
  omega
theorem own_h1 {k e0 : Int32} (x0 : UInt64) (g : Nat → UInt64) (h0 : hW x0 = e0) (g0 : g 0 = x0) : ((31 : Int32) * k) + hashW 1 g = ((31 : Int32) * k) + ((31 : Int32) + e0) := by
  simp only [hashW]; rw [g0, h0]; rfl
theorem own_h2 {k e0 e1 : Int32} (x0 x1 : UInt64) (g : Nat → UInt64) (h0 : hW x0 = e0) (h1 : hW x1 = e1) (g0 : g 0 = x0) (g1 : g 1 = x1) : ((31 : Int32) * k) + hashW 2 g = ((31 : Int32) * k) + (((31 : Int32) * ((31 : Int32) + e0)) + e1) := by
  simp only [hashW]; rw [g0, h0, g1, h1]; rfl
theorem own_h3 {k e0 e1 e2 : Int32} (x0 x1 x2 : UInt64) (g : Nat → UInt64) (h0 : hW x0 = e0) (h1 : hW x1 = e1) (h2 : hW x2 = e2) (g0 : g 0 = x0) (g1 : g 1 = x1) (g2 : g 2 = x2) : ((31 : Int32) * k) + hashW 3 g = ((31 : Int32) * k) + (((31 : Int32) * (((31 : Int32) * ((31 : Int32) + e0)) + e1)) + e2) := by
  simp only [hashW]; rw [g0, h0, g1, h1, g2, h2]; rfl
end OwnH
theorem d4_0 : decode jdk_117_method_8_code 0 = .ok (.dload_n 0, 1) := by decide +kernel
theorem pd_0 : parseMethodDescriptor "(D)D" = some ⟨[.double], some .double⟩ := by decide +kernel
theorem d4_1 : decode jdk_117_method_8_code 1 = .ok (.invokestatic 38, 3) := by decide +kernel
theorem d4_4 : decode jdk_117_method_8_code 4 = .ok (.ldc2_w 111, 3) := by decide +kernel
theorem d4_7 : decode jdk_117_method_8_code 7 = .ok (.dcmp .g, 1) := by decide +kernel
theorem d4_8 : decode jdk_117_method_8_code 8 = .ok (.ifCond .gt 7, 3) := by decide +kernel
theorem d4_11 : decode jdk_117_method_8_code 11 = .ok (.iconst 1, 1) := by decide +kernel
theorem d4_12 : decode jdk_117_method_8_code 12 = .ok (.goto 4, 3) := by decide +kernel
theorem d4_16 : decode jdk_117_method_8_code 16 = .ok (.ireturn, 1) := by decide +kernel
set_option maxRecDepth 65536 in
set_option maxHeartbeats 40000000 in
theorem w4 {p : Program} {l : Launch} {e : Env} {s : State} {m : MethodId} {args : Array Value} {below : List Frame} {meth : Method} {c_ : Code} {T0 : State} {locs : List Loc} {Z : State} {a0 : Array Value} {h0 : Heap} {n0 : Nat} (v : UInt64)
    (X0 : Stand p l e ({ frames := 1, cells := 0, slots := 0, locals := 13 } : Room) s m args below meth c_ T0 locs 0 0) (hx : p.tables.exec = Jvm.exec) (hZ : Z.Warmed39 s.vm) (hw : ∀ d ∈ tables_1, d.before a0 Z = true) (hby : c_.code = jdk_117_method_8_code) (hml : c_.maxLocals = 2) (hown : s.vm.findClass "java/lang/Double" = some m.cls) (hnm : meth.name = "isFinite") (hret : meth.sig.returnType = some .boolean) (hlk : meth.locks = false) (e0 : T0.heap = h0) (Z0 : n0 ≤ h0.size) (N0 : Fr n0 locs) (hf : Jvm.Free.Fl.Fin64 v) :
    Go p e below s ({ frames := 1, cells := 0, slots := 0, locals := 13 } : Room).cells ({ frames := 1, cells := 0, slots := 0, locals := 13 } : Room).slots (fun r h L => r = some (.int 1) ∧ Fr n0 L ∧ h = h0) T0 (mkF m 0 #[.val (.double v), .second] []) := by
  show Go _ _ _ _ _ _ _ T0 (mkF m 0 #[.val (.double v), .second] [])
  refine Go.step (fun _ k => XS.dloadN X0.here hx rfl (hb hby d4_0) rfl k) ?_
  show Go _ _ _ _ _ _ _ T0 (mkF m 1 #[.val (.double v), .second] [(.double v)])
  obtain ⟨T1, X1, e1, st1⟩ := natS X0 hx hZ (y := (⟨"java/lang/Math", "abs", "(D)D"⟩ : MethodName)) hown (hw _ (List.mem_of_getElem? (i := 48) rfl)) (hw _ (List.mem_of_getElem? (i := 49) rfl)) (hw _ (List.mem_of_getElem? (i := 3) rfl)) (hw _ (List.mem_of_getElem? (i := 50) rfl)) (by decide) e0 (W := 0) (F := fun a' => a' = #[.double v] ∧ Jvm.Free.Fl.NoNaN64 v) (val' := (.double (v &&& 0x7fffffffffffffff))) (fun hc => Jvm.Free.Fl.Abs.absD_pays v hc (by decide) (by decide)) (g := (mkF m 1 #[.val (.double v), .second] [(.double v)])) rfl (by rw [hml]; rfl) (argsL := [(.double v)]) (rest := []) (lenOf pd_0 rfl) rfl (by show 2 * 0 + _ ≤ _; exact Nat.le_of_eq rfl) (hb hby d4_1) (by decide) (by decide) ⟨rfl, hf.noNaN⟩ rfl
  refine Go.step st1 ?_
  show Go _ _ _ _ _ _ _ T1 (mkF m 4 #[.val (.double v), .second] [(.double (v &&& 0x7fffffffffffffff))])
  refine Go.step (X1.ldc2DoubleC hx hown (mvT hZ (hw _ (List.mem_of_getElem? (i := 51) rfl))) (g := (mkF m 4 #[.val (.double v), .second] [(.double (v &&& 0x7fffffffffffffff))])) rfl (hb hby d4_4)) ?_
  show Go _ _ _ _ _ _ _ T1 (mkF m 7 #[.val (.double v), .second] [(.double (9218868437227405311 : UInt64)), (.double (v &&& 0x7fffffffffffffff))])
  refine Go.step (fun _ k => XS.dcmpS X1.here hx rfl (hb hby d4_7) rfl rfl k) ?_
  show Go _ _ _ _ _ _ _ T1 (mkF m 8 #[.val (.double v), .second] [(.int (cmpValue (FP.dcmp (v &&& 0x7fffffffffffffff) (9218868437227405311 : UInt64)) .g))])
  refine Go.step (fun _ k => XS.ifNo X1.here hx rfl (hb hby d4_8) rfl (le_y ((Jvm.FP.Core.le_max (own_Ffin hf).notNaN).mpr (own_Ffin hf))) k) ?_
  show Go _ _ _ _ _ _ _ T1 (mkF m 11 #[.val (.double v), .second] [])
  refine Go.step (fun _ k => XS.iconst X1.here hx rfl (hb hby d4_11) k) ?_
  show Go _ _ _ _ _ _ _ T1 (mkF m 12 #[.val (.double v), .second] [(.int (1 : Int32))])
  refine Go.step (fun _ k => XS.goto X1.here hx rfl (pc0 := 12) (pc' := 16) rfl (hb hby d4_12) (by decide) (by decide) k) ?_
  show Go _ _ _ _ _ _ _ T1 (mkF m 16 #[.val (.double v), .second] [(.int (1 : Int32))])
  refine Go.retZ X1 hx hlk hret (by decide) (hb hby d4_16) (by decide) (by decide) ?_
  try rw [e1]
  exact ⟨rfl, N0, rfl⟩
theorem pn_4 : plainName "java/lang/Double" = true := by first | (simp [plainName, overriddenIn]; done) | decide +kernel
theorem ef_rm4 (m : MethodId) (v : UInt64) : entryFrame m #[(.double v)] 2 = mkF m 0 #[.val (.double v), .second] [] := by first | (simp [entryFrame, mkF, argsToLocals, Value.category]; done) | rfl
theorem rm4 (l : Launch) (Z : State) (a0 : Array Value) (hw : ∀ d ∈ tables_1, d.before a0 Z = true) (v : UInt64) (h0 : Heap) (n0 : Nat) (Z0 : n0 ≤ h0.size) (hf : Jvm.Free.Fl.Fin64 v) :
    Con l Z (⟨"java/lang/Double", "isFinite", "(D)Z"⟩ : MethodName) jdk_117_method_8_code 2 (some .boolean) ({ frames := 1, cells := 0, slots := 0, locals := 13 } : Room) #[(.double v)] h0 (fun r h L => r = some (.int 1) ∧ Fr n0 L ∧ h = h0) :=
  con_of (plainFor_of_name pn_4) (fun p_ e_ s_ m_ b_ meth_ c_ T_ X_ hx hZ hby hml hown hnm hret hlk e0 => Go.cast (ef_rm4 m_ v) (w4 v X_ hx hZ hw hby hml hown hnm hret hlk e0 Z0 (Fr.nil n0) hf))
theorem d2_0 : decode prog_33_method_1_code 0 = .ok (.aload_n 0, 1) := by decide +kernel
theorem d2_1 : decode prog_33_method_1_code 1 = .ok (.invokespecial 1, 3) := by decide +kernel
theorem d2_4 : decode prog_33_method_1_code 4 = .ok (.aload_n 2, 1) := by decide +kernel
theorem d2_5 : decode prog_33_method_1_code 5 = .ok (.arraylength, 1) := by decide +kernel
theorem d2_6 : decode prog_33_method_1_code 6 = .ok (.iconst 1, 1) := by decide +kernel
theorem d2_7 : decode prog_33_method_1_code 7 = .ok (.if_icmp .lt 9, 3) := by decide +kernel
theorem d2_10 : decode prog_33_method_1_code 10 = .ok (.aload_n 2, 1) := by decide +kernel
theorem d2_11 : decode prog_33_method_1_code 11 = .ok (.arraylength, 1) := by decide +kernel
theorem d2_12 : decode prog_33_method_1_code 12 = .ok (.iload_n 1, 1) := by decide +kernel
theorem d2_13 : decode prog_33_method_1_code 13 = .ok (.if_icmp .le 19, 3) := by decide +kernel
theorem d2_32 : decode prog_33_method_1_code 32 = .ok (.aload_n 0, 1) := by decide +kernel
theorem d2_33 : decode prog_33_method_1_code 33 = .ok (.iload_n 1, 1) := by decide +kernel
theorem d2_34 : decode prog_33_method_1_code 34 = .ok (.putfield 16, 3) := by decide +kernel
theorem d2_37 : decode prog_33_method_1_code 37 = .ok (.aload_n 0, 1) := by decide +kernel
theorem d2_38 : decode prog_33_method_1_code 38 = .ok (.aload_n 2, 1) := by decide +kernel
theorem d2_39 : decode prog_33_method_1_code 39 = .ok (.invokevirtual 22, 3) := by decide +kernel
theorem d2_42 : decode prog_33_method_1_code 42 = .ok (.checkcast 23, 3) := by decide +kernel
theorem d2_45 : decode prog_33_method_1_code 45 = .ok (.putfield 28, 3) := by decide +kernel
theorem d2_48 : decode prog_33_method_1_code 48 = .ok (.aload_n 0, 1) := by decide +kernel
theorem d2_49 : decode prog_33_method_1_code 49 = .ok (.aload_n 2, 1) := by decide +kernel
theorem d2_50 : decode prog_33_method_1_code 50 = .ok (.arraylength, 1) := by decide +kernel
theorem d2_51 : decode prog_33_method_1_code 51 = .ok (.iconst 1, 1) := by decide +kernel
theorem d2_52 : decode prog_33_method_1_code 52 = .ok (.iadd, 1) := by decide +kernel
theorem d2_53 : decode prog_33_method_1_code 53 = .ok (.newarray .double, 2) := by decide +kernel
theorem d2_55 : decode prog_33_method_1_code 55 = .ok (.putfield 31, 3) := by decide +kernel
theorem d2_58 : decode prog_33_method_1_code 58 = .ok (.iconst 0, 1) := by decide +kernel
theorem d2_59 : decode prog_33_method_1_code 59 = .ok (.istore_n 3, 1) := by decide +kernel
theorem d2_60 : decode prog_33_method_1_code 60 = .ok (.iload_n 3, 1) := by decide +kernel
theorem d2_61 : decode prog_33_method_1_code 61 = .ok (.aload_n 2, 1) := by decide +kernel
theorem d2_62 : decode prog_33_method_1_code 62 = .ok (.arraylength, 1) := by decide +kernel
theorem d2_63 : decode prog_33_method_1_code 63 = .ok (.if_icmp .ge 60, 3) := by decide +kernel
theorem d2_66 : decode prog_33_method_1_code 66 = .ok (.aload_n 2, 1) := by decide +kernel
theorem d2_67 : decode prog_33_method_1_code 67 = .ok (.iload_n 3, 1) := by decide +kernel
theorem d2_68 : decode prog_33_method_1_code 68 = .ok (.daload, 1) := by decide +kernel
theorem d2_69 : decode prog_33_method_1_code 69 = .ok (.invokestatic 34, 3) := by decide +kernel
theorem pd_1 : parseMethodDescriptor "(D)Z" = some ⟨[.double], some .boolean⟩ := by decide +kernel
theorem d2_72 : decode prog_33_method_1_code 72 = .ok (.ifCond .eq 11, 3) := by decide +kernel
theorem d2_75 : decode prog_33_method_1_code 75 = .ok (.aload_n 2, 1) := by decide +kernel
theorem d2_76 : decode prog_33_method_1_code 76 = .ok (.iload_n 3, 1) := by decide +kernel
theorem d2_77 : decode prog_33_method_1_code 77 = .ok (.daload, 1) := by decide +kernel
theorem d2_78 : decode prog_33_method_1_code 78 = .ok (.dconst 0, 1) := by decide +kernel
theorem d2_79 : decode prog_33_method_1_code 79 = .ok (.dcmp .g, 1) := by decide +kernel
theorem d2_80 : decode prog_33_method_1_code 80 = .ok (.ifCond .ge 19, 3) := by decide +kernel
theorem d2_99 : decode prog_33_method_1_code 99 = .ok (.aload_n 0, 1) := by decide +kernel
theorem d2_100 : decode prog_33_method_1_code 100 = .ok (.getfield 31, 3) := by decide +kernel
theorem d2_103 : decode prog_33_method_1_code 103 = .ok (.iload_n 3, 1) := by decide +kernel
theorem d2_104 : decode prog_33_method_1_code 104 = .ok (.iconst 1, 1) := by decide +kernel
theorem d2_105 : decode prog_33_method_1_code 105 = .ok (.iadd, 1) := by decide +kernel
theorem d2_106 : decode prog_33_method_1_code 106 = .ok (.aload_n 0, 1) := by decide +kernel
theorem d2_107 : decode prog_33_method_1_code 107 = .ok (.getfield 31, 3) := by decide +kernel
theorem d2_110 : decode prog_33_method_1_code 110 = .ok (.iload_n 3, 1) := by decide +kernel
theorem d2_111 : decode prog_33_method_1_code 111 = .ok (.daload, 1) := by decide +kernel
theorem d2_112 : decode prog_33_method_1_code 112 = .ok (.aload_n 2, 1) := by decide +kernel
theorem d2_113 : decode prog_33_method_1_code 113 = .ok (.iload_n 3, 1) := by decide +kernel
theorem d2_114 : decode prog_33_method_1_code 114 = .ok (.daload, 1) := by decide +kernel
theorem d2_115 : decode prog_33_method_1_code 115 = .ok (.dadd, 1) := by decide +kernel
theorem d2_116 : decode prog_33_method_1_code 116 = .ok (.dastore, 1) := by decide +kernel
theorem d2_117 : decode prog_33_method_1_code 117 = .ok (.iinc 3 1, 3) := by decide +kernel
theorem d2_120 : decode prog_33_method_1_code 120 = .ok (.goto (-60), 3) := by decide +kernel
theorem d2_123 : decode prog_33_method_1_code 123 = .ok (.return_, 1) := by decide +kernel
set_option maxRecDepth 65536 in
set_option maxHeartbeats 40000000 in
theorem w2_1 {p : Program} {l : Launch} {e : Env} {s : State} {m : MethodId} {args : Array Value} {below : List Frame} {meth : Method} {c_ : Code} {T0 : State} {locs : List Loc} {Z : State} {a0 : Array Value} {h0 : Heap} {n0 : Nat} (a q : Addr) (K : Int32) (g : Nat → UInt64)
    (X0 : Stand p l e ({ frames := 2, cells := 2, slots := 3, locals := 40 } : Room) s m args below meth c_ T0 locs 0 0) (hx : p.tables.exec = Jvm.exec) (hZ : Z.Warmed39 s.vm) (hw : ∀ d ∈ tables_1, d.before a0 Z = true) (hby : c_.code = prog_33_method_1_code) (hml : c_.maxLocals = 4) (hown : s.vm.findClass "tidewatch/decision/KeyGroupCeiling" = some m.cls) (hnm : meth.name = "<init>") (hret : meth.sig.returnType = none) (hlk : meth.locks = false) (e0 : T0.heap = h0) (Z0 : n0 ≤ h0.size) (N0 : Fr n0 locs) (E_a : Exa Z h0 a "tidewatch/decision/KeyGroupCeiling") (F_keyGroups_a : Fld Z h0 a "tidewatch/decision/KeyGroupCeiling" "keyGroups" "I" (.int (0 : Int32))) (F_shares_a : Fld Z h0 a "tidewatch/decision/KeyGroupCeiling" "shares" "[D" .null) (F_before_a : Fld Z h0 a "tidewatch/decision/KeyGroupCeiling" "before" "[D" .null) (E_q : Exa Z h0 q "[D") (V_q : Dv Z h0 q (1 : Int32) g) (ge_a : n0 ≤ a) (ne_a_q : a ≠ q) (hK : ¬ K < (1 : Int32)) (hf : ∀ i, i < 1 → Jvm.Free.Fl.Fin64 (g i)) (hp : ∀ i, i < 1 → ¬ FP.dcmp (g i) (0 : UInt64) = some .lt) :
    Go p e below s ({ frames := 2, cells := 2, slots := 3, locals := 40 } : Room).cells ({ frames := 2, cells := 2, slots := 3, locals := 40 } : Room).slots (fun r h L => r = none ∧ Fr n0 L ∧ Keep h0 h [a] ∧ Exa Z h a "tidewatch/decision/KeyGroupCeiling" ∧ Fld Z h a "tidewatch/decision/KeyGroupCeiling" "keyGroups" "I" (.int K) ∧ ∃ c d : Addr, Fld Z h a "tidewatch/decision/KeyGroupCeiling" "shares" "[D" (.ref c) ∧ Fld Z h a "tidewatch/decision/KeyGroupCeiling" "before" "[D" (.ref d) ∧ Dv Z h c (1 : Int32) g ∧ Dv Z h d (2 : Int32) (updN (fun _ => (0 : UInt64)) 1 (FP.dadd (0 : UInt64) (g 0))) ∧ h0.size ≤ c ∧ h0.size ≤ d ∧ c ≠ d) T0 (mkF m 0 #[.val (.ref a), .val (.int K), .val (.ref q), .unset] []) := by
  show Go _ _ _ _ _ _ _ T0 (mkF m 0 #[.val (.ref a), .val (.int K), .val (.ref q), .unset] [])
  refine Go.step (fun _ k => XS.aloadN X0.here hx rfl (hb hby d2_0) rfl rfl k) ?_
  show Go _ _ _ _ _ _ _ T0 (mkF m 1 #[.val (.ref a), .val (.int K), .val (.ref q), .unset] [(.ref a)])
  obtain ⟨T1, X1, e1, st1⟩ := initO X0 hx hZ hown (hw _ (List.mem_of_getElem? (i := 26) rfl)) (hw _ (List.mem_of_getElem? (i := 27) rfl)) (hw _ (List.mem_of_getElem? (i := 28) rfl)) e0 (g := (mkF m 1 #[.val (.ref a), .val (.int K), .val (.ref q), .unset] [(.ref a)])) rfl (by rw [hml]; rfl) rfl (hb hby d2_1) (by decide) (W := 0) (by show 2 * 0 + _ ≤ _; exact Nat.le_of_eq rfl) (by decide)
  refine Go.step st1 ?_
  show Go _ _ _ _ _ _ _ T1 (mkF m 4 #[.val (.ref a), .val (.int K), .val (.ref q), .unset] [])
  refine Go.step (fun _ k => XS.aloadN X1.here hx rfl (hb hby d2_4) rfl rfl k) ?_
  show Go _ _ _ _ _ _ _ T1 (mkF m 5 #[.val (.ref a), .val (.int K), .val (.ref q), .unset] [(.ref q)])
  refine Go.alen X1 hx hZ e1 V_q (hb hby d2_5) ?_
  show Go _ _ _ _ _ _ _ T1 (mkF m 6 #[.val (.ref a), .val (.int K), .val (.ref q), .unset] [(.int (1 : Int32))])
  refine Go.step (fun _ k => XS.iconst X1.here hx rfl (hb hby d2_6) k) ?_
  show Go _ _ _ _ _ _ _ T1 (mkF m 7 #[.val (.ref a), .val (.int K), .val (.ref q), .unset] [(.int (1 : Int32)), (.int (1 : Int32))])
  refine Go.step (fun _ k => XS.icmpNo X1.here hx rfl (hb hby d2_7) rfl (flt (by decide : ¬ ((1 : Int32) < (1 : Int32)))).1 k) ?_
  show Go _ _ _ _ _ _ _ T1 (mkF m 10 #[.val (.ref a), .val (.int K), .val (.ref q), .unset] [])
  refine Go.step (fun _ k => XS.aloadN X1.here hx rfl (hb hby d2_10) rfl rfl k) ?_
  show Go _ _ _ _ _ _ _ T1 (mkF m 11 #[.val (.ref a), .val (.int K), .val (.ref q), .unset] [(.ref q)])
  refine Go.alen X1 hx hZ e1 V_q (hb hby d2_11) ?_
  show Go _ _ _ _ _ _ _ T1 (mkF m 12 #[.val (.ref a), .val (.int K), .val (.ref q), .unset] [(.int (1 : Int32))])
  refine Go.step (fun _ k => XS.iloadN X1.here hx rfl (hb hby d2_12) rfl k) ?_
  show Go _ _ _ _ _ _ _ T1 (mkF m 13 #[.val (.ref a), .val (.int K), .val (.ref q), .unset] [(.int K), (.int (1 : Int32))])
  refine Go.step (fun _ k => XS.icmpYes X1.here hx rfl (pc0 := 13) (pc' := 32) rfl (hb hby d2_13) rfl (flt hK).2.2.2 (by decide) (by decide) k) ?_
  show Go _ _ _ _ _ _ _ T1 (mkF m 32 #[.val (.ref a), .val (.int K), .val (.ref q), .unset] [])
  refine Go.step (fun _ k => XS.aloadN X1.here hx rfl (hb hby d2_32) rfl rfl k) ?_
  show Go _ _ _ _ _ _ _ T1 (mkF m 33 #[.val (.ref a), .val (.int K), .val (.ref q), .unset] [(.ref a)])
  refine Go.step (fun _ k => XS.iloadN X1.here hx rfl (hb hby d2_33) rfl k) ?_
  show Go _ _ _ _ _ _ _ T1 (mkF m 34 #[.val (.ref a), .val (.int K), .val (.ref q), .unset] [(.int K), (.ref a)])
  obtain ⟨T2, h2, X2, e2, W2, st2⟩ := putF X1 hx hZ hown (host := "") (Or.inl (hw _ (List.mem_of_getElem? (i := 29) rfl))) Via.refl e1 F_keyGroups_a E_a (Or.inr ⟨(hw _ (List.mem_of_getElem? (i := 30) rfl)), rfl, hnm⟩) (hw _ (List.mem_of_getElem? (i := 21) rfl)) (ty := .int) (by decide) rfl rfl (g := (mkF m 34 #[.val (.ref a), .val (.int K), .val (.ref q), .unset] [(.int K), (.ref a)])) rfl rfl (hb hby d2_34)
  refine Go.step st2 ?_
  have N2 := Fr.snoc X2 N0 ge_a
  have F_keyGroups_a_2 := F_keyGroups_a.same W2
  have E_a_2 := E_a.wr W2
  have F_shares_a_2 := F_shares_a.other W2 (Or.inr (slot_ne (Or.inr (hw _ (List.mem_of_getElem? (i := 41) rfl))) (Or.inr (hw _ (List.mem_of_getElem? (i := 30) rfl))) (by decide) (t := (.array .double)) (t' := .int) (by decide) (by decide)))
  have F_before_a_2 := F_before_a.other W2 (Or.inr (slot_ne (Or.inr (hw _ (List.mem_of_getElem? (i := 43) rfl))) (Or.inr (hw _ (List.mem_of_getElem? (i := 30) rfl))) (by decide) (t := (.array .double)) (t' := .int) (by decide) (by decide)))
  have E_q_2 := E_q.wr W2
  have V_q_2 := V_q.other W2 (Ne.symm ne_a_q)
  have K2 : Keep h0 h2 [a] := (Keep.refl h0 [a]).wr W2 (Or.inl (List.mem_of_getElem? (i := 0) rfl))
  show Go _ _ _ _ _ _ _ T2 (mkF m 37 #[.val (.ref a), .val (.int K), .val (.ref q), .unset] [])
  refine Go.step (fun _ k => XS.aloadN X2.here hx rfl (hb hby d2_37) rfl rfl k) ?_
  show Go _ _ _ _ _ _ _ T2 (mkF m 38 #[.val (.ref a), .val (.int K), .val (.ref q), .unset] [(.ref a)])
  refine Go.step (fun _ k => XS.aloadN X2.here hx rfl (hb hby d2_38) rfl rfl k) ?_
  show Go _ _ _ _ _ _ _ T2 (mkF m 39 #[.val (.ref a), .val (.int K), .val (.ref q), .unset] [(.ref q), (.ref a)])
  refine Go.clone X2 hx hZ (by rw [hml]; rfl) hown (hw _ (List.mem_of_getElem? (i := 31) rfl)) (hw _ (List.mem_of_getElem? (i := 32) rfl)) (hw _ (List.mem_of_getElem? (i := 36) rfl)) (hw _ (List.mem_of_getElem? (i := 34) rfl)) (hw _ (List.mem_of_getElem? (i := 35) rfl)) (hw _ (List.mem_of_getElem? (i := 37) rfl)) e2 V_q_2 E_q_2 (hb hby d2_39) (by decide) (W := 1) (Nat.le_of_eq rfl) (by decide) (cap := 1) (by decide) (by decide) (by decide) ?_
  intro T3 h3 b3 g3 X3 e3 E3 Vc3 Ec3
  have K3 : Keep h0 h3 [a] := K2.ext E3
  have sz_b3 : h0.size ≤ b3 := Nat.le_trans (K2 : Keep h0 h2 [a]).1 (Nat.le_of_eq g3.symm)
  have ge_b3 : n0 ≤ b3 := Nat.le_trans Z0 sz_b3
  have ne_a_b3 : a ≠ b3 := Nat.ne_of_lt (Nat.lt_of_lt_of_le E_a_2.lt (Nat.le_of_eq g3.symm))
  have ne_q_b3 : q ≠ b3 := Nat.ne_of_lt (Nat.lt_of_lt_of_le E_q_2.lt (Nat.le_of_eq g3.symm))
  have E_a_3 := E_a_2.ext E3
  have F_keyGroups_a_3 := F_keyGroups_a_2.ext E3
  have F_shares_a_3 := F_shares_a_2.ext E3
  have F_before_a_3 := F_before_a_2.ext E3
  have E_q_3 := E_q_2.ext E3
  have V_q_3 := V_q_2.ext E3
  show Go _ _ _ _ _ _ _ T3 (mkF m 42 #[.val (.ref a), .val (.int K), .val (.ref q), .unset] [(.ref b3), (.ref a)])
  obtain ⟨T4, X4, e4, st4⟩ := castY X3 hx hZ hown (hw _ (List.mem_of_getElem? (i := 38) rfl)) e3 (Ins.self Ec3) (g := (mkF m 42 #[.val (.ref a), .val (.int K), .val (.ref q), .unset] [(.ref b3), (.ref a)])) rfl rfl (hb hby d2_42)
  refine Go.step st4 ?_
  show Go _ _ _ _ _ _ _ T4 (mkF m 45 #[.val (.ref a), .val (.int K), .val (.ref q), .unset] [(.ref b3), (.ref a)])
  obtain ⟨T5, h5, X5, e5, W5, st5⟩ := putF X4 hx hZ hown (host := "") (Or.inl (hw _ (List.mem_of_getElem? (i := 40) rfl))) Via.refl e4 F_shares_a_3 E_a_3 (Or.inr ⟨(hw _ (List.mem_of_getElem? (i := 41) rfl)), rfl, hnm⟩) (hw _ (List.mem_of_getElem? (i := 21) rfl)) (ty := (.array .double)) (by decide) rfl rfl (g := (mkF m 45 #[.val (.ref a), .val (.int K), .val (.ref q), .unset] [(.ref b3), (.ref a)])) rfl rfl (hb hby d2_45)
  refine Go.step st5 ?_
  have N5 := Fr.snoc X5 N2 ge_a
  have F_shares_a_5 := F_shares_a_3.same W5
  have E_a_5 := E_a_3.wr W5
  have F_keyGroups_a_5 := F_keyGroups_a_3.other W5 (Or.inr (slot_ne (Or.inr (hw _ (List.mem_of_getElem? (i := 30) rfl))) (Or.inr (hw _ (List.mem_of_getElem? (i := 41) rfl))) (by decide) (t := .int) (t' := (.array .double)) (by decide) (by decide)))
  have F_before_a_5 := F_before_a_3.other W5 (Or.inr (slot_ne (Or.inr (hw _ (List.mem_of_getElem? (i := 43) rfl))) (Or.inr (hw _ (List.mem_of_getElem? (i := 41) rfl))) (by decide) (t := (.array .double)) (t' := (.array .double)) (by decide) (by decide)))
  have E_q_5 := E_q_3.wr W5
  have V_q_5 := V_q_3.other W5 (Ne.symm ne_a_q)
  have Vc3_5 := Vc3.other W5 (Ne.symm ne_a_b3)
  have Ec3_5 := Ec3.wr W5
  have K5 : Keep h0 h5 [a] := K3.wr W5 (Or.inl (List.mem_of_getElem? (i := 0) rfl))
  show Go _ _ _ _ _ _ _ T5 (mkF m 48 #[.val (.ref a), .val (.int K), .val (.ref q), .unset] [])
  refine Go.step (fun _ k => XS.aloadN X5.here hx rfl (hb hby d2_48) rfl rfl k) ?_
  show Go _ _ _ _ _ _ _ T5 (mkF m 49 #[.val (.ref a), .val (.int K), .val (.ref q), .unset] [(.ref a)])
  refine Go.step (fun _ k => XS.aloadN X5.here hx rfl (hb hby d2_49) rfl rfl k) ?_
  show Go _ _ _ _ _ _ _ T5 (mkF m 50 #[.val (.ref a), .val (.int K), .val (.ref q), .unset] [(.ref q), (.ref a)])
  refine Go.alen X5 hx hZ e5 V_q_5 (hb hby d2_50) ?_
  show Go _ _ _ _ _ _ _ T5 (mkF m 51 #[.val (.ref a), .val (.int K), .val (.ref q), .unset] [(.int (1 : Int32)), (.ref a)])
  refine Go.step (fun _ k => XS.iconst X5.here hx rfl (hb hby d2_51) k) ?_
  show Go _ _ _ _ _ _ _ T5 (mkF m 52 #[.val (.ref a), .val (.int K), .val (.ref q), .unset] [(.int (1 : Int32)), (.int (1 : Int32)), (.ref a)])
  refine Go.step (fun _ k => XS.iadd X5.here hx rfl (hb hby d2_52) rfl k) ?_
  show Go _ _ _ _ _ _ _ T5 (mkF m 53 #[.val (.ref a), .val (.int K), .val (.ref q), .unset] [(.int (2 : Int32)), (.ref a)])
  obtain ⟨T6, h6, k6, X6, e6, E6, A6, st6⟩ := newP X5 hx hZ (hw _ (List.mem_of_getElem? (i := 5) rfl)) e5 (g := (mkF m 53 #[.val (.ref a), .val (.int K), .val (.ref q), .unset] [(.int (2 : Int32)), (.ref a)])) rfl (hb hby d2_53) rfl (by decide) (cap := 2) (by decide) (by decide) (by decide) (by decide)
  obtain ⟨b6, g6⟩ : ∃ z, z = h5.size := ⟨_, rfl⟩
  rw [← g6] at A6 st6
  refine Go.step st6 ?_
  have K6 : Keep h0 h6 [a] := K5.ext E6
  have sz_b6 : h0.size ≤ b6 := Nat.le_trans (K5 : Keep h0 h5 [a]).1 (Nat.le_of_eq g6.symm)
  have ge_b6 : n0 ≤ b6 := Nat.le_trans Z0 sz_b6
  have ne_a_b6 : a ≠ b6 := Nat.ne_of_lt (Nat.lt_of_lt_of_le E_a_5.lt (Nat.le_of_eq g6.symm))
  have ne_q_b6 : q ≠ b6 := Nat.ne_of_lt (Nat.lt_of_lt_of_le E_q_5.lt (Nat.le_of_eq g6.symm))
  have ne_b3_b6 : b3 ≠ b6 := Nat.ne_of_lt (Nat.lt_of_lt_of_le Vc3_5.lt (Nat.le_of_eq g6.symm))
  have E_a_6 := E_a_5.ext E6
  have F_keyGroups_a_6 := F_keyGroups_a_5.ext E6
  have F_shares_a_6 := F_shares_a_5.ext E6
  have F_before_a_6 := F_before_a_5.ext E6
  have E_q_6 := E_q_5.ext E6
  have V_q_6 := V_q_5.ext E6
  have Vc3_6 := Vc3_5.ext E6
  have Ec3_6 := Ec3_5.ext E6
  have V_b6 : Dv Z h6 b6 (2 : Int32) (fun _ => (0 : UInt64)) := Fv.new A6 (by decide)
  show Go _ _ _ _ _ _ _ T6 (mkF m 55 #[.val (.ref a), .val (.int K), .val (.ref q), .unset] [(.ref b6), (.ref a)])
  obtain ⟨T7, h7, X7, e7, W7, st7⟩ := putF X6 hx hZ hown (host := "") (Or.inl (hw _ (List.mem_of_getElem? (i := 42) rfl))) Via.refl e6 F_before_a_6 E_a_6 (Or.inr ⟨(hw _ (List.mem_of_getElem? (i := 43) rfl)), rfl, hnm⟩) (hw _ (List.mem_of_getElem? (i := 21) rfl)) (ty := (.array .double)) (by decide) rfl rfl (g := (mkF m 55 #[.val (.ref a), .val (.int K), .val (.ref q), .unset] [(.ref b6), (.ref a)])) rfl rfl (hb hby d2_55)
  refine Go.step st7 ?_
  have N7 := Fr.snoc X7 N5 ge_a
  have F_before_a_7 := F_before_a_6.same W7
  have E_a_7 := E_a_6.wr W7
  have F_keyGroups_a_7 := F_keyGroups_a_6.other W7 (Or.inr (slot_ne (Or.inr (hw _ (List.mem_of_getElem? (i := 30) rfl))) (Or.inr (hw _ (List.mem_of_getElem? (i := 43) rfl))) (by decide) (t := .int) (t' := (.array .double)) (by decide) (by decide)))
  have F_shares_a_7 := F_shares_a_6.other W7 (Or.inr (slot_ne (Or.inr (hw _ (List.mem_of_getElem? (i := 41) rfl))) (Or.inr (hw _ (List.mem_of_getElem? (i := 43) rfl))) (by decide) (t := (.array .double)) (t' := (.array .double)) (by decide) (by decide)))
  have E_q_7 := E_q_6.wr W7
  have V_q_7 := V_q_6.other W7 (Ne.symm ne_a_q)
  have Vc3_7 := Vc3_6.other W7 (Ne.symm ne_a_b3)
  have Ec3_7 := Ec3_6.wr W7
  have V_b6_7 := V_b6.other W7 (Ne.symm ne_a_b6)
  have K7 : Keep h0 h7 [a] := K6.wr W7 (Or.inl (List.mem_of_getElem? (i := 0) rfl))
  show Go _ _ _ _ _ _ _ T7 (mkF m 58 #[.val (.ref a), .val (.int K), .val (.ref q), .unset] [])
  refine Go.step (fun _ k => XS.iconst X7.here hx rfl (hb hby d2_58) k) ?_
  show Go _ _ _ _ _ _ _ T7 (mkF m 59 #[.val (.ref a), .val (.int K), .val (.ref q), .unset] [(.int (0 : Int32))])
  refine Go.step (fun _ k => XS.istoreN X7.here hx rfl (hb hby d2_59) rfl (l' := #[.val (.ref a), .val (.int K), .val (.ref q), .val (.int (0 : Int32))]) rfl k) ?_
  show Go _ _ _ _ _ _ _ T7 (mkF m 60 #[.val (.ref a), .val (.int K), .val (.ref q), .val (.int (0 : Int32))] [])
  refine Go.step (fun _ k => XS.iloadN X7.here hx rfl (hb hby d2_60) rfl k) ?_
  show Go _ _ _ _ _ _ _ T7 (mkF m 61 #[.val (.ref a), .val (.int K), .val (.ref q), .val (.int (0 : Int32))] [(.int (0 : Int32))])
  refine Go.step (fun _ k => XS.aloadN X7.here hx rfl (hb hby d2_61) rfl rfl k) ?_
  show Go _ _ _ _ _ _ _ T7 (mkF m 62 #[.val (.ref a), .val (.int K), .val (.ref q), .val (.int (0 : Int32))] [(.ref q), (.int (0 : Int32))])
  refine Go.alen X7 hx hZ e7 V_q_7 (hb hby d2_62) ?_
  show Go _ _ _ _ _ _ _ T7 (mkF m 63 #[.val (.ref a), .val (.int K), .val (.ref q), .val (.int (0 : Int32))] [(.int (1 : Int32)), (.int (0 : Int32))])
  refine Go.step (fun _ k => XS.icmpNo X7.here hx rfl (hb hby d2_63) rfl (tlt (by decide : (0 : Int32) < (1 : Int32))).2.1 k) ?_
  show Go _ _ _ _ _ _ _ T7 (mkF m 66 #[.val (.ref a), .val (.int K), .val (.ref q), .val (.int (0 : Int32))] [])
  refine Go.step (fun _ k => XS.aloadN X7.here hx rfl (hb hby d2_66) rfl rfl k) ?_
  show Go _ _ _ _ _ _ _ T7 (mkF m 67 #[.val (.ref a), .val (.int K), .val (.ref q), .val (.int (0 : Int32))] [(.ref q)])
  refine Go.step (fun _ k => XS.iloadN X7.here hx rfl (hb hby d2_67) rfl k) ?_
  show Go _ _ _ _ _ _ _ T7 (mkF m 68 #[.val (.ref a), .val (.int K), .val (.ref q), .val (.int (0 : Int32))] [(.int (0 : Int32)), (.ref q)])
  refine Go.daload X7 hx hZ e7 V_q_7 (j := (0 : Int32)) (v := (g 0)) (by decide) rfl (hb hby d2_68) ?_
  show Go _ _ _ _ _ _ _ T7 (mkF m 69 #[.val (.ref a), .val (.int K), .val (.ref q), .val (.int (0 : Int32))] [(.double (g 0))])
  refine Go.callS X7 hx hZ (by rw [hml]; rfl) (y := (⟨"java/lang/Double", "isFinite", "(D)Z"⟩ : MethodName)) (argsL := [(.double (g 0))]) (rest := []) hown (hw _ (List.mem_of_getElem? (i := 44) rfl)) (hw _ (List.mem_of_getElem? (i := 45) rfl)) (hw _ (List.mem_of_getElem? (i := 46) rfl)) (hw _ (List.mem_of_getElem? (i := 47) rfl)) (by decide) (rm4 l Z a0 hw (g 0) h7 n0 (Nat.le_trans Z0 (K7 : Keep h0 h7 [a]).1) (hf 0 (by decide))) e7 (hb hby d2_69) (lenOf pd_1 rfl) rfl rfl (W := 0) (Nat.le_of_eq rfl) (by decide) (by decide) (by decide) (by decide) ?_
  intro v8 T8 L8 X8 Q8
  obtain ⟨rfl, N8q, hh8⟩ := Q8
  have N8 := Fr.app N7 N8q
  show Go _ _ _ _ _ _ _ T8 (mkF m 72 #[.val (.ref a), .val (.int K), .val (.ref q), .val (.int (0 : Int32))] [(.int (1 : Int32))])
  refine Go.step (fun _ k => XS.ifNo X8.here hx rfl (hb hby d2_72) rfl ((if0 _ _).trans (feq (by decide : ¬ ((1 : Int32) = (0 : Int32)))).1) k) ?_
  show Go _ _ _ _ _ _ _ T8 (mkF m 75 #[.val (.ref a), .val (.int K), .val (.ref q), .val (.int (0 : Int32))] [])
  refine Go.step (fun _ k => XS.aloadN X8.here hx rfl (hb hby d2_75) rfl rfl k) ?_
  show Go _ _ _ _ _ _ _ T8 (mkF m 76 #[.val (.ref a), .val (.int K), .val (.ref q), .val (.int (0 : Int32))] [(.ref q)])
  refine Go.step (fun _ k => XS.iloadN X8.here hx rfl (hb hby d2_76) rfl k) ?_
  show Go _ _ _ _ _ _ _ T8 (mkF m 77 #[.val (.ref a), .val (.int K), .val (.ref q), .val (.int (0 : Int32))] [(.int (0 : Int32)), (.ref q)])
  refine Go.daload X8 hx hZ hh8 V_q_7 (j := (0 : Int32)) (v := (g 0)) (by decide) rfl (hb hby d2_77) ?_
  show Go _ _ _ _ _ _ _ T8 (mkF m 78 #[.val (.ref a), .val (.int K), .val (.ref q), .val (.int (0 : Int32))] [(.double (g 0))])
  refine Go.step (fun _ k => XS.dconst0 X8.here hx rfl (hb hby d2_78) rfl k) ?_
  show Go _ _ _ _ _ _ _ T8 (mkF m 79 #[.val (.ref a), .val (.int K), .val (.ref q), .val (.int (0 : Int32))] [(.double (0 : UInt64)), (.double (g 0))])
  refine Go.step (fun _ k => XS.dcmpS X8.here hx rfl (hb hby d2_79) rfl rfl k) ?_
  show Go _ _ _ _ _ _ _ T8 (mkF m 80 #[.val (.ref a), .val (.int K), .val (.ref q), .val (.int (0 : Int32))] [(.int (cmpValue (FP.dcmp (g 0) (0 : UInt64)) .g))])
  refine Go.step (fun _ k => XS.ifYes X8.here hx rfl (pc0 := 80) (pc' := 99) rfl (hb hby d2_80) rfl (lt_n (hp 0 (by decide))) (by decide) (by decide) k) ?_
  show Go _ _ _ _ _ _ _ T8 (mkF m 99 #[.val (.ref a), .val (.int K), .val (.ref q), .val (.int (0 : Int32))] [])
  refine Go.step (fun _ k => XS.aloadN X8.here hx rfl (hb hby d2_99) rfl rfl k) ?_
  show Go _ _ _ _ _ _ _ T8 (mkF m 100 #[.val (.ref a), .val (.int K), .val (.ref q), .val (.int (0 : Int32))] [(.ref a)])
  obtain ⟨T9, X9, e9, st9⟩ := getF X8 hx hZ hown (host := "") (Or.inl (hw _ (List.mem_of_getElem? (i := 42) rfl))) Via.refl hh8 F_before_a_7 (g := (mkF m 100 #[.val (.ref a), .val (.int K), .val (.ref q), .val (.int (0 : Int32))] [(.ref a)])) rfl rfl (hb hby d2_100)
  refine Go.step st9 ?_
  show Go _ _ _ _ _ _ _ T9 (mkF m 103 #[.val (.ref a), .val (.int K), .val (.ref q), .val (.int (0 : Int32))] [(.ref b6)])
  refine Go.step (fun _ k => XS.iloadN X9.here hx rfl (hb hby d2_103) rfl k) ?_
  show Go _ _ _ _ _ _ _ T9 (mkF m 104 #[.val (.ref a), .val (.int K), .val (.ref q), .val (.int (0 : Int32))] [(.int (0 : Int32)), (.ref b6)])
  refine Go.step (fun _ k => XS.iconst X9.here hx rfl (hb hby d2_104) k) ?_
  show Go _ _ _ _ _ _ _ T9 (mkF m 105 #[.val (.ref a), .val (.int K), .val (.ref q), .val (.int (0 : Int32))] [(.int (1 : Int32)), (.int (0 : Int32)), (.ref b6)])
  refine Go.step (fun _ k => XS.iadd X9.here hx rfl (hb hby d2_105) rfl k) ?_
  show Go _ _ _ _ _ _ _ T9 (mkF m 106 #[.val (.ref a), .val (.int K), .val (.ref q), .val (.int (0 : Int32))] [(.int (1 : Int32)), (.ref b6)])
  refine Go.step (fun _ k => XS.aloadN X9.here hx rfl (hb hby d2_106) rfl rfl k) ?_
  show Go _ _ _ _ _ _ _ T9 (mkF m 107 #[.val (.ref a), .val (.int K), .val (.ref q), .val (.int (0 : Int32))] [(.ref a), (.int (1 : Int32)), (.ref b6)])
  obtain ⟨T10, X10, e10, st10⟩ := getF X9 hx hZ hown (host := "") (Or.inl (hw _ (List.mem_of_getElem? (i := 42) rfl))) Via.refl e9 F_before_a_7 (g := (mkF m 107 #[.val (.ref a), .val (.int K), .val (.ref q), .val (.int (0 : Int32))] [(.ref a), (.int (1 : Int32)), (.ref b6)])) rfl rfl (hb hby d2_107)
  refine Go.step st10 ?_
  show Go _ _ _ _ _ _ _ T10 (mkF m 110 #[.val (.ref a), .val (.int K), .val (.ref q), .val (.int (0 : Int32))] [(.ref b6), (.int (1 : Int32)), (.ref b6)])
  refine Go.step (fun _ k => XS.iloadN X10.here hx rfl (hb hby d2_110) rfl k) ?_
  show Go _ _ _ _ _ _ _ T10 (mkF m 111 #[.val (.ref a), .val (.int K), .val (.ref q), .val (.int (0 : Int32))] [(.int (0 : Int32)), (.ref b6), (.int (1 : Int32)), (.ref b6)])
  refine Go.daload X10 hx hZ e10 V_b6_7 (j := (0 : Int32)) (v := (0 : UInt64)) (by decide) rfl (hb hby d2_111) ?_
  show Go _ _ _ _ _ _ _ T10 (mkF m 112 #[.val (.ref a), .val (.int K), .val (.ref q), .val (.int (0 : Int32))] [(.double (0 : UInt64)), (.int (1 : Int32)), (.ref b6)])
  refine Go.step (fun _ k => XS.aloadN X10.here hx rfl (hb hby d2_112) rfl rfl k) ?_
  show Go _ _ _ _ _ _ _ T10 (mkF m 113 #[.val (.ref a), .val (.int K), .val (.ref q), .val (.int (0 : Int32))] [(.ref q), (.double (0 : UInt64)), (.int (1 : Int32)), (.ref b6)])
  refine Go.step (fun _ k => XS.iloadN X10.here hx rfl (hb hby d2_113) rfl k) ?_
  show Go _ _ _ _ _ _ _ T10 (mkF m 114 #[.val (.ref a), .val (.int K), .val (.ref q), .val (.int (0 : Int32))] [(.int (0 : Int32)), (.ref q), (.double (0 : UInt64)), (.int (1 : Int32)), (.ref b6)])
  refine Go.daload X10 hx hZ e10 V_q_7 (j := (0 : Int32)) (v := (g 0)) (by decide) rfl (hb hby d2_114) ?_
  show Go _ _ _ _ _ _ _ T10 (mkF m 115 #[.val (.ref a), .val (.int K), .val (.ref q), .val (.int (0 : Int32))] [(.double (g 0)), (.double (0 : UInt64)), (.int (1 : Int32)), (.ref b6)])
  refine Go.step (fun _ k => XS.daddS X10.here hx rfl (hb hby d2_115) rfl (Jvm.Free.Fl.dadd_out (by first | decide +kernel | (unfold Jvm.Free.Fl.Fin64; decide +kernel) | (unfold Jvm.Free.Fl.Nz64; decide +kernel) | (unfold Jvm.Free.Fl.NoNaN64; decide +kernel) : Jvm.Free.Fl.NoNaN64 0) (hf 0 (by decide))) rfl k) ?_
  show Go _ _ _ _ _ _ _ T10 (mkF m 116 #[.val (.ref a), .val (.int K), .val (.ref q), .val (.int (0 : Int32))] [(.double (FP.dadd (0 : UInt64) (g 0))), (.int (1 : Int32)), (.ref b6)])
  refine Go.dastore X10 hx hZ e10 V_b6_7 (j := (1 : Int32)) (x := (FP.dadd (0 : UInt64) (g 0))) (by decide) (hb hby d2_116) ?_
  intro T11 h11 X11 e11 W11 Vn11
  have V_b6_11 : Dv Z h11 b6 (2 : Int32) (updN (fun _ => (0 : UInt64)) 1 (FP.dadd (0 : UInt64) (g 0))) := Vn11
  have N11 := Fr.snoc X11 N8 ge_b6
  have E_a_11 := E_a_7.wr W11
  have F_keyGroups_a_11 := F_keyGroups_a_7.other W11 (Or.inl ne_a_b6)
  have F_shares_a_11 := F_shares_a_7.other W11 (Or.inl ne_a_b6)
  have F_before_a_11 := F_before_a_7.other W11 (Or.inl ne_a_b6)
  have E_q_11 := E_q_7.wr W11
  have V_q_11 := V_q_7.other W11 ne_q_b6
  have Vc3_11 := Vc3_7.other W11 ne_b3_b6
  have Ec3_11 := Ec3_7.wr W11
  have K11 : Keep h0 h11 [a] := K7.wr W11 (Or.inr sz_b6)
  show Go _ _ _ _ _ _ _ T11 (mkF m 117 #[.val (.ref a), .val (.int K), .val (.ref q), .val (.int (0 : Int32))] [])
  refine Go.step (fun _ k => XS.iinc X11.here hx rfl (hb hby d2_117) rfl (l' := #[.val (.ref a), .val (.int K), .val (.ref q), .val (.int (1 : Int32))]) rfl k) ?_
  show Go _ _ _ _ _ _ _ T11 (mkF m 120 #[.val (.ref a), .val (.int K), .val (.ref q), .val (.int (1 : Int32))] [])
  refine Go.step (fun _ k => XS.goto X11.here hx rfl (pc0 := 120) (pc' := 60) rfl (hb hby d2_120) (by decide) (by decide) k) ?_
  show Go _ _ _ _ _ _ _ T11 (mkF m 60 #[.val (.ref a), .val (.int K), .val (.ref q), .val (.int (1 : Int32))] [])
  refine Go.step (fun _ k => XS.iloadN X11.here hx rfl (hb hby d2_60) rfl k) ?_
  show Go _ _ _ _ _ _ _ T11 (mkF m 61 #[.val (.ref a), .val (.int K), .val (.ref q), .val (.int (1 : Int32))] [(.int (1 : Int32))])
  refine Go.step (fun _ k => XS.aloadN X11.here hx rfl (hb hby d2_61) rfl rfl k) ?_
  show Go _ _ _ _ _ _ _ T11 (mkF m 62 #[.val (.ref a), .val (.int K), .val (.ref q), .val (.int (1 : Int32))] [(.ref q), (.int (1 : Int32))])
  refine Go.alen X11 hx hZ e11 V_q_11 (hb hby d2_62) ?_
  show Go _ _ _ _ _ _ _ T11 (mkF m 63 #[.val (.ref a), .val (.int K), .val (.ref q), .val (.int (1 : Int32))] [(.int (1 : Int32)), (.int (1 : Int32))])
  refine Go.step (fun _ k => XS.icmpYes X11.here hx rfl (pc0 := 63) (pc' := 123) rfl (hb hby d2_63) rfl (flt (by decide : ¬ ((1 : Int32) < (1 : Int32)))).2.1 (by decide) (by decide) k) ?_
  show Go _ _ _ _ _ _ _ T11 (mkF m 123 #[.val (.ref a), .val (.int K), .val (.ref q), .val (.int (1 : Int32))] [])
  refine Go.retV X11 hx hlk hret (hb hby d2_123) (by decide) (by decide) ?_
  try rw [e11]
  exact ⟨rfl, N11, K11, E_a_11, F_keyGroups_a_11, b3, b6, F_shares_a_11, F_before_a_11, Vc3_11, V_b6_11, sz_b3, sz_b6, ne_b3_b6⟩
theorem pn_2 : plainName "tidewatch/decision/KeyGroupCeiling" = true := by first | (simp [plainName, overriddenIn]; done) | decide +kernel
theorem ef_rm2_1 (m : MethodId) (a : Addr) (K : Int32) (q : Addr) : entryFrame m #[(.ref a), (.int K), (.ref q)] 4 = mkF m 0 #[.val (.ref a), .val (.int K), .val (.ref q), .unset] [] := by first | (simp [entryFrame, mkF, argsToLocals, Value.category]; done) | rfl
theorem rm2_1 (l : Launch) (Z : State) (a0 : Array Value) (hw : ∀ d ∈ tables_1, d.before a0 Z = true) (a q : Addr) (K : Int32) (g : Nat → UInt64) (h0 : Heap) (n0 : Nat) (Z0 : n0 ≤ h0.size) (E_a : Exa Z h0 a "tidewatch/decision/KeyGroupCeiling") (F_keyGroups_a : Fld Z h0 a "tidewatch/decision/KeyGroupCeiling" "keyGroups" "I" (.int (0 : Int32))) (F_shares_a : Fld Z h0 a "tidewatch/decision/KeyGroupCeiling" "shares" "[D" .null) (F_before_a : Fld Z h0 a "tidewatch/decision/KeyGroupCeiling" "before" "[D" .null) (E_q : Exa Z h0 q "[D") (V_q : Dv Z h0 q (1 : Int32) g) (ge_a : n0 ≤ a) (ne_a_q : a ≠ q) (hK : ¬ K < (1 : Int32)) (hf : ∀ i, i < 1 → Jvm.Free.Fl.Fin64 (g i)) (hp : ∀ i, i < 1 → ¬ FP.dcmp (g i) (0 : UInt64) = some .lt) :
    Con l Z (⟨"tidewatch/decision/KeyGroupCeiling", "<init>", "(I[D)V"⟩ : MethodName) prog_33_method_1_code 4 none ({ frames := 2, cells := 2, slots := 3, locals := 40 } : Room) #[(.ref a), (.int K), (.ref q)] h0 (fun r h L => r = none ∧ Fr n0 L ∧ Keep h0 h [a] ∧ Exa Z h a "tidewatch/decision/KeyGroupCeiling" ∧ Fld Z h a "tidewatch/decision/KeyGroupCeiling" "keyGroups" "I" (.int K) ∧ ∃ c d : Addr, Fld Z h a "tidewatch/decision/KeyGroupCeiling" "shares" "[D" (.ref c) ∧ Fld Z h a "tidewatch/decision/KeyGroupCeiling" "before" "[D" (.ref d) ∧ Dv Z h c (1 : Int32) g ∧ Dv Z h d (2 : Int32) (updN (fun _ => (0 : UInt64)) 1 (FP.dadd (0 : UInt64) (g 0))) ∧ h0.size ≤ c ∧ h0.size ≤ d ∧ c ≠ d) :=
  con_of (plainFor_of_name pn_2) (fun p_ e_ s_ m_ b_ meth_ c_ T_ X_ hx hZ hby hml hown hnm hret hlk e0 => Go.cast (ef_rm2_1 m_ a K q) (w2_1 a q K g X_ hx hZ hw hby hml hown hnm hret hlk e0 Z0 (Fr.nil n0) E_a F_keyGroups_a F_shares_a F_before_a E_q V_q ge_a ne_a_q hK hf hp))
set_option maxRecDepth 65536 in
set_option maxHeartbeats 40000000 in
theorem w2_2 {p : Program} {l : Launch} {e : Env} {s : State} {m : MethodId} {args : Array Value} {below : List Frame} {meth : Method} {c_ : Code} {T0 : State} {locs : List Loc} {Z : State} {a0 : Array Value} {h0 : Heap} {n0 : Nat} (a q : Addr) (K : Int32) (g : Nat → UInt64)
    (X0 : Stand p l e ({ frames := 2, cells := 2, slots := 5, locals := 40 } : Room) s m args below meth c_ T0 locs 0 0) (hx : p.tables.exec = Jvm.exec) (hZ : Z.Warmed39 s.vm) (hw : ∀ d ∈ tables_1, d.before a0 Z = true) (hby : c_.code = prog_33_method_1_code) (hml : c_.maxLocals = 4) (hown : s.vm.findClass "tidewatch/decision/KeyGroupCeiling" = some m.cls) (hnm : meth.name = "<init>") (hret : meth.sig.returnType = none) (hlk : meth.locks = false) (e0 : T0.heap = h0) (Z0 : n0 ≤ h0.size) (N0 : Fr n0 locs) (E_a : Exa Z h0 a "tidewatch/decision/KeyGroupCeiling") (F_keyGroups_a : Fld Z h0 a "tidewatch/decision/KeyGroupCeiling" "keyGroups" "I" (.int (0 : Int32))) (F_shares_a : Fld Z h0 a "tidewatch/decision/KeyGroupCeiling" "shares" "[D" .null) (F_before_a : Fld Z h0 a "tidewatch/decision/KeyGroupCeiling" "before" "[D" .null) (E_q : Exa Z h0 q "[D") (V_q : Dv Z h0 q (2 : Int32) g) (ge_a : n0 ≤ a) (ne_a_q : a ≠ q) (hK : ¬ K < (2 : Int32)) (hf : ∀ i, i < 2 → Jvm.Free.Fl.Fin64 (g i)) (hp : ∀ i, i < 2 → ¬ FP.dcmp (g i) (0 : UInt64) = some .lt) :
    Go p e below s ({ frames := 2, cells := 2, slots := 5, locals := 40 } : Room).cells ({ frames := 2, cells := 2, slots := 5, locals := 40 } : Room).slots (fun r h L => r = none ∧ Fr n0 L ∧ Keep h0 h [a] ∧ Exa Z h a "tidewatch/decision/KeyGroupCeiling" ∧ Fld Z h a "tidewatch/decision/KeyGroupCeiling" "keyGroups" "I" (.int K) ∧ ∃ c d : Addr, Fld Z h a "tidewatch/decision/KeyGroupCeiling" "shares" "[D" (.ref c) ∧ Fld Z h a "tidewatch/decision/KeyGroupCeiling" "before" "[D" (.ref d) ∧ Dv Z h c (2 : Int32) g ∧ Dv Z h d (3 : Int32) (updN (updN (fun _ => (0 : UInt64)) 1 (FP.dadd (0 : UInt64) (g 0))) 2 (FP.dadd (FP.dadd (0 : UInt64) (g 0)) (g 1))) ∧ h0.size ≤ c ∧ h0.size ≤ d ∧ c ≠ d) T0 (mkF m 0 #[.val (.ref a), .val (.int K), .val (.ref q), .unset] []) := by
  show Go _ _ _ _ _ _ _ T0 (mkF m 0 #[.val (.ref a), .val (.int K), .val (.ref q), .unset] [])
  refine Go.step (fun _ k => XS.aloadN X0.here hx rfl (hb hby d2_0) rfl rfl k) ?_
  show Go _ _ _ _ _ _ _ T0 (mkF m 1 #[.val (.ref a), .val (.int K), .val (.ref q), .unset] [(.ref a)])
  obtain ⟨T1, X1, e1, st1⟩ := initO X0 hx hZ hown (hw _ (List.mem_of_getElem? (i := 26) rfl)) (hw _ (List.mem_of_getElem? (i := 27) rfl)) (hw _ (List.mem_of_getElem? (i := 28) rfl)) e0 (g := (mkF m 1 #[.val (.ref a), .val (.int K), .val (.ref q), .unset] [(.ref a)])) rfl (by rw [hml]; rfl) rfl (hb hby d2_1) (by decide) (W := 0) (by show 2 * 0 + _ ≤ _; exact Nat.le_of_eq rfl) (by decide)
  refine Go.step st1 ?_
  show Go _ _ _ _ _ _ _ T1 (mkF m 4 #[.val (.ref a), .val (.int K), .val (.ref q), .unset] [])
  refine Go.step (fun _ k => XS.aloadN X1.here hx rfl (hb hby d2_4) rfl rfl k) ?_
  show Go _ _ _ _ _ _ _ T1 (mkF m 5 #[.val (.ref a), .val (.int K), .val (.ref q), .unset] [(.ref q)])
  refine Go.alen X1 hx hZ e1 V_q (hb hby d2_5) ?_
  show Go _ _ _ _ _ _ _ T1 (mkF m 6 #[.val (.ref a), .val (.int K), .val (.ref q), .unset] [(.int (2 : Int32))])
  refine Go.step (fun _ k => XS.iconst X1.here hx rfl (hb hby d2_6) k) ?_
  show Go _ _ _ _ _ _ _ T1 (mkF m 7 #[.val (.ref a), .val (.int K), .val (.ref q), .unset] [(.int (1 : Int32)), (.int (2 : Int32))])
  refine Go.step (fun _ k => XS.icmpNo X1.here hx rfl (hb hby d2_7) rfl (flt (by decide : ¬ ((2 : Int32) < (1 : Int32)))).1 k) ?_
  show Go _ _ _ _ _ _ _ T1 (mkF m 10 #[.val (.ref a), .val (.int K), .val (.ref q), .unset] [])
  refine Go.step (fun _ k => XS.aloadN X1.here hx rfl (hb hby d2_10) rfl rfl k) ?_
  show Go _ _ _ _ _ _ _ T1 (mkF m 11 #[.val (.ref a), .val (.int K), .val (.ref q), .unset] [(.ref q)])
  refine Go.alen X1 hx hZ e1 V_q (hb hby d2_11) ?_
  show Go _ _ _ _ _ _ _ T1 (mkF m 12 #[.val (.ref a), .val (.int K), .val (.ref q), .unset] [(.int (2 : Int32))])
  refine Go.step (fun _ k => XS.iloadN X1.here hx rfl (hb hby d2_12) rfl k) ?_
  show Go _ _ _ _ _ _ _ T1 (mkF m 13 #[.val (.ref a), .val (.int K), .val (.ref q), .unset] [(.int K), (.int (2 : Int32))])
  refine Go.step (fun _ k => XS.icmpYes X1.here hx rfl (pc0 := 13) (pc' := 32) rfl (hb hby d2_13) rfl (flt hK).2.2.2 (by decide) (by decide) k) ?_
  show Go _ _ _ _ _ _ _ T1 (mkF m 32 #[.val (.ref a), .val (.int K), .val (.ref q), .unset] [])
  refine Go.step (fun _ k => XS.aloadN X1.here hx rfl (hb hby d2_32) rfl rfl k) ?_
  show Go _ _ _ _ _ _ _ T1 (mkF m 33 #[.val (.ref a), .val (.int K), .val (.ref q), .unset] [(.ref a)])
  refine Go.step (fun _ k => XS.iloadN X1.here hx rfl (hb hby d2_33) rfl k) ?_
  show Go _ _ _ _ _ _ _ T1 (mkF m 34 #[.val (.ref a), .val (.int K), .val (.ref q), .unset] [(.int K), (.ref a)])
  obtain ⟨T2, h2, X2, e2, W2, st2⟩ := putF X1 hx hZ hown (host := "") (Or.inl (hw _ (List.mem_of_getElem? (i := 29) rfl))) Via.refl e1 F_keyGroups_a E_a (Or.inr ⟨(hw _ (List.mem_of_getElem? (i := 30) rfl)), rfl, hnm⟩) (hw _ (List.mem_of_getElem? (i := 21) rfl)) (ty := .int) (by decide) rfl rfl (g := (mkF m 34 #[.val (.ref a), .val (.int K), .val (.ref q), .unset] [(.int K), (.ref a)])) rfl rfl (hb hby d2_34)
  refine Go.step st2 ?_
  have N2 := Fr.snoc X2 N0 ge_a
  have F_keyGroups_a_2 := F_keyGroups_a.same W2
  have E_a_2 := E_a.wr W2
  have F_shares_a_2 := F_shares_a.other W2 (Or.inr (slot_ne (Or.inr (hw _ (List.mem_of_getElem? (i := 41) rfl))) (Or.inr (hw _ (List.mem_of_getElem? (i := 30) rfl))) (by decide) (t := (.array .double)) (t' := .int) (by decide) (by decide)))
  have F_before_a_2 := F_before_a.other W2 (Or.inr (slot_ne (Or.inr (hw _ (List.mem_of_getElem? (i := 43) rfl))) (Or.inr (hw _ (List.mem_of_getElem? (i := 30) rfl))) (by decide) (t := (.array .double)) (t' := .int) (by decide) (by decide)))
  have E_q_2 := E_q.wr W2
  have V_q_2 := V_q.other W2 (Ne.symm ne_a_q)
  have K2 : Keep h0 h2 [a] := (Keep.refl h0 [a]).wr W2 (Or.inl (List.mem_of_getElem? (i := 0) rfl))
  show Go _ _ _ _ _ _ _ T2 (mkF m 37 #[.val (.ref a), .val (.int K), .val (.ref q), .unset] [])
  refine Go.step (fun _ k => XS.aloadN X2.here hx rfl (hb hby d2_37) rfl rfl k) ?_
  show Go _ _ _ _ _ _ _ T2 (mkF m 38 #[.val (.ref a), .val (.int K), .val (.ref q), .unset] [(.ref a)])
  refine Go.step (fun _ k => XS.aloadN X2.here hx rfl (hb hby d2_38) rfl rfl k) ?_
  show Go _ _ _ _ _ _ _ T2 (mkF m 39 #[.val (.ref a), .val (.int K), .val (.ref q), .unset] [(.ref q), (.ref a)])
  refine Go.clone X2 hx hZ (by rw [hml]; rfl) hown (hw _ (List.mem_of_getElem? (i := 31) rfl)) (hw _ (List.mem_of_getElem? (i := 32) rfl)) (hw _ (List.mem_of_getElem? (i := 36) rfl)) (hw _ (List.mem_of_getElem? (i := 34) rfl)) (hw _ (List.mem_of_getElem? (i := 35) rfl)) (hw _ (List.mem_of_getElem? (i := 37) rfl)) e2 V_q_2 E_q_2 (hb hby d2_39) (by decide) (W := 1) (Nat.le_of_eq rfl) (by decide) (cap := 2) (by decide) (by decide) (by decide) ?_
  intro T3 h3 b3 g3 X3 e3 E3 Vc3 Ec3
  have K3 : Keep h0 h3 [a] := K2.ext E3
  have sz_b3 : h0.size ≤ b3 := Nat.le_trans (K2 : Keep h0 h2 [a]).1 (Nat.le_of_eq g3.symm)
  have ge_b3 : n0 ≤ b3 := Nat.le_trans Z0 sz_b3
  have ne_a_b3 : a ≠ b3 := Nat.ne_of_lt (Nat.lt_of_lt_of_le E_a_2.lt (Nat.le_of_eq g3.symm))
  have ne_q_b3 : q ≠ b3 := Nat.ne_of_lt (Nat.lt_of_lt_of_le E_q_2.lt (Nat.le_of_eq g3.symm))
  have E_a_3 := E_a_2.ext E3
  have F_keyGroups_a_3 := F_keyGroups_a_2.ext E3
  have F_shares_a_3 := F_shares_a_2.ext E3
  have F_before_a_3 := F_before_a_2.ext E3
  have E_q_3 := E_q_2.ext E3
  have V_q_3 := V_q_2.ext E3
  show Go _ _ _ _ _ _ _ T3 (mkF m 42 #[.val (.ref a), .val (.int K), .val (.ref q), .unset] [(.ref b3), (.ref a)])
  obtain ⟨T4, X4, e4, st4⟩ := castY X3 hx hZ hown (hw _ (List.mem_of_getElem? (i := 38) rfl)) e3 (Ins.self Ec3) (g := (mkF m 42 #[.val (.ref a), .val (.int K), .val (.ref q), .unset] [(.ref b3), (.ref a)])) rfl rfl (hb hby d2_42)
  refine Go.step st4 ?_
  show Go _ _ _ _ _ _ _ T4 (mkF m 45 #[.val (.ref a), .val (.int K), .val (.ref q), .unset] [(.ref b3), (.ref a)])
  obtain ⟨T5, h5, X5, e5, W5, st5⟩ := putF X4 hx hZ hown (host := "") (Or.inl (hw _ (List.mem_of_getElem? (i := 40) rfl))) Via.refl e4 F_shares_a_3 E_a_3 (Or.inr ⟨(hw _ (List.mem_of_getElem? (i := 41) rfl)), rfl, hnm⟩) (hw _ (List.mem_of_getElem? (i := 21) rfl)) (ty := (.array .double)) (by decide) rfl rfl (g := (mkF m 45 #[.val (.ref a), .val (.int K), .val (.ref q), .unset] [(.ref b3), (.ref a)])) rfl rfl (hb hby d2_45)
  refine Go.step st5 ?_
  have N5 := Fr.snoc X5 N2 ge_a
  have F_shares_a_5 := F_shares_a_3.same W5
  have E_a_5 := E_a_3.wr W5
  have F_keyGroups_a_5 := F_keyGroups_a_3.other W5 (Or.inr (slot_ne (Or.inr (hw _ (List.mem_of_getElem? (i := 30) rfl))) (Or.inr (hw _ (List.mem_of_getElem? (i := 41) rfl))) (by decide) (t := .int) (t' := (.array .double)) (by decide) (by decide)))
  have F_before_a_5 := F_before_a_3.other W5 (Or.inr (slot_ne (Or.inr (hw _ (List.mem_of_getElem? (i := 43) rfl))) (Or.inr (hw _ (List.mem_of_getElem? (i := 41) rfl))) (by decide) (t := (.array .double)) (t' := (.array .double)) (by decide) (by decide)))
  have E_q_5 := E_q_3.wr W5
  have V_q_5 := V_q_3.other W5 (Ne.symm ne_a_q)
  have Vc3_5 := Vc3.other W5 (Ne.symm ne_a_b3)
  have Ec3_5 := Ec3.wr W5
  have K5 : Keep h0 h5 [a] := K3.wr W5 (Or.inl (List.mem_of_getElem? (i := 0) rfl))
  show Go _ _ _ _ _ _ _ T5 (mkF m 48 #[.val (.ref a), .val (.int K), .val (.ref q), .unset] [])
  refine Go.step (fun _ k => XS.aloadN X5.here hx rfl (hb hby d2_48) rfl rfl k) ?_
  show Go _ _ _ _ _ _ _ T5 (mkF m 49 #[.val (.ref a), .val (.int K), .val (.ref q), .unset] [(.ref a)])
  refine Go.step (fun _ k => XS.aloadN X5.here hx rfl (hb hby d2_49) rfl rfl k) ?_
  show Go _ _ _ _ _ _ _ T5 (mkF m 50 #[.val (.ref a), .val (.int K), .val (.ref q), .unset] [(.ref q), (.ref a)])
  refine Go.alen X5 hx hZ e5 V_q_5 (hb hby d2_50) ?_
  show Go _ _ _ _ _ _ _ T5 (mkF m 51 #[.val (.ref a), .val (.int K), .val (.ref q), .unset] [(.int (2 : Int32)), (.ref a)])
  refine Go.step (fun _ k => XS.iconst X5.here hx rfl (hb hby d2_51) k) ?_
  show Go _ _ _ _ _ _ _ T5 (mkF m 52 #[.val (.ref a), .val (.int K), .val (.ref q), .unset] [(.int (1 : Int32)), (.int (2 : Int32)), (.ref a)])
  refine Go.step (fun _ k => XS.iadd X5.here hx rfl (hb hby d2_52) rfl k) ?_
  show Go _ _ _ _ _ _ _ T5 (mkF m 53 #[.val (.ref a), .val (.int K), .val (.ref q), .unset] [(.int (3 : Int32)), (.ref a)])
  obtain ⟨T6, h6, k6, X6, e6, E6, A6, st6⟩ := newP X5 hx hZ (hw _ (List.mem_of_getElem? (i := 5) rfl)) e5 (g := (mkF m 53 #[.val (.ref a), .val (.int K), .val (.ref q), .unset] [(.int (3 : Int32)), (.ref a)])) rfl (hb hby d2_53) rfl (by decide) (cap := 3) (by decide) (by decide) (by decide) (by decide)
  obtain ⟨b6, g6⟩ : ∃ z, z = h5.size := ⟨_, rfl⟩
  rw [← g6] at A6 st6
  refine Go.step st6 ?_
  have K6 : Keep h0 h6 [a] := K5.ext E6
  have sz_b6 : h0.size ≤ b6 := Nat.le_trans (K5 : Keep h0 h5 [a]).1 (Nat.le_of_eq g6.symm)
  have ge_b6 : n0 ≤ b6 := Nat.le_trans Z0 sz_b6
  have ne_a_b6 : a ≠ b6 := Nat.ne_of_lt (Nat.lt_of_lt_of_le E_a_5.lt (Nat.le_of_eq g6.symm))
  have ne_q_b6 : q ≠ b6 := Nat.ne_of_lt (Nat.lt_of_lt_of_le E_q_5.lt (Nat.le_of_eq g6.symm))
  have ne_b3_b6 : b3 ≠ b6 := Nat.ne_of_lt (Nat.lt_of_lt_of_le Vc3_5.lt (Nat.le_of_eq g6.symm))
  have E_a_6 := E_a_5.ext E6
  have F_keyGroups_a_6 := F_keyGroups_a_5.ext E6
  have F_shares_a_6 := F_shares_a_5.ext E6
  have F_before_a_6 := F_before_a_5.ext E6
  have E_q_6 := E_q_5.ext E6
  have V_q_6 := V_q_5.ext E6
  have Vc3_6 := Vc3_5.ext E6
  have Ec3_6 := Ec3_5.ext E6
  have V_b6 : Dv Z h6 b6 (3 : Int32) (fun _ => (0 : UInt64)) := Fv.new A6 (by decide)
  show Go _ _ _ _ _ _ _ T6 (mkF m 55 #[.val (.ref a), .val (.int K), .val (.ref q), .unset] [(.ref b6), (.ref a)])
  obtain ⟨T7, h7, X7, e7, W7, st7⟩ := putF X6 hx hZ hown (host := "") (Or.inl (hw _ (List.mem_of_getElem? (i := 42) rfl))) Via.refl e6 F_before_a_6 E_a_6 (Or.inr ⟨(hw _ (List.mem_of_getElem? (i := 43) rfl)), rfl, hnm⟩) (hw _ (List.mem_of_getElem? (i := 21) rfl)) (ty := (.array .double)) (by decide) rfl rfl (g := (mkF m 55 #[.val (.ref a), .val (.int K), .val (.ref q), .unset] [(.ref b6), (.ref a)])) rfl rfl (hb hby d2_55)
  refine Go.step st7 ?_
  have N7 := Fr.snoc X7 N5 ge_a
  have F_before_a_7 := F_before_a_6.same W7
  have E_a_7 := E_a_6.wr W7
  have F_keyGroups_a_7 := F_keyGroups_a_6.other W7 (Or.inr (slot_ne (Or.inr (hw _ (List.mem_of_getElem? (i := 30) rfl))) (Or.inr (hw _ (List.mem_of_getElem? (i := 43) rfl))) (by decide) (t := .int) (t' := (.array .double)) (by decide) (by decide)))
  have F_shares_a_7 := F_shares_a_6.other W7 (Or.inr (slot_ne (Or.inr (hw _ (List.mem_of_getElem? (i := 41) rfl))) (Or.inr (hw _ (List.mem_of_getElem? (i := 43) rfl))) (by decide) (t := (.array .double)) (t' := (.array .double)) (by decide) (by decide)))
  have E_q_7 := E_q_6.wr W7
  have V_q_7 := V_q_6.other W7 (Ne.symm ne_a_q)
  have Vc3_7 := Vc3_6.other W7 (Ne.symm ne_a_b3)
  have Ec3_7 := Ec3_6.wr W7
  have V_b6_7 := V_b6.other W7 (Ne.symm ne_a_b6)
  have K7 : Keep h0 h7 [a] := K6.wr W7 (Or.inl (List.mem_of_getElem? (i := 0) rfl))
  show Go _ _ _ _ _ _ _ T7 (mkF m 58 #[.val (.ref a), .val (.int K), .val (.ref q), .unset] [])
  refine Go.step (fun _ k => XS.iconst X7.here hx rfl (hb hby d2_58) k) ?_
  show Go _ _ _ _ _ _ _ T7 (mkF m 59 #[.val (.ref a), .val (.int K), .val (.ref q), .unset] [(.int (0 : Int32))])
  refine Go.step (fun _ k => XS.istoreN X7.here hx rfl (hb hby d2_59) rfl (l' := #[.val (.ref a), .val (.int K), .val (.ref q), .val (.int (0 : Int32))]) rfl k) ?_
  show Go _ _ _ _ _ _ _ T7 (mkF m 60 #[.val (.ref a), .val (.int K), .val (.ref q), .val (.int (0 : Int32))] [])
  refine Go.step (fun _ k => XS.iloadN X7.here hx rfl (hb hby d2_60) rfl k) ?_
  show Go _ _ _ _ _ _ _ T7 (mkF m 61 #[.val (.ref a), .val (.int K), .val (.ref q), .val (.int (0 : Int32))] [(.int (0 : Int32))])
  refine Go.step (fun _ k => XS.aloadN X7.here hx rfl (hb hby d2_61) rfl rfl k) ?_
  show Go _ _ _ _ _ _ _ T7 (mkF m 62 #[.val (.ref a), .val (.int K), .val (.ref q), .val (.int (0 : Int32))] [(.ref q), (.int (0 : Int32))])
  refine Go.alen X7 hx hZ e7 V_q_7 (hb hby d2_62) ?_
  show Go _ _ _ _ _ _ _ T7 (mkF m 63 #[.val (.ref a), .val (.int K), .val (.ref q), .val (.int (0 : Int32))] [(.int (2 : Int32)), (.int (0 : Int32))])
  refine Go.step (fun _ k => XS.icmpNo X7.here hx rfl (hb hby d2_63) rfl (tlt (by decide : (0 : Int32) < (2 : Int32))).2.1 k) ?_
  show Go _ _ _ _ _ _ _ T7 (mkF m 66 #[.val (.ref a), .val (.int K), .val (.ref q), .val (.int (0 : Int32))] [])
  refine Go.step (fun _ k => XS.aloadN X7.here hx rfl (hb hby d2_66) rfl rfl k) ?_
  show Go _ _ _ _ _ _ _ T7 (mkF m 67 #[.val (.ref a), .val (.int K), .val (.ref q), .val (.int (0 : Int32))] [(.ref q)])
  refine Go.step (fun _ k => XS.iloadN X7.here hx rfl (hb hby d2_67) rfl k) ?_
  show Go _ _ _ _ _ _ _ T7 (mkF m 68 #[.val (.ref a), .val (.int K), .val (.ref q), .val (.int (0 : Int32))] [(.int (0 : Int32)), (.ref q)])
  refine Go.daload X7 hx hZ e7 V_q_7 (j := (0 : Int32)) (v := (g 0)) (by decide) rfl (hb hby d2_68) ?_
  show Go _ _ _ _ _ _ _ T7 (mkF m 69 #[.val (.ref a), .val (.int K), .val (.ref q), .val (.int (0 : Int32))] [(.double (g 0))])
  refine Go.callS X7 hx hZ (by rw [hml]; rfl) (y := (⟨"java/lang/Double", "isFinite", "(D)Z"⟩ : MethodName)) (argsL := [(.double (g 0))]) (rest := []) hown (hw _ (List.mem_of_getElem? (i := 44) rfl)) (hw _ (List.mem_of_getElem? (i := 45) rfl)) (hw _ (List.mem_of_getElem? (i := 46) rfl)) (hw _ (List.mem_of_getElem? (i := 47) rfl)) (by decide) (rm4 l Z a0 hw (g 0) h7 n0 (Nat.le_trans Z0 (K7 : Keep h0 h7 [a]).1) (hf 0 (by decide))) e7 (hb hby d2_69) (lenOf pd_1 rfl) rfl rfl (W := 0) (Nat.le_of_eq rfl) (by decide) (by decide) (by decide) (by decide) ?_
  intro v8 T8 L8 X8 Q8
  obtain ⟨rfl, N8q, hh8⟩ := Q8
  have N8 := Fr.app N7 N8q
  show Go _ _ _ _ _ _ _ T8 (mkF m 72 #[.val (.ref a), .val (.int K), .val (.ref q), .val (.int (0 : Int32))] [(.int (1 : Int32))])
  refine Go.step (fun _ k => XS.ifNo X8.here hx rfl (hb hby d2_72) rfl ((if0 _ _).trans (feq (by decide : ¬ ((1 : Int32) = (0 : Int32)))).1) k) ?_
  show Go _ _ _ _ _ _ _ T8 (mkF m 75 #[.val (.ref a), .val (.int K), .val (.ref q), .val (.int (0 : Int32))] [])
  refine Go.step (fun _ k => XS.aloadN X8.here hx rfl (hb hby d2_75) rfl rfl k) ?_
  show Go _ _ _ _ _ _ _ T8 (mkF m 76 #[.val (.ref a), .val (.int K), .val (.ref q), .val (.int (0 : Int32))] [(.ref q)])
  refine Go.step (fun _ k => XS.iloadN X8.here hx rfl (hb hby d2_76) rfl k) ?_
  show Go _ _ _ _ _ _ _ T8 (mkF m 77 #[.val (.ref a), .val (.int K), .val (.ref q), .val (.int (0 : Int32))] [(.int (0 : Int32)), (.ref q)])
  refine Go.daload X8 hx hZ hh8 V_q_7 (j := (0 : Int32)) (v := (g 0)) (by decide) rfl (hb hby d2_77) ?_
  show Go _ _ _ _ _ _ _ T8 (mkF m 78 #[.val (.ref a), .val (.int K), .val (.ref q), .val (.int (0 : Int32))] [(.double (g 0))])
  refine Go.step (fun _ k => XS.dconst0 X8.here hx rfl (hb hby d2_78) rfl k) ?_
  show Go _ _ _ _ _ _ _ T8 (mkF m 79 #[.val (.ref a), .val (.int K), .val (.ref q), .val (.int (0 : Int32))] [(.double (0 : UInt64)), (.double (g 0))])
  refine Go.step (fun _ k => XS.dcmpS X8.here hx rfl (hb hby d2_79) rfl rfl k) ?_
  show Go _ _ _ _ _ _ _ T8 (mkF m 80 #[.val (.ref a), .val (.int K), .val (.ref q), .val (.int (0 : Int32))] [(.int (cmpValue (FP.dcmp (g 0) (0 : UInt64)) .g))])
  refine Go.step (fun _ k => XS.ifYes X8.here hx rfl (pc0 := 80) (pc' := 99) rfl (hb hby d2_80) rfl (lt_n (hp 0 (by decide))) (by decide) (by decide) k) ?_
  show Go _ _ _ _ _ _ _ T8 (mkF m 99 #[.val (.ref a), .val (.int K), .val (.ref q), .val (.int (0 : Int32))] [])
  refine Go.step (fun _ k => XS.aloadN X8.here hx rfl (hb hby d2_99) rfl rfl k) ?_
  show Go _ _ _ _ _ _ _ T8 (mkF m 100 #[.val (.ref a), .val (.int K), .val (.ref q), .val (.int (0 : Int32))] [(.ref a)])
  obtain ⟨T9, X9, e9, st9⟩ := getF X8 hx hZ hown (host := "") (Or.inl (hw _ (List.mem_of_getElem? (i := 42) rfl))) Via.refl hh8 F_before_a_7 (g := (mkF m 100 #[.val (.ref a), .val (.int K), .val (.ref q), .val (.int (0 : Int32))] [(.ref a)])) rfl rfl (hb hby d2_100)
  refine Go.step st9 ?_
  show Go _ _ _ _ _ _ _ T9 (mkF m 103 #[.val (.ref a), .val (.int K), .val (.ref q), .val (.int (0 : Int32))] [(.ref b6)])
  refine Go.step (fun _ k => XS.iloadN X9.here hx rfl (hb hby d2_103) rfl k) ?_
  show Go _ _ _ _ _ _ _ T9 (mkF m 104 #[.val (.ref a), .val (.int K), .val (.ref q), .val (.int (0 : Int32))] [(.int (0 : Int32)), (.ref b6)])
  refine Go.step (fun _ k => XS.iconst X9.here hx rfl (hb hby d2_104) k) ?_
  show Go _ _ _ _ _ _ _ T9 (mkF m 105 #[.val (.ref a), .val (.int K), .val (.ref q), .val (.int (0 : Int32))] [(.int (1 : Int32)), (.int (0 : Int32)), (.ref b6)])
  refine Go.step (fun _ k => XS.iadd X9.here hx rfl (hb hby d2_105) rfl k) ?_
  show Go _ _ _ _ _ _ _ T9 (mkF m 106 #[.val (.ref a), .val (.int K), .val (.ref q), .val (.int (0 : Int32))] [(.int (1 : Int32)), (.ref b6)])
  refine Go.step (fun _ k => XS.aloadN X9.here hx rfl (hb hby d2_106) rfl rfl k) ?_
  show Go _ _ _ _ _ _ _ T9 (mkF m 107 #[.val (.ref a), .val (.int K), .val (.ref q), .val (.int (0 : Int32))] [(.ref a), (.int (1 : Int32)), (.ref b6)])
  obtain ⟨T10, X10, e10, st10⟩ := getF X9 hx hZ hown (host := "") (Or.inl (hw _ (List.mem_of_getElem? (i := 42) rfl))) Via.refl e9 F_before_a_7 (g := (mkF m 107 #[.val (.ref a), .val (.int K), .val (.ref q), .val (.int (0 : Int32))] [(.ref a), (.int (1 : Int32)), (.ref b6)])) rfl rfl (hb hby d2_107)
  refine Go.step st10 ?_
  show Go _ _ _ _ _ _ _ T10 (mkF m 110 #[.val (.ref a), .val (.int K), .val (.ref q), .val (.int (0 : Int32))] [(.ref b6), (.int (1 : Int32)), (.ref b6)])
  refine Go.step (fun _ k => XS.iloadN X10.here hx rfl (hb hby d2_110) rfl k) ?_
  show Go _ _ _ _ _ _ _ T10 (mkF m 111 #[.val (.ref a), .val (.int K), .val (.ref q), .val (.int (0 : Int32))] [(.int (0 : Int32)), (.ref b6), (.int (1 : Int32)), (.ref b6)])
  refine Go.daload X10 hx hZ e10 V_b6_7 (j := (0 : Int32)) (v := (0 : UInt64)) (by decide) rfl (hb hby d2_111) ?_
  show Go _ _ _ _ _ _ _ T10 (mkF m 112 #[.val (.ref a), .val (.int K), .val (.ref q), .val (.int (0 : Int32))] [(.double (0 : UInt64)), (.int (1 : Int32)), (.ref b6)])
  refine Go.step (fun _ k => XS.aloadN X10.here hx rfl (hb hby d2_112) rfl rfl k) ?_
  show Go _ _ _ _ _ _ _ T10 (mkF m 113 #[.val (.ref a), .val (.int K), .val (.ref q), .val (.int (0 : Int32))] [(.ref q), (.double (0 : UInt64)), (.int (1 : Int32)), (.ref b6)])
  refine Go.step (fun _ k => XS.iloadN X10.here hx rfl (hb hby d2_113) rfl k) ?_
  show Go _ _ _ _ _ _ _ T10 (mkF m 114 #[.val (.ref a), .val (.int K), .val (.ref q), .val (.int (0 : Int32))] [(.int (0 : Int32)), (.ref q), (.double (0 : UInt64)), (.int (1 : Int32)), (.ref b6)])
  refine Go.daload X10 hx hZ e10 V_q_7 (j := (0 : Int32)) (v := (g 0)) (by decide) rfl (hb hby d2_114) ?_
  show Go _ _ _ _ _ _ _ T10 (mkF m 115 #[.val (.ref a), .val (.int K), .val (.ref q), .val (.int (0 : Int32))] [(.double (g 0)), (.double (0 : UInt64)), (.int (1 : Int32)), (.ref b6)])
  refine Go.step (fun _ k => XS.daddS X10.here hx rfl (hb hby d2_115) rfl (Jvm.Free.Fl.dadd_out (by first | decide +kernel | (unfold Jvm.Free.Fl.Fin64; decide +kernel) | (unfold Jvm.Free.Fl.Nz64; decide +kernel) | (unfold Jvm.Free.Fl.NoNaN64; decide +kernel) : Jvm.Free.Fl.NoNaN64 0) (hf 0 (by decide))) rfl k) ?_
  show Go _ _ _ _ _ _ _ T10 (mkF m 116 #[.val (.ref a), .val (.int K), .val (.ref q), .val (.int (0 : Int32))] [(.double (FP.dadd (0 : UInt64) (g 0))), (.int (1 : Int32)), (.ref b6)])
  refine Go.dastore X10 hx hZ e10 V_b6_7 (j := (1 : Int32)) (x := (FP.dadd (0 : UInt64) (g 0))) (by decide) (hb hby d2_116) ?_
  intro T11 h11 X11 e11 W11 Vn11
  have V_b6_11 : Dv Z h11 b6 (3 : Int32) (updN (fun _ => (0 : UInt64)) 1 (FP.dadd (0 : UInt64) (g 0))) := Vn11
  have N11 := Fr.snoc X11 N8 ge_b6
  have E_a_11 := E_a_7.wr W11
  have F_keyGroups_a_11 := F_keyGroups_a_7.other W11 (Or.inl ne_a_b6)
  have F_shares_a_11 := F_shares_a_7.other W11 (Or.inl ne_a_b6)
  have F_before_a_11 := F_before_a_7.other W11 (Or.inl ne_a_b6)
  have E_q_11 := E_q_7.wr W11
  have V_q_11 := V_q_7.other W11 ne_q_b6
  have Vc3_11 := Vc3_7.other W11 ne_b3_b6
  have Ec3_11 := Ec3_7.wr W11
  have K11 : Keep h0 h11 [a] := K7.wr W11 (Or.inr sz_b6)
  show Go _ _ _ _ _ _ _ T11 (mkF m 117 #[.val (.ref a), .val (.int K), .val (.ref q), .val (.int (0 : Int32))] [])
  refine Go.step (fun _ k => XS.iinc X11.here hx rfl (hb hby d2_117) rfl (l' := #[.val (.ref a), .val (.int K), .val (.ref q), .val (.int (1 : Int32))]) rfl k) ?_
  show Go _ _ _ _ _ _ _ T11 (mkF m 120 #[.val (.ref a), .val (.int K), .val (.ref q), .val (.int (1 : Int32))] [])
  refine Go.step (fun _ k => XS.goto X11.here hx rfl (pc0 := 120) (pc' := 60) rfl (hb hby d2_120) (by decide) (by decide) k) ?_
  show Go _ _ _ _ _ _ _ T11 (mkF m 60 #[.val (.ref a), .val (.int K), .val (.ref q), .val (.int (1 : Int32))] [])
  refine Go.step (fun _ k => XS.iloadN X11.here hx rfl (hb hby d2_60) rfl k) ?_
  show Go _ _ _ _ _ _ _ T11 (mkF m 61 #[.val (.ref a), .val (.int K), .val (.ref q), .val (.int (1 : Int32))] [(.int (1 : Int32))])
  refine Go.step (fun _ k => XS.aloadN X11.here hx rfl (hb hby d2_61) rfl rfl k) ?_
  show Go _ _ _ _ _ _ _ T11 (mkF m 62 #[.val (.ref a), .val (.int K), .val (.ref q), .val (.int (1 : Int32))] [(.ref q), (.int (1 : Int32))])
  refine Go.alen X11 hx hZ e11 V_q_11 (hb hby d2_62) ?_
  show Go _ _ _ _ _ _ _ T11 (mkF m 63 #[.val (.ref a), .val (.int K), .val (.ref q), .val (.int (1 : Int32))] [(.int (2 : Int32)), (.int (1 : Int32))])
  refine Go.step (fun _ k => XS.icmpNo X11.here hx rfl (hb hby d2_63) rfl (tlt (by decide : (1 : Int32) < (2 : Int32))).2.1 k) ?_
  show Go _ _ _ _ _ _ _ T11 (mkF m 66 #[.val (.ref a), .val (.int K), .val (.ref q), .val (.int (1 : Int32))] [])
  refine Go.step (fun _ k => XS.aloadN X11.here hx rfl (hb hby d2_66) rfl rfl k) ?_
  show Go _ _ _ _ _ _ _ T11 (mkF m 67 #[.val (.ref a), .val (.int K), .val (.ref q), .val (.int (1 : Int32))] [(.ref q)])
  refine Go.step (fun _ k => XS.iloadN X11.here hx rfl (hb hby d2_67) rfl k) ?_
  show Go _ _ _ _ _ _ _ T11 (mkF m 68 #[.val (.ref a), .val (.int K), .val (.ref q), .val (.int (1 : Int32))] [(.int (1 : Int32)), (.ref q)])
  refine Go.daload X11 hx hZ e11 V_q_11 (j := (1 : Int32)) (v := (g 1)) (by decide) rfl (hb hby d2_68) ?_
  show Go _ _ _ _ _ _ _ T11 (mkF m 69 #[.val (.ref a), .val (.int K), .val (.ref q), .val (.int (1 : Int32))] [(.double (g 1))])
  refine Go.callS X11 hx hZ (by rw [hml]; rfl) (y := (⟨"java/lang/Double", "isFinite", "(D)Z"⟩ : MethodName)) (argsL := [(.double (g 1))]) (rest := []) hown (hw _ (List.mem_of_getElem? (i := 44) rfl)) (hw _ (List.mem_of_getElem? (i := 45) rfl)) (hw _ (List.mem_of_getElem? (i := 46) rfl)) (hw _ (List.mem_of_getElem? (i := 47) rfl)) (by decide) (rm4 l Z a0 hw (g 1) h11 n0 (Nat.le_trans Z0 (K11 : Keep h0 h11 [a]).1) (hf 1 (by decide))) e11 (hb hby d2_69) (lenOf pd_1 rfl) rfl rfl (W := 0) (Nat.le_of_eq rfl) (by decide) (by decide) (by decide) (by decide) ?_
  intro v12 T12 L12 X12 Q12
  obtain ⟨rfl, N12q, hh12⟩ := Q12
  have N12 := Fr.app N11 N12q
  show Go _ _ _ _ _ _ _ T12 (mkF m 72 #[.val (.ref a), .val (.int K), .val (.ref q), .val (.int (1 : Int32))] [(.int (1 : Int32))])
  refine Go.step (fun _ k => XS.ifNo X12.here hx rfl (hb hby d2_72) rfl ((if0 _ _).trans (feq (by decide : ¬ ((1 : Int32) = (0 : Int32)))).1) k) ?_
  show Go _ _ _ _ _ _ _ T12 (mkF m 75 #[.val (.ref a), .val (.int K), .val (.ref q), .val (.int (1 : Int32))] [])
  refine Go.step (fun _ k => XS.aloadN X12.here hx rfl (hb hby d2_75) rfl rfl k) ?_
  show Go _ _ _ _ _ _ _ T12 (mkF m 76 #[.val (.ref a), .val (.int K), .val (.ref q), .val (.int (1 : Int32))] [(.ref q)])
  refine Go.step (fun _ k => XS.iloadN X12.here hx rfl (hb hby d2_76) rfl k) ?_
  show Go _ _ _ _ _ _ _ T12 (mkF m 77 #[.val (.ref a), .val (.int K), .val (.ref q), .val (.int (1 : Int32))] [(.int (1 : Int32)), (.ref q)])
  refine Go.daload X12 hx hZ hh12 V_q_11 (j := (1 : Int32)) (v := (g 1)) (by decide) rfl (hb hby d2_77) ?_
  show Go _ _ _ _ _ _ _ T12 (mkF m 78 #[.val (.ref a), .val (.int K), .val (.ref q), .val (.int (1 : Int32))] [(.double (g 1))])
  refine Go.step (fun _ k => XS.dconst0 X12.here hx rfl (hb hby d2_78) rfl k) ?_
  show Go _ _ _ _ _ _ _ T12 (mkF m 79 #[.val (.ref a), .val (.int K), .val (.ref q), .val (.int (1 : Int32))] [(.double (0 : UInt64)), (.double (g 1))])
  refine Go.step (fun _ k => XS.dcmpS X12.here hx rfl (hb hby d2_79) rfl rfl k) ?_
  show Go _ _ _ _ _ _ _ T12 (mkF m 80 #[.val (.ref a), .val (.int K), .val (.ref q), .val (.int (1 : Int32))] [(.int (cmpValue (FP.dcmp (g 1) (0 : UInt64)) .g))])
  refine Go.step (fun _ k => XS.ifYes X12.here hx rfl (pc0 := 80) (pc' := 99) rfl (hb hby d2_80) rfl (lt_n (hp 1 (by decide))) (by decide) (by decide) k) ?_
  show Go _ _ _ _ _ _ _ T12 (mkF m 99 #[.val (.ref a), .val (.int K), .val (.ref q), .val (.int (1 : Int32))] [])
  refine Go.step (fun _ k => XS.aloadN X12.here hx rfl (hb hby d2_99) rfl rfl k) ?_
  show Go _ _ _ _ _ _ _ T12 (mkF m 100 #[.val (.ref a), .val (.int K), .val (.ref q), .val (.int (1 : Int32))] [(.ref a)])
  obtain ⟨T13, X13, e13, st13⟩ := getF X12 hx hZ hown (host := "") (Or.inl (hw _ (List.mem_of_getElem? (i := 42) rfl))) Via.refl hh12 F_before_a_11 (g := (mkF m 100 #[.val (.ref a), .val (.int K), .val (.ref q), .val (.int (1 : Int32))] [(.ref a)])) rfl rfl (hb hby d2_100)
  refine Go.step st13 ?_
  show Go _ _ _ _ _ _ _ T13 (mkF m 103 #[.val (.ref a), .val (.int K), .val (.ref q), .val (.int (1 : Int32))] [(.ref b6)])
  refine Go.step (fun _ k => XS.iloadN X13.here hx rfl (hb hby d2_103) rfl k) ?_
  show Go _ _ _ _ _ _ _ T13 (mkF m 104 #[.val (.ref a), .val (.int K), .val (.ref q), .val (.int (1 : Int32))] [(.int (1 : Int32)), (.ref b6)])
  refine Go.step (fun _ k => XS.iconst X13.here hx rfl (hb hby d2_104) k) ?_
  show Go _ _ _ _ _ _ _ T13 (mkF m 105 #[.val (.ref a), .val (.int K), .val (.ref q), .val (.int (1 : Int32))] [(.int (1 : Int32)), (.int (1 : Int32)), (.ref b6)])
  refine Go.step (fun _ k => XS.iadd X13.here hx rfl (hb hby d2_105) rfl k) ?_
  show Go _ _ _ _ _ _ _ T13 (mkF m 106 #[.val (.ref a), .val (.int K), .val (.ref q), .val (.int (1 : Int32))] [(.int (2 : Int32)), (.ref b6)])
  refine Go.step (fun _ k => XS.aloadN X13.here hx rfl (hb hby d2_106) rfl rfl k) ?_
  show Go _ _ _ _ _ _ _ T13 (mkF m 107 #[.val (.ref a), .val (.int K), .val (.ref q), .val (.int (1 : Int32))] [(.ref a), (.int (2 : Int32)), (.ref b6)])
  obtain ⟨T14, X14, e14, st14⟩ := getF X13 hx hZ hown (host := "") (Or.inl (hw _ (List.mem_of_getElem? (i := 42) rfl))) Via.refl e13 F_before_a_11 (g := (mkF m 107 #[.val (.ref a), .val (.int K), .val (.ref q), .val (.int (1 : Int32))] [(.ref a), (.int (2 : Int32)), (.ref b6)])) rfl rfl (hb hby d2_107)
  refine Go.step st14 ?_
  show Go _ _ _ _ _ _ _ T14 (mkF m 110 #[.val (.ref a), .val (.int K), .val (.ref q), .val (.int (1 : Int32))] [(.ref b6), (.int (2 : Int32)), (.ref b6)])
  refine Go.step (fun _ k => XS.iloadN X14.here hx rfl (hb hby d2_110) rfl k) ?_
  show Go _ _ _ _ _ _ _ T14 (mkF m 111 #[.val (.ref a), .val (.int K), .val (.ref q), .val (.int (1 : Int32))] [(.int (1 : Int32)), (.ref b6), (.int (2 : Int32)), (.ref b6)])
  refine Go.daload X14 hx hZ e14 V_b6_11 (j := (1 : Int32)) (v := (FP.dadd (0 : UInt64) (g 0))) (by decide) rfl (hb hby d2_111) ?_
  show Go _ _ _ _ _ _ _ T14 (mkF m 112 #[.val (.ref a), .val (.int K), .val (.ref q), .val (.int (1 : Int32))] [(.double (FP.dadd (0 : UInt64) (g 0))), (.int (2 : Int32)), (.ref b6)])
  refine Go.step (fun _ k => XS.aloadN X14.here hx rfl (hb hby d2_112) rfl rfl k) ?_
  show Go _ _ _ _ _ _ _ T14 (mkF m 113 #[.val (.ref a), .val (.int K), .val (.ref q), .val (.int (1 : Int32))] [(.ref q), (.double (FP.dadd (0 : UInt64) (g 0))), (.int (2 : Int32)), (.ref b6)])
  refine Go.step (fun _ k => XS.iloadN X14.here hx rfl (hb hby d2_113) rfl k) ?_
  show Go _ _ _ _ _ _ _ T14 (mkF m 114 #[.val (.ref a), .val (.int K), .val (.ref q), .val (.int (1 : Int32))] [(.int (1 : Int32)), (.ref q), (.double (FP.dadd (0 : UInt64) (g 0))), (.int (2 : Int32)), (.ref b6)])
  refine Go.daload X14 hx hZ e14 V_q_11 (j := (1 : Int32)) (v := (g 1)) (by decide) rfl (hb hby d2_114) ?_
  show Go _ _ _ _ _ _ _ T14 (mkF m 115 #[.val (.ref a), .val (.int K), .val (.ref q), .val (.int (1 : Int32))] [(.double (g 1)), (.double (FP.dadd (0 : UInt64) (g 0))), (.int (2 : Int32)), (.ref b6)])
  refine Go.step (fun _ k => XS.daddS X14.here hx rfl (hb hby d2_115) rfl (Jvm.Free.Fl.dadd_out (Jvm.Free.Fl.dadd_out (by first | decide +kernel | (unfold Jvm.Free.Fl.Fin64; decide +kernel) | (unfold Jvm.Free.Fl.Nz64; decide +kernel) | (unfold Jvm.Free.Fl.NoNaN64; decide +kernel) : Jvm.Free.Fl.NoNaN64 0) (hf 0 (by decide))) (hf 1 (by decide))) rfl k) ?_
  show Go _ _ _ _ _ _ _ T14 (mkF m 116 #[.val (.ref a), .val (.int K), .val (.ref q), .val (.int (1 : Int32))] [(.double (FP.dadd (FP.dadd (0 : UInt64) (g 0)) (g 1))), (.int (2 : Int32)), (.ref b6)])
  refine Go.dastore X14 hx hZ e14 V_b6_11 (j := (2 : Int32)) (x := (FP.dadd (FP.dadd (0 : UInt64) (g 0)) (g 1))) (by decide) (hb hby d2_116) ?_
  intro T15 h15 X15 e15 W15 Vn15
  have V_b6_15 : Dv Z h15 b6 (3 : Int32) (updN (updN (fun _ => (0 : UInt64)) 1 (FP.dadd (0 : UInt64) (g 0))) 2 (FP.dadd (FP.dadd (0 : UInt64) (g 0)) (g 1))) := Vn15
  have N15 := Fr.snoc X15 N12 ge_b6
  have E_a_15 := E_a_11.wr W15
  have F_keyGroups_a_15 := F_keyGroups_a_11.other W15 (Or.inl ne_a_b6)
  have F_shares_a_15 := F_shares_a_11.other W15 (Or.inl ne_a_b6)
  have F_before_a_15 := F_before_a_11.other W15 (Or.inl ne_a_b6)
  have E_q_15 := E_q_11.wr W15
  have V_q_15 := V_q_11.other W15 ne_q_b6
  have Vc3_15 := Vc3_11.other W15 ne_b3_b6
  have Ec3_15 := Ec3_11.wr W15
  have K15 : Keep h0 h15 [a] := K11.wr W15 (Or.inr sz_b6)
  show Go _ _ _ _ _ _ _ T15 (mkF m 117 #[.val (.ref a), .val (.int K), .val (.ref q), .val (.int (1 : Int32))] [])
  refine Go.step (fun _ k => XS.iinc X15.here hx rfl (hb hby d2_117) rfl (l' := #[.val (.ref a), .val (.int K), .val (.ref q), .val (.int (2 : Int32))]) rfl k) ?_
  show Go _ _ _ _ _ _ _ T15 (mkF m 120 #[.val (.ref a), .val (.int K), .val (.ref q), .val (.int (2 : Int32))] [])
  refine Go.step (fun _ k => XS.goto X15.here hx rfl (pc0 := 120) (pc' := 60) rfl (hb hby d2_120) (by decide) (by decide) k) ?_
  show Go _ _ _ _ _ _ _ T15 (mkF m 60 #[.val (.ref a), .val (.int K), .val (.ref q), .val (.int (2 : Int32))] [])
  refine Go.step (fun _ k => XS.iloadN X15.here hx rfl (hb hby d2_60) rfl k) ?_
  show Go _ _ _ _ _ _ _ T15 (mkF m 61 #[.val (.ref a), .val (.int K), .val (.ref q), .val (.int (2 : Int32))] [(.int (2 : Int32))])
  refine Go.step (fun _ k => XS.aloadN X15.here hx rfl (hb hby d2_61) rfl rfl k) ?_
  show Go _ _ _ _ _ _ _ T15 (mkF m 62 #[.val (.ref a), .val (.int K), .val (.ref q), .val (.int (2 : Int32))] [(.ref q), (.int (2 : Int32))])
  refine Go.alen X15 hx hZ e15 V_q_15 (hb hby d2_62) ?_
  show Go _ _ _ _ _ _ _ T15 (mkF m 63 #[.val (.ref a), .val (.int K), .val (.ref q), .val (.int (2 : Int32))] [(.int (2 : Int32)), (.int (2 : Int32))])
  refine Go.step (fun _ k => XS.icmpYes X15.here hx rfl (pc0 := 63) (pc' := 123) rfl (hb hby d2_63) rfl (flt (by decide : ¬ ((2 : Int32) < (2 : Int32)))).2.1 (by decide) (by decide) k) ?_
  show Go _ _ _ _ _ _ _ T15 (mkF m 123 #[.val (.ref a), .val (.int K), .val (.ref q), .val (.int (2 : Int32))] [])
  refine Go.retV X15 hx hlk hret (hb hby d2_123) (by decide) (by decide) ?_
  try rw [e15]
  exact ⟨rfl, N15, K15, E_a_15, F_keyGroups_a_15, b3, b6, F_shares_a_15, F_before_a_15, Vc3_15, V_b6_15, sz_b3, sz_b6, ne_b3_b6⟩
theorem ef_rm2_2 (m : MethodId) (a : Addr) (K : Int32) (q : Addr) : entryFrame m #[(.ref a), (.int K), (.ref q)] 4 = mkF m 0 #[.val (.ref a), .val (.int K), .val (.ref q), .unset] [] := by first | (simp [entryFrame, mkF, argsToLocals, Value.category]; done) | rfl
theorem rm2_2 (l : Launch) (Z : State) (a0 : Array Value) (hw : ∀ d ∈ tables_1, d.before a0 Z = true) (a q : Addr) (K : Int32) (g : Nat → UInt64) (h0 : Heap) (n0 : Nat) (Z0 : n0 ≤ h0.size) (E_a : Exa Z h0 a "tidewatch/decision/KeyGroupCeiling") (F_keyGroups_a : Fld Z h0 a "tidewatch/decision/KeyGroupCeiling" "keyGroups" "I" (.int (0 : Int32))) (F_shares_a : Fld Z h0 a "tidewatch/decision/KeyGroupCeiling" "shares" "[D" .null) (F_before_a : Fld Z h0 a "tidewatch/decision/KeyGroupCeiling" "before" "[D" .null) (E_q : Exa Z h0 q "[D") (V_q : Dv Z h0 q (2 : Int32) g) (ge_a : n0 ≤ a) (ne_a_q : a ≠ q) (hK : ¬ K < (2 : Int32)) (hf : ∀ i, i < 2 → Jvm.Free.Fl.Fin64 (g i)) (hp : ∀ i, i < 2 → ¬ FP.dcmp (g i) (0 : UInt64) = some .lt) :
    Con l Z (⟨"tidewatch/decision/KeyGroupCeiling", "<init>", "(I[D)V"⟩ : MethodName) prog_33_method_1_code 4 none ({ frames := 2, cells := 2, slots := 5, locals := 40 } : Room) #[(.ref a), (.int K), (.ref q)] h0 (fun r h L => r = none ∧ Fr n0 L ∧ Keep h0 h [a] ∧ Exa Z h a "tidewatch/decision/KeyGroupCeiling" ∧ Fld Z h a "tidewatch/decision/KeyGroupCeiling" "keyGroups" "I" (.int K) ∧ ∃ c d : Addr, Fld Z h a "tidewatch/decision/KeyGroupCeiling" "shares" "[D" (.ref c) ∧ Fld Z h a "tidewatch/decision/KeyGroupCeiling" "before" "[D" (.ref d) ∧ Dv Z h c (2 : Int32) g ∧ Dv Z h d (3 : Int32) (updN (updN (fun _ => (0 : UInt64)) 1 (FP.dadd (0 : UInt64) (g 0))) 2 (FP.dadd (FP.dadd (0 : UInt64) (g 0)) (g 1))) ∧ h0.size ≤ c ∧ h0.size ≤ d ∧ c ≠ d) :=
  con_of (plainFor_of_name pn_2) (fun p_ e_ s_ m_ b_ meth_ c_ T_ X_ hx hZ hby hml hown hnm hret hlk e0 => Go.cast (ef_rm2_2 m_ a K q) (w2_2 a q K g X_ hx hZ hw hby hml hown hnm hret hlk e0 Z0 (Fr.nil n0) E_a F_keyGroups_a F_shares_a F_before_a E_q V_q ge_a ne_a_q hK hf hp))
set_option maxRecDepth 65536 in
set_option maxHeartbeats 40000000 in
theorem w2_3 {p : Program} {l : Launch} {e : Env} {s : State} {m : MethodId} {args : Array Value} {below : List Frame} {meth : Method} {c_ : Code} {T0 : State} {locs : List Loc} {Z : State} {a0 : Array Value} {h0 : Heap} {n0 : Nat} (a q : Addr) (K : Int32) (g : Nat → UInt64)
    (X0 : Stand p l e ({ frames := 2, cells := 2, slots := 7, locals := 40 } : Room) s m args below meth c_ T0 locs 0 0) (hx : p.tables.exec = Jvm.exec) (hZ : Z.Warmed39 s.vm) (hw : ∀ d ∈ tables_1, d.before a0 Z = true) (hby : c_.code = prog_33_method_1_code) (hml : c_.maxLocals = 4) (hown : s.vm.findClass "tidewatch/decision/KeyGroupCeiling" = some m.cls) (hnm : meth.name = "<init>") (hret : meth.sig.returnType = none) (hlk : meth.locks = false) (e0 : T0.heap = h0) (Z0 : n0 ≤ h0.size) (N0 : Fr n0 locs) (E_a : Exa Z h0 a "tidewatch/decision/KeyGroupCeiling") (F_keyGroups_a : Fld Z h0 a "tidewatch/decision/KeyGroupCeiling" "keyGroups" "I" (.int (0 : Int32))) (F_shares_a : Fld Z h0 a "tidewatch/decision/KeyGroupCeiling" "shares" "[D" .null) (F_before_a : Fld Z h0 a "tidewatch/decision/KeyGroupCeiling" "before" "[D" .null) (E_q : Exa Z h0 q "[D") (V_q : Dv Z h0 q (3 : Int32) g) (ge_a : n0 ≤ a) (ne_a_q : a ≠ q) (hK : ¬ K < (3 : Int32)) (hf : ∀ i, i < 3 → Jvm.Free.Fl.Fin64 (g i)) (hp : ∀ i, i < 3 → ¬ FP.dcmp (g i) (0 : UInt64) = some .lt) :
    Go p e below s ({ frames := 2, cells := 2, slots := 7, locals := 40 } : Room).cells ({ frames := 2, cells := 2, slots := 7, locals := 40 } : Room).slots (fun r h L => r = none ∧ Fr n0 L ∧ Keep h0 h [a] ∧ Exa Z h a "tidewatch/decision/KeyGroupCeiling" ∧ Fld Z h a "tidewatch/decision/KeyGroupCeiling" "keyGroups" "I" (.int K) ∧ ∃ c d : Addr, Fld Z h a "tidewatch/decision/KeyGroupCeiling" "shares" "[D" (.ref c) ∧ Fld Z h a "tidewatch/decision/KeyGroupCeiling" "before" "[D" (.ref d) ∧ Dv Z h c (3 : Int32) g ∧ Dv Z h d (4 : Int32) (updN (updN (updN (fun _ => (0 : UInt64)) 1 (FP.dadd (0 : UInt64) (g 0))) 2 (FP.dadd (FP.dadd (0 : UInt64) (g 0)) (g 1))) 3 (FP.dadd (FP.dadd (FP.dadd (0 : UInt64) (g 0)) (g 1)) (g 2))) ∧ h0.size ≤ c ∧ h0.size ≤ d ∧ c ≠ d) T0 (mkF m 0 #[.val (.ref a), .val (.int K), .val (.ref q), .unset] []) := by
  show Go _ _ _ _ _ _ _ T0 (mkF m 0 #[.val (.ref a), .val (.int K), .val (.ref q), .unset] [])
  refine Go.step (fun _ k => XS.aloadN X0.here hx rfl (hb hby d2_0) rfl rfl k) ?_
  show Go _ _ _ _ _ _ _ T0 (mkF m 1 #[.val (.ref a), .val (.int K), .val (.ref q), .unset] [(.ref a)])
  obtain ⟨T1, X1, e1, st1⟩ := initO X0 hx hZ hown (hw _ (List.mem_of_getElem? (i := 26) rfl)) (hw _ (List.mem_of_getElem? (i := 27) rfl)) (hw _ (List.mem_of_getElem? (i := 28) rfl)) e0 (g := (mkF m 1 #[.val (.ref a), .val (.int K), .val (.ref q), .unset] [(.ref a)])) rfl (by rw [hml]; rfl) rfl (hb hby d2_1) (by decide) (W := 0) (by show 2 * 0 + _ ≤ _; exact Nat.le_of_eq rfl) (by decide)
  refine Go.step st1 ?_
  show Go _ _ _ _ _ _ _ T1 (mkF m 4 #[.val (.ref a), .val (.int K), .val (.ref q), .unset] [])
  refine Go.step (fun _ k => XS.aloadN X1.here hx rfl (hb hby d2_4) rfl rfl k) ?_
  show Go _ _ _ _ _ _ _ T1 (mkF m 5 #[.val (.ref a), .val (.int K), .val (.ref q), .unset] [(.ref q)])
  refine Go.alen X1 hx hZ e1 V_q (hb hby d2_5) ?_
  show Go _ _ _ _ _ _ _ T1 (mkF m 6 #[.val (.ref a), .val (.int K), .val (.ref q), .unset] [(.int (3 : Int32))])
  refine Go.step (fun _ k => XS.iconst X1.here hx rfl (hb hby d2_6) k) ?_
  show Go _ _ _ _ _ _ _ T1 (mkF m 7 #[.val (.ref a), .val (.int K), .val (.ref q), .unset] [(.int (1 : Int32)), (.int (3 : Int32))])
  refine Go.step (fun _ k => XS.icmpNo X1.here hx rfl (hb hby d2_7) rfl (flt (by decide : ¬ ((3 : Int32) < (1 : Int32)))).1 k) ?_
  show Go _ _ _ _ _ _ _ T1 (mkF m 10 #[.val (.ref a), .val (.int K), .val (.ref q), .unset] [])
  refine Go.step (fun _ k => XS.aloadN X1.here hx rfl (hb hby d2_10) rfl rfl k) ?_
  show Go _ _ _ _ _ _ _ T1 (mkF m 11 #[.val (.ref a), .val (.int K), .val (.ref q), .unset] [(.ref q)])
  refine Go.alen X1 hx hZ e1 V_q (hb hby d2_11) ?_
  show Go _ _ _ _ _ _ _ T1 (mkF m 12 #[.val (.ref a), .val (.int K), .val (.ref q), .unset] [(.int (3 : Int32))])
  refine Go.step (fun _ k => XS.iloadN X1.here hx rfl (hb hby d2_12) rfl k) ?_
  show Go _ _ _ _ _ _ _ T1 (mkF m 13 #[.val (.ref a), .val (.int K), .val (.ref q), .unset] [(.int K), (.int (3 : Int32))])
  refine Go.step (fun _ k => XS.icmpYes X1.here hx rfl (pc0 := 13) (pc' := 32) rfl (hb hby d2_13) rfl (flt hK).2.2.2 (by decide) (by decide) k) ?_
  show Go _ _ _ _ _ _ _ T1 (mkF m 32 #[.val (.ref a), .val (.int K), .val (.ref q), .unset] [])
  refine Go.step (fun _ k => XS.aloadN X1.here hx rfl (hb hby d2_32) rfl rfl k) ?_
  show Go _ _ _ _ _ _ _ T1 (mkF m 33 #[.val (.ref a), .val (.int K), .val (.ref q), .unset] [(.ref a)])
  refine Go.step (fun _ k => XS.iloadN X1.here hx rfl (hb hby d2_33) rfl k) ?_
  show Go _ _ _ _ _ _ _ T1 (mkF m 34 #[.val (.ref a), .val (.int K), .val (.ref q), .unset] [(.int K), (.ref a)])
  obtain ⟨T2, h2, X2, e2, W2, st2⟩ := putF X1 hx hZ hown (host := "") (Or.inl (hw _ (List.mem_of_getElem? (i := 29) rfl))) Via.refl e1 F_keyGroups_a E_a (Or.inr ⟨(hw _ (List.mem_of_getElem? (i := 30) rfl)), rfl, hnm⟩) (hw _ (List.mem_of_getElem? (i := 21) rfl)) (ty := .int) (by decide) rfl rfl (g := (mkF m 34 #[.val (.ref a), .val (.int K), .val (.ref q), .unset] [(.int K), (.ref a)])) rfl rfl (hb hby d2_34)
  refine Go.step st2 ?_
  have N2 := Fr.snoc X2 N0 ge_a
  have F_keyGroups_a_2 := F_keyGroups_a.same W2
  have E_a_2 := E_a.wr W2
  have F_shares_a_2 := F_shares_a.other W2 (Or.inr (slot_ne (Or.inr (hw _ (List.mem_of_getElem? (i := 41) rfl))) (Or.inr (hw _ (List.mem_of_getElem? (i := 30) rfl))) (by decide) (t := (.array .double)) (t' := .int) (by decide) (by decide)))
  have F_before_a_2 := F_before_a.other W2 (Or.inr (slot_ne (Or.inr (hw _ (List.mem_of_getElem? (i := 43) rfl))) (Or.inr (hw _ (List.mem_of_getElem? (i := 30) rfl))) (by decide) (t := (.array .double)) (t' := .int) (by decide) (by decide)))
  have E_q_2 := E_q.wr W2
  have V_q_2 := V_q.other W2 (Ne.symm ne_a_q)
  have K2 : Keep h0 h2 [a] := (Keep.refl h0 [a]).wr W2 (Or.inl (List.mem_of_getElem? (i := 0) rfl))
  show Go _ _ _ _ _ _ _ T2 (mkF m 37 #[.val (.ref a), .val (.int K), .val (.ref q), .unset] [])
  refine Go.step (fun _ k => XS.aloadN X2.here hx rfl (hb hby d2_37) rfl rfl k) ?_
  show Go _ _ _ _ _ _ _ T2 (mkF m 38 #[.val (.ref a), .val (.int K), .val (.ref q), .unset] [(.ref a)])
  refine Go.step (fun _ k => XS.aloadN X2.here hx rfl (hb hby d2_38) rfl rfl k) ?_
  show Go _ _ _ _ _ _ _ T2 (mkF m 39 #[.val (.ref a), .val (.int K), .val (.ref q), .unset] [(.ref q), (.ref a)])
  refine Go.clone X2 hx hZ (by rw [hml]; rfl) hown (hw _ (List.mem_of_getElem? (i := 31) rfl)) (hw _ (List.mem_of_getElem? (i := 32) rfl)) (hw _ (List.mem_of_getElem? (i := 36) rfl)) (hw _ (List.mem_of_getElem? (i := 34) rfl)) (hw _ (List.mem_of_getElem? (i := 35) rfl)) (hw _ (List.mem_of_getElem? (i := 37) rfl)) e2 V_q_2 E_q_2 (hb hby d2_39) (by decide) (W := 1) (Nat.le_of_eq rfl) (by decide) (cap := 3) (by decide) (by decide) (by decide) ?_
  intro T3 h3 b3 g3 X3 e3 E3 Vc3 Ec3
  have K3 : Keep h0 h3 [a] := K2.ext E3
  have sz_b3 : h0.size ≤ b3 := Nat.le_trans (K2 : Keep h0 h2 [a]).1 (Nat.le_of_eq g3.symm)
  have ge_b3 : n0 ≤ b3 := Nat.le_trans Z0 sz_b3
  have ne_a_b3 : a ≠ b3 := Nat.ne_of_lt (Nat.lt_of_lt_of_le E_a_2.lt (Nat.le_of_eq g3.symm))
  have ne_q_b3 : q ≠ b3 := Nat.ne_of_lt (Nat.lt_of_lt_of_le E_q_2.lt (Nat.le_of_eq g3.symm))
  have E_a_3 := E_a_2.ext E3
  have F_keyGroups_a_3 := F_keyGroups_a_2.ext E3
  have F_shares_a_3 := F_shares_a_2.ext E3
  have F_before_a_3 := F_before_a_2.ext E3
  have E_q_3 := E_q_2.ext E3
  have V_q_3 := V_q_2.ext E3
  show Go _ _ _ _ _ _ _ T3 (mkF m 42 #[.val (.ref a), .val (.int K), .val (.ref q), .unset] [(.ref b3), (.ref a)])
  obtain ⟨T4, X4, e4, st4⟩ := castY X3 hx hZ hown (hw _ (List.mem_of_getElem? (i := 38) rfl)) e3 (Ins.self Ec3) (g := (mkF m 42 #[.val (.ref a), .val (.int K), .val (.ref q), .unset] [(.ref b3), (.ref a)])) rfl rfl (hb hby d2_42)
  refine Go.step st4 ?_
  show Go _ _ _ _ _ _ _ T4 (mkF m 45 #[.val (.ref a), .val (.int K), .val (.ref q), .unset] [(.ref b3), (.ref a)])
  obtain ⟨T5, h5, X5, e5, W5, st5⟩ := putF X4 hx hZ hown (host := "") (Or.inl (hw _ (List.mem_of_getElem? (i := 40) rfl))) Via.refl e4 F_shares_a_3 E_a_3 (Or.inr ⟨(hw _ (List.mem_of_getElem? (i := 41) rfl)), rfl, hnm⟩) (hw _ (List.mem_of_getElem? (i := 21) rfl)) (ty := (.array .double)) (by decide) rfl rfl (g := (mkF m 45 #[.val (.ref a), .val (.int K), .val (.ref q), .unset] [(.ref b3), (.ref a)])) rfl rfl (hb hby d2_45)
  refine Go.step st5 ?_
  have N5 := Fr.snoc X5 N2 ge_a
  have F_shares_a_5 := F_shares_a_3.same W5
  have E_a_5 := E_a_3.wr W5
  have F_keyGroups_a_5 := F_keyGroups_a_3.other W5 (Or.inr (slot_ne (Or.inr (hw _ (List.mem_of_getElem? (i := 30) rfl))) (Or.inr (hw _ (List.mem_of_getElem? (i := 41) rfl))) (by decide) (t := .int) (t' := (.array .double)) (by decide) (by decide)))
  have F_before_a_5 := F_before_a_3.other W5 (Or.inr (slot_ne (Or.inr (hw _ (List.mem_of_getElem? (i := 43) rfl))) (Or.inr (hw _ (List.mem_of_getElem? (i := 41) rfl))) (by decide) (t := (.array .double)) (t' := (.array .double)) (by decide) (by decide)))
  have E_q_5 := E_q_3.wr W5
  have V_q_5 := V_q_3.other W5 (Ne.symm ne_a_q)
  have Vc3_5 := Vc3.other W5 (Ne.symm ne_a_b3)
  have Ec3_5 := Ec3.wr W5
  have K5 : Keep h0 h5 [a] := K3.wr W5 (Or.inl (List.mem_of_getElem? (i := 0) rfl))
  show Go _ _ _ _ _ _ _ T5 (mkF m 48 #[.val (.ref a), .val (.int K), .val (.ref q), .unset] [])
  refine Go.step (fun _ k => XS.aloadN X5.here hx rfl (hb hby d2_48) rfl rfl k) ?_
  show Go _ _ _ _ _ _ _ T5 (mkF m 49 #[.val (.ref a), .val (.int K), .val (.ref q), .unset] [(.ref a)])
  refine Go.step (fun _ k => XS.aloadN X5.here hx rfl (hb hby d2_49) rfl rfl k) ?_
  show Go _ _ _ _ _ _ _ T5 (mkF m 50 #[.val (.ref a), .val (.int K), .val (.ref q), .unset] [(.ref q), (.ref a)])
  refine Go.alen X5 hx hZ e5 V_q_5 (hb hby d2_50) ?_
  show Go _ _ _ _ _ _ _ T5 (mkF m 51 #[.val (.ref a), .val (.int K), .val (.ref q), .unset] [(.int (3 : Int32)), (.ref a)])
  refine Go.step (fun _ k => XS.iconst X5.here hx rfl (hb hby d2_51) k) ?_
  show Go _ _ _ _ _ _ _ T5 (mkF m 52 #[.val (.ref a), .val (.int K), .val (.ref q), .unset] [(.int (1 : Int32)), (.int (3 : Int32)), (.ref a)])
  refine Go.step (fun _ k => XS.iadd X5.here hx rfl (hb hby d2_52) rfl k) ?_
  show Go _ _ _ _ _ _ _ T5 (mkF m 53 #[.val (.ref a), .val (.int K), .val (.ref q), .unset] [(.int (4 : Int32)), (.ref a)])
  obtain ⟨T6, h6, k6, X6, e6, E6, A6, st6⟩ := newP X5 hx hZ (hw _ (List.mem_of_getElem? (i := 5) rfl)) e5 (g := (mkF m 53 #[.val (.ref a), .val (.int K), .val (.ref q), .unset] [(.int (4 : Int32)), (.ref a)])) rfl (hb hby d2_53) rfl (by decide) (cap := 4) (by decide) (by decide) (by decide) (by decide)
  obtain ⟨b6, g6⟩ : ∃ z, z = h5.size := ⟨_, rfl⟩
  rw [← g6] at A6 st6
  refine Go.step st6 ?_
  have K6 : Keep h0 h6 [a] := K5.ext E6
  have sz_b6 : h0.size ≤ b6 := Nat.le_trans (K5 : Keep h0 h5 [a]).1 (Nat.le_of_eq g6.symm)
  have ge_b6 : n0 ≤ b6 := Nat.le_trans Z0 sz_b6
  have ne_a_b6 : a ≠ b6 := Nat.ne_of_lt (Nat.lt_of_lt_of_le E_a_5.lt (Nat.le_of_eq g6.symm))
  have ne_q_b6 : q ≠ b6 := Nat.ne_of_lt (Nat.lt_of_lt_of_le E_q_5.lt (Nat.le_of_eq g6.symm))
  have ne_b3_b6 : b3 ≠ b6 := Nat.ne_of_lt (Nat.lt_of_lt_of_le Vc3_5.lt (Nat.le_of_eq g6.symm))
  have E_a_6 := E_a_5.ext E6
  have F_keyGroups_a_6 := F_keyGroups_a_5.ext E6
  have F_shares_a_6 := F_shares_a_5.ext E6
  have F_before_a_6 := F_before_a_5.ext E6
  have E_q_6 := E_q_5.ext E6
  have V_q_6 := V_q_5.ext E6
  have Vc3_6 := Vc3_5.ext E6
  have Ec3_6 := Ec3_5.ext E6
  have V_b6 : Dv Z h6 b6 (4 : Int32) (fun _ => (0 : UInt64)) := Fv.new A6 (by decide)
  show Go _ _ _ _ _ _ _ T6 (mkF m 55 #[.val (.ref a), .val (.int K), .val (.ref q), .unset] [(.ref b6), (.ref a)])
  obtain ⟨T7, h7, X7, e7, W7, st7⟩ := putF X6 hx hZ hown (host := "") (Or.inl (hw _ (List.mem_of_getElem? (i := 42) rfl))) Via.refl e6 F_before_a_6 E_a_6 (Or.inr ⟨(hw _ (List.mem_of_getElem? (i := 43) rfl)), rfl, hnm⟩) (hw _ (List.mem_of_getElem? (i := 21) rfl)) (ty := (.array .double)) (by decide) rfl rfl (g := (mkF m 55 #[.val (.ref a), .val (.int K), .val (.ref q), .unset] [(.ref b6), (.ref a)])) rfl rfl (hb hby d2_55)
  refine Go.step st7 ?_
  have N7 := Fr.snoc X7 N5 ge_a
  have F_before_a_7 := F_before_a_6.same W7
  have E_a_7 := E_a_6.wr W7
  have F_keyGroups_a_7 := F_keyGroups_a_6.other W7 (Or.inr (slot_ne (Or.inr (hw _ (List.mem_of_getElem? (i := 30) rfl))) (Or.inr (hw _ (List.mem_of_getElem? (i := 43) rfl))) (by decide) (t := .int) (t' := (.array .double)) (by decide) (by decide)))
  have F_shares_a_7 := F_shares_a_6.other W7 (Or.inr (slot_ne (Or.inr (hw _ (List.mem_of_getElem? (i := 41) rfl))) (Or.inr (hw _ (List.mem_of_getElem? (i := 43) rfl))) (by decide) (t := (.array .double)) (t' := (.array .double)) (by decide) (by decide)))
  have E_q_7 := E_q_6.wr W7
  have V_q_7 := V_q_6.other W7 (Ne.symm ne_a_q)
  have Vc3_7 := Vc3_6.other W7 (Ne.symm ne_a_b3)
  have Ec3_7 := Ec3_6.wr W7
  have V_b6_7 := V_b6.other W7 (Ne.symm ne_a_b6)
  have K7 : Keep h0 h7 [a] := K6.wr W7 (Or.inl (List.mem_of_getElem? (i := 0) rfl))
  show Go _ _ _ _ _ _ _ T7 (mkF m 58 #[.val (.ref a), .val (.int K), .val (.ref q), .unset] [])
  refine Go.step (fun _ k => XS.iconst X7.here hx rfl (hb hby d2_58) k) ?_
  show Go _ _ _ _ _ _ _ T7 (mkF m 59 #[.val (.ref a), .val (.int K), .val (.ref q), .unset] [(.int (0 : Int32))])
  refine Go.step (fun _ k => XS.istoreN X7.here hx rfl (hb hby d2_59) rfl (l' := #[.val (.ref a), .val (.int K), .val (.ref q), .val (.int (0 : Int32))]) rfl k) ?_
  show Go _ _ _ _ _ _ _ T7 (mkF m 60 #[.val (.ref a), .val (.int K), .val (.ref q), .val (.int (0 : Int32))] [])
  refine Go.step (fun _ k => XS.iloadN X7.here hx rfl (hb hby d2_60) rfl k) ?_
  show Go _ _ _ _ _ _ _ T7 (mkF m 61 #[.val (.ref a), .val (.int K), .val (.ref q), .val (.int (0 : Int32))] [(.int (0 : Int32))])
  refine Go.step (fun _ k => XS.aloadN X7.here hx rfl (hb hby d2_61) rfl rfl k) ?_
  show Go _ _ _ _ _ _ _ T7 (mkF m 62 #[.val (.ref a), .val (.int K), .val (.ref q), .val (.int (0 : Int32))] [(.ref q), (.int (0 : Int32))])
  refine Go.alen X7 hx hZ e7 V_q_7 (hb hby d2_62) ?_
  show Go _ _ _ _ _ _ _ T7 (mkF m 63 #[.val (.ref a), .val (.int K), .val (.ref q), .val (.int (0 : Int32))] [(.int (3 : Int32)), (.int (0 : Int32))])
  refine Go.step (fun _ k => XS.icmpNo X7.here hx rfl (hb hby d2_63) rfl (tlt (by decide : (0 : Int32) < (3 : Int32))).2.1 k) ?_
  show Go _ _ _ _ _ _ _ T7 (mkF m 66 #[.val (.ref a), .val (.int K), .val (.ref q), .val (.int (0 : Int32))] [])
  refine Go.step (fun _ k => XS.aloadN X7.here hx rfl (hb hby d2_66) rfl rfl k) ?_
  show Go _ _ _ _ _ _ _ T7 (mkF m 67 #[.val (.ref a), .val (.int K), .val (.ref q), .val (.int (0 : Int32))] [(.ref q)])
  refine Go.step (fun _ k => XS.iloadN X7.here hx rfl (hb hby d2_67) rfl k) ?_
  show Go _ _ _ _ _ _ _ T7 (mkF m 68 #[.val (.ref a), .val (.int K), .val (.ref q), .val (.int (0 : Int32))] [(.int (0 : Int32)), (.ref q)])
  refine Go.daload X7 hx hZ e7 V_q_7 (j := (0 : Int32)) (v := (g 0)) (by decide) rfl (hb hby d2_68) ?_
  show Go _ _ _ _ _ _ _ T7 (mkF m 69 #[.val (.ref a), .val (.int K), .val (.ref q), .val (.int (0 : Int32))] [(.double (g 0))])
  refine Go.callS X7 hx hZ (by rw [hml]; rfl) (y := (⟨"java/lang/Double", "isFinite", "(D)Z"⟩ : MethodName)) (argsL := [(.double (g 0))]) (rest := []) hown (hw _ (List.mem_of_getElem? (i := 44) rfl)) (hw _ (List.mem_of_getElem? (i := 45) rfl)) (hw _ (List.mem_of_getElem? (i := 46) rfl)) (hw _ (List.mem_of_getElem? (i := 47) rfl)) (by decide) (rm4 l Z a0 hw (g 0) h7 n0 (Nat.le_trans Z0 (K7 : Keep h0 h7 [a]).1) (hf 0 (by decide))) e7 (hb hby d2_69) (lenOf pd_1 rfl) rfl rfl (W := 0) (Nat.le_of_eq rfl) (by decide) (by decide) (by decide) (by decide) ?_
  intro v8 T8 L8 X8 Q8
  obtain ⟨rfl, N8q, hh8⟩ := Q8
  have N8 := Fr.app N7 N8q
  show Go _ _ _ _ _ _ _ T8 (mkF m 72 #[.val (.ref a), .val (.int K), .val (.ref q), .val (.int (0 : Int32))] [(.int (1 : Int32))])
  refine Go.step (fun _ k => XS.ifNo X8.here hx rfl (hb hby d2_72) rfl ((if0 _ _).trans (feq (by decide : ¬ ((1 : Int32) = (0 : Int32)))).1) k) ?_
  show Go _ _ _ _ _ _ _ T8 (mkF m 75 #[.val (.ref a), .val (.int K), .val (.ref q), .val (.int (0 : Int32))] [])
  refine Go.step (fun _ k => XS.aloadN X8.here hx rfl (hb hby d2_75) rfl rfl k) ?_
  show Go _ _ _ _ _ _ _ T8 (mkF m 76 #[.val (.ref a), .val (.int K), .val (.ref q), .val (.int (0 : Int32))] [(.ref q)])
  refine Go.step (fun _ k => XS.iloadN X8.here hx rfl (hb hby d2_76) rfl k) ?_
  show Go _ _ _ _ _ _ _ T8 (mkF m 77 #[.val (.ref a), .val (.int K), .val (.ref q), .val (.int (0 : Int32))] [(.int (0 : Int32)), (.ref q)])
  refine Go.daload X8 hx hZ hh8 V_q_7 (j := (0 : Int32)) (v := (g 0)) (by decide) rfl (hb hby d2_77) ?_
  show Go _ _ _ _ _ _ _ T8 (mkF m 78 #[.val (.ref a), .val (.int K), .val (.ref q), .val (.int (0 : Int32))] [(.double (g 0))])
  refine Go.step (fun _ k => XS.dconst0 X8.here hx rfl (hb hby d2_78) rfl k) ?_
  show Go _ _ _ _ _ _ _ T8 (mkF m 79 #[.val (.ref a), .val (.int K), .val (.ref q), .val (.int (0 : Int32))] [(.double (0 : UInt64)), (.double (g 0))])
  refine Go.step (fun _ k => XS.dcmpS X8.here hx rfl (hb hby d2_79) rfl rfl k) ?_
  show Go _ _ _ _ _ _ _ T8 (mkF m 80 #[.val (.ref a), .val (.int K), .val (.ref q), .val (.int (0 : Int32))] [(.int (cmpValue (FP.dcmp (g 0) (0 : UInt64)) .g))])
  refine Go.step (fun _ k => XS.ifYes X8.here hx rfl (pc0 := 80) (pc' := 99) rfl (hb hby d2_80) rfl (lt_n (hp 0 (by decide))) (by decide) (by decide) k) ?_
  show Go _ _ _ _ _ _ _ T8 (mkF m 99 #[.val (.ref a), .val (.int K), .val (.ref q), .val (.int (0 : Int32))] [])
  refine Go.step (fun _ k => XS.aloadN X8.here hx rfl (hb hby d2_99) rfl rfl k) ?_
  show Go _ _ _ _ _ _ _ T8 (mkF m 100 #[.val (.ref a), .val (.int K), .val (.ref q), .val (.int (0 : Int32))] [(.ref a)])
  obtain ⟨T9, X9, e9, st9⟩ := getF X8 hx hZ hown (host := "") (Or.inl (hw _ (List.mem_of_getElem? (i := 42) rfl))) Via.refl hh8 F_before_a_7 (g := (mkF m 100 #[.val (.ref a), .val (.int K), .val (.ref q), .val (.int (0 : Int32))] [(.ref a)])) rfl rfl (hb hby d2_100)
  refine Go.step st9 ?_
  show Go _ _ _ _ _ _ _ T9 (mkF m 103 #[.val (.ref a), .val (.int K), .val (.ref q), .val (.int (0 : Int32))] [(.ref b6)])
  refine Go.step (fun _ k => XS.iloadN X9.here hx rfl (hb hby d2_103) rfl k) ?_
  show Go _ _ _ _ _ _ _ T9 (mkF m 104 #[.val (.ref a), .val (.int K), .val (.ref q), .val (.int (0 : Int32))] [(.int (0 : Int32)), (.ref b6)])
  refine Go.step (fun _ k => XS.iconst X9.here hx rfl (hb hby d2_104) k) ?_
  show Go _ _ _ _ _ _ _ T9 (mkF m 105 #[.val (.ref a), .val (.int K), .val (.ref q), .val (.int (0 : Int32))] [(.int (1 : Int32)), (.int (0 : Int32)), (.ref b6)])
  refine Go.step (fun _ k => XS.iadd X9.here hx rfl (hb hby d2_105) rfl k) ?_
  show Go _ _ _ _ _ _ _ T9 (mkF m 106 #[.val (.ref a), .val (.int K), .val (.ref q), .val (.int (0 : Int32))] [(.int (1 : Int32)), (.ref b6)])
  refine Go.step (fun _ k => XS.aloadN X9.here hx rfl (hb hby d2_106) rfl rfl k) ?_
  show Go _ _ _ _ _ _ _ T9 (mkF m 107 #[.val (.ref a), .val (.int K), .val (.ref q), .val (.int (0 : Int32))] [(.ref a), (.int (1 : Int32)), (.ref b6)])
  obtain ⟨T10, X10, e10, st10⟩ := getF X9 hx hZ hown (host := "") (Or.inl (hw _ (List.mem_of_getElem? (i := 42) rfl))) Via.refl e9 F_before_a_7 (g := (mkF m 107 #[.val (.ref a), .val (.int K), .val (.ref q), .val (.int (0 : Int32))] [(.ref a), (.int (1 : Int32)), (.ref b6)])) rfl rfl (hb hby d2_107)
  refine Go.step st10 ?_
  show Go _ _ _ _ _ _ _ T10 (mkF m 110 #[.val (.ref a), .val (.int K), .val (.ref q), .val (.int (0 : Int32))] [(.ref b6), (.int (1 : Int32)), (.ref b6)])
  refine Go.step (fun _ k => XS.iloadN X10.here hx rfl (hb hby d2_110) rfl k) ?_
  show Go _ _ _ _ _ _ _ T10 (mkF m 111 #[.val (.ref a), .val (.int K), .val (.ref q), .val (.int (0 : Int32))] [(.int (0 : Int32)), (.ref b6), (.int (1 : Int32)), (.ref b6)])
  refine Go.daload X10 hx hZ e10 V_b6_7 (j := (0 : Int32)) (v := (0 : UInt64)) (by decide) rfl (hb hby d2_111) ?_
  show Go _ _ _ _ _ _ _ T10 (mkF m 112 #[.val (.ref a), .val (.int K), .val (.ref q), .val (.int (0 : Int32))] [(.double (0 : UInt64)), (.int (1 : Int32)), (.ref b6)])
  refine Go.step (fun _ k => XS.aloadN X10.here hx rfl (hb hby d2_112) rfl rfl k) ?_
  show Go _ _ _ _ _ _ _ T10 (mkF m 113 #[.val (.ref a), .val (.int K), .val (.ref q), .val (.int (0 : Int32))] [(.ref q), (.double (0 : UInt64)), (.int (1 : Int32)), (.ref b6)])
  refine Go.step (fun _ k => XS.iloadN X10.here hx rfl (hb hby d2_113) rfl k) ?_
  show Go _ _ _ _ _ _ _ T10 (mkF m 114 #[.val (.ref a), .val (.int K), .val (.ref q), .val (.int (0 : Int32))] [(.int (0 : Int32)), (.ref q), (.double (0 : UInt64)), (.int (1 : Int32)), (.ref b6)])
  refine Go.daload X10 hx hZ e10 V_q_7 (j := (0 : Int32)) (v := (g 0)) (by decide) rfl (hb hby d2_114) ?_
  show Go _ _ _ _ _ _ _ T10 (mkF m 115 #[.val (.ref a), .val (.int K), .val (.ref q), .val (.int (0 : Int32))] [(.double (g 0)), (.double (0 : UInt64)), (.int (1 : Int32)), (.ref b6)])
  refine Go.step (fun _ k => XS.daddS X10.here hx rfl (hb hby d2_115) rfl (Jvm.Free.Fl.dadd_out (by first | decide +kernel | (unfold Jvm.Free.Fl.Fin64; decide +kernel) | (unfold Jvm.Free.Fl.Nz64; decide +kernel) | (unfold Jvm.Free.Fl.NoNaN64; decide +kernel) : Jvm.Free.Fl.NoNaN64 0) (hf 0 (by decide))) rfl k) ?_
  show Go _ _ _ _ _ _ _ T10 (mkF m 116 #[.val (.ref a), .val (.int K), .val (.ref q), .val (.int (0 : Int32))] [(.double (FP.dadd (0 : UInt64) (g 0))), (.int (1 : Int32)), (.ref b6)])
  refine Go.dastore X10 hx hZ e10 V_b6_7 (j := (1 : Int32)) (x := (FP.dadd (0 : UInt64) (g 0))) (by decide) (hb hby d2_116) ?_
  intro T11 h11 X11 e11 W11 Vn11
  have V_b6_11 : Dv Z h11 b6 (4 : Int32) (updN (fun _ => (0 : UInt64)) 1 (FP.dadd (0 : UInt64) (g 0))) := Vn11
  have N11 := Fr.snoc X11 N8 ge_b6
  have E_a_11 := E_a_7.wr W11
  have F_keyGroups_a_11 := F_keyGroups_a_7.other W11 (Or.inl ne_a_b6)
  have F_shares_a_11 := F_shares_a_7.other W11 (Or.inl ne_a_b6)
  have F_before_a_11 := F_before_a_7.other W11 (Or.inl ne_a_b6)
  have E_q_11 := E_q_7.wr W11
  have V_q_11 := V_q_7.other W11 ne_q_b6
  have Vc3_11 := Vc3_7.other W11 ne_b3_b6
  have Ec3_11 := Ec3_7.wr W11
  have K11 : Keep h0 h11 [a] := K7.wr W11 (Or.inr sz_b6)
  show Go _ _ _ _ _ _ _ T11 (mkF m 117 #[.val (.ref a), .val (.int K), .val (.ref q), .val (.int (0 : Int32))] [])
  refine Go.step (fun _ k => XS.iinc X11.here hx rfl (hb hby d2_117) rfl (l' := #[.val (.ref a), .val (.int K), .val (.ref q), .val (.int (1 : Int32))]) rfl k) ?_
  show Go _ _ _ _ _ _ _ T11 (mkF m 120 #[.val (.ref a), .val (.int K), .val (.ref q), .val (.int (1 : Int32))] [])
  refine Go.step (fun _ k => XS.goto X11.here hx rfl (pc0 := 120) (pc' := 60) rfl (hb hby d2_120) (by decide) (by decide) k) ?_
  show Go _ _ _ _ _ _ _ T11 (mkF m 60 #[.val (.ref a), .val (.int K), .val (.ref q), .val (.int (1 : Int32))] [])
  refine Go.step (fun _ k => XS.iloadN X11.here hx rfl (hb hby d2_60) rfl k) ?_
  show Go _ _ _ _ _ _ _ T11 (mkF m 61 #[.val (.ref a), .val (.int K), .val (.ref q), .val (.int (1 : Int32))] [(.int (1 : Int32))])
  refine Go.step (fun _ k => XS.aloadN X11.here hx rfl (hb hby d2_61) rfl rfl k) ?_
  show Go _ _ _ _ _ _ _ T11 (mkF m 62 #[.val (.ref a), .val (.int K), .val (.ref q), .val (.int (1 : Int32))] [(.ref q), (.int (1 : Int32))])
  refine Go.alen X11 hx hZ e11 V_q_11 (hb hby d2_62) ?_
  show Go _ _ _ _ _ _ _ T11 (mkF m 63 #[.val (.ref a), .val (.int K), .val (.ref q), .val (.int (1 : Int32))] [(.int (3 : Int32)), (.int (1 : Int32))])
  refine Go.step (fun _ k => XS.icmpNo X11.here hx rfl (hb hby d2_63) rfl (tlt (by decide : (1 : Int32) < (3 : Int32))).2.1 k) ?_
  show Go _ _ _ _ _ _ _ T11 (mkF m 66 #[.val (.ref a), .val (.int K), .val (.ref q), .val (.int (1 : Int32))] [])
  refine Go.step (fun _ k => XS.aloadN X11.here hx rfl (hb hby d2_66) rfl rfl k) ?_
  show Go _ _ _ _ _ _ _ T11 (mkF m 67 #[.val (.ref a), .val (.int K), .val (.ref q), .val (.int (1 : Int32))] [(.ref q)])
  refine Go.step (fun _ k => XS.iloadN X11.here hx rfl (hb hby d2_67) rfl k) ?_
  show Go _ _ _ _ _ _ _ T11 (mkF m 68 #[.val (.ref a), .val (.int K), .val (.ref q), .val (.int (1 : Int32))] [(.int (1 : Int32)), (.ref q)])
  refine Go.daload X11 hx hZ e11 V_q_11 (j := (1 : Int32)) (v := (g 1)) (by decide) rfl (hb hby d2_68) ?_
  show Go _ _ _ _ _ _ _ T11 (mkF m 69 #[.val (.ref a), .val (.int K), .val (.ref q), .val (.int (1 : Int32))] [(.double (g 1))])
  refine Go.callS X11 hx hZ (by rw [hml]; rfl) (y := (⟨"java/lang/Double", "isFinite", "(D)Z"⟩ : MethodName)) (argsL := [(.double (g 1))]) (rest := []) hown (hw _ (List.mem_of_getElem? (i := 44) rfl)) (hw _ (List.mem_of_getElem? (i := 45) rfl)) (hw _ (List.mem_of_getElem? (i := 46) rfl)) (hw _ (List.mem_of_getElem? (i := 47) rfl)) (by decide) (rm4 l Z a0 hw (g 1) h11 n0 (Nat.le_trans Z0 (K11 : Keep h0 h11 [a]).1) (hf 1 (by decide))) e11 (hb hby d2_69) (lenOf pd_1 rfl) rfl rfl (W := 0) (Nat.le_of_eq rfl) (by decide) (by decide) (by decide) (by decide) ?_
  intro v12 T12 L12 X12 Q12
  obtain ⟨rfl, N12q, hh12⟩ := Q12
  have N12 := Fr.app N11 N12q
  show Go _ _ _ _ _ _ _ T12 (mkF m 72 #[.val (.ref a), .val (.int K), .val (.ref q), .val (.int (1 : Int32))] [(.int (1 : Int32))])
  refine Go.step (fun _ k => XS.ifNo X12.here hx rfl (hb hby d2_72) rfl ((if0 _ _).trans (feq (by decide : ¬ ((1 : Int32) = (0 : Int32)))).1) k) ?_
  show Go _ _ _ _ _ _ _ T12 (mkF m 75 #[.val (.ref a), .val (.int K), .val (.ref q), .val (.int (1 : Int32))] [])
  refine Go.step (fun _ k => XS.aloadN X12.here hx rfl (hb hby d2_75) rfl rfl k) ?_
  show Go _ _ _ _ _ _ _ T12 (mkF m 76 #[.val (.ref a), .val (.int K), .val (.ref q), .val (.int (1 : Int32))] [(.ref q)])
  refine Go.step (fun _ k => XS.iloadN X12.here hx rfl (hb hby d2_76) rfl k) ?_
  show Go _ _ _ _ _ _ _ T12 (mkF m 77 #[.val (.ref a), .val (.int K), .val (.ref q), .val (.int (1 : Int32))] [(.int (1 : Int32)), (.ref q)])
  refine Go.daload X12 hx hZ hh12 V_q_11 (j := (1 : Int32)) (v := (g 1)) (by decide) rfl (hb hby d2_77) ?_
  show Go _ _ _ _ _ _ _ T12 (mkF m 78 #[.val (.ref a), .val (.int K), .val (.ref q), .val (.int (1 : Int32))] [(.double (g 1))])
  refine Go.step (fun _ k => XS.dconst0 X12.here hx rfl (hb hby d2_78) rfl k) ?_
  show Go _ _ _ _ _ _ _ T12 (mkF m 79 #[.val (.ref a), .val (.int K), .val (.ref q), .val (.int (1 : Int32))] [(.double (0 : UInt64)), (.double (g 1))])
  refine Go.step (fun _ k => XS.dcmpS X12.here hx rfl (hb hby d2_79) rfl rfl k) ?_
  show Go _ _ _ _ _ _ _ T12 (mkF m 80 #[.val (.ref a), .val (.int K), .val (.ref q), .val (.int (1 : Int32))] [(.int (cmpValue (FP.dcmp (g 1) (0 : UInt64)) .g))])
  refine Go.step (fun _ k => XS.ifYes X12.here hx rfl (pc0 := 80) (pc' := 99) rfl (hb hby d2_80) rfl (lt_n (hp 1 (by decide))) (by decide) (by decide) k) ?_
  show Go _ _ _ _ _ _ _ T12 (mkF m 99 #[.val (.ref a), .val (.int K), .val (.ref q), .val (.int (1 : Int32))] [])
  refine Go.step (fun _ k => XS.aloadN X12.here hx rfl (hb hby d2_99) rfl rfl k) ?_
  show Go _ _ _ _ _ _ _ T12 (mkF m 100 #[.val (.ref a), .val (.int K), .val (.ref q), .val (.int (1 : Int32))] [(.ref a)])
  obtain ⟨T13, X13, e13, st13⟩ := getF X12 hx hZ hown (host := "") (Or.inl (hw _ (List.mem_of_getElem? (i := 42) rfl))) Via.refl hh12 F_before_a_11 (g := (mkF m 100 #[.val (.ref a), .val (.int K), .val (.ref q), .val (.int (1 : Int32))] [(.ref a)])) rfl rfl (hb hby d2_100)
  refine Go.step st13 ?_
  show Go _ _ _ _ _ _ _ T13 (mkF m 103 #[.val (.ref a), .val (.int K), .val (.ref q), .val (.int (1 : Int32))] [(.ref b6)])
  refine Go.step (fun _ k => XS.iloadN X13.here hx rfl (hb hby d2_103) rfl k) ?_
  show Go _ _ _ _ _ _ _ T13 (mkF m 104 #[.val (.ref a), .val (.int K), .val (.ref q), .val (.int (1 : Int32))] [(.int (1 : Int32)), (.ref b6)])
  refine Go.step (fun _ k => XS.iconst X13.here hx rfl (hb hby d2_104) k) ?_
  show Go _ _ _ _ _ _ _ T13 (mkF m 105 #[.val (.ref a), .val (.int K), .val (.ref q), .val (.int (1 : Int32))] [(.int (1 : Int32)), (.int (1 : Int32)), (.ref b6)])
  refine Go.step (fun _ k => XS.iadd X13.here hx rfl (hb hby d2_105) rfl k) ?_
  show Go _ _ _ _ _ _ _ T13 (mkF m 106 #[.val (.ref a), .val (.int K), .val (.ref q), .val (.int (1 : Int32))] [(.int (2 : Int32)), (.ref b6)])
  refine Go.step (fun _ k => XS.aloadN X13.here hx rfl (hb hby d2_106) rfl rfl k) ?_
  show Go _ _ _ _ _ _ _ T13 (mkF m 107 #[.val (.ref a), .val (.int K), .val (.ref q), .val (.int (1 : Int32))] [(.ref a), (.int (2 : Int32)), (.ref b6)])
  obtain ⟨T14, X14, e14, st14⟩ := getF X13 hx hZ hown (host := "") (Or.inl (hw _ (List.mem_of_getElem? (i := 42) rfl))) Via.refl e13 F_before_a_11 (g := (mkF m 107 #[.val (.ref a), .val (.int K), .val (.ref q), .val (.int (1 : Int32))] [(.ref a), (.int (2 : Int32)), (.ref b6)])) rfl rfl (hb hby d2_107)
  refine Go.step st14 ?_
  show Go _ _ _ _ _ _ _ T14 (mkF m 110 #[.val (.ref a), .val (.int K), .val (.ref q), .val (.int (1 : Int32))] [(.ref b6), (.int (2 : Int32)), (.ref b6)])
  refine Go.step (fun _ k => XS.iloadN X14.here hx rfl (hb hby d2_110) rfl k) ?_
  show Go _ _ _ _ _ _ _ T14 (mkF m 111 #[.val (.ref a), .val (.int K), .val (.ref q), .val (.int (1 : Int32))] [(.int (1 : Int32)), (.ref b6), (.int (2 : Int32)), (.ref b6)])
  refine Go.daload X14 hx hZ e14 V_b6_11 (j := (1 : Int32)) (v := (FP.dadd (0 : UInt64) (g 0))) (by decide) rfl (hb hby d2_111) ?_
  show Go _ _ _ _ _ _ _ T14 (mkF m 112 #[.val (.ref a), .val (.int K), .val (.ref q), .val (.int (1 : Int32))] [(.double (FP.dadd (0 : UInt64) (g 0))), (.int (2 : Int32)), (.ref b6)])
  refine Go.step (fun _ k => XS.aloadN X14.here hx rfl (hb hby d2_112) rfl rfl k) ?_
  show Go _ _ _ _ _ _ _ T14 (mkF m 113 #[.val (.ref a), .val (.int K), .val (.ref q), .val (.int (1 : Int32))] [(.ref q), (.double (FP.dadd (0 : UInt64) (g 0))), (.int (2 : Int32)), (.ref b6)])
  refine Go.step (fun _ k => XS.iloadN X14.here hx rfl (hb hby d2_113) rfl k) ?_
  show Go _ _ _ _ _ _ _ T14 (mkF m 114 #[.val (.ref a), .val (.int K), .val (.ref q), .val (.int (1 : Int32))] [(.int (1 : Int32)), (.ref q), (.double (FP.dadd (0 : UInt64) (g 0))), (.int (2 : Int32)), (.ref b6)])
  refine Go.daload X14 hx hZ e14 V_q_11 (j := (1 : Int32)) (v := (g 1)) (by decide) rfl (hb hby d2_114) ?_
  show Go _ _ _ _ _ _ _ T14 (mkF m 115 #[.val (.ref a), .val (.int K), .val (.ref q), .val (.int (1 : Int32))] [(.double (g 1)), (.double (FP.dadd (0 : UInt64) (g 0))), (.int (2 : Int32)), (.ref b6)])
  refine Go.step (fun _ k => XS.daddS X14.here hx rfl (hb hby d2_115) rfl (Jvm.Free.Fl.dadd_out (Jvm.Free.Fl.dadd_out (by first | decide +kernel | (unfold Jvm.Free.Fl.Fin64; decide +kernel) | (unfold Jvm.Free.Fl.Nz64; decide +kernel) | (unfold Jvm.Free.Fl.NoNaN64; decide +kernel) : Jvm.Free.Fl.NoNaN64 0) (hf 0 (by decide))) (hf 1 (by decide))) rfl k) ?_
  show Go _ _ _ _ _ _ _ T14 (mkF m 116 #[.val (.ref a), .val (.int K), .val (.ref q), .val (.int (1 : Int32))] [(.double (FP.dadd (FP.dadd (0 : UInt64) (g 0)) (g 1))), (.int (2 : Int32)), (.ref b6)])
  refine Go.dastore X14 hx hZ e14 V_b6_11 (j := (2 : Int32)) (x := (FP.dadd (FP.dadd (0 : UInt64) (g 0)) (g 1))) (by decide) (hb hby d2_116) ?_
  intro T15 h15 X15 e15 W15 Vn15
  have V_b6_15 : Dv Z h15 b6 (4 : Int32) (updN (updN (fun _ => (0 : UInt64)) 1 (FP.dadd (0 : UInt64) (g 0))) 2 (FP.dadd (FP.dadd (0 : UInt64) (g 0)) (g 1))) := Vn15
  have N15 := Fr.snoc X15 N12 ge_b6
  have E_a_15 := E_a_11.wr W15
  have F_keyGroups_a_15 := F_keyGroups_a_11.other W15 (Or.inl ne_a_b6)
  have F_shares_a_15 := F_shares_a_11.other W15 (Or.inl ne_a_b6)
  have F_before_a_15 := F_before_a_11.other W15 (Or.inl ne_a_b6)
  have E_q_15 := E_q_11.wr W15
  have V_q_15 := V_q_11.other W15 ne_q_b6
  have Vc3_15 := Vc3_11.other W15 ne_b3_b6
  have Ec3_15 := Ec3_11.wr W15
  have K15 : Keep h0 h15 [a] := K11.wr W15 (Or.inr sz_b6)
  show Go _ _ _ _ _ _ _ T15 (mkF m 117 #[.val (.ref a), .val (.int K), .val (.ref q), .val (.int (1 : Int32))] [])
  refine Go.step (fun _ k => XS.iinc X15.here hx rfl (hb hby d2_117) rfl (l' := #[.val (.ref a), .val (.int K), .val (.ref q), .val (.int (2 : Int32))]) rfl k) ?_
  show Go _ _ _ _ _ _ _ T15 (mkF m 120 #[.val (.ref a), .val (.int K), .val (.ref q), .val (.int (2 : Int32))] [])
  refine Go.step (fun _ k => XS.goto X15.here hx rfl (pc0 := 120) (pc' := 60) rfl (hb hby d2_120) (by decide) (by decide) k) ?_
  show Go _ _ _ _ _ _ _ T15 (mkF m 60 #[.val (.ref a), .val (.int K), .val (.ref q), .val (.int (2 : Int32))] [])
  refine Go.step (fun _ k => XS.iloadN X15.here hx rfl (hb hby d2_60) rfl k) ?_
  show Go _ _ _ _ _ _ _ T15 (mkF m 61 #[.val (.ref a), .val (.int K), .val (.ref q), .val (.int (2 : Int32))] [(.int (2 : Int32))])
  refine Go.step (fun _ k => XS.aloadN X15.here hx rfl (hb hby d2_61) rfl rfl k) ?_
  show Go _ _ _ _ _ _ _ T15 (mkF m 62 #[.val (.ref a), .val (.int K), .val (.ref q), .val (.int (2 : Int32))] [(.ref q), (.int (2 : Int32))])
  refine Go.alen X15 hx hZ e15 V_q_15 (hb hby d2_62) ?_
  show Go _ _ _ _ _ _ _ T15 (mkF m 63 #[.val (.ref a), .val (.int K), .val (.ref q), .val (.int (2 : Int32))] [(.int (3 : Int32)), (.int (2 : Int32))])
  refine Go.step (fun _ k => XS.icmpNo X15.here hx rfl (hb hby d2_63) rfl (tlt (by decide : (2 : Int32) < (3 : Int32))).2.1 k) ?_
  show Go _ _ _ _ _ _ _ T15 (mkF m 66 #[.val (.ref a), .val (.int K), .val (.ref q), .val (.int (2 : Int32))] [])
  refine Go.step (fun _ k => XS.aloadN X15.here hx rfl (hb hby d2_66) rfl rfl k) ?_
  show Go _ _ _ _ _ _ _ T15 (mkF m 67 #[.val (.ref a), .val (.int K), .val (.ref q), .val (.int (2 : Int32))] [(.ref q)])
  refine Go.step (fun _ k => XS.iloadN X15.here hx rfl (hb hby d2_67) rfl k) ?_
  show Go _ _ _ _ _ _ _ T15 (mkF m 68 #[.val (.ref a), .val (.int K), .val (.ref q), .val (.int (2 : Int32))] [(.int (2 : Int32)), (.ref q)])
  refine Go.daload X15 hx hZ e15 V_q_15 (j := (2 : Int32)) (v := (g 2)) (by decide) rfl (hb hby d2_68) ?_
  show Go _ _ _ _ _ _ _ T15 (mkF m 69 #[.val (.ref a), .val (.int K), .val (.ref q), .val (.int (2 : Int32))] [(.double (g 2))])
  refine Go.callS X15 hx hZ (by rw [hml]; rfl) (y := (⟨"java/lang/Double", "isFinite", "(D)Z"⟩ : MethodName)) (argsL := [(.double (g 2))]) (rest := []) hown (hw _ (List.mem_of_getElem? (i := 44) rfl)) (hw _ (List.mem_of_getElem? (i := 45) rfl)) (hw _ (List.mem_of_getElem? (i := 46) rfl)) (hw _ (List.mem_of_getElem? (i := 47) rfl)) (by decide) (rm4 l Z a0 hw (g 2) h15 n0 (Nat.le_trans Z0 (K15 : Keep h0 h15 [a]).1) (hf 2 (by decide))) e15 (hb hby d2_69) (lenOf pd_1 rfl) rfl rfl (W := 0) (Nat.le_of_eq rfl) (by decide) (by decide) (by decide) (by decide) ?_
  intro v16 T16 L16 X16 Q16
  obtain ⟨rfl, N16q, hh16⟩ := Q16
  have N16 := Fr.app N15 N16q
  show Go _ _ _ _ _ _ _ T16 (mkF m 72 #[.val (.ref a), .val (.int K), .val (.ref q), .val (.int (2 : Int32))] [(.int (1 : Int32))])
  refine Go.step (fun _ k => XS.ifNo X16.here hx rfl (hb hby d2_72) rfl ((if0 _ _).trans (feq (by decide : ¬ ((1 : Int32) = (0 : Int32)))).1) k) ?_
  show Go _ _ _ _ _ _ _ T16 (mkF m 75 #[.val (.ref a), .val (.int K), .val (.ref q), .val (.int (2 : Int32))] [])
  refine Go.step (fun _ k => XS.aloadN X16.here hx rfl (hb hby d2_75) rfl rfl k) ?_
  show Go _ _ _ _ _ _ _ T16 (mkF m 76 #[.val (.ref a), .val (.int K), .val (.ref q), .val (.int (2 : Int32))] [(.ref q)])
  refine Go.step (fun _ k => XS.iloadN X16.here hx rfl (hb hby d2_76) rfl k) ?_
  show Go _ _ _ _ _ _ _ T16 (mkF m 77 #[.val (.ref a), .val (.int K), .val (.ref q), .val (.int (2 : Int32))] [(.int (2 : Int32)), (.ref q)])
  refine Go.daload X16 hx hZ hh16 V_q_15 (j := (2 : Int32)) (v := (g 2)) (by decide) rfl (hb hby d2_77) ?_
  show Go _ _ _ _ _ _ _ T16 (mkF m 78 #[.val (.ref a), .val (.int K), .val (.ref q), .val (.int (2 : Int32))] [(.double (g 2))])
  refine Go.step (fun _ k => XS.dconst0 X16.here hx rfl (hb hby d2_78) rfl k) ?_
  show Go _ _ _ _ _ _ _ T16 (mkF m 79 #[.val (.ref a), .val (.int K), .val (.ref q), .val (.int (2 : Int32))] [(.double (0 : UInt64)), (.double (g 2))])
  refine Go.step (fun _ k => XS.dcmpS X16.here hx rfl (hb hby d2_79) rfl rfl k) ?_
  show Go _ _ _ _ _ _ _ T16 (mkF m 80 #[.val (.ref a), .val (.int K), .val (.ref q), .val (.int (2 : Int32))] [(.int (cmpValue (FP.dcmp (g 2) (0 : UInt64)) .g))])
  refine Go.step (fun _ k => XS.ifYes X16.here hx rfl (pc0 := 80) (pc' := 99) rfl (hb hby d2_80) rfl (lt_n (hp 2 (by decide))) (by decide) (by decide) k) ?_
  show Go _ _ _ _ _ _ _ T16 (mkF m 99 #[.val (.ref a), .val (.int K), .val (.ref q), .val (.int (2 : Int32))] [])
  refine Go.step (fun _ k => XS.aloadN X16.here hx rfl (hb hby d2_99) rfl rfl k) ?_
  show Go _ _ _ _ _ _ _ T16 (mkF m 100 #[.val (.ref a), .val (.int K), .val (.ref q), .val (.int (2 : Int32))] [(.ref a)])
  obtain ⟨T17, X17, e17, st17⟩ := getF X16 hx hZ hown (host := "") (Or.inl (hw _ (List.mem_of_getElem? (i := 42) rfl))) Via.refl hh16 F_before_a_15 (g := (mkF m 100 #[.val (.ref a), .val (.int K), .val (.ref q), .val (.int (2 : Int32))] [(.ref a)])) rfl rfl (hb hby d2_100)
  refine Go.step st17 ?_
  show Go _ _ _ _ _ _ _ T17 (mkF m 103 #[.val (.ref a), .val (.int K), .val (.ref q), .val (.int (2 : Int32))] [(.ref b6)])
  refine Go.step (fun _ k => XS.iloadN X17.here hx rfl (hb hby d2_103) rfl k) ?_
  show Go _ _ _ _ _ _ _ T17 (mkF m 104 #[.val (.ref a), .val (.int K), .val (.ref q), .val (.int (2 : Int32))] [(.int (2 : Int32)), (.ref b6)])
  refine Go.step (fun _ k => XS.iconst X17.here hx rfl (hb hby d2_104) k) ?_
  show Go _ _ _ _ _ _ _ T17 (mkF m 105 #[.val (.ref a), .val (.int K), .val (.ref q), .val (.int (2 : Int32))] [(.int (1 : Int32)), (.int (2 : Int32)), (.ref b6)])
  refine Go.step (fun _ k => XS.iadd X17.here hx rfl (hb hby d2_105) rfl k) ?_
  show Go _ _ _ _ _ _ _ T17 (mkF m 106 #[.val (.ref a), .val (.int K), .val (.ref q), .val (.int (2 : Int32))] [(.int (3 : Int32)), (.ref b6)])
  refine Go.step (fun _ k => XS.aloadN X17.here hx rfl (hb hby d2_106) rfl rfl k) ?_
  show Go _ _ _ _ _ _ _ T17 (mkF m 107 #[.val (.ref a), .val (.int K), .val (.ref q), .val (.int (2 : Int32))] [(.ref a), (.int (3 : Int32)), (.ref b6)])
  obtain ⟨T18, X18, e18, st18⟩ := getF X17 hx hZ hown (host := "") (Or.inl (hw _ (List.mem_of_getElem? (i := 42) rfl))) Via.refl e17 F_before_a_15 (g := (mkF m 107 #[.val (.ref a), .val (.int K), .val (.ref q), .val (.int (2 : Int32))] [(.ref a), (.int (3 : Int32)), (.ref b6)])) rfl rfl (hb hby d2_107)
  refine Go.step st18 ?_
  show Go _ _ _ _ _ _ _ T18 (mkF m 110 #[.val (.ref a), .val (.int K), .val (.ref q), .val (.int (2 : Int32))] [(.ref b6), (.int (3 : Int32)), (.ref b6)])
  refine Go.step (fun _ k => XS.iloadN X18.here hx rfl (hb hby d2_110) rfl k) ?_
  show Go _ _ _ _ _ _ _ T18 (mkF m 111 #[.val (.ref a), .val (.int K), .val (.ref q), .val (.int (2 : Int32))] [(.int (2 : Int32)), (.ref b6), (.int (3 : Int32)), (.ref b6)])
  refine Go.daload X18 hx hZ e18 V_b6_15 (j := (2 : Int32)) (v := (FP.dadd (FP.dadd (0 : UInt64) (g 0)) (g 1))) (by decide) rfl (hb hby d2_111) ?_
  show Go _ _ _ _ _ _ _ T18 (mkF m 112 #[.val (.ref a), .val (.int K), .val (.ref q), .val (.int (2 : Int32))] [(.double (FP.dadd (FP.dadd (0 : UInt64) (g 0)) (g 1))), (.int (3 : Int32)), (.ref b6)])
  refine Go.step (fun _ k => XS.aloadN X18.here hx rfl (hb hby d2_112) rfl rfl k) ?_
  show Go _ _ _ _ _ _ _ T18 (mkF m 113 #[.val (.ref a), .val (.int K), .val (.ref q), .val (.int (2 : Int32))] [(.ref q), (.double (FP.dadd (FP.dadd (0 : UInt64) (g 0)) (g 1))), (.int (3 : Int32)), (.ref b6)])
  refine Go.step (fun _ k => XS.iloadN X18.here hx rfl (hb hby d2_113) rfl k) ?_
  show Go _ _ _ _ _ _ _ T18 (mkF m 114 #[.val (.ref a), .val (.int K), .val (.ref q), .val (.int (2 : Int32))] [(.int (2 : Int32)), (.ref q), (.double (FP.dadd (FP.dadd (0 : UInt64) (g 0)) (g 1))), (.int (3 : Int32)), (.ref b6)])
  refine Go.daload X18 hx hZ e18 V_q_15 (j := (2 : Int32)) (v := (g 2)) (by decide) rfl (hb hby d2_114) ?_
  show Go _ _ _ _ _ _ _ T18 (mkF m 115 #[.val (.ref a), .val (.int K), .val (.ref q), .val (.int (2 : Int32))] [(.double (g 2)), (.double (FP.dadd (FP.dadd (0 : UInt64) (g 0)) (g 1))), (.int (3 : Int32)), (.ref b6)])
  refine Go.step (fun _ k => XS.daddS X18.here hx rfl (hb hby d2_115) rfl (Jvm.Free.Fl.dadd_out (Jvm.Free.Fl.dadd_out (Jvm.Free.Fl.dadd_out (by first | decide +kernel | (unfold Jvm.Free.Fl.Fin64; decide +kernel) | (unfold Jvm.Free.Fl.Nz64; decide +kernel) | (unfold Jvm.Free.Fl.NoNaN64; decide +kernel) : Jvm.Free.Fl.NoNaN64 0) (hf 0 (by decide))) (hf 1 (by decide))) (hf 2 (by decide))) rfl k) ?_
  show Go _ _ _ _ _ _ _ T18 (mkF m 116 #[.val (.ref a), .val (.int K), .val (.ref q), .val (.int (2 : Int32))] [(.double (FP.dadd (FP.dadd (FP.dadd (0 : UInt64) (g 0)) (g 1)) (g 2))), (.int (3 : Int32)), (.ref b6)])
  refine Go.dastore X18 hx hZ e18 V_b6_15 (j := (3 : Int32)) (x := (FP.dadd (FP.dadd (FP.dadd (0 : UInt64) (g 0)) (g 1)) (g 2))) (by decide) (hb hby d2_116) ?_
  intro T19 h19 X19 e19 W19 Vn19
  have V_b6_19 : Dv Z h19 b6 (4 : Int32) (updN (updN (updN (fun _ => (0 : UInt64)) 1 (FP.dadd (0 : UInt64) (g 0))) 2 (FP.dadd (FP.dadd (0 : UInt64) (g 0)) (g 1))) 3 (FP.dadd (FP.dadd (FP.dadd (0 : UInt64) (g 0)) (g 1)) (g 2))) := Vn19
  have N19 := Fr.snoc X19 N16 ge_b6
  have E_a_19 := E_a_15.wr W19
  have F_keyGroups_a_19 := F_keyGroups_a_15.other W19 (Or.inl ne_a_b6)
  have F_shares_a_19 := F_shares_a_15.other W19 (Or.inl ne_a_b6)
  have F_before_a_19 := F_before_a_15.other W19 (Or.inl ne_a_b6)
  have E_q_19 := E_q_15.wr W19
  have V_q_19 := V_q_15.other W19 ne_q_b6
  have Vc3_19 := Vc3_15.other W19 ne_b3_b6
  have Ec3_19 := Ec3_15.wr W19
  have K19 : Keep h0 h19 [a] := K15.wr W19 (Or.inr sz_b6)
  show Go _ _ _ _ _ _ _ T19 (mkF m 117 #[.val (.ref a), .val (.int K), .val (.ref q), .val (.int (2 : Int32))] [])
  refine Go.step (fun _ k => XS.iinc X19.here hx rfl (hb hby d2_117) rfl (l' := #[.val (.ref a), .val (.int K), .val (.ref q), .val (.int (3 : Int32))]) rfl k) ?_
  show Go _ _ _ _ _ _ _ T19 (mkF m 120 #[.val (.ref a), .val (.int K), .val (.ref q), .val (.int (3 : Int32))] [])
  refine Go.step (fun _ k => XS.goto X19.here hx rfl (pc0 := 120) (pc' := 60) rfl (hb hby d2_120) (by decide) (by decide) k) ?_
  show Go _ _ _ _ _ _ _ T19 (mkF m 60 #[.val (.ref a), .val (.int K), .val (.ref q), .val (.int (3 : Int32))] [])
  refine Go.step (fun _ k => XS.iloadN X19.here hx rfl (hb hby d2_60) rfl k) ?_
  show Go _ _ _ _ _ _ _ T19 (mkF m 61 #[.val (.ref a), .val (.int K), .val (.ref q), .val (.int (3 : Int32))] [(.int (3 : Int32))])
  refine Go.step (fun _ k => XS.aloadN X19.here hx rfl (hb hby d2_61) rfl rfl k) ?_
  show Go _ _ _ _ _ _ _ T19 (mkF m 62 #[.val (.ref a), .val (.int K), .val (.ref q), .val (.int (3 : Int32))] [(.ref q), (.int (3 : Int32))])
  refine Go.alen X19 hx hZ e19 V_q_19 (hb hby d2_62) ?_
  show Go _ _ _ _ _ _ _ T19 (mkF m 63 #[.val (.ref a), .val (.int K), .val (.ref q), .val (.int (3 : Int32))] [(.int (3 : Int32)), (.int (3 : Int32))])
  refine Go.step (fun _ k => XS.icmpYes X19.here hx rfl (pc0 := 63) (pc' := 123) rfl (hb hby d2_63) rfl (flt (by decide : ¬ ((3 : Int32) < (3 : Int32)))).2.1 (by decide) (by decide) k) ?_
  show Go _ _ _ _ _ _ _ T19 (mkF m 123 #[.val (.ref a), .val (.int K), .val (.ref q), .val (.int (3 : Int32))] [])
  refine Go.retV X19 hx hlk hret (hb hby d2_123) (by decide) (by decide) ?_
  try rw [e19]
  exact ⟨rfl, N19, K19, E_a_19, F_keyGroups_a_19, b3, b6, F_shares_a_19, F_before_a_19, Vc3_19, V_b6_19, sz_b3, sz_b6, ne_b3_b6⟩
theorem ef_rm2_3 (m : MethodId) (a : Addr) (K : Int32) (q : Addr) : entryFrame m #[(.ref a), (.int K), (.ref q)] 4 = mkF m 0 #[.val (.ref a), .val (.int K), .val (.ref q), .unset] [] := by first | (simp [entryFrame, mkF, argsToLocals, Value.category]; done) | rfl
theorem rm2_3 (l : Launch) (Z : State) (a0 : Array Value) (hw : ∀ d ∈ tables_1, d.before a0 Z = true) (a q : Addr) (K : Int32) (g : Nat → UInt64) (h0 : Heap) (n0 : Nat) (Z0 : n0 ≤ h0.size) (E_a : Exa Z h0 a "tidewatch/decision/KeyGroupCeiling") (F_keyGroups_a : Fld Z h0 a "tidewatch/decision/KeyGroupCeiling" "keyGroups" "I" (.int (0 : Int32))) (F_shares_a : Fld Z h0 a "tidewatch/decision/KeyGroupCeiling" "shares" "[D" .null) (F_before_a : Fld Z h0 a "tidewatch/decision/KeyGroupCeiling" "before" "[D" .null) (E_q : Exa Z h0 q "[D") (V_q : Dv Z h0 q (3 : Int32) g) (ge_a : n0 ≤ a) (ne_a_q : a ≠ q) (hK : ¬ K < (3 : Int32)) (hf : ∀ i, i < 3 → Jvm.Free.Fl.Fin64 (g i)) (hp : ∀ i, i < 3 → ¬ FP.dcmp (g i) (0 : UInt64) = some .lt) :
    Con l Z (⟨"tidewatch/decision/KeyGroupCeiling", "<init>", "(I[D)V"⟩ : MethodName) prog_33_method_1_code 4 none ({ frames := 2, cells := 2, slots := 7, locals := 40 } : Room) #[(.ref a), (.int K), (.ref q)] h0 (fun r h L => r = none ∧ Fr n0 L ∧ Keep h0 h [a] ∧ Exa Z h a "tidewatch/decision/KeyGroupCeiling" ∧ Fld Z h a "tidewatch/decision/KeyGroupCeiling" "keyGroups" "I" (.int K) ∧ ∃ c d : Addr, Fld Z h a "tidewatch/decision/KeyGroupCeiling" "shares" "[D" (.ref c) ∧ Fld Z h a "tidewatch/decision/KeyGroupCeiling" "before" "[D" (.ref d) ∧ Dv Z h c (3 : Int32) g ∧ Dv Z h d (4 : Int32) (updN (updN (updN (fun _ => (0 : UInt64)) 1 (FP.dadd (0 : UInt64) (g 0))) 2 (FP.dadd (FP.dadd (0 : UInt64) (g 0)) (g 1))) 3 (FP.dadd (FP.dadd (FP.dadd (0 : UInt64) (g 0)) (g 1)) (g 2))) ∧ h0.size ≤ c ∧ h0.size ≤ d ∧ c ≠ d) :=
  con_of (plainFor_of_name pn_2) (fun p_ e_ s_ m_ b_ meth_ c_ T_ X_ hx hZ hby hml hown hnm hret hlk e0 => Go.cast (ef_rm2_3 m_ a K q) (w2_3 a q K g X_ hx hZ hw hby hml hown hnm hret hlk e0 Z0 (Fr.nil n0) E_a F_keyGroups_a F_shares_a F_before_a E_q V_q ge_a ne_a_q hK hf hp))
theorem d9_0 : decode jdk_117_method_6_code 0 = .ok (.dload_n 0, 1) := by decide +kernel
theorem d9_1 : decode jdk_117_method_6_code 1 = .ok (.dload_n 0, 1) := by decide +kernel
theorem d9_2 : decode jdk_117_method_6_code 2 = .ok (.dcmp .l, 1) := by decide +kernel
theorem d9_3 : decode jdk_117_method_6_code 3 = .ok (.ifCond .eq 7, 3) := by decide +kernel
theorem d9_10 : decode jdk_117_method_6_code 10 = .ok (.iconst 0, 1) := by decide +kernel
theorem d9_11 : decode jdk_117_method_6_code 11 = .ok (.ireturn, 1) := by decide +kernel
set_option maxRecDepth 65536 in
set_option maxHeartbeats 40000000 in
theorem w9 {p : Program} {l : Launch} {e : Env} {s : State} {m : MethodId} {args : Array Value} {below : List Frame} {meth : Method} {c_ : Code} {T0 : State} {locs : List Loc} {Z : State} {a0 : Array Value} {h0 : Heap} {n0 : Nat} (v : UInt64)
    (X0 : Stand p l e ({ frames := 0, cells := 0, slots := 0, locals := 0 } : Room) s m args below meth c_ T0 locs 0 0) (hx : p.tables.exec = Jvm.exec) (hZ : Z.Warmed39 s.vm) (hw : ∀ d ∈ tables_1, d.before a0 Z = true) (hby : c_.code = jdk_117_method_6_code) (hml : c_.maxLocals = 2) (hown : s.vm.findClass "java/lang/Double" = some m.cls) (hnm : meth.name = "isNaN") (hret : meth.sig.returnType = some .boolean) (hlk : meth.locks = false) (e0 : T0.heap = h0) (Z0 : n0 ≤ h0.size) (N0 : Fr n0 locs) (hn : Jvm.Free.Fl.NoNaN64 v) :
    Go p e below s ({ frames := 0, cells := 0, slots := 0, locals := 0 } : Room).cells ({ frames := 0, cells := 0, slots := 0, locals := 0 } : Room).slots (fun r h L => r = some (.int (0 : Int32)) ∧ Fr n0 L ∧ h = h0) T0 (mkF m 0 #[.val (.double v), .second] []) := by
  show Go _ _ _ _ _ _ _ T0 (mkF m 0 #[.val (.double v), .second] [])
  refine Go.step (fun _ k => XS.dloadN X0.here hx rfl (hb hby d9_0) rfl k) ?_
  show Go _ _ _ _ _ _ _ T0 (mkF m 1 #[.val (.double v), .second] [(.double v)])
  refine Go.step (fun _ k => XS.dloadN X0.here hx rfl (hb hby d9_1) rfl k) ?_
  show Go _ _ _ _ _ _ _ T0 (mkF m 2 #[.val (.double v), .second] [(.double v), (.double v)])
  refine Go.step (fun _ k => XS.dcmpS X0.here hx rfl (hb hby d9_2) rfl rfl k) ?_
  show Go _ _ _ _ _ _ _ T0 (mkF m 3 #[.val (.double v), .second] [(.int (cmpValue (FP.dcmp v v) .l))])
  refine Go.step (fun _ k => XS.ifYes X0.here hx rfl (pc0 := 3) (pc' := 10) rfl (hb hby d9_3) rfl (eq_y .l (own_eqD rfl hn)).2 (by decide) (by decide) k) ?_
  show Go _ _ _ _ _ _ _ T0 (mkF m 10 #[.val (.double v), .second] [])
  refine Go.step (fun _ k => XS.iconst X0.here hx rfl (hb hby d9_10) k) ?_
  show Go _ _ _ _ _ _ _ T0 (mkF m 11 #[.val (.double v), .second] [(.int (0 : Int32))])
  refine Go.retZ X0 hx hlk hret (by decide) (hb hby d9_11) (by decide) (by decide) ?_
  try rw [e0]
  exact ⟨rfl, N0, rfl⟩
theorem ef_rm9 (m : MethodId) (v : UInt64) : entryFrame m #[(.double v)] 2 = mkF m 0 #[.val (.double v), .second] [] := by first | (simp [entryFrame, mkF, argsToLocals, Value.category]; done) | rfl
theorem rm9 (l : Launch) (Z : State) (a0 : Array Value) (hw : ∀ d ∈ tables_1, d.before a0 Z = true) (v : UInt64) (h0 : Heap) (n0 : Nat) (Z0 : n0 ≤ h0.size) (hn : Jvm.Free.Fl.NoNaN64 v) :
    Con l Z (⟨"java/lang/Double", "isNaN", "(D)Z"⟩ : MethodName) jdk_117_method_6_code 2 (some .boolean) ({ frames := 0, cells := 0, slots := 0, locals := 0 } : Room) #[(.double v)] h0 (fun r h L => r = some (.int (0 : Int32)) ∧ Fr n0 L ∧ h = h0) :=
  con_of (plainFor_of_name pn_4) (fun p_ e_ s_ m_ b_ meth_ c_ T_ X_ hx hZ hby hml hown hnm hret hlk e0 => Go.cast (ef_rm9 m_ v) (w9 v X_ hx hZ hw hby hml hown hnm hret hlk e0 Z0 (Fr.nil n0) hn))
theorem d8_0 : decode jdk_117_method_23_code 0 = .ok (.dload_n 0, 1) := by decide +kernel
theorem d8_1 : decode jdk_117_method_23_code 1 = .ok (.invokestatic 122, 3) := by decide +kernel
theorem d8_4 : decode jdk_117_method_23_code 4 = .ok (.ifCond .ne 8, 3) := by decide +kernel
theorem d8_7 : decode jdk_117_method_23_code 7 = .ok (.dload_n 0, 1) := by decide +kernel
theorem d8_8 : decode jdk_117_method_23_code 8 = .ok (.invokestatic 134, 3) := by decide +kernel
theorem d8_11 : decode jdk_117_method_23_code 11 = .ok (.lreturn, 1) := by decide +kernel
set_option maxRecDepth 65536 in
set_option maxHeartbeats 40000000 in
theorem w8 {p : Program} {l : Launch} {e : Env} {s : State} {m : MethodId} {args : Array Value} {below : List Frame} {meth : Method} {c_ : Code} {T0 : State} {locs : List Loc} {Z : State} {a0 : Array Value} {h0 : Heap} {n0 : Nat} (v : UInt64)
    (X0 : Stand p l e ({ frames := 1, cells := 0, slots := 0, locals := 40 } : Room) s m args below meth c_ T0 locs 0 0) (hx : p.tables.exec = Jvm.exec) (hZ : Z.Warmed39 s.vm) (hw : ∀ d ∈ tables_1, d.before a0 Z = true) (hby : c_.code = jdk_117_method_23_code) (hml : c_.maxLocals = 2) (hown : s.vm.findClass "java/lang/Double" = some m.cls) (hnm : meth.name = "doubleToLongBits") (hret : meth.sig.returnType = some .long) (hlk : meth.locks = false) (e0 : T0.heap = h0) (Z0 : n0 ≤ h0.size) (N0 : Fr n0 locs) (hn : Jvm.Free.Fl.NoNaN64 v) :
    Go p e below s ({ frames := 1, cells := 0, slots := 0, locals := 40 } : Room).cells ({ frames := 1, cells := 0, slots := 0, locals := 40 } : Room).slots (fun r h L => r = some (.long (v).toInt64) ∧ Fr n0 L ∧ h = h0) T0 (mkF m 0 #[.val (.double v), .second] []) := by
  show Go _ _ _ _ _ _ _ T0 (mkF m 0 #[.val (.double v), .second] [])
  refine Go.step (fun _ k => XS.dloadN X0.here hx rfl (hb hby d8_0) rfl k) ?_
  show Go _ _ _ _ _ _ _ T0 (mkF m 1 #[.val (.double v), .second] [(.double v)])
  refine Go.callS X0 hx hZ (by rw [hml]; rfl) (y := (⟨"java/lang/Double", "isNaN", "(D)Z"⟩ : MethodName)) (argsL := [(.double v)]) (rest := []) hown (hw _ (List.mem_of_getElem? (i := 65) rfl)) (hw _ (List.mem_of_getElem? (i := 66) rfl)) (hw _ (List.mem_of_getElem? (i := 46) rfl)) (hw _ (List.mem_of_getElem? (i := 67) rfl)) (by decide) (rm9 l Z a0 hw v h0 n0 Z0 hn) e0 (hb hby d8_1) (lenOf pd_1 rfl) rfl rfl (W := 0) (Nat.le_of_eq rfl) (by decide) (by decide) (by decide) (by decide) ?_
  intro v1 T1 L1 X1 Q1
  obtain ⟨rfl, N1q, hh1⟩ := Q1
  have N1 := Fr.app N0 N1q
  show Go _ _ _ _ _ _ _ T1 (mkF m 4 #[.val (.double v), .second] [(.int (0 : Int32))])
  refine Go.step (fun _ k => XS.ifNo X1.here hx rfl (hb hby d8_4) rfl ((if0 _ _).trans (teq (by decide : (0 : Int32) = (0 : Int32))).2) k) ?_
  show Go _ _ _ _ _ _ _ T1 (mkF m 7 #[.val (.double v), .second] [])
  refine Go.step (fun _ k => XS.dloadN X1.here hx rfl (hb hby d8_7) rfl k) ?_
  show Go _ _ _ _ _ _ _ T1 (mkF m 8 #[.val (.double v), .second] [(.double v)])
  obtain ⟨vm2, X2, st2⟩ := X1.doubleToRawLongBits hx hown (mvT hZ (hw _ (List.mem_of_getElem? (i := 68) rfl))) (mvT hZ (hw _ (List.mem_of_getElem? (i := 70) rfl))) (mvT hZ (hw _ (List.mem_of_getElem? (i := 69) rfl))) (mvT hZ (hw _ (List.mem_of_getElem? (i := 46) rfl))) (g := (mkF m 8 #[.val (.double v), .second] [(.double v)])) rfl (by rw [hml]; rfl) rfl (hb hby d8_8) (by decide) (by show 2 * 0 + 0 + (nativeFrameWords "java/lang/Double" "doubleToRawLongBits" 2 + 11) ≤ 40; decide +kernel)
  have e2 : (T1.setVm vm2).heap = h0 := hh1
  refine Go.step st2 ?_
  show Go _ _ _ _ _ _ _ (T1.setVm vm2) (mkF m 11 #[.val (.double v), .second] [(.long (v).toInt64)])
  refine Go.retJ X2 hx hlk hret (hb hby d8_11) (by decide) (by decide) ?_
  try rw [e2]
  exact ⟨rfl, N1, rfl⟩
theorem ef_rm8 (m : MethodId) (v : UInt64) : entryFrame m #[(.double v)] 2 = mkF m 0 #[.val (.double v), .second] [] := by first | (simp [entryFrame, mkF, argsToLocals, Value.category]; done) | rfl
theorem rm8 (l : Launch) (Z : State) (a0 : Array Value) (hw : ∀ d ∈ tables_1, d.before a0 Z = true) (v : UInt64) (h0 : Heap) (n0 : Nat) (Z0 : n0 ≤ h0.size) (hn : Jvm.Free.Fl.NoNaN64 v) :
    Con l Z (⟨"java/lang/Double", "doubleToLongBits", "(D)J"⟩ : MethodName) jdk_117_method_23_code 2 (some .long) ({ frames := 1, cells := 0, slots := 0, locals := 40 } : Room) #[(.double v)] h0 (fun r h L => r = some (.long (v).toInt64) ∧ Fr n0 L ∧ h = h0) :=
  con_of (plainFor_of_name pn_4) (fun p_ e_ s_ m_ b_ meth_ c_ T_ X_ hx hZ hby hml hown hnm hret hlk e0 => Go.cast (ef_rm8 m_ v) (w8 v X_ hx hZ hw hby hml hown hnm hret hlk e0 Z0 (Fr.nil n0) hn))
theorem d7_0 : decode jdk_65_method_156_code 0 = .ok (.aload_n 0, 1) := by decide +kernel
theorem d7_1 : decode jdk_65_method_156_code 1 = .ok (.ifnonnull 5, 3) := by decide +kernel
theorem d7_6 : decode jdk_65_method_156_code 6 = .ok (.iconst 1, 1) := by decide +kernel
theorem d7_7 : decode jdk_65_method_156_code 7 = .ok (.istore_n 1, 1) := by decide +kernel
theorem d7_8 : decode jdk_65_method_156_code 8 = .ok (.aload_n 0, 1) := by decide +kernel
theorem d7_9 : decode jdk_65_method_156_code 9 = .ok (.astore_n 2, 1) := by decide +kernel
theorem d7_10 : decode jdk_65_method_156_code 10 = .ok (.aload_n 2, 1) := by decide +kernel
theorem d7_11 : decode jdk_65_method_156_code 11 = .ok (.arraylength, 1) := by decide +kernel
theorem d7_12 : decode jdk_65_method_156_code 12 = .ok (.istore_n 3, 1) := by decide +kernel
theorem d7_13 : decode jdk_65_method_156_code 13 = .ok (.iconst 0, 1) := by decide +kernel
theorem d7_14 : decode jdk_65_method_156_code 14 = .ok (.istore 4, 2) := by decide +kernel
theorem d7_16 : decode jdk_65_method_156_code 16 = .ok (.iload 4, 2) := by decide +kernel
theorem d7_18 : decode jdk_65_method_156_code 18 = .ok (.iload_n 3, 1) := by decide +kernel
theorem d7_19 : decode jdk_65_method_156_code 19 = .ok (.if_icmp .ge 37, 3) := by decide +kernel
theorem d7_22 : decode jdk_65_method_156_code 22 = .ok (.aload_n 2, 1) := by decide +kernel
theorem d7_23 : decode jdk_65_method_156_code 23 = .ok (.iload 4, 2) := by decide +kernel
theorem d7_25 : decode jdk_65_method_156_code 25 = .ok (.daload, 1) := by decide +kernel
theorem d7_26 : decode jdk_65_method_156_code 26 = .ok (.dstore 5, 2) := by decide +kernel
theorem d7_28 : decode jdk_65_method_156_code 28 = .ok (.dload 5, 2) := by decide +kernel
theorem d7_30 : decode jdk_65_method_156_code 30 = .ok (.invokestatic 224, 3) := by decide +kernel
theorem pd_2 : parseMethodDescriptor "(D)J" = some ⟨[.double], some .long⟩ := by decide +kernel
theorem d7_33 : decode jdk_65_method_156_code 33 = .ok (.lstore 7, 2) := by decide +kernel
theorem d7_35 : decode jdk_65_method_156_code 35 = .ok (.bipush 31, 2) := by decide +kernel
theorem d7_37 : decode jdk_65_method_156_code 37 = .ok (.iload_n 1, 1) := by decide +kernel
theorem d7_38 : decode jdk_65_method_156_code 38 = .ok (.imul, 1) := by decide +kernel
theorem d7_39 : decode jdk_65_method_156_code 39 = .ok (.lload 7, 2) := by decide +kernel
theorem d7_41 : decode jdk_65_method_156_code 41 = .ok (.lload 7, 2) := by decide +kernel
theorem d7_43 : decode jdk_65_method_156_code 43 = .ok (.bipush 32, 2) := by decide +kernel
theorem d7_45 : decode jdk_65_method_156_code 45 = .ok (.lushr, 1) := by decide +kernel
theorem d7_46 : decode jdk_65_method_156_code 46 = .ok (.lxor, 1) := by decide +kernel
theorem d7_47 : decode jdk_65_method_156_code 47 = .ok (.l2i, 1) := by decide +kernel
theorem d7_48 : decode jdk_65_method_156_code 48 = .ok (.iadd, 1) := by decide +kernel
theorem d7_49 : decode jdk_65_method_156_code 49 = .ok (.istore_n 1, 1) := by decide +kernel
theorem d7_50 : decode jdk_65_method_156_code 50 = .ok (.iinc 4 1, 3) := by decide +kernel
theorem d7_53 : decode jdk_65_method_156_code 53 = .ok (.goto (-37), 3) := by decide +kernel
theorem d7_56 : decode jdk_65_method_156_code 56 = .ok (.iload_n 1, 1) := by decide +kernel
theorem d7_57 : decode jdk_65_method_156_code 57 = .ok (.ireturn, 1) := by decide +kernel
set_option maxRecDepth 65536 in
set_option maxHeartbeats 40000000 in
theorem w7_1 {p : Program} {l : Launch} {e : Env} {s : State} {m : MethodId} {args : Array Value} {below : List Frame} {meth : Method} {c_ : Code} {T0 : State} {locs : List Loc} {Z : State} {a0 : Array Value} {h0 : Heap} {n0 : Nat} (q : Addr) (g : Nat → UInt64)
    (X0 : Stand p l e ({ frames := 2, cells := 0, slots := 0, locals := 60 } : Room) s m args below meth c_ T0 locs 0 0) (hx : p.tables.exec = Jvm.exec) (hZ : Z.Warmed39 s.vm) (hw : ∀ d ∈ tables_1, d.before a0 Z = true) (hby : c_.code = jdk_65_method_156_code) (hml : c_.maxLocals = 9) (hown : s.vm.findClass "java/util/Arrays" = some m.cls) (hnm : meth.name = "hashCode") (hret : meth.sig.returnType = some .int) (hlk : meth.locks = false) (e0 : T0.heap = h0) (Z0 : n0 ≤ h0.size) (N0 : Fr n0 locs) (V_q : Dv Z h0 q (1 : Int32) g) (hn : ∀ i, i < 1 → Jvm.Free.Fl.NoNaN64 (g i)) :
    Go p e below s ({ frames := 2, cells := 0, slots := 0, locals := 60 } : Room).cells ({ frames := 2, cells := 0, slots := 0, locals := 60 } : Room).slots (fun r h L => r = some (.int (hashW 1 g)) ∧ Fr n0 L ∧ h = h0) T0 (mkF m 0 #[.val (.ref q), .unset, .unset, .unset, .unset, .unset, .unset, .unset, .unset] []) := by
  show Go _ _ _ _ _ _ _ T0 (mkF m 0 #[.val (.ref q), .unset, .unset, .unset, .unset, .unset, .unset, .unset, .unset] [])
  refine Go.step (fun _ k => XS.aloadN X0.here hx rfl (hb hby d7_0) rfl rfl k) ?_
  show Go _ _ _ _ _ _ _ T0 (mkF m 1 #[.val (.ref q), .unset, .unset, .unset, .unset, .unset, .unset, .unset, .unset] [(.ref q)])
  refine Go.step (fun _ k => XS.ifnonnullYes X0.here hx rfl (pc0 := 1) (pc' := 6) rfl (hb hby d7_1) rfl (by decide) (by decide) k) ?_
  show Go _ _ _ _ _ _ _ T0 (mkF m 6 #[.val (.ref q), .unset, .unset, .unset, .unset, .unset, .unset, .unset, .unset] [])
  refine Go.step (fun _ k => XS.iconst X0.here hx rfl (hb hby d7_6) k) ?_
  show Go _ _ _ _ _ _ _ T0 (mkF m 7 #[.val (.ref q), .unset, .unset, .unset, .unset, .unset, .unset, .unset, .unset] [(.int (1 : Int32))])
  refine Go.step (fun _ k => XS.istoreN X0.here hx rfl (hb hby d7_7) rfl (l' := #[.val (.ref q), .val (.int (1 : Int32)), .unset, .unset, .unset, .unset, .unset, .unset, .unset]) rfl k) ?_
  show Go _ _ _ _ _ _ _ T0 (mkF m 8 #[.val (.ref q), .val (.int (1 : Int32)), .unset, .unset, .unset, .unset, .unset, .unset, .unset] [])
  refine Go.step (fun _ k => XS.aloadN X0.here hx rfl (hb hby d7_8) rfl rfl k) ?_
  show Go _ _ _ _ _ _ _ T0 (mkF m 9 #[.val (.ref q), .val (.int (1 : Int32)), .unset, .unset, .unset, .unset, .unset, .unset, .unset] [(.ref q)])
  refine Go.step (fun _ k => XS.astoreN X0.here hx rfl (hb hby d7_9) rfl rfl (l' := #[.val (.ref q), .val (.int (1 : Int32)), .val (.ref q), .unset, .unset, .unset, .unset, .unset, .unset]) rfl k) ?_
  show Go _ _ _ _ _ _ _ T0 (mkF m 10 #[.val (.ref q), .val (.int (1 : Int32)), .val (.ref q), .unset, .unset, .unset, .unset, .unset, .unset] [])
  refine Go.step (fun _ k => XS.aloadN X0.here hx rfl (hb hby d7_10) rfl rfl k) ?_
  show Go _ _ _ _ _ _ _ T0 (mkF m 11 #[.val (.ref q), .val (.int (1 : Int32)), .val (.ref q), .unset, .unset, .unset, .unset, .unset, .unset] [(.ref q)])
  refine Go.alen X0 hx hZ e0 V_q (hb hby d7_11) ?_
  show Go _ _ _ _ _ _ _ T0 (mkF m 12 #[.val (.ref q), .val (.int (1 : Int32)), .val (.ref q), .unset, .unset, .unset, .unset, .unset, .unset] [(.int (1 : Int32))])
  refine Go.step (fun _ k => XS.istoreN X0.here hx rfl (hb hby d7_12) rfl (l' := #[.val (.ref q), .val (.int (1 : Int32)), .val (.ref q), .val (.int (1 : Int32)), .unset, .unset, .unset, .unset, .unset]) rfl k) ?_
  show Go _ _ _ _ _ _ _ T0 (mkF m 13 #[.val (.ref q), .val (.int (1 : Int32)), .val (.ref q), .val (.int (1 : Int32)), .unset, .unset, .unset, .unset, .unset] [])
  refine Go.step (fun _ k => XS.iconst X0.here hx rfl (hb hby d7_13) k) ?_
  show Go _ _ _ _ _ _ _ T0 (mkF m 14 #[.val (.ref q), .val (.int (1 : Int32)), .val (.ref q), .val (.int (1 : Int32)), .unset, .unset, .unset, .unset, .unset] [(.int (0 : Int32))])
  refine Go.step (fun _ k => XS.istore X0.here hx rfl (hb hby d7_14) rfl (l' := #[.val (.ref q), .val (.int (1 : Int32)), .val (.ref q), .val (.int (1 : Int32)), .val (.int (0 : Int32)), .unset, .unset, .unset, .unset]) rfl k) ?_
  show Go _ _ _ _ _ _ _ T0 (mkF m 16 #[.val (.ref q), .val (.int (1 : Int32)), .val (.ref q), .val (.int (1 : Int32)), .val (.int (0 : Int32)), .unset, .unset, .unset, .unset] [])
  refine Go.step (fun _ k => XS.iload X0.here hx rfl (hb hby d7_16) rfl k) ?_
  show Go _ _ _ _ _ _ _ T0 (mkF m 18 #[.val (.ref q), .val (.int (1 : Int32)), .val (.ref q), .val (.int (1 : Int32)), .val (.int (0 : Int32)), .unset, .unset, .unset, .unset] [(.int (0 : Int32))])
  refine Go.step (fun _ k => XS.iloadN X0.here hx rfl (hb hby d7_18) rfl k) ?_
  show Go _ _ _ _ _ _ _ T0 (mkF m 19 #[.val (.ref q), .val (.int (1 : Int32)), .val (.ref q), .val (.int (1 : Int32)), .val (.int (0 : Int32)), .unset, .unset, .unset, .unset] [(.int (1 : Int32)), (.int (0 : Int32))])
  refine Go.step (fun _ k => XS.icmpNo X0.here hx rfl (hb hby d7_19) rfl (tlt (by decide : (0 : Int32) < (1 : Int32))).2.1 k) ?_
  show Go _ _ _ _ _ _ _ T0 (mkF m 22 #[.val (.ref q), .val (.int (1 : Int32)), .val (.ref q), .val (.int (1 : Int32)), .val (.int (0 : Int32)), .unset, .unset, .unset, .unset] [])
  refine Go.step (fun _ k => XS.aloadN X0.here hx rfl (hb hby d7_22) rfl rfl k) ?_
  show Go _ _ _ _ _ _ _ T0 (mkF m 23 #[.val (.ref q), .val (.int (1 : Int32)), .val (.ref q), .val (.int (1 : Int32)), .val (.int (0 : Int32)), .unset, .unset, .unset, .unset] [(.ref q)])
  refine Go.step (fun _ k => XS.iload X0.here hx rfl (hb hby d7_23) rfl k) ?_
  show Go _ _ _ _ _ _ _ T0 (mkF m 25 #[.val (.ref q), .val (.int (1 : Int32)), .val (.ref q), .val (.int (1 : Int32)), .val (.int (0 : Int32)), .unset, .unset, .unset, .unset] [(.int (0 : Int32)), (.ref q)])
  refine Go.daload X0 hx hZ e0 V_q (j := (0 : Int32)) (v := (g 0)) (by decide) rfl (hb hby d7_25) ?_
  show Go _ _ _ _ _ _ _ T0 (mkF m 26 #[.val (.ref q), .val (.int (1 : Int32)), .val (.ref q), .val (.int (1 : Int32)), .val (.int (0 : Int32)), .unset, .unset, .unset, .unset] [(.double (g 0))])
  refine Go.step (fun _ k => XS.dstore X0.here hx rfl (hb hby d7_26) rfl (l' := #[.val (.ref q), .val (.int (1 : Int32)), .val (.ref q), .val (.int (1 : Int32)), .val (.int (0 : Int32)), .val (.double (g 0)), .second, .unset, .unset]) rfl k) ?_
  show Go _ _ _ _ _ _ _ T0 (mkF m 28 #[.val (.ref q), .val (.int (1 : Int32)), .val (.ref q), .val (.int (1 : Int32)), .val (.int (0 : Int32)), .val (.double (g 0)), .second, .unset, .unset] [])
  refine Go.step (fun _ k => XS.dload X0.here hx rfl (hb hby d7_28) rfl k) ?_
  show Go _ _ _ _ _ _ _ T0 (mkF m 30 #[.val (.ref q), .val (.int (1 : Int32)), .val (.ref q), .val (.int (1 : Int32)), .val (.int (0 : Int32)), .val (.double (g 0)), .second, .unset, .unset] [(.double (g 0))])
  refine Go.callS X0 hx hZ (by rw [hml]; rfl) (y := (⟨"java/lang/Double", "doubleToLongBits", "(D)J"⟩ : MethodName)) (argsL := [(.double (g 0))]) (rest := []) hown (hw _ (List.mem_of_getElem? (i := 62) rfl)) (hw _ (List.mem_of_getElem? (i := 63) rfl)) (hw _ (List.mem_of_getElem? (i := 46) rfl)) (hw _ (List.mem_of_getElem? (i := 64) rfl)) (by decide) (rm8 l Z a0 hw (g 0) h0 n0 Z0 (hn 0 (by decide))) e0 (hb hby d7_30) (lenOf pd_2 rfl) rfl rfl (W := 0) (Nat.le_of_eq rfl) (by decide) (by decide) (by decide) (by decide) ?_
  intro v1 T1 L1 X1 Q1
  obtain ⟨rfl, N1q, hh1⟩ := Q1
  have N1 := Fr.app N0 N1q
  show Go _ _ _ _ _ _ _ T1 (mkF m 33 #[.val (.ref q), .val (.int (1 : Int32)), .val (.ref q), .val (.int (1 : Int32)), .val (.int (0 : Int32)), .val (.double (g 0)), .second, .unset, .unset] [(.long ((g 0)).toInt64)])
  refine Go.step (fun _ k => XS.lstore X1.here hx rfl (hb hby d7_33) rfl (l' := #[.val (.ref q), .val (.int (1 : Int32)), .val (.ref q), .val (.int (1 : Int32)), .val (.int (0 : Int32)), .val (.double (g 0)), .second, .val (.long ((g 0)).toInt64), .second]) rfl k) ?_
  show Go _ _ _ _ _ _ _ T1 (mkF m 35 #[.val (.ref q), .val (.int (1 : Int32)), .val (.ref q), .val (.int (1 : Int32)), .val (.int (0 : Int32)), .val (.double (g 0)), .second, .val (.long ((g 0)).toInt64), .second] [])
  refine Go.step (fun _ k => XS.bipush X1.here hx rfl (hb hby d7_35) k) ?_
  show Go _ _ _ _ _ _ _ T1 (mkF m 37 #[.val (.ref q), .val (.int (1 : Int32)), .val (.ref q), .val (.int (1 : Int32)), .val (.int (0 : Int32)), .val (.double (g 0)), .second, .val (.long ((g 0)).toInt64), .second] [(.int (31 : Int32))])
  refine Go.step (fun _ k => XS.iloadN X1.here hx rfl (hb hby d7_37) rfl k) ?_
  show Go _ _ _ _ _ _ _ T1 (mkF m 38 #[.val (.ref q), .val (.int (1 : Int32)), .val (.ref q), .val (.int (1 : Int32)), .val (.int (0 : Int32)), .val (.double (g 0)), .second, .val (.long ((g 0)).toInt64), .second] [(.int (1 : Int32)), (.int (31 : Int32))])
  refine Go.step (fun _ k => XS.imul X1.here hx rfl (hb hby d7_38) rfl k) ?_
  show Go _ _ _ _ _ _ _ T1 (mkF m 39 #[.val (.ref q), .val (.int (1 : Int32)), .val (.ref q), .val (.int (1 : Int32)), .val (.int (0 : Int32)), .val (.double (g 0)), .second, .val (.long ((g 0)).toInt64), .second] [(.int (31 : Int32))])
  refine Go.step (fun _ k => XS.lload X1.here hx rfl (hb hby d7_39) rfl k) ?_
  show Go _ _ _ _ _ _ _ T1 (mkF m 41 #[.val (.ref q), .val (.int (1 : Int32)), .val (.ref q), .val (.int (1 : Int32)), .val (.int (0 : Int32)), .val (.double (g 0)), .second, .val (.long ((g 0)).toInt64), .second] [(.long ((g 0)).toInt64), (.int (31 : Int32))])
  refine Go.step (fun _ k => XS.lload X1.here hx rfl (hb hby d7_41) rfl k) ?_
  show Go _ _ _ _ _ _ _ T1 (mkF m 43 #[.val (.ref q), .val (.int (1 : Int32)), .val (.ref q), .val (.int (1 : Int32)), .val (.int (0 : Int32)), .val (.double (g 0)), .second, .val (.long ((g 0)).toInt64), .second] [(.long ((g 0)).toInt64), (.long ((g 0)).toInt64), (.int (31 : Int32))])
  refine Go.step (fun _ k => XS.bipush X1.here hx rfl (hb hby d7_43) k) ?_
  show Go _ _ _ _ _ _ _ T1 (mkF m 45 #[.val (.ref q), .val (.int (1 : Int32)), .val (.ref q), .val (.int (1 : Int32)), .val (.int (0 : Int32)), .val (.double (g 0)), .second, .val (.long ((g 0)).toInt64), .second] [(.int (32 : Int32)), (.long ((g 0)).toInt64), (.long ((g 0)).toInt64), (.int (31 : Int32))])
  refine Go.step (fun _ k => XS.lushr X1.here hx rfl (hb hby d7_45) rfl k) ?_
  show Go _ _ _ _ _ _ _ T1 (mkF m 46 #[.val (.ref q), .val (.int (1 : Int32)), .val (.ref q), .val (.int (1 : Int32)), .val (.int (0 : Int32)), .val (.double (g 0)), .second, .val (.long ((g 0)).toInt64), .second] [(.long ((((g 0)).toInt64.toUInt64 >>> ((32 : Int32) &&& 0x3f).toInt64.toUInt64).toInt64)), (.long ((g 0)).toInt64), (.int (31 : Int32))])
  refine Go.step (fun _ k => XS.lxor X1.here hx rfl (hb hby d7_46) rfl k) ?_
  show Go _ _ _ _ _ _ _ T1 (mkF m 47 #[.val (.ref q), .val (.int (1 : Int32)), .val (.ref q), .val (.int (1 : Int32)), .val (.int (0 : Int32)), .val (.double (g 0)), .second, .val (.long ((g 0)).toInt64), .second] [(.long (((g 0)).toInt64 ^^^ ((((g 0)).toInt64.toUInt64 >>> ((32 : Int32) &&& 0x3f).toInt64.toUInt64).toInt64))), (.int (31 : Int32))])
  refine Go.step (fun _ k => XS.l2i X1.here hx rfl (hb hby d7_47) rfl k) ?_
  show Go _ _ _ _ _ _ _ T1 (mkF m 48 #[.val (.ref q), .val (.int (1 : Int32)), .val (.ref q), .val (.int (1 : Int32)), .val (.int (0 : Int32)), .val (.double (g 0)), .second, .val (.long ((g 0)).toInt64), .second] [(.int ((((g 0)).toInt64 ^^^ ((((g 0)).toInt64.toUInt64 >>> ((32 : Int32) &&& 0x3f).toInt64.toUInt64).toInt64)).toInt32)), (.int (31 : Int32))])
  refine Go.step (fun _ k => XS.iadd X1.here hx rfl (hb hby d7_48) rfl k) ?_
  show Go _ _ _ _ _ _ _ T1 (mkF m 49 #[.val (.ref q), .val (.int (1 : Int32)), .val (.ref q), .val (.int (1 : Int32)), .val (.int (0 : Int32)), .val (.double (g 0)), .second, .val (.long ((g 0)).toInt64), .second] [(.int ((31 : Int32) + ((((g 0)).toInt64 ^^^ ((((g 0)).toInt64.toUInt64 >>> ((32 : Int32) &&& 0x3f).toInt64.toUInt64).toInt64)).toInt32)))])
  refine Go.step (fun _ k => XS.istoreN X1.here hx rfl (hb hby d7_49) rfl (l' := #[.val (.ref q), .val (.int ((31 : Int32) + ((((g 0)).toInt64 ^^^ ((((g 0)).toInt64.toUInt64 >>> ((32 : Int32) &&& 0x3f).toInt64.toUInt64).toInt64)).toInt32))), .val (.ref q), .val (.int (1 : Int32)), .val (.int (0 : Int32)), .val (.double (g 0)), .second, .val (.long ((g 0)).toInt64), .second]) rfl k) ?_
  show Go _ _ _ _ _ _ _ T1 (mkF m 50 #[.val (.ref q), .val (.int ((31 : Int32) + ((((g 0)).toInt64 ^^^ ((((g 0)).toInt64.toUInt64 >>> ((32 : Int32) &&& 0x3f).toInt64.toUInt64).toInt64)).toInt32))), .val (.ref q), .val (.int (1 : Int32)), .val (.int (0 : Int32)), .val (.double (g 0)), .second, .val (.long ((g 0)).toInt64), .second] [])
  refine Go.step (fun _ k => XS.iinc X1.here hx rfl (hb hby d7_50) rfl (l' := #[.val (.ref q), .val (.int ((31 : Int32) + ((((g 0)).toInt64 ^^^ ((((g 0)).toInt64.toUInt64 >>> ((32 : Int32) &&& 0x3f).toInt64.toUInt64).toInt64)).toInt32))), .val (.ref q), .val (.int (1 : Int32)), .val (.int (1 : Int32)), .val (.double (g 0)), .second, .val (.long ((g 0)).toInt64), .second]) rfl k) ?_
  show Go _ _ _ _ _ _ _ T1 (mkF m 53 #[.val (.ref q), .val (.int ((31 : Int32) + ((((g 0)).toInt64 ^^^ ((((g 0)).toInt64.toUInt64 >>> ((32 : Int32) &&& 0x3f).toInt64.toUInt64).toInt64)).toInt32))), .val (.ref q), .val (.int (1 : Int32)), .val (.int (1 : Int32)), .val (.double (g 0)), .second, .val (.long ((g 0)).toInt64), .second] [])
  refine Go.step (fun _ k => XS.goto X1.here hx rfl (pc0 := 53) (pc' := 16) rfl (hb hby d7_53) (by decide) (by decide) k) ?_
  show Go _ _ _ _ _ _ _ T1 (mkF m 16 #[.val (.ref q), .val (.int ((31 : Int32) + ((((g 0)).toInt64 ^^^ ((((g 0)).toInt64.toUInt64 >>> ((32 : Int32) &&& 0x3f).toInt64.toUInt64).toInt64)).toInt32))), .val (.ref q), .val (.int (1 : Int32)), .val (.int (1 : Int32)), .val (.double (g 0)), .second, .val (.long ((g 0)).toInt64), .second] [])
  refine Go.step (fun _ k => XS.iload X1.here hx rfl (hb hby d7_16) rfl k) ?_
  show Go _ _ _ _ _ _ _ T1 (mkF m 18 #[.val (.ref q), .val (.int ((31 : Int32) + ((((g 0)).toInt64 ^^^ ((((g 0)).toInt64.toUInt64 >>> ((32 : Int32) &&& 0x3f).toInt64.toUInt64).toInt64)).toInt32))), .val (.ref q), .val (.int (1 : Int32)), .val (.int (1 : Int32)), .val (.double (g 0)), .second, .val (.long ((g 0)).toInt64), .second] [(.int (1 : Int32))])
  refine Go.step (fun _ k => XS.iloadN X1.here hx rfl (hb hby d7_18) rfl k) ?_
  show Go _ _ _ _ _ _ _ T1 (mkF m 19 #[.val (.ref q), .val (.int ((31 : Int32) + ((((g 0)).toInt64 ^^^ ((((g 0)).toInt64.toUInt64 >>> ((32 : Int32) &&& 0x3f).toInt64.toUInt64).toInt64)).toInt32))), .val (.ref q), .val (.int (1 : Int32)), .val (.int (1 : Int32)), .val (.double (g 0)), .second, .val (.long ((g 0)).toInt64), .second] [(.int (1 : Int32)), (.int (1 : Int32))])
  refine Go.step (fun _ k => XS.icmpYes X1.here hx rfl (pc0 := 19) (pc' := 56) rfl (hb hby d7_19) rfl (flt (by decide : ¬ ((1 : Int32) < (1 : Int32)))).2.1 (by decide) (by decide) k) ?_
  show Go _ _ _ _ _ _ _ T1 (mkF m 56 #[.val (.ref q), .val (.int ((31 : Int32) + ((((g 0)).toInt64 ^^^ ((((g 0)).toInt64.toUInt64 >>> ((32 : Int32) &&& 0x3f).toInt64.toUInt64).toInt64)).toInt32))), .val (.ref q), .val (.int (1 : Int32)), .val (.int (1 : Int32)), .val (.double (g 0)), .second, .val (.long ((g 0)).toInt64), .second] [])
  refine Go.step (fun _ k => XS.iloadN X1.here hx rfl (hb hby d7_56) rfl k) ?_
  show Go _ _ _ _ _ _ _ T1 (mkF m 57 #[.val (.ref q), .val (.int ((31 : Int32) + ((((g 0)).toInt64 ^^^ ((((g 0)).toInt64.toUInt64 >>> ((32 : Int32) &&& 0x3f).toInt64.toUInt64).toInt64)).toInt32))), .val (.ref q), .val (.int (1 : Int32)), .val (.int (1 : Int32)), .val (.double (g 0)), .second, .val (.long ((g 0)).toInt64), .second] [(.int ((31 : Int32) + ((((g 0)).toInt64 ^^^ ((((g 0)).toInt64.toUInt64 >>> ((32 : Int32) &&& 0x3f).toInt64.toUInt64).toInt64)).toInt32)))])
  refine Go.retI X1 hx hlk hret (hb hby d7_57) (by decide) (by decide) ?_
  try rw [hh1]
  exact ⟨rfl, N1, rfl⟩
theorem pn_7 : plainName "java/util/Arrays" = true := by first | (simp [plainName, overriddenIn]; done) | decide +kernel
theorem ef_rm7_1 (m : MethodId) (q : Addr) : entryFrame m #[(.ref q)] 9 = mkF m 0 #[.val (.ref q), .unset, .unset, .unset, .unset, .unset, .unset, .unset, .unset] [] := by first | (simp [entryFrame, mkF, argsToLocals, Value.category]; done) | rfl
theorem rm7_1 (l : Launch) (Z : State) (a0 : Array Value) (hw : ∀ d ∈ tables_1, d.before a0 Z = true) (q : Addr) (g : Nat → UInt64) (h0 : Heap) (n0 : Nat) (Z0 : n0 ≤ h0.size) (V_q : Dv Z h0 q (1 : Int32) g) (hn : ∀ i, i < 1 → Jvm.Free.Fl.NoNaN64 (g i)) :
    Con l Z (⟨"java/util/Arrays", "hashCode", "([D)I"⟩ : MethodName) jdk_65_method_156_code 9 (some .int) ({ frames := 2, cells := 0, slots := 0, locals := 60 } : Room) #[(.ref q)] h0 (fun r h L => r = some (.int (hashW 1 g)) ∧ Fr n0 L ∧ h = h0) :=
  con_of (plainFor_of_name pn_7) (fun p_ e_ s_ m_ b_ meth_ c_ T_ X_ hx hZ hby hml hown hnm hret hlk e0 => Go.cast (ef_rm7_1 m_ q) (w7_1 q g X_ hx hZ hw hby hml hown hnm hret hlk e0 Z0 (Fr.nil n0) V_q hn))
theorem d6_0 : decode prog_33_method_9_code 0 = .ok (.bipush 31, 2) := by decide +kernel
theorem d6_2 : decode prog_33_method_9_code 2 = .ok (.aload_n 0, 1) := by decide +kernel
theorem d6_3 : decode prog_33_method_9_code 3 = .ok (.getfield 16, 3) := by decide +kernel
theorem d6_6 : decode prog_33_method_9_code 6 = .ok (.imul, 1) := by decide +kernel
theorem d6_7 : decode prog_33_method_9_code 7 = .ok (.aload_n 0, 1) := by decide +kernel
theorem d6_8 : decode prog_33_method_9_code 8 = .ok (.getfield 28, 3) := by decide +kernel
theorem d6_11 : decode prog_33_method_9_code 11 = .ok (.invokestatic 92, 3) := by decide +kernel
theorem pd_3 : parseMethodDescriptor "([D)I" = some ⟨[(.array .double)], some .int⟩ := by decide +kernel
theorem d6_14 : decode prog_33_method_9_code 14 = .ok (.iadd, 1) := by decide +kernel
theorem d6_15 : decode prog_33_method_9_code 15 = .ok (.ireturn, 1) := by decide +kernel
set_option maxRecDepth 65536 in
set_option maxHeartbeats 40000000 in
theorem w6_1 {p : Program} {l : Launch} {e : Env} {s : State} {m : MethodId} {args : Array Value} {below : List Frame} {meth : Method} {c_ : Code} {T0 : State} {locs : List Loc} {Z : State} {a0 : Array Value} {h0 : Heap} {n0 : Nat} (a c : Addr) (K : Int32) (g : Nat → UInt64)
    (X0 : Stand p l e ({ frames := 3, cells := 0, slots := 0, locals := 90 } : Room) s m args below meth c_ T0 locs 0 0) (hx : p.tables.exec = Jvm.exec) (hZ : Z.Warmed39 s.vm) (hw : ∀ d ∈ tables_1, d.before a0 Z = true) (hby : c_.code = prog_33_method_9_code) (hml : c_.maxLocals = 1) (hown : s.vm.findClass "tidewatch/decision/KeyGroupCeiling" = some m.cls) (hnm : meth.name = "hashCode") (hret : meth.sig.returnType = some .int) (hlk : meth.locks = false) (e0 : T0.heap = h0) (Z0 : n0 ≤ h0.size) (N0 : Fr n0 locs) (F_keyGroups_a : Fld Z h0 a "tidewatch/decision/KeyGroupCeiling" "keyGroups" "I" (.int K)) (F_shares_a : Fld Z h0 a "tidewatch/decision/KeyGroupCeiling" "shares" "[D" (.ref c)) (V_c : Dv Z h0 c (1 : Int32) g) (hn : ∀ i, i < 1 → Jvm.Free.Fl.NoNaN64 (g i)) :
    Go p e below s ({ frames := 3, cells := 0, slots := 0, locals := 90 } : Room).cells ({ frames := 3, cells := 0, slots := 0, locals := 90 } : Room).slots (fun r h L => r = some (.int (((31 : Int32) * K) + hashW 1 g)) ∧ Fr n0 L ∧ h = h0) T0 (mkF m 0 #[.val (.ref a)] []) := by
  show Go _ _ _ _ _ _ _ T0 (mkF m 0 #[.val (.ref a)] [])
  refine Go.step (fun _ k => XS.bipush X0.here hx rfl (hb hby d6_0) k) ?_
  show Go _ _ _ _ _ _ _ T0 (mkF m 2 #[.val (.ref a)] [(.int (31 : Int32))])
  refine Go.step (fun _ k => XS.aloadN X0.here hx rfl (hb hby d6_2) rfl rfl k) ?_
  show Go _ _ _ _ _ _ _ T0 (mkF m 3 #[.val (.ref a)] [(.ref a), (.int (31 : Int32))])
  obtain ⟨T1, X1, e1, st1⟩ := getF X0 hx hZ hown (host := "") (Or.inl (hw _ (List.mem_of_getElem? (i := 29) rfl))) Via.refl e0 F_keyGroups_a (g := (mkF m 3 #[.val (.ref a)] [(.ref a), (.int (31 : Int32))])) rfl rfl (hb hby d6_3)
  refine Go.step st1 ?_
  show Go _ _ _ _ _ _ _ T1 (mkF m 6 #[.val (.ref a)] [(.int K), (.int (31 : Int32))])
  refine Go.step (fun _ k => XS.imul X1.here hx rfl (hb hby d6_6) rfl k) ?_
  show Go _ _ _ _ _ _ _ T1 (mkF m 7 #[.val (.ref a)] [(.int ((31 : Int32) * K))])
  refine Go.step (fun _ k => XS.aloadN X1.here hx rfl (hb hby d6_7) rfl rfl k) ?_
  show Go _ _ _ _ _ _ _ T1 (mkF m 8 #[.val (.ref a)] [(.ref a), (.int ((31 : Int32) * K))])
  obtain ⟨T2, X2, e2, st2⟩ := getF X1 hx hZ hown (host := "") (Or.inl (hw _ (List.mem_of_getElem? (i := 40) rfl))) Via.refl e1 F_shares_a (g := (mkF m 8 #[.val (.ref a)] [(.ref a), (.int ((31 : Int32) * K))])) rfl rfl (hb hby d6_8)
  refine Go.step st2 ?_
  show Go _ _ _ _ _ _ _ T2 (mkF m 11 #[.val (.ref a)] [(.ref c), (.int ((31 : Int32) * K))])
  refine Go.callS X2 hx hZ (by rw [hml]; rfl) (y := (⟨"java/util/Arrays", "hashCode", "([D)I"⟩ : MethodName)) (argsL := [(.ref c)]) (rest := [(.int ((31 : Int32) * K))]) hown (hw _ (List.mem_of_getElem? (i := 58) rfl)) (hw _ (List.mem_of_getElem? (i := 59) rfl)) (hw _ (List.mem_of_getElem? (i := 60) rfl)) (hw _ (List.mem_of_getElem? (i := 61) rfl)) (by decide) (rm7_1 l Z a0 hw c g h0 n0 Z0 V_c hn) e2 (hb hby d6_11) (lenOf pd_3 rfl) rfl rfl (W := 1) (Nat.le_of_eq rfl) (by decide) (by decide) (by decide) (by decide) ?_
  intro v3 T3 L3 X3 Q3
  obtain ⟨rfl, N3q, hh3⟩ := Q3
  have N3 := Fr.app N0 N3q
  show Go _ _ _ _ _ _ _ T3 (mkF m 14 #[.val (.ref a)] [(.int (hashW 1 g)), (.int ((31 : Int32) * K))])
  refine Go.step (fun _ k => XS.iadd X3.here hx rfl (hb hby d6_14) rfl k) ?_
  show Go _ _ _ _ _ _ _ T3 (mkF m 15 #[.val (.ref a)] [(.int (((31 : Int32) * K) + (hashW 1 g)))])
  refine Go.retI X3 hx hlk hret (hb hby d6_15) (by decide) (by decide) ?_
  try rw [hh3]
  exact ⟨rfl, N3, rfl⟩
theorem ef_rm6_1 (m : MethodId) (a : Addr) : entryFrame m #[(.ref a)] 1 = mkF m 0 #[.val (.ref a)] [] := by first | (simp [entryFrame, mkF, argsToLocals, Value.category]; done) | rfl
theorem rm6_1 (l : Launch) (Z : State) (a0 : Array Value) (hw : ∀ d ∈ tables_1, d.before a0 Z = true) (a c : Addr) (K : Int32) (g : Nat → UInt64) (h0 : Heap) (n0 : Nat) (Z0 : n0 ≤ h0.size) (F_keyGroups_a : Fld Z h0 a "tidewatch/decision/KeyGroupCeiling" "keyGroups" "I" (.int K)) (F_shares_a : Fld Z h0 a "tidewatch/decision/KeyGroupCeiling" "shares" "[D" (.ref c)) (V_c : Dv Z h0 c (1 : Int32) g) (hn : ∀ i, i < 1 → Jvm.Free.Fl.NoNaN64 (g i)) :
    Con l Z (⟨"tidewatch/decision/KeyGroupCeiling", "hashCode", "()I"⟩ : MethodName) prog_33_method_9_code 1 (some .int) ({ frames := 3, cells := 0, slots := 0, locals := 90 } : Room) #[(.ref a)] h0 (fun r h L => r = some (.int (((31 : Int32) * K) + hashW 1 g)) ∧ Fr n0 L ∧ h = h0) :=
  con_of (plainFor_of_name pn_2) (fun p_ e_ s_ m_ b_ meth_ c_ T_ X_ hx hZ hby hml hown hnm hret hlk e0 => Go.cast (ef_rm6_1 m_ a) (w6_1 a c K g X_ hx hZ hw hby hml hown hnm hret hlk e0 Z0 (Fr.nil n0) F_keyGroups_a F_shares_a V_c hn))
set_option maxRecDepth 65536 in
set_option maxHeartbeats 40000000 in
theorem w7_2 {p : Program} {l : Launch} {e : Env} {s : State} {m : MethodId} {args : Array Value} {below : List Frame} {meth : Method} {c_ : Code} {T0 : State} {locs : List Loc} {Z : State} {a0 : Array Value} {h0 : Heap} {n0 : Nat} (q : Addr) (g : Nat → UInt64)
    (X0 : Stand p l e ({ frames := 2, cells := 0, slots := 0, locals := 60 } : Room) s m args below meth c_ T0 locs 0 0) (hx : p.tables.exec = Jvm.exec) (hZ : Z.Warmed39 s.vm) (hw : ∀ d ∈ tables_1, d.before a0 Z = true) (hby : c_.code = jdk_65_method_156_code) (hml : c_.maxLocals = 9) (hown : s.vm.findClass "java/util/Arrays" = some m.cls) (hnm : meth.name = "hashCode") (hret : meth.sig.returnType = some .int) (hlk : meth.locks = false) (e0 : T0.heap = h0) (Z0 : n0 ≤ h0.size) (N0 : Fr n0 locs) (V_q : Dv Z h0 q (2 : Int32) g) (hn : ∀ i, i < 2 → Jvm.Free.Fl.NoNaN64 (g i)) :
    Go p e below s ({ frames := 2, cells := 0, slots := 0, locals := 60 } : Room).cells ({ frames := 2, cells := 0, slots := 0, locals := 60 } : Room).slots (fun r h L => r = some (.int (hashW 2 g)) ∧ Fr n0 L ∧ h = h0) T0 (mkF m 0 #[.val (.ref q), .unset, .unset, .unset, .unset, .unset, .unset, .unset, .unset] []) := by
  show Go _ _ _ _ _ _ _ T0 (mkF m 0 #[.val (.ref q), .unset, .unset, .unset, .unset, .unset, .unset, .unset, .unset] [])
  refine Go.step (fun _ k => XS.aloadN X0.here hx rfl (hb hby d7_0) rfl rfl k) ?_
  show Go _ _ _ _ _ _ _ T0 (mkF m 1 #[.val (.ref q), .unset, .unset, .unset, .unset, .unset, .unset, .unset, .unset] [(.ref q)])
  refine Go.step (fun _ k => XS.ifnonnullYes X0.here hx rfl (pc0 := 1) (pc' := 6) rfl (hb hby d7_1) rfl (by decide) (by decide) k) ?_
  show Go _ _ _ _ _ _ _ T0 (mkF m 6 #[.val (.ref q), .unset, .unset, .unset, .unset, .unset, .unset, .unset, .unset] [])
  refine Go.step (fun _ k => XS.iconst X0.here hx rfl (hb hby d7_6) k) ?_
  show Go _ _ _ _ _ _ _ T0 (mkF m 7 #[.val (.ref q), .unset, .unset, .unset, .unset, .unset, .unset, .unset, .unset] [(.int (1 : Int32))])
  refine Go.step (fun _ k => XS.istoreN X0.here hx rfl (hb hby d7_7) rfl (l' := #[.val (.ref q), .val (.int (1 : Int32)), .unset, .unset, .unset, .unset, .unset, .unset, .unset]) rfl k) ?_
  show Go _ _ _ _ _ _ _ T0 (mkF m 8 #[.val (.ref q), .val (.int (1 : Int32)), .unset, .unset, .unset, .unset, .unset, .unset, .unset] [])
  refine Go.step (fun _ k => XS.aloadN X0.here hx rfl (hb hby d7_8) rfl rfl k) ?_
  show Go _ _ _ _ _ _ _ T0 (mkF m 9 #[.val (.ref q), .val (.int (1 : Int32)), .unset, .unset, .unset, .unset, .unset, .unset, .unset] [(.ref q)])
  refine Go.step (fun _ k => XS.astoreN X0.here hx rfl (hb hby d7_9) rfl rfl (l' := #[.val (.ref q), .val (.int (1 : Int32)), .val (.ref q), .unset, .unset, .unset, .unset, .unset, .unset]) rfl k) ?_
  show Go _ _ _ _ _ _ _ T0 (mkF m 10 #[.val (.ref q), .val (.int (1 : Int32)), .val (.ref q), .unset, .unset, .unset, .unset, .unset, .unset] [])
  refine Go.step (fun _ k => XS.aloadN X0.here hx rfl (hb hby d7_10) rfl rfl k) ?_
  show Go _ _ _ _ _ _ _ T0 (mkF m 11 #[.val (.ref q), .val (.int (1 : Int32)), .val (.ref q), .unset, .unset, .unset, .unset, .unset, .unset] [(.ref q)])
  refine Go.alen X0 hx hZ e0 V_q (hb hby d7_11) ?_
  show Go _ _ _ _ _ _ _ T0 (mkF m 12 #[.val (.ref q), .val (.int (1 : Int32)), .val (.ref q), .unset, .unset, .unset, .unset, .unset, .unset] [(.int (2 : Int32))])
  refine Go.step (fun _ k => XS.istoreN X0.here hx rfl (hb hby d7_12) rfl (l' := #[.val (.ref q), .val (.int (1 : Int32)), .val (.ref q), .val (.int (2 : Int32)), .unset, .unset, .unset, .unset, .unset]) rfl k) ?_
  show Go _ _ _ _ _ _ _ T0 (mkF m 13 #[.val (.ref q), .val (.int (1 : Int32)), .val (.ref q), .val (.int (2 : Int32)), .unset, .unset, .unset, .unset, .unset] [])
  refine Go.step (fun _ k => XS.iconst X0.here hx rfl (hb hby d7_13) k) ?_
  show Go _ _ _ _ _ _ _ T0 (mkF m 14 #[.val (.ref q), .val (.int (1 : Int32)), .val (.ref q), .val (.int (2 : Int32)), .unset, .unset, .unset, .unset, .unset] [(.int (0 : Int32))])
  refine Go.step (fun _ k => XS.istore X0.here hx rfl (hb hby d7_14) rfl (l' := #[.val (.ref q), .val (.int (1 : Int32)), .val (.ref q), .val (.int (2 : Int32)), .val (.int (0 : Int32)), .unset, .unset, .unset, .unset]) rfl k) ?_
  show Go _ _ _ _ _ _ _ T0 (mkF m 16 #[.val (.ref q), .val (.int (1 : Int32)), .val (.ref q), .val (.int (2 : Int32)), .val (.int (0 : Int32)), .unset, .unset, .unset, .unset] [])
  refine Go.step (fun _ k => XS.iload X0.here hx rfl (hb hby d7_16) rfl k) ?_
  show Go _ _ _ _ _ _ _ T0 (mkF m 18 #[.val (.ref q), .val (.int (1 : Int32)), .val (.ref q), .val (.int (2 : Int32)), .val (.int (0 : Int32)), .unset, .unset, .unset, .unset] [(.int (0 : Int32))])
  refine Go.step (fun _ k => XS.iloadN X0.here hx rfl (hb hby d7_18) rfl k) ?_
  show Go _ _ _ _ _ _ _ T0 (mkF m 19 #[.val (.ref q), .val (.int (1 : Int32)), .val (.ref q), .val (.int (2 : Int32)), .val (.int (0 : Int32)), .unset, .unset, .unset, .unset] [(.int (2 : Int32)), (.int (0 : Int32))])
  refine Go.step (fun _ k => XS.icmpNo X0.here hx rfl (hb hby d7_19) rfl (tlt (by decide : (0 : Int32) < (2 : Int32))).2.1 k) ?_
  show Go _ _ _ _ _ _ _ T0 (mkF m 22 #[.val (.ref q), .val (.int (1 : Int32)), .val (.ref q), .val (.int (2 : Int32)), .val (.int (0 : Int32)), .unset, .unset, .unset, .unset] [])
  refine Go.step (fun _ k => XS.aloadN X0.here hx rfl (hb hby d7_22) rfl rfl k) ?_
  show Go _ _ _ _ _ _ _ T0 (mkF m 23 #[.val (.ref q), .val (.int (1 : Int32)), .val (.ref q), .val (.int (2 : Int32)), .val (.int (0 : Int32)), .unset, .unset, .unset, .unset] [(.ref q)])
  refine Go.step (fun _ k => XS.iload X0.here hx rfl (hb hby d7_23) rfl k) ?_
  show Go _ _ _ _ _ _ _ T0 (mkF m 25 #[.val (.ref q), .val (.int (1 : Int32)), .val (.ref q), .val (.int (2 : Int32)), .val (.int (0 : Int32)), .unset, .unset, .unset, .unset] [(.int (0 : Int32)), (.ref q)])
  refine Go.daload X0 hx hZ e0 V_q (j := (0 : Int32)) (v := (g 0)) (by decide) rfl (hb hby d7_25) ?_
  show Go _ _ _ _ _ _ _ T0 (mkF m 26 #[.val (.ref q), .val (.int (1 : Int32)), .val (.ref q), .val (.int (2 : Int32)), .val (.int (0 : Int32)), .unset, .unset, .unset, .unset] [(.double (g 0))])
  refine Go.step (fun _ k => XS.dstore X0.here hx rfl (hb hby d7_26) rfl (l' := #[.val (.ref q), .val (.int (1 : Int32)), .val (.ref q), .val (.int (2 : Int32)), .val (.int (0 : Int32)), .val (.double (g 0)), .second, .unset, .unset]) rfl k) ?_
  show Go _ _ _ _ _ _ _ T0 (mkF m 28 #[.val (.ref q), .val (.int (1 : Int32)), .val (.ref q), .val (.int (2 : Int32)), .val (.int (0 : Int32)), .val (.double (g 0)), .second, .unset, .unset] [])
  refine Go.step (fun _ k => XS.dload X0.here hx rfl (hb hby d7_28) rfl k) ?_
  show Go _ _ _ _ _ _ _ T0 (mkF m 30 #[.val (.ref q), .val (.int (1 : Int32)), .val (.ref q), .val (.int (2 : Int32)), .val (.int (0 : Int32)), .val (.double (g 0)), .second, .unset, .unset] [(.double (g 0))])
  refine Go.callS X0 hx hZ (by rw [hml]; rfl) (y := (⟨"java/lang/Double", "doubleToLongBits", "(D)J"⟩ : MethodName)) (argsL := [(.double (g 0))]) (rest := []) hown (hw _ (List.mem_of_getElem? (i := 62) rfl)) (hw _ (List.mem_of_getElem? (i := 63) rfl)) (hw _ (List.mem_of_getElem? (i := 46) rfl)) (hw _ (List.mem_of_getElem? (i := 64) rfl)) (by decide) (rm8 l Z a0 hw (g 0) h0 n0 Z0 (hn 0 (by decide))) e0 (hb hby d7_30) (lenOf pd_2 rfl) rfl rfl (W := 0) (Nat.le_of_eq rfl) (by decide) (by decide) (by decide) (by decide) ?_
  intro v1 T1 L1 X1 Q1
  obtain ⟨rfl, N1q, hh1⟩ := Q1
  have N1 := Fr.app N0 N1q
  show Go _ _ _ _ _ _ _ T1 (mkF m 33 #[.val (.ref q), .val (.int (1 : Int32)), .val (.ref q), .val (.int (2 : Int32)), .val (.int (0 : Int32)), .val (.double (g 0)), .second, .unset, .unset] [(.long ((g 0)).toInt64)])
  refine Go.step (fun _ k => XS.lstore X1.here hx rfl (hb hby d7_33) rfl (l' := #[.val (.ref q), .val (.int (1 : Int32)), .val (.ref q), .val (.int (2 : Int32)), .val (.int (0 : Int32)), .val (.double (g 0)), .second, .val (.long ((g 0)).toInt64), .second]) rfl k) ?_
  show Go _ _ _ _ _ _ _ T1 (mkF m 35 #[.val (.ref q), .val (.int (1 : Int32)), .val (.ref q), .val (.int (2 : Int32)), .val (.int (0 : Int32)), .val (.double (g 0)), .second, .val (.long ((g 0)).toInt64), .second] [])
  refine Go.step (fun _ k => XS.bipush X1.here hx rfl (hb hby d7_35) k) ?_
  show Go _ _ _ _ _ _ _ T1 (mkF m 37 #[.val (.ref q), .val (.int (1 : Int32)), .val (.ref q), .val (.int (2 : Int32)), .val (.int (0 : Int32)), .val (.double (g 0)), .second, .val (.long ((g 0)).toInt64), .second] [(.int (31 : Int32))])
  refine Go.step (fun _ k => XS.iloadN X1.here hx rfl (hb hby d7_37) rfl k) ?_
  show Go _ _ _ _ _ _ _ T1 (mkF m 38 #[.val (.ref q), .val (.int (1 : Int32)), .val (.ref q), .val (.int (2 : Int32)), .val (.int (0 : Int32)), .val (.double (g 0)), .second, .val (.long ((g 0)).toInt64), .second] [(.int (1 : Int32)), (.int (31 : Int32))])
  refine Go.step (fun _ k => XS.imul X1.here hx rfl (hb hby d7_38) rfl k) ?_
  show Go _ _ _ _ _ _ _ T1 (mkF m 39 #[.val (.ref q), .val (.int (1 : Int32)), .val (.ref q), .val (.int (2 : Int32)), .val (.int (0 : Int32)), .val (.double (g 0)), .second, .val (.long ((g 0)).toInt64), .second] [(.int (31 : Int32))])
  refine Go.step (fun _ k => XS.lload X1.here hx rfl (hb hby d7_39) rfl k) ?_
  show Go _ _ _ _ _ _ _ T1 (mkF m 41 #[.val (.ref q), .val (.int (1 : Int32)), .val (.ref q), .val (.int (2 : Int32)), .val (.int (0 : Int32)), .val (.double (g 0)), .second, .val (.long ((g 0)).toInt64), .second] [(.long ((g 0)).toInt64), (.int (31 : Int32))])
  refine Go.step (fun _ k => XS.lload X1.here hx rfl (hb hby d7_41) rfl k) ?_
  show Go _ _ _ _ _ _ _ T1 (mkF m 43 #[.val (.ref q), .val (.int (1 : Int32)), .val (.ref q), .val (.int (2 : Int32)), .val (.int (0 : Int32)), .val (.double (g 0)), .second, .val (.long ((g 0)).toInt64), .second] [(.long ((g 0)).toInt64), (.long ((g 0)).toInt64), (.int (31 : Int32))])
  refine Go.step (fun _ k => XS.bipush X1.here hx rfl (hb hby d7_43) k) ?_
  show Go _ _ _ _ _ _ _ T1 (mkF m 45 #[.val (.ref q), .val (.int (1 : Int32)), .val (.ref q), .val (.int (2 : Int32)), .val (.int (0 : Int32)), .val (.double (g 0)), .second, .val (.long ((g 0)).toInt64), .second] [(.int (32 : Int32)), (.long ((g 0)).toInt64), (.long ((g 0)).toInt64), (.int (31 : Int32))])
  refine Go.step (fun _ k => XS.lushr X1.here hx rfl (hb hby d7_45) rfl k) ?_
  show Go _ _ _ _ _ _ _ T1 (mkF m 46 #[.val (.ref q), .val (.int (1 : Int32)), .val (.ref q), .val (.int (2 : Int32)), .val (.int (0 : Int32)), .val (.double (g 0)), .second, .val (.long ((g 0)).toInt64), .second] [(.long ((((g 0)).toInt64.toUInt64 >>> ((32 : Int32) &&& 0x3f).toInt64.toUInt64).toInt64)), (.long ((g 0)).toInt64), (.int (31 : Int32))])
  refine Go.step (fun _ k => XS.lxor X1.here hx rfl (hb hby d7_46) rfl k) ?_
  show Go _ _ _ _ _ _ _ T1 (mkF m 47 #[.val (.ref q), .val (.int (1 : Int32)), .val (.ref q), .val (.int (2 : Int32)), .val (.int (0 : Int32)), .val (.double (g 0)), .second, .val (.long ((g 0)).toInt64), .second] [(.long (((g 0)).toInt64 ^^^ ((((g 0)).toInt64.toUInt64 >>> ((32 : Int32) &&& 0x3f).toInt64.toUInt64).toInt64))), (.int (31 : Int32))])
  refine Go.step (fun _ k => XS.l2i X1.here hx rfl (hb hby d7_47) rfl k) ?_
  show Go _ _ _ _ _ _ _ T1 (mkF m 48 #[.val (.ref q), .val (.int (1 : Int32)), .val (.ref q), .val (.int (2 : Int32)), .val (.int (0 : Int32)), .val (.double (g 0)), .second, .val (.long ((g 0)).toInt64), .second] [(.int ((((g 0)).toInt64 ^^^ ((((g 0)).toInt64.toUInt64 >>> ((32 : Int32) &&& 0x3f).toInt64.toUInt64).toInt64)).toInt32)), (.int (31 : Int32))])
  refine Go.step (fun _ k => XS.iadd X1.here hx rfl (hb hby d7_48) rfl k) ?_
  show Go _ _ _ _ _ _ _ T1 (mkF m 49 #[.val (.ref q), .val (.int (1 : Int32)), .val (.ref q), .val (.int (2 : Int32)), .val (.int (0 : Int32)), .val (.double (g 0)), .second, .val (.long ((g 0)).toInt64), .second] [(.int ((31 : Int32) + ((((g 0)).toInt64 ^^^ ((((g 0)).toInt64.toUInt64 >>> ((32 : Int32) &&& 0x3f).toInt64.toUInt64).toInt64)).toInt32)))])
  refine Go.step (fun _ k => XS.istoreN X1.here hx rfl (hb hby d7_49) rfl (l' := #[.val (.ref q), .val (.int ((31 : Int32) + ((((g 0)).toInt64 ^^^ ((((g 0)).toInt64.toUInt64 >>> ((32 : Int32) &&& 0x3f).toInt64.toUInt64).toInt64)).toInt32))), .val (.ref q), .val (.int (2 : Int32)), .val (.int (0 : Int32)), .val (.double (g 0)), .second, .val (.long ((g 0)).toInt64), .second]) rfl k) ?_
  show Go _ _ _ _ _ _ _ T1 (mkF m 50 #[.val (.ref q), .val (.int ((31 : Int32) + ((((g 0)).toInt64 ^^^ ((((g 0)).toInt64.toUInt64 >>> ((32 : Int32) &&& 0x3f).toInt64.toUInt64).toInt64)).toInt32))), .val (.ref q), .val (.int (2 : Int32)), .val (.int (0 : Int32)), .val (.double (g 0)), .second, .val (.long ((g 0)).toInt64), .second] [])
  refine Go.step (fun _ k => XS.iinc X1.here hx rfl (hb hby d7_50) rfl (l' := #[.val (.ref q), .val (.int ((31 : Int32) + ((((g 0)).toInt64 ^^^ ((((g 0)).toInt64.toUInt64 >>> ((32 : Int32) &&& 0x3f).toInt64.toUInt64).toInt64)).toInt32))), .val (.ref q), .val (.int (2 : Int32)), .val (.int (1 : Int32)), .val (.double (g 0)), .second, .val (.long ((g 0)).toInt64), .second]) rfl k) ?_
  show Go _ _ _ _ _ _ _ T1 (mkF m 53 #[.val (.ref q), .val (.int ((31 : Int32) + ((((g 0)).toInt64 ^^^ ((((g 0)).toInt64.toUInt64 >>> ((32 : Int32) &&& 0x3f).toInt64.toUInt64).toInt64)).toInt32))), .val (.ref q), .val (.int (2 : Int32)), .val (.int (1 : Int32)), .val (.double (g 0)), .second, .val (.long ((g 0)).toInt64), .second] [])
  refine Go.step (fun _ k => XS.goto X1.here hx rfl (pc0 := 53) (pc' := 16) rfl (hb hby d7_53) (by decide) (by decide) k) ?_
  show Go _ _ _ _ _ _ _ T1 (mkF m 16 #[.val (.ref q), .val (.int ((31 : Int32) + ((((g 0)).toInt64 ^^^ ((((g 0)).toInt64.toUInt64 >>> ((32 : Int32) &&& 0x3f).toInt64.toUInt64).toInt64)).toInt32))), .val (.ref q), .val (.int (2 : Int32)), .val (.int (1 : Int32)), .val (.double (g 0)), .second, .val (.long ((g 0)).toInt64), .second] [])
  refine Go.step (fun _ k => XS.iload X1.here hx rfl (hb hby d7_16) rfl k) ?_
  show Go _ _ _ _ _ _ _ T1 (mkF m 18 #[.val (.ref q), .val (.int ((31 : Int32) + ((((g 0)).toInt64 ^^^ ((((g 0)).toInt64.toUInt64 >>> ((32 : Int32) &&& 0x3f).toInt64.toUInt64).toInt64)).toInt32))), .val (.ref q), .val (.int (2 : Int32)), .val (.int (1 : Int32)), .val (.double (g 0)), .second, .val (.long ((g 0)).toInt64), .second] [(.int (1 : Int32))])
  refine Go.step (fun _ k => XS.iloadN X1.here hx rfl (hb hby d7_18) rfl k) ?_
  show Go _ _ _ _ _ _ _ T1 (mkF m 19 #[.val (.ref q), .val (.int ((31 : Int32) + ((((g 0)).toInt64 ^^^ ((((g 0)).toInt64.toUInt64 >>> ((32 : Int32) &&& 0x3f).toInt64.toUInt64).toInt64)).toInt32))), .val (.ref q), .val (.int (2 : Int32)), .val (.int (1 : Int32)), .val (.double (g 0)), .second, .val (.long ((g 0)).toInt64), .second] [(.int (2 : Int32)), (.int (1 : Int32))])
  refine Go.step (fun _ k => XS.icmpNo X1.here hx rfl (hb hby d7_19) rfl (tlt (by decide : (1 : Int32) < (2 : Int32))).2.1 k) ?_
  show Go _ _ _ _ _ _ _ T1 (mkF m 22 #[.val (.ref q), .val (.int ((31 : Int32) + ((((g 0)).toInt64 ^^^ ((((g 0)).toInt64.toUInt64 >>> ((32 : Int32) &&& 0x3f).toInt64.toUInt64).toInt64)).toInt32))), .val (.ref q), .val (.int (2 : Int32)), .val (.int (1 : Int32)), .val (.double (g 0)), .second, .val (.long ((g 0)).toInt64), .second] [])
  refine Go.step (fun _ k => XS.aloadN X1.here hx rfl (hb hby d7_22) rfl rfl k) ?_
  show Go _ _ _ _ _ _ _ T1 (mkF m 23 #[.val (.ref q), .val (.int ((31 : Int32) + ((((g 0)).toInt64 ^^^ ((((g 0)).toInt64.toUInt64 >>> ((32 : Int32) &&& 0x3f).toInt64.toUInt64).toInt64)).toInt32))), .val (.ref q), .val (.int (2 : Int32)), .val (.int (1 : Int32)), .val (.double (g 0)), .second, .val (.long ((g 0)).toInt64), .second] [(.ref q)])
  refine Go.step (fun _ k => XS.iload X1.here hx rfl (hb hby d7_23) rfl k) ?_
  show Go _ _ _ _ _ _ _ T1 (mkF m 25 #[.val (.ref q), .val (.int ((31 : Int32) + ((((g 0)).toInt64 ^^^ ((((g 0)).toInt64.toUInt64 >>> ((32 : Int32) &&& 0x3f).toInt64.toUInt64).toInt64)).toInt32))), .val (.ref q), .val (.int (2 : Int32)), .val (.int (1 : Int32)), .val (.double (g 0)), .second, .val (.long ((g 0)).toInt64), .second] [(.int (1 : Int32)), (.ref q)])
  refine Go.daload X1 hx hZ hh1 V_q (j := (1 : Int32)) (v := (g 1)) (by decide) rfl (hb hby d7_25) ?_
  show Go _ _ _ _ _ _ _ T1 (mkF m 26 #[.val (.ref q), .val (.int ((31 : Int32) + ((((g 0)).toInt64 ^^^ ((((g 0)).toInt64.toUInt64 >>> ((32 : Int32) &&& 0x3f).toInt64.toUInt64).toInt64)).toInt32))), .val (.ref q), .val (.int (2 : Int32)), .val (.int (1 : Int32)), .val (.double (g 0)), .second, .val (.long ((g 0)).toInt64), .second] [(.double (g 1))])
  refine Go.step (fun _ k => XS.dstore X1.here hx rfl (hb hby d7_26) rfl (l' := #[.val (.ref q), .val (.int ((31 : Int32) + ((((g 0)).toInt64 ^^^ ((((g 0)).toInt64.toUInt64 >>> ((32 : Int32) &&& 0x3f).toInt64.toUInt64).toInt64)).toInt32))), .val (.ref q), .val (.int (2 : Int32)), .val (.int (1 : Int32)), .val (.double (g 1)), .second, .val (.long ((g 0)).toInt64), .second]) rfl k) ?_
  show Go _ _ _ _ _ _ _ T1 (mkF m 28 #[.val (.ref q), .val (.int ((31 : Int32) + ((((g 0)).toInt64 ^^^ ((((g 0)).toInt64.toUInt64 >>> ((32 : Int32) &&& 0x3f).toInt64.toUInt64).toInt64)).toInt32))), .val (.ref q), .val (.int (2 : Int32)), .val (.int (1 : Int32)), .val (.double (g 1)), .second, .val (.long ((g 0)).toInt64), .second] [])
  refine Go.step (fun _ k => XS.dload X1.here hx rfl (hb hby d7_28) rfl k) ?_
  show Go _ _ _ _ _ _ _ T1 (mkF m 30 #[.val (.ref q), .val (.int ((31 : Int32) + ((((g 0)).toInt64 ^^^ ((((g 0)).toInt64.toUInt64 >>> ((32 : Int32) &&& 0x3f).toInt64.toUInt64).toInt64)).toInt32))), .val (.ref q), .val (.int (2 : Int32)), .val (.int (1 : Int32)), .val (.double (g 1)), .second, .val (.long ((g 0)).toInt64), .second] [(.double (g 1))])
  refine Go.callS X1 hx hZ (by rw [hml]; rfl) (y := (⟨"java/lang/Double", "doubleToLongBits", "(D)J"⟩ : MethodName)) (argsL := [(.double (g 1))]) (rest := []) hown (hw _ (List.mem_of_getElem? (i := 62) rfl)) (hw _ (List.mem_of_getElem? (i := 63) rfl)) (hw _ (List.mem_of_getElem? (i := 46) rfl)) (hw _ (List.mem_of_getElem? (i := 64) rfl)) (by decide) (rm8 l Z a0 hw (g 1) h0 n0 Z0 (hn 1 (by decide))) hh1 (hb hby d7_30) (lenOf pd_2 rfl) rfl rfl (W := 0) (Nat.le_of_eq rfl) (by decide) (by decide) (by decide) (by decide) ?_
  intro v2 T2 L2 X2 Q2
  obtain ⟨rfl, N2q, hh2⟩ := Q2
  have N2 := Fr.app N1 N2q
  show Go _ _ _ _ _ _ _ T2 (mkF m 33 #[.val (.ref q), .val (.int ((31 : Int32) + ((((g 0)).toInt64 ^^^ ((((g 0)).toInt64.toUInt64 >>> ((32 : Int32) &&& 0x3f).toInt64.toUInt64).toInt64)).toInt32))), .val (.ref q), .val (.int (2 : Int32)), .val (.int (1 : Int32)), .val (.double (g 1)), .second, .val (.long ((g 0)).toInt64), .second] [(.long ((g 1)).toInt64)])
  refine Go.step (fun _ k => XS.lstore X2.here hx rfl (hb hby d7_33) rfl (l' := #[.val (.ref q), .val (.int ((31 : Int32) + ((((g 0)).toInt64 ^^^ ((((g 0)).toInt64.toUInt64 >>> ((32 : Int32) &&& 0x3f).toInt64.toUInt64).toInt64)).toInt32))), .val (.ref q), .val (.int (2 : Int32)), .val (.int (1 : Int32)), .val (.double (g 1)), .second, .val (.long ((g 1)).toInt64), .second]) rfl k) ?_
  show Go _ _ _ _ _ _ _ T2 (mkF m 35 #[.val (.ref q), .val (.int ((31 : Int32) + ((((g 0)).toInt64 ^^^ ((((g 0)).toInt64.toUInt64 >>> ((32 : Int32) &&& 0x3f).toInt64.toUInt64).toInt64)).toInt32))), .val (.ref q), .val (.int (2 : Int32)), .val (.int (1 : Int32)), .val (.double (g 1)), .second, .val (.long ((g 1)).toInt64), .second] [])
  refine Go.step (fun _ k => XS.bipush X2.here hx rfl (hb hby d7_35) k) ?_
  show Go _ _ _ _ _ _ _ T2 (mkF m 37 #[.val (.ref q), .val (.int ((31 : Int32) + ((((g 0)).toInt64 ^^^ ((((g 0)).toInt64.toUInt64 >>> ((32 : Int32) &&& 0x3f).toInt64.toUInt64).toInt64)).toInt32))), .val (.ref q), .val (.int (2 : Int32)), .val (.int (1 : Int32)), .val (.double (g 1)), .second, .val (.long ((g 1)).toInt64), .second] [(.int (31 : Int32))])
  refine Go.step (fun _ k => XS.iloadN X2.here hx rfl (hb hby d7_37) rfl k) ?_
  show Go _ _ _ _ _ _ _ T2 (mkF m 38 #[.val (.ref q), .val (.int ((31 : Int32) + ((((g 0)).toInt64 ^^^ ((((g 0)).toInt64.toUInt64 >>> ((32 : Int32) &&& 0x3f).toInt64.toUInt64).toInt64)).toInt32))), .val (.ref q), .val (.int (2 : Int32)), .val (.int (1 : Int32)), .val (.double (g 1)), .second, .val (.long ((g 1)).toInt64), .second] [(.int ((31 : Int32) + ((((g 0)).toInt64 ^^^ ((((g 0)).toInt64.toUInt64 >>> ((32 : Int32) &&& 0x3f).toInt64.toUInt64).toInt64)).toInt32))), (.int (31 : Int32))])
  refine Go.step (fun _ k => XS.imul X2.here hx rfl (hb hby d7_38) rfl k) ?_
  show Go _ _ _ _ _ _ _ T2 (mkF m 39 #[.val (.ref q), .val (.int ((31 : Int32) + ((((g 0)).toInt64 ^^^ ((((g 0)).toInt64.toUInt64 >>> ((32 : Int32) &&& 0x3f).toInt64.toUInt64).toInt64)).toInt32))), .val (.ref q), .val (.int (2 : Int32)), .val (.int (1 : Int32)), .val (.double (g 1)), .second, .val (.long ((g 1)).toInt64), .second] [(.int ((31 : Int32) * ((31 : Int32) + ((((g 0)).toInt64 ^^^ ((((g 0)).toInt64.toUInt64 >>> ((32 : Int32) &&& 0x3f).toInt64.toUInt64).toInt64)).toInt32))))])
  refine Go.step (fun _ k => XS.lload X2.here hx rfl (hb hby d7_39) rfl k) ?_
  show Go _ _ _ _ _ _ _ T2 (mkF m 41 #[.val (.ref q), .val (.int ((31 : Int32) + ((((g 0)).toInt64 ^^^ ((((g 0)).toInt64.toUInt64 >>> ((32 : Int32) &&& 0x3f).toInt64.toUInt64).toInt64)).toInt32))), .val (.ref q), .val (.int (2 : Int32)), .val (.int (1 : Int32)), .val (.double (g 1)), .second, .val (.long ((g 1)).toInt64), .second] [(.long ((g 1)).toInt64), (.int ((31 : Int32) * ((31 : Int32) + ((((g 0)).toInt64 ^^^ ((((g 0)).toInt64.toUInt64 >>> ((32 : Int32) &&& 0x3f).toInt64.toUInt64).toInt64)).toInt32))))])
  refine Go.step (fun _ k => XS.lload X2.here hx rfl (hb hby d7_41) rfl k) ?_
  show Go _ _ _ _ _ _ _ T2 (mkF m 43 #[.val (.ref q), .val (.int ((31 : Int32) + ((((g 0)).toInt64 ^^^ ((((g 0)).toInt64.toUInt64 >>> ((32 : Int32) &&& 0x3f).toInt64.toUInt64).toInt64)).toInt32))), .val (.ref q), .val (.int (2 : Int32)), .val (.int (1 : Int32)), .val (.double (g 1)), .second, .val (.long ((g 1)).toInt64), .second] [(.long ((g 1)).toInt64), (.long ((g 1)).toInt64), (.int ((31 : Int32) * ((31 : Int32) + ((((g 0)).toInt64 ^^^ ((((g 0)).toInt64.toUInt64 >>> ((32 : Int32) &&& 0x3f).toInt64.toUInt64).toInt64)).toInt32))))])
  refine Go.step (fun _ k => XS.bipush X2.here hx rfl (hb hby d7_43) k) ?_
  show Go _ _ _ _ _ _ _ T2 (mkF m 45 #[.val (.ref q), .val (.int ((31 : Int32) + ((((g 0)).toInt64 ^^^ ((((g 0)).toInt64.toUInt64 >>> ((32 : Int32) &&& 0x3f).toInt64.toUInt64).toInt64)).toInt32))), .val (.ref q), .val (.int (2 : Int32)), .val (.int (1 : Int32)), .val (.double (g 1)), .second, .val (.long ((g 1)).toInt64), .second] [(.int (32 : Int32)), (.long ((g 1)).toInt64), (.long ((g 1)).toInt64), (.int ((31 : Int32) * ((31 : Int32) + ((((g 0)).toInt64 ^^^ ((((g 0)).toInt64.toUInt64 >>> ((32 : Int32) &&& 0x3f).toInt64.toUInt64).toInt64)).toInt32))))])
  refine Go.step (fun _ k => XS.lushr X2.here hx rfl (hb hby d7_45) rfl k) ?_
  show Go _ _ _ _ _ _ _ T2 (mkF m 46 #[.val (.ref q), .val (.int ((31 : Int32) + ((((g 0)).toInt64 ^^^ ((((g 0)).toInt64.toUInt64 >>> ((32 : Int32) &&& 0x3f).toInt64.toUInt64).toInt64)).toInt32))), .val (.ref q), .val (.int (2 : Int32)), .val (.int (1 : Int32)), .val (.double (g 1)), .second, .val (.long ((g 1)).toInt64), .second] [(.long ((((g 1)).toInt64.toUInt64 >>> ((32 : Int32) &&& 0x3f).toInt64.toUInt64).toInt64)), (.long ((g 1)).toInt64), (.int ((31 : Int32) * ((31 : Int32) + ((((g 0)).toInt64 ^^^ ((((g 0)).toInt64.toUInt64 >>> ((32 : Int32) &&& 0x3f).toInt64.toUInt64).toInt64)).toInt32))))])
  refine Go.step (fun _ k => XS.lxor X2.here hx rfl (hb hby d7_46) rfl k) ?_
  show Go _ _ _ _ _ _ _ T2 (mkF m 47 #[.val (.ref q), .val (.int ((31 : Int32) + ((((g 0)).toInt64 ^^^ ((((g 0)).toInt64.toUInt64 >>> ((32 : Int32) &&& 0x3f).toInt64.toUInt64).toInt64)).toInt32))), .val (.ref q), .val (.int (2 : Int32)), .val (.int (1 : Int32)), .val (.double (g 1)), .second, .val (.long ((g 1)).toInt64), .second] [(.long (((g 1)).toInt64 ^^^ ((((g 1)).toInt64.toUInt64 >>> ((32 : Int32) &&& 0x3f).toInt64.toUInt64).toInt64))), (.int ((31 : Int32) * ((31 : Int32) + ((((g 0)).toInt64 ^^^ ((((g 0)).toInt64.toUInt64 >>> ((32 : Int32) &&& 0x3f).toInt64.toUInt64).toInt64)).toInt32))))])
  refine Go.step (fun _ k => XS.l2i X2.here hx rfl (hb hby d7_47) rfl k) ?_
  show Go _ _ _ _ _ _ _ T2 (mkF m 48 #[.val (.ref q), .val (.int ((31 : Int32) + ((((g 0)).toInt64 ^^^ ((((g 0)).toInt64.toUInt64 >>> ((32 : Int32) &&& 0x3f).toInt64.toUInt64).toInt64)).toInt32))), .val (.ref q), .val (.int (2 : Int32)), .val (.int (1 : Int32)), .val (.double (g 1)), .second, .val (.long ((g 1)).toInt64), .second] [(.int ((((g 1)).toInt64 ^^^ ((((g 1)).toInt64.toUInt64 >>> ((32 : Int32) &&& 0x3f).toInt64.toUInt64).toInt64)).toInt32)), (.int ((31 : Int32) * ((31 : Int32) + ((((g 0)).toInt64 ^^^ ((((g 0)).toInt64.toUInt64 >>> ((32 : Int32) &&& 0x3f).toInt64.toUInt64).toInt64)).toInt32))))])
  refine Go.step (fun _ k => XS.iadd X2.here hx rfl (hb hby d7_48) rfl k) ?_
  show Go _ _ _ _ _ _ _ T2 (mkF m 49 #[.val (.ref q), .val (.int ((31 : Int32) + ((((g 0)).toInt64 ^^^ ((((g 0)).toInt64.toUInt64 >>> ((32 : Int32) &&& 0x3f).toInt64.toUInt64).toInt64)).toInt32))), .val (.ref q), .val (.int (2 : Int32)), .val (.int (1 : Int32)), .val (.double (g 1)), .second, .val (.long ((g 1)).toInt64), .second] [(.int (((31 : Int32) * ((31 : Int32) + ((((g 0)).toInt64 ^^^ ((((g 0)).toInt64.toUInt64 >>> ((32 : Int32) &&& 0x3f).toInt64.toUInt64).toInt64)).toInt32))) + ((((g 1)).toInt64 ^^^ ((((g 1)).toInt64.toUInt64 >>> ((32 : Int32) &&& 0x3f).toInt64.toUInt64).toInt64)).toInt32)))])
  refine Go.step (fun _ k => XS.istoreN X2.here hx rfl (hb hby d7_49) rfl (l' := #[.val (.ref q), .val (.int (((31 : Int32) * ((31 : Int32) + ((((g 0)).toInt64 ^^^ ((((g 0)).toInt64.toUInt64 >>> ((32 : Int32) &&& 0x3f).toInt64.toUInt64).toInt64)).toInt32))) + ((((g 1)).toInt64 ^^^ ((((g 1)).toInt64.toUInt64 >>> ((32 : Int32) &&& 0x3f).toInt64.toUInt64).toInt64)).toInt32))), .val (.ref q), .val (.int (2 : Int32)), .val (.int (1 : Int32)), .val (.double (g 1)), .second, .val (.long ((g 1)).toInt64), .second]) rfl k) ?_
  show Go _ _ _ _ _ _ _ T2 (mkF m 50 #[.val (.ref q), .val (.int (((31 : Int32) * ((31 : Int32) + ((((g 0)).toInt64 ^^^ ((((g 0)).toInt64.toUInt64 >>> ((32 : Int32) &&& 0x3f).toInt64.toUInt64).toInt64)).toInt32))) + ((((g 1)).toInt64 ^^^ ((((g 1)).toInt64.toUInt64 >>> ((32 : Int32) &&& 0x3f).toInt64.toUInt64).toInt64)).toInt32))), .val (.ref q), .val (.int (2 : Int32)), .val (.int (1 : Int32)), .val (.double (g 1)), .second, .val (.long ((g 1)).toInt64), .second] [])
  refine Go.step (fun _ k => XS.iinc X2.here hx rfl (hb hby d7_50) rfl (l' := #[.val (.ref q), .val (.int (((31 : Int32) * ((31 : Int32) + ((((g 0)).toInt64 ^^^ ((((g 0)).toInt64.toUInt64 >>> ((32 : Int32) &&& 0x3f).toInt64.toUInt64).toInt64)).toInt32))) + ((((g 1)).toInt64 ^^^ ((((g 1)).toInt64.toUInt64 >>> ((32 : Int32) &&& 0x3f).toInt64.toUInt64).toInt64)).toInt32))), .val (.ref q), .val (.int (2 : Int32)), .val (.int (2 : Int32)), .val (.double (g 1)), .second, .val (.long ((g 1)).toInt64), .second]) rfl k) ?_
  show Go _ _ _ _ _ _ _ T2 (mkF m 53 #[.val (.ref q), .val (.int (((31 : Int32) * ((31 : Int32) + ((((g 0)).toInt64 ^^^ ((((g 0)).toInt64.toUInt64 >>> ((32 : Int32) &&& 0x3f).toInt64.toUInt64).toInt64)).toInt32))) + ((((g 1)).toInt64 ^^^ ((((g 1)).toInt64.toUInt64 >>> ((32 : Int32) &&& 0x3f).toInt64.toUInt64).toInt64)).toInt32))), .val (.ref q), .val (.int (2 : Int32)), .val (.int (2 : Int32)), .val (.double (g 1)), .second, .val (.long ((g 1)).toInt64), .second] [])
  refine Go.step (fun _ k => XS.goto X2.here hx rfl (pc0 := 53) (pc' := 16) rfl (hb hby d7_53) (by decide) (by decide) k) ?_
  show Go _ _ _ _ _ _ _ T2 (mkF m 16 #[.val (.ref q), .val (.int (((31 : Int32) * ((31 : Int32) + ((((g 0)).toInt64 ^^^ ((((g 0)).toInt64.toUInt64 >>> ((32 : Int32) &&& 0x3f).toInt64.toUInt64).toInt64)).toInt32))) + ((((g 1)).toInt64 ^^^ ((((g 1)).toInt64.toUInt64 >>> ((32 : Int32) &&& 0x3f).toInt64.toUInt64).toInt64)).toInt32))), .val (.ref q), .val (.int (2 : Int32)), .val (.int (2 : Int32)), .val (.double (g 1)), .second, .val (.long ((g 1)).toInt64), .second] [])
  refine Go.step (fun _ k => XS.iload X2.here hx rfl (hb hby d7_16) rfl k) ?_
  show Go _ _ _ _ _ _ _ T2 (mkF m 18 #[.val (.ref q), .val (.int (((31 : Int32) * ((31 : Int32) + ((((g 0)).toInt64 ^^^ ((((g 0)).toInt64.toUInt64 >>> ((32 : Int32) &&& 0x3f).toInt64.toUInt64).toInt64)).toInt32))) + ((((g 1)).toInt64 ^^^ ((((g 1)).toInt64.toUInt64 >>> ((32 : Int32) &&& 0x3f).toInt64.toUInt64).toInt64)).toInt32))), .val (.ref q), .val (.int (2 : Int32)), .val (.int (2 : Int32)), .val (.double (g 1)), .second, .val (.long ((g 1)).toInt64), .second] [(.int (2 : Int32))])
  refine Go.step (fun _ k => XS.iloadN X2.here hx rfl (hb hby d7_18) rfl k) ?_
  show Go _ _ _ _ _ _ _ T2 (mkF m 19 #[.val (.ref q), .val (.int (((31 : Int32) * ((31 : Int32) + ((((g 0)).toInt64 ^^^ ((((g 0)).toInt64.toUInt64 >>> ((32 : Int32) &&& 0x3f).toInt64.toUInt64).toInt64)).toInt32))) + ((((g 1)).toInt64 ^^^ ((((g 1)).toInt64.toUInt64 >>> ((32 : Int32) &&& 0x3f).toInt64.toUInt64).toInt64)).toInt32))), .val (.ref q), .val (.int (2 : Int32)), .val (.int (2 : Int32)), .val (.double (g 1)), .second, .val (.long ((g 1)).toInt64), .second] [(.int (2 : Int32)), (.int (2 : Int32))])
  refine Go.step (fun _ k => XS.icmpYes X2.here hx rfl (pc0 := 19) (pc' := 56) rfl (hb hby d7_19) rfl (flt (by decide : ¬ ((2 : Int32) < (2 : Int32)))).2.1 (by decide) (by decide) k) ?_
  show Go _ _ _ _ _ _ _ T2 (mkF m 56 #[.val (.ref q), .val (.int (((31 : Int32) * ((31 : Int32) + ((((g 0)).toInt64 ^^^ ((((g 0)).toInt64.toUInt64 >>> ((32 : Int32) &&& 0x3f).toInt64.toUInt64).toInt64)).toInt32))) + ((((g 1)).toInt64 ^^^ ((((g 1)).toInt64.toUInt64 >>> ((32 : Int32) &&& 0x3f).toInt64.toUInt64).toInt64)).toInt32))), .val (.ref q), .val (.int (2 : Int32)), .val (.int (2 : Int32)), .val (.double (g 1)), .second, .val (.long ((g 1)).toInt64), .second] [])
  refine Go.step (fun _ k => XS.iloadN X2.here hx rfl (hb hby d7_56) rfl k) ?_
  show Go _ _ _ _ _ _ _ T2 (mkF m 57 #[.val (.ref q), .val (.int (((31 : Int32) * ((31 : Int32) + ((((g 0)).toInt64 ^^^ ((((g 0)).toInt64.toUInt64 >>> ((32 : Int32) &&& 0x3f).toInt64.toUInt64).toInt64)).toInt32))) + ((((g 1)).toInt64 ^^^ ((((g 1)).toInt64.toUInt64 >>> ((32 : Int32) &&& 0x3f).toInt64.toUInt64).toInt64)).toInt32))), .val (.ref q), .val (.int (2 : Int32)), .val (.int (2 : Int32)), .val (.double (g 1)), .second, .val (.long ((g 1)).toInt64), .second] [(.int (((31 : Int32) * ((31 : Int32) + ((((g 0)).toInt64 ^^^ ((((g 0)).toInt64.toUInt64 >>> ((32 : Int32) &&& 0x3f).toInt64.toUInt64).toInt64)).toInt32))) + ((((g 1)).toInt64 ^^^ ((((g 1)).toInt64.toUInt64 >>> ((32 : Int32) &&& 0x3f).toInt64.toUInt64).toInt64)).toInt32)))])
  refine Go.retI X2 hx hlk hret (hb hby d7_57) (by decide) (by decide) ?_
  try rw [hh2]
  exact ⟨rfl, N2, rfl⟩
theorem ef_rm7_2 (m : MethodId) (q : Addr) : entryFrame m #[(.ref q)] 9 = mkF m 0 #[.val (.ref q), .unset, .unset, .unset, .unset, .unset, .unset, .unset, .unset] [] := by first | (simp [entryFrame, mkF, argsToLocals, Value.category]; done) | rfl
theorem rm7_2 (l : Launch) (Z : State) (a0 : Array Value) (hw : ∀ d ∈ tables_1, d.before a0 Z = true) (q : Addr) (g : Nat → UInt64) (h0 : Heap) (n0 : Nat) (Z0 : n0 ≤ h0.size) (V_q : Dv Z h0 q (2 : Int32) g) (hn : ∀ i, i < 2 → Jvm.Free.Fl.NoNaN64 (g i)) :
    Con l Z (⟨"java/util/Arrays", "hashCode", "([D)I"⟩ : MethodName) jdk_65_method_156_code 9 (some .int) ({ frames := 2, cells := 0, slots := 0, locals := 60 } : Room) #[(.ref q)] h0 (fun r h L => r = some (.int (hashW 2 g)) ∧ Fr n0 L ∧ h = h0) :=
  con_of (plainFor_of_name pn_7) (fun p_ e_ s_ m_ b_ meth_ c_ T_ X_ hx hZ hby hml hown hnm hret hlk e0 => Go.cast (ef_rm7_2 m_ q) (w7_2 q g X_ hx hZ hw hby hml hown hnm hret hlk e0 Z0 (Fr.nil n0) V_q hn))
set_option maxRecDepth 65536 in
set_option maxHeartbeats 40000000 in
theorem w6_2 {p : Program} {l : Launch} {e : Env} {s : State} {m : MethodId} {args : Array Value} {below : List Frame} {meth : Method} {c_ : Code} {T0 : State} {locs : List Loc} {Z : State} {a0 : Array Value} {h0 : Heap} {n0 : Nat} (a c : Addr) (K : Int32) (g : Nat → UInt64)
    (X0 : Stand p l e ({ frames := 3, cells := 0, slots := 0, locals := 90 } : Room) s m args below meth c_ T0 locs 0 0) (hx : p.tables.exec = Jvm.exec) (hZ : Z.Warmed39 s.vm) (hw : ∀ d ∈ tables_1, d.before a0 Z = true) (hby : c_.code = prog_33_method_9_code) (hml : c_.maxLocals = 1) (hown : s.vm.findClass "tidewatch/decision/KeyGroupCeiling" = some m.cls) (hnm : meth.name = "hashCode") (hret : meth.sig.returnType = some .int) (hlk : meth.locks = false) (e0 : T0.heap = h0) (Z0 : n0 ≤ h0.size) (N0 : Fr n0 locs) (F_keyGroups_a : Fld Z h0 a "tidewatch/decision/KeyGroupCeiling" "keyGroups" "I" (.int K)) (F_shares_a : Fld Z h0 a "tidewatch/decision/KeyGroupCeiling" "shares" "[D" (.ref c)) (V_c : Dv Z h0 c (2 : Int32) g) (hn : ∀ i, i < 2 → Jvm.Free.Fl.NoNaN64 (g i)) :
    Go p e below s ({ frames := 3, cells := 0, slots := 0, locals := 90 } : Room).cells ({ frames := 3, cells := 0, slots := 0, locals := 90 } : Room).slots (fun r h L => r = some (.int (((31 : Int32) * K) + hashW 2 g)) ∧ Fr n0 L ∧ h = h0) T0 (mkF m 0 #[.val (.ref a)] []) := by
  show Go _ _ _ _ _ _ _ T0 (mkF m 0 #[.val (.ref a)] [])
  refine Go.step (fun _ k => XS.bipush X0.here hx rfl (hb hby d6_0) k) ?_
  show Go _ _ _ _ _ _ _ T0 (mkF m 2 #[.val (.ref a)] [(.int (31 : Int32))])
  refine Go.step (fun _ k => XS.aloadN X0.here hx rfl (hb hby d6_2) rfl rfl k) ?_
  show Go _ _ _ _ _ _ _ T0 (mkF m 3 #[.val (.ref a)] [(.ref a), (.int (31 : Int32))])
  obtain ⟨T1, X1, e1, st1⟩ := getF X0 hx hZ hown (host := "") (Or.inl (hw _ (List.mem_of_getElem? (i := 29) rfl))) Via.refl e0 F_keyGroups_a (g := (mkF m 3 #[.val (.ref a)] [(.ref a), (.int (31 : Int32))])) rfl rfl (hb hby d6_3)
  refine Go.step st1 ?_
  show Go _ _ _ _ _ _ _ T1 (mkF m 6 #[.val (.ref a)] [(.int K), (.int (31 : Int32))])
  refine Go.step (fun _ k => XS.imul X1.here hx rfl (hb hby d6_6) rfl k) ?_
  show Go _ _ _ _ _ _ _ T1 (mkF m 7 #[.val (.ref a)] [(.int ((31 : Int32) * K))])
  refine Go.step (fun _ k => XS.aloadN X1.here hx rfl (hb hby d6_7) rfl rfl k) ?_
  show Go _ _ _ _ _ _ _ T1 (mkF m 8 #[.val (.ref a)] [(.ref a), (.int ((31 : Int32) * K))])
  obtain ⟨T2, X2, e2, st2⟩ := getF X1 hx hZ hown (host := "") (Or.inl (hw _ (List.mem_of_getElem? (i := 40) rfl))) Via.refl e1 F_shares_a (g := (mkF m 8 #[.val (.ref a)] [(.ref a), (.int ((31 : Int32) * K))])) rfl rfl (hb hby d6_8)
  refine Go.step st2 ?_
  show Go _ _ _ _ _ _ _ T2 (mkF m 11 #[.val (.ref a)] [(.ref c), (.int ((31 : Int32) * K))])
  refine Go.callS X2 hx hZ (by rw [hml]; rfl) (y := (⟨"java/util/Arrays", "hashCode", "([D)I"⟩ : MethodName)) (argsL := [(.ref c)]) (rest := [(.int ((31 : Int32) * K))]) hown (hw _ (List.mem_of_getElem? (i := 58) rfl)) (hw _ (List.mem_of_getElem? (i := 59) rfl)) (hw _ (List.mem_of_getElem? (i := 60) rfl)) (hw _ (List.mem_of_getElem? (i := 61) rfl)) (by decide) (rm7_2 l Z a0 hw c g h0 n0 Z0 V_c hn) e2 (hb hby d6_11) (lenOf pd_3 rfl) rfl rfl (W := 1) (Nat.le_of_eq rfl) (by decide) (by decide) (by decide) (by decide) ?_
  intro v3 T3 L3 X3 Q3
  obtain ⟨rfl, N3q, hh3⟩ := Q3
  have N3 := Fr.app N0 N3q
  show Go _ _ _ _ _ _ _ T3 (mkF m 14 #[.val (.ref a)] [(.int (hashW 2 g)), (.int ((31 : Int32) * K))])
  refine Go.step (fun _ k => XS.iadd X3.here hx rfl (hb hby d6_14) rfl k) ?_
  show Go _ _ _ _ _ _ _ T3 (mkF m 15 #[.val (.ref a)] [(.int (((31 : Int32) * K) + (hashW 2 g)))])
  refine Go.retI X3 hx hlk hret (hb hby d6_15) (by decide) (by decide) ?_
  try rw [hh3]
  exact ⟨rfl, N3, rfl⟩
theorem ef_rm6_2 (m : MethodId) (a : Addr) : entryFrame m #[(.ref a)] 1 = mkF m 0 #[.val (.ref a)] [] := by first | (simp [entryFrame, mkF, argsToLocals, Value.category]; done) | rfl
theorem rm6_2 (l : Launch) (Z : State) (a0 : Array Value) (hw : ∀ d ∈ tables_1, d.before a0 Z = true) (a c : Addr) (K : Int32) (g : Nat → UInt64) (h0 : Heap) (n0 : Nat) (Z0 : n0 ≤ h0.size) (F_keyGroups_a : Fld Z h0 a "tidewatch/decision/KeyGroupCeiling" "keyGroups" "I" (.int K)) (F_shares_a : Fld Z h0 a "tidewatch/decision/KeyGroupCeiling" "shares" "[D" (.ref c)) (V_c : Dv Z h0 c (2 : Int32) g) (hn : ∀ i, i < 2 → Jvm.Free.Fl.NoNaN64 (g i)) :
    Con l Z (⟨"tidewatch/decision/KeyGroupCeiling", "hashCode", "()I"⟩ : MethodName) prog_33_method_9_code 1 (some .int) ({ frames := 3, cells := 0, slots := 0, locals := 90 } : Room) #[(.ref a)] h0 (fun r h L => r = some (.int (((31 : Int32) * K) + hashW 2 g)) ∧ Fr n0 L ∧ h = h0) :=
  con_of (plainFor_of_name pn_2) (fun p_ e_ s_ m_ b_ meth_ c_ T_ X_ hx hZ hby hml hown hnm hret hlk e0 => Go.cast (ef_rm6_2 m_ a) (w6_2 a c K g X_ hx hZ hw hby hml hown hnm hret hlk e0 Z0 (Fr.nil n0) F_keyGroups_a F_shares_a V_c hn))
set_option maxRecDepth 65536 in
set_option maxHeartbeats 40000000 in
theorem w7_3 {p : Program} {l : Launch} {e : Env} {s : State} {m : MethodId} {args : Array Value} {below : List Frame} {meth : Method} {c_ : Code} {T0 : State} {locs : List Loc} {Z : State} {a0 : Array Value} {h0 : Heap} {n0 : Nat} (q : Addr) (g : Nat → UInt64)
    (X0 : Stand p l e ({ frames := 2, cells := 0, slots := 0, locals := 60 } : Room) s m args below meth c_ T0 locs 0 0) (hx : p.tables.exec = Jvm.exec) (hZ : Z.Warmed39 s.vm) (hw : ∀ d ∈ tables_1, d.before a0 Z = true) (hby : c_.code = jdk_65_method_156_code) (hml : c_.maxLocals = 9) (hown : s.vm.findClass "java/util/Arrays" = some m.cls) (hnm : meth.name = "hashCode") (hret : meth.sig.returnType = some .int) (hlk : meth.locks = false) (e0 : T0.heap = h0) (Z0 : n0 ≤ h0.size) (N0 : Fr n0 locs) (V_q : Dv Z h0 q (3 : Int32) g) (hn : ∀ i, i < 3 → Jvm.Free.Fl.NoNaN64 (g i)) :
    Go p e below s ({ frames := 2, cells := 0, slots := 0, locals := 60 } : Room).cells ({ frames := 2, cells := 0, slots := 0, locals := 60 } : Room).slots (fun r h L => r = some (.int (hashW 3 g)) ∧ Fr n0 L ∧ h = h0) T0 (mkF m 0 #[.val (.ref q), .unset, .unset, .unset, .unset, .unset, .unset, .unset, .unset] []) := by
  show Go _ _ _ _ _ _ _ T0 (mkF m 0 #[.val (.ref q), .unset, .unset, .unset, .unset, .unset, .unset, .unset, .unset] [])
  refine Go.step (fun _ k => XS.aloadN X0.here hx rfl (hb hby d7_0) rfl rfl k) ?_
  show Go _ _ _ _ _ _ _ T0 (mkF m 1 #[.val (.ref q), .unset, .unset, .unset, .unset, .unset, .unset, .unset, .unset] [(.ref q)])
  refine Go.step (fun _ k => XS.ifnonnullYes X0.here hx rfl (pc0 := 1) (pc' := 6) rfl (hb hby d7_1) rfl (by decide) (by decide) k) ?_
  show Go _ _ _ _ _ _ _ T0 (mkF m 6 #[.val (.ref q), .unset, .unset, .unset, .unset, .unset, .unset, .unset, .unset] [])
  refine Go.step (fun _ k => XS.iconst X0.here hx rfl (hb hby d7_6) k) ?_
  show Go _ _ _ _ _ _ _ T0 (mkF m 7 #[.val (.ref q), .unset, .unset, .unset, .unset, .unset, .unset, .unset, .unset] [(.int (1 : Int32))])
  refine Go.step (fun _ k => XS.istoreN X0.here hx rfl (hb hby d7_7) rfl (l' := #[.val (.ref q), .val (.int (1 : Int32)), .unset, .unset, .unset, .unset, .unset, .unset, .unset]) rfl k) ?_
  show Go _ _ _ _ _ _ _ T0 (mkF m 8 #[.val (.ref q), .val (.int (1 : Int32)), .unset, .unset, .unset, .unset, .unset, .unset, .unset] [])
  refine Go.step (fun _ k => XS.aloadN X0.here hx rfl (hb hby d7_8) rfl rfl k) ?_
  show Go _ _ _ _ _ _ _ T0 (mkF m 9 #[.val (.ref q), .val (.int (1 : Int32)), .unset, .unset, .unset, .unset, .unset, .unset, .unset] [(.ref q)])
  refine Go.step (fun _ k => XS.astoreN X0.here hx rfl (hb hby d7_9) rfl rfl (l' := #[.val (.ref q), .val (.int (1 : Int32)), .val (.ref q), .unset, .unset, .unset, .unset, .unset, .unset]) rfl k) ?_
  show Go _ _ _ _ _ _ _ T0 (mkF m 10 #[.val (.ref q), .val (.int (1 : Int32)), .val (.ref q), .unset, .unset, .unset, .unset, .unset, .unset] [])
  refine Go.step (fun _ k => XS.aloadN X0.here hx rfl (hb hby d7_10) rfl rfl k) ?_
  show Go _ _ _ _ _ _ _ T0 (mkF m 11 #[.val (.ref q), .val (.int (1 : Int32)), .val (.ref q), .unset, .unset, .unset, .unset, .unset, .unset] [(.ref q)])
  refine Go.alen X0 hx hZ e0 V_q (hb hby d7_11) ?_
  show Go _ _ _ _ _ _ _ T0 (mkF m 12 #[.val (.ref q), .val (.int (1 : Int32)), .val (.ref q), .unset, .unset, .unset, .unset, .unset, .unset] [(.int (3 : Int32))])
  refine Go.step (fun _ k => XS.istoreN X0.here hx rfl (hb hby d7_12) rfl (l' := #[.val (.ref q), .val (.int (1 : Int32)), .val (.ref q), .val (.int (3 : Int32)), .unset, .unset, .unset, .unset, .unset]) rfl k) ?_
  show Go _ _ _ _ _ _ _ T0 (mkF m 13 #[.val (.ref q), .val (.int (1 : Int32)), .val (.ref q), .val (.int (3 : Int32)), .unset, .unset, .unset, .unset, .unset] [])
  refine Go.step (fun _ k => XS.iconst X0.here hx rfl (hb hby d7_13) k) ?_
  show Go _ _ _ _ _ _ _ T0 (mkF m 14 #[.val (.ref q), .val (.int (1 : Int32)), .val (.ref q), .val (.int (3 : Int32)), .unset, .unset, .unset, .unset, .unset] [(.int (0 : Int32))])
  refine Go.step (fun _ k => XS.istore X0.here hx rfl (hb hby d7_14) rfl (l' := #[.val (.ref q), .val (.int (1 : Int32)), .val (.ref q), .val (.int (3 : Int32)), .val (.int (0 : Int32)), .unset, .unset, .unset, .unset]) rfl k) ?_
  show Go _ _ _ _ _ _ _ T0 (mkF m 16 #[.val (.ref q), .val (.int (1 : Int32)), .val (.ref q), .val (.int (3 : Int32)), .val (.int (0 : Int32)), .unset, .unset, .unset, .unset] [])
  refine Go.step (fun _ k => XS.iload X0.here hx rfl (hb hby d7_16) rfl k) ?_
  show Go _ _ _ _ _ _ _ T0 (mkF m 18 #[.val (.ref q), .val (.int (1 : Int32)), .val (.ref q), .val (.int (3 : Int32)), .val (.int (0 : Int32)), .unset, .unset, .unset, .unset] [(.int (0 : Int32))])
  refine Go.step (fun _ k => XS.iloadN X0.here hx rfl (hb hby d7_18) rfl k) ?_
  show Go _ _ _ _ _ _ _ T0 (mkF m 19 #[.val (.ref q), .val (.int (1 : Int32)), .val (.ref q), .val (.int (3 : Int32)), .val (.int (0 : Int32)), .unset, .unset, .unset, .unset] [(.int (3 : Int32)), (.int (0 : Int32))])
  refine Go.step (fun _ k => XS.icmpNo X0.here hx rfl (hb hby d7_19) rfl (tlt (by decide : (0 : Int32) < (3 : Int32))).2.1 k) ?_
  show Go _ _ _ _ _ _ _ T0 (mkF m 22 #[.val (.ref q), .val (.int (1 : Int32)), .val (.ref q), .val (.int (3 : Int32)), .val (.int (0 : Int32)), .unset, .unset, .unset, .unset] [])
  refine Go.step (fun _ k => XS.aloadN X0.here hx rfl (hb hby d7_22) rfl rfl k) ?_
  show Go _ _ _ _ _ _ _ T0 (mkF m 23 #[.val (.ref q), .val (.int (1 : Int32)), .val (.ref q), .val (.int (3 : Int32)), .val (.int (0 : Int32)), .unset, .unset, .unset, .unset] [(.ref q)])
  refine Go.step (fun _ k => XS.iload X0.here hx rfl (hb hby d7_23) rfl k) ?_
  show Go _ _ _ _ _ _ _ T0 (mkF m 25 #[.val (.ref q), .val (.int (1 : Int32)), .val (.ref q), .val (.int (3 : Int32)), .val (.int (0 : Int32)), .unset, .unset, .unset, .unset] [(.int (0 : Int32)), (.ref q)])
  refine Go.daload X0 hx hZ e0 V_q (j := (0 : Int32)) (v := (g 0)) (by decide) rfl (hb hby d7_25) ?_
  show Go _ _ _ _ _ _ _ T0 (mkF m 26 #[.val (.ref q), .val (.int (1 : Int32)), .val (.ref q), .val (.int (3 : Int32)), .val (.int (0 : Int32)), .unset, .unset, .unset, .unset] [(.double (g 0))])
  refine Go.step (fun _ k => XS.dstore X0.here hx rfl (hb hby d7_26) rfl (l' := #[.val (.ref q), .val (.int (1 : Int32)), .val (.ref q), .val (.int (3 : Int32)), .val (.int (0 : Int32)), .val (.double (g 0)), .second, .unset, .unset]) rfl k) ?_
  show Go _ _ _ _ _ _ _ T0 (mkF m 28 #[.val (.ref q), .val (.int (1 : Int32)), .val (.ref q), .val (.int (3 : Int32)), .val (.int (0 : Int32)), .val (.double (g 0)), .second, .unset, .unset] [])
  refine Go.step (fun _ k => XS.dload X0.here hx rfl (hb hby d7_28) rfl k) ?_
  show Go _ _ _ _ _ _ _ T0 (mkF m 30 #[.val (.ref q), .val (.int (1 : Int32)), .val (.ref q), .val (.int (3 : Int32)), .val (.int (0 : Int32)), .val (.double (g 0)), .second, .unset, .unset] [(.double (g 0))])
  refine Go.callS X0 hx hZ (by rw [hml]; rfl) (y := (⟨"java/lang/Double", "doubleToLongBits", "(D)J"⟩ : MethodName)) (argsL := [(.double (g 0))]) (rest := []) hown (hw _ (List.mem_of_getElem? (i := 62) rfl)) (hw _ (List.mem_of_getElem? (i := 63) rfl)) (hw _ (List.mem_of_getElem? (i := 46) rfl)) (hw _ (List.mem_of_getElem? (i := 64) rfl)) (by decide) (rm8 l Z a0 hw (g 0) h0 n0 Z0 (hn 0 (by decide))) e0 (hb hby d7_30) (lenOf pd_2 rfl) rfl rfl (W := 0) (Nat.le_of_eq rfl) (by decide) (by decide) (by decide) (by decide) ?_
  intro v1 T1 L1 X1 Q1
  obtain ⟨rfl, N1q, hh1⟩ := Q1
  have N1 := Fr.app N0 N1q
  show Go _ _ _ _ _ _ _ T1 (mkF m 33 #[.val (.ref q), .val (.int (1 : Int32)), .val (.ref q), .val (.int (3 : Int32)), .val (.int (0 : Int32)), .val (.double (g 0)), .second, .unset, .unset] [(.long ((g 0)).toInt64)])
  refine Go.step (fun _ k => XS.lstore X1.here hx rfl (hb hby d7_33) rfl (l' := #[.val (.ref q), .val (.int (1 : Int32)), .val (.ref q), .val (.int (3 : Int32)), .val (.int (0 : Int32)), .val (.double (g 0)), .second, .val (.long ((g 0)).toInt64), .second]) rfl k) ?_
  show Go _ _ _ _ _ _ _ T1 (mkF m 35 #[.val (.ref q), .val (.int (1 : Int32)), .val (.ref q), .val (.int (3 : Int32)), .val (.int (0 : Int32)), .val (.double (g 0)), .second, .val (.long ((g 0)).toInt64), .second] [])
  refine Go.step (fun _ k => XS.bipush X1.here hx rfl (hb hby d7_35) k) ?_
  show Go _ _ _ _ _ _ _ T1 (mkF m 37 #[.val (.ref q), .val (.int (1 : Int32)), .val (.ref q), .val (.int (3 : Int32)), .val (.int (0 : Int32)), .val (.double (g 0)), .second, .val (.long ((g 0)).toInt64), .second] [(.int (31 : Int32))])
  refine Go.step (fun _ k => XS.iloadN X1.here hx rfl (hb hby d7_37) rfl k) ?_
  show Go _ _ _ _ _ _ _ T1 (mkF m 38 #[.val (.ref q), .val (.int (1 : Int32)), .val (.ref q), .val (.int (3 : Int32)), .val (.int (0 : Int32)), .val (.double (g 0)), .second, .val (.long ((g 0)).toInt64), .second] [(.int (1 : Int32)), (.int (31 : Int32))])
  refine Go.step (fun _ k => XS.imul X1.here hx rfl (hb hby d7_38) rfl k) ?_
  show Go _ _ _ _ _ _ _ T1 (mkF m 39 #[.val (.ref q), .val (.int (1 : Int32)), .val (.ref q), .val (.int (3 : Int32)), .val (.int (0 : Int32)), .val (.double (g 0)), .second, .val (.long ((g 0)).toInt64), .second] [(.int (31 : Int32))])
  refine Go.step (fun _ k => XS.lload X1.here hx rfl (hb hby d7_39) rfl k) ?_
  show Go _ _ _ _ _ _ _ T1 (mkF m 41 #[.val (.ref q), .val (.int (1 : Int32)), .val (.ref q), .val (.int (3 : Int32)), .val (.int (0 : Int32)), .val (.double (g 0)), .second, .val (.long ((g 0)).toInt64), .second] [(.long ((g 0)).toInt64), (.int (31 : Int32))])
  refine Go.step (fun _ k => XS.lload X1.here hx rfl (hb hby d7_41) rfl k) ?_
  show Go _ _ _ _ _ _ _ T1 (mkF m 43 #[.val (.ref q), .val (.int (1 : Int32)), .val (.ref q), .val (.int (3 : Int32)), .val (.int (0 : Int32)), .val (.double (g 0)), .second, .val (.long ((g 0)).toInt64), .second] [(.long ((g 0)).toInt64), (.long ((g 0)).toInt64), (.int (31 : Int32))])
  refine Go.step (fun _ k => XS.bipush X1.here hx rfl (hb hby d7_43) k) ?_
  show Go _ _ _ _ _ _ _ T1 (mkF m 45 #[.val (.ref q), .val (.int (1 : Int32)), .val (.ref q), .val (.int (3 : Int32)), .val (.int (0 : Int32)), .val (.double (g 0)), .second, .val (.long ((g 0)).toInt64), .second] [(.int (32 : Int32)), (.long ((g 0)).toInt64), (.long ((g 0)).toInt64), (.int (31 : Int32))])
  refine Go.step (fun _ k => XS.lushr X1.here hx rfl (hb hby d7_45) rfl k) ?_
  show Go _ _ _ _ _ _ _ T1 (mkF m 46 #[.val (.ref q), .val (.int (1 : Int32)), .val (.ref q), .val (.int (3 : Int32)), .val (.int (0 : Int32)), .val (.double (g 0)), .second, .val (.long ((g 0)).toInt64), .second] [(.long ((((g 0)).toInt64.toUInt64 >>> ((32 : Int32) &&& 0x3f).toInt64.toUInt64).toInt64)), (.long ((g 0)).toInt64), (.int (31 : Int32))])
  refine Go.step (fun _ k => XS.lxor X1.here hx rfl (hb hby d7_46) rfl k) ?_
  show Go _ _ _ _ _ _ _ T1 (mkF m 47 #[.val (.ref q), .val (.int (1 : Int32)), .val (.ref q), .val (.int (3 : Int32)), .val (.int (0 : Int32)), .val (.double (g 0)), .second, .val (.long ((g 0)).toInt64), .second] [(.long (((g 0)).toInt64 ^^^ ((((g 0)).toInt64.toUInt64 >>> ((32 : Int32) &&& 0x3f).toInt64.toUInt64).toInt64))), (.int (31 : Int32))])
  refine Go.step (fun _ k => XS.l2i X1.here hx rfl (hb hby d7_47) rfl k) ?_
  show Go _ _ _ _ _ _ _ T1 (mkF m 48 #[.val (.ref q), .val (.int (1 : Int32)), .val (.ref q), .val (.int (3 : Int32)), .val (.int (0 : Int32)), .val (.double (g 0)), .second, .val (.long ((g 0)).toInt64), .second] [(.int ((((g 0)).toInt64 ^^^ ((((g 0)).toInt64.toUInt64 >>> ((32 : Int32) &&& 0x3f).toInt64.toUInt64).toInt64)).toInt32)), (.int (31 : Int32))])
  refine Go.step (fun _ k => XS.iadd X1.here hx rfl (hb hby d7_48) rfl k) ?_
  show Go _ _ _ _ _ _ _ T1 (mkF m 49 #[.val (.ref q), .val (.int (1 : Int32)), .val (.ref q), .val (.int (3 : Int32)), .val (.int (0 : Int32)), .val (.double (g 0)), .second, .val (.long ((g 0)).toInt64), .second] [(.int ((31 : Int32) + ((((g 0)).toInt64 ^^^ ((((g 0)).toInt64.toUInt64 >>> ((32 : Int32) &&& 0x3f).toInt64.toUInt64).toInt64)).toInt32)))])
  refine Go.step (fun _ k => XS.istoreN X1.here hx rfl (hb hby d7_49) rfl (l' := #[.val (.ref q), .val (.int ((31 : Int32) + ((((g 0)).toInt64 ^^^ ((((g 0)).toInt64.toUInt64 >>> ((32 : Int32) &&& 0x3f).toInt64.toUInt64).toInt64)).toInt32))), .val (.ref q), .val (.int (3 : Int32)), .val (.int (0 : Int32)), .val (.double (g 0)), .second, .val (.long ((g 0)).toInt64), .second]) rfl k) ?_
  show Go _ _ _ _ _ _ _ T1 (mkF m 50 #[.val (.ref q), .val (.int ((31 : Int32) + ((((g 0)).toInt64 ^^^ ((((g 0)).toInt64.toUInt64 >>> ((32 : Int32) &&& 0x3f).toInt64.toUInt64).toInt64)).toInt32))), .val (.ref q), .val (.int (3 : Int32)), .val (.int (0 : Int32)), .val (.double (g 0)), .second, .val (.long ((g 0)).toInt64), .second] [])
  refine Go.step (fun _ k => XS.iinc X1.here hx rfl (hb hby d7_50) rfl (l' := #[.val (.ref q), .val (.int ((31 : Int32) + ((((g 0)).toInt64 ^^^ ((((g 0)).toInt64.toUInt64 >>> ((32 : Int32) &&& 0x3f).toInt64.toUInt64).toInt64)).toInt32))), .val (.ref q), .val (.int (3 : Int32)), .val (.int (1 : Int32)), .val (.double (g 0)), .second, .val (.long ((g 0)).toInt64), .second]) rfl k) ?_
  show Go _ _ _ _ _ _ _ T1 (mkF m 53 #[.val (.ref q), .val (.int ((31 : Int32) + ((((g 0)).toInt64 ^^^ ((((g 0)).toInt64.toUInt64 >>> ((32 : Int32) &&& 0x3f).toInt64.toUInt64).toInt64)).toInt32))), .val (.ref q), .val (.int (3 : Int32)), .val (.int (1 : Int32)), .val (.double (g 0)), .second, .val (.long ((g 0)).toInt64), .second] [])
  refine Go.step (fun _ k => XS.goto X1.here hx rfl (pc0 := 53) (pc' := 16) rfl (hb hby d7_53) (by decide) (by decide) k) ?_
  show Go _ _ _ _ _ _ _ T1 (mkF m 16 #[.val (.ref q), .val (.int ((31 : Int32) + ((((g 0)).toInt64 ^^^ ((((g 0)).toInt64.toUInt64 >>> ((32 : Int32) &&& 0x3f).toInt64.toUInt64).toInt64)).toInt32))), .val (.ref q), .val (.int (3 : Int32)), .val (.int (1 : Int32)), .val (.double (g 0)), .second, .val (.long ((g 0)).toInt64), .second] [])
  refine Go.step (fun _ k => XS.iload X1.here hx rfl (hb hby d7_16) rfl k) ?_
  show Go _ _ _ _ _ _ _ T1 (mkF m 18 #[.val (.ref q), .val (.int ((31 : Int32) + ((((g 0)).toInt64 ^^^ ((((g 0)).toInt64.toUInt64 >>> ((32 : Int32) &&& 0x3f).toInt64.toUInt64).toInt64)).toInt32))), .val (.ref q), .val (.int (3 : Int32)), .val (.int (1 : Int32)), .val (.double (g 0)), .second, .val (.long ((g 0)).toInt64), .second] [(.int (1 : Int32))])
  refine Go.step (fun _ k => XS.iloadN X1.here hx rfl (hb hby d7_18) rfl k) ?_
  show Go _ _ _ _ _ _ _ T1 (mkF m 19 #[.val (.ref q), .val (.int ((31 : Int32) + ((((g 0)).toInt64 ^^^ ((((g 0)).toInt64.toUInt64 >>> ((32 : Int32) &&& 0x3f).toInt64.toUInt64).toInt64)).toInt32))), .val (.ref q), .val (.int (3 : Int32)), .val (.int (1 : Int32)), .val (.double (g 0)), .second, .val (.long ((g 0)).toInt64), .second] [(.int (3 : Int32)), (.int (1 : Int32))])
  refine Go.step (fun _ k => XS.icmpNo X1.here hx rfl (hb hby d7_19) rfl (tlt (by decide : (1 : Int32) < (3 : Int32))).2.1 k) ?_
  show Go _ _ _ _ _ _ _ T1 (mkF m 22 #[.val (.ref q), .val (.int ((31 : Int32) + ((((g 0)).toInt64 ^^^ ((((g 0)).toInt64.toUInt64 >>> ((32 : Int32) &&& 0x3f).toInt64.toUInt64).toInt64)).toInt32))), .val (.ref q), .val (.int (3 : Int32)), .val (.int (1 : Int32)), .val (.double (g 0)), .second, .val (.long ((g 0)).toInt64), .second] [])
  refine Go.step (fun _ k => XS.aloadN X1.here hx rfl (hb hby d7_22) rfl rfl k) ?_
  show Go _ _ _ _ _ _ _ T1 (mkF m 23 #[.val (.ref q), .val (.int ((31 : Int32) + ((((g 0)).toInt64 ^^^ ((((g 0)).toInt64.toUInt64 >>> ((32 : Int32) &&& 0x3f).toInt64.toUInt64).toInt64)).toInt32))), .val (.ref q), .val (.int (3 : Int32)), .val (.int (1 : Int32)), .val (.double (g 0)), .second, .val (.long ((g 0)).toInt64), .second] [(.ref q)])
  refine Go.step (fun _ k => XS.iload X1.here hx rfl (hb hby d7_23) rfl k) ?_
  show Go _ _ _ _ _ _ _ T1 (mkF m 25 #[.val (.ref q), .val (.int ((31 : Int32) + ((((g 0)).toInt64 ^^^ ((((g 0)).toInt64.toUInt64 >>> ((32 : Int32) &&& 0x3f).toInt64.toUInt64).toInt64)).toInt32))), .val (.ref q), .val (.int (3 : Int32)), .val (.int (1 : Int32)), .val (.double (g 0)), .second, .val (.long ((g 0)).toInt64), .second] [(.int (1 : Int32)), (.ref q)])
  refine Go.daload X1 hx hZ hh1 V_q (j := (1 : Int32)) (v := (g 1)) (by decide) rfl (hb hby d7_25) ?_
  show Go _ _ _ _ _ _ _ T1 (mkF m 26 #[.val (.ref q), .val (.int ((31 : Int32) + ((((g 0)).toInt64 ^^^ ((((g 0)).toInt64.toUInt64 >>> ((32 : Int32) &&& 0x3f).toInt64.toUInt64).toInt64)).toInt32))), .val (.ref q), .val (.int (3 : Int32)), .val (.int (1 : Int32)), .val (.double (g 0)), .second, .val (.long ((g 0)).toInt64), .second] [(.double (g 1))])
  refine Go.step (fun _ k => XS.dstore X1.here hx rfl (hb hby d7_26) rfl (l' := #[.val (.ref q), .val (.int ((31 : Int32) + ((((g 0)).toInt64 ^^^ ((((g 0)).toInt64.toUInt64 >>> ((32 : Int32) &&& 0x3f).toInt64.toUInt64).toInt64)).toInt32))), .val (.ref q), .val (.int (3 : Int32)), .val (.int (1 : Int32)), .val (.double (g 1)), .second, .val (.long ((g 0)).toInt64), .second]) rfl k) ?_
  show Go _ _ _ _ _ _ _ T1 (mkF m 28 #[.val (.ref q), .val (.int ((31 : Int32) + ((((g 0)).toInt64 ^^^ ((((g 0)).toInt64.toUInt64 >>> ((32 : Int32) &&& 0x3f).toInt64.toUInt64).toInt64)).toInt32))), .val (.ref q), .val (.int (3 : Int32)), .val (.int (1 : Int32)), .val (.double (g 1)), .second, .val (.long ((g 0)).toInt64), .second] [])
  refine Go.step (fun _ k => XS.dload X1.here hx rfl (hb hby d7_28) rfl k) ?_
  show Go _ _ _ _ _ _ _ T1 (mkF m 30 #[.val (.ref q), .val (.int ((31 : Int32) + ((((g 0)).toInt64 ^^^ ((((g 0)).toInt64.toUInt64 >>> ((32 : Int32) &&& 0x3f).toInt64.toUInt64).toInt64)).toInt32))), .val (.ref q), .val (.int (3 : Int32)), .val (.int (1 : Int32)), .val (.double (g 1)), .second, .val (.long ((g 0)).toInt64), .second] [(.double (g 1))])
  refine Go.callS X1 hx hZ (by rw [hml]; rfl) (y := (⟨"java/lang/Double", "doubleToLongBits", "(D)J"⟩ : MethodName)) (argsL := [(.double (g 1))]) (rest := []) hown (hw _ (List.mem_of_getElem? (i := 62) rfl)) (hw _ (List.mem_of_getElem? (i := 63) rfl)) (hw _ (List.mem_of_getElem? (i := 46) rfl)) (hw _ (List.mem_of_getElem? (i := 64) rfl)) (by decide) (rm8 l Z a0 hw (g 1) h0 n0 Z0 (hn 1 (by decide))) hh1 (hb hby d7_30) (lenOf pd_2 rfl) rfl rfl (W := 0) (Nat.le_of_eq rfl) (by decide) (by decide) (by decide) (by decide) ?_
  intro v2 T2 L2 X2 Q2
  obtain ⟨rfl, N2q, hh2⟩ := Q2
  have N2 := Fr.app N1 N2q
  show Go _ _ _ _ _ _ _ T2 (mkF m 33 #[.val (.ref q), .val (.int ((31 : Int32) + ((((g 0)).toInt64 ^^^ ((((g 0)).toInt64.toUInt64 >>> ((32 : Int32) &&& 0x3f).toInt64.toUInt64).toInt64)).toInt32))), .val (.ref q), .val (.int (3 : Int32)), .val (.int (1 : Int32)), .val (.double (g 1)), .second, .val (.long ((g 0)).toInt64), .second] [(.long ((g 1)).toInt64)])
  refine Go.step (fun _ k => XS.lstore X2.here hx rfl (hb hby d7_33) rfl (l' := #[.val (.ref q), .val (.int ((31 : Int32) + ((((g 0)).toInt64 ^^^ ((((g 0)).toInt64.toUInt64 >>> ((32 : Int32) &&& 0x3f).toInt64.toUInt64).toInt64)).toInt32))), .val (.ref q), .val (.int (3 : Int32)), .val (.int (1 : Int32)), .val (.double (g 1)), .second, .val (.long ((g 1)).toInt64), .second]) rfl k) ?_
  show Go _ _ _ _ _ _ _ T2 (mkF m 35 #[.val (.ref q), .val (.int ((31 : Int32) + ((((g 0)).toInt64 ^^^ ((((g 0)).toInt64.toUInt64 >>> ((32 : Int32) &&& 0x3f).toInt64.toUInt64).toInt64)).toInt32))), .val (.ref q), .val (.int (3 : Int32)), .val (.int (1 : Int32)), .val (.double (g 1)), .second, .val (.long ((g 1)).toInt64), .second] [])
  refine Go.step (fun _ k => XS.bipush X2.here hx rfl (hb hby d7_35) k) ?_
  show Go _ _ _ _ _ _ _ T2 (mkF m 37 #[.val (.ref q), .val (.int ((31 : Int32) + ((((g 0)).toInt64 ^^^ ((((g 0)).toInt64.toUInt64 >>> ((32 : Int32) &&& 0x3f).toInt64.toUInt64).toInt64)).toInt32))), .val (.ref q), .val (.int (3 : Int32)), .val (.int (1 : Int32)), .val (.double (g 1)), .second, .val (.long ((g 1)).toInt64), .second] [(.int (31 : Int32))])
  refine Go.step (fun _ k => XS.iloadN X2.here hx rfl (hb hby d7_37) rfl k) ?_
  show Go _ _ _ _ _ _ _ T2 (mkF m 38 #[.val (.ref q), .val (.int ((31 : Int32) + ((((g 0)).toInt64 ^^^ ((((g 0)).toInt64.toUInt64 >>> ((32 : Int32) &&& 0x3f).toInt64.toUInt64).toInt64)).toInt32))), .val (.ref q), .val (.int (3 : Int32)), .val (.int (1 : Int32)), .val (.double (g 1)), .second, .val (.long ((g 1)).toInt64), .second] [(.int ((31 : Int32) + ((((g 0)).toInt64 ^^^ ((((g 0)).toInt64.toUInt64 >>> ((32 : Int32) &&& 0x3f).toInt64.toUInt64).toInt64)).toInt32))), (.int (31 : Int32))])
  refine Go.step (fun _ k => XS.imul X2.here hx rfl (hb hby d7_38) rfl k) ?_
  show Go _ _ _ _ _ _ _ T2 (mkF m 39 #[.val (.ref q), .val (.int ((31 : Int32) + ((((g 0)).toInt64 ^^^ ((((g 0)).toInt64.toUInt64 >>> ((32 : Int32) &&& 0x3f).toInt64.toUInt64).toInt64)).toInt32))), .val (.ref q), .val (.int (3 : Int32)), .val (.int (1 : Int32)), .val (.double (g 1)), .second, .val (.long ((g 1)).toInt64), .second] [(.int ((31 : Int32) * ((31 : Int32) + ((((g 0)).toInt64 ^^^ ((((g 0)).toInt64.toUInt64 >>> ((32 : Int32) &&& 0x3f).toInt64.toUInt64).toInt64)).toInt32))))])
  refine Go.step (fun _ k => XS.lload X2.here hx rfl (hb hby d7_39) rfl k) ?_
  show Go _ _ _ _ _ _ _ T2 (mkF m 41 #[.val (.ref q), .val (.int ((31 : Int32) + ((((g 0)).toInt64 ^^^ ((((g 0)).toInt64.toUInt64 >>> ((32 : Int32) &&& 0x3f).toInt64.toUInt64).toInt64)).toInt32))), .val (.ref q), .val (.int (3 : Int32)), .val (.int (1 : Int32)), .val (.double (g 1)), .second, .val (.long ((g 1)).toInt64), .second] [(.long ((g 1)).toInt64), (.int ((31 : Int32) * ((31 : Int32) + ((((g 0)).toInt64 ^^^ ((((g 0)).toInt64.toUInt64 >>> ((32 : Int32) &&& 0x3f).toInt64.toUInt64).toInt64)).toInt32))))])
  refine Go.step (fun _ k => XS.lload X2.here hx rfl (hb hby d7_41) rfl k) ?_
  show Go _ _ _ _ _ _ _ T2 (mkF m 43 #[.val (.ref q), .val (.int ((31 : Int32) + ((((g 0)).toInt64 ^^^ ((((g 0)).toInt64.toUInt64 >>> ((32 : Int32) &&& 0x3f).toInt64.toUInt64).toInt64)).toInt32))), .val (.ref q), .val (.int (3 : Int32)), .val (.int (1 : Int32)), .val (.double (g 1)), .second, .val (.long ((g 1)).toInt64), .second] [(.long ((g 1)).toInt64), (.long ((g 1)).toInt64), (.int ((31 : Int32) * ((31 : Int32) + ((((g 0)).toInt64 ^^^ ((((g 0)).toInt64.toUInt64 >>> ((32 : Int32) &&& 0x3f).toInt64.toUInt64).toInt64)).toInt32))))])
  refine Go.step (fun _ k => XS.bipush X2.here hx rfl (hb hby d7_43) k) ?_
  show Go _ _ _ _ _ _ _ T2 (mkF m 45 #[.val (.ref q), .val (.int ((31 : Int32) + ((((g 0)).toInt64 ^^^ ((((g 0)).toInt64.toUInt64 >>> ((32 : Int32) &&& 0x3f).toInt64.toUInt64).toInt64)).toInt32))), .val (.ref q), .val (.int (3 : Int32)), .val (.int (1 : Int32)), .val (.double (g 1)), .second, .val (.long ((g 1)).toInt64), .second] [(.int (32 : Int32)), (.long ((g 1)).toInt64), (.long ((g 1)).toInt64), (.int ((31 : Int32) * ((31 : Int32) + ((((g 0)).toInt64 ^^^ ((((g 0)).toInt64.toUInt64 >>> ((32 : Int32) &&& 0x3f).toInt64.toUInt64).toInt64)).toInt32))))])
  refine Go.step (fun _ k => XS.lushr X2.here hx rfl (hb hby d7_45) rfl k) ?_
  show Go _ _ _ _ _ _ _ T2 (mkF m 46 #[.val (.ref q), .val (.int ((31 : Int32) + ((((g 0)).toInt64 ^^^ ((((g 0)).toInt64.toUInt64 >>> ((32 : Int32) &&& 0x3f).toInt64.toUInt64).toInt64)).toInt32))), .val (.ref q), .val (.int (3 : Int32)), .val (.int (1 : Int32)), .val (.double (g 1)), .second, .val (.long ((g 1)).toInt64), .second] [(.long ((((g 1)).toInt64.toUInt64 >>> ((32 : Int32) &&& 0x3f).toInt64.toUInt64).toInt64)), (.long ((g 1)).toInt64), (.int ((31 : Int32) * ((31 : Int32) + ((((g 0)).toInt64 ^^^ ((((g 0)).toInt64.toUInt64 >>> ((32 : Int32) &&& 0x3f).toInt64.toUInt64).toInt64)).toInt32))))])
  refine Go.step (fun _ k => XS.lxor X2.here hx rfl (hb hby d7_46) rfl k) ?_
  show Go _ _ _ _ _ _ _ T2 (mkF m 47 #[.val (.ref q), .val (.int ((31 : Int32) + ((((g 0)).toInt64 ^^^ ((((g 0)).toInt64.toUInt64 >>> ((32 : Int32) &&& 0x3f).toInt64.toUInt64).toInt64)).toInt32))), .val (.ref q), .val (.int (3 : Int32)), .val (.int (1 : Int32)), .val (.double (g 1)), .second, .val (.long ((g 1)).toInt64), .second] [(.long (((g 1)).toInt64 ^^^ ((((g 1)).toInt64.toUInt64 >>> ((32 : Int32) &&& 0x3f).toInt64.toUInt64).toInt64))), (.int ((31 : Int32) * ((31 : Int32) + ((((g 0)).toInt64 ^^^ ((((g 0)).toInt64.toUInt64 >>> ((32 : Int32) &&& 0x3f).toInt64.toUInt64).toInt64)).toInt32))))])
  refine Go.step (fun _ k => XS.l2i X2.here hx rfl (hb hby d7_47) rfl k) ?_
  show Go _ _ _ _ _ _ _ T2 (mkF m 48 #[.val (.ref q), .val (.int ((31 : Int32) + ((((g 0)).toInt64 ^^^ ((((g 0)).toInt64.toUInt64 >>> ((32 : Int32) &&& 0x3f).toInt64.toUInt64).toInt64)).toInt32))), .val (.ref q), .val (.int (3 : Int32)), .val (.int (1 : Int32)), .val (.double (g 1)), .second, .val (.long ((g 1)).toInt64), .second] [(.int ((((g 1)).toInt64 ^^^ ((((g 1)).toInt64.toUInt64 >>> ((32 : Int32) &&& 0x3f).toInt64.toUInt64).toInt64)).toInt32)), (.int ((31 : Int32) * ((31 : Int32) + ((((g 0)).toInt64 ^^^ ((((g 0)).toInt64.toUInt64 >>> ((32 : Int32) &&& 0x3f).toInt64.toUInt64).toInt64)).toInt32))))])
  refine Go.step (fun _ k => XS.iadd X2.here hx rfl (hb hby d7_48) rfl k) ?_
  show Go _ _ _ _ _ _ _ T2 (mkF m 49 #[.val (.ref q), .val (.int ((31 : Int32) + ((((g 0)).toInt64 ^^^ ((((g 0)).toInt64.toUInt64 >>> ((32 : Int32) &&& 0x3f).toInt64.toUInt64).toInt64)).toInt32))), .val (.ref q), .val (.int (3 : Int32)), .val (.int (1 : Int32)), .val (.double (g 1)), .second, .val (.long ((g 1)).toInt64), .second] [(.int (((31 : Int32) * ((31 : Int32) + ((((g 0)).toInt64 ^^^ ((((g 0)).toInt64.toUInt64 >>> ((32 : Int32) &&& 0x3f).toInt64.toUInt64).toInt64)).toInt32))) + ((((g 1)).toInt64 ^^^ ((((g 1)).toInt64.toUInt64 >>> ((32 : Int32) &&& 0x3f).toInt64.toUInt64).toInt64)).toInt32)))])
  refine Go.step (fun _ k => XS.istoreN X2.here hx rfl (hb hby d7_49) rfl (l' := #[.val (.ref q), .val (.int (((31 : Int32) * ((31 : Int32) + ((((g 0)).toInt64 ^^^ ((((g 0)).toInt64.toUInt64 >>> ((32 : Int32) &&& 0x3f).toInt64.toUInt64).toInt64)).toInt32))) + ((((g 1)).toInt64 ^^^ ((((g 1)).toInt64.toUInt64 >>> ((32 : Int32) &&& 0x3f).toInt64.toUInt64).toInt64)).toInt32))), .val (.ref q), .val (.int (3 : Int32)), .val (.int (1 : Int32)), .val (.double (g 1)), .second, .val (.long ((g 1)).toInt64), .second]) rfl k) ?_
  show Go _ _ _ _ _ _ _ T2 (mkF m 50 #[.val (.ref q), .val (.int (((31 : Int32) * ((31 : Int32) + ((((g 0)).toInt64 ^^^ ((((g 0)).toInt64.toUInt64 >>> ((32 : Int32) &&& 0x3f).toInt64.toUInt64).toInt64)).toInt32))) + ((((g 1)).toInt64 ^^^ ((((g 1)).toInt64.toUInt64 >>> ((32 : Int32) &&& 0x3f).toInt64.toUInt64).toInt64)).toInt32))), .val (.ref q), .val (.int (3 : Int32)), .val (.int (1 : Int32)), .val (.double (g 1)), .second, .val (.long ((g 1)).toInt64), .second] [])
  refine Go.step (fun _ k => XS.iinc X2.here hx rfl (hb hby d7_50) rfl (l' := #[.val (.ref q), .val (.int (((31 : Int32) * ((31 : Int32) + ((((g 0)).toInt64 ^^^ ((((g 0)).toInt64.toUInt64 >>> ((32 : Int32) &&& 0x3f).toInt64.toUInt64).toInt64)).toInt32))) + ((((g 1)).toInt64 ^^^ ((((g 1)).toInt64.toUInt64 >>> ((32 : Int32) &&& 0x3f).toInt64.toUInt64).toInt64)).toInt32))), .val (.ref q), .val (.int (3 : Int32)), .val (.int (2 : Int32)), .val (.double (g 1)), .second, .val (.long ((g 1)).toInt64), .second]) rfl k) ?_
  show Go _ _ _ _ _ _ _ T2 (mkF m 53 #[.val (.ref q), .val (.int (((31 : Int32) * ((31 : Int32) + ((((g 0)).toInt64 ^^^ ((((g 0)).toInt64.toUInt64 >>> ((32 : Int32) &&& 0x3f).toInt64.toUInt64).toInt64)).toInt32))) + ((((g 1)).toInt64 ^^^ ((((g 1)).toInt64.toUInt64 >>> ((32 : Int32) &&& 0x3f).toInt64.toUInt64).toInt64)).toInt32))), .val (.ref q), .val (.int (3 : Int32)), .val (.int (2 : Int32)), .val (.double (g 1)), .second, .val (.long ((g 1)).toInt64), .second] [])
  refine Go.step (fun _ k => XS.goto X2.here hx rfl (pc0 := 53) (pc' := 16) rfl (hb hby d7_53) (by decide) (by decide) k) ?_
  show Go _ _ _ _ _ _ _ T2 (mkF m 16 #[.val (.ref q), .val (.int (((31 : Int32) * ((31 : Int32) + ((((g 0)).toInt64 ^^^ ((((g 0)).toInt64.toUInt64 >>> ((32 : Int32) &&& 0x3f).toInt64.toUInt64).toInt64)).toInt32))) + ((((g 1)).toInt64 ^^^ ((((g 1)).toInt64.toUInt64 >>> ((32 : Int32) &&& 0x3f).toInt64.toUInt64).toInt64)).toInt32))), .val (.ref q), .val (.int (3 : Int32)), .val (.int (2 : Int32)), .val (.double (g 1)), .second, .val (.long ((g 1)).toInt64), .second] [])
  refine Go.step (fun _ k => XS.iload X2.here hx rfl (hb hby d7_16) rfl k) ?_
  show Go _ _ _ _ _ _ _ T2 (mkF m 18 #[.val (.ref q), .val (.int (((31 : Int32) * ((31 : Int32) + ((((g 0)).toInt64 ^^^ ((((g 0)).toInt64.toUInt64 >>> ((32 : Int32) &&& 0x3f).toInt64.toUInt64).toInt64)).toInt32))) + ((((g 1)).toInt64 ^^^ ((((g 1)).toInt64.toUInt64 >>> ((32 : Int32) &&& 0x3f).toInt64.toUInt64).toInt64)).toInt32))), .val (.ref q), .val (.int (3 : Int32)), .val (.int (2 : Int32)), .val (.double (g 1)), .second, .val (.long ((g 1)).toInt64), .second] [(.int (2 : Int32))])
  refine Go.step (fun _ k => XS.iloadN X2.here hx rfl (hb hby d7_18) rfl k) ?_
  show Go _ _ _ _ _ _ _ T2 (mkF m 19 #[.val (.ref q), .val (.int (((31 : Int32) * ((31 : Int32) + ((((g 0)).toInt64 ^^^ ((((g 0)).toInt64.toUInt64 >>> ((32 : Int32) &&& 0x3f).toInt64.toUInt64).toInt64)).toInt32))) + ((((g 1)).toInt64 ^^^ ((((g 1)).toInt64.toUInt64 >>> ((32 : Int32) &&& 0x3f).toInt64.toUInt64).toInt64)).toInt32))), .val (.ref q), .val (.int (3 : Int32)), .val (.int (2 : Int32)), .val (.double (g 1)), .second, .val (.long ((g 1)).toInt64), .second] [(.int (3 : Int32)), (.int (2 : Int32))])
  refine Go.step (fun _ k => XS.icmpNo X2.here hx rfl (hb hby d7_19) rfl (tlt (by decide : (2 : Int32) < (3 : Int32))).2.1 k) ?_
  show Go _ _ _ _ _ _ _ T2 (mkF m 22 #[.val (.ref q), .val (.int (((31 : Int32) * ((31 : Int32) + ((((g 0)).toInt64 ^^^ ((((g 0)).toInt64.toUInt64 >>> ((32 : Int32) &&& 0x3f).toInt64.toUInt64).toInt64)).toInt32))) + ((((g 1)).toInt64 ^^^ ((((g 1)).toInt64.toUInt64 >>> ((32 : Int32) &&& 0x3f).toInt64.toUInt64).toInt64)).toInt32))), .val (.ref q), .val (.int (3 : Int32)), .val (.int (2 : Int32)), .val (.double (g 1)), .second, .val (.long ((g 1)).toInt64), .second] [])
  refine Go.step (fun _ k => XS.aloadN X2.here hx rfl (hb hby d7_22) rfl rfl k) ?_
  show Go _ _ _ _ _ _ _ T2 (mkF m 23 #[.val (.ref q), .val (.int (((31 : Int32) * ((31 : Int32) + ((((g 0)).toInt64 ^^^ ((((g 0)).toInt64.toUInt64 >>> ((32 : Int32) &&& 0x3f).toInt64.toUInt64).toInt64)).toInt32))) + ((((g 1)).toInt64 ^^^ ((((g 1)).toInt64.toUInt64 >>> ((32 : Int32) &&& 0x3f).toInt64.toUInt64).toInt64)).toInt32))), .val (.ref q), .val (.int (3 : Int32)), .val (.int (2 : Int32)), .val (.double (g 1)), .second, .val (.long ((g 1)).toInt64), .second] [(.ref q)])
  refine Go.step (fun _ k => XS.iload X2.here hx rfl (hb hby d7_23) rfl k) ?_
  show Go _ _ _ _ _ _ _ T2 (mkF m 25 #[.val (.ref q), .val (.int (((31 : Int32) * ((31 : Int32) + ((((g 0)).toInt64 ^^^ ((((g 0)).toInt64.toUInt64 >>> ((32 : Int32) &&& 0x3f).toInt64.toUInt64).toInt64)).toInt32))) + ((((g 1)).toInt64 ^^^ ((((g 1)).toInt64.toUInt64 >>> ((32 : Int32) &&& 0x3f).toInt64.toUInt64).toInt64)).toInt32))), .val (.ref q), .val (.int (3 : Int32)), .val (.int (2 : Int32)), .val (.double (g 1)), .second, .val (.long ((g 1)).toInt64), .second] [(.int (2 : Int32)), (.ref q)])
  refine Go.daload X2 hx hZ hh2 V_q (j := (2 : Int32)) (v := (g 2)) (by decide) rfl (hb hby d7_25) ?_
  show Go _ _ _ _ _ _ _ T2 (mkF m 26 #[.val (.ref q), .val (.int (((31 : Int32) * ((31 : Int32) + ((((g 0)).toInt64 ^^^ ((((g 0)).toInt64.toUInt64 >>> ((32 : Int32) &&& 0x3f).toInt64.toUInt64).toInt64)).toInt32))) + ((((g 1)).toInt64 ^^^ ((((g 1)).toInt64.toUInt64 >>> ((32 : Int32) &&& 0x3f).toInt64.toUInt64).toInt64)).toInt32))), .val (.ref q), .val (.int (3 : Int32)), .val (.int (2 : Int32)), .val (.double (g 1)), .second, .val (.long ((g 1)).toInt64), .second] [(.double (g 2))])
  refine Go.step (fun _ k => XS.dstore X2.here hx rfl (hb hby d7_26) rfl (l' := #[.val (.ref q), .val (.int (((31 : Int32) * ((31 : Int32) + ((((g 0)).toInt64 ^^^ ((((g 0)).toInt64.toUInt64 >>> ((32 : Int32) &&& 0x3f).toInt64.toUInt64).toInt64)).toInt32))) + ((((g 1)).toInt64 ^^^ ((((g 1)).toInt64.toUInt64 >>> ((32 : Int32) &&& 0x3f).toInt64.toUInt64).toInt64)).toInt32))), .val (.ref q), .val (.int (3 : Int32)), .val (.int (2 : Int32)), .val (.double (g 2)), .second, .val (.long ((g 1)).toInt64), .second]) rfl k) ?_
  show Go _ _ _ _ _ _ _ T2 (mkF m 28 #[.val (.ref q), .val (.int (((31 : Int32) * ((31 : Int32) + ((((g 0)).toInt64 ^^^ ((((g 0)).toInt64.toUInt64 >>> ((32 : Int32) &&& 0x3f).toInt64.toUInt64).toInt64)).toInt32))) + ((((g 1)).toInt64 ^^^ ((((g 1)).toInt64.toUInt64 >>> ((32 : Int32) &&& 0x3f).toInt64.toUInt64).toInt64)).toInt32))), .val (.ref q), .val (.int (3 : Int32)), .val (.int (2 : Int32)), .val (.double (g 2)), .second, .val (.long ((g 1)).toInt64), .second] [])
  refine Go.step (fun _ k => XS.dload X2.here hx rfl (hb hby d7_28) rfl k) ?_
  show Go _ _ _ _ _ _ _ T2 (mkF m 30 #[.val (.ref q), .val (.int (((31 : Int32) * ((31 : Int32) + ((((g 0)).toInt64 ^^^ ((((g 0)).toInt64.toUInt64 >>> ((32 : Int32) &&& 0x3f).toInt64.toUInt64).toInt64)).toInt32))) + ((((g 1)).toInt64 ^^^ ((((g 1)).toInt64.toUInt64 >>> ((32 : Int32) &&& 0x3f).toInt64.toUInt64).toInt64)).toInt32))), .val (.ref q), .val (.int (3 : Int32)), .val (.int (2 : Int32)), .val (.double (g 2)), .second, .val (.long ((g 1)).toInt64), .second] [(.double (g 2))])
  refine Go.callS X2 hx hZ (by rw [hml]; rfl) (y := (⟨"java/lang/Double", "doubleToLongBits", "(D)J"⟩ : MethodName)) (argsL := [(.double (g 2))]) (rest := []) hown (hw _ (List.mem_of_getElem? (i := 62) rfl)) (hw _ (List.mem_of_getElem? (i := 63) rfl)) (hw _ (List.mem_of_getElem? (i := 46) rfl)) (hw _ (List.mem_of_getElem? (i := 64) rfl)) (by decide) (rm8 l Z a0 hw (g 2) h0 n0 Z0 (hn 2 (by decide))) hh2 (hb hby d7_30) (lenOf pd_2 rfl) rfl rfl (W := 0) (Nat.le_of_eq rfl) (by decide) (by decide) (by decide) (by decide) ?_
  intro v3 T3 L3 X3 Q3
  obtain ⟨rfl, N3q, hh3⟩ := Q3
  have N3 := Fr.app N2 N3q
  show Go _ _ _ _ _ _ _ T3 (mkF m 33 #[.val (.ref q), .val (.int (((31 : Int32) * ((31 : Int32) + ((((g 0)).toInt64 ^^^ ((((g 0)).toInt64.toUInt64 >>> ((32 : Int32) &&& 0x3f).toInt64.toUInt64).toInt64)).toInt32))) + ((((g 1)).toInt64 ^^^ ((((g 1)).toInt64.toUInt64 >>> ((32 : Int32) &&& 0x3f).toInt64.toUInt64).toInt64)).toInt32))), .val (.ref q), .val (.int (3 : Int32)), .val (.int (2 : Int32)), .val (.double (g 2)), .second, .val (.long ((g 1)).toInt64), .second] [(.long ((g 2)).toInt64)])
  refine Go.step (fun _ k => XS.lstore X3.here hx rfl (hb hby d7_33) rfl (l' := #[.val (.ref q), .val (.int (((31 : Int32) * ((31 : Int32) + ((((g 0)).toInt64 ^^^ ((((g 0)).toInt64.toUInt64 >>> ((32 : Int32) &&& 0x3f).toInt64.toUInt64).toInt64)).toInt32))) + ((((g 1)).toInt64 ^^^ ((((g 1)).toInt64.toUInt64 >>> ((32 : Int32) &&& 0x3f).toInt64.toUInt64).toInt64)).toInt32))), .val (.ref q), .val (.int (3 : Int32)), .val (.int (2 : Int32)), .val (.double (g 2)), .second, .val (.long ((g 2)).toInt64), .second]) rfl k) ?_
  show Go _ _ _ _ _ _ _ T3 (mkF m 35 #[.val (.ref q), .val (.int (((31 : Int32) * ((31 : Int32) + ((((g 0)).toInt64 ^^^ ((((g 0)).toInt64.toUInt64 >>> ((32 : Int32) &&& 0x3f).toInt64.toUInt64).toInt64)).toInt32))) + ((((g 1)).toInt64 ^^^ ((((g 1)).toInt64.toUInt64 >>> ((32 : Int32) &&& 0x3f).toInt64.toUInt64).toInt64)).toInt32))), .val (.ref q), .val (.int (3 : Int32)), .val (.int (2 : Int32)), .val (.double (g 2)), .second, .val (.long ((g 2)).toInt64), .second] [])
  refine Go.step (fun _ k => XS.bipush X3.here hx rfl (hb hby d7_35) k) ?_
  show Go _ _ _ _ _ _ _ T3 (mkF m 37 #[.val (.ref q), .val (.int (((31 : Int32) * ((31 : Int32) + ((((g 0)).toInt64 ^^^ ((((g 0)).toInt64.toUInt64 >>> ((32 : Int32) &&& 0x3f).toInt64.toUInt64).toInt64)).toInt32))) + ((((g 1)).toInt64 ^^^ ((((g 1)).toInt64.toUInt64 >>> ((32 : Int32) &&& 0x3f).toInt64.toUInt64).toInt64)).toInt32))), .val (.ref q), .val (.int (3 : Int32)), .val (.int (2 : Int32)), .val (.double (g 2)), .second, .val (.long ((g 2)).toInt64), .second] [(.int (31 : Int32))])
  refine Go.step (fun _ k => XS.iloadN X3.here hx rfl (hb hby d7_37) rfl k) ?_
  show Go _ _ _ _ _ _ _ T3 (mkF m 38 #[.val (.ref q), .val (.int (((31 : Int32) * ((31 : Int32) + ((((g 0)).toInt64 ^^^ ((((g 0)).toInt64.toUInt64 >>> ((32 : Int32) &&& 0x3f).toInt64.toUInt64).toInt64)).toInt32))) + ((((g 1)).toInt64 ^^^ ((((g 1)).toInt64.toUInt64 >>> ((32 : Int32) &&& 0x3f).toInt64.toUInt64).toInt64)).toInt32))), .val (.ref q), .val (.int (3 : Int32)), .val (.int (2 : Int32)), .val (.double (g 2)), .second, .val (.long ((g 2)).toInt64), .second] [(.int (((31 : Int32) * ((31 : Int32) + ((((g 0)).toInt64 ^^^ ((((g 0)).toInt64.toUInt64 >>> ((32 : Int32) &&& 0x3f).toInt64.toUInt64).toInt64)).toInt32))) + ((((g 1)).toInt64 ^^^ ((((g 1)).toInt64.toUInt64 >>> ((32 : Int32) &&& 0x3f).toInt64.toUInt64).toInt64)).toInt32))), (.int (31 : Int32))])
  refine Go.step (fun _ k => XS.imul X3.here hx rfl (hb hby d7_38) rfl k) ?_
  show Go _ _ _ _ _ _ _ T3 (mkF m 39 #[.val (.ref q), .val (.int (((31 : Int32) * ((31 : Int32) + ((((g 0)).toInt64 ^^^ ((((g 0)).toInt64.toUInt64 >>> ((32 : Int32) &&& 0x3f).toInt64.toUInt64).toInt64)).toInt32))) + ((((g 1)).toInt64 ^^^ ((((g 1)).toInt64.toUInt64 >>> ((32 : Int32) &&& 0x3f).toInt64.toUInt64).toInt64)).toInt32))), .val (.ref q), .val (.int (3 : Int32)), .val (.int (2 : Int32)), .val (.double (g 2)), .second, .val (.long ((g 2)).toInt64), .second] [(.int ((31 : Int32) * (((31 : Int32) * ((31 : Int32) + ((((g 0)).toInt64 ^^^ ((((g 0)).toInt64.toUInt64 >>> ((32 : Int32) &&& 0x3f).toInt64.toUInt64).toInt64)).toInt32))) + ((((g 1)).toInt64 ^^^ ((((g 1)).toInt64.toUInt64 >>> ((32 : Int32) &&& 0x3f).toInt64.toUInt64).toInt64)).toInt32))))])
  refine Go.step (fun _ k => XS.lload X3.here hx rfl (hb hby d7_39) rfl k) ?_
  show Go _ _ _ _ _ _ _ T3 (mkF m 41 #[.val (.ref q), .val (.int (((31 : Int32) * ((31 : Int32) + ((((g 0)).toInt64 ^^^ ((((g 0)).toInt64.toUInt64 >>> ((32 : Int32) &&& 0x3f).toInt64.toUInt64).toInt64)).toInt32))) + ((((g 1)).toInt64 ^^^ ((((g 1)).toInt64.toUInt64 >>> ((32 : Int32) &&& 0x3f).toInt64.toUInt64).toInt64)).toInt32))), .val (.ref q), .val (.int (3 : Int32)), .val (.int (2 : Int32)), .val (.double (g 2)), .second, .val (.long ((g 2)).toInt64), .second] [(.long ((g 2)).toInt64), (.int ((31 : Int32) * (((31 : Int32) * ((31 : Int32) + ((((g 0)).toInt64 ^^^ ((((g 0)).toInt64.toUInt64 >>> ((32 : Int32) &&& 0x3f).toInt64.toUInt64).toInt64)).toInt32))) + ((((g 1)).toInt64 ^^^ ((((g 1)).toInt64.toUInt64 >>> ((32 : Int32) &&& 0x3f).toInt64.toUInt64).toInt64)).toInt32))))])
  refine Go.step (fun _ k => XS.lload X3.here hx rfl (hb hby d7_41) rfl k) ?_
  show Go _ _ _ _ _ _ _ T3 (mkF m 43 #[.val (.ref q), .val (.int (((31 : Int32) * ((31 : Int32) + ((((g 0)).toInt64 ^^^ ((((g 0)).toInt64.toUInt64 >>> ((32 : Int32) &&& 0x3f).toInt64.toUInt64).toInt64)).toInt32))) + ((((g 1)).toInt64 ^^^ ((((g 1)).toInt64.toUInt64 >>> ((32 : Int32) &&& 0x3f).toInt64.toUInt64).toInt64)).toInt32))), .val (.ref q), .val (.int (3 : Int32)), .val (.int (2 : Int32)), .val (.double (g 2)), .second, .val (.long ((g 2)).toInt64), .second] [(.long ((g 2)).toInt64), (.long ((g 2)).toInt64), (.int ((31 : Int32) * (((31 : Int32) * ((31 : Int32) + ((((g 0)).toInt64 ^^^ ((((g 0)).toInt64.toUInt64 >>> ((32 : Int32) &&& 0x3f).toInt64.toUInt64).toInt64)).toInt32))) + ((((g 1)).toInt64 ^^^ ((((g 1)).toInt64.toUInt64 >>> ((32 : Int32) &&& 0x3f).toInt64.toUInt64).toInt64)).toInt32))))])
  refine Go.step (fun _ k => XS.bipush X3.here hx rfl (hb hby d7_43) k) ?_
  show Go _ _ _ _ _ _ _ T3 (mkF m 45 #[.val (.ref q), .val (.int (((31 : Int32) * ((31 : Int32) + ((((g 0)).toInt64 ^^^ ((((g 0)).toInt64.toUInt64 >>> ((32 : Int32) &&& 0x3f).toInt64.toUInt64).toInt64)).toInt32))) + ((((g 1)).toInt64 ^^^ ((((g 1)).toInt64.toUInt64 >>> ((32 : Int32) &&& 0x3f).toInt64.toUInt64).toInt64)).toInt32))), .val (.ref q), .val (.int (3 : Int32)), .val (.int (2 : Int32)), .val (.double (g 2)), .second, .val (.long ((g 2)).toInt64), .second] [(.int (32 : Int32)), (.long ((g 2)).toInt64), (.long ((g 2)).toInt64), (.int ((31 : Int32) * (((31 : Int32) * ((31 : Int32) + ((((g 0)).toInt64 ^^^ ((((g 0)).toInt64.toUInt64 >>> ((32 : Int32) &&& 0x3f).toInt64.toUInt64).toInt64)).toInt32))) + ((((g 1)).toInt64 ^^^ ((((g 1)).toInt64.toUInt64 >>> ((32 : Int32) &&& 0x3f).toInt64.toUInt64).toInt64)).toInt32))))])
  refine Go.step (fun _ k => XS.lushr X3.here hx rfl (hb hby d7_45) rfl k) ?_
  show Go _ _ _ _ _ _ _ T3 (mkF m 46 #[.val (.ref q), .val (.int (((31 : Int32) * ((31 : Int32) + ((((g 0)).toInt64 ^^^ ((((g 0)).toInt64.toUInt64 >>> ((32 : Int32) &&& 0x3f).toInt64.toUInt64).toInt64)).toInt32))) + ((((g 1)).toInt64 ^^^ ((((g 1)).toInt64.toUInt64 >>> ((32 : Int32) &&& 0x3f).toInt64.toUInt64).toInt64)).toInt32))), .val (.ref q), .val (.int (3 : Int32)), .val (.int (2 : Int32)), .val (.double (g 2)), .second, .val (.long ((g 2)).toInt64), .second] [(.long ((((g 2)).toInt64.toUInt64 >>> ((32 : Int32) &&& 0x3f).toInt64.toUInt64).toInt64)), (.long ((g 2)).toInt64), (.int ((31 : Int32) * (((31 : Int32) * ((31 : Int32) + ((((g 0)).toInt64 ^^^ ((((g 0)).toInt64.toUInt64 >>> ((32 : Int32) &&& 0x3f).toInt64.toUInt64).toInt64)).toInt32))) + ((((g 1)).toInt64 ^^^ ((((g 1)).toInt64.toUInt64 >>> ((32 : Int32) &&& 0x3f).toInt64.toUInt64).toInt64)).toInt32))))])
  refine Go.step (fun _ k => XS.lxor X3.here hx rfl (hb hby d7_46) rfl k) ?_
  show Go _ _ _ _ _ _ _ T3 (mkF m 47 #[.val (.ref q), .val (.int (((31 : Int32) * ((31 : Int32) + ((((g 0)).toInt64 ^^^ ((((g 0)).toInt64.toUInt64 >>> ((32 : Int32) &&& 0x3f).toInt64.toUInt64).toInt64)).toInt32))) + ((((g 1)).toInt64 ^^^ ((((g 1)).toInt64.toUInt64 >>> ((32 : Int32) &&& 0x3f).toInt64.toUInt64).toInt64)).toInt32))), .val (.ref q), .val (.int (3 : Int32)), .val (.int (2 : Int32)), .val (.double (g 2)), .second, .val (.long ((g 2)).toInt64), .second] [(.long (((g 2)).toInt64 ^^^ ((((g 2)).toInt64.toUInt64 >>> ((32 : Int32) &&& 0x3f).toInt64.toUInt64).toInt64))), (.int ((31 : Int32) * (((31 : Int32) * ((31 : Int32) + ((((g 0)).toInt64 ^^^ ((((g 0)).toInt64.toUInt64 >>> ((32 : Int32) &&& 0x3f).toInt64.toUInt64).toInt64)).toInt32))) + ((((g 1)).toInt64 ^^^ ((((g 1)).toInt64.toUInt64 >>> ((32 : Int32) &&& 0x3f).toInt64.toUInt64).toInt64)).toInt32))))])
  refine Go.step (fun _ k => XS.l2i X3.here hx rfl (hb hby d7_47) rfl k) ?_
  show Go _ _ _ _ _ _ _ T3 (mkF m 48 #[.val (.ref q), .val (.int (((31 : Int32) * ((31 : Int32) + ((((g 0)).toInt64 ^^^ ((((g 0)).toInt64.toUInt64 >>> ((32 : Int32) &&& 0x3f).toInt64.toUInt64).toInt64)).toInt32))) + ((((g 1)).toInt64 ^^^ ((((g 1)).toInt64.toUInt64 >>> ((32 : Int32) &&& 0x3f).toInt64.toUInt64).toInt64)).toInt32))), .val (.ref q), .val (.int (3 : Int32)), .val (.int (2 : Int32)), .val (.double (g 2)), .second, .val (.long ((g 2)).toInt64), .second] [(.int ((((g 2)).toInt64 ^^^ ((((g 2)).toInt64.toUInt64 >>> ((32 : Int32) &&& 0x3f).toInt64.toUInt64).toInt64)).toInt32)), (.int ((31 : Int32) * (((31 : Int32) * ((31 : Int32) + ((((g 0)).toInt64 ^^^ ((((g 0)).toInt64.toUInt64 >>> ((32 : Int32) &&& 0x3f).toInt64.toUInt64).toInt64)).toInt32))) + ((((g 1)).toInt64 ^^^ ((((g 1)).toInt64.toUInt64 >>> ((32 : Int32) &&& 0x3f).toInt64.toUInt64).toInt64)).toInt32))))])
  refine Go.step (fun _ k => XS.iadd X3.here hx rfl (hb hby d7_48) rfl k) ?_
  show Go _ _ _ _ _ _ _ T3 (mkF m 49 #[.val (.ref q), .val (.int (((31 : Int32) * ((31 : Int32) + ((((g 0)).toInt64 ^^^ ((((g 0)).toInt64.toUInt64 >>> ((32 : Int32) &&& 0x3f).toInt64.toUInt64).toInt64)).toInt32))) + ((((g 1)).toInt64 ^^^ ((((g 1)).toInt64.toUInt64 >>> ((32 : Int32) &&& 0x3f).toInt64.toUInt64).toInt64)).toInt32))), .val (.ref q), .val (.int (3 : Int32)), .val (.int (2 : Int32)), .val (.double (g 2)), .second, .val (.long ((g 2)).toInt64), .second] [(.int (((31 : Int32) * (((31 : Int32) * ((31 : Int32) + ((((g 0)).toInt64 ^^^ ((((g 0)).toInt64.toUInt64 >>> ((32 : Int32) &&& 0x3f).toInt64.toUInt64).toInt64)).toInt32))) + ((((g 1)).toInt64 ^^^ ((((g 1)).toInt64.toUInt64 >>> ((32 : Int32) &&& 0x3f).toInt64.toUInt64).toInt64)).toInt32))) + ((((g 2)).toInt64 ^^^ ((((g 2)).toInt64.toUInt64 >>> ((32 : Int32) &&& 0x3f).toInt64.toUInt64).toInt64)).toInt32)))])
  refine Go.step (fun _ k => XS.istoreN X3.here hx rfl (hb hby d7_49) rfl (l' := #[.val (.ref q), .val (.int (((31 : Int32) * (((31 : Int32) * ((31 : Int32) + ((((g 0)).toInt64 ^^^ ((((g 0)).toInt64.toUInt64 >>> ((32 : Int32) &&& 0x3f).toInt64.toUInt64).toInt64)).toInt32))) + ((((g 1)).toInt64 ^^^ ((((g 1)).toInt64.toUInt64 >>> ((32 : Int32) &&& 0x3f).toInt64.toUInt64).toInt64)).toInt32))) + ((((g 2)).toInt64 ^^^ ((((g 2)).toInt64.toUInt64 >>> ((32 : Int32) &&& 0x3f).toInt64.toUInt64).toInt64)).toInt32))), .val (.ref q), .val (.int (3 : Int32)), .val (.int (2 : Int32)), .val (.double (g 2)), .second, .val (.long ((g 2)).toInt64), .second]) rfl k) ?_
  show Go _ _ _ _ _ _ _ T3 (mkF m 50 #[.val (.ref q), .val (.int (((31 : Int32) * (((31 : Int32) * ((31 : Int32) + ((((g 0)).toInt64 ^^^ ((((g 0)).toInt64.toUInt64 >>> ((32 : Int32) &&& 0x3f).toInt64.toUInt64).toInt64)).toInt32))) + ((((g 1)).toInt64 ^^^ ((((g 1)).toInt64.toUInt64 >>> ((32 : Int32) &&& 0x3f).toInt64.toUInt64).toInt64)).toInt32))) + ((((g 2)).toInt64 ^^^ ((((g 2)).toInt64.toUInt64 >>> ((32 : Int32) &&& 0x3f).toInt64.toUInt64).toInt64)).toInt32))), .val (.ref q), .val (.int (3 : Int32)), .val (.int (2 : Int32)), .val (.double (g 2)), .second, .val (.long ((g 2)).toInt64), .second] [])
  refine Go.step (fun _ k => XS.iinc X3.here hx rfl (hb hby d7_50) rfl (l' := #[.val (.ref q), .val (.int (((31 : Int32) * (((31 : Int32) * ((31 : Int32) + ((((g 0)).toInt64 ^^^ ((((g 0)).toInt64.toUInt64 >>> ((32 : Int32) &&& 0x3f).toInt64.toUInt64).toInt64)).toInt32))) + ((((g 1)).toInt64 ^^^ ((((g 1)).toInt64.toUInt64 >>> ((32 : Int32) &&& 0x3f).toInt64.toUInt64).toInt64)).toInt32))) + ((((g 2)).toInt64 ^^^ ((((g 2)).toInt64.toUInt64 >>> ((32 : Int32) &&& 0x3f).toInt64.toUInt64).toInt64)).toInt32))), .val (.ref q), .val (.int (3 : Int32)), .val (.int (3 : Int32)), .val (.double (g 2)), .second, .val (.long ((g 2)).toInt64), .second]) rfl k) ?_
  show Go _ _ _ _ _ _ _ T3 (mkF m 53 #[.val (.ref q), .val (.int (((31 : Int32) * (((31 : Int32) * ((31 : Int32) + ((((g 0)).toInt64 ^^^ ((((g 0)).toInt64.toUInt64 >>> ((32 : Int32) &&& 0x3f).toInt64.toUInt64).toInt64)).toInt32))) + ((((g 1)).toInt64 ^^^ ((((g 1)).toInt64.toUInt64 >>> ((32 : Int32) &&& 0x3f).toInt64.toUInt64).toInt64)).toInt32))) + ((((g 2)).toInt64 ^^^ ((((g 2)).toInt64.toUInt64 >>> ((32 : Int32) &&& 0x3f).toInt64.toUInt64).toInt64)).toInt32))), .val (.ref q), .val (.int (3 : Int32)), .val (.int (3 : Int32)), .val (.double (g 2)), .second, .val (.long ((g 2)).toInt64), .second] [])
  refine Go.step (fun _ k => XS.goto X3.here hx rfl (pc0 := 53) (pc' := 16) rfl (hb hby d7_53) (by decide) (by decide) k) ?_
  show Go _ _ _ _ _ _ _ T3 (mkF m 16 #[.val (.ref q), .val (.int (((31 : Int32) * (((31 : Int32) * ((31 : Int32) + ((((g 0)).toInt64 ^^^ ((((g 0)).toInt64.toUInt64 >>> ((32 : Int32) &&& 0x3f).toInt64.toUInt64).toInt64)).toInt32))) + ((((g 1)).toInt64 ^^^ ((((g 1)).toInt64.toUInt64 >>> ((32 : Int32) &&& 0x3f).toInt64.toUInt64).toInt64)).toInt32))) + ((((g 2)).toInt64 ^^^ ((((g 2)).toInt64.toUInt64 >>> ((32 : Int32) &&& 0x3f).toInt64.toUInt64).toInt64)).toInt32))), .val (.ref q), .val (.int (3 : Int32)), .val (.int (3 : Int32)), .val (.double (g 2)), .second, .val (.long ((g 2)).toInt64), .second] [])
  refine Go.step (fun _ k => XS.iload X3.here hx rfl (hb hby d7_16) rfl k) ?_
  show Go _ _ _ _ _ _ _ T3 (mkF m 18 #[.val (.ref q), .val (.int (((31 : Int32) * (((31 : Int32) * ((31 : Int32) + ((((g 0)).toInt64 ^^^ ((((g 0)).toInt64.toUInt64 >>> ((32 : Int32) &&& 0x3f).toInt64.toUInt64).toInt64)).toInt32))) + ((((g 1)).toInt64 ^^^ ((((g 1)).toInt64.toUInt64 >>> ((32 : Int32) &&& 0x3f).toInt64.toUInt64).toInt64)).toInt32))) + ((((g 2)).toInt64 ^^^ ((((g 2)).toInt64.toUInt64 >>> ((32 : Int32) &&& 0x3f).toInt64.toUInt64).toInt64)).toInt32))), .val (.ref q), .val (.int (3 : Int32)), .val (.int (3 : Int32)), .val (.double (g 2)), .second, .val (.long ((g 2)).toInt64), .second] [(.int (3 : Int32))])
  refine Go.step (fun _ k => XS.iloadN X3.here hx rfl (hb hby d7_18) rfl k) ?_
  show Go _ _ _ _ _ _ _ T3 (mkF m 19 #[.val (.ref q), .val (.int (((31 : Int32) * (((31 : Int32) * ((31 : Int32) + ((((g 0)).toInt64 ^^^ ((((g 0)).toInt64.toUInt64 >>> ((32 : Int32) &&& 0x3f).toInt64.toUInt64).toInt64)).toInt32))) + ((((g 1)).toInt64 ^^^ ((((g 1)).toInt64.toUInt64 >>> ((32 : Int32) &&& 0x3f).toInt64.toUInt64).toInt64)).toInt32))) + ((((g 2)).toInt64 ^^^ ((((g 2)).toInt64.toUInt64 >>> ((32 : Int32) &&& 0x3f).toInt64.toUInt64).toInt64)).toInt32))), .val (.ref q), .val (.int (3 : Int32)), .val (.int (3 : Int32)), .val (.double (g 2)), .second, .val (.long ((g 2)).toInt64), .second] [(.int (3 : Int32)), (.int (3 : Int32))])
  refine Go.step (fun _ k => XS.icmpYes X3.here hx rfl (pc0 := 19) (pc' := 56) rfl (hb hby d7_19) rfl (flt (by decide : ¬ ((3 : Int32) < (3 : Int32)))).2.1 (by decide) (by decide) k) ?_
  show Go _ _ _ _ _ _ _ T3 (mkF m 56 #[.val (.ref q), .val (.int (((31 : Int32) * (((31 : Int32) * ((31 : Int32) + ((((g 0)).toInt64 ^^^ ((((g 0)).toInt64.toUInt64 >>> ((32 : Int32) &&& 0x3f).toInt64.toUInt64).toInt64)).toInt32))) + ((((g 1)).toInt64 ^^^ ((((g 1)).toInt64.toUInt64 >>> ((32 : Int32) &&& 0x3f).toInt64.toUInt64).toInt64)).toInt32))) + ((((g 2)).toInt64 ^^^ ((((g 2)).toInt64.toUInt64 >>> ((32 : Int32) &&& 0x3f).toInt64.toUInt64).toInt64)).toInt32))), .val (.ref q), .val (.int (3 : Int32)), .val (.int (3 : Int32)), .val (.double (g 2)), .second, .val (.long ((g 2)).toInt64), .second] [])
  refine Go.step (fun _ k => XS.iloadN X3.here hx rfl (hb hby d7_56) rfl k) ?_
  show Go _ _ _ _ _ _ _ T3 (mkF m 57 #[.val (.ref q), .val (.int (((31 : Int32) * (((31 : Int32) * ((31 : Int32) + ((((g 0)).toInt64 ^^^ ((((g 0)).toInt64.toUInt64 >>> ((32 : Int32) &&& 0x3f).toInt64.toUInt64).toInt64)).toInt32))) + ((((g 1)).toInt64 ^^^ ((((g 1)).toInt64.toUInt64 >>> ((32 : Int32) &&& 0x3f).toInt64.toUInt64).toInt64)).toInt32))) + ((((g 2)).toInt64 ^^^ ((((g 2)).toInt64.toUInt64 >>> ((32 : Int32) &&& 0x3f).toInt64.toUInt64).toInt64)).toInt32))), .val (.ref q), .val (.int (3 : Int32)), .val (.int (3 : Int32)), .val (.double (g 2)), .second, .val (.long ((g 2)).toInt64), .second] [(.int (((31 : Int32) * (((31 : Int32) * ((31 : Int32) + ((((g 0)).toInt64 ^^^ ((((g 0)).toInt64.toUInt64 >>> ((32 : Int32) &&& 0x3f).toInt64.toUInt64).toInt64)).toInt32))) + ((((g 1)).toInt64 ^^^ ((((g 1)).toInt64.toUInt64 >>> ((32 : Int32) &&& 0x3f).toInt64.toUInt64).toInt64)).toInt32))) + ((((g 2)).toInt64 ^^^ ((((g 2)).toInt64.toUInt64 >>> ((32 : Int32) &&& 0x3f).toInt64.toUInt64).toInt64)).toInt32)))])
  refine Go.retI X3 hx hlk hret (hb hby d7_57) (by decide) (by decide) ?_
  try rw [hh3]
  exact ⟨rfl, N3, rfl⟩
theorem ef_rm7_3 (m : MethodId) (q : Addr) : entryFrame m #[(.ref q)] 9 = mkF m 0 #[.val (.ref q), .unset, .unset, .unset, .unset, .unset, .unset, .unset, .unset] [] := by first | (simp [entryFrame, mkF, argsToLocals, Value.category]; done) | rfl
theorem rm7_3 (l : Launch) (Z : State) (a0 : Array Value) (hw : ∀ d ∈ tables_1, d.before a0 Z = true) (q : Addr) (g : Nat → UInt64) (h0 : Heap) (n0 : Nat) (Z0 : n0 ≤ h0.size) (V_q : Dv Z h0 q (3 : Int32) g) (hn : ∀ i, i < 3 → Jvm.Free.Fl.NoNaN64 (g i)) :
    Con l Z (⟨"java/util/Arrays", "hashCode", "([D)I"⟩ : MethodName) jdk_65_method_156_code 9 (some .int) ({ frames := 2, cells := 0, slots := 0, locals := 60 } : Room) #[(.ref q)] h0 (fun r h L => r = some (.int (hashW 3 g)) ∧ Fr n0 L ∧ h = h0) :=
  con_of (plainFor_of_name pn_7) (fun p_ e_ s_ m_ b_ meth_ c_ T_ X_ hx hZ hby hml hown hnm hret hlk e0 => Go.cast (ef_rm7_3 m_ q) (w7_3 q g X_ hx hZ hw hby hml hown hnm hret hlk e0 Z0 (Fr.nil n0) V_q hn))
set_option maxRecDepth 65536 in
set_option maxHeartbeats 40000000 in
theorem w6_3 {p : Program} {l : Launch} {e : Env} {s : State} {m : MethodId} {args : Array Value} {below : List Frame} {meth : Method} {c_ : Code} {T0 : State} {locs : List Loc} {Z : State} {a0 : Array Value} {h0 : Heap} {n0 : Nat} (a c : Addr) (K : Int32) (g : Nat → UInt64)
    (X0 : Stand p l e ({ frames := 3, cells := 0, slots := 0, locals := 90 } : Room) s m args below meth c_ T0 locs 0 0) (hx : p.tables.exec = Jvm.exec) (hZ : Z.Warmed39 s.vm) (hw : ∀ d ∈ tables_1, d.before a0 Z = true) (hby : c_.code = prog_33_method_9_code) (hml : c_.maxLocals = 1) (hown : s.vm.findClass "tidewatch/decision/KeyGroupCeiling" = some m.cls) (hnm : meth.name = "hashCode") (hret : meth.sig.returnType = some .int) (hlk : meth.locks = false) (e0 : T0.heap = h0) (Z0 : n0 ≤ h0.size) (N0 : Fr n0 locs) (F_keyGroups_a : Fld Z h0 a "tidewatch/decision/KeyGroupCeiling" "keyGroups" "I" (.int K)) (F_shares_a : Fld Z h0 a "tidewatch/decision/KeyGroupCeiling" "shares" "[D" (.ref c)) (V_c : Dv Z h0 c (3 : Int32) g) (hn : ∀ i, i < 3 → Jvm.Free.Fl.NoNaN64 (g i)) :
    Go p e below s ({ frames := 3, cells := 0, slots := 0, locals := 90 } : Room).cells ({ frames := 3, cells := 0, slots := 0, locals := 90 } : Room).slots (fun r h L => r = some (.int (((31 : Int32) * K) + hashW 3 g)) ∧ Fr n0 L ∧ h = h0) T0 (mkF m 0 #[.val (.ref a)] []) := by
  show Go _ _ _ _ _ _ _ T0 (mkF m 0 #[.val (.ref a)] [])
  refine Go.step (fun _ k => XS.bipush X0.here hx rfl (hb hby d6_0) k) ?_
  show Go _ _ _ _ _ _ _ T0 (mkF m 2 #[.val (.ref a)] [(.int (31 : Int32))])
  refine Go.step (fun _ k => XS.aloadN X0.here hx rfl (hb hby d6_2) rfl rfl k) ?_
  show Go _ _ _ _ _ _ _ T0 (mkF m 3 #[.val (.ref a)] [(.ref a), (.int (31 : Int32))])
  obtain ⟨T1, X1, e1, st1⟩ := getF X0 hx hZ hown (host := "") (Or.inl (hw _ (List.mem_of_getElem? (i := 29) rfl))) Via.refl e0 F_keyGroups_a (g := (mkF m 3 #[.val (.ref a)] [(.ref a), (.int (31 : Int32))])) rfl rfl (hb hby d6_3)
  refine Go.step st1 ?_
  show Go _ _ _ _ _ _ _ T1 (mkF m 6 #[.val (.ref a)] [(.int K), (.int (31 : Int32))])
  refine Go.step (fun _ k => XS.imul X1.here hx rfl (hb hby d6_6) rfl k) ?_
  show Go _ _ _ _ _ _ _ T1 (mkF m 7 #[.val (.ref a)] [(.int ((31 : Int32) * K))])
  refine Go.step (fun _ k => XS.aloadN X1.here hx rfl (hb hby d6_7) rfl rfl k) ?_
  show Go _ _ _ _ _ _ _ T1 (mkF m 8 #[.val (.ref a)] [(.ref a), (.int ((31 : Int32) * K))])
  obtain ⟨T2, X2, e2, st2⟩ := getF X1 hx hZ hown (host := "") (Or.inl (hw _ (List.mem_of_getElem? (i := 40) rfl))) Via.refl e1 F_shares_a (g := (mkF m 8 #[.val (.ref a)] [(.ref a), (.int ((31 : Int32) * K))])) rfl rfl (hb hby d6_8)
  refine Go.step st2 ?_
  show Go _ _ _ _ _ _ _ T2 (mkF m 11 #[.val (.ref a)] [(.ref c), (.int ((31 : Int32) * K))])
  refine Go.callS X2 hx hZ (by rw [hml]; rfl) (y := (⟨"java/util/Arrays", "hashCode", "([D)I"⟩ : MethodName)) (argsL := [(.ref c)]) (rest := [(.int ((31 : Int32) * K))]) hown (hw _ (List.mem_of_getElem? (i := 58) rfl)) (hw _ (List.mem_of_getElem? (i := 59) rfl)) (hw _ (List.mem_of_getElem? (i := 60) rfl)) (hw _ (List.mem_of_getElem? (i := 61) rfl)) (by decide) (rm7_3 l Z a0 hw c g h0 n0 Z0 V_c hn) e2 (hb hby d6_11) (lenOf pd_3 rfl) rfl rfl (W := 1) (Nat.le_of_eq rfl) (by decide) (by decide) (by decide) (by decide) ?_
  intro v3 T3 L3 X3 Q3
  obtain ⟨rfl, N3q, hh3⟩ := Q3
  have N3 := Fr.app N0 N3q
  show Go _ _ _ _ _ _ _ T3 (mkF m 14 #[.val (.ref a)] [(.int (hashW 3 g)), (.int ((31 : Int32) * K))])
  refine Go.step (fun _ k => XS.iadd X3.here hx rfl (hb hby d6_14) rfl k) ?_
  show Go _ _ _ _ _ _ _ T3 (mkF m 15 #[.val (.ref a)] [(.int (((31 : Int32) * K) + (hashW 3 g)))])
  refine Go.retI X3 hx hlk hret (hb hby d6_15) (by decide) (by decide) ?_
  try rw [hh3]
  exact ⟨rfl, N3, rfl⟩
theorem ef_rm6_3 (m : MethodId) (a : Addr) : entryFrame m #[(.ref a)] 1 = mkF m 0 #[.val (.ref a)] [] := by first | (simp [entryFrame, mkF, argsToLocals, Value.category]; done) | rfl
theorem rm6_3 (l : Launch) (Z : State) (a0 : Array Value) (hw : ∀ d ∈ tables_1, d.before a0 Z = true) (a c : Addr) (K : Int32) (g : Nat → UInt64) (h0 : Heap) (n0 : Nat) (Z0 : n0 ≤ h0.size) (F_keyGroups_a : Fld Z h0 a "tidewatch/decision/KeyGroupCeiling" "keyGroups" "I" (.int K)) (F_shares_a : Fld Z h0 a "tidewatch/decision/KeyGroupCeiling" "shares" "[D" (.ref c)) (V_c : Dv Z h0 c (3 : Int32) g) (hn : ∀ i, i < 3 → Jvm.Free.Fl.NoNaN64 (g i)) :
    Con l Z (⟨"tidewatch/decision/KeyGroupCeiling", "hashCode", "()I"⟩ : MethodName) prog_33_method_9_code 1 (some .int) ({ frames := 3, cells := 0, slots := 0, locals := 90 } : Room) #[(.ref a)] h0 (fun r h L => r = some (.int (((31 : Int32) * K) + hashW 3 g)) ∧ Fr n0 L ∧ h = h0) :=
  con_of (plainFor_of_name pn_2) (fun p_ e_ s_ m_ b_ meth_ c_ T_ X_ hx hZ hby hml hown hnm hret hlk e0 => Go.cast (ef_rm6_3 m_ a) (w6_3 a c K g X_ hx hZ hw hby hml hown hnm hret hlk e0 Z0 (Fr.nil n0) F_keyGroups_a F_shares_a V_c hn))
theorem pd_4 : parseMethodDescriptor "(II)I" = some ⟨[.int, .int], some .int⟩ := by decide +kernel
theorem pd_5 : parseMethodDescriptor "(I[D)V" = some ⟨[.int, (.array .double)], none⟩ := by decide +kernel
theorem pd_6 : parseMethodDescriptor "()I" = some ⟨[], some .int⟩ := by decide +kernel
set_option maxRecDepth 65536 in
set_option maxHeartbeats 40000000 in
theorem w0 {p : Program} {l : Launch} {e : Env} {s : State} {m : MethodId} {args : Array Value} {below : List Frame} {meth : Method} {c_ : Code} {T0 : State} {locs : List Loc} {Z : State} {a0 : Array Value} {h0 : Heap} {n0 : Nat} (p0 p1 p2 p3 p4 : Int32)
    (X0 : Stand p l e room_1 s m args below meth c_ T0 locs 0 0) (hx : p.tables.exec = Jvm.exec) (hZ : Z.Warmed39 s.vm) (hw : ∀ d ∈ tables_1, d.before a0 Z = true) (hby : c_.code = code) (hml : c_.maxLocals = maxLocals) (hown : s.vm.findClass "tidewatch/decision/KeyGroupCeilingHashCodePinLaw" = some m.cls) (hnm : meth.name = "law") (hret : meth.sig.returnType = ret) (hlk : meth.locks = false) (e0 : T0.heap = h0) (Z0 : n0 ≤ h0.size) (N0 : Fr n0 locs)  :
    Go p e below s room_1.cells room_1.slots (fun r h L => r = some (.int 1) ∧ Fr n0 L) T0 (mkF m 0 #[.val (.int p0), .val (.int p1), .val (.int p2), .val (.int p3), .val (.int p4), .unset, .unset, .unset, .unset, .unset, .unset, .unset, .unset, .unset, .unset, .unset] []) := by
  have hret : meth.sig.returnType = some .boolean := hret
  show Go _ _ _ _ _ _ _ T0 (mkF m 0 #[.val (.int p0), .val (.int p1), .val (.int p2), .val (.int p3), .val (.int p4), .unset, .unset, .unset, .unset, .unset, .unset, .unset, .unset, .unset, .unset, .unset] [])
  refine Go.step (fun _ k => XS.iconst X0.here hx rfl (hb hby at_0) k) ?_
  show Go _ _ _ _ _ _ _ T0 (mkF m 1 #[.val (.int p0), .val (.int p1), .val (.int p2), .val (.int p3), .val (.int p4), .unset, .unset, .unset, .unset, .unset, .unset, .unset, .unset, .unset, .unset, .unset] [(.int (1 : Int32))])
  refine Go.step (fun _ k => XS.iloadN X0.here hx rfl (hb hby at_1) rfl k) ?_
  show Go _ _ _ _ _ _ _ T0 (mkF m 2 #[.val (.int p0), .val (.int p1), .val (.int p2), .val (.int p3), .val (.int p4), .unset, .unset, .unset, .unset, .unset, .unset, .unset, .unset, .unset, .unset, .unset] [(.int p1), (.int (1 : Int32))])
  refine Go.step (X0.ldcInt hx hown (mvT hZ (hw _ (List.mem_of_getElem? (i := 0) rfl))) (g := (mkF m 2 #[.val (.int p0), .val (.int p1), .val (.int p2), .val (.int p3), .val (.int p4), .unset, .unset, .unset, .unset, .unset, .unset, .unset, .unset, .unset, .unset, .unset] [(.int p1), (.int (1 : Int32))])) rfl (hb hby at_2)) ?_
  show Go _ _ _ _ _ _ _ T0 (mkF m 4 #[.val (.int p0), .val (.int p1), .val (.int p2), .val (.int p3), .val (.int p4), .unset, .unset, .unset, .unset, .unset, .unset, .unset, .unset, .unset, .unset, .unset] [(.int (2147483647 : Int32)), (.int p1), (.int (1 : Int32))])
  refine Go.step (fun _ k => XS.iand X0.here hx rfl (hb hby at_4) rfl k) ?_
  show Go _ _ _ _ _ _ _ T0 (mkF m 5 #[.val (.int p0), .val (.int p1), .val (.int p2), .val (.int p3), .val (.int p4), .unset, .unset, .unset, .unset, .unset, .unset, .unset, .unset, .unset, .unset, .unset] [(.int (p1 &&& (2147483647 : Int32))), (.int (1 : Int32))])
  refine Go.step (fun _ k => XS.iconst X0.here hx rfl (hb hby at_5) k) ?_
  show Go _ _ _ _ _ _ _ T0 (mkF m 6 #[.val (.int p0), .val (.int p1), .val (.int p2), .val (.int p3), .val (.int p4), .unset, .unset, .unset, .unset, .unset, .unset, .unset, .unset, .unset, .unset, .unset] [(.int (3 : Int32)), (.int (p1 &&& (2147483647 : Int32))), (.int (1 : Int32))])
  refine Go.step (fun _ k => iremM X0 hx rfl (hb hby at_6) rfl (by decide) k) ?_
  show Go _ _ _ _ _ _ _ T0 (mkF m 7 #[.val (.int p0), .val (.int p1), .val (.int p2), .val (.int p3), .val (.int p4), .unset, .unset, .unset, .unset, .unset, .unset, .unset, .unset, .unset, .unset, .unset] [(.int ((p1 &&& (2147483647 : Int32)) % (3 : Int32))), (.int (1 : Int32))])
  refine Go.step (fun _ k => XS.iadd X0.here hx rfl (hb hby at_7) rfl k) ?_
  show Go _ _ _ _ _ _ _ T0 (mkF m 8 #[.val (.int p0), .val (.int p1), .val (.int p2), .val (.int p3), .val (.int p4), .unset, .unset, .unset, .unset, .unset, .unset, .unset, .unset, .unset, .unset, .unset] [(.int ((1 : Int32) + ((p1 &&& (2147483647 : Int32)) % (3 : Int32))))])
  refine Go.step (fun _ k => XS.istore X0.here hx rfl (hb hby at_8) rfl (l' := #[.val (.int p0), .val (.int p1), .val (.int p2), .val (.int p3), .val (.int p4), .val (.int ((1 : Int32) + ((p1 &&& (2147483647 : Int32)) % (3 : Int32)))), .unset, .unset, .unset, .unset, .unset, .unset, .unset, .unset, .unset, .unset]) rfl k) ?_
  show Go _ _ _ _ _ _ _ T0 (mkF m 10 #[.val (.int p0), .val (.int p1), .val (.int p2), .val (.int p3), .val (.int p4), .val (.int ((1 : Int32) + ((p1 &&& (2147483647 : Int32)) % (3 : Int32)))), .unset, .unset, .unset, .unset, .unset, .unset, .unset, .unset, .unset, .unset] [])
  have hpp := own_pp p1
  obtain ⟨pp, h_pp⟩ : ∃ z, z = ((1 : Int32) + ((p1 &&& (2147483647 : Int32)) % (3 : Int32))) := ⟨_, rfl⟩
  rw [← h_pp]
  rw [← h_pp] at hpp
  rcases hpp with rfl | rfl | rfl
  · show Go _ _ _ _ _ _ _ T0 (mkF m 10 #[.val (.int p0), .val (.int p1), .val (.int p2), .val (.int p3), .val (.int p4), .val (.int (1 : Int32)), .unset, .unset, .unset, .unset, .unset, .unset, .unset, .unset, .unset, .unset] [])
    refine Go.step (fun _ k => XS.iload X0.here hx rfl (hb hby at_10) rfl k) ?_
    show Go _ _ _ _ _ _ _ T0 (mkF m 12 #[.val (.int p0), .val (.int p1), .val (.int p2), .val (.int p3), .val (.int p4), .val (.int (1 : Int32)), .unset, .unset, .unset, .unset, .unset, .unset, .unset, .unset, .unset, .unset] [(.int (1 : Int32))])
    refine Go.step (fun _ k => XS.iloadN X0.here hx rfl (hb hby at_12) rfl k) ?_
    show Go _ _ _ _ _ _ _ T0 (mkF m 13 #[.val (.int p0), .val (.int p1), .val (.int p2), .val (.int p3), .val (.int p4), .val (.int (1 : Int32)), .unset, .unset, .unset, .unset, .unset, .unset, .unset, .unset, .unset, .unset] [(.int p0), (.int (1 : Int32))])
    refine Go.callS X0 hx hZ (by rw [hml]; rfl) (y := (⟨"java/lang/Math", "max", "(II)I"⟩ : MethodName)) (argsL := [(.int (1 : Int32)), (.int p0)]) (rest := []) hown (hw _ (List.mem_of_getElem? (i := 1) rfl)) (hw _ (List.mem_of_getElem? (i := 2) rfl)) (hw _ (List.mem_of_getElem? (i := 3) rfl)) (hw _ (List.mem_of_getElem? (i := 4) rfl)) (by decide) (rm1 l Z a0 hw (1 : Int32) p0 h0 n0 Z0) e0 (hb hby at_13) (lenOf pd_4 rfl) rfl rfl (W := 0) (Nat.le_of_eq rfl) (by decide) (by decide) (by decide) (by decide) ?_
    intro v1 T1 L1 X1 Q1
    obtain ⟨rfl, N1q, hh1⟩ := Q1
    have N1 := Fr.app N0 N1q
    show Go _ _ _ _ _ _ _ T1 (mkF m 16 #[.val (.int p0), .val (.int p1), .val (.int p2), .val (.int p3), .val (.int p4), .val (.int (1 : Int32)), .unset, .unset, .unset, .unset, .unset, .unset, .unset, .unset, .unset, .unset] [(.int (imaxW (1 : Int32) p0))])
    refine Go.step (fun _ k => XS.istore X1.here hx rfl (hb hby at_16) rfl (l' := #[.val (.int p0), .val (.int p1), .val (.int p2), .val (.int p3), .val (.int p4), .val (.int (1 : Int32)), .val (.int (imaxW (1 : Int32) p0)), .unset, .unset, .unset, .unset, .unset, .unset, .unset, .unset, .unset]) rfl k) ?_
    obtain ⟨K, h_K⟩ : ∃ z, z = (imaxW (1 : Int32) p0) := ⟨_, rfl⟩
    rw [← h_K]
    have hK := own_kk h_K
    show Go _ _ _ _ _ _ _ T1 (mkF m 18 #[.val (.int p0), .val (.int p1), .val (.int p2), .val (.int p3), .val (.int p4), .val (.int (1 : Int32)), .val (.int K), .unset, .unset, .unset, .unset, .unset, .unset, .unset, .unset, .unset] [])
    refine Go.step (fun _ k => XS.bipush X1.here hx rfl (hb hby at_18) k) ?_
    show Go _ _ _ _ _ _ _ T1 (mkF m 20 #[.val (.int p0), .val (.int p1), .val (.int p2), .val (.int p3), .val (.int p4), .val (.int (1 : Int32)), .val (.int K), .unset, .unset, .unset, .unset, .unset, .unset, .unset, .unset, .unset] [(.int (8 : Int32))])
    obtain ⟨T2, h2, k2, X2, e2, E2, A2, B2, st2⟩ := newPE X1 hx hZ (hw _ (List.mem_of_getElem? (i := 5) rfl)) hh1 (g := (mkF m 20 #[.val (.int p0), .val (.int p1), .val (.int p2), .val (.int p3), .val (.int p4), .val (.int (1 : Int32)), .val (.int K), .unset, .unset, .unset, .unset, .unset, .unset, .unset, .unset, .unset] [(.int (8 : Int32))])) rfl (hb hby at_20) rfl (by decide) (cap := 8) (by decide) (by decide) (by decide) (by decide) (ad := "[D") (by decide)
    obtain ⟨b2, g2⟩ : ∃ z, z = h0.size := ⟨_, rfl⟩
    rw [← g2] at A2 B2 st2
    refine Go.step st2 ?_
    have K2 : Keep h0 h2 [] := (Keep.refl h0 []).ext E2
    have sz_b2 : h0.size ≤ b2 := Nat.le_trans ((Keep.refl h0 []) : Keep h0 h0 []).1 (Nat.le_of_eq g2.symm)
    have ge_b2 : n0 ≤ b2 := Nat.le_trans Z0 sz_b2
    have V_b2 : Dv Z h2 b2 (8 : Int32) (fun _ => (0 : UInt64)) := Fv.new A2 (by decide)
    have E_b2 := B2
    show Go _ _ _ _ _ _ _ T2 (mkF m 22 #[.val (.int p0), .val (.int p1), .val (.int p2), .val (.int p3), .val (.int p4), .val (.int (1 : Int32)), .val (.int K), .unset, .unset, .unset, .unset, .unset, .unset, .unset, .unset, .unset] [(.ref b2)])
    refine Go.step (fun _ k => XS.dup X2.here hx rfl (hb hby at_22) rfl rfl k) ?_
    show Go _ _ _ _ _ _ _ T2 (mkF m 23 #[.val (.int p0), .val (.int p1), .val (.int p2), .val (.int p3), .val (.int p4), .val (.int (1 : Int32)), .val (.int K), .unset, .unset, .unset, .unset, .unset, .unset, .unset, .unset, .unset] [(.ref b2), (.ref b2)])
    refine Go.step (fun _ k => XS.iconst X2.here hx rfl (hb hby at_23) k) ?_
    show Go _ _ _ _ _ _ _ T2 (mkF m 24 #[.val (.int p0), .val (.int p1), .val (.int p2), .val (.int p3), .val (.int p4), .val (.int (1 : Int32)), .val (.int K), .unset, .unset, .unset, .unset, .unset, .unset, .unset, .unset, .unset] [(.int (0 : Int32)), (.ref b2), (.ref b2)])
    refine Go.step (fun _ k => XS.dconst0 X2.here hx rfl (hb hby at_24) rfl k) ?_
    show Go _ _ _ _ _ _ _ T2 (mkF m 25 #[.val (.int p0), .val (.int p1), .val (.int p2), .val (.int p3), .val (.int p4), .val (.int (1 : Int32)), .val (.int K), .unset, .unset, .unset, .unset, .unset, .unset, .unset, .unset, .unset] [(.double (0 : UInt64)), (.int (0 : Int32)), (.ref b2), (.ref b2)])
    refine Go.dastore X2 hx hZ e2 V_b2 (j := (0 : Int32)) (x := (0 : UInt64)) (by decide) (hb hby at_25) ?_
    intro T3 h3 X3 e3 W3 Vn3
    have V_b2_3 : Dv Z h3 b2 (8 : Int32) (updN (fun _ => (0 : UInt64)) 0 (0 : UInt64)) := Vn3
    have N3 := Fr.snoc X3 N1 ge_b2
    have E_b2_3 := E_b2.wr W3
    have K3 : Keep h0 h3 [] := K2.wr W3 (Or.inr sz_b2)
    show Go _ _ _ _ _ _ _ T3 (mkF m 26 #[.val (.int p0), .val (.int p1), .val (.int p2), .val (.int p3), .val (.int p4), .val (.int (1 : Int32)), .val (.int K), .unset, .unset, .unset, .unset, .unset, .unset, .unset, .unset, .unset] [(.ref b2)])
    refine Go.step (fun _ k => XS.dup X3.here hx rfl (hb hby at_26) rfl rfl k) ?_
    show Go _ _ _ _ _ _ _ T3 (mkF m 27 #[.val (.int p0), .val (.int p1), .val (.int p2), .val (.int p3), .val (.int p4), .val (.int (1 : Int32)), .val (.int K), .unset, .unset, .unset, .unset, .unset, .unset, .unset, .unset, .unset] [(.ref b2), (.ref b2)])
    refine Go.step (fun _ k => XS.iconst X3.here hx rfl (hb hby at_27) k) ?_
    show Go _ _ _ _ _ _ _ T3 (mkF m 28 #[.val (.int p0), .val (.int p1), .val (.int p2), .val (.int p3), .val (.int p4), .val (.int (1 : Int32)), .val (.int K), .unset, .unset, .unset, .unset, .unset, .unset, .unset, .unset, .unset] [(.int (1 : Int32)), (.ref b2), (.ref b2)])
    refine Go.step (X3.ldc2DoubleC hx hown (mvT hZ (hw _ (List.mem_of_getElem? (i := 6) rfl))) (g := (mkF m 28 #[.val (.int p0), .val (.int p1), .val (.int p2), .val (.int p3), .val (.int p4), .val (.int (1 : Int32)), .val (.int K), .unset, .unset, .unset, .unset, .unset, .unset, .unset, .unset, .unset] [(.int (1 : Int32)), (.ref b2), (.ref b2)])) rfl (hb hby at_28)) ?_
    show Go _ _ _ _ _ _ _ T3 (mkF m 31 #[.val (.int p0), .val (.int p1), .val (.int p2), .val (.int p3), .val (.int p4), .val (.int (1 : Int32)), .val (.int K), .unset, .unset, .unset, .unset, .unset, .unset, .unset, .unset, .unset] [(.double (9223372036854775808 : UInt64)), (.int (1 : Int32)), (.ref b2), (.ref b2)])
    refine Go.dastore X3 hx hZ e3 V_b2_3 (j := (1 : Int32)) (x := (9223372036854775808 : UInt64)) (by decide) (hb hby at_31) ?_
    intro T4 h4 X4 e4 W4 Vn4
    have V_b2_4 : Dv Z h4 b2 (8 : Int32) (updN (updN (fun _ => (0 : UInt64)) 0 (0 : UInt64)) 1 (9223372036854775808 : UInt64)) := Vn4
    have N4 := Fr.snoc X4 N3 ge_b2
    have E_b2_4 := E_b2_3.wr W4
    have K4 : Keep h0 h4 [] := K3.wr W4 (Or.inr sz_b2)
    show Go _ _ _ _ _ _ _ T4 (mkF m 32 #[.val (.int p0), .val (.int p1), .val (.int p2), .val (.int p3), .val (.int p4), .val (.int (1 : Int32)), .val (.int K), .unset, .unset, .unset, .unset, .unset, .unset, .unset, .unset, .unset] [(.ref b2)])
    refine Go.step (fun _ k => XS.dup X4.here hx rfl (hb hby at_32) rfl rfl k) ?_
    show Go _ _ _ _ _ _ _ T4 (mkF m 33 #[.val (.int p0), .val (.int p1), .val (.int p2), .val (.int p3), .val (.int p4), .val (.int (1 : Int32)), .val (.int K), .unset, .unset, .unset, .unset, .unset, .unset, .unset, .unset, .unset] [(.ref b2), (.ref b2)])
    refine Go.step (fun _ k => XS.iconst X4.here hx rfl (hb hby at_33) k) ?_
    show Go _ _ _ _ _ _ _ T4 (mkF m 34 #[.val (.int p0), .val (.int p1), .val (.int p2), .val (.int p3), .val (.int p4), .val (.int (1 : Int32)), .val (.int K), .unset, .unset, .unset, .unset, .unset, .unset, .unset, .unset, .unset] [(.int (2 : Int32)), (.ref b2), (.ref b2)])
    refine Go.step (X4.ldc2DoubleC hx hown (mvT hZ (hw _ (List.mem_of_getElem? (i := 7) rfl))) (g := (mkF m 34 #[.val (.int p0), .val (.int p1), .val (.int p2), .val (.int p3), .val (.int p4), .val (.int (1 : Int32)), .val (.int K), .unset, .unset, .unset, .unset, .unset, .unset, .unset, .unset, .unset] [(.int (2 : Int32)), (.ref b2), (.ref b2)])) rfl (hb hby at_34)) ?_
    show Go _ _ _ _ _ _ _ T4 (mkF m 37 #[.val (.int p0), .val (.int p1), .val (.int p2), .val (.int p3), .val (.int p4), .val (.int (1 : Int32)), .val (.int K), .unset, .unset, .unset, .unset, .unset, .unset, .unset, .unset, .unset] [(.double (4602678819172646912 : UInt64)), (.int (2 : Int32)), (.ref b2), (.ref b2)])
    refine Go.dastore X4 hx hZ e4 V_b2_4 (j := (2 : Int32)) (x := (4602678819172646912 : UInt64)) (by decide) (hb hby at_37) ?_
    intro T5 h5 X5 e5 W5 Vn5
    have V_b2_5 : Dv Z h5 b2 (8 : Int32) (updN (updN (updN (fun _ => (0 : UInt64)) 0 (0 : UInt64)) 1 (9223372036854775808 : UInt64)) 2 (4602678819172646912 : UInt64)) := Vn5
    have N5 := Fr.snoc X5 N4 ge_b2
    have E_b2_5 := E_b2_4.wr W5
    have K5 : Keep h0 h5 [] := K4.wr W5 (Or.inr sz_b2)
    show Go _ _ _ _ _ _ _ T5 (mkF m 38 #[.val (.int p0), .val (.int p1), .val (.int p2), .val (.int p3), .val (.int p4), .val (.int (1 : Int32)), .val (.int K), .unset, .unset, .unset, .unset, .unset, .unset, .unset, .unset, .unset] [(.ref b2)])
    refine Go.step (fun _ k => XS.dup X5.here hx rfl (hb hby at_38) rfl rfl k) ?_
    show Go _ _ _ _ _ _ _ T5 (mkF m 39 #[.val (.int p0), .val (.int p1), .val (.int p2), .val (.int p3), .val (.int p4), .val (.int (1 : Int32)), .val (.int K), .unset, .unset, .unset, .unset, .unset, .unset, .unset, .unset, .unset] [(.ref b2), (.ref b2)])
    refine Go.step (fun _ k => XS.iconst X5.here hx rfl (hb hby at_39) k) ?_
    show Go _ _ _ _ _ _ _ T5 (mkF m 40 #[.val (.int p0), .val (.int p1), .val (.int p2), .val (.int p3), .val (.int p4), .val (.int (1 : Int32)), .val (.int K), .unset, .unset, .unset, .unset, .unset, .unset, .unset, .unset, .unset] [(.int (3 : Int32)), (.ref b2), (.ref b2)])
    refine Go.step (fun _ k => XS.dconst1 X5.here hx rfl (hb hby at_40) rfl k) ?_
    show Go _ _ _ _ _ _ _ T5 (mkF m 41 #[.val (.int p0), .val (.int p1), .val (.int p2), .val (.int p3), .val (.int p4), .val (.int (1 : Int32)), .val (.int K), .unset, .unset, .unset, .unset, .unset, .unset, .unset, .unset, .unset] [(.double (4607182418800017408 : UInt64)), (.int (3 : Int32)), (.ref b2), (.ref b2)])
    refine Go.dastore X5 hx hZ e5 V_b2_5 (j := (3 : Int32)) (x := (4607182418800017408 : UInt64)) (by decide) (hb hby at_41) ?_
    intro T6 h6 X6 e6 W6 Vn6
    have V_b2_6 : Dv Z h6 b2 (8 : Int32) (updN (updN (updN (updN (fun _ => (0 : UInt64)) 0 (0 : UInt64)) 1 (9223372036854775808 : UInt64)) 2 (4602678819172646912 : UInt64)) 3 (4607182418800017408 : UInt64)) := Vn6
    have N6 := Fr.snoc X6 N5 ge_b2
    have E_b2_6 := E_b2_5.wr W6
    have K6 : Keep h0 h6 [] := K5.wr W6 (Or.inr sz_b2)
    show Go _ _ _ _ _ _ _ T6 (mkF m 42 #[.val (.int p0), .val (.int p1), .val (.int p2), .val (.int p3), .val (.int p4), .val (.int (1 : Int32)), .val (.int K), .unset, .unset, .unset, .unset, .unset, .unset, .unset, .unset, .unset] [(.ref b2)])
    refine Go.step (fun _ k => XS.dup X6.here hx rfl (hb hby at_42) rfl rfl k) ?_
    show Go _ _ _ _ _ _ _ T6 (mkF m 43 #[.val (.int p0), .val (.int p1), .val (.int p2), .val (.int p3), .val (.int p4), .val (.int (1 : Int32)), .val (.int K), .unset, .unset, .unset, .unset, .unset, .unset, .unset, .unset, .unset] [(.ref b2), (.ref b2)])
    refine Go.step (fun _ k => XS.iconst X6.here hx rfl (hb hby at_43) k) ?_
    show Go _ _ _ _ _ _ _ T6 (mkF m 44 #[.val (.int p0), .val (.int p1), .val (.int p2), .val (.int p3), .val (.int p4), .val (.int (1 : Int32)), .val (.int K), .unset, .unset, .unset, .unset, .unset, .unset, .unset, .unset, .unset] [(.int (4 : Int32)), (.ref b2), (.ref b2)])
    refine Go.step (X6.ldc2DoubleC hx hown (mvT hZ (hw _ (List.mem_of_getElem? (i := 8) rfl))) (g := (mkF m 44 #[.val (.int p0), .val (.int p1), .val (.int p2), .val (.int p3), .val (.int p4), .val (.int (1 : Int32)), .val (.int K), .unset, .unset, .unset, .unset, .unset, .unset, .unset, .unset, .unset] [(.int (4 : Int32)), (.ref b2), (.ref b2)])) rfl (hb hby at_44)) ?_
    show Go _ _ _ _ _ _ _ T6 (mkF m 47 #[.val (.int p0), .val (.int p1), .val (.int p2), .val (.int p3), .val (.int p4), .val (.int (1 : Int32)), .val (.int K), .unset, .unset, .unset, .unset, .unset, .unset, .unset, .unset, .unset] [(.double (4609434218613702656 : UInt64)), (.int (4 : Int32)), (.ref b2), (.ref b2)])
    refine Go.dastore X6 hx hZ e6 V_b2_6 (j := (4 : Int32)) (x := (4609434218613702656 : UInt64)) (by decide) (hb hby at_47) ?_
    intro T7 h7 X7 e7 W7 Vn7
    have V_b2_7 : Dv Z h7 b2 (8 : Int32) (updN (updN (updN (updN (updN (fun _ => (0 : UInt64)) 0 (0 : UInt64)) 1 (9223372036854775808 : UInt64)) 2 (4602678819172646912 : UInt64)) 3 (4607182418800017408 : UInt64)) 4 (4609434218613702656 : UInt64)) := Vn7
    have N7 := Fr.snoc X7 N6 ge_b2
    have E_b2_7 := E_b2_6.wr W7
    have K7 : Keep h0 h7 [] := K6.wr W7 (Or.inr sz_b2)
    show Go _ _ _ _ _ _ _ T7 (mkF m 48 #[.val (.int p0), .val (.int p1), .val (.int p2), .val (.int p3), .val (.int p4), .val (.int (1 : Int32)), .val (.int K), .unset, .unset, .unset, .unset, .unset, .unset, .unset, .unset, .unset] [(.ref b2)])
    refine Go.step (fun _ k => XS.dup X7.here hx rfl (hb hby at_48) rfl rfl k) ?_
    show Go _ _ _ _ _ _ _ T7 (mkF m 49 #[.val (.int p0), .val (.int p1), .val (.int p2), .val (.int p3), .val (.int p4), .val (.int (1 : Int32)), .val (.int K), .unset, .unset, .unset, .unset, .unset, .unset, .unset, .unset, .unset] [(.ref b2), (.ref b2)])
    refine Go.step (fun _ k => XS.iconst X7.here hx rfl (hb hby at_49) k) ?_
    show Go _ _ _ _ _ _ _ T7 (mkF m 50 #[.val (.int p0), .val (.int p1), .val (.int p2), .val (.int p3), .val (.int p4), .val (.int (1 : Int32)), .val (.int K), .unset, .unset, .unset, .unset, .unset, .unset, .unset, .unset, .unset] [(.int (5 : Int32)), (.ref b2), (.ref b2)])
    refine Go.step (X7.ldc2DoubleC hx hown (mvT hZ (hw _ (List.mem_of_getElem? (i := 9) rfl))) (g := (mkF m 50 #[.val (.int p0), .val (.int p1), .val (.int p2), .val (.int p3), .val (.int p4), .val (.int (1 : Int32)), .val (.int K), .unset, .unset, .unset, .unset, .unset, .unset, .unset, .unset, .unset] [(.int (5 : Int32)), (.ref b2), (.ref b2)])) rfl (hb hby at_50)) ?_
    show Go _ _ _ _ _ _ _ T7 (mkF m 53 #[.val (.int p0), .val (.int p1), .val (.int p2), .val (.int p3), .val (.int p4), .val (.int (1 : Int32)), .val (.int K), .unset, .unset, .unset, .unset, .unset, .unset, .unset, .unset, .unset] [(.double (4611686018427387904 : UInt64)), (.int (5 : Int32)), (.ref b2), (.ref b2)])
    refine Go.dastore X7 hx hZ e7 V_b2_7 (j := (5 : Int32)) (x := (4611686018427387904 : UInt64)) (by decide) (hb hby at_53) ?_
    intro T8 h8 X8 e8 W8 Vn8
    have V_b2_8 : Dv Z h8 b2 (8 : Int32) (updN (updN (updN (updN (updN (updN (fun _ => (0 : UInt64)) 0 (0 : UInt64)) 1 (9223372036854775808 : UInt64)) 2 (4602678819172646912 : UInt64)) 3 (4607182418800017408 : UInt64)) 4 (4609434218613702656 : UInt64)) 5 (4611686018427387904 : UInt64)) := Vn8
    have N8 := Fr.snoc X8 N7 ge_b2
    have E_b2_8 := E_b2_7.wr W8
    have K8 : Keep h0 h8 [] := K7.wr W8 (Or.inr sz_b2)
    show Go _ _ _ _ _ _ _ T8 (mkF m 54 #[.val (.int p0), .val (.int p1), .val (.int p2), .val (.int p3), .val (.int p4), .val (.int (1 : Int32)), .val (.int K), .unset, .unset, .unset, .unset, .unset, .unset, .unset, .unset, .unset] [(.ref b2)])
    refine Go.step (fun _ k => XS.dup X8.here hx rfl (hb hby at_54) rfl rfl k) ?_
    show Go _ _ _ _ _ _ _ T8 (mkF m 55 #[.val (.int p0), .val (.int p1), .val (.int p2), .val (.int p3), .val (.int p4), .val (.int (1 : Int32)), .val (.int K), .unset, .unset, .unset, .unset, .unset, .unset, .unset, .unset, .unset] [(.ref b2), (.ref b2)])
    refine Go.step (fun _ k => XS.bipush X8.here hx rfl (hb hby at_55) k) ?_
    show Go _ _ _ _ _ _ _ T8 (mkF m 57 #[.val (.int p0), .val (.int p1), .val (.int p2), .val (.int p3), .val (.int p4), .val (.int (1 : Int32)), .val (.int K), .unset, .unset, .unset, .unset, .unset, .unset, .unset, .unset, .unset] [(.int (6 : Int32)), (.ref b2), (.ref b2)])
    refine Go.step (X8.ldc2DoubleC hx hown (mvT hZ (hw _ (List.mem_of_getElem? (i := 10) rfl))) (g := (mkF m 57 #[.val (.int p0), .val (.int p1), .val (.int p2), .val (.int p3), .val (.int p4), .val (.int (1 : Int32)), .val (.int K), .unset, .unset, .unset, .unset, .unset, .unset, .unset, .unset, .unset] [(.int (6 : Int32)), (.ref b2), (.ref b2)])) rfl (hb hby at_57)) ?_
    show Go _ _ _ _ _ _ _ T8 (mkF m 60 #[.val (.int p0), .val (.int p1), .val (.int p2), .val (.int p3), .val (.int p4), .val (.int (1 : Int32)), .val (.int K), .unset, .unset, .unset, .unset, .unset, .unset, .unset, .unset, .unset] [(.double (4613937818241073152 : UInt64)), (.int (6 : Int32)), (.ref b2), (.ref b2)])
    refine Go.dastore X8 hx hZ e8 V_b2_8 (j := (6 : Int32)) (x := (4613937818241073152 : UInt64)) (by decide) (hb hby at_60) ?_
    intro T9 h9 X9 e9 W9 Vn9
    have V_b2_9 : Dv Z h9 b2 (8 : Int32) (updN (updN (updN (updN (updN (updN (updN (fun _ => (0 : UInt64)) 0 (0 : UInt64)) 1 (9223372036854775808 : UInt64)) 2 (4602678819172646912 : UInt64)) 3 (4607182418800017408 : UInt64)) 4 (4609434218613702656 : UInt64)) 5 (4611686018427387904 : UInt64)) 6 (4613937818241073152 : UInt64)) := Vn9
    have N9 := Fr.snoc X9 N8 ge_b2
    have E_b2_9 := E_b2_8.wr W9
    have K9 : Keep h0 h9 [] := K8.wr W9 (Or.inr sz_b2)
    show Go _ _ _ _ _ _ _ T9 (mkF m 61 #[.val (.int p0), .val (.int p1), .val (.int p2), .val (.int p3), .val (.int p4), .val (.int (1 : Int32)), .val (.int K), .unset, .unset, .unset, .unset, .unset, .unset, .unset, .unset, .unset] [(.ref b2)])
    refine Go.step (fun _ k => XS.dup X9.here hx rfl (hb hby at_61) rfl rfl k) ?_
    show Go _ _ _ _ _ _ _ T9 (mkF m 62 #[.val (.int p0), .val (.int p1), .val (.int p2), .val (.int p3), .val (.int p4), .val (.int (1 : Int32)), .val (.int K), .unset, .unset, .unset, .unset, .unset, .unset, .unset, .unset, .unset] [(.ref b2), (.ref b2)])
    refine Go.step (fun _ k => XS.bipush X9.here hx rfl (hb hby at_62) k) ?_
    show Go _ _ _ _ _ _ _ T9 (mkF m 64 #[.val (.int p0), .val (.int p1), .val (.int p2), .val (.int p3), .val (.int p4), .val (.int (1 : Int32)), .val (.int K), .unset, .unset, .unset, .unset, .unset, .unset, .unset, .unset, .unset] [(.int (7 : Int32)), (.ref b2), (.ref b2)])
    refine Go.step (X9.ldc2DoubleC hx hown (mvT hZ (hw _ (List.mem_of_getElem? (i := 11) rfl))) (g := (mkF m 64 #[.val (.int p0), .val (.int p1), .val (.int p2), .val (.int p3), .val (.int p4), .val (.int (1 : Int32)), .val (.int K), .unset, .unset, .unset, .unset, .unset, .unset, .unset, .unset, .unset] [(.int (7 : Int32)), (.ref b2), (.ref b2)])) rfl (hb hby at_64)) ?_
    show Go _ _ _ _ _ _ _ T9 (mkF m 67 #[.val (.int p0), .val (.int p1), .val (.int p2), .val (.int p3), .val (.int p4), .val (.int (1 : Int32)), .val (.int K), .unset, .unset, .unset, .unset, .unset, .unset, .unset, .unset, .unset] [(.double (4591870180066957722 : UInt64)), (.int (7 : Int32)), (.ref b2), (.ref b2)])
    refine Go.dastore X9 hx hZ e9 V_b2_9 (j := (7 : Int32)) (x := (4591870180066957722 : UInt64)) (by decide) (hb hby at_67) ?_
    intro T10 h10 X10 e10 W10 Vn10
    have V_b2_10 : Dv Z h10 b2 (8 : Int32) (updN (updN (updN (updN (updN (updN (updN (updN (fun _ => (0 : UInt64)) 0 (0 : UInt64)) 1 (9223372036854775808 : UInt64)) 2 (4602678819172646912 : UInt64)) 3 (4607182418800017408 : UInt64)) 4 (4609434218613702656 : UInt64)) 5 (4611686018427387904 : UInt64)) 6 (4613937818241073152 : UInt64)) 7 (4591870180066957722 : UInt64)) := Vn10
    have N10 := Fr.snoc X10 N9 ge_b2
    have E_b2_10 := E_b2_9.wr W10
    have K10 : Keep h0 h10 [] := K9.wr W10 (Or.inr sz_b2)
    show Go _ _ _ _ _ _ _ T10 (mkF m 68 #[.val (.int p0), .val (.int p1), .val (.int p2), .val (.int p3), .val (.int p4), .val (.int (1 : Int32)), .val (.int K), .unset, .unset, .unset, .unset, .unset, .unset, .unset, .unset, .unset] [(.ref b2)])
    refine Go.step (fun _ k => XS.astore X10.here hx rfl (hb hby at_68) rfl rfl (l' := #[.val (.int p0), .val (.int p1), .val (.int p2), .val (.int p3), .val (.int p4), .val (.int (1 : Int32)), .val (.int K), .val (.ref b2), .unset, .unset, .unset, .unset, .unset, .unset, .unset, .unset]) rfl k) ?_
    show Go _ _ _ _ _ _ _ T10 (mkF m 70 #[.val (.int p0), .val (.int p1), .val (.int p2), .val (.int p3), .val (.int p4), .val (.int (1 : Int32)), .val (.int K), .val (.ref b2), .unset, .unset, .unset, .unset, .unset, .unset, .unset, .unset] [])
    refine Go.step (fun _ k => XS.bipush X10.here hx rfl (hb hby at_70) k) ?_
    show Go _ _ _ _ _ _ _ T10 (mkF m 72 #[.val (.int p0), .val (.int p1), .val (.int p2), .val (.int p3), .val (.int p4), .val (.int (1 : Int32)), .val (.int K), .val (.ref b2), .unset, .unset, .unset, .unset, .unset, .unset, .unset, .unset] [(.int (8 : Int32))])
    obtain ⟨T11, h11, k11, X11, e11, E11, A11, B11, st11⟩ := newPE X10 hx hZ (hw _ (List.mem_of_getElem? (i := 12) rfl)) e10 (g := (mkF m 72 #[.val (.int p0), .val (.int p1), .val (.int p2), .val (.int p3), .val (.int p4), .val (.int (1 : Int32)), .val (.int K), .val (.ref b2), .unset, .unset, .unset, .unset, .unset, .unset, .unset, .unset] [(.int (8 : Int32))])) rfl (hb hby at_72) rfl (by decide) (cap := 8) (by decide) (by decide) (by decide) (by decide) (ad := "[I") (by decide)
    obtain ⟨b11, g11⟩ : ∃ z, z = h10.size := ⟨_, rfl⟩
    rw [← g11] at A11 B11 st11
    refine Go.step st11 ?_
    have K11 : Keep h0 h11 [] := K10.ext E11
    have sz_b11 : h0.size ≤ b11 := Nat.le_trans (K10 : Keep h0 h10 []).1 (Nat.le_of_eq g11.symm)
    have ge_b11 : n0 ≤ b11 := Nat.le_trans Z0 sz_b11
    have ne_b2_b11 : b2 ≠ b11 := Nat.ne_of_lt (Nat.lt_of_lt_of_le V_b2_10.lt (Nat.le_of_eq g11.symm))
    have V_b2_11 := V_b2_10.ext E11
    have E_b2_11 := E_b2_10.ext E11
    have V_b11 : Iv Z h11 b11 (8 : Int32) (fun _ => (0 : Int32)) := Fv.new A11 (by decide)
    have E_b11 := B11
    show Go _ _ _ _ _ _ _ T11 (mkF m 74 #[.val (.int p0), .val (.int p1), .val (.int p2), .val (.int p3), .val (.int p4), .val (.int (1 : Int32)), .val (.int K), .val (.ref b2), .unset, .unset, .unset, .unset, .unset, .unset, .unset, .unset] [(.ref b11)])
    refine Go.step (fun _ k => XS.dup X11.here hx rfl (hb hby at_74) rfl rfl k) ?_
    show Go _ _ _ _ _ _ _ T11 (mkF m 75 #[.val (.int p0), .val (.int p1), .val (.int p2), .val (.int p3), .val (.int p4), .val (.int (1 : Int32)), .val (.int K), .val (.ref b2), .unset, .unset, .unset, .unset, .unset, .unset, .unset, .unset] [(.ref b11), (.ref b11)])
    refine Go.step (fun _ k => XS.iconst X11.here hx rfl (hb hby at_75) k) ?_
    show Go _ _ _ _ _ _ _ T11 (mkF m 76 #[.val (.int p0), .val (.int p1), .val (.int p2), .val (.int p3), .val (.int p4), .val (.int (1 : Int32)), .val (.int K), .val (.ref b2), .unset, .unset, .unset, .unset, .unset, .unset, .unset, .unset] [(.int (0 : Int32)), (.ref b11), (.ref b11)])
    refine Go.step (fun _ k => XS.iconst X11.here hx rfl (hb hby at_76) k) ?_
    show Go _ _ _ _ _ _ _ T11 (mkF m 77 #[.val (.int p0), .val (.int p1), .val (.int p2), .val (.int p3), .val (.int p4), .val (.int (1 : Int32)), .val (.int K), .val (.ref b2), .unset, .unset, .unset, .unset, .unset, .unset, .unset, .unset] [(.int (0 : Int32)), (.int (0 : Int32)), (.ref b11), (.ref b11)])
    refine Go.iastore X11 hx hZ e11 V_b11 (j := (0 : Int32)) (x := (0 : Int32)) (by decide) (hb hby at_77) ?_
    intro T12 h12 X12 e12 W12 Vn12
    have V_b11_12 : Iv Z h12 b11 (8 : Int32) (updN (fun _ => (0 : Int32)) 0 (0 : Int32)) := Vn12
    have N12 := Fr.snoc X12 N10 ge_b11
    have V_b2_12 := V_b2_11.other W12 ne_b2_b11
    have E_b2_12 := E_b2_11.wr W12
    have E_b11_12 := E_b11.wr W12
    have K12 : Keep h0 h12 [] := K11.wr W12 (Or.inr sz_b11)
    show Go _ _ _ _ _ _ _ T12 (mkF m 78 #[.val (.int p0), .val (.int p1), .val (.int p2), .val (.int p3), .val (.int p4), .val (.int (1 : Int32)), .val (.int K), .val (.ref b2), .unset, .unset, .unset, .unset, .unset, .unset, .unset, .unset] [(.ref b11)])
    refine Go.step (fun _ k => XS.dup X12.here hx rfl (hb hby at_78) rfl rfl k) ?_
    show Go _ _ _ _ _ _ _ T12 (mkF m 79 #[.val (.int p0), .val (.int p1), .val (.int p2), .val (.int p3), .val (.int p4), .val (.int (1 : Int32)), .val (.int K), .val (.ref b2), .unset, .unset, .unset, .unset, .unset, .unset, .unset, .unset] [(.ref b11), (.ref b11)])
    refine Go.step (fun _ k => XS.iconst X12.here hx rfl (hb hby at_79) k) ?_
    show Go _ _ _ _ _ _ _ T12 (mkF m 80 #[.val (.int p0), .val (.int p1), .val (.int p2), .val (.int p3), .val (.int p4), .val (.int (1 : Int32)), .val (.int K), .val (.ref b2), .unset, .unset, .unset, .unset, .unset, .unset, .unset, .unset] [(.int (1 : Int32)), (.ref b11), (.ref b11)])
    refine Go.step (X12.ldcInt hx hown (mvT hZ (hw _ (List.mem_of_getElem? (i := 13) rfl))) (g := (mkF m 80 #[.val (.int p0), .val (.int p1), .val (.int p2), .val (.int p3), .val (.int p4), .val (.int (1 : Int32)), .val (.int K), .val (.ref b2), .unset, .unset, .unset, .unset, .unset, .unset, .unset, .unset] [(.int (1 : Int32)), (.ref b11), (.ref b11)])) rfl (hb hby at_80)) ?_
    show Go _ _ _ _ _ _ _ T12 (mkF m 82 #[.val (.int p0), .val (.int p1), .val (.int p2), .val (.int p3), .val (.int p4), .val (.int (1 : Int32)), .val (.int K), .val (.ref b2), .unset, .unset, .unset, .unset, .unset, .unset, .unset, .unset] [(.int (-2147483648 : Int32)), (.int (1 : Int32)), (.ref b11), (.ref b11)])
    refine Go.iastore X12 hx hZ e12 V_b11_12 (j := (1 : Int32)) (x := (-2147483648 : Int32)) (by decide) (hb hby at_82) ?_
    intro T13 h13 X13 e13 W13 Vn13
    have V_b11_13 : Iv Z h13 b11 (8 : Int32) (updN (updN (fun _ => (0 : Int32)) 0 (0 : Int32)) 1 (-2147483648 : Int32)) := Vn13
    have N13 := Fr.snoc X13 N12 ge_b11
    have V_b2_13 := V_b2_12.other W13 ne_b2_b11
    have E_b2_13 := E_b2_12.wr W13
    have E_b11_13 := E_b11_12.wr W13
    have K13 : Keep h0 h13 [] := K12.wr W13 (Or.inr sz_b11)
    show Go _ _ _ _ _ _ _ T13 (mkF m 83 #[.val (.int p0), .val (.int p1), .val (.int p2), .val (.int p3), .val (.int p4), .val (.int (1 : Int32)), .val (.int K), .val (.ref b2), .unset, .unset, .unset, .unset, .unset, .unset, .unset, .unset] [(.ref b11)])
    refine Go.step (fun _ k => XS.dup X13.here hx rfl (hb hby at_83) rfl rfl k) ?_
    show Go _ _ _ _ _ _ _ T13 (mkF m 84 #[.val (.int p0), .val (.int p1), .val (.int p2), .val (.int p3), .val (.int p4), .val (.int (1 : Int32)), .val (.int K), .val (.ref b2), .unset, .unset, .unset, .unset, .unset, .unset, .unset, .unset] [(.ref b11), (.ref b11)])
    refine Go.step (fun _ k => XS.iconst X13.here hx rfl (hb hby at_84) k) ?_
    show Go _ _ _ _ _ _ _ T13 (mkF m 85 #[.val (.int p0), .val (.int p1), .val (.int p2), .val (.int p3), .val (.int p4), .val (.int (1 : Int32)), .val (.int K), .val (.ref b2), .unset, .unset, .unset, .unset, .unset, .unset, .unset, .unset] [(.int (2 : Int32)), (.ref b11), (.ref b11)])
    refine Go.step (X13.ldcInt hx hown (mvT hZ (hw _ (List.mem_of_getElem? (i := 14) rfl))) (g := (mkF m 85 #[.val (.int p0), .val (.int p1), .val (.int p2), .val (.int p3), .val (.int p4), .val (.int (1 : Int32)), .val (.int K), .val (.ref b2), .unset, .unset, .unset, .unset, .unset, .unset, .unset, .unset] [(.int (2 : Int32)), (.ref b11), (.ref b11)])) rfl (hb hby at_85)) ?_
    show Go _ _ _ _ _ _ _ T13 (mkF m 87 #[.val (.int p0), .val (.int p1), .val (.int p2), .val (.int p3), .val (.int p4), .val (.int (1 : Int32)), .val (.int K), .val (.ref b2), .unset, .unset, .unset, .unset, .unset, .unset, .unset, .unset] [(.int (1071644672 : Int32)), (.int (2 : Int32)), (.ref b11), (.ref b11)])
    refine Go.iastore X13 hx hZ e13 V_b11_13 (j := (2 : Int32)) (x := (1071644672 : Int32)) (by decide) (hb hby at_87) ?_
    intro T14 h14 X14 e14 W14 Vn14
    have V_b11_14 : Iv Z h14 b11 (8 : Int32) (updN (updN (updN (fun _ => (0 : Int32)) 0 (0 : Int32)) 1 (-2147483648 : Int32)) 2 (1071644672 : Int32)) := Vn14
    have N14 := Fr.snoc X14 N13 ge_b11
    have V_b2_14 := V_b2_13.other W14 ne_b2_b11
    have E_b2_14 := E_b2_13.wr W14
    have E_b11_14 := E_b11_13.wr W14
    have K14 : Keep h0 h14 [] := K13.wr W14 (Or.inr sz_b11)
    show Go _ _ _ _ _ _ _ T14 (mkF m 88 #[.val (.int p0), .val (.int p1), .val (.int p2), .val (.int p3), .val (.int p4), .val (.int (1 : Int32)), .val (.int K), .val (.ref b2), .unset, .unset, .unset, .unset, .unset, .unset, .unset, .unset] [(.ref b11)])
    refine Go.step (fun _ k => XS.dup X14.here hx rfl (hb hby at_88) rfl rfl k) ?_
    show Go _ _ _ _ _ _ _ T14 (mkF m 89 #[.val (.int p0), .val (.int p1), .val (.int p2), .val (.int p3), .val (.int p4), .val (.int (1 : Int32)), .val (.int K), .val (.ref b2), .unset, .unset, .unset, .unset, .unset, .unset, .unset, .unset] [(.ref b11), (.ref b11)])
    refine Go.step (fun _ k => XS.iconst X14.here hx rfl (hb hby at_89) k) ?_
    show Go _ _ _ _ _ _ _ T14 (mkF m 90 #[.val (.int p0), .val (.int p1), .val (.int p2), .val (.int p3), .val (.int p4), .val (.int (1 : Int32)), .val (.int K), .val (.ref b2), .unset, .unset, .unset, .unset, .unset, .unset, .unset, .unset] [(.int (3 : Int32)), (.ref b11), (.ref b11)])
    refine Go.step (X14.ldcInt hx hown (mvT hZ (hw _ (List.mem_of_getElem? (i := 15) rfl))) (g := (mkF m 90 #[.val (.int p0), .val (.int p1), .val (.int p2), .val (.int p3), .val (.int p4), .val (.int (1 : Int32)), .val (.int K), .val (.ref b2), .unset, .unset, .unset, .unset, .unset, .unset, .unset, .unset] [(.int (3 : Int32)), (.ref b11), (.ref b11)])) rfl (hb hby at_90)) ?_
    show Go _ _ _ _ _ _ _ T14 (mkF m 92 #[.val (.int p0), .val (.int p1), .val (.int p2), .val (.int p3), .val (.int p4), .val (.int (1 : Int32)), .val (.int K), .val (.ref b2), .unset, .unset, .unset, .unset, .unset, .unset, .unset, .unset] [(.int (1072693248 : Int32)), (.int (3 : Int32)), (.ref b11), (.ref b11)])
    refine Go.iastore X14 hx hZ e14 V_b11_14 (j := (3 : Int32)) (x := (1072693248 : Int32)) (by decide) (hb hby at_92) ?_
    intro T15 h15 X15 e15 W15 Vn15
    have V_b11_15 : Iv Z h15 b11 (8 : Int32) (updN (updN (updN (updN (fun _ => (0 : Int32)) 0 (0 : Int32)) 1 (-2147483648 : Int32)) 2 (1071644672 : Int32)) 3 (1072693248 : Int32)) := Vn15
    have N15 := Fr.snoc X15 N14 ge_b11
    have V_b2_15 := V_b2_14.other W15 ne_b2_b11
    have E_b2_15 := E_b2_14.wr W15
    have E_b11_15 := E_b11_14.wr W15
    have K15 : Keep h0 h15 [] := K14.wr W15 (Or.inr sz_b11)
    show Go _ _ _ _ _ _ _ T15 (mkF m 93 #[.val (.int p0), .val (.int p1), .val (.int p2), .val (.int p3), .val (.int p4), .val (.int (1 : Int32)), .val (.int K), .val (.ref b2), .unset, .unset, .unset, .unset, .unset, .unset, .unset, .unset] [(.ref b11)])
    refine Go.step (fun _ k => XS.dup X15.here hx rfl (hb hby at_93) rfl rfl k) ?_
    show Go _ _ _ _ _ _ _ T15 (mkF m 94 #[.val (.int p0), .val (.int p1), .val (.int p2), .val (.int p3), .val (.int p4), .val (.int (1 : Int32)), .val (.int K), .val (.ref b2), .unset, .unset, .unset, .unset, .unset, .unset, .unset, .unset] [(.ref b11), (.ref b11)])
    refine Go.step (fun _ k => XS.iconst X15.here hx rfl (hb hby at_94) k) ?_
    show Go _ _ _ _ _ _ _ T15 (mkF m 95 #[.val (.int p0), .val (.int p1), .val (.int p2), .val (.int p3), .val (.int p4), .val (.int (1 : Int32)), .val (.int K), .val (.ref b2), .unset, .unset, .unset, .unset, .unset, .unset, .unset, .unset] [(.int (4 : Int32)), (.ref b11), (.ref b11)])
    refine Go.step (X15.ldcInt hx hown (mvT hZ (hw _ (List.mem_of_getElem? (i := 16) rfl))) (g := (mkF m 95 #[.val (.int p0), .val (.int p1), .val (.int p2), .val (.int p3), .val (.int p4), .val (.int (1 : Int32)), .val (.int K), .val (.ref b2), .unset, .unset, .unset, .unset, .unset, .unset, .unset, .unset] [(.int (4 : Int32)), (.ref b11), (.ref b11)])) rfl (hb hby at_95)) ?_
    show Go _ _ _ _ _ _ _ T15 (mkF m 97 #[.val (.int p0), .val (.int p1), .val (.int p2), .val (.int p3), .val (.int p4), .val (.int (1 : Int32)), .val (.int K), .val (.ref b2), .unset, .unset, .unset, .unset, .unset, .unset, .unset, .unset] [(.int (1073217536 : Int32)), (.int (4 : Int32)), (.ref b11), (.ref b11)])
    refine Go.iastore X15 hx hZ e15 V_b11_15 (j := (4 : Int32)) (x := (1073217536 : Int32)) (by decide) (hb hby at_97) ?_
    intro T16 h16 X16 e16 W16 Vn16
    have V_b11_16 : Iv Z h16 b11 (8 : Int32) (updN (updN (updN (updN (updN (fun _ => (0 : Int32)) 0 (0 : Int32)) 1 (-2147483648 : Int32)) 2 (1071644672 : Int32)) 3 (1072693248 : Int32)) 4 (1073217536 : Int32)) := Vn16
    have N16 := Fr.snoc X16 N15 ge_b11
    have V_b2_16 := V_b2_15.other W16 ne_b2_b11
    have E_b2_16 := E_b2_15.wr W16
    have E_b11_16 := E_b11_15.wr W16
    have K16 : Keep h0 h16 [] := K15.wr W16 (Or.inr sz_b11)
    show Go _ _ _ _ _ _ _ T16 (mkF m 98 #[.val (.int p0), .val (.int p1), .val (.int p2), .val (.int p3), .val (.int p4), .val (.int (1 : Int32)), .val (.int K), .val (.ref b2), .unset, .unset, .unset, .unset, .unset, .unset, .unset, .unset] [(.ref b11)])
    refine Go.step (fun _ k => XS.dup X16.here hx rfl (hb hby at_98) rfl rfl k) ?_
    show Go _ _ _ _ _ _ _ T16 (mkF m 99 #[.val (.int p0), .val (.int p1), .val (.int p2), .val (.int p3), .val (.int p4), .val (.int (1 : Int32)), .val (.int K), .val (.ref b2), .unset, .unset, .unset, .unset, .unset, .unset, .unset, .unset] [(.ref b11), (.ref b11)])
    refine Go.step (fun _ k => XS.iconst X16.here hx rfl (hb hby at_99) k) ?_
    show Go _ _ _ _ _ _ _ T16 (mkF m 100 #[.val (.int p0), .val (.int p1), .val (.int p2), .val (.int p3), .val (.int p4), .val (.int (1 : Int32)), .val (.int K), .val (.ref b2), .unset, .unset, .unset, .unset, .unset, .unset, .unset, .unset] [(.int (5 : Int32)), (.ref b11), (.ref b11)])
    refine Go.step (X16.ldcInt hx hown (mvT hZ (hw _ (List.mem_of_getElem? (i := 17) rfl))) (g := (mkF m 100 #[.val (.int p0), .val (.int p1), .val (.int p2), .val (.int p3), .val (.int p4), .val (.int (1 : Int32)), .val (.int K), .val (.ref b2), .unset, .unset, .unset, .unset, .unset, .unset, .unset, .unset] [(.int (5 : Int32)), (.ref b11), (.ref b11)])) rfl (hb hby at_100)) ?_
    show Go _ _ _ _ _ _ _ T16 (mkF m 102 #[.val (.int p0), .val (.int p1), .val (.int p2), .val (.int p3), .val (.int p4), .val (.int (1 : Int32)), .val (.int K), .val (.ref b2), .unset, .unset, .unset, .unset, .unset, .unset, .unset, .unset] [(.int (1073741824 : Int32)), (.int (5 : Int32)), (.ref b11), (.ref b11)])
    refine Go.iastore X16 hx hZ e16 V_b11_16 (j := (5 : Int32)) (x := (1073741824 : Int32)) (by decide) (hb hby at_102) ?_
    intro T17 h17 X17 e17 W17 Vn17
    have V_b11_17 : Iv Z h17 b11 (8 : Int32) (updN (updN (updN (updN (updN (updN (fun _ => (0 : Int32)) 0 (0 : Int32)) 1 (-2147483648 : Int32)) 2 (1071644672 : Int32)) 3 (1072693248 : Int32)) 4 (1073217536 : Int32)) 5 (1073741824 : Int32)) := Vn17
    have N17 := Fr.snoc X17 N16 ge_b11
    have V_b2_17 := V_b2_16.other W17 ne_b2_b11
    have E_b2_17 := E_b2_16.wr W17
    have E_b11_17 := E_b11_16.wr W17
    have K17 : Keep h0 h17 [] := K16.wr W17 (Or.inr sz_b11)
    show Go _ _ _ _ _ _ _ T17 (mkF m 103 #[.val (.int p0), .val (.int p1), .val (.int p2), .val (.int p3), .val (.int p4), .val (.int (1 : Int32)), .val (.int K), .val (.ref b2), .unset, .unset, .unset, .unset, .unset, .unset, .unset, .unset] [(.ref b11)])
    refine Go.step (fun _ k => XS.dup X17.here hx rfl (hb hby at_103) rfl rfl k) ?_
    show Go _ _ _ _ _ _ _ T17 (mkF m 104 #[.val (.int p0), .val (.int p1), .val (.int p2), .val (.int p3), .val (.int p4), .val (.int (1 : Int32)), .val (.int K), .val (.ref b2), .unset, .unset, .unset, .unset, .unset, .unset, .unset, .unset] [(.ref b11), (.ref b11)])
    refine Go.step (fun _ k => XS.bipush X17.here hx rfl (hb hby at_104) k) ?_
    show Go _ _ _ _ _ _ _ T17 (mkF m 106 #[.val (.int p0), .val (.int p1), .val (.int p2), .val (.int p3), .val (.int p4), .val (.int (1 : Int32)), .val (.int K), .val (.ref b2), .unset, .unset, .unset, .unset, .unset, .unset, .unset, .unset] [(.int (6 : Int32)), (.ref b11), (.ref b11)])
    refine Go.step (X17.ldcInt hx hown (mvT hZ (hw _ (List.mem_of_getElem? (i := 18) rfl))) (g := (mkF m 106 #[.val (.int p0), .val (.int p1), .val (.int p2), .val (.int p3), .val (.int p4), .val (.int (1 : Int32)), .val (.int K), .val (.ref b2), .unset, .unset, .unset, .unset, .unset, .unset, .unset, .unset] [(.int (6 : Int32)), (.ref b11), (.ref b11)])) rfl (hb hby at_106)) ?_
    show Go _ _ _ _ _ _ _ T17 (mkF m 108 #[.val (.int p0), .val (.int p1), .val (.int p2), .val (.int p3), .val (.int p4), .val (.int (1 : Int32)), .val (.int K), .val (.ref b2), .unset, .unset, .unset, .unset, .unset, .unset, .unset, .unset] [(.int (1074266112 : Int32)), (.int (6 : Int32)), (.ref b11), (.ref b11)])
    refine Go.iastore X17 hx hZ e17 V_b11_17 (j := (6 : Int32)) (x := (1074266112 : Int32)) (by decide) (hb hby at_108) ?_
    intro T18 h18 X18 e18 W18 Vn18
    have V_b11_18 : Iv Z h18 b11 (8 : Int32) (updN (updN (updN (updN (updN (updN (updN (fun _ => (0 : Int32)) 0 (0 : Int32)) 1 (-2147483648 : Int32)) 2 (1071644672 : Int32)) 3 (1072693248 : Int32)) 4 (1073217536 : Int32)) 5 (1073741824 : Int32)) 6 (1074266112 : Int32)) := Vn18
    have N18 := Fr.snoc X18 N17 ge_b11
    have V_b2_18 := V_b2_17.other W18 ne_b2_b11
    have E_b2_18 := E_b2_17.wr W18
    have E_b11_18 := E_b11_17.wr W18
    have K18 : Keep h0 h18 [] := K17.wr W18 (Or.inr sz_b11)
    show Go _ _ _ _ _ _ _ T18 (mkF m 109 #[.val (.int p0), .val (.int p1), .val (.int p2), .val (.int p3), .val (.int p4), .val (.int (1 : Int32)), .val (.int K), .val (.ref b2), .unset, .unset, .unset, .unset, .unset, .unset, .unset, .unset] [(.ref b11)])
    refine Go.step (fun _ k => XS.dup X18.here hx rfl (hb hby at_109) rfl rfl k) ?_
    show Go _ _ _ _ _ _ _ T18 (mkF m 110 #[.val (.int p0), .val (.int p1), .val (.int p2), .val (.int p3), .val (.int p4), .val (.int (1 : Int32)), .val (.int K), .val (.ref b2), .unset, .unset, .unset, .unset, .unset, .unset, .unset, .unset] [(.ref b11), (.ref b11)])
    refine Go.step (fun _ k => XS.bipush X18.here hx rfl (hb hby at_110) k) ?_
    show Go _ _ _ _ _ _ _ T18 (mkF m 112 #[.val (.int p0), .val (.int p1), .val (.int p2), .val (.int p3), .val (.int p4), .val (.int (1 : Int32)), .val (.int K), .val (.ref b2), .unset, .unset, .unset, .unset, .unset, .unset, .unset, .unset] [(.int (7 : Int32)), (.ref b11), (.ref b11)])
    refine Go.step (X18.ldcInt hx hown (mvT hZ (hw _ (List.mem_of_getElem? (i := 19) rfl))) (g := (mkF m 112 #[.val (.int p0), .val (.int p1), .val (.int p2), .val (.int p3), .val (.int p4), .val (.int (1 : Int32)), .val (.int K), .val (.ref b2), .unset, .unset, .unset, .unset, .unset, .unset, .unset, .unset] [(.int (7 : Int32)), (.ref b11), (.ref b11)])) rfl (hb hby at_112)) ?_
    show Go _ _ _ _ _ _ _ T18 (mkF m 114 #[.val (.int p0), .val (.int p1), .val (.int p2), .val (.int p3), .val (.int p4), .val (.int (1 : Int32)), .val (.int K), .val (.ref b2), .unset, .unset, .unset, .unset, .unset, .unset, .unset, .unset] [(.int (-1507852285 : Int32)), (.int (7 : Int32)), (.ref b11), (.ref b11)])
    refine Go.iastore X18 hx hZ e18 V_b11_18 (j := (7 : Int32)) (x := (-1507852285 : Int32)) (by decide) (hb hby at_114) ?_
    intro T19 h19 X19 e19 W19 Vn19
    have V_b11_19 : Iv Z h19 b11 (8 : Int32) (updN (updN (updN (updN (updN (updN (updN (updN (fun _ => (0 : Int32)) 0 (0 : Int32)) 1 (-2147483648 : Int32)) 2 (1071644672 : Int32)) 3 (1072693248 : Int32)) 4 (1073217536 : Int32)) 5 (1073741824 : Int32)) 6 (1074266112 : Int32)) 7 (-1507852285 : Int32)) := Vn19
    have N19 := Fr.snoc X19 N18 ge_b11
    have V_b2_19 := V_b2_18.other W19 ne_b2_b11
    have E_b2_19 := E_b2_18.wr W19
    have E_b11_19 := E_b11_18.wr W19
    have K19 : Keep h0 h19 [] := K18.wr W19 (Or.inr sz_b11)
    show Go _ _ _ _ _ _ _ T19 (mkF m 115 #[.val (.int p0), .val (.int p1), .val (.int p2), .val (.int p3), .val (.int p4), .val (.int (1 : Int32)), .val (.int K), .val (.ref b2), .unset, .unset, .unset, .unset, .unset, .unset, .unset, .unset] [(.ref b11)])
    refine Go.step (fun _ k => XS.astore X19.here hx rfl (hb hby at_115) rfl rfl (l' := #[.val (.int p0), .val (.int p1), .val (.int p2), .val (.int p3), .val (.int p4), .val (.int (1 : Int32)), .val (.int K), .val (.ref b2), .val (.ref b11), .unset, .unset, .unset, .unset, .unset, .unset, .unset]) rfl k) ?_
    have VxvalG : Dv Z h19 b2 (8 : Int32) valG := V_b2_19
    have VxelemG : Iv Z h19 b11 (8 : Int32) elemG := V_b11_19
    have hv0 := own_at7 p2
    have hv1 := own_at7 p3
    have hv2 := own_at7 p4
    show Go _ _ _ _ _ _ _ T19 (mkF m 117 #[.val (.int p0), .val (.int p1), .val (.int p2), .val (.int p3), .val (.int p4), .val (.int (1 : Int32)), .val (.int K), .val (.ref b2), .val (.ref b11), .unset, .unset, .unset, .unset, .unset, .unset, .unset] [])
    refine Go.step (fun _ k => XS.iloadN X19.here hx rfl (hb hby at_117) rfl k) ?_
    show Go _ _ _ _ _ _ _ T19 (mkF m 118 #[.val (.int p0), .val (.int p1), .val (.int p2), .val (.int p3), .val (.int p4), .val (.int (1 : Int32)), .val (.int K), .val (.ref b2), .val (.ref b11), .unset, .unset, .unset, .unset, .unset, .unset, .unset] [(.int p2)])
    refine Go.step (fun _ k => XS.bipush X19.here hx rfl (hb hby at_118) k) ?_
    show Go _ _ _ _ _ _ _ T19 (mkF m 120 #[.val (.int p0), .val (.int p1), .val (.int p2), .val (.int p3), .val (.int p4), .val (.int (1 : Int32)), .val (.int K), .val (.ref b2), .val (.ref b11), .unset, .unset, .unset, .unset, .unset, .unset, .unset] [(.int (7 : Int32)), (.int p2)])
    refine Go.step (fun _ k => XS.iand X19.here hx rfl (hb hby at_120) rfl k) ?_
    show Go _ _ _ _ _ _ _ T19 (mkF m 121 #[.val (.int p0), .val (.int p1), .val (.int p2), .val (.int p3), .val (.int p4), .val (.int (1 : Int32)), .val (.int K), .val (.ref b2), .val (.ref b11), .unset, .unset, .unset, .unset, .unset, .unset, .unset] [(.int (p2 &&& (7 : Int32)))])
    refine Go.step (fun _ k => XS.istore X19.here hx rfl (hb hby at_121) rfl (l' := #[.val (.int p0), .val (.int p1), .val (.int p2), .val (.int p3), .val (.int p4), .val (.int (1 : Int32)), .val (.int K), .val (.ref b2), .val (.ref b11), .val (.int (p2 &&& (7 : Int32))), .unset, .unset, .unset, .unset, .unset, .unset]) rfl k) ?_
    show Go _ _ _ _ _ _ _ T19 (mkF m 123 #[.val (.int p0), .val (.int p1), .val (.int p2), .val (.int p3), .val (.int p4), .val (.int (1 : Int32)), .val (.int K), .val (.ref b2), .val (.ref b11), .val (.int (p2 &&& (7 : Int32))), .unset, .unset, .unset, .unset, .unset, .unset] [])
    refine Go.step (fun _ k => XS.iloadN X19.here hx rfl (hb hby at_123) rfl k) ?_
    show Go _ _ _ _ _ _ _ T19 (mkF m 124 #[.val (.int p0), .val (.int p1), .val (.int p2), .val (.int p3), .val (.int p4), .val (.int (1 : Int32)), .val (.int K), .val (.ref b2), .val (.ref b11), .val (.int (p2 &&& (7 : Int32))), .unset, .unset, .unset, .unset, .unset, .unset] [(.int p3)])
    refine Go.step (fun _ k => XS.bipush X19.here hx rfl (hb hby at_124) k) ?_
    show Go _ _ _ _ _ _ _ T19 (mkF m 126 #[.val (.int p0), .val (.int p1), .val (.int p2), .val (.int p3), .val (.int p4), .val (.int (1 : Int32)), .val (.int K), .val (.ref b2), .val (.ref b11), .val (.int (p2 &&& (7 : Int32))), .unset, .unset, .unset, .unset, .unset, .unset] [(.int (7 : Int32)), (.int p3)])
    refine Go.step (fun _ k => XS.iand X19.here hx rfl (hb hby at_126) rfl k) ?_
    show Go _ _ _ _ _ _ _ T19 (mkF m 127 #[.val (.int p0), .val (.int p1), .val (.int p2), .val (.int p3), .val (.int p4), .val (.int (1 : Int32)), .val (.int K), .val (.ref b2), .val (.ref b11), .val (.int (p2 &&& (7 : Int32))), .unset, .unset, .unset, .unset, .unset, .unset] [(.int (p3 &&& (7 : Int32)))])
    refine Go.step (fun _ k => XS.istore X19.here hx rfl (hb hby at_127) rfl (l' := #[.val (.int p0), .val (.int p1), .val (.int p2), .val (.int p3), .val (.int p4), .val (.int (1 : Int32)), .val (.int K), .val (.ref b2), .val (.ref b11), .val (.int (p2 &&& (7 : Int32))), .val (.int (p3 &&& (7 : Int32))), .unset, .unset, .unset, .unset, .unset]) rfl k) ?_
    show Go _ _ _ _ _ _ _ T19 (mkF m 129 #[.val (.int p0), .val (.int p1), .val (.int p2), .val (.int p3), .val (.int p4), .val (.int (1 : Int32)), .val (.int K), .val (.ref b2), .val (.ref b11), .val (.int (p2 &&& (7 : Int32))), .val (.int (p3 &&& (7 : Int32))), .unset, .unset, .unset, .unset, .unset] [])
    refine Go.step (fun _ k => XS.iload X19.here hx rfl (hb hby at_129) rfl k) ?_
    show Go _ _ _ _ _ _ _ T19 (mkF m 131 #[.val (.int p0), .val (.int p1), .val (.int p2), .val (.int p3), .val (.int p4), .val (.int (1 : Int32)), .val (.int K), .val (.ref b2), .val (.ref b11), .val (.int (p2 &&& (7 : Int32))), .val (.int (p3 &&& (7 : Int32))), .unset, .unset, .unset, .unset, .unset] [(.int p4)])
    refine Go.step (fun _ k => XS.bipush X19.here hx rfl (hb hby at_131) k) ?_
    show Go _ _ _ _ _ _ _ T19 (mkF m 133 #[.val (.int p0), .val (.int p1), .val (.int p2), .val (.int p3), .val (.int p4), .val (.int (1 : Int32)), .val (.int K), .val (.ref b2), .val (.ref b11), .val (.int (p2 &&& (7 : Int32))), .val (.int (p3 &&& (7 : Int32))), .unset, .unset, .unset, .unset, .unset] [(.int (7 : Int32)), (.int p4)])
    refine Go.step (fun _ k => XS.iand X19.here hx rfl (hb hby at_133) rfl k) ?_
    show Go _ _ _ _ _ _ _ T19 (mkF m 134 #[.val (.int p0), .val (.int p1), .val (.int p2), .val (.int p3), .val (.int p4), .val (.int (1 : Int32)), .val (.int K), .val (.ref b2), .val (.ref b11), .val (.int (p2 &&& (7 : Int32))), .val (.int (p3 &&& (7 : Int32))), .unset, .unset, .unset, .unset, .unset] [(.int (p4 &&& (7 : Int32)))])
    refine Go.step (fun _ k => XS.istore X19.here hx rfl (hb hby at_134) rfl (l' := #[.val (.int p0), .val (.int p1), .val (.int p2), .val (.int p3), .val (.int p4), .val (.int (1 : Int32)), .val (.int K), .val (.ref b2), .val (.ref b11), .val (.int (p2 &&& (7 : Int32))), .val (.int (p3 &&& (7 : Int32))), .val (.int (p4 &&& (7 : Int32))), .unset, .unset, .unset, .unset]) rfl k) ?_
    show Go _ _ _ _ _ _ _ T19 (mkF m 136 #[.val (.int p0), .val (.int p1), .val (.int p2), .val (.int p3), .val (.int p4), .val (.int (1 : Int32)), .val (.int K), .val (.ref b2), .val (.ref b11), .val (.int (p2 &&& (7 : Int32))), .val (.int (p3 &&& (7 : Int32))), .val (.int (p4 &&& (7 : Int32))), .unset, .unset, .unset, .unset] [])
    refine Go.step (fun _ k => XS.iload X19.here hx rfl (hb hby at_136) rfl k) ?_
    show Go _ _ _ _ _ _ _ T19 (mkF m 138 #[.val (.int p0), .val (.int p1), .val (.int p2), .val (.int p3), .val (.int p4), .val (.int (1 : Int32)), .val (.int K), .val (.ref b2), .val (.ref b11), .val (.int (p2 &&& (7 : Int32))), .val (.int (p3 &&& (7 : Int32))), .val (.int (p4 &&& (7 : Int32))), .unset, .unset, .unset, .unset] [(.int (1 : Int32))])
    obtain ⟨T20, h20, k20, X20, e20, E20, A20, B20, st20⟩ := newPE X19 hx hZ (hw _ (List.mem_of_getElem? (i := 5) rfl)) e19 (g := (mkF m 138 #[.val (.int p0), .val (.int p1), .val (.int p2), .val (.int p3), .val (.int p4), .val (.int (1 : Int32)), .val (.int K), .val (.ref b2), .val (.ref b11), .val (.int (p2 &&& (7 : Int32))), .val (.int (p3 &&& (7 : Int32))), .val (.int (p4 &&& (7 : Int32))), .unset, .unset, .unset, .unset] [(.int (1 : Int32))])) rfl (hb hby at_138) rfl (by decide) (cap := 1) (by decide) (by decide) (by decide) (by decide) (ad := "[D") (by decide)
    obtain ⟨b20, g20⟩ : ∃ z, z = h19.size := ⟨_, rfl⟩
    rw [← g20] at A20 B20 st20
    refine Go.step st20 ?_
    have K20 : Keep h0 h20 [] := K19.ext E20
    have sz_b20 : h0.size ≤ b20 := Nat.le_trans (K19 : Keep h0 h19 []).1 (Nat.le_of_eq g20.symm)
    have ge_b20 : n0 ≤ b20 := Nat.le_trans Z0 sz_b20
    have ne_b2_b20 : b2 ≠ b20 := Nat.ne_of_lt (Nat.lt_of_lt_of_le VxvalG.lt (Nat.le_of_eq g20.symm))
    have ne_b11_b20 : b11 ≠ b20 := Nat.ne_of_lt (Nat.lt_of_lt_of_le VxelemG.lt (Nat.le_of_eq g20.symm))
    have VxvalG_20 := VxvalG.ext E20
    have E_b2_20 := E_b2_19.ext E20
    have VxelemG_20 := VxelemG.ext E20
    have E_b11_20 := E_b11_19.ext E20
    have V_b20 : Dv Z h20 b20 (1 : Int32) (fun _ => (0 : UInt64)) := Fv.new A20 (by decide)
    have E_b20 := B20
    show Go _ _ _ _ _ _ _ T20 (mkF m 140 #[.val (.int p0), .val (.int p1), .val (.int p2), .val (.int p3), .val (.int p4), .val (.int (1 : Int32)), .val (.int K), .val (.ref b2), .val (.ref b11), .val (.int (p2 &&& (7 : Int32))), .val (.int (p3 &&& (7 : Int32))), .val (.int (p4 &&& (7 : Int32))), .unset, .unset, .unset, .unset] [(.ref b20)])
    refine Go.step (fun _ k => XS.astore X20.here hx rfl (hb hby at_140) rfl rfl (l' := #[.val (.int p0), .val (.int p1), .val (.int p2), .val (.int p3), .val (.int p4), .val (.int (1 : Int32)), .val (.int K), .val (.ref b2), .val (.ref b11), .val (.int (p2 &&& (7 : Int32))), .val (.int (p3 &&& (7 : Int32))), .val (.int (p4 &&& (7 : Int32))), .val (.ref b20), .unset, .unset, .unset]) rfl k) ?_
    show Go _ _ _ _ _ _ _ T20 (mkF m 142 #[.val (.int p0), .val (.int p1), .val (.int p2), .val (.int p3), .val (.int p4), .val (.int (1 : Int32)), .val (.int K), .val (.ref b2), .val (.ref b11), .val (.int (p2 &&& (7 : Int32))), .val (.int (p3 &&& (7 : Int32))), .val (.int (p4 &&& (7 : Int32))), .val (.ref b20), .unset, .unset, .unset] [])
    refine Go.step (fun _ k => XS.aload X20.here hx rfl (hb hby at_142) rfl rfl k) ?_
    show Go _ _ _ _ _ _ _ T20 (mkF m 144 #[.val (.int p0), .val (.int p1), .val (.int p2), .val (.int p3), .val (.int p4), .val (.int (1 : Int32)), .val (.int K), .val (.ref b2), .val (.ref b11), .val (.int (p2 &&& (7 : Int32))), .val (.int (p3 &&& (7 : Int32))), .val (.int (p4 &&& (7 : Int32))), .val (.ref b20), .unset, .unset, .unset] [(.ref b20)])
    refine Go.step (fun _ k => XS.iconst X20.here hx rfl (hb hby at_144) k) ?_
    show Go _ _ _ _ _ _ _ T20 (mkF m 145 #[.val (.int p0), .val (.int p1), .val (.int p2), .val (.int p3), .val (.int p4), .val (.int (1 : Int32)), .val (.int K), .val (.ref b2), .val (.ref b11), .val (.int (p2 &&& (7 : Int32))), .val (.int (p3 &&& (7 : Int32))), .val (.int (p4 &&& (7 : Int32))), .val (.ref b20), .unset, .unset, .unset] [(.int (0 : Int32)), (.ref b20)])
    refine Go.step (fun _ k => XS.aload X20.here hx rfl (hb hby at_145) rfl rfl k) ?_
    show Go _ _ _ _ _ _ _ T20 (mkF m 147 #[.val (.int p0), .val (.int p1), .val (.int p2), .val (.int p3), .val (.int p4), .val (.int (1 : Int32)), .val (.int K), .val (.ref b2), .val (.ref b11), .val (.int (p2 &&& (7 : Int32))), .val (.int (p3 &&& (7 : Int32))), .val (.int (p4 &&& (7 : Int32))), .val (.ref b20), .unset, .unset, .unset] [(.ref b2), (.int (0 : Int32)), (.ref b20)])
    refine Go.step (fun _ k => XS.iload X20.here hx rfl (hb hby at_147) rfl k) ?_
    show Go _ _ _ _ _ _ _ T20 (mkF m 149 #[.val (.int p0), .val (.int p1), .val (.int p2), .val (.int p3), .val (.int p4), .val (.int (1 : Int32)), .val (.int K), .val (.ref b2), .val (.ref b11), .val (.int (p2 &&& (7 : Int32))), .val (.int (p3 &&& (7 : Int32))), .val (.int (p4 &&& (7 : Int32))), .val (.ref b20), .unset, .unset, .unset] [(.int (p2 &&& (7 : Int32))), (.ref b2), (.int (0 : Int32)), (.ref b20)])
    refine Go.daload X20 hx hZ e20 VxvalG_20 (j := (p2 &&& (7 : Int32))) (v := (valG ((p2 &&& (7 : Int32))).toNatClampNeg)) (own_i7 p2) rfl (hb hby at_149) ?_
    show Go _ _ _ _ _ _ _ T20 (mkF m 150 #[.val (.int p0), .val (.int p1), .val (.int p2), .val (.int p3), .val (.int p4), .val (.int (1 : Int32)), .val (.int K), .val (.ref b2), .val (.ref b11), .val (.int (p2 &&& (7 : Int32))), .val (.int (p3 &&& (7 : Int32))), .val (.int (p4 &&& (7 : Int32))), .val (.ref b20), .unset, .unset, .unset] [(.double (valG ((p2 &&& (7 : Int32))).toNatClampNeg)), (.int (0 : Int32)), (.ref b20)])
    refine Go.dastore X20 hx hZ e20 V_b20 (j := (0 : Int32)) (x := (valG ((p2 &&& (7 : Int32))).toNatClampNeg)) (by decide) (hb hby at_150) ?_
    intro T21 h21 X21 e21 W21 Vn21
    have V_b20_21 : Dv Z h21 b20 (1 : Int32) (updN (fun _ => (0 : UInt64)) 0 (valG ((p2 &&& (7 : Int32))).toNatClampNeg)) := Vn21
    have N21 := Fr.snoc X21 N19 ge_b20
    have VxvalG_21 := VxvalG_20.other W21 ne_b2_b20
    have E_b2_21 := E_b2_20.wr W21
    have VxelemG_21 := VxelemG_20.other W21 ne_b11_b20
    have E_b11_21 := E_b11_20.wr W21
    have E_b20_21 := E_b20.wr W21
    have K21 : Keep h0 h21 [] := K20.wr W21 (Or.inr sz_b20)
    show Go _ _ _ _ _ _ _ T21 (mkF m 151 #[.val (.int p0), .val (.int p1), .val (.int p2), .val (.int p3), .val (.int p4), .val (.int (1 : Int32)), .val (.int K), .val (.ref b2), .val (.ref b11), .val (.int (p2 &&& (7 : Int32))), .val (.int (p3 &&& (7 : Int32))), .val (.int (p4 &&& (7 : Int32))), .val (.ref b20), .unset, .unset, .unset] [])
    refine Go.step (fun _ k => XS.iload X21.here hx rfl (hb hby at_151) rfl k) ?_
    show Go _ _ _ _ _ _ _ T21 (mkF m 153 #[.val (.int p0), .val (.int p1), .val (.int p2), .val (.int p3), .val (.int p4), .val (.int (1 : Int32)), .val (.int K), .val (.ref b2), .val (.ref b11), .val (.int (p2 &&& (7 : Int32))), .val (.int (p3 &&& (7 : Int32))), .val (.int (p4 &&& (7 : Int32))), .val (.ref b20), .unset, .unset, .unset] [(.int (1 : Int32))])
    refine Go.step (fun _ k => XS.iconst X21.here hx rfl (hb hby at_153) k) ?_
    show Go _ _ _ _ _ _ _ T21 (mkF m 154 #[.val (.int p0), .val (.int p1), .val (.int p2), .val (.int p3), .val (.int p4), .val (.int (1 : Int32)), .val (.int K), .val (.ref b2), .val (.ref b11), .val (.int (p2 &&& (7 : Int32))), .val (.int (p3 &&& (7 : Int32))), .val (.int (p4 &&& (7 : Int32))), .val (.ref b20), .unset, .unset, .unset] [(.int (1 : Int32)), (.int (1 : Int32))])
    refine Go.step (fun _ k => XS.icmpYes X21.here hx rfl (pc0 := 154) (pc' := 166) rfl (hb hby at_154) rfl (flt (by decide : ¬ ((1 : Int32) < (1 : Int32)))).2.2.2 (by decide) (by decide) k) ?_
    show Go _ _ _ _ _ _ _ T21 (mkF m 166 #[.val (.int p0), .val (.int p1), .val (.int p2), .val (.int p3), .val (.int p4), .val (.int (1 : Int32)), .val (.int K), .val (.ref b2), .val (.ref b11), .val (.int (p2 &&& (7 : Int32))), .val (.int (p3 &&& (7 : Int32))), .val (.int (p4 &&& (7 : Int32))), .val (.ref b20), .unset, .unset, .unset] [])
    refine Go.step (fun _ k => XS.iload X21.here hx rfl (hb hby at_166) rfl k) ?_
    show Go _ _ _ _ _ _ _ T21 (mkF m 168 #[.val (.int p0), .val (.int p1), .val (.int p2), .val (.int p3), .val (.int p4), .val (.int (1 : Int32)), .val (.int K), .val (.ref b2), .val (.ref b11), .val (.int (p2 &&& (7 : Int32))), .val (.int (p3 &&& (7 : Int32))), .val (.int (p4 &&& (7 : Int32))), .val (.ref b20), .unset, .unset, .unset] [(.int (1 : Int32))])
    refine Go.step (fun _ k => XS.iconst X21.here hx rfl (hb hby at_168) k) ?_
    show Go _ _ _ _ _ _ _ T21 (mkF m 169 #[.val (.int p0), .val (.int p1), .val (.int p2), .val (.int p3), .val (.int p4), .val (.int (1 : Int32)), .val (.int K), .val (.ref b2), .val (.ref b11), .val (.int (p2 &&& (7 : Int32))), .val (.int (p3 &&& (7 : Int32))), .val (.int (p4 &&& (7 : Int32))), .val (.ref b20), .unset, .unset, .unset] [(.int (2 : Int32)), (.int (1 : Int32))])
    refine Go.step (fun _ k => XS.icmpYes X21.here hx rfl (pc0 := 169) (pc' := 181) rfl (hb hby at_169) rfl (flt (by decide : ¬ ((2 : Int32) < (1 : Int32)))).2.2.2 (by decide) (by decide) k) ?_
    show Go _ _ _ _ _ _ _ T21 (mkF m 181 #[.val (.int p0), .val (.int p1), .val (.int p2), .val (.int p3), .val (.int p4), .val (.int (1 : Int32)), .val (.int K), .val (.ref b2), .val (.ref b11), .val (.int (p2 &&& (7 : Int32))), .val (.int (p3 &&& (7 : Int32))), .val (.int (p4 &&& (7 : Int32))), .val (.ref b20), .unset, .unset, .unset] [])
    obtain ⟨T22, h22, X22, e22, E22, A22, D22, -, st22⟩ := newO X21 hx hZ hown (hw _ (List.mem_of_getElem? (i := 20) rfl)) (hw _ (List.mem_of_getElem? (i := 21) rfl)) (hw _ (List.mem_of_getElem? (i := 22) rfl)) e21 (g := (mkF m 181 #[.val (.int p0), .val (.int p1), .val (.int p2), .val (.int p3), .val (.int p4), .val (.int (1 : Int32)), .val (.int K), .val (.ref b2), .val (.ref b11), .val (.int (p2 &&& (7 : Int32))), .val (.int (p3 &&& (7 : Int32))), .val (.int (p4 &&& (7 : Int32))), .val (.ref b20), .unset, .unset, .unset] [])) rfl (hb hby at_181) (by decide) (by decide)
    obtain ⟨b22, g22⟩ : ∃ z, z = h21.size := ⟨_, rfl⟩
    rw [← g22] at A22 D22 st22
    refine Go.step st22 ?_
    have K22 : Keep h0 h22 [] := K21.ext E22
    have sz_b22 : h0.size ≤ b22 := Nat.le_trans (K21 : Keep h0 h21 []).1 (Nat.le_of_eq g22.symm)
    have ge_b22 : n0 ≤ b22 := Nat.le_trans Z0 sz_b22
    have ne_b2_b22 : b2 ≠ b22 := Nat.ne_of_lt (Nat.lt_of_lt_of_le VxvalG_21.lt (Nat.le_of_eq g22.symm))
    have ne_b11_b22 : b11 ≠ b22 := Nat.ne_of_lt (Nat.lt_of_lt_of_le VxelemG_21.lt (Nat.le_of_eq g22.symm))
    have ne_b20_b22 : b20 ≠ b22 := Nat.ne_of_lt (Nat.lt_of_lt_of_le V_b20_21.lt (Nat.le_of_eq g22.symm))
    have VxvalG_22 := VxvalG_21.ext E22
    have E_b2_22 := E_b2_21.ext E22
    have VxelemG_22 := VxelemG_21.ext E22
    have E_b11_22 := E_b11_21.ext E22
    have V_b20_22 := V_b20_21.ext E22
    have E_b20_22 := E_b20_21.ext E22
    have E_b22 := A22
    have F_keyGroups_b22 : Fld Z h22 b22 "tidewatch/decision/KeyGroupCeiling" "keyGroups" "I" (.int (0 : Int32)) := D22 (Or.inr (hw _ (List.mem_of_getElem? (i := 30) rfl))) (ty := .int) (by decide)
    have F_shares_b22 : Fld Z h22 b22 "tidewatch/decision/KeyGroupCeiling" "shares" "[D" .null := D22 (Or.inr (hw _ (List.mem_of_getElem? (i := 41) rfl))) (ty := (.array .double)) (by decide)
    have F_before_b22 : Fld Z h22 b22 "tidewatch/decision/KeyGroupCeiling" "before" "[D" .null := D22 (Or.inr (hw _ (List.mem_of_getElem? (i := 43) rfl))) (ty := (.array .double)) (by decide)
    show Go _ _ _ _ _ _ _ T22 (mkF m 184 #[.val (.int p0), .val (.int p1), .val (.int p2), .val (.int p3), .val (.int p4), .val (.int (1 : Int32)), .val (.int K), .val (.ref b2), .val (.ref b11), .val (.int (p2 &&& (7 : Int32))), .val (.int (p3 &&& (7 : Int32))), .val (.int (p4 &&& (7 : Int32))), .val (.ref b20), .unset, .unset, .unset] [(.ref b22)])
    refine Go.step (fun _ k => XS.dup X22.here hx rfl (hb hby at_184) rfl rfl k) ?_
    show Go _ _ _ _ _ _ _ T22 (mkF m 185 #[.val (.int p0), .val (.int p1), .val (.int p2), .val (.int p3), .val (.int p4), .val (.int (1 : Int32)), .val (.int K), .val (.ref b2), .val (.ref b11), .val (.int (p2 &&& (7 : Int32))), .val (.int (p3 &&& (7 : Int32))), .val (.int (p4 &&& (7 : Int32))), .val (.ref b20), .unset, .unset, .unset] [(.ref b22), (.ref b22)])
    refine Go.step (fun _ k => XS.iload X22.here hx rfl (hb hby at_185) rfl k) ?_
    show Go _ _ _ _ _ _ _ T22 (mkF m 187 #[.val (.int p0), .val (.int p1), .val (.int p2), .val (.int p3), .val (.int p4), .val (.int (1 : Int32)), .val (.int K), .val (.ref b2), .val (.ref b11), .val (.int (p2 &&& (7 : Int32))), .val (.int (p3 &&& (7 : Int32))), .val (.int (p4 &&& (7 : Int32))), .val (.ref b20), .unset, .unset, .unset] [(.int K), (.ref b22), (.ref b22)])
    refine Go.step (fun _ k => XS.aload X22.here hx rfl (hb hby at_187) rfl rfl k) ?_
    show Go _ _ _ _ _ _ _ T22 (mkF m 189 #[.val (.int p0), .val (.int p1), .val (.int p2), .val (.int p3), .val (.int p4), .val (.int (1 : Int32)), .val (.int K), .val (.ref b2), .val (.ref b11), .val (.int (p2 &&& (7 : Int32))), .val (.int (p3 &&& (7 : Int32))), .val (.int (p4 &&& (7 : Int32))), .val (.ref b20), .unset, .unset, .unset] [(.ref b20), (.int K), (.ref b22), (.ref b22)])
    refine Go.callI X22 hx hZ (by rw [hml]; rfl) (y := (⟨"tidewatch/decision/KeyGroupCeiling", "<init>", "(I[D)V"⟩ : MethodName)) (a := b22) (argsL := [(.int K), (.ref b20)]) (rest := [(.ref b22)]) rfl hown (hw _ (List.mem_of_getElem? (i := 23) rfl)) (hw _ (List.mem_of_getElem? (i := 24) rfl)) (hw _ (List.mem_of_getElem? (i := 22) rfl)) (hw _ (List.mem_of_getElem? (i := 25) rfl)) (by decide) (rm2_1 l Z a0 hw b22 b20 K (updN (fun _ => (0 : UInt64)) 0 (valG ((p2 &&& (7 : Int32))).toNatClampNeg)) h22 n0 (Nat.le_trans Z0 (K22 : Keep h0 h22 []).1) E_b22 F_keyGroups_b22 F_shares_b22 F_before_b22 E_b20_22 V_b20_22 ge_b22 (Ne.symm ne_b20_b22) hK (fun i hi' => by rcases (by omega : i = 0) with rfl; exact hv0.2.1) (fun i hi' => by rcases (by omega : i = 0) with rfl; exact hv0.2.2)) e22 (hb hby at_189) (lenOf pd_5 rfl) rfl rfl (W := 1) (Nat.le_of_eq rfl) (by decide) (by decide) (by decide) (by decide) ?_
    intro v23 T23 L23 X23 Q23
    obtain ⟨rfl, N23q, Kc23, Ec23, Fk23, c23, d23, Fc23, Fd23, Vc23, Vd23, sc23, sd23, ncd23⟩ := Q23
    have N23 := Fr.app N21 N23q
    have ne_b20_c23 : b20 ≠ c23 := Nat.ne_of_lt (Nat.lt_of_lt_of_le V_b20_22.lt sc23)
    have ne_b20_d23 : b20 ≠ d23 := Nat.ne_of_lt (Nat.lt_of_lt_of_le V_b20_22.lt sd23)
    have VxvalG_23 := VxvalG_22.keep Kc23 (ninS ne_b2_b22 nin0)
    have E_b2_23 := E_b2_22.keep Kc23
    have VxelemG_23 := VxelemG_22.keep Kc23 (ninS ne_b11_b22 nin0)
    have E_b11_23 := E_b11_22.keep Kc23
    have V_b20_23 := V_b20_22.keep Kc23 (ninS ne_b20_b22 nin0)
    have E_b20_23 := E_b20_22.keep Kc23
    have E_b22_23 := E_b22.keep Kc23
    have KK23 : Keep h0 T23.heap [] := (K22 : Keep h0 h22 []).trans Kc23 (allS (Or.inr sz_b22) all0)
    show Go _ _ _ _ _ _ _ T23 (mkF m 192 #[.val (.int p0), .val (.int p1), .val (.int p2), .val (.int p3), .val (.int p4), .val (.int (1 : Int32)), .val (.int K), .val (.ref b2), .val (.ref b11), .val (.int (p2 &&& (7 : Int32))), .val (.int (p3 &&& (7 : Int32))), .val (.int (p4 &&& (7 : Int32))), .val (.ref b20), .unset, .unset, .unset] [(.ref b22)])
    refine Go.step (fun _ k => XS.astore X23.here hx rfl (hb hby at_192) rfl rfl (l' := #[.val (.int p0), .val (.int p1), .val (.int p2), .val (.int p3), .val (.int p4), .val (.int (1 : Int32)), .val (.int K), .val (.ref b2), .val (.ref b11), .val (.int (p2 &&& (7 : Int32))), .val (.int (p3 &&& (7 : Int32))), .val (.int (p4 &&& (7 : Int32))), .val (.ref b20), .val (.ref b22), .unset, .unset]) rfl k) ?_
    show Go _ _ _ _ _ _ _ T23 (mkF m 194 #[.val (.int p0), .val (.int p1), .val (.int p2), .val (.int p3), .val (.int p4), .val (.int (1 : Int32)), .val (.int K), .val (.ref b2), .val (.ref b11), .val (.int (p2 &&& (7 : Int32))), .val (.int (p3 &&& (7 : Int32))), .val (.int (p4 &&& (7 : Int32))), .val (.ref b20), .val (.ref b22), .unset, .unset] [])
    refine Go.step (fun _ k => XS.aload X23.here hx rfl (hb hby at_194) rfl rfl k) ?_
    show Go _ _ _ _ _ _ _ T23 (mkF m 196 #[.val (.int p0), .val (.int p1), .val (.int p2), .val (.int p3), .val (.int p4), .val (.int (1 : Int32)), .val (.int K), .val (.ref b2), .val (.ref b11), .val (.int (p2 &&& (7 : Int32))), .val (.int (p3 &&& (7 : Int32))), .val (.int (p4 &&& (7 : Int32))), .val (.ref b20), .val (.ref b22), .unset, .unset] [(.ref b20)])
    refine Go.step (fun _ k => XS.iconst X23.here hx rfl (hb hby at_196) k) ?_
    show Go _ _ _ _ _ _ _ T23 (mkF m 197 #[.val (.int p0), .val (.int p1), .val (.int p2), .val (.int p3), .val (.int p4), .val (.int (1 : Int32)), .val (.int K), .val (.ref b2), .val (.ref b11), .val (.int (p2 &&& (7 : Int32))), .val (.int (p3 &&& (7 : Int32))), .val (.int (p4 &&& (7 : Int32))), .val (.ref b20), .val (.ref b22), .unset, .unset] [(.int (0 : Int32)), (.ref b20)])
    refine Go.step (X23.ldc2DoubleC hx hown (mvT hZ (hw _ (List.mem_of_getElem? (i := 52) rfl))) (g := (mkF m 197 #[.val (.int p0), .val (.int p1), .val (.int p2), .val (.int p3), .val (.int p4), .val (.int (1 : Int32)), .val (.int K), .val (.ref b2), .val (.ref b11), .val (.int (p2 &&& (7 : Int32))), .val (.int (p3 &&& (7 : Int32))), .val (.int (p4 &&& (7 : Int32))), .val (.ref b20), .val (.ref b22), .unset, .unset] [(.int (0 : Int32)), (.ref b20)])) rfl (hb hby at_197)) ?_
    show Go _ _ _ _ _ _ _ T23 (mkF m 200 #[.val (.int p0), .val (.int p1), .val (.int p2), .val (.int p3), .val (.int p4), .val (.int (1 : Int32)), .val (.int K), .val (.ref b2), .val (.ref b11), .val (.int (p2 &&& (7 : Int32))), .val (.int (p3 &&& (7 : Int32))), .val (.int (p4 &&& (7 : Int32))), .val (.ref b20), .val (.ref b22), .unset, .unset] [(.double (4612811918334230528 : UInt64)), (.int (0 : Int32)), (.ref b20)])
    refine Go.dastore X23 hx hZ rfl V_b20_23 (j := (0 : Int32)) (x := (4612811918334230528 : UInt64)) (by decide) (hb hby at_200) ?_
    intro T24 h24 X24 e24 W24 Vn24
    have V_b20_24 : Dv Z h24 b20 (1 : Int32) (updN (updN (fun _ => (0 : UInt64)) 0 (valG ((p2 &&& (7 : Int32))).toNatClampNeg)) 0 (4612811918334230528 : UInt64)) := Vn24
    have N24 := Fr.snoc X24 N23 ge_b20
    have VxvalG_24 := VxvalG_23.other W24 ne_b2_b20
    have E_b2_24 := E_b2_23.wr W24
    have VxelemG_24 := VxelemG_23.other W24 ne_b11_b20
    have E_b11_24 := E_b11_23.wr W24
    have E_b20_24 := E_b20_23.wr W24
    have Ec23_24 := Ec23.wr W24
    have Fk23_24 := Fk23.other W24 (Or.inl (Ne.symm ne_b20_b22))
    have Fc23_24 := Fc23.other W24 (Or.inl (Ne.symm ne_b20_b22))
    have Fd23_24 := Fd23.other W24 (Or.inl (Ne.symm ne_b20_b22))
    have Vc23_24 := Vc23.other W24 (Ne.symm ne_b20_c23)
    have Vd23_24 := Vd23.other W24 (Ne.symm ne_b20_d23)
    have K24 : Keep h0 h24 [] := KK23.wr W24 (Or.inr sz_b20)
    show Go _ _ _ _ _ _ _ T24 (mkF m 201 #[.val (.int p0), .val (.int p1), .val (.int p2), .val (.int p3), .val (.int p4), .val (.int (1 : Int32)), .val (.int K), .val (.ref b2), .val (.ref b11), .val (.int (p2 &&& (7 : Int32))), .val (.int (p3 &&& (7 : Int32))), .val (.int (p4 &&& (7 : Int32))), .val (.ref b20), .val (.ref b22), .unset, .unset] [])
    refine Go.step (fun _ k => XS.bipush X24.here hx rfl (hb hby at_201) k) ?_
    show Go _ _ _ _ _ _ _ T24 (mkF m 203 #[.val (.int p0), .val (.int p1), .val (.int p2), .val (.int p3), .val (.int p4), .val (.int (1 : Int32)), .val (.int K), .val (.ref b2), .val (.ref b11), .val (.int (p2 &&& (7 : Int32))), .val (.int (p3 &&& (7 : Int32))), .val (.int (p4 &&& (7 : Int32))), .val (.ref b20), .val (.ref b22), .unset, .unset] [(.int (31 : Int32))])
    refine Go.step (fun _ k => XS.aload X24.here hx rfl (hb hby at_203) rfl rfl k) ?_
    show Go _ _ _ _ _ _ _ T24 (mkF m 205 #[.val (.int p0), .val (.int p1), .val (.int p2), .val (.int p3), .val (.int p4), .val (.int (1 : Int32)), .val (.int K), .val (.ref b2), .val (.ref b11), .val (.int (p2 &&& (7 : Int32))), .val (.int (p3 &&& (7 : Int32))), .val (.int (p4 &&& (7 : Int32))), .val (.ref b20), .val (.ref b22), .unset, .unset] [(.ref b11), (.int (31 : Int32))])
    refine Go.step (fun _ k => XS.iload X24.here hx rfl (hb hby at_205) rfl k) ?_
    show Go _ _ _ _ _ _ _ T24 (mkF m 207 #[.val (.int p0), .val (.int p1), .val (.int p2), .val (.int p3), .val (.int p4), .val (.int (1 : Int32)), .val (.int K), .val (.ref b2), .val (.ref b11), .val (.int (p2 &&& (7 : Int32))), .val (.int (p3 &&& (7 : Int32))), .val (.int (p4 &&& (7 : Int32))), .val (.ref b20), .val (.ref b22), .unset, .unset] [(.int (p2 &&& (7 : Int32))), (.ref b11), (.int (31 : Int32))])
    refine Go.iaload X24 hx hZ e24 VxelemG_24 (j := (p2 &&& (7 : Int32))) (v := (elemG ((p2 &&& (7 : Int32))).toNatClampNeg)) (own_i7 p2) rfl (hb hby at_207) ?_
    show Go _ _ _ _ _ _ _ T24 (mkF m 208 #[.val (.int p0), .val (.int p1), .val (.int p2), .val (.int p3), .val (.int p4), .val (.int (1 : Int32)), .val (.int K), .val (.ref b2), .val (.ref b11), .val (.int (p2 &&& (7 : Int32))), .val (.int (p3 &&& (7 : Int32))), .val (.int (p4 &&& (7 : Int32))), .val (.ref b20), .val (.ref b22), .unset, .unset] [(.int (elemG ((p2 &&& (7 : Int32))).toNatClampNeg)), (.int (31 : Int32))])
    refine Go.step (fun _ k => XS.iadd X24.here hx rfl (hb hby at_208) rfl k) ?_
    show Go _ _ _ _ _ _ _ T24 (mkF m 209 #[.val (.int p0), .val (.int p1), .val (.int p2), .val (.int p3), .val (.int p4), .val (.int (1 : Int32)), .val (.int K), .val (.ref b2), .val (.ref b11), .val (.int (p2 &&& (7 : Int32))), .val (.int (p3 &&& (7 : Int32))), .val (.int (p4 &&& (7 : Int32))), .val (.ref b20), .val (.ref b22), .unset, .unset] [(.int ((31 : Int32) + (elemG ((p2 &&& (7 : Int32))).toNatClampNeg)))])
    refine Go.step (fun _ k => XS.istore X24.here hx rfl (hb hby at_209) rfl (l' := #[.val (.int p0), .val (.int p1), .val (.int p2), .val (.int p3), .val (.int p4), .val (.int (1 : Int32)), .val (.int K), .val (.ref b2), .val (.ref b11), .val (.int (p2 &&& (7 : Int32))), .val (.int (p3 &&& (7 : Int32))), .val (.int (p4 &&& (7 : Int32))), .val (.ref b20), .val (.ref b22), .val (.int ((31 : Int32) + (elemG ((p2 &&& (7 : Int32))).toNatClampNeg))), .unset]) rfl k) ?_
    show Go _ _ _ _ _ _ _ T24 (mkF m 211 #[.val (.int p0), .val (.int p1), .val (.int p2), .val (.int p3), .val (.int p4), .val (.int (1 : Int32)), .val (.int K), .val (.ref b2), .val (.ref b11), .val (.int (p2 &&& (7 : Int32))), .val (.int (p3 &&& (7 : Int32))), .val (.int (p4 &&& (7 : Int32))), .val (.ref b20), .val (.ref b22), .val (.int ((31 : Int32) + (elemG ((p2 &&& (7 : Int32))).toNatClampNeg))), .unset] [])
    refine Go.step (fun _ k => XS.iload X24.here hx rfl (hb hby at_211) rfl k) ?_
    show Go _ _ _ _ _ _ _ T24 (mkF m 213 #[.val (.int p0), .val (.int p1), .val (.int p2), .val (.int p3), .val (.int p4), .val (.int (1 : Int32)), .val (.int K), .val (.ref b2), .val (.ref b11), .val (.int (p2 &&& (7 : Int32))), .val (.int (p3 &&& (7 : Int32))), .val (.int (p4 &&& (7 : Int32))), .val (.ref b20), .val (.ref b22), .val (.int ((31 : Int32) + (elemG ((p2 &&& (7 : Int32))).toNatClampNeg))), .unset] [(.int (1 : Int32))])
    refine Go.step (fun _ k => XS.iconst X24.here hx rfl (hb hby at_213) k) ?_
    show Go _ _ _ _ _ _ _ T24 (mkF m 214 #[.val (.int p0), .val (.int p1), .val (.int p2), .val (.int p3), .val (.int p4), .val (.int (1 : Int32)), .val (.int K), .val (.ref b2), .val (.ref b11), .val (.int (p2 &&& (7 : Int32))), .val (.int (p3 &&& (7 : Int32))), .val (.int (p4 &&& (7 : Int32))), .val (.ref b20), .val (.ref b22), .val (.int ((31 : Int32) + (elemG ((p2 &&& (7 : Int32))).toNatClampNeg))), .unset] [(.int (1 : Int32)), (.int (1 : Int32))])
    refine Go.step (fun _ k => XS.icmpYes X24.here hx rfl (pc0 := 214) (pc' := 230) rfl (hb hby at_214) rfl (flt (by decide : ¬ ((1 : Int32) < (1 : Int32)))).2.2.2 (by decide) (by decide) k) ?_
    show Go _ _ _ _ _ _ _ T24 (mkF m 230 #[.val (.int p0), .val (.int p1), .val (.int p2), .val (.int p3), .val (.int p4), .val (.int (1 : Int32)), .val (.int K), .val (.ref b2), .val (.ref b11), .val (.int (p2 &&& (7 : Int32))), .val (.int (p3 &&& (7 : Int32))), .val (.int (p4 &&& (7 : Int32))), .val (.ref b20), .val (.ref b22), .val (.int ((31 : Int32) + (elemG ((p2 &&& (7 : Int32))).toNatClampNeg))), .unset] [])
    refine Go.step (fun _ k => XS.iload X24.here hx rfl (hb hby at_230) rfl k) ?_
    show Go _ _ _ _ _ _ _ T24 (mkF m 232 #[.val (.int p0), .val (.int p1), .val (.int p2), .val (.int p3), .val (.int p4), .val (.int (1 : Int32)), .val (.int K), .val (.ref b2), .val (.ref b11), .val (.int (p2 &&& (7 : Int32))), .val (.int (p3 &&& (7 : Int32))), .val (.int (p4 &&& (7 : Int32))), .val (.ref b20), .val (.ref b22), .val (.int ((31 : Int32) + (elemG ((p2 &&& (7 : Int32))).toNatClampNeg))), .unset] [(.int (1 : Int32))])
    refine Go.step (fun _ k => XS.iconst X24.here hx rfl (hb hby at_232) k) ?_
    show Go _ _ _ _ _ _ _ T24 (mkF m 233 #[.val (.int p0), .val (.int p1), .val (.int p2), .val (.int p3), .val (.int p4), .val (.int (1 : Int32)), .val (.int K), .val (.ref b2), .val (.ref b11), .val (.int (p2 &&& (7 : Int32))), .val (.int (p3 &&& (7 : Int32))), .val (.int (p4 &&& (7 : Int32))), .val (.ref b20), .val (.ref b22), .val (.int ((31 : Int32) + (elemG ((p2 &&& (7 : Int32))).toNatClampNeg))), .unset] [(.int (2 : Int32)), (.int (1 : Int32))])
    refine Go.step (fun _ k => XS.icmpYes X24.here hx rfl (pc0 := 233) (pc' := 249) rfl (hb hby at_233) rfl (flt (by decide : ¬ ((2 : Int32) < (1 : Int32)))).2.2.2 (by decide) (by decide) k) ?_
    show Go _ _ _ _ _ _ _ T24 (mkF m 249 #[.val (.int p0), .val (.int p1), .val (.int p2), .val (.int p3), .val (.int p4), .val (.int (1 : Int32)), .val (.int K), .val (.ref b2), .val (.ref b11), .val (.int (p2 &&& (7 : Int32))), .val (.int (p3 &&& (7 : Int32))), .val (.int (p4 &&& (7 : Int32))), .val (.ref b20), .val (.ref b22), .val (.int ((31 : Int32) + (elemG ((p2 &&& (7 : Int32))).toNatClampNeg))), .unset] [])
    refine Go.step (fun _ k => XS.bipush X24.here hx rfl (hb hby at_249) k) ?_
    show Go _ _ _ _ _ _ _ T24 (mkF m 251 #[.val (.int p0), .val (.int p1), .val (.int p2), .val (.int p3), .val (.int p4), .val (.int (1 : Int32)), .val (.int K), .val (.ref b2), .val (.ref b11), .val (.int (p2 &&& (7 : Int32))), .val (.int (p3 &&& (7 : Int32))), .val (.int (p4 &&& (7 : Int32))), .val (.ref b20), .val (.ref b22), .val (.int ((31 : Int32) + (elemG ((p2 &&& (7 : Int32))).toNatClampNeg))), .unset] [(.int (31 : Int32))])
    refine Go.step (fun _ k => XS.iload X24.here hx rfl (hb hby at_251) rfl k) ?_
    show Go _ _ _ _ _ _ _ T24 (mkF m 253 #[.val (.int p0), .val (.int p1), .val (.int p2), .val (.int p3), .val (.int p4), .val (.int (1 : Int32)), .val (.int K), .val (.ref b2), .val (.ref b11), .val (.int (p2 &&& (7 : Int32))), .val (.int (p3 &&& (7 : Int32))), .val (.int (p4 &&& (7 : Int32))), .val (.ref b20), .val (.ref b22), .val (.int ((31 : Int32) + (elemG ((p2 &&& (7 : Int32))).toNatClampNeg))), .unset] [(.int K), (.int (31 : Int32))])
    refine Go.step (fun _ k => XS.imul X24.here hx rfl (hb hby at_253) rfl k) ?_
    show Go _ _ _ _ _ _ _ T24 (mkF m 254 #[.val (.int p0), .val (.int p1), .val (.int p2), .val (.int p3), .val (.int p4), .val (.int (1 : Int32)), .val (.int K), .val (.ref b2), .val (.ref b11), .val (.int (p2 &&& (7 : Int32))), .val (.int (p3 &&& (7 : Int32))), .val (.int (p4 &&& (7 : Int32))), .val (.ref b20), .val (.ref b22), .val (.int ((31 : Int32) + (elemG ((p2 &&& (7 : Int32))).toNatClampNeg))), .unset] [(.int ((31 : Int32) * K))])
    refine Go.step (fun _ k => XS.iload X24.here hx rfl (hb hby at_254) rfl k) ?_
    show Go _ _ _ _ _ _ _ T24 (mkF m 256 #[.val (.int p0), .val (.int p1), .val (.int p2), .val (.int p3), .val (.int p4), .val (.int (1 : Int32)), .val (.int K), .val (.ref b2), .val (.ref b11), .val (.int (p2 &&& (7 : Int32))), .val (.int (p3 &&& (7 : Int32))), .val (.int (p4 &&& (7 : Int32))), .val (.ref b20), .val (.ref b22), .val (.int ((31 : Int32) + (elemG ((p2 &&& (7 : Int32))).toNatClampNeg))), .unset] [(.int ((31 : Int32) + (elemG ((p2 &&& (7 : Int32))).toNatClampNeg))), (.int ((31 : Int32) * K))])
    refine Go.step (fun _ k => XS.iadd X24.here hx rfl (hb hby at_256) rfl k) ?_
    show Go _ _ _ _ _ _ _ T24 (mkF m 257 #[.val (.int p0), .val (.int p1), .val (.int p2), .val (.int p3), .val (.int p4), .val (.int (1 : Int32)), .val (.int K), .val (.ref b2), .val (.ref b11), .val (.int (p2 &&& (7 : Int32))), .val (.int (p3 &&& (7 : Int32))), .val (.int (p4 &&& (7 : Int32))), .val (.ref b20), .val (.ref b22), .val (.int ((31 : Int32) + (elemG ((p2 &&& (7 : Int32))).toNatClampNeg))), .unset] [(.int (((31 : Int32) * K) + ((31 : Int32) + (elemG ((p2 &&& (7 : Int32))).toNatClampNeg))))])
    refine Go.step (fun _ k => XS.istore X24.here hx rfl (hb hby at_257) rfl (l' := #[.val (.int p0), .val (.int p1), .val (.int p2), .val (.int p3), .val (.int p4), .val (.int (1 : Int32)), .val (.int K), .val (.ref b2), .val (.ref b11), .val (.int (p2 &&& (7 : Int32))), .val (.int (p3 &&& (7 : Int32))), .val (.int (p4 &&& (7 : Int32))), .val (.ref b20), .val (.ref b22), .val (.int ((31 : Int32) + (elemG ((p2 &&& (7 : Int32))).toNatClampNeg))), .val (.int (((31 : Int32) * K) + ((31 : Int32) + (elemG ((p2 &&& (7 : Int32))).toNatClampNeg))))]) rfl k) ?_
    show Go _ _ _ _ _ _ _ T24 (mkF m 259 #[.val (.int p0), .val (.int p1), .val (.int p2), .val (.int p3), .val (.int p4), .val (.int (1 : Int32)), .val (.int K), .val (.ref b2), .val (.ref b11), .val (.int (p2 &&& (7 : Int32))), .val (.int (p3 &&& (7 : Int32))), .val (.int (p4 &&& (7 : Int32))), .val (.ref b20), .val (.ref b22), .val (.int ((31 : Int32) + (elemG ((p2 &&& (7 : Int32))).toNatClampNeg))), .val (.int (((31 : Int32) * K) + ((31 : Int32) + (elemG ((p2 &&& (7 : Int32))).toNatClampNeg))))] [])
    refine Go.step (fun _ k => XS.aload X24.here hx rfl (hb hby at_259) rfl rfl k) ?_
    show Go _ _ _ _ _ _ _ T24 (mkF m 261 #[.val (.int p0), .val (.int p1), .val (.int p2), .val (.int p3), .val (.int p4), .val (.int (1 : Int32)), .val (.int K), .val (.ref b2), .val (.ref b11), .val (.int (p2 &&& (7 : Int32))), .val (.int (p3 &&& (7 : Int32))), .val (.int (p4 &&& (7 : Int32))), .val (.ref b20), .val (.ref b22), .val (.int ((31 : Int32) + (elemG ((p2 &&& (7 : Int32))).toNatClampNeg))), .val (.int (((31 : Int32) * K) + ((31 : Int32) + (elemG ((p2 &&& (7 : Int32))).toNatClampNeg))))] [(.ref b22)])
    refine Go.callV X24 hx hZ (by rw [hml]; rfl) (y := (⟨"tidewatch/decision/KeyGroupCeiling", "hashCode", "()I"⟩ : MethodName)) (z := (⟨"tidewatch/decision/KeyGroupCeiling", "hashCode", "()I"⟩ : MethodName)) (a := b22) (argsL := []) (rest := []) hown (hw _ (List.mem_of_getElem? (i := 53) rfl)) (hw _ (List.mem_of_getElem? (i := 54) rfl)) (notFace_of_selects (args := #[]) (mvT hZ (hw _ (List.mem_of_getElem? (i := 56) rfl)))) (hw _ (List.mem_of_getElem? (i := 56) rfl)) (hw _ (List.mem_of_getElem? (i := 55) rfl)) (hw _ (List.mem_of_getElem? (i := 22) rfl)) (hw _ (List.mem_of_getElem? (i := 57) rfl)) (by decide) (rm6_1 l Z a0 hw b22 c23 K (updN (fun _ => (0 : UInt64)) 0 (valG ((p2 &&& (7 : Int32))).toNatClampNeg)) h24 n0 (Nat.le_trans Z0 (K24 : Keep h0 h24 []).1) Fk23_24 Fc23_24 Vc23_24 (fun i hi' => by rcases (by omega : i = 0) with rfl; exact hv0.2.1.noNaN)) e24 Ec23_24 (hb hby at_261) (lenOf pd_6 rfl) rfl rfl (W := 0) (Nat.le_of_eq rfl) (by decide) (by decide) (by decide) (by decide) ?_
    intro v25 T25 L25 X25 Q25
    obtain ⟨rfl, N25q, hh25⟩ := Q25
    have N25 := Fr.app N24 N25q
    show Go _ _ _ _ _ _ _ T25 (mkF m 264 #[.val (.int p0), .val (.int p1), .val (.int p2), .val (.int p3), .val (.int p4), .val (.int (1 : Int32)), .val (.int K), .val (.ref b2), .val (.ref b11), .val (.int (p2 &&& (7 : Int32))), .val (.int (p3 &&& (7 : Int32))), .val (.int (p4 &&& (7 : Int32))), .val (.ref b20), .val (.ref b22), .val (.int ((31 : Int32) + (elemG ((p2 &&& (7 : Int32))).toNatClampNeg))), .val (.int (((31 : Int32) * K) + ((31 : Int32) + (elemG ((p2 &&& (7 : Int32))).toNatClampNeg))))] [(.int (((31 : Int32) * K) + hashW 1 (updN (fun _ => (0 : UInt64)) 0 (valG ((p2 &&& (7 : Int32))).toNatClampNeg))))])
    refine Go.step (fun _ k => XS.iload X25.here hx rfl (hb hby at_264) rfl k) ?_
    show Go _ _ _ _ _ _ _ T25 (mkF m 266 #[.val (.int p0), .val (.int p1), .val (.int p2), .val (.int p3), .val (.int p4), .val (.int (1 : Int32)), .val (.int K), .val (.ref b2), .val (.ref b11), .val (.int (p2 &&& (7 : Int32))), .val (.int (p3 &&& (7 : Int32))), .val (.int (p4 &&& (7 : Int32))), .val (.ref b20), .val (.ref b22), .val (.int ((31 : Int32) + (elemG ((p2 &&& (7 : Int32))).toNatClampNeg))), .val (.int (((31 : Int32) * K) + ((31 : Int32) + (elemG ((p2 &&& (7 : Int32))).toNatClampNeg))))] [(.int (((31 : Int32) * K) + ((31 : Int32) + (elemG ((p2 &&& (7 : Int32))).toNatClampNeg)))), (.int (((31 : Int32) * K) + hashW 1 (updN (fun _ => (0 : UInt64)) 0 (valG ((p2 &&& (7 : Int32))).toNatClampNeg))))])
    refine Go.step (fun _ k => XS.icmpNo X25.here hx rfl (hb hby at_266) rfl (teq (own_h1 (valG ((p2 &&& (7 : Int32))).toNatClampNeg) (updN (fun _ => (0 : UInt64)) 0 (valG ((p2 &&& (7 : Int32))).toNatClampNeg)) hv0.1 rfl)).2 k) ?_
    show Go _ _ _ _ _ _ _ T25 (mkF m 269 #[.val (.int p0), .val (.int p1), .val (.int p2), .val (.int p3), .val (.int p4), .val (.int (1 : Int32)), .val (.int K), .val (.ref b2), .val (.ref b11), .val (.int (p2 &&& (7 : Int32))), .val (.int (p3 &&& (7 : Int32))), .val (.int (p4 &&& (7 : Int32))), .val (.ref b20), .val (.ref b22), .val (.int ((31 : Int32) + (elemG ((p2 &&& (7 : Int32))).toNatClampNeg))), .val (.int (((31 : Int32) * K) + ((31 : Int32) + (elemG ((p2 &&& (7 : Int32))).toNatClampNeg))))] [])
    refine Go.step (fun _ k => XS.iconst X25.here hx rfl (hb hby at_269) k) ?_
    show Go _ _ _ _ _ _ _ T25 (mkF m 270 #[.val (.int p0), .val (.int p1), .val (.int p2), .val (.int p3), .val (.int p4), .val (.int (1 : Int32)), .val (.int K), .val (.ref b2), .val (.ref b11), .val (.int (p2 &&& (7 : Int32))), .val (.int (p3 &&& (7 : Int32))), .val (.int (p4 &&& (7 : Int32))), .val (.ref b20), .val (.ref b22), .val (.int ((31 : Int32) + (elemG ((p2 &&& (7 : Int32))).toNatClampNeg))), .val (.int (((31 : Int32) * K) + ((31 : Int32) + (elemG ((p2 &&& (7 : Int32))).toNatClampNeg))))] [(.int (1 : Int32))])
    refine Go.step (fun _ k => XS.goto X25.here hx rfl (pc0 := 270) (pc' := 274) rfl (hb hby at_270) (by decide) (by decide) k) ?_
    show Go _ _ _ _ _ _ _ T25 (mkF m 274 #[.val (.int p0), .val (.int p1), .val (.int p2), .val (.int p3), .val (.int p4), .val (.int (1 : Int32)), .val (.int K), .val (.ref b2), .val (.ref b11), .val (.int (p2 &&& (7 : Int32))), .val (.int (p3 &&& (7 : Int32))), .val (.int (p4 &&& (7 : Int32))), .val (.ref b20), .val (.ref b22), .val (.int ((31 : Int32) + (elemG ((p2 &&& (7 : Int32))).toNatClampNeg))), .val (.int (((31 : Int32) * K) + ((31 : Int32) + (elemG ((p2 &&& (7 : Int32))).toNatClampNeg))))] [(.int (1 : Int32))])
    refine Go.retZ X25 hx hlk hret (by decide) (hb hby at_274) (by decide) (by decide) ?_
    try rw [hh25]
    exact ⟨rfl, N25⟩
  · show Go _ _ _ _ _ _ _ T0 (mkF m 10 #[.val (.int p0), .val (.int p1), .val (.int p2), .val (.int p3), .val (.int p4), .val (.int (2 : Int32)), .unset, .unset, .unset, .unset, .unset, .unset, .unset, .unset, .unset, .unset] [])
    refine Go.step (fun _ k => XS.iload X0.here hx rfl (hb hby at_10) rfl k) ?_
    show Go _ _ _ _ _ _ _ T0 (mkF m 12 #[.val (.int p0), .val (.int p1), .val (.int p2), .val (.int p3), .val (.int p4), .val (.int (2 : Int32)), .unset, .unset, .unset, .unset, .unset, .unset, .unset, .unset, .unset, .unset] [(.int (2 : Int32))])
    refine Go.step (fun _ k => XS.iloadN X0.here hx rfl (hb hby at_12) rfl k) ?_
    show Go _ _ _ _ _ _ _ T0 (mkF m 13 #[.val (.int p0), .val (.int p1), .val (.int p2), .val (.int p3), .val (.int p4), .val (.int (2 : Int32)), .unset, .unset, .unset, .unset, .unset, .unset, .unset, .unset, .unset, .unset] [(.int p0), (.int (2 : Int32))])
    refine Go.callS X0 hx hZ (by rw [hml]; rfl) (y := (⟨"java/lang/Math", "max", "(II)I"⟩ : MethodName)) (argsL := [(.int (2 : Int32)), (.int p0)]) (rest := []) hown (hw _ (List.mem_of_getElem? (i := 1) rfl)) (hw _ (List.mem_of_getElem? (i := 2) rfl)) (hw _ (List.mem_of_getElem? (i := 3) rfl)) (hw _ (List.mem_of_getElem? (i := 4) rfl)) (by decide) (rm1 l Z a0 hw (2 : Int32) p0 h0 n0 Z0) e0 (hb hby at_13) (lenOf pd_4 rfl) rfl rfl (W := 0) (Nat.le_of_eq rfl) (by decide) (by decide) (by decide) (by decide) ?_
    intro v26 T26 L26 X26 Q26
    obtain ⟨rfl, N26q, hh26⟩ := Q26
    have N26 := Fr.app N0 N26q
    show Go _ _ _ _ _ _ _ T26 (mkF m 16 #[.val (.int p0), .val (.int p1), .val (.int p2), .val (.int p3), .val (.int p4), .val (.int (2 : Int32)), .unset, .unset, .unset, .unset, .unset, .unset, .unset, .unset, .unset, .unset] [(.int (imaxW (2 : Int32) p0))])
    refine Go.step (fun _ k => XS.istore X26.here hx rfl (hb hby at_16) rfl (l' := #[.val (.int p0), .val (.int p1), .val (.int p2), .val (.int p3), .val (.int p4), .val (.int (2 : Int32)), .val (.int (imaxW (2 : Int32) p0)), .unset, .unset, .unset, .unset, .unset, .unset, .unset, .unset, .unset]) rfl k) ?_
    obtain ⟨K, h_K⟩ : ∃ z, z = (imaxW (2 : Int32) p0) := ⟨_, rfl⟩
    rw [← h_K]
    have hK := own_kk h_K
    show Go _ _ _ _ _ _ _ T26 (mkF m 18 #[.val (.int p0), .val (.int p1), .val (.int p2), .val (.int p3), .val (.int p4), .val (.int (2 : Int32)), .val (.int K), .unset, .unset, .unset, .unset, .unset, .unset, .unset, .unset, .unset] [])
    refine Go.step (fun _ k => XS.bipush X26.here hx rfl (hb hby at_18) k) ?_
    show Go _ _ _ _ _ _ _ T26 (mkF m 20 #[.val (.int p0), .val (.int p1), .val (.int p2), .val (.int p3), .val (.int p4), .val (.int (2 : Int32)), .val (.int K), .unset, .unset, .unset, .unset, .unset, .unset, .unset, .unset, .unset] [(.int (8 : Int32))])
    obtain ⟨T27, h27, k27, X27, e27, E27, A27, B27, st27⟩ := newPE X26 hx hZ (hw _ (List.mem_of_getElem? (i := 5) rfl)) hh26 (g := (mkF m 20 #[.val (.int p0), .val (.int p1), .val (.int p2), .val (.int p3), .val (.int p4), .val (.int (2 : Int32)), .val (.int K), .unset, .unset, .unset, .unset, .unset, .unset, .unset, .unset, .unset] [(.int (8 : Int32))])) rfl (hb hby at_20) rfl (by decide) (cap := 8) (by decide) (by decide) (by decide) (by decide) (ad := "[D") (by decide)
    obtain ⟨b27, g27⟩ : ∃ z, z = h0.size := ⟨_, rfl⟩
    rw [← g27] at A27 B27 st27
    refine Go.step st27 ?_
    have K27 : Keep h0 h27 [] := (Keep.refl h0 []).ext E27
    have sz_b27 : h0.size ≤ b27 := Nat.le_trans ((Keep.refl h0 []) : Keep h0 h0 []).1 (Nat.le_of_eq g27.symm)
    have ge_b27 : n0 ≤ b27 := Nat.le_trans Z0 sz_b27
    have V_b27 : Dv Z h27 b27 (8 : Int32) (fun _ => (0 : UInt64)) := Fv.new A27 (by decide)
    have E_b27 := B27
    show Go _ _ _ _ _ _ _ T27 (mkF m 22 #[.val (.int p0), .val (.int p1), .val (.int p2), .val (.int p3), .val (.int p4), .val (.int (2 : Int32)), .val (.int K), .unset, .unset, .unset, .unset, .unset, .unset, .unset, .unset, .unset] [(.ref b27)])
    refine Go.step (fun _ k => XS.dup X27.here hx rfl (hb hby at_22) rfl rfl k) ?_
    show Go _ _ _ _ _ _ _ T27 (mkF m 23 #[.val (.int p0), .val (.int p1), .val (.int p2), .val (.int p3), .val (.int p4), .val (.int (2 : Int32)), .val (.int K), .unset, .unset, .unset, .unset, .unset, .unset, .unset, .unset, .unset] [(.ref b27), (.ref b27)])
    refine Go.step (fun _ k => XS.iconst X27.here hx rfl (hb hby at_23) k) ?_
    show Go _ _ _ _ _ _ _ T27 (mkF m 24 #[.val (.int p0), .val (.int p1), .val (.int p2), .val (.int p3), .val (.int p4), .val (.int (2 : Int32)), .val (.int K), .unset, .unset, .unset, .unset, .unset, .unset, .unset, .unset, .unset] [(.int (0 : Int32)), (.ref b27), (.ref b27)])
    refine Go.step (fun _ k => XS.dconst0 X27.here hx rfl (hb hby at_24) rfl k) ?_
    show Go _ _ _ _ _ _ _ T27 (mkF m 25 #[.val (.int p0), .val (.int p1), .val (.int p2), .val (.int p3), .val (.int p4), .val (.int (2 : Int32)), .val (.int K), .unset, .unset, .unset, .unset, .unset, .unset, .unset, .unset, .unset] [(.double (0 : UInt64)), (.int (0 : Int32)), (.ref b27), (.ref b27)])
    refine Go.dastore X27 hx hZ e27 V_b27 (j := (0 : Int32)) (x := (0 : UInt64)) (by decide) (hb hby at_25) ?_
    intro T28 h28 X28 e28 W28 Vn28
    have V_b27_28 : Dv Z h28 b27 (8 : Int32) (updN (fun _ => (0 : UInt64)) 0 (0 : UInt64)) := Vn28
    have N28 := Fr.snoc X28 N26 ge_b27
    have E_b27_28 := E_b27.wr W28
    have K28 : Keep h0 h28 [] := K27.wr W28 (Or.inr sz_b27)
    show Go _ _ _ _ _ _ _ T28 (mkF m 26 #[.val (.int p0), .val (.int p1), .val (.int p2), .val (.int p3), .val (.int p4), .val (.int (2 : Int32)), .val (.int K), .unset, .unset, .unset, .unset, .unset, .unset, .unset, .unset, .unset] [(.ref b27)])
    refine Go.step (fun _ k => XS.dup X28.here hx rfl (hb hby at_26) rfl rfl k) ?_
    show Go _ _ _ _ _ _ _ T28 (mkF m 27 #[.val (.int p0), .val (.int p1), .val (.int p2), .val (.int p3), .val (.int p4), .val (.int (2 : Int32)), .val (.int K), .unset, .unset, .unset, .unset, .unset, .unset, .unset, .unset, .unset] [(.ref b27), (.ref b27)])
    refine Go.step (fun _ k => XS.iconst X28.here hx rfl (hb hby at_27) k) ?_
    show Go _ _ _ _ _ _ _ T28 (mkF m 28 #[.val (.int p0), .val (.int p1), .val (.int p2), .val (.int p3), .val (.int p4), .val (.int (2 : Int32)), .val (.int K), .unset, .unset, .unset, .unset, .unset, .unset, .unset, .unset, .unset] [(.int (1 : Int32)), (.ref b27), (.ref b27)])
    refine Go.step (X28.ldc2DoubleC hx hown (mvT hZ (hw _ (List.mem_of_getElem? (i := 6) rfl))) (g := (mkF m 28 #[.val (.int p0), .val (.int p1), .val (.int p2), .val (.int p3), .val (.int p4), .val (.int (2 : Int32)), .val (.int K), .unset, .unset, .unset, .unset, .unset, .unset, .unset, .unset, .unset] [(.int (1 : Int32)), (.ref b27), (.ref b27)])) rfl (hb hby at_28)) ?_
    show Go _ _ _ _ _ _ _ T28 (mkF m 31 #[.val (.int p0), .val (.int p1), .val (.int p2), .val (.int p3), .val (.int p4), .val (.int (2 : Int32)), .val (.int K), .unset, .unset, .unset, .unset, .unset, .unset, .unset, .unset, .unset] [(.double (9223372036854775808 : UInt64)), (.int (1 : Int32)), (.ref b27), (.ref b27)])
    refine Go.dastore X28 hx hZ e28 V_b27_28 (j := (1 : Int32)) (x := (9223372036854775808 : UInt64)) (by decide) (hb hby at_31) ?_
    intro T29 h29 X29 e29 W29 Vn29
    have V_b27_29 : Dv Z h29 b27 (8 : Int32) (updN (updN (fun _ => (0 : UInt64)) 0 (0 : UInt64)) 1 (9223372036854775808 : UInt64)) := Vn29
    have N29 := Fr.snoc X29 N28 ge_b27
    have E_b27_29 := E_b27_28.wr W29
    have K29 : Keep h0 h29 [] := K28.wr W29 (Or.inr sz_b27)
    show Go _ _ _ _ _ _ _ T29 (mkF m 32 #[.val (.int p0), .val (.int p1), .val (.int p2), .val (.int p3), .val (.int p4), .val (.int (2 : Int32)), .val (.int K), .unset, .unset, .unset, .unset, .unset, .unset, .unset, .unset, .unset] [(.ref b27)])
    refine Go.step (fun _ k => XS.dup X29.here hx rfl (hb hby at_32) rfl rfl k) ?_
    show Go _ _ _ _ _ _ _ T29 (mkF m 33 #[.val (.int p0), .val (.int p1), .val (.int p2), .val (.int p3), .val (.int p4), .val (.int (2 : Int32)), .val (.int K), .unset, .unset, .unset, .unset, .unset, .unset, .unset, .unset, .unset] [(.ref b27), (.ref b27)])
    refine Go.step (fun _ k => XS.iconst X29.here hx rfl (hb hby at_33) k) ?_
    show Go _ _ _ _ _ _ _ T29 (mkF m 34 #[.val (.int p0), .val (.int p1), .val (.int p2), .val (.int p3), .val (.int p4), .val (.int (2 : Int32)), .val (.int K), .unset, .unset, .unset, .unset, .unset, .unset, .unset, .unset, .unset] [(.int (2 : Int32)), (.ref b27), (.ref b27)])
    refine Go.step (X29.ldc2DoubleC hx hown (mvT hZ (hw _ (List.mem_of_getElem? (i := 7) rfl))) (g := (mkF m 34 #[.val (.int p0), .val (.int p1), .val (.int p2), .val (.int p3), .val (.int p4), .val (.int (2 : Int32)), .val (.int K), .unset, .unset, .unset, .unset, .unset, .unset, .unset, .unset, .unset] [(.int (2 : Int32)), (.ref b27), (.ref b27)])) rfl (hb hby at_34)) ?_
    show Go _ _ _ _ _ _ _ T29 (mkF m 37 #[.val (.int p0), .val (.int p1), .val (.int p2), .val (.int p3), .val (.int p4), .val (.int (2 : Int32)), .val (.int K), .unset, .unset, .unset, .unset, .unset, .unset, .unset, .unset, .unset] [(.double (4602678819172646912 : UInt64)), (.int (2 : Int32)), (.ref b27), (.ref b27)])
    refine Go.dastore X29 hx hZ e29 V_b27_29 (j := (2 : Int32)) (x := (4602678819172646912 : UInt64)) (by decide) (hb hby at_37) ?_
    intro T30 h30 X30 e30 W30 Vn30
    have V_b27_30 : Dv Z h30 b27 (8 : Int32) (updN (updN (updN (fun _ => (0 : UInt64)) 0 (0 : UInt64)) 1 (9223372036854775808 : UInt64)) 2 (4602678819172646912 : UInt64)) := Vn30
    have N30 := Fr.snoc X30 N29 ge_b27
    have E_b27_30 := E_b27_29.wr W30
    have K30 : Keep h0 h30 [] := K29.wr W30 (Or.inr sz_b27)
    show Go _ _ _ _ _ _ _ T30 (mkF m 38 #[.val (.int p0), .val (.int p1), .val (.int p2), .val (.int p3), .val (.int p4), .val (.int (2 : Int32)), .val (.int K), .unset, .unset, .unset, .unset, .unset, .unset, .unset, .unset, .unset] [(.ref b27)])
    refine Go.step (fun _ k => XS.dup X30.here hx rfl (hb hby at_38) rfl rfl k) ?_
    show Go _ _ _ _ _ _ _ T30 (mkF m 39 #[.val (.int p0), .val (.int p1), .val (.int p2), .val (.int p3), .val (.int p4), .val (.int (2 : Int32)), .val (.int K), .unset, .unset, .unset, .unset, .unset, .unset, .unset, .unset, .unset] [(.ref b27), (.ref b27)])
    refine Go.step (fun _ k => XS.iconst X30.here hx rfl (hb hby at_39) k) ?_
    show Go _ _ _ _ _ _ _ T30 (mkF m 40 #[.val (.int p0), .val (.int p1), .val (.int p2), .val (.int p3), .val (.int p4), .val (.int (2 : Int32)), .val (.int K), .unset, .unset, .unset, .unset, .unset, .unset, .unset, .unset, .unset] [(.int (3 : Int32)), (.ref b27), (.ref b27)])
    refine Go.step (fun _ k => XS.dconst1 X30.here hx rfl (hb hby at_40) rfl k) ?_
    show Go _ _ _ _ _ _ _ T30 (mkF m 41 #[.val (.int p0), .val (.int p1), .val (.int p2), .val (.int p3), .val (.int p4), .val (.int (2 : Int32)), .val (.int K), .unset, .unset, .unset, .unset, .unset, .unset, .unset, .unset, .unset] [(.double (4607182418800017408 : UInt64)), (.int (3 : Int32)), (.ref b27), (.ref b27)])
    refine Go.dastore X30 hx hZ e30 V_b27_30 (j := (3 : Int32)) (x := (4607182418800017408 : UInt64)) (by decide) (hb hby at_41) ?_
    intro T31 h31 X31 e31 W31 Vn31
    have V_b27_31 : Dv Z h31 b27 (8 : Int32) (updN (updN (updN (updN (fun _ => (0 : UInt64)) 0 (0 : UInt64)) 1 (9223372036854775808 : UInt64)) 2 (4602678819172646912 : UInt64)) 3 (4607182418800017408 : UInt64)) := Vn31
    have N31 := Fr.snoc X31 N30 ge_b27
    have E_b27_31 := E_b27_30.wr W31
    have K31 : Keep h0 h31 [] := K30.wr W31 (Or.inr sz_b27)
    show Go _ _ _ _ _ _ _ T31 (mkF m 42 #[.val (.int p0), .val (.int p1), .val (.int p2), .val (.int p3), .val (.int p4), .val (.int (2 : Int32)), .val (.int K), .unset, .unset, .unset, .unset, .unset, .unset, .unset, .unset, .unset] [(.ref b27)])
    refine Go.step (fun _ k => XS.dup X31.here hx rfl (hb hby at_42) rfl rfl k) ?_
    show Go _ _ _ _ _ _ _ T31 (mkF m 43 #[.val (.int p0), .val (.int p1), .val (.int p2), .val (.int p3), .val (.int p4), .val (.int (2 : Int32)), .val (.int K), .unset, .unset, .unset, .unset, .unset, .unset, .unset, .unset, .unset] [(.ref b27), (.ref b27)])
    refine Go.step (fun _ k => XS.iconst X31.here hx rfl (hb hby at_43) k) ?_
    show Go _ _ _ _ _ _ _ T31 (mkF m 44 #[.val (.int p0), .val (.int p1), .val (.int p2), .val (.int p3), .val (.int p4), .val (.int (2 : Int32)), .val (.int K), .unset, .unset, .unset, .unset, .unset, .unset, .unset, .unset, .unset] [(.int (4 : Int32)), (.ref b27), (.ref b27)])
    refine Go.step (X31.ldc2DoubleC hx hown (mvT hZ (hw _ (List.mem_of_getElem? (i := 8) rfl))) (g := (mkF m 44 #[.val (.int p0), .val (.int p1), .val (.int p2), .val (.int p3), .val (.int p4), .val (.int (2 : Int32)), .val (.int K), .unset, .unset, .unset, .unset, .unset, .unset, .unset, .unset, .unset] [(.int (4 : Int32)), (.ref b27), (.ref b27)])) rfl (hb hby at_44)) ?_
    show Go _ _ _ _ _ _ _ T31 (mkF m 47 #[.val (.int p0), .val (.int p1), .val (.int p2), .val (.int p3), .val (.int p4), .val (.int (2 : Int32)), .val (.int K), .unset, .unset, .unset, .unset, .unset, .unset, .unset, .unset, .unset] [(.double (4609434218613702656 : UInt64)), (.int (4 : Int32)), (.ref b27), (.ref b27)])
    refine Go.dastore X31 hx hZ e31 V_b27_31 (j := (4 : Int32)) (x := (4609434218613702656 : UInt64)) (by decide) (hb hby at_47) ?_
    intro T32 h32 X32 e32 W32 Vn32
    have V_b27_32 : Dv Z h32 b27 (8 : Int32) (updN (updN (updN (updN (updN (fun _ => (0 : UInt64)) 0 (0 : UInt64)) 1 (9223372036854775808 : UInt64)) 2 (4602678819172646912 : UInt64)) 3 (4607182418800017408 : UInt64)) 4 (4609434218613702656 : UInt64)) := Vn32
    have N32 := Fr.snoc X32 N31 ge_b27
    have E_b27_32 := E_b27_31.wr W32
    have K32 : Keep h0 h32 [] := K31.wr W32 (Or.inr sz_b27)
    show Go _ _ _ _ _ _ _ T32 (mkF m 48 #[.val (.int p0), .val (.int p1), .val (.int p2), .val (.int p3), .val (.int p4), .val (.int (2 : Int32)), .val (.int K), .unset, .unset, .unset, .unset, .unset, .unset, .unset, .unset, .unset] [(.ref b27)])
    refine Go.step (fun _ k => XS.dup X32.here hx rfl (hb hby at_48) rfl rfl k) ?_
    show Go _ _ _ _ _ _ _ T32 (mkF m 49 #[.val (.int p0), .val (.int p1), .val (.int p2), .val (.int p3), .val (.int p4), .val (.int (2 : Int32)), .val (.int K), .unset, .unset, .unset, .unset, .unset, .unset, .unset, .unset, .unset] [(.ref b27), (.ref b27)])
    refine Go.step (fun _ k => XS.iconst X32.here hx rfl (hb hby at_49) k) ?_
    show Go _ _ _ _ _ _ _ T32 (mkF m 50 #[.val (.int p0), .val (.int p1), .val (.int p2), .val (.int p3), .val (.int p4), .val (.int (2 : Int32)), .val (.int K), .unset, .unset, .unset, .unset, .unset, .unset, .unset, .unset, .unset] [(.int (5 : Int32)), (.ref b27), (.ref b27)])
    refine Go.step (X32.ldc2DoubleC hx hown (mvT hZ (hw _ (List.mem_of_getElem? (i := 9) rfl))) (g := (mkF m 50 #[.val (.int p0), .val (.int p1), .val (.int p2), .val (.int p3), .val (.int p4), .val (.int (2 : Int32)), .val (.int K), .unset, .unset, .unset, .unset, .unset, .unset, .unset, .unset, .unset] [(.int (5 : Int32)), (.ref b27), (.ref b27)])) rfl (hb hby at_50)) ?_
    show Go _ _ _ _ _ _ _ T32 (mkF m 53 #[.val (.int p0), .val (.int p1), .val (.int p2), .val (.int p3), .val (.int p4), .val (.int (2 : Int32)), .val (.int K), .unset, .unset, .unset, .unset, .unset, .unset, .unset, .unset, .unset] [(.double (4611686018427387904 : UInt64)), (.int (5 : Int32)), (.ref b27), (.ref b27)])
    refine Go.dastore X32 hx hZ e32 V_b27_32 (j := (5 : Int32)) (x := (4611686018427387904 : UInt64)) (by decide) (hb hby at_53) ?_
    intro T33 h33 X33 e33 W33 Vn33
    have V_b27_33 : Dv Z h33 b27 (8 : Int32) (updN (updN (updN (updN (updN (updN (fun _ => (0 : UInt64)) 0 (0 : UInt64)) 1 (9223372036854775808 : UInt64)) 2 (4602678819172646912 : UInt64)) 3 (4607182418800017408 : UInt64)) 4 (4609434218613702656 : UInt64)) 5 (4611686018427387904 : UInt64)) := Vn33
    have N33 := Fr.snoc X33 N32 ge_b27
    have E_b27_33 := E_b27_32.wr W33
    have K33 : Keep h0 h33 [] := K32.wr W33 (Or.inr sz_b27)
    show Go _ _ _ _ _ _ _ T33 (mkF m 54 #[.val (.int p0), .val (.int p1), .val (.int p2), .val (.int p3), .val (.int p4), .val (.int (2 : Int32)), .val (.int K), .unset, .unset, .unset, .unset, .unset, .unset, .unset, .unset, .unset] [(.ref b27)])
    refine Go.step (fun _ k => XS.dup X33.here hx rfl (hb hby at_54) rfl rfl k) ?_
    show Go _ _ _ _ _ _ _ T33 (mkF m 55 #[.val (.int p0), .val (.int p1), .val (.int p2), .val (.int p3), .val (.int p4), .val (.int (2 : Int32)), .val (.int K), .unset, .unset, .unset, .unset, .unset, .unset, .unset, .unset, .unset] [(.ref b27), (.ref b27)])
    refine Go.step (fun _ k => XS.bipush X33.here hx rfl (hb hby at_55) k) ?_
    show Go _ _ _ _ _ _ _ T33 (mkF m 57 #[.val (.int p0), .val (.int p1), .val (.int p2), .val (.int p3), .val (.int p4), .val (.int (2 : Int32)), .val (.int K), .unset, .unset, .unset, .unset, .unset, .unset, .unset, .unset, .unset] [(.int (6 : Int32)), (.ref b27), (.ref b27)])
    refine Go.step (X33.ldc2DoubleC hx hown (mvT hZ (hw _ (List.mem_of_getElem? (i := 10) rfl))) (g := (mkF m 57 #[.val (.int p0), .val (.int p1), .val (.int p2), .val (.int p3), .val (.int p4), .val (.int (2 : Int32)), .val (.int K), .unset, .unset, .unset, .unset, .unset, .unset, .unset, .unset, .unset] [(.int (6 : Int32)), (.ref b27), (.ref b27)])) rfl (hb hby at_57)) ?_
    show Go _ _ _ _ _ _ _ T33 (mkF m 60 #[.val (.int p0), .val (.int p1), .val (.int p2), .val (.int p3), .val (.int p4), .val (.int (2 : Int32)), .val (.int K), .unset, .unset, .unset, .unset, .unset, .unset, .unset, .unset, .unset] [(.double (4613937818241073152 : UInt64)), (.int (6 : Int32)), (.ref b27), (.ref b27)])
    refine Go.dastore X33 hx hZ e33 V_b27_33 (j := (6 : Int32)) (x := (4613937818241073152 : UInt64)) (by decide) (hb hby at_60) ?_
    intro T34 h34 X34 e34 W34 Vn34
    have V_b27_34 : Dv Z h34 b27 (8 : Int32) (updN (updN (updN (updN (updN (updN (updN (fun _ => (0 : UInt64)) 0 (0 : UInt64)) 1 (9223372036854775808 : UInt64)) 2 (4602678819172646912 : UInt64)) 3 (4607182418800017408 : UInt64)) 4 (4609434218613702656 : UInt64)) 5 (4611686018427387904 : UInt64)) 6 (4613937818241073152 : UInt64)) := Vn34
    have N34 := Fr.snoc X34 N33 ge_b27
    have E_b27_34 := E_b27_33.wr W34
    have K34 : Keep h0 h34 [] := K33.wr W34 (Or.inr sz_b27)
    show Go _ _ _ _ _ _ _ T34 (mkF m 61 #[.val (.int p0), .val (.int p1), .val (.int p2), .val (.int p3), .val (.int p4), .val (.int (2 : Int32)), .val (.int K), .unset, .unset, .unset, .unset, .unset, .unset, .unset, .unset, .unset] [(.ref b27)])
    refine Go.step (fun _ k => XS.dup X34.here hx rfl (hb hby at_61) rfl rfl k) ?_
    show Go _ _ _ _ _ _ _ T34 (mkF m 62 #[.val (.int p0), .val (.int p1), .val (.int p2), .val (.int p3), .val (.int p4), .val (.int (2 : Int32)), .val (.int K), .unset, .unset, .unset, .unset, .unset, .unset, .unset, .unset, .unset] [(.ref b27), (.ref b27)])
    refine Go.step (fun _ k => XS.bipush X34.here hx rfl (hb hby at_62) k) ?_
    show Go _ _ _ _ _ _ _ T34 (mkF m 64 #[.val (.int p0), .val (.int p1), .val (.int p2), .val (.int p3), .val (.int p4), .val (.int (2 : Int32)), .val (.int K), .unset, .unset, .unset, .unset, .unset, .unset, .unset, .unset, .unset] [(.int (7 : Int32)), (.ref b27), (.ref b27)])
    refine Go.step (X34.ldc2DoubleC hx hown (mvT hZ (hw _ (List.mem_of_getElem? (i := 11) rfl))) (g := (mkF m 64 #[.val (.int p0), .val (.int p1), .val (.int p2), .val (.int p3), .val (.int p4), .val (.int (2 : Int32)), .val (.int K), .unset, .unset, .unset, .unset, .unset, .unset, .unset, .unset, .unset] [(.int (7 : Int32)), (.ref b27), (.ref b27)])) rfl (hb hby at_64)) ?_
    show Go _ _ _ _ _ _ _ T34 (mkF m 67 #[.val (.int p0), .val (.int p1), .val (.int p2), .val (.int p3), .val (.int p4), .val (.int (2 : Int32)), .val (.int K), .unset, .unset, .unset, .unset, .unset, .unset, .unset, .unset, .unset] [(.double (4591870180066957722 : UInt64)), (.int (7 : Int32)), (.ref b27), (.ref b27)])
    refine Go.dastore X34 hx hZ e34 V_b27_34 (j := (7 : Int32)) (x := (4591870180066957722 : UInt64)) (by decide) (hb hby at_67) ?_
    intro T35 h35 X35 e35 W35 Vn35
    have V_b27_35 : Dv Z h35 b27 (8 : Int32) (updN (updN (updN (updN (updN (updN (updN (updN (fun _ => (0 : UInt64)) 0 (0 : UInt64)) 1 (9223372036854775808 : UInt64)) 2 (4602678819172646912 : UInt64)) 3 (4607182418800017408 : UInt64)) 4 (4609434218613702656 : UInt64)) 5 (4611686018427387904 : UInt64)) 6 (4613937818241073152 : UInt64)) 7 (4591870180066957722 : UInt64)) := Vn35
    have N35 := Fr.snoc X35 N34 ge_b27
    have E_b27_35 := E_b27_34.wr W35
    have K35 : Keep h0 h35 [] := K34.wr W35 (Or.inr sz_b27)
    show Go _ _ _ _ _ _ _ T35 (mkF m 68 #[.val (.int p0), .val (.int p1), .val (.int p2), .val (.int p3), .val (.int p4), .val (.int (2 : Int32)), .val (.int K), .unset, .unset, .unset, .unset, .unset, .unset, .unset, .unset, .unset] [(.ref b27)])
    refine Go.step (fun _ k => XS.astore X35.here hx rfl (hb hby at_68) rfl rfl (l' := #[.val (.int p0), .val (.int p1), .val (.int p2), .val (.int p3), .val (.int p4), .val (.int (2 : Int32)), .val (.int K), .val (.ref b27), .unset, .unset, .unset, .unset, .unset, .unset, .unset, .unset]) rfl k) ?_
    show Go _ _ _ _ _ _ _ T35 (mkF m 70 #[.val (.int p0), .val (.int p1), .val (.int p2), .val (.int p3), .val (.int p4), .val (.int (2 : Int32)), .val (.int K), .val (.ref b27), .unset, .unset, .unset, .unset, .unset, .unset, .unset, .unset] [])
    refine Go.step (fun _ k => XS.bipush X35.here hx rfl (hb hby at_70) k) ?_
    show Go _ _ _ _ _ _ _ T35 (mkF m 72 #[.val (.int p0), .val (.int p1), .val (.int p2), .val (.int p3), .val (.int p4), .val (.int (2 : Int32)), .val (.int K), .val (.ref b27), .unset, .unset, .unset, .unset, .unset, .unset, .unset, .unset] [(.int (8 : Int32))])
    obtain ⟨T36, h36, k36, X36, e36, E36, A36, B36, st36⟩ := newPE X35 hx hZ (hw _ (List.mem_of_getElem? (i := 12) rfl)) e35 (g := (mkF m 72 #[.val (.int p0), .val (.int p1), .val (.int p2), .val (.int p3), .val (.int p4), .val (.int (2 : Int32)), .val (.int K), .val (.ref b27), .unset, .unset, .unset, .unset, .unset, .unset, .unset, .unset] [(.int (8 : Int32))])) rfl (hb hby at_72) rfl (by decide) (cap := 8) (by decide) (by decide) (by decide) (by decide) (ad := "[I") (by decide)
    obtain ⟨b36, g36⟩ : ∃ z, z = h35.size := ⟨_, rfl⟩
    rw [← g36] at A36 B36 st36
    refine Go.step st36 ?_
    have K36 : Keep h0 h36 [] := K35.ext E36
    have sz_b36 : h0.size ≤ b36 := Nat.le_trans (K35 : Keep h0 h35 []).1 (Nat.le_of_eq g36.symm)
    have ge_b36 : n0 ≤ b36 := Nat.le_trans Z0 sz_b36
    have ne_b27_b36 : b27 ≠ b36 := Nat.ne_of_lt (Nat.lt_of_lt_of_le V_b27_35.lt (Nat.le_of_eq g36.symm))
    have V_b27_36 := V_b27_35.ext E36
    have E_b27_36 := E_b27_35.ext E36
    have V_b36 : Iv Z h36 b36 (8 : Int32) (fun _ => (0 : Int32)) := Fv.new A36 (by decide)
    have E_b36 := B36
    show Go _ _ _ _ _ _ _ T36 (mkF m 74 #[.val (.int p0), .val (.int p1), .val (.int p2), .val (.int p3), .val (.int p4), .val (.int (2 : Int32)), .val (.int K), .val (.ref b27), .unset, .unset, .unset, .unset, .unset, .unset, .unset, .unset] [(.ref b36)])
    refine Go.step (fun _ k => XS.dup X36.here hx rfl (hb hby at_74) rfl rfl k) ?_
    show Go _ _ _ _ _ _ _ T36 (mkF m 75 #[.val (.int p0), .val (.int p1), .val (.int p2), .val (.int p3), .val (.int p4), .val (.int (2 : Int32)), .val (.int K), .val (.ref b27), .unset, .unset, .unset, .unset, .unset, .unset, .unset, .unset] [(.ref b36), (.ref b36)])
    refine Go.step (fun _ k => XS.iconst X36.here hx rfl (hb hby at_75) k) ?_
    show Go _ _ _ _ _ _ _ T36 (mkF m 76 #[.val (.int p0), .val (.int p1), .val (.int p2), .val (.int p3), .val (.int p4), .val (.int (2 : Int32)), .val (.int K), .val (.ref b27), .unset, .unset, .unset, .unset, .unset, .unset, .unset, .unset] [(.int (0 : Int32)), (.ref b36), (.ref b36)])
    refine Go.step (fun _ k => XS.iconst X36.here hx rfl (hb hby at_76) k) ?_
    show Go _ _ _ _ _ _ _ T36 (mkF m 77 #[.val (.int p0), .val (.int p1), .val (.int p2), .val (.int p3), .val (.int p4), .val (.int (2 : Int32)), .val (.int K), .val (.ref b27), .unset, .unset, .unset, .unset, .unset, .unset, .unset, .unset] [(.int (0 : Int32)), (.int (0 : Int32)), (.ref b36), (.ref b36)])
    refine Go.iastore X36 hx hZ e36 V_b36 (j := (0 : Int32)) (x := (0 : Int32)) (by decide) (hb hby at_77) ?_
    intro T37 h37 X37 e37 W37 Vn37
    have V_b36_37 : Iv Z h37 b36 (8 : Int32) (updN (fun _ => (0 : Int32)) 0 (0 : Int32)) := Vn37
    have N37 := Fr.snoc X37 N35 ge_b36
    have V_b27_37 := V_b27_36.other W37 ne_b27_b36
    have E_b27_37 := E_b27_36.wr W37
    have E_b36_37 := E_b36.wr W37
    have K37 : Keep h0 h37 [] := K36.wr W37 (Or.inr sz_b36)
    show Go _ _ _ _ _ _ _ T37 (mkF m 78 #[.val (.int p0), .val (.int p1), .val (.int p2), .val (.int p3), .val (.int p4), .val (.int (2 : Int32)), .val (.int K), .val (.ref b27), .unset, .unset, .unset, .unset, .unset, .unset, .unset, .unset] [(.ref b36)])
    refine Go.step (fun _ k => XS.dup X37.here hx rfl (hb hby at_78) rfl rfl k) ?_
    show Go _ _ _ _ _ _ _ T37 (mkF m 79 #[.val (.int p0), .val (.int p1), .val (.int p2), .val (.int p3), .val (.int p4), .val (.int (2 : Int32)), .val (.int K), .val (.ref b27), .unset, .unset, .unset, .unset, .unset, .unset, .unset, .unset] [(.ref b36), (.ref b36)])
    refine Go.step (fun _ k => XS.iconst X37.here hx rfl (hb hby at_79) k) ?_
    show Go _ _ _ _ _ _ _ T37 (mkF m 80 #[.val (.int p0), .val (.int p1), .val (.int p2), .val (.int p3), .val (.int p4), .val (.int (2 : Int32)), .val (.int K), .val (.ref b27), .unset, .unset, .unset, .unset, .unset, .unset, .unset, .unset] [(.int (1 : Int32)), (.ref b36), (.ref b36)])
    refine Go.step (X37.ldcInt hx hown (mvT hZ (hw _ (List.mem_of_getElem? (i := 13) rfl))) (g := (mkF m 80 #[.val (.int p0), .val (.int p1), .val (.int p2), .val (.int p3), .val (.int p4), .val (.int (2 : Int32)), .val (.int K), .val (.ref b27), .unset, .unset, .unset, .unset, .unset, .unset, .unset, .unset] [(.int (1 : Int32)), (.ref b36), (.ref b36)])) rfl (hb hby at_80)) ?_
    show Go _ _ _ _ _ _ _ T37 (mkF m 82 #[.val (.int p0), .val (.int p1), .val (.int p2), .val (.int p3), .val (.int p4), .val (.int (2 : Int32)), .val (.int K), .val (.ref b27), .unset, .unset, .unset, .unset, .unset, .unset, .unset, .unset] [(.int (-2147483648 : Int32)), (.int (1 : Int32)), (.ref b36), (.ref b36)])
    refine Go.iastore X37 hx hZ e37 V_b36_37 (j := (1 : Int32)) (x := (-2147483648 : Int32)) (by decide) (hb hby at_82) ?_
    intro T38 h38 X38 e38 W38 Vn38
    have V_b36_38 : Iv Z h38 b36 (8 : Int32) (updN (updN (fun _ => (0 : Int32)) 0 (0 : Int32)) 1 (-2147483648 : Int32)) := Vn38
    have N38 := Fr.snoc X38 N37 ge_b36
    have V_b27_38 := V_b27_37.other W38 ne_b27_b36
    have E_b27_38 := E_b27_37.wr W38
    have E_b36_38 := E_b36_37.wr W38
    have K38 : Keep h0 h38 [] := K37.wr W38 (Or.inr sz_b36)
    show Go _ _ _ _ _ _ _ T38 (mkF m 83 #[.val (.int p0), .val (.int p1), .val (.int p2), .val (.int p3), .val (.int p4), .val (.int (2 : Int32)), .val (.int K), .val (.ref b27), .unset, .unset, .unset, .unset, .unset, .unset, .unset, .unset] [(.ref b36)])
    refine Go.step (fun _ k => XS.dup X38.here hx rfl (hb hby at_83) rfl rfl k) ?_
    show Go _ _ _ _ _ _ _ T38 (mkF m 84 #[.val (.int p0), .val (.int p1), .val (.int p2), .val (.int p3), .val (.int p4), .val (.int (2 : Int32)), .val (.int K), .val (.ref b27), .unset, .unset, .unset, .unset, .unset, .unset, .unset, .unset] [(.ref b36), (.ref b36)])
    refine Go.step (fun _ k => XS.iconst X38.here hx rfl (hb hby at_84) k) ?_
    show Go _ _ _ _ _ _ _ T38 (mkF m 85 #[.val (.int p0), .val (.int p1), .val (.int p2), .val (.int p3), .val (.int p4), .val (.int (2 : Int32)), .val (.int K), .val (.ref b27), .unset, .unset, .unset, .unset, .unset, .unset, .unset, .unset] [(.int (2 : Int32)), (.ref b36), (.ref b36)])
    refine Go.step (X38.ldcInt hx hown (mvT hZ (hw _ (List.mem_of_getElem? (i := 14) rfl))) (g := (mkF m 85 #[.val (.int p0), .val (.int p1), .val (.int p2), .val (.int p3), .val (.int p4), .val (.int (2 : Int32)), .val (.int K), .val (.ref b27), .unset, .unset, .unset, .unset, .unset, .unset, .unset, .unset] [(.int (2 : Int32)), (.ref b36), (.ref b36)])) rfl (hb hby at_85)) ?_
    show Go _ _ _ _ _ _ _ T38 (mkF m 87 #[.val (.int p0), .val (.int p1), .val (.int p2), .val (.int p3), .val (.int p4), .val (.int (2 : Int32)), .val (.int K), .val (.ref b27), .unset, .unset, .unset, .unset, .unset, .unset, .unset, .unset] [(.int (1071644672 : Int32)), (.int (2 : Int32)), (.ref b36), (.ref b36)])
    refine Go.iastore X38 hx hZ e38 V_b36_38 (j := (2 : Int32)) (x := (1071644672 : Int32)) (by decide) (hb hby at_87) ?_
    intro T39 h39 X39 e39 W39 Vn39
    have V_b36_39 : Iv Z h39 b36 (8 : Int32) (updN (updN (updN (fun _ => (0 : Int32)) 0 (0 : Int32)) 1 (-2147483648 : Int32)) 2 (1071644672 : Int32)) := Vn39
    have N39 := Fr.snoc X39 N38 ge_b36
    have V_b27_39 := V_b27_38.other W39 ne_b27_b36
    have E_b27_39 := E_b27_38.wr W39
    have E_b36_39 := E_b36_38.wr W39
    have K39 : Keep h0 h39 [] := K38.wr W39 (Or.inr sz_b36)
    show Go _ _ _ _ _ _ _ T39 (mkF m 88 #[.val (.int p0), .val (.int p1), .val (.int p2), .val (.int p3), .val (.int p4), .val (.int (2 : Int32)), .val (.int K), .val (.ref b27), .unset, .unset, .unset, .unset, .unset, .unset, .unset, .unset] [(.ref b36)])
    refine Go.step (fun _ k => XS.dup X39.here hx rfl (hb hby at_88) rfl rfl k) ?_
    show Go _ _ _ _ _ _ _ T39 (mkF m 89 #[.val (.int p0), .val (.int p1), .val (.int p2), .val (.int p3), .val (.int p4), .val (.int (2 : Int32)), .val (.int K), .val (.ref b27), .unset, .unset, .unset, .unset, .unset, .unset, .unset, .unset] [(.ref b36), (.ref b36)])
    refine Go.step (fun _ k => XS.iconst X39.here hx rfl (hb hby at_89) k) ?_
    show Go _ _ _ _ _ _ _ T39 (mkF m 90 #[.val (.int p0), .val (.int p1), .val (.int p2), .val (.int p3), .val (.int p4), .val (.int (2 : Int32)), .val (.int K), .val (.ref b27), .unset, .unset, .unset, .unset, .unset, .unset, .unset, .unset] [(.int (3 : Int32)), (.ref b36), (.ref b36)])
    refine Go.step (X39.ldcInt hx hown (mvT hZ (hw _ (List.mem_of_getElem? (i := 15) rfl))) (g := (mkF m 90 #[.val (.int p0), .val (.int p1), .val (.int p2), .val (.int p3), .val (.int p4), .val (.int (2 : Int32)), .val (.int K), .val (.ref b27), .unset, .unset, .unset, .unset, .unset, .unset, .unset, .unset] [(.int (3 : Int32)), (.ref b36), (.ref b36)])) rfl (hb hby at_90)) ?_
    show Go _ _ _ _ _ _ _ T39 (mkF m 92 #[.val (.int p0), .val (.int p1), .val (.int p2), .val (.int p3), .val (.int p4), .val (.int (2 : Int32)), .val (.int K), .val (.ref b27), .unset, .unset, .unset, .unset, .unset, .unset, .unset, .unset] [(.int (1072693248 : Int32)), (.int (3 : Int32)), (.ref b36), (.ref b36)])
    refine Go.iastore X39 hx hZ e39 V_b36_39 (j := (3 : Int32)) (x := (1072693248 : Int32)) (by decide) (hb hby at_92) ?_
    intro T40 h40 X40 e40 W40 Vn40
    have V_b36_40 : Iv Z h40 b36 (8 : Int32) (updN (updN (updN (updN (fun _ => (0 : Int32)) 0 (0 : Int32)) 1 (-2147483648 : Int32)) 2 (1071644672 : Int32)) 3 (1072693248 : Int32)) := Vn40
    have N40 := Fr.snoc X40 N39 ge_b36
    have V_b27_40 := V_b27_39.other W40 ne_b27_b36
    have E_b27_40 := E_b27_39.wr W40
    have E_b36_40 := E_b36_39.wr W40
    have K40 : Keep h0 h40 [] := K39.wr W40 (Or.inr sz_b36)
    show Go _ _ _ _ _ _ _ T40 (mkF m 93 #[.val (.int p0), .val (.int p1), .val (.int p2), .val (.int p3), .val (.int p4), .val (.int (2 : Int32)), .val (.int K), .val (.ref b27), .unset, .unset, .unset, .unset, .unset, .unset, .unset, .unset] [(.ref b36)])
    refine Go.step (fun _ k => XS.dup X40.here hx rfl (hb hby at_93) rfl rfl k) ?_
    show Go _ _ _ _ _ _ _ T40 (mkF m 94 #[.val (.int p0), .val (.int p1), .val (.int p2), .val (.int p3), .val (.int p4), .val (.int (2 : Int32)), .val (.int K), .val (.ref b27), .unset, .unset, .unset, .unset, .unset, .unset, .unset, .unset] [(.ref b36), (.ref b36)])
    refine Go.step (fun _ k => XS.iconst X40.here hx rfl (hb hby at_94) k) ?_
    show Go _ _ _ _ _ _ _ T40 (mkF m 95 #[.val (.int p0), .val (.int p1), .val (.int p2), .val (.int p3), .val (.int p4), .val (.int (2 : Int32)), .val (.int K), .val (.ref b27), .unset, .unset, .unset, .unset, .unset, .unset, .unset, .unset] [(.int (4 : Int32)), (.ref b36), (.ref b36)])
    refine Go.step (X40.ldcInt hx hown (mvT hZ (hw _ (List.mem_of_getElem? (i := 16) rfl))) (g := (mkF m 95 #[.val (.int p0), .val (.int p1), .val (.int p2), .val (.int p3), .val (.int p4), .val (.int (2 : Int32)), .val (.int K), .val (.ref b27), .unset, .unset, .unset, .unset, .unset, .unset, .unset, .unset] [(.int (4 : Int32)), (.ref b36), (.ref b36)])) rfl (hb hby at_95)) ?_
    show Go _ _ _ _ _ _ _ T40 (mkF m 97 #[.val (.int p0), .val (.int p1), .val (.int p2), .val (.int p3), .val (.int p4), .val (.int (2 : Int32)), .val (.int K), .val (.ref b27), .unset, .unset, .unset, .unset, .unset, .unset, .unset, .unset] [(.int (1073217536 : Int32)), (.int (4 : Int32)), (.ref b36), (.ref b36)])
    refine Go.iastore X40 hx hZ e40 V_b36_40 (j := (4 : Int32)) (x := (1073217536 : Int32)) (by decide) (hb hby at_97) ?_
    intro T41 h41 X41 e41 W41 Vn41
    have V_b36_41 : Iv Z h41 b36 (8 : Int32) (updN (updN (updN (updN (updN (fun _ => (0 : Int32)) 0 (0 : Int32)) 1 (-2147483648 : Int32)) 2 (1071644672 : Int32)) 3 (1072693248 : Int32)) 4 (1073217536 : Int32)) := Vn41
    have N41 := Fr.snoc X41 N40 ge_b36
    have V_b27_41 := V_b27_40.other W41 ne_b27_b36
    have E_b27_41 := E_b27_40.wr W41
    have E_b36_41 := E_b36_40.wr W41
    have K41 : Keep h0 h41 [] := K40.wr W41 (Or.inr sz_b36)
    show Go _ _ _ _ _ _ _ T41 (mkF m 98 #[.val (.int p0), .val (.int p1), .val (.int p2), .val (.int p3), .val (.int p4), .val (.int (2 : Int32)), .val (.int K), .val (.ref b27), .unset, .unset, .unset, .unset, .unset, .unset, .unset, .unset] [(.ref b36)])
    refine Go.step (fun _ k => XS.dup X41.here hx rfl (hb hby at_98) rfl rfl k) ?_
    show Go _ _ _ _ _ _ _ T41 (mkF m 99 #[.val (.int p0), .val (.int p1), .val (.int p2), .val (.int p3), .val (.int p4), .val (.int (2 : Int32)), .val (.int K), .val (.ref b27), .unset, .unset, .unset, .unset, .unset, .unset, .unset, .unset] [(.ref b36), (.ref b36)])
    refine Go.step (fun _ k => XS.iconst X41.here hx rfl (hb hby at_99) k) ?_
    show Go _ _ _ _ _ _ _ T41 (mkF m 100 #[.val (.int p0), .val (.int p1), .val (.int p2), .val (.int p3), .val (.int p4), .val (.int (2 : Int32)), .val (.int K), .val (.ref b27), .unset, .unset, .unset, .unset, .unset, .unset, .unset, .unset] [(.int (5 : Int32)), (.ref b36), (.ref b36)])
    refine Go.step (X41.ldcInt hx hown (mvT hZ (hw _ (List.mem_of_getElem? (i := 17) rfl))) (g := (mkF m 100 #[.val (.int p0), .val (.int p1), .val (.int p2), .val (.int p3), .val (.int p4), .val (.int (2 : Int32)), .val (.int K), .val (.ref b27), .unset, .unset, .unset, .unset, .unset, .unset, .unset, .unset] [(.int (5 : Int32)), (.ref b36), (.ref b36)])) rfl (hb hby at_100)) ?_
    show Go _ _ _ _ _ _ _ T41 (mkF m 102 #[.val (.int p0), .val (.int p1), .val (.int p2), .val (.int p3), .val (.int p4), .val (.int (2 : Int32)), .val (.int K), .val (.ref b27), .unset, .unset, .unset, .unset, .unset, .unset, .unset, .unset] [(.int (1073741824 : Int32)), (.int (5 : Int32)), (.ref b36), (.ref b36)])
    refine Go.iastore X41 hx hZ e41 V_b36_41 (j := (5 : Int32)) (x := (1073741824 : Int32)) (by decide) (hb hby at_102) ?_
    intro T42 h42 X42 e42 W42 Vn42
    have V_b36_42 : Iv Z h42 b36 (8 : Int32) (updN (updN (updN (updN (updN (updN (fun _ => (0 : Int32)) 0 (0 : Int32)) 1 (-2147483648 : Int32)) 2 (1071644672 : Int32)) 3 (1072693248 : Int32)) 4 (1073217536 : Int32)) 5 (1073741824 : Int32)) := Vn42
    have N42 := Fr.snoc X42 N41 ge_b36
    have V_b27_42 := V_b27_41.other W42 ne_b27_b36
    have E_b27_42 := E_b27_41.wr W42
    have E_b36_42 := E_b36_41.wr W42
    have K42 : Keep h0 h42 [] := K41.wr W42 (Or.inr sz_b36)
    show Go _ _ _ _ _ _ _ T42 (mkF m 103 #[.val (.int p0), .val (.int p1), .val (.int p2), .val (.int p3), .val (.int p4), .val (.int (2 : Int32)), .val (.int K), .val (.ref b27), .unset, .unset, .unset, .unset, .unset, .unset, .unset, .unset] [(.ref b36)])
    refine Go.step (fun _ k => XS.dup X42.here hx rfl (hb hby at_103) rfl rfl k) ?_
    show Go _ _ _ _ _ _ _ T42 (mkF m 104 #[.val (.int p0), .val (.int p1), .val (.int p2), .val (.int p3), .val (.int p4), .val (.int (2 : Int32)), .val (.int K), .val (.ref b27), .unset, .unset, .unset, .unset, .unset, .unset, .unset, .unset] [(.ref b36), (.ref b36)])
    refine Go.step (fun _ k => XS.bipush X42.here hx rfl (hb hby at_104) k) ?_
    show Go _ _ _ _ _ _ _ T42 (mkF m 106 #[.val (.int p0), .val (.int p1), .val (.int p2), .val (.int p3), .val (.int p4), .val (.int (2 : Int32)), .val (.int K), .val (.ref b27), .unset, .unset, .unset, .unset, .unset, .unset, .unset, .unset] [(.int (6 : Int32)), (.ref b36), (.ref b36)])
    refine Go.step (X42.ldcInt hx hown (mvT hZ (hw _ (List.mem_of_getElem? (i := 18) rfl))) (g := (mkF m 106 #[.val (.int p0), .val (.int p1), .val (.int p2), .val (.int p3), .val (.int p4), .val (.int (2 : Int32)), .val (.int K), .val (.ref b27), .unset, .unset, .unset, .unset, .unset, .unset, .unset, .unset] [(.int (6 : Int32)), (.ref b36), (.ref b36)])) rfl (hb hby at_106)) ?_
    show Go _ _ _ _ _ _ _ T42 (mkF m 108 #[.val (.int p0), .val (.int p1), .val (.int p2), .val (.int p3), .val (.int p4), .val (.int (2 : Int32)), .val (.int K), .val (.ref b27), .unset, .unset, .unset, .unset, .unset, .unset, .unset, .unset] [(.int (1074266112 : Int32)), (.int (6 : Int32)), (.ref b36), (.ref b36)])
    refine Go.iastore X42 hx hZ e42 V_b36_42 (j := (6 : Int32)) (x := (1074266112 : Int32)) (by decide) (hb hby at_108) ?_
    intro T43 h43 X43 e43 W43 Vn43
    have V_b36_43 : Iv Z h43 b36 (8 : Int32) (updN (updN (updN (updN (updN (updN (updN (fun _ => (0 : Int32)) 0 (0 : Int32)) 1 (-2147483648 : Int32)) 2 (1071644672 : Int32)) 3 (1072693248 : Int32)) 4 (1073217536 : Int32)) 5 (1073741824 : Int32)) 6 (1074266112 : Int32)) := Vn43
    have N43 := Fr.snoc X43 N42 ge_b36
    have V_b27_43 := V_b27_42.other W43 ne_b27_b36
    have E_b27_43 := E_b27_42.wr W43
    have E_b36_43 := E_b36_42.wr W43
    have K43 : Keep h0 h43 [] := K42.wr W43 (Or.inr sz_b36)
    show Go _ _ _ _ _ _ _ T43 (mkF m 109 #[.val (.int p0), .val (.int p1), .val (.int p2), .val (.int p3), .val (.int p4), .val (.int (2 : Int32)), .val (.int K), .val (.ref b27), .unset, .unset, .unset, .unset, .unset, .unset, .unset, .unset] [(.ref b36)])
    refine Go.step (fun _ k => XS.dup X43.here hx rfl (hb hby at_109) rfl rfl k) ?_
    show Go _ _ _ _ _ _ _ T43 (mkF m 110 #[.val (.int p0), .val (.int p1), .val (.int p2), .val (.int p3), .val (.int p4), .val (.int (2 : Int32)), .val (.int K), .val (.ref b27), .unset, .unset, .unset, .unset, .unset, .unset, .unset, .unset] [(.ref b36), (.ref b36)])
    refine Go.step (fun _ k => XS.bipush X43.here hx rfl (hb hby at_110) k) ?_
    show Go _ _ _ _ _ _ _ T43 (mkF m 112 #[.val (.int p0), .val (.int p1), .val (.int p2), .val (.int p3), .val (.int p4), .val (.int (2 : Int32)), .val (.int K), .val (.ref b27), .unset, .unset, .unset, .unset, .unset, .unset, .unset, .unset] [(.int (7 : Int32)), (.ref b36), (.ref b36)])
    refine Go.step (X43.ldcInt hx hown (mvT hZ (hw _ (List.mem_of_getElem? (i := 19) rfl))) (g := (mkF m 112 #[.val (.int p0), .val (.int p1), .val (.int p2), .val (.int p3), .val (.int p4), .val (.int (2 : Int32)), .val (.int K), .val (.ref b27), .unset, .unset, .unset, .unset, .unset, .unset, .unset, .unset] [(.int (7 : Int32)), (.ref b36), (.ref b36)])) rfl (hb hby at_112)) ?_
    show Go _ _ _ _ _ _ _ T43 (mkF m 114 #[.val (.int p0), .val (.int p1), .val (.int p2), .val (.int p3), .val (.int p4), .val (.int (2 : Int32)), .val (.int K), .val (.ref b27), .unset, .unset, .unset, .unset, .unset, .unset, .unset, .unset] [(.int (-1507852285 : Int32)), (.int (7 : Int32)), (.ref b36), (.ref b36)])
    refine Go.iastore X43 hx hZ e43 V_b36_43 (j := (7 : Int32)) (x := (-1507852285 : Int32)) (by decide) (hb hby at_114) ?_
    intro T44 h44 X44 e44 W44 Vn44
    have V_b36_44 : Iv Z h44 b36 (8 : Int32) (updN (updN (updN (updN (updN (updN (updN (updN (fun _ => (0 : Int32)) 0 (0 : Int32)) 1 (-2147483648 : Int32)) 2 (1071644672 : Int32)) 3 (1072693248 : Int32)) 4 (1073217536 : Int32)) 5 (1073741824 : Int32)) 6 (1074266112 : Int32)) 7 (-1507852285 : Int32)) := Vn44
    have N44 := Fr.snoc X44 N43 ge_b36
    have V_b27_44 := V_b27_43.other W44 ne_b27_b36
    have E_b27_44 := E_b27_43.wr W44
    have E_b36_44 := E_b36_43.wr W44
    have K44 : Keep h0 h44 [] := K43.wr W44 (Or.inr sz_b36)
    show Go _ _ _ _ _ _ _ T44 (mkF m 115 #[.val (.int p0), .val (.int p1), .val (.int p2), .val (.int p3), .val (.int p4), .val (.int (2 : Int32)), .val (.int K), .val (.ref b27), .unset, .unset, .unset, .unset, .unset, .unset, .unset, .unset] [(.ref b36)])
    refine Go.step (fun _ k => XS.astore X44.here hx rfl (hb hby at_115) rfl rfl (l' := #[.val (.int p0), .val (.int p1), .val (.int p2), .val (.int p3), .val (.int p4), .val (.int (2 : Int32)), .val (.int K), .val (.ref b27), .val (.ref b36), .unset, .unset, .unset, .unset, .unset, .unset, .unset]) rfl k) ?_
    have VxvalG : Dv Z h44 b27 (8 : Int32) valG := V_b27_44
    have VxelemG : Iv Z h44 b36 (8 : Int32) elemG := V_b36_44
    have hv0 := own_at7 p2
    have hv1 := own_at7 p3
    have hv2 := own_at7 p4
    show Go _ _ _ _ _ _ _ T44 (mkF m 117 #[.val (.int p0), .val (.int p1), .val (.int p2), .val (.int p3), .val (.int p4), .val (.int (2 : Int32)), .val (.int K), .val (.ref b27), .val (.ref b36), .unset, .unset, .unset, .unset, .unset, .unset, .unset] [])
    refine Go.step (fun _ k => XS.iloadN X44.here hx rfl (hb hby at_117) rfl k) ?_
    show Go _ _ _ _ _ _ _ T44 (mkF m 118 #[.val (.int p0), .val (.int p1), .val (.int p2), .val (.int p3), .val (.int p4), .val (.int (2 : Int32)), .val (.int K), .val (.ref b27), .val (.ref b36), .unset, .unset, .unset, .unset, .unset, .unset, .unset] [(.int p2)])
    refine Go.step (fun _ k => XS.bipush X44.here hx rfl (hb hby at_118) k) ?_
    show Go _ _ _ _ _ _ _ T44 (mkF m 120 #[.val (.int p0), .val (.int p1), .val (.int p2), .val (.int p3), .val (.int p4), .val (.int (2 : Int32)), .val (.int K), .val (.ref b27), .val (.ref b36), .unset, .unset, .unset, .unset, .unset, .unset, .unset] [(.int (7 : Int32)), (.int p2)])
    refine Go.step (fun _ k => XS.iand X44.here hx rfl (hb hby at_120) rfl k) ?_
    show Go _ _ _ _ _ _ _ T44 (mkF m 121 #[.val (.int p0), .val (.int p1), .val (.int p2), .val (.int p3), .val (.int p4), .val (.int (2 : Int32)), .val (.int K), .val (.ref b27), .val (.ref b36), .unset, .unset, .unset, .unset, .unset, .unset, .unset] [(.int (p2 &&& (7 : Int32)))])
    refine Go.step (fun _ k => XS.istore X44.here hx rfl (hb hby at_121) rfl (l' := #[.val (.int p0), .val (.int p1), .val (.int p2), .val (.int p3), .val (.int p4), .val (.int (2 : Int32)), .val (.int K), .val (.ref b27), .val (.ref b36), .val (.int (p2 &&& (7 : Int32))), .unset, .unset, .unset, .unset, .unset, .unset]) rfl k) ?_
    show Go _ _ _ _ _ _ _ T44 (mkF m 123 #[.val (.int p0), .val (.int p1), .val (.int p2), .val (.int p3), .val (.int p4), .val (.int (2 : Int32)), .val (.int K), .val (.ref b27), .val (.ref b36), .val (.int (p2 &&& (7 : Int32))), .unset, .unset, .unset, .unset, .unset, .unset] [])
    refine Go.step (fun _ k => XS.iloadN X44.here hx rfl (hb hby at_123) rfl k) ?_
    show Go _ _ _ _ _ _ _ T44 (mkF m 124 #[.val (.int p0), .val (.int p1), .val (.int p2), .val (.int p3), .val (.int p4), .val (.int (2 : Int32)), .val (.int K), .val (.ref b27), .val (.ref b36), .val (.int (p2 &&& (7 : Int32))), .unset, .unset, .unset, .unset, .unset, .unset] [(.int p3)])
    refine Go.step (fun _ k => XS.bipush X44.here hx rfl (hb hby at_124) k) ?_
    show Go _ _ _ _ _ _ _ T44 (mkF m 126 #[.val (.int p0), .val (.int p1), .val (.int p2), .val (.int p3), .val (.int p4), .val (.int (2 : Int32)), .val (.int K), .val (.ref b27), .val (.ref b36), .val (.int (p2 &&& (7 : Int32))), .unset, .unset, .unset, .unset, .unset, .unset] [(.int (7 : Int32)), (.int p3)])
    refine Go.step (fun _ k => XS.iand X44.here hx rfl (hb hby at_126) rfl k) ?_
    show Go _ _ _ _ _ _ _ T44 (mkF m 127 #[.val (.int p0), .val (.int p1), .val (.int p2), .val (.int p3), .val (.int p4), .val (.int (2 : Int32)), .val (.int K), .val (.ref b27), .val (.ref b36), .val (.int (p2 &&& (7 : Int32))), .unset, .unset, .unset, .unset, .unset, .unset] [(.int (p3 &&& (7 : Int32)))])
    refine Go.step (fun _ k => XS.istore X44.here hx rfl (hb hby at_127) rfl (l' := #[.val (.int p0), .val (.int p1), .val (.int p2), .val (.int p3), .val (.int p4), .val (.int (2 : Int32)), .val (.int K), .val (.ref b27), .val (.ref b36), .val (.int (p2 &&& (7 : Int32))), .val (.int (p3 &&& (7 : Int32))), .unset, .unset, .unset, .unset, .unset]) rfl k) ?_
    show Go _ _ _ _ _ _ _ T44 (mkF m 129 #[.val (.int p0), .val (.int p1), .val (.int p2), .val (.int p3), .val (.int p4), .val (.int (2 : Int32)), .val (.int K), .val (.ref b27), .val (.ref b36), .val (.int (p2 &&& (7 : Int32))), .val (.int (p3 &&& (7 : Int32))), .unset, .unset, .unset, .unset, .unset] [])
    refine Go.step (fun _ k => XS.iload X44.here hx rfl (hb hby at_129) rfl k) ?_
    show Go _ _ _ _ _ _ _ T44 (mkF m 131 #[.val (.int p0), .val (.int p1), .val (.int p2), .val (.int p3), .val (.int p4), .val (.int (2 : Int32)), .val (.int K), .val (.ref b27), .val (.ref b36), .val (.int (p2 &&& (7 : Int32))), .val (.int (p3 &&& (7 : Int32))), .unset, .unset, .unset, .unset, .unset] [(.int p4)])
    refine Go.step (fun _ k => XS.bipush X44.here hx rfl (hb hby at_131) k) ?_
    show Go _ _ _ _ _ _ _ T44 (mkF m 133 #[.val (.int p0), .val (.int p1), .val (.int p2), .val (.int p3), .val (.int p4), .val (.int (2 : Int32)), .val (.int K), .val (.ref b27), .val (.ref b36), .val (.int (p2 &&& (7 : Int32))), .val (.int (p3 &&& (7 : Int32))), .unset, .unset, .unset, .unset, .unset] [(.int (7 : Int32)), (.int p4)])
    refine Go.step (fun _ k => XS.iand X44.here hx rfl (hb hby at_133) rfl k) ?_
    show Go _ _ _ _ _ _ _ T44 (mkF m 134 #[.val (.int p0), .val (.int p1), .val (.int p2), .val (.int p3), .val (.int p4), .val (.int (2 : Int32)), .val (.int K), .val (.ref b27), .val (.ref b36), .val (.int (p2 &&& (7 : Int32))), .val (.int (p3 &&& (7 : Int32))), .unset, .unset, .unset, .unset, .unset] [(.int (p4 &&& (7 : Int32)))])
    refine Go.step (fun _ k => XS.istore X44.here hx rfl (hb hby at_134) rfl (l' := #[.val (.int p0), .val (.int p1), .val (.int p2), .val (.int p3), .val (.int p4), .val (.int (2 : Int32)), .val (.int K), .val (.ref b27), .val (.ref b36), .val (.int (p2 &&& (7 : Int32))), .val (.int (p3 &&& (7 : Int32))), .val (.int (p4 &&& (7 : Int32))), .unset, .unset, .unset, .unset]) rfl k) ?_
    show Go _ _ _ _ _ _ _ T44 (mkF m 136 #[.val (.int p0), .val (.int p1), .val (.int p2), .val (.int p3), .val (.int p4), .val (.int (2 : Int32)), .val (.int K), .val (.ref b27), .val (.ref b36), .val (.int (p2 &&& (7 : Int32))), .val (.int (p3 &&& (7 : Int32))), .val (.int (p4 &&& (7 : Int32))), .unset, .unset, .unset, .unset] [])
    refine Go.step (fun _ k => XS.iload X44.here hx rfl (hb hby at_136) rfl k) ?_
    show Go _ _ _ _ _ _ _ T44 (mkF m 138 #[.val (.int p0), .val (.int p1), .val (.int p2), .val (.int p3), .val (.int p4), .val (.int (2 : Int32)), .val (.int K), .val (.ref b27), .val (.ref b36), .val (.int (p2 &&& (7 : Int32))), .val (.int (p3 &&& (7 : Int32))), .val (.int (p4 &&& (7 : Int32))), .unset, .unset, .unset, .unset] [(.int (2 : Int32))])
    obtain ⟨T45, h45, k45, X45, e45, E45, A45, B45, st45⟩ := newPE X44 hx hZ (hw _ (List.mem_of_getElem? (i := 5) rfl)) e44 (g := (mkF m 138 #[.val (.int p0), .val (.int p1), .val (.int p2), .val (.int p3), .val (.int p4), .val (.int (2 : Int32)), .val (.int K), .val (.ref b27), .val (.ref b36), .val (.int (p2 &&& (7 : Int32))), .val (.int (p3 &&& (7 : Int32))), .val (.int (p4 &&& (7 : Int32))), .unset, .unset, .unset, .unset] [(.int (2 : Int32))])) rfl (hb hby at_138) rfl (by decide) (cap := 2) (by decide) (by decide) (by decide) (by decide) (ad := "[D") (by decide)
    obtain ⟨b45, g45⟩ : ∃ z, z = h44.size := ⟨_, rfl⟩
    rw [← g45] at A45 B45 st45
    refine Go.step st45 ?_
    have K45 : Keep h0 h45 [] := K44.ext E45
    have sz_b45 : h0.size ≤ b45 := Nat.le_trans (K44 : Keep h0 h44 []).1 (Nat.le_of_eq g45.symm)
    have ge_b45 : n0 ≤ b45 := Nat.le_trans Z0 sz_b45
    have ne_b27_b45 : b27 ≠ b45 := Nat.ne_of_lt (Nat.lt_of_lt_of_le VxvalG.lt (Nat.le_of_eq g45.symm))
    have ne_b36_b45 : b36 ≠ b45 := Nat.ne_of_lt (Nat.lt_of_lt_of_le VxelemG.lt (Nat.le_of_eq g45.symm))
    have VxvalG_45 := VxvalG.ext E45
    have E_b27_45 := E_b27_44.ext E45
    have VxelemG_45 := VxelemG.ext E45
    have E_b36_45 := E_b36_44.ext E45
    have V_b45 : Dv Z h45 b45 (2 : Int32) (fun _ => (0 : UInt64)) := Fv.new A45 (by decide)
    have E_b45 := B45
    show Go _ _ _ _ _ _ _ T45 (mkF m 140 #[.val (.int p0), .val (.int p1), .val (.int p2), .val (.int p3), .val (.int p4), .val (.int (2 : Int32)), .val (.int K), .val (.ref b27), .val (.ref b36), .val (.int (p2 &&& (7 : Int32))), .val (.int (p3 &&& (7 : Int32))), .val (.int (p4 &&& (7 : Int32))), .unset, .unset, .unset, .unset] [(.ref b45)])
    refine Go.step (fun _ k => XS.astore X45.here hx rfl (hb hby at_140) rfl rfl (l' := #[.val (.int p0), .val (.int p1), .val (.int p2), .val (.int p3), .val (.int p4), .val (.int (2 : Int32)), .val (.int K), .val (.ref b27), .val (.ref b36), .val (.int (p2 &&& (7 : Int32))), .val (.int (p3 &&& (7 : Int32))), .val (.int (p4 &&& (7 : Int32))), .val (.ref b45), .unset, .unset, .unset]) rfl k) ?_
    show Go _ _ _ _ _ _ _ T45 (mkF m 142 #[.val (.int p0), .val (.int p1), .val (.int p2), .val (.int p3), .val (.int p4), .val (.int (2 : Int32)), .val (.int K), .val (.ref b27), .val (.ref b36), .val (.int (p2 &&& (7 : Int32))), .val (.int (p3 &&& (7 : Int32))), .val (.int (p4 &&& (7 : Int32))), .val (.ref b45), .unset, .unset, .unset] [])
    refine Go.step (fun _ k => XS.aload X45.here hx rfl (hb hby at_142) rfl rfl k) ?_
    show Go _ _ _ _ _ _ _ T45 (mkF m 144 #[.val (.int p0), .val (.int p1), .val (.int p2), .val (.int p3), .val (.int p4), .val (.int (2 : Int32)), .val (.int K), .val (.ref b27), .val (.ref b36), .val (.int (p2 &&& (7 : Int32))), .val (.int (p3 &&& (7 : Int32))), .val (.int (p4 &&& (7 : Int32))), .val (.ref b45), .unset, .unset, .unset] [(.ref b45)])
    refine Go.step (fun _ k => XS.iconst X45.here hx rfl (hb hby at_144) k) ?_
    show Go _ _ _ _ _ _ _ T45 (mkF m 145 #[.val (.int p0), .val (.int p1), .val (.int p2), .val (.int p3), .val (.int p4), .val (.int (2 : Int32)), .val (.int K), .val (.ref b27), .val (.ref b36), .val (.int (p2 &&& (7 : Int32))), .val (.int (p3 &&& (7 : Int32))), .val (.int (p4 &&& (7 : Int32))), .val (.ref b45), .unset, .unset, .unset] [(.int (0 : Int32)), (.ref b45)])
    refine Go.step (fun _ k => XS.aload X45.here hx rfl (hb hby at_145) rfl rfl k) ?_
    show Go _ _ _ _ _ _ _ T45 (mkF m 147 #[.val (.int p0), .val (.int p1), .val (.int p2), .val (.int p3), .val (.int p4), .val (.int (2 : Int32)), .val (.int K), .val (.ref b27), .val (.ref b36), .val (.int (p2 &&& (7 : Int32))), .val (.int (p3 &&& (7 : Int32))), .val (.int (p4 &&& (7 : Int32))), .val (.ref b45), .unset, .unset, .unset] [(.ref b27), (.int (0 : Int32)), (.ref b45)])
    refine Go.step (fun _ k => XS.iload X45.here hx rfl (hb hby at_147) rfl k) ?_
    show Go _ _ _ _ _ _ _ T45 (mkF m 149 #[.val (.int p0), .val (.int p1), .val (.int p2), .val (.int p3), .val (.int p4), .val (.int (2 : Int32)), .val (.int K), .val (.ref b27), .val (.ref b36), .val (.int (p2 &&& (7 : Int32))), .val (.int (p3 &&& (7 : Int32))), .val (.int (p4 &&& (7 : Int32))), .val (.ref b45), .unset, .unset, .unset] [(.int (p2 &&& (7 : Int32))), (.ref b27), (.int (0 : Int32)), (.ref b45)])
    refine Go.daload X45 hx hZ e45 VxvalG_45 (j := (p2 &&& (7 : Int32))) (v := (valG ((p2 &&& (7 : Int32))).toNatClampNeg)) (own_i7 p2) rfl (hb hby at_149) ?_
    show Go _ _ _ _ _ _ _ T45 (mkF m 150 #[.val (.int p0), .val (.int p1), .val (.int p2), .val (.int p3), .val (.int p4), .val (.int (2 : Int32)), .val (.int K), .val (.ref b27), .val (.ref b36), .val (.int (p2 &&& (7 : Int32))), .val (.int (p3 &&& (7 : Int32))), .val (.int (p4 &&& (7 : Int32))), .val (.ref b45), .unset, .unset, .unset] [(.double (valG ((p2 &&& (7 : Int32))).toNatClampNeg)), (.int (0 : Int32)), (.ref b45)])
    refine Go.dastore X45 hx hZ e45 V_b45 (j := (0 : Int32)) (x := (valG ((p2 &&& (7 : Int32))).toNatClampNeg)) (by decide) (hb hby at_150) ?_
    intro T46 h46 X46 e46 W46 Vn46
    have V_b45_46 : Dv Z h46 b45 (2 : Int32) (updN (fun _ => (0 : UInt64)) 0 (valG ((p2 &&& (7 : Int32))).toNatClampNeg)) := Vn46
    have N46 := Fr.snoc X46 N44 ge_b45
    have VxvalG_46 := VxvalG_45.other W46 ne_b27_b45
    have E_b27_46 := E_b27_45.wr W46
    have VxelemG_46 := VxelemG_45.other W46 ne_b36_b45
    have E_b36_46 := E_b36_45.wr W46
    have E_b45_46 := E_b45.wr W46
    have K46 : Keep h0 h46 [] := K45.wr W46 (Or.inr sz_b45)
    show Go _ _ _ _ _ _ _ T46 (mkF m 151 #[.val (.int p0), .val (.int p1), .val (.int p2), .val (.int p3), .val (.int p4), .val (.int (2 : Int32)), .val (.int K), .val (.ref b27), .val (.ref b36), .val (.int (p2 &&& (7 : Int32))), .val (.int (p3 &&& (7 : Int32))), .val (.int (p4 &&& (7 : Int32))), .val (.ref b45), .unset, .unset, .unset] [])
    refine Go.step (fun _ k => XS.iload X46.here hx rfl (hb hby at_151) rfl k) ?_
    show Go _ _ _ _ _ _ _ T46 (mkF m 153 #[.val (.int p0), .val (.int p1), .val (.int p2), .val (.int p3), .val (.int p4), .val (.int (2 : Int32)), .val (.int K), .val (.ref b27), .val (.ref b36), .val (.int (p2 &&& (7 : Int32))), .val (.int (p3 &&& (7 : Int32))), .val (.int (p4 &&& (7 : Int32))), .val (.ref b45), .unset, .unset, .unset] [(.int (2 : Int32))])
    refine Go.step (fun _ k => XS.iconst X46.here hx rfl (hb hby at_153) k) ?_
    show Go _ _ _ _ _ _ _ T46 (mkF m 154 #[.val (.int p0), .val (.int p1), .val (.int p2), .val (.int p3), .val (.int p4), .val (.int (2 : Int32)), .val (.int K), .val (.ref b27), .val (.ref b36), .val (.int (p2 &&& (7 : Int32))), .val (.int (p3 &&& (7 : Int32))), .val (.int (p4 &&& (7 : Int32))), .val (.ref b45), .unset, .unset, .unset] [(.int (1 : Int32)), (.int (2 : Int32))])
    refine Go.step (fun _ k => XS.icmpNo X46.here hx rfl (hb hby at_154) rfl (tlt (by decide : (1 : Int32) < (2 : Int32))).2.2.2 k) ?_
    show Go _ _ _ _ _ _ _ T46 (mkF m 157 #[.val (.int p0), .val (.int p1), .val (.int p2), .val (.int p3), .val (.int p4), .val (.int (2 : Int32)), .val (.int K), .val (.ref b27), .val (.ref b36), .val (.int (p2 &&& (7 : Int32))), .val (.int (p3 &&& (7 : Int32))), .val (.int (p4 &&& (7 : Int32))), .val (.ref b45), .unset, .unset, .unset] [])
    refine Go.step (fun _ k => XS.aload X46.here hx rfl (hb hby at_157) rfl rfl k) ?_
    show Go _ _ _ _ _ _ _ T46 (mkF m 159 #[.val (.int p0), .val (.int p1), .val (.int p2), .val (.int p3), .val (.int p4), .val (.int (2 : Int32)), .val (.int K), .val (.ref b27), .val (.ref b36), .val (.int (p2 &&& (7 : Int32))), .val (.int (p3 &&& (7 : Int32))), .val (.int (p4 &&& (7 : Int32))), .val (.ref b45), .unset, .unset, .unset] [(.ref b45)])
    refine Go.step (fun _ k => XS.iconst X46.here hx rfl (hb hby at_159) k) ?_
    show Go _ _ _ _ _ _ _ T46 (mkF m 160 #[.val (.int p0), .val (.int p1), .val (.int p2), .val (.int p3), .val (.int p4), .val (.int (2 : Int32)), .val (.int K), .val (.ref b27), .val (.ref b36), .val (.int (p2 &&& (7 : Int32))), .val (.int (p3 &&& (7 : Int32))), .val (.int (p4 &&& (7 : Int32))), .val (.ref b45), .unset, .unset, .unset] [(.int (1 : Int32)), (.ref b45)])
    refine Go.step (fun _ k => XS.aload X46.here hx rfl (hb hby at_160) rfl rfl k) ?_
    show Go _ _ _ _ _ _ _ T46 (mkF m 162 #[.val (.int p0), .val (.int p1), .val (.int p2), .val (.int p3), .val (.int p4), .val (.int (2 : Int32)), .val (.int K), .val (.ref b27), .val (.ref b36), .val (.int (p2 &&& (7 : Int32))), .val (.int (p3 &&& (7 : Int32))), .val (.int (p4 &&& (7 : Int32))), .val (.ref b45), .unset, .unset, .unset] [(.ref b27), (.int (1 : Int32)), (.ref b45)])
    refine Go.step (fun _ k => XS.iload X46.here hx rfl (hb hby at_162) rfl k) ?_
    show Go _ _ _ _ _ _ _ T46 (mkF m 164 #[.val (.int p0), .val (.int p1), .val (.int p2), .val (.int p3), .val (.int p4), .val (.int (2 : Int32)), .val (.int K), .val (.ref b27), .val (.ref b36), .val (.int (p2 &&& (7 : Int32))), .val (.int (p3 &&& (7 : Int32))), .val (.int (p4 &&& (7 : Int32))), .val (.ref b45), .unset, .unset, .unset] [(.int (p3 &&& (7 : Int32))), (.ref b27), (.int (1 : Int32)), (.ref b45)])
    refine Go.daload X46 hx hZ e46 VxvalG_46 (j := (p3 &&& (7 : Int32))) (v := (valG ((p3 &&& (7 : Int32))).toNatClampNeg)) (own_i7 p3) rfl (hb hby at_164) ?_
    show Go _ _ _ _ _ _ _ T46 (mkF m 165 #[.val (.int p0), .val (.int p1), .val (.int p2), .val (.int p3), .val (.int p4), .val (.int (2 : Int32)), .val (.int K), .val (.ref b27), .val (.ref b36), .val (.int (p2 &&& (7 : Int32))), .val (.int (p3 &&& (7 : Int32))), .val (.int (p4 &&& (7 : Int32))), .val (.ref b45), .unset, .unset, .unset] [(.double (valG ((p3 &&& (7 : Int32))).toNatClampNeg)), (.int (1 : Int32)), (.ref b45)])
    refine Go.dastore X46 hx hZ e46 V_b45_46 (j := (1 : Int32)) (x := (valG ((p3 &&& (7 : Int32))).toNatClampNeg)) (by decide) (hb hby at_165) ?_
    intro T47 h47 X47 e47 W47 Vn47
    have V_b45_47 : Dv Z h47 b45 (2 : Int32) (updN (updN (fun _ => (0 : UInt64)) 0 (valG ((p2 &&& (7 : Int32))).toNatClampNeg)) 1 (valG ((p3 &&& (7 : Int32))).toNatClampNeg)) := Vn47
    have N47 := Fr.snoc X47 N46 ge_b45
    have VxvalG_47 := VxvalG_46.other W47 ne_b27_b45
    have E_b27_47 := E_b27_46.wr W47
    have VxelemG_47 := VxelemG_46.other W47 ne_b36_b45
    have E_b36_47 := E_b36_46.wr W47
    have E_b45_47 := E_b45_46.wr W47
    have K47 : Keep h0 h47 [] := K46.wr W47 (Or.inr sz_b45)
    show Go _ _ _ _ _ _ _ T47 (mkF m 166 #[.val (.int p0), .val (.int p1), .val (.int p2), .val (.int p3), .val (.int p4), .val (.int (2 : Int32)), .val (.int K), .val (.ref b27), .val (.ref b36), .val (.int (p2 &&& (7 : Int32))), .val (.int (p3 &&& (7 : Int32))), .val (.int (p4 &&& (7 : Int32))), .val (.ref b45), .unset, .unset, .unset] [])
    refine Go.step (fun _ k => XS.iload X47.here hx rfl (hb hby at_166) rfl k) ?_
    show Go _ _ _ _ _ _ _ T47 (mkF m 168 #[.val (.int p0), .val (.int p1), .val (.int p2), .val (.int p3), .val (.int p4), .val (.int (2 : Int32)), .val (.int K), .val (.ref b27), .val (.ref b36), .val (.int (p2 &&& (7 : Int32))), .val (.int (p3 &&& (7 : Int32))), .val (.int (p4 &&& (7 : Int32))), .val (.ref b45), .unset, .unset, .unset] [(.int (2 : Int32))])
    refine Go.step (fun _ k => XS.iconst X47.here hx rfl (hb hby at_168) k) ?_
    show Go _ _ _ _ _ _ _ T47 (mkF m 169 #[.val (.int p0), .val (.int p1), .val (.int p2), .val (.int p3), .val (.int p4), .val (.int (2 : Int32)), .val (.int K), .val (.ref b27), .val (.ref b36), .val (.int (p2 &&& (7 : Int32))), .val (.int (p3 &&& (7 : Int32))), .val (.int (p4 &&& (7 : Int32))), .val (.ref b45), .unset, .unset, .unset] [(.int (2 : Int32)), (.int (2 : Int32))])
    refine Go.step (fun _ k => XS.icmpYes X47.here hx rfl (pc0 := 169) (pc' := 181) rfl (hb hby at_169) rfl (flt (by decide : ¬ ((2 : Int32) < (2 : Int32)))).2.2.2 (by decide) (by decide) k) ?_
    show Go _ _ _ _ _ _ _ T47 (mkF m 181 #[.val (.int p0), .val (.int p1), .val (.int p2), .val (.int p3), .val (.int p4), .val (.int (2 : Int32)), .val (.int K), .val (.ref b27), .val (.ref b36), .val (.int (p2 &&& (7 : Int32))), .val (.int (p3 &&& (7 : Int32))), .val (.int (p4 &&& (7 : Int32))), .val (.ref b45), .unset, .unset, .unset] [])
    obtain ⟨T48, h48, X48, e48, E48, A48, D48, -, st48⟩ := newO X47 hx hZ hown (hw _ (List.mem_of_getElem? (i := 20) rfl)) (hw _ (List.mem_of_getElem? (i := 21) rfl)) (hw _ (List.mem_of_getElem? (i := 22) rfl)) e47 (g := (mkF m 181 #[.val (.int p0), .val (.int p1), .val (.int p2), .val (.int p3), .val (.int p4), .val (.int (2 : Int32)), .val (.int K), .val (.ref b27), .val (.ref b36), .val (.int (p2 &&& (7 : Int32))), .val (.int (p3 &&& (7 : Int32))), .val (.int (p4 &&& (7 : Int32))), .val (.ref b45), .unset, .unset, .unset] [])) rfl (hb hby at_181) (by decide) (by decide)
    obtain ⟨b48, g48⟩ : ∃ z, z = h47.size := ⟨_, rfl⟩
    rw [← g48] at A48 D48 st48
    refine Go.step st48 ?_
    have K48 : Keep h0 h48 [] := K47.ext E48
    have sz_b48 : h0.size ≤ b48 := Nat.le_trans (K47 : Keep h0 h47 []).1 (Nat.le_of_eq g48.symm)
    have ge_b48 : n0 ≤ b48 := Nat.le_trans Z0 sz_b48
    have ne_b27_b48 : b27 ≠ b48 := Nat.ne_of_lt (Nat.lt_of_lt_of_le VxvalG_47.lt (Nat.le_of_eq g48.symm))
    have ne_b36_b48 : b36 ≠ b48 := Nat.ne_of_lt (Nat.lt_of_lt_of_le VxelemG_47.lt (Nat.le_of_eq g48.symm))
    have ne_b45_b48 : b45 ≠ b48 := Nat.ne_of_lt (Nat.lt_of_lt_of_le V_b45_47.lt (Nat.le_of_eq g48.symm))
    have VxvalG_48 := VxvalG_47.ext E48
    have E_b27_48 := E_b27_47.ext E48
    have VxelemG_48 := VxelemG_47.ext E48
    have E_b36_48 := E_b36_47.ext E48
    have V_b45_48 := V_b45_47.ext E48
    have E_b45_48 := E_b45_47.ext E48
    have E_b48 := A48
    have F_keyGroups_b48 : Fld Z h48 b48 "tidewatch/decision/KeyGroupCeiling" "keyGroups" "I" (.int (0 : Int32)) := D48 (Or.inr (hw _ (List.mem_of_getElem? (i := 30) rfl))) (ty := .int) (by decide)
    have F_shares_b48 : Fld Z h48 b48 "tidewatch/decision/KeyGroupCeiling" "shares" "[D" .null := D48 (Or.inr (hw _ (List.mem_of_getElem? (i := 41) rfl))) (ty := (.array .double)) (by decide)
    have F_before_b48 : Fld Z h48 b48 "tidewatch/decision/KeyGroupCeiling" "before" "[D" .null := D48 (Or.inr (hw _ (List.mem_of_getElem? (i := 43) rfl))) (ty := (.array .double)) (by decide)
    show Go _ _ _ _ _ _ _ T48 (mkF m 184 #[.val (.int p0), .val (.int p1), .val (.int p2), .val (.int p3), .val (.int p4), .val (.int (2 : Int32)), .val (.int K), .val (.ref b27), .val (.ref b36), .val (.int (p2 &&& (7 : Int32))), .val (.int (p3 &&& (7 : Int32))), .val (.int (p4 &&& (7 : Int32))), .val (.ref b45), .unset, .unset, .unset] [(.ref b48)])
    refine Go.step (fun _ k => XS.dup X48.here hx rfl (hb hby at_184) rfl rfl k) ?_
    show Go _ _ _ _ _ _ _ T48 (mkF m 185 #[.val (.int p0), .val (.int p1), .val (.int p2), .val (.int p3), .val (.int p4), .val (.int (2 : Int32)), .val (.int K), .val (.ref b27), .val (.ref b36), .val (.int (p2 &&& (7 : Int32))), .val (.int (p3 &&& (7 : Int32))), .val (.int (p4 &&& (7 : Int32))), .val (.ref b45), .unset, .unset, .unset] [(.ref b48), (.ref b48)])
    refine Go.step (fun _ k => XS.iload X48.here hx rfl (hb hby at_185) rfl k) ?_
    show Go _ _ _ _ _ _ _ T48 (mkF m 187 #[.val (.int p0), .val (.int p1), .val (.int p2), .val (.int p3), .val (.int p4), .val (.int (2 : Int32)), .val (.int K), .val (.ref b27), .val (.ref b36), .val (.int (p2 &&& (7 : Int32))), .val (.int (p3 &&& (7 : Int32))), .val (.int (p4 &&& (7 : Int32))), .val (.ref b45), .unset, .unset, .unset] [(.int K), (.ref b48), (.ref b48)])
    refine Go.step (fun _ k => XS.aload X48.here hx rfl (hb hby at_187) rfl rfl k) ?_
    show Go _ _ _ _ _ _ _ T48 (mkF m 189 #[.val (.int p0), .val (.int p1), .val (.int p2), .val (.int p3), .val (.int p4), .val (.int (2 : Int32)), .val (.int K), .val (.ref b27), .val (.ref b36), .val (.int (p2 &&& (7 : Int32))), .val (.int (p3 &&& (7 : Int32))), .val (.int (p4 &&& (7 : Int32))), .val (.ref b45), .unset, .unset, .unset] [(.ref b45), (.int K), (.ref b48), (.ref b48)])
    refine Go.callI X48 hx hZ (by rw [hml]; rfl) (y := (⟨"tidewatch/decision/KeyGroupCeiling", "<init>", "(I[D)V"⟩ : MethodName)) (a := b48) (argsL := [(.int K), (.ref b45)]) (rest := [(.ref b48)]) rfl hown (hw _ (List.mem_of_getElem? (i := 23) rfl)) (hw _ (List.mem_of_getElem? (i := 24) rfl)) (hw _ (List.mem_of_getElem? (i := 22) rfl)) (hw _ (List.mem_of_getElem? (i := 25) rfl)) (by decide) (rm2_2 l Z a0 hw b48 b45 K (updN (updN (fun _ => (0 : UInt64)) 0 (valG ((p2 &&& (7 : Int32))).toNatClampNeg)) 1 (valG ((p3 &&& (7 : Int32))).toNatClampNeg)) h48 n0 (Nat.le_trans Z0 (K48 : Keep h0 h48 []).1) E_b48 F_keyGroups_b48 F_shares_b48 F_before_b48 E_b45_48 V_b45_48 ge_b48 (Ne.symm ne_b45_b48) hK (fun i hi' => by rcases (by omega : i = 0 ∨ i = 1) with rfl | rfl; exact hv0.2.1; exact hv1.2.1) (fun i hi' => by rcases (by omega : i = 0 ∨ i = 1) with rfl | rfl; exact hv0.2.2; exact hv1.2.2)) e48 (hb hby at_189) (lenOf pd_5 rfl) rfl rfl (W := 1) (Nat.le_of_eq rfl) (by decide) (by decide) (by decide) (by decide) ?_
    intro v49 T49 L49 X49 Q49
    obtain ⟨rfl, N49q, Kc49, Ec49, Fk49, c49, d49, Fc49, Fd49, Vc49, Vd49, sc49, sd49, ncd49⟩ := Q49
    have N49 := Fr.app N47 N49q
    have ne_b45_c49 : b45 ≠ c49 := Nat.ne_of_lt (Nat.lt_of_lt_of_le V_b45_48.lt sc49)
    have ne_b45_d49 : b45 ≠ d49 := Nat.ne_of_lt (Nat.lt_of_lt_of_le V_b45_48.lt sd49)
    have VxvalG_49 := VxvalG_48.keep Kc49 (ninS ne_b27_b48 nin0)
    have E_b27_49 := E_b27_48.keep Kc49
    have VxelemG_49 := VxelemG_48.keep Kc49 (ninS ne_b36_b48 nin0)
    have E_b36_49 := E_b36_48.keep Kc49
    have V_b45_49 := V_b45_48.keep Kc49 (ninS ne_b45_b48 nin0)
    have E_b45_49 := E_b45_48.keep Kc49
    have E_b48_49 := E_b48.keep Kc49
    have KK49 : Keep h0 T49.heap [] := (K48 : Keep h0 h48 []).trans Kc49 (allS (Or.inr sz_b48) all0)
    show Go _ _ _ _ _ _ _ T49 (mkF m 192 #[.val (.int p0), .val (.int p1), .val (.int p2), .val (.int p3), .val (.int p4), .val (.int (2 : Int32)), .val (.int K), .val (.ref b27), .val (.ref b36), .val (.int (p2 &&& (7 : Int32))), .val (.int (p3 &&& (7 : Int32))), .val (.int (p4 &&& (7 : Int32))), .val (.ref b45), .unset, .unset, .unset] [(.ref b48)])
    refine Go.step (fun _ k => XS.astore X49.here hx rfl (hb hby at_192) rfl rfl (l' := #[.val (.int p0), .val (.int p1), .val (.int p2), .val (.int p3), .val (.int p4), .val (.int (2 : Int32)), .val (.int K), .val (.ref b27), .val (.ref b36), .val (.int (p2 &&& (7 : Int32))), .val (.int (p3 &&& (7 : Int32))), .val (.int (p4 &&& (7 : Int32))), .val (.ref b45), .val (.ref b48), .unset, .unset]) rfl k) ?_
    show Go _ _ _ _ _ _ _ T49 (mkF m 194 #[.val (.int p0), .val (.int p1), .val (.int p2), .val (.int p3), .val (.int p4), .val (.int (2 : Int32)), .val (.int K), .val (.ref b27), .val (.ref b36), .val (.int (p2 &&& (7 : Int32))), .val (.int (p3 &&& (7 : Int32))), .val (.int (p4 &&& (7 : Int32))), .val (.ref b45), .val (.ref b48), .unset, .unset] [])
    refine Go.step (fun _ k => XS.aload X49.here hx rfl (hb hby at_194) rfl rfl k) ?_
    show Go _ _ _ _ _ _ _ T49 (mkF m 196 #[.val (.int p0), .val (.int p1), .val (.int p2), .val (.int p3), .val (.int p4), .val (.int (2 : Int32)), .val (.int K), .val (.ref b27), .val (.ref b36), .val (.int (p2 &&& (7 : Int32))), .val (.int (p3 &&& (7 : Int32))), .val (.int (p4 &&& (7 : Int32))), .val (.ref b45), .val (.ref b48), .unset, .unset] [(.ref b45)])
    refine Go.step (fun _ k => XS.iconst X49.here hx rfl (hb hby at_196) k) ?_
    show Go _ _ _ _ _ _ _ T49 (mkF m 197 #[.val (.int p0), .val (.int p1), .val (.int p2), .val (.int p3), .val (.int p4), .val (.int (2 : Int32)), .val (.int K), .val (.ref b27), .val (.ref b36), .val (.int (p2 &&& (7 : Int32))), .val (.int (p3 &&& (7 : Int32))), .val (.int (p4 &&& (7 : Int32))), .val (.ref b45), .val (.ref b48), .unset, .unset] [(.int (0 : Int32)), (.ref b45)])
    refine Go.step (X49.ldc2DoubleC hx hown (mvT hZ (hw _ (List.mem_of_getElem? (i := 52) rfl))) (g := (mkF m 197 #[.val (.int p0), .val (.int p1), .val (.int p2), .val (.int p3), .val (.int p4), .val (.int (2 : Int32)), .val (.int K), .val (.ref b27), .val (.ref b36), .val (.int (p2 &&& (7 : Int32))), .val (.int (p3 &&& (7 : Int32))), .val (.int (p4 &&& (7 : Int32))), .val (.ref b45), .val (.ref b48), .unset, .unset] [(.int (0 : Int32)), (.ref b45)])) rfl (hb hby at_197)) ?_
    show Go _ _ _ _ _ _ _ T49 (mkF m 200 #[.val (.int p0), .val (.int p1), .val (.int p2), .val (.int p3), .val (.int p4), .val (.int (2 : Int32)), .val (.int K), .val (.ref b27), .val (.ref b36), .val (.int (p2 &&& (7 : Int32))), .val (.int (p3 &&& (7 : Int32))), .val (.int (p4 &&& (7 : Int32))), .val (.ref b45), .val (.ref b48), .unset, .unset] [(.double (4612811918334230528 : UInt64)), (.int (0 : Int32)), (.ref b45)])
    refine Go.dastore X49 hx hZ rfl V_b45_49 (j := (0 : Int32)) (x := (4612811918334230528 : UInt64)) (by decide) (hb hby at_200) ?_
    intro T50 h50 X50 e50 W50 Vn50
    have V_b45_50 : Dv Z h50 b45 (2 : Int32) (updN (updN (updN (fun _ => (0 : UInt64)) 0 (valG ((p2 &&& (7 : Int32))).toNatClampNeg)) 1 (valG ((p3 &&& (7 : Int32))).toNatClampNeg)) 0 (4612811918334230528 : UInt64)) := Vn50
    have N50 := Fr.snoc X50 N49 ge_b45
    have VxvalG_50 := VxvalG_49.other W50 ne_b27_b45
    have E_b27_50 := E_b27_49.wr W50
    have VxelemG_50 := VxelemG_49.other W50 ne_b36_b45
    have E_b36_50 := E_b36_49.wr W50
    have E_b45_50 := E_b45_49.wr W50
    have Ec49_50 := Ec49.wr W50
    have Fk49_50 := Fk49.other W50 (Or.inl (Ne.symm ne_b45_b48))
    have Fc49_50 := Fc49.other W50 (Or.inl (Ne.symm ne_b45_b48))
    have Fd49_50 := Fd49.other W50 (Or.inl (Ne.symm ne_b45_b48))
    have Vc49_50 := Vc49.other W50 (Ne.symm ne_b45_c49)
    have Vd49_50 := Vd49.other W50 (Ne.symm ne_b45_d49)
    have K50 : Keep h0 h50 [] := KK49.wr W50 (Or.inr sz_b45)
    show Go _ _ _ _ _ _ _ T50 (mkF m 201 #[.val (.int p0), .val (.int p1), .val (.int p2), .val (.int p3), .val (.int p4), .val (.int (2 : Int32)), .val (.int K), .val (.ref b27), .val (.ref b36), .val (.int (p2 &&& (7 : Int32))), .val (.int (p3 &&& (7 : Int32))), .val (.int (p4 &&& (7 : Int32))), .val (.ref b45), .val (.ref b48), .unset, .unset] [])
    refine Go.step (fun _ k => XS.bipush X50.here hx rfl (hb hby at_201) k) ?_
    show Go _ _ _ _ _ _ _ T50 (mkF m 203 #[.val (.int p0), .val (.int p1), .val (.int p2), .val (.int p3), .val (.int p4), .val (.int (2 : Int32)), .val (.int K), .val (.ref b27), .val (.ref b36), .val (.int (p2 &&& (7 : Int32))), .val (.int (p3 &&& (7 : Int32))), .val (.int (p4 &&& (7 : Int32))), .val (.ref b45), .val (.ref b48), .unset, .unset] [(.int (31 : Int32))])
    refine Go.step (fun _ k => XS.aload X50.here hx rfl (hb hby at_203) rfl rfl k) ?_
    show Go _ _ _ _ _ _ _ T50 (mkF m 205 #[.val (.int p0), .val (.int p1), .val (.int p2), .val (.int p3), .val (.int p4), .val (.int (2 : Int32)), .val (.int K), .val (.ref b27), .val (.ref b36), .val (.int (p2 &&& (7 : Int32))), .val (.int (p3 &&& (7 : Int32))), .val (.int (p4 &&& (7 : Int32))), .val (.ref b45), .val (.ref b48), .unset, .unset] [(.ref b36), (.int (31 : Int32))])
    refine Go.step (fun _ k => XS.iload X50.here hx rfl (hb hby at_205) rfl k) ?_
    show Go _ _ _ _ _ _ _ T50 (mkF m 207 #[.val (.int p0), .val (.int p1), .val (.int p2), .val (.int p3), .val (.int p4), .val (.int (2 : Int32)), .val (.int K), .val (.ref b27), .val (.ref b36), .val (.int (p2 &&& (7 : Int32))), .val (.int (p3 &&& (7 : Int32))), .val (.int (p4 &&& (7 : Int32))), .val (.ref b45), .val (.ref b48), .unset, .unset] [(.int (p2 &&& (7 : Int32))), (.ref b36), (.int (31 : Int32))])
    refine Go.iaload X50 hx hZ e50 VxelemG_50 (j := (p2 &&& (7 : Int32))) (v := (elemG ((p2 &&& (7 : Int32))).toNatClampNeg)) (own_i7 p2) rfl (hb hby at_207) ?_
    show Go _ _ _ _ _ _ _ T50 (mkF m 208 #[.val (.int p0), .val (.int p1), .val (.int p2), .val (.int p3), .val (.int p4), .val (.int (2 : Int32)), .val (.int K), .val (.ref b27), .val (.ref b36), .val (.int (p2 &&& (7 : Int32))), .val (.int (p3 &&& (7 : Int32))), .val (.int (p4 &&& (7 : Int32))), .val (.ref b45), .val (.ref b48), .unset, .unset] [(.int (elemG ((p2 &&& (7 : Int32))).toNatClampNeg)), (.int (31 : Int32))])
    refine Go.step (fun _ k => XS.iadd X50.here hx rfl (hb hby at_208) rfl k) ?_
    show Go _ _ _ _ _ _ _ T50 (mkF m 209 #[.val (.int p0), .val (.int p1), .val (.int p2), .val (.int p3), .val (.int p4), .val (.int (2 : Int32)), .val (.int K), .val (.ref b27), .val (.ref b36), .val (.int (p2 &&& (7 : Int32))), .val (.int (p3 &&& (7 : Int32))), .val (.int (p4 &&& (7 : Int32))), .val (.ref b45), .val (.ref b48), .unset, .unset] [(.int ((31 : Int32) + (elemG ((p2 &&& (7 : Int32))).toNatClampNeg)))])
    refine Go.step (fun _ k => XS.istore X50.here hx rfl (hb hby at_209) rfl (l' := #[.val (.int p0), .val (.int p1), .val (.int p2), .val (.int p3), .val (.int p4), .val (.int (2 : Int32)), .val (.int K), .val (.ref b27), .val (.ref b36), .val (.int (p2 &&& (7 : Int32))), .val (.int (p3 &&& (7 : Int32))), .val (.int (p4 &&& (7 : Int32))), .val (.ref b45), .val (.ref b48), .val (.int ((31 : Int32) + (elemG ((p2 &&& (7 : Int32))).toNatClampNeg))), .unset]) rfl k) ?_
    show Go _ _ _ _ _ _ _ T50 (mkF m 211 #[.val (.int p0), .val (.int p1), .val (.int p2), .val (.int p3), .val (.int p4), .val (.int (2 : Int32)), .val (.int K), .val (.ref b27), .val (.ref b36), .val (.int (p2 &&& (7 : Int32))), .val (.int (p3 &&& (7 : Int32))), .val (.int (p4 &&& (7 : Int32))), .val (.ref b45), .val (.ref b48), .val (.int ((31 : Int32) + (elemG ((p2 &&& (7 : Int32))).toNatClampNeg))), .unset] [])
    refine Go.step (fun _ k => XS.iload X50.here hx rfl (hb hby at_211) rfl k) ?_
    show Go _ _ _ _ _ _ _ T50 (mkF m 213 #[.val (.int p0), .val (.int p1), .val (.int p2), .val (.int p3), .val (.int p4), .val (.int (2 : Int32)), .val (.int K), .val (.ref b27), .val (.ref b36), .val (.int (p2 &&& (7 : Int32))), .val (.int (p3 &&& (7 : Int32))), .val (.int (p4 &&& (7 : Int32))), .val (.ref b45), .val (.ref b48), .val (.int ((31 : Int32) + (elemG ((p2 &&& (7 : Int32))).toNatClampNeg))), .unset] [(.int (2 : Int32))])
    refine Go.step (fun _ k => XS.iconst X50.here hx rfl (hb hby at_213) k) ?_
    show Go _ _ _ _ _ _ _ T50 (mkF m 214 #[.val (.int p0), .val (.int p1), .val (.int p2), .val (.int p3), .val (.int p4), .val (.int (2 : Int32)), .val (.int K), .val (.ref b27), .val (.ref b36), .val (.int (p2 &&& (7 : Int32))), .val (.int (p3 &&& (7 : Int32))), .val (.int (p4 &&& (7 : Int32))), .val (.ref b45), .val (.ref b48), .val (.int ((31 : Int32) + (elemG ((p2 &&& (7 : Int32))).toNatClampNeg))), .unset] [(.int (1 : Int32)), (.int (2 : Int32))])
    refine Go.step (fun _ k => XS.icmpNo X50.here hx rfl (hb hby at_214) rfl (tlt (by decide : (1 : Int32) < (2 : Int32))).2.2.2 k) ?_
    show Go _ _ _ _ _ _ _ T50 (mkF m 217 #[.val (.int p0), .val (.int p1), .val (.int p2), .val (.int p3), .val (.int p4), .val (.int (2 : Int32)), .val (.int K), .val (.ref b27), .val (.ref b36), .val (.int (p2 &&& (7 : Int32))), .val (.int (p3 &&& (7 : Int32))), .val (.int (p4 &&& (7 : Int32))), .val (.ref b45), .val (.ref b48), .val (.int ((31 : Int32) + (elemG ((p2 &&& (7 : Int32))).toNatClampNeg))), .unset] [])
    refine Go.step (fun _ k => XS.bipush X50.here hx rfl (hb hby at_217) k) ?_
    show Go _ _ _ _ _ _ _ T50 (mkF m 219 #[.val (.int p0), .val (.int p1), .val (.int p2), .val (.int p3), .val (.int p4), .val (.int (2 : Int32)), .val (.int K), .val (.ref b27), .val (.ref b36), .val (.int (p2 &&& (7 : Int32))), .val (.int (p3 &&& (7 : Int32))), .val (.int (p4 &&& (7 : Int32))), .val (.ref b45), .val (.ref b48), .val (.int ((31 : Int32) + (elemG ((p2 &&& (7 : Int32))).toNatClampNeg))), .unset] [(.int (31 : Int32))])
    refine Go.step (fun _ k => XS.iload X50.here hx rfl (hb hby at_219) rfl k) ?_
    show Go _ _ _ _ _ _ _ T50 (mkF m 221 #[.val (.int p0), .val (.int p1), .val (.int p2), .val (.int p3), .val (.int p4), .val (.int (2 : Int32)), .val (.int K), .val (.ref b27), .val (.ref b36), .val (.int (p2 &&& (7 : Int32))), .val (.int (p3 &&& (7 : Int32))), .val (.int (p4 &&& (7 : Int32))), .val (.ref b45), .val (.ref b48), .val (.int ((31 : Int32) + (elemG ((p2 &&& (7 : Int32))).toNatClampNeg))), .unset] [(.int ((31 : Int32) + (elemG ((p2 &&& (7 : Int32))).toNatClampNeg))), (.int (31 : Int32))])
    refine Go.step (fun _ k => XS.imul X50.here hx rfl (hb hby at_221) rfl k) ?_
    show Go _ _ _ _ _ _ _ T50 (mkF m 222 #[.val (.int p0), .val (.int p1), .val (.int p2), .val (.int p3), .val (.int p4), .val (.int (2 : Int32)), .val (.int K), .val (.ref b27), .val (.ref b36), .val (.int (p2 &&& (7 : Int32))), .val (.int (p3 &&& (7 : Int32))), .val (.int (p4 &&& (7 : Int32))), .val (.ref b45), .val (.ref b48), .val (.int ((31 : Int32) + (elemG ((p2 &&& (7 : Int32))).toNatClampNeg))), .unset] [(.int ((31 : Int32) * ((31 : Int32) + (elemG ((p2 &&& (7 : Int32))).toNatClampNeg))))])
    refine Go.step (fun _ k => XS.aload X50.here hx rfl (hb hby at_222) rfl rfl k) ?_
    show Go _ _ _ _ _ _ _ T50 (mkF m 224 #[.val (.int p0), .val (.int p1), .val (.int p2), .val (.int p3), .val (.int p4), .val (.int (2 : Int32)), .val (.int K), .val (.ref b27), .val (.ref b36), .val (.int (p2 &&& (7 : Int32))), .val (.int (p3 &&& (7 : Int32))), .val (.int (p4 &&& (7 : Int32))), .val (.ref b45), .val (.ref b48), .val (.int ((31 : Int32) + (elemG ((p2 &&& (7 : Int32))).toNatClampNeg))), .unset] [(.ref b36), (.int ((31 : Int32) * ((31 : Int32) + (elemG ((p2 &&& (7 : Int32))).toNatClampNeg))))])
    refine Go.step (fun _ k => XS.iload X50.here hx rfl (hb hby at_224) rfl k) ?_
    show Go _ _ _ _ _ _ _ T50 (mkF m 226 #[.val (.int p0), .val (.int p1), .val (.int p2), .val (.int p3), .val (.int p4), .val (.int (2 : Int32)), .val (.int K), .val (.ref b27), .val (.ref b36), .val (.int (p2 &&& (7 : Int32))), .val (.int (p3 &&& (7 : Int32))), .val (.int (p4 &&& (7 : Int32))), .val (.ref b45), .val (.ref b48), .val (.int ((31 : Int32) + (elemG ((p2 &&& (7 : Int32))).toNatClampNeg))), .unset] [(.int (p3 &&& (7 : Int32))), (.ref b36), (.int ((31 : Int32) * ((31 : Int32) + (elemG ((p2 &&& (7 : Int32))).toNatClampNeg))))])
    refine Go.iaload X50 hx hZ e50 VxelemG_50 (j := (p3 &&& (7 : Int32))) (v := (elemG ((p3 &&& (7 : Int32))).toNatClampNeg)) (own_i7 p3) rfl (hb hby at_226) ?_
    show Go _ _ _ _ _ _ _ T50 (mkF m 227 #[.val (.int p0), .val (.int p1), .val (.int p2), .val (.int p3), .val (.int p4), .val (.int (2 : Int32)), .val (.int K), .val (.ref b27), .val (.ref b36), .val (.int (p2 &&& (7 : Int32))), .val (.int (p3 &&& (7 : Int32))), .val (.int (p4 &&& (7 : Int32))), .val (.ref b45), .val (.ref b48), .val (.int ((31 : Int32) + (elemG ((p2 &&& (7 : Int32))).toNatClampNeg))), .unset] [(.int (elemG ((p3 &&& (7 : Int32))).toNatClampNeg)), (.int ((31 : Int32) * ((31 : Int32) + (elemG ((p2 &&& (7 : Int32))).toNatClampNeg))))])
    refine Go.step (fun _ k => XS.iadd X50.here hx rfl (hb hby at_227) rfl k) ?_
    show Go _ _ _ _ _ _ _ T50 (mkF m 228 #[.val (.int p0), .val (.int p1), .val (.int p2), .val (.int p3), .val (.int p4), .val (.int (2 : Int32)), .val (.int K), .val (.ref b27), .val (.ref b36), .val (.int (p2 &&& (7 : Int32))), .val (.int (p3 &&& (7 : Int32))), .val (.int (p4 &&& (7 : Int32))), .val (.ref b45), .val (.ref b48), .val (.int ((31 : Int32) + (elemG ((p2 &&& (7 : Int32))).toNatClampNeg))), .unset] [(.int (((31 : Int32) * ((31 : Int32) + (elemG ((p2 &&& (7 : Int32))).toNatClampNeg))) + (elemG ((p3 &&& (7 : Int32))).toNatClampNeg)))])
    refine Go.step (fun _ k => XS.istore X50.here hx rfl (hb hby at_228) rfl (l' := #[.val (.int p0), .val (.int p1), .val (.int p2), .val (.int p3), .val (.int p4), .val (.int (2 : Int32)), .val (.int K), .val (.ref b27), .val (.ref b36), .val (.int (p2 &&& (7 : Int32))), .val (.int (p3 &&& (7 : Int32))), .val (.int (p4 &&& (7 : Int32))), .val (.ref b45), .val (.ref b48), .val (.int (((31 : Int32) * ((31 : Int32) + (elemG ((p2 &&& (7 : Int32))).toNatClampNeg))) + (elemG ((p3 &&& (7 : Int32))).toNatClampNeg))), .unset]) rfl k) ?_
    show Go _ _ _ _ _ _ _ T50 (mkF m 230 #[.val (.int p0), .val (.int p1), .val (.int p2), .val (.int p3), .val (.int p4), .val (.int (2 : Int32)), .val (.int K), .val (.ref b27), .val (.ref b36), .val (.int (p2 &&& (7 : Int32))), .val (.int (p3 &&& (7 : Int32))), .val (.int (p4 &&& (7 : Int32))), .val (.ref b45), .val (.ref b48), .val (.int (((31 : Int32) * ((31 : Int32) + (elemG ((p2 &&& (7 : Int32))).toNatClampNeg))) + (elemG ((p3 &&& (7 : Int32))).toNatClampNeg))), .unset] [])
    refine Go.step (fun _ k => XS.iload X50.here hx rfl (hb hby at_230) rfl k) ?_
    show Go _ _ _ _ _ _ _ T50 (mkF m 232 #[.val (.int p0), .val (.int p1), .val (.int p2), .val (.int p3), .val (.int p4), .val (.int (2 : Int32)), .val (.int K), .val (.ref b27), .val (.ref b36), .val (.int (p2 &&& (7 : Int32))), .val (.int (p3 &&& (7 : Int32))), .val (.int (p4 &&& (7 : Int32))), .val (.ref b45), .val (.ref b48), .val (.int (((31 : Int32) * ((31 : Int32) + (elemG ((p2 &&& (7 : Int32))).toNatClampNeg))) + (elemG ((p3 &&& (7 : Int32))).toNatClampNeg))), .unset] [(.int (2 : Int32))])
    refine Go.step (fun _ k => XS.iconst X50.here hx rfl (hb hby at_232) k) ?_
    show Go _ _ _ _ _ _ _ T50 (mkF m 233 #[.val (.int p0), .val (.int p1), .val (.int p2), .val (.int p3), .val (.int p4), .val (.int (2 : Int32)), .val (.int K), .val (.ref b27), .val (.ref b36), .val (.int (p2 &&& (7 : Int32))), .val (.int (p3 &&& (7 : Int32))), .val (.int (p4 &&& (7 : Int32))), .val (.ref b45), .val (.ref b48), .val (.int (((31 : Int32) * ((31 : Int32) + (elemG ((p2 &&& (7 : Int32))).toNatClampNeg))) + (elemG ((p3 &&& (7 : Int32))).toNatClampNeg))), .unset] [(.int (2 : Int32)), (.int (2 : Int32))])
    refine Go.step (fun _ k => XS.icmpYes X50.here hx rfl (pc0 := 233) (pc' := 249) rfl (hb hby at_233) rfl (flt (by decide : ¬ ((2 : Int32) < (2 : Int32)))).2.2.2 (by decide) (by decide) k) ?_
    show Go _ _ _ _ _ _ _ T50 (mkF m 249 #[.val (.int p0), .val (.int p1), .val (.int p2), .val (.int p3), .val (.int p4), .val (.int (2 : Int32)), .val (.int K), .val (.ref b27), .val (.ref b36), .val (.int (p2 &&& (7 : Int32))), .val (.int (p3 &&& (7 : Int32))), .val (.int (p4 &&& (7 : Int32))), .val (.ref b45), .val (.ref b48), .val (.int (((31 : Int32) * ((31 : Int32) + (elemG ((p2 &&& (7 : Int32))).toNatClampNeg))) + (elemG ((p3 &&& (7 : Int32))).toNatClampNeg))), .unset] [])
    refine Go.step (fun _ k => XS.bipush X50.here hx rfl (hb hby at_249) k) ?_
    show Go _ _ _ _ _ _ _ T50 (mkF m 251 #[.val (.int p0), .val (.int p1), .val (.int p2), .val (.int p3), .val (.int p4), .val (.int (2 : Int32)), .val (.int K), .val (.ref b27), .val (.ref b36), .val (.int (p2 &&& (7 : Int32))), .val (.int (p3 &&& (7 : Int32))), .val (.int (p4 &&& (7 : Int32))), .val (.ref b45), .val (.ref b48), .val (.int (((31 : Int32) * ((31 : Int32) + (elemG ((p2 &&& (7 : Int32))).toNatClampNeg))) + (elemG ((p3 &&& (7 : Int32))).toNatClampNeg))), .unset] [(.int (31 : Int32))])
    refine Go.step (fun _ k => XS.iload X50.here hx rfl (hb hby at_251) rfl k) ?_
    show Go _ _ _ _ _ _ _ T50 (mkF m 253 #[.val (.int p0), .val (.int p1), .val (.int p2), .val (.int p3), .val (.int p4), .val (.int (2 : Int32)), .val (.int K), .val (.ref b27), .val (.ref b36), .val (.int (p2 &&& (7 : Int32))), .val (.int (p3 &&& (7 : Int32))), .val (.int (p4 &&& (7 : Int32))), .val (.ref b45), .val (.ref b48), .val (.int (((31 : Int32) * ((31 : Int32) + (elemG ((p2 &&& (7 : Int32))).toNatClampNeg))) + (elemG ((p3 &&& (7 : Int32))).toNatClampNeg))), .unset] [(.int K), (.int (31 : Int32))])
    refine Go.step (fun _ k => XS.imul X50.here hx rfl (hb hby at_253) rfl k) ?_
    show Go _ _ _ _ _ _ _ T50 (mkF m 254 #[.val (.int p0), .val (.int p1), .val (.int p2), .val (.int p3), .val (.int p4), .val (.int (2 : Int32)), .val (.int K), .val (.ref b27), .val (.ref b36), .val (.int (p2 &&& (7 : Int32))), .val (.int (p3 &&& (7 : Int32))), .val (.int (p4 &&& (7 : Int32))), .val (.ref b45), .val (.ref b48), .val (.int (((31 : Int32) * ((31 : Int32) + (elemG ((p2 &&& (7 : Int32))).toNatClampNeg))) + (elemG ((p3 &&& (7 : Int32))).toNatClampNeg))), .unset] [(.int ((31 : Int32) * K))])
    refine Go.step (fun _ k => XS.iload X50.here hx rfl (hb hby at_254) rfl k) ?_
    show Go _ _ _ _ _ _ _ T50 (mkF m 256 #[.val (.int p0), .val (.int p1), .val (.int p2), .val (.int p3), .val (.int p4), .val (.int (2 : Int32)), .val (.int K), .val (.ref b27), .val (.ref b36), .val (.int (p2 &&& (7 : Int32))), .val (.int (p3 &&& (7 : Int32))), .val (.int (p4 &&& (7 : Int32))), .val (.ref b45), .val (.ref b48), .val (.int (((31 : Int32) * ((31 : Int32) + (elemG ((p2 &&& (7 : Int32))).toNatClampNeg))) + (elemG ((p3 &&& (7 : Int32))).toNatClampNeg))), .unset] [(.int (((31 : Int32) * ((31 : Int32) + (elemG ((p2 &&& (7 : Int32))).toNatClampNeg))) + (elemG ((p3 &&& (7 : Int32))).toNatClampNeg))), (.int ((31 : Int32) * K))])
    refine Go.step (fun _ k => XS.iadd X50.here hx rfl (hb hby at_256) rfl k) ?_
    show Go _ _ _ _ _ _ _ T50 (mkF m 257 #[.val (.int p0), .val (.int p1), .val (.int p2), .val (.int p3), .val (.int p4), .val (.int (2 : Int32)), .val (.int K), .val (.ref b27), .val (.ref b36), .val (.int (p2 &&& (7 : Int32))), .val (.int (p3 &&& (7 : Int32))), .val (.int (p4 &&& (7 : Int32))), .val (.ref b45), .val (.ref b48), .val (.int (((31 : Int32) * ((31 : Int32) + (elemG ((p2 &&& (7 : Int32))).toNatClampNeg))) + (elemG ((p3 &&& (7 : Int32))).toNatClampNeg))), .unset] [(.int (((31 : Int32) * K) + (((31 : Int32) * ((31 : Int32) + (elemG ((p2 &&& (7 : Int32))).toNatClampNeg))) + (elemG ((p3 &&& (7 : Int32))).toNatClampNeg))))])
    refine Go.step (fun _ k => XS.istore X50.here hx rfl (hb hby at_257) rfl (l' := #[.val (.int p0), .val (.int p1), .val (.int p2), .val (.int p3), .val (.int p4), .val (.int (2 : Int32)), .val (.int K), .val (.ref b27), .val (.ref b36), .val (.int (p2 &&& (7 : Int32))), .val (.int (p3 &&& (7 : Int32))), .val (.int (p4 &&& (7 : Int32))), .val (.ref b45), .val (.ref b48), .val (.int (((31 : Int32) * ((31 : Int32) + (elemG ((p2 &&& (7 : Int32))).toNatClampNeg))) + (elemG ((p3 &&& (7 : Int32))).toNatClampNeg))), .val (.int (((31 : Int32) * K) + (((31 : Int32) * ((31 : Int32) + (elemG ((p2 &&& (7 : Int32))).toNatClampNeg))) + (elemG ((p3 &&& (7 : Int32))).toNatClampNeg))))]) rfl k) ?_
    show Go _ _ _ _ _ _ _ T50 (mkF m 259 #[.val (.int p0), .val (.int p1), .val (.int p2), .val (.int p3), .val (.int p4), .val (.int (2 : Int32)), .val (.int K), .val (.ref b27), .val (.ref b36), .val (.int (p2 &&& (7 : Int32))), .val (.int (p3 &&& (7 : Int32))), .val (.int (p4 &&& (7 : Int32))), .val (.ref b45), .val (.ref b48), .val (.int (((31 : Int32) * ((31 : Int32) + (elemG ((p2 &&& (7 : Int32))).toNatClampNeg))) + (elemG ((p3 &&& (7 : Int32))).toNatClampNeg))), .val (.int (((31 : Int32) * K) + (((31 : Int32) * ((31 : Int32) + (elemG ((p2 &&& (7 : Int32))).toNatClampNeg))) + (elemG ((p3 &&& (7 : Int32))).toNatClampNeg))))] [])
    refine Go.step (fun _ k => XS.aload X50.here hx rfl (hb hby at_259) rfl rfl k) ?_
    show Go _ _ _ _ _ _ _ T50 (mkF m 261 #[.val (.int p0), .val (.int p1), .val (.int p2), .val (.int p3), .val (.int p4), .val (.int (2 : Int32)), .val (.int K), .val (.ref b27), .val (.ref b36), .val (.int (p2 &&& (7 : Int32))), .val (.int (p3 &&& (7 : Int32))), .val (.int (p4 &&& (7 : Int32))), .val (.ref b45), .val (.ref b48), .val (.int (((31 : Int32) * ((31 : Int32) + (elemG ((p2 &&& (7 : Int32))).toNatClampNeg))) + (elemG ((p3 &&& (7 : Int32))).toNatClampNeg))), .val (.int (((31 : Int32) * K) + (((31 : Int32) * ((31 : Int32) + (elemG ((p2 &&& (7 : Int32))).toNatClampNeg))) + (elemG ((p3 &&& (7 : Int32))).toNatClampNeg))))] [(.ref b48)])
    refine Go.callV X50 hx hZ (by rw [hml]; rfl) (y := (⟨"tidewatch/decision/KeyGroupCeiling", "hashCode", "()I"⟩ : MethodName)) (z := (⟨"tidewatch/decision/KeyGroupCeiling", "hashCode", "()I"⟩ : MethodName)) (a := b48) (argsL := []) (rest := []) hown (hw _ (List.mem_of_getElem? (i := 53) rfl)) (hw _ (List.mem_of_getElem? (i := 54) rfl)) (notFace_of_selects (args := #[]) (mvT hZ (hw _ (List.mem_of_getElem? (i := 56) rfl)))) (hw _ (List.mem_of_getElem? (i := 56) rfl)) (hw _ (List.mem_of_getElem? (i := 55) rfl)) (hw _ (List.mem_of_getElem? (i := 22) rfl)) (hw _ (List.mem_of_getElem? (i := 57) rfl)) (by decide) (rm6_2 l Z a0 hw b48 c49 K (updN (updN (fun _ => (0 : UInt64)) 0 (valG ((p2 &&& (7 : Int32))).toNatClampNeg)) 1 (valG ((p3 &&& (7 : Int32))).toNatClampNeg)) h50 n0 (Nat.le_trans Z0 (K50 : Keep h0 h50 []).1) Fk49_50 Fc49_50 Vc49_50 (fun i hi' => by rcases (by omega : i = 0 ∨ i = 1) with rfl | rfl; exact hv0.2.1.noNaN; exact hv1.2.1.noNaN)) e50 Ec49_50 (hb hby at_261) (lenOf pd_6 rfl) rfl rfl (W := 0) (Nat.le_of_eq rfl) (by decide) (by decide) (by decide) (by decide) ?_
    intro v51 T51 L51 X51 Q51
    obtain ⟨rfl, N51q, hh51⟩ := Q51
    have N51 := Fr.app N50 N51q
    show Go _ _ _ _ _ _ _ T51 (mkF m 264 #[.val (.int p0), .val (.int p1), .val (.int p2), .val (.int p3), .val (.int p4), .val (.int (2 : Int32)), .val (.int K), .val (.ref b27), .val (.ref b36), .val (.int (p2 &&& (7 : Int32))), .val (.int (p3 &&& (7 : Int32))), .val (.int (p4 &&& (7 : Int32))), .val (.ref b45), .val (.ref b48), .val (.int (((31 : Int32) * ((31 : Int32) + (elemG ((p2 &&& (7 : Int32))).toNatClampNeg))) + (elemG ((p3 &&& (7 : Int32))).toNatClampNeg))), .val (.int (((31 : Int32) * K) + (((31 : Int32) * ((31 : Int32) + (elemG ((p2 &&& (7 : Int32))).toNatClampNeg))) + (elemG ((p3 &&& (7 : Int32))).toNatClampNeg))))] [(.int (((31 : Int32) * K) + hashW 2 (updN (updN (fun _ => (0 : UInt64)) 0 (valG ((p2 &&& (7 : Int32))).toNatClampNeg)) 1 (valG ((p3 &&& (7 : Int32))).toNatClampNeg))))])
    refine Go.step (fun _ k => XS.iload X51.here hx rfl (hb hby at_264) rfl k) ?_
    show Go _ _ _ _ _ _ _ T51 (mkF m 266 #[.val (.int p0), .val (.int p1), .val (.int p2), .val (.int p3), .val (.int p4), .val (.int (2 : Int32)), .val (.int K), .val (.ref b27), .val (.ref b36), .val (.int (p2 &&& (7 : Int32))), .val (.int (p3 &&& (7 : Int32))), .val (.int (p4 &&& (7 : Int32))), .val (.ref b45), .val (.ref b48), .val (.int (((31 : Int32) * ((31 : Int32) + (elemG ((p2 &&& (7 : Int32))).toNatClampNeg))) + (elemG ((p3 &&& (7 : Int32))).toNatClampNeg))), .val (.int (((31 : Int32) * K) + (((31 : Int32) * ((31 : Int32) + (elemG ((p2 &&& (7 : Int32))).toNatClampNeg))) + (elemG ((p3 &&& (7 : Int32))).toNatClampNeg))))] [(.int (((31 : Int32) * K) + (((31 : Int32) * ((31 : Int32) + (elemG ((p2 &&& (7 : Int32))).toNatClampNeg))) + (elemG ((p3 &&& (7 : Int32))).toNatClampNeg)))), (.int (((31 : Int32) * K) + hashW 2 (updN (updN (fun _ => (0 : UInt64)) 0 (valG ((p2 &&& (7 : Int32))).toNatClampNeg)) 1 (valG ((p3 &&& (7 : Int32))).toNatClampNeg))))])
    refine Go.step (fun _ k => XS.icmpNo X51.here hx rfl (hb hby at_266) rfl (teq (own_h2 (valG ((p2 &&& (7 : Int32))).toNatClampNeg) (valG ((p3 &&& (7 : Int32))).toNatClampNeg) (updN (updN (fun _ => (0 : UInt64)) 0 (valG ((p2 &&& (7 : Int32))).toNatClampNeg)) 1 (valG ((p3 &&& (7 : Int32))).toNatClampNeg)) hv0.1 hv1.1 rfl rfl)).2 k) ?_
    show Go _ _ _ _ _ _ _ T51 (mkF m 269 #[.val (.int p0), .val (.int p1), .val (.int p2), .val (.int p3), .val (.int p4), .val (.int (2 : Int32)), .val (.int K), .val (.ref b27), .val (.ref b36), .val (.int (p2 &&& (7 : Int32))), .val (.int (p3 &&& (7 : Int32))), .val (.int (p4 &&& (7 : Int32))), .val (.ref b45), .val (.ref b48), .val (.int (((31 : Int32) * ((31 : Int32) + (elemG ((p2 &&& (7 : Int32))).toNatClampNeg))) + (elemG ((p3 &&& (7 : Int32))).toNatClampNeg))), .val (.int (((31 : Int32) * K) + (((31 : Int32) * ((31 : Int32) + (elemG ((p2 &&& (7 : Int32))).toNatClampNeg))) + (elemG ((p3 &&& (7 : Int32))).toNatClampNeg))))] [])
    refine Go.step (fun _ k => XS.iconst X51.here hx rfl (hb hby at_269) k) ?_
    show Go _ _ _ _ _ _ _ T51 (mkF m 270 #[.val (.int p0), .val (.int p1), .val (.int p2), .val (.int p3), .val (.int p4), .val (.int (2 : Int32)), .val (.int K), .val (.ref b27), .val (.ref b36), .val (.int (p2 &&& (7 : Int32))), .val (.int (p3 &&& (7 : Int32))), .val (.int (p4 &&& (7 : Int32))), .val (.ref b45), .val (.ref b48), .val (.int (((31 : Int32) * ((31 : Int32) + (elemG ((p2 &&& (7 : Int32))).toNatClampNeg))) + (elemG ((p3 &&& (7 : Int32))).toNatClampNeg))), .val (.int (((31 : Int32) * K) + (((31 : Int32) * ((31 : Int32) + (elemG ((p2 &&& (7 : Int32))).toNatClampNeg))) + (elemG ((p3 &&& (7 : Int32))).toNatClampNeg))))] [(.int (1 : Int32))])
    refine Go.step (fun _ k => XS.goto X51.here hx rfl (pc0 := 270) (pc' := 274) rfl (hb hby at_270) (by decide) (by decide) k) ?_
    show Go _ _ _ _ _ _ _ T51 (mkF m 274 #[.val (.int p0), .val (.int p1), .val (.int p2), .val (.int p3), .val (.int p4), .val (.int (2 : Int32)), .val (.int K), .val (.ref b27), .val (.ref b36), .val (.int (p2 &&& (7 : Int32))), .val (.int (p3 &&& (7 : Int32))), .val (.int (p4 &&& (7 : Int32))), .val (.ref b45), .val (.ref b48), .val (.int (((31 : Int32) * ((31 : Int32) + (elemG ((p2 &&& (7 : Int32))).toNatClampNeg))) + (elemG ((p3 &&& (7 : Int32))).toNatClampNeg))), .val (.int (((31 : Int32) * K) + (((31 : Int32) * ((31 : Int32) + (elemG ((p2 &&& (7 : Int32))).toNatClampNeg))) + (elemG ((p3 &&& (7 : Int32))).toNatClampNeg))))] [(.int (1 : Int32))])
    refine Go.retZ X51 hx hlk hret (by decide) (hb hby at_274) (by decide) (by decide) ?_
    try rw [hh51]
    exact ⟨rfl, N51⟩
  · show Go _ _ _ _ _ _ _ T0 (mkF m 10 #[.val (.int p0), .val (.int p1), .val (.int p2), .val (.int p3), .val (.int p4), .val (.int (3 : Int32)), .unset, .unset, .unset, .unset, .unset, .unset, .unset, .unset, .unset, .unset] [])
    refine Go.step (fun _ k => XS.iload X0.here hx rfl (hb hby at_10) rfl k) ?_
    show Go _ _ _ _ _ _ _ T0 (mkF m 12 #[.val (.int p0), .val (.int p1), .val (.int p2), .val (.int p3), .val (.int p4), .val (.int (3 : Int32)), .unset, .unset, .unset, .unset, .unset, .unset, .unset, .unset, .unset, .unset] [(.int (3 : Int32))])
    refine Go.step (fun _ k => XS.iloadN X0.here hx rfl (hb hby at_12) rfl k) ?_
    show Go _ _ _ _ _ _ _ T0 (mkF m 13 #[.val (.int p0), .val (.int p1), .val (.int p2), .val (.int p3), .val (.int p4), .val (.int (3 : Int32)), .unset, .unset, .unset, .unset, .unset, .unset, .unset, .unset, .unset, .unset] [(.int p0), (.int (3 : Int32))])
    refine Go.callS X0 hx hZ (by rw [hml]; rfl) (y := (⟨"java/lang/Math", "max", "(II)I"⟩ : MethodName)) (argsL := [(.int (3 : Int32)), (.int p0)]) (rest := []) hown (hw _ (List.mem_of_getElem? (i := 1) rfl)) (hw _ (List.mem_of_getElem? (i := 2) rfl)) (hw _ (List.mem_of_getElem? (i := 3) rfl)) (hw _ (List.mem_of_getElem? (i := 4) rfl)) (by decide) (rm1 l Z a0 hw (3 : Int32) p0 h0 n0 Z0) e0 (hb hby at_13) (lenOf pd_4 rfl) rfl rfl (W := 0) (Nat.le_of_eq rfl) (by decide) (by decide) (by decide) (by decide) ?_
    intro v52 T52 L52 X52 Q52
    obtain ⟨rfl, N52q, hh52⟩ := Q52
    have N52 := Fr.app N0 N52q
    show Go _ _ _ _ _ _ _ T52 (mkF m 16 #[.val (.int p0), .val (.int p1), .val (.int p2), .val (.int p3), .val (.int p4), .val (.int (3 : Int32)), .unset, .unset, .unset, .unset, .unset, .unset, .unset, .unset, .unset, .unset] [(.int (imaxW (3 : Int32) p0))])
    refine Go.step (fun _ k => XS.istore X52.here hx rfl (hb hby at_16) rfl (l' := #[.val (.int p0), .val (.int p1), .val (.int p2), .val (.int p3), .val (.int p4), .val (.int (3 : Int32)), .val (.int (imaxW (3 : Int32) p0)), .unset, .unset, .unset, .unset, .unset, .unset, .unset, .unset, .unset]) rfl k) ?_
    obtain ⟨K, h_K⟩ : ∃ z, z = (imaxW (3 : Int32) p0) := ⟨_, rfl⟩
    rw [← h_K]
    have hK := own_kk h_K
    show Go _ _ _ _ _ _ _ T52 (mkF m 18 #[.val (.int p0), .val (.int p1), .val (.int p2), .val (.int p3), .val (.int p4), .val (.int (3 : Int32)), .val (.int K), .unset, .unset, .unset, .unset, .unset, .unset, .unset, .unset, .unset] [])
    refine Go.step (fun _ k => XS.bipush X52.here hx rfl (hb hby at_18) k) ?_
    show Go _ _ _ _ _ _ _ T52 (mkF m 20 #[.val (.int p0), .val (.int p1), .val (.int p2), .val (.int p3), .val (.int p4), .val (.int (3 : Int32)), .val (.int K), .unset, .unset, .unset, .unset, .unset, .unset, .unset, .unset, .unset] [(.int (8 : Int32))])
    obtain ⟨T53, h53, k53, X53, e53, E53, A53, B53, st53⟩ := newPE X52 hx hZ (hw _ (List.mem_of_getElem? (i := 5) rfl)) hh52 (g := (mkF m 20 #[.val (.int p0), .val (.int p1), .val (.int p2), .val (.int p3), .val (.int p4), .val (.int (3 : Int32)), .val (.int K), .unset, .unset, .unset, .unset, .unset, .unset, .unset, .unset, .unset] [(.int (8 : Int32))])) rfl (hb hby at_20) rfl (by decide) (cap := 8) (by decide) (by decide) (by decide) (by decide) (ad := "[D") (by decide)
    obtain ⟨b53, g53⟩ : ∃ z, z = h0.size := ⟨_, rfl⟩
    rw [← g53] at A53 B53 st53
    refine Go.step st53 ?_
    have K53 : Keep h0 h53 [] := (Keep.refl h0 []).ext E53
    have sz_b53 : h0.size ≤ b53 := Nat.le_trans ((Keep.refl h0 []) : Keep h0 h0 []).1 (Nat.le_of_eq g53.symm)
    have ge_b53 : n0 ≤ b53 := Nat.le_trans Z0 sz_b53
    have V_b53 : Dv Z h53 b53 (8 : Int32) (fun _ => (0 : UInt64)) := Fv.new A53 (by decide)
    have E_b53 := B53
    show Go _ _ _ _ _ _ _ T53 (mkF m 22 #[.val (.int p0), .val (.int p1), .val (.int p2), .val (.int p3), .val (.int p4), .val (.int (3 : Int32)), .val (.int K), .unset, .unset, .unset, .unset, .unset, .unset, .unset, .unset, .unset] [(.ref b53)])
    refine Go.step (fun _ k => XS.dup X53.here hx rfl (hb hby at_22) rfl rfl k) ?_
    show Go _ _ _ _ _ _ _ T53 (mkF m 23 #[.val (.int p0), .val (.int p1), .val (.int p2), .val (.int p3), .val (.int p4), .val (.int (3 : Int32)), .val (.int K), .unset, .unset, .unset, .unset, .unset, .unset, .unset, .unset, .unset] [(.ref b53), (.ref b53)])
    refine Go.step (fun _ k => XS.iconst X53.here hx rfl (hb hby at_23) k) ?_
    show Go _ _ _ _ _ _ _ T53 (mkF m 24 #[.val (.int p0), .val (.int p1), .val (.int p2), .val (.int p3), .val (.int p4), .val (.int (3 : Int32)), .val (.int K), .unset, .unset, .unset, .unset, .unset, .unset, .unset, .unset, .unset] [(.int (0 : Int32)), (.ref b53), (.ref b53)])
    refine Go.step (fun _ k => XS.dconst0 X53.here hx rfl (hb hby at_24) rfl k) ?_
    show Go _ _ _ _ _ _ _ T53 (mkF m 25 #[.val (.int p0), .val (.int p1), .val (.int p2), .val (.int p3), .val (.int p4), .val (.int (3 : Int32)), .val (.int K), .unset, .unset, .unset, .unset, .unset, .unset, .unset, .unset, .unset] [(.double (0 : UInt64)), (.int (0 : Int32)), (.ref b53), (.ref b53)])
    refine Go.dastore X53 hx hZ e53 V_b53 (j := (0 : Int32)) (x := (0 : UInt64)) (by decide) (hb hby at_25) ?_
    intro T54 h54 X54 e54 W54 Vn54
    have V_b53_54 : Dv Z h54 b53 (8 : Int32) (updN (fun _ => (0 : UInt64)) 0 (0 : UInt64)) := Vn54
    have N54 := Fr.snoc X54 N52 ge_b53
    have E_b53_54 := E_b53.wr W54
    have K54 : Keep h0 h54 [] := K53.wr W54 (Or.inr sz_b53)
    show Go _ _ _ _ _ _ _ T54 (mkF m 26 #[.val (.int p0), .val (.int p1), .val (.int p2), .val (.int p3), .val (.int p4), .val (.int (3 : Int32)), .val (.int K), .unset, .unset, .unset, .unset, .unset, .unset, .unset, .unset, .unset] [(.ref b53)])
    refine Go.step (fun _ k => XS.dup X54.here hx rfl (hb hby at_26) rfl rfl k) ?_
    show Go _ _ _ _ _ _ _ T54 (mkF m 27 #[.val (.int p0), .val (.int p1), .val (.int p2), .val (.int p3), .val (.int p4), .val (.int (3 : Int32)), .val (.int K), .unset, .unset, .unset, .unset, .unset, .unset, .unset, .unset, .unset] [(.ref b53), (.ref b53)])
    refine Go.step (fun _ k => XS.iconst X54.here hx rfl (hb hby at_27) k) ?_
    show Go _ _ _ _ _ _ _ T54 (mkF m 28 #[.val (.int p0), .val (.int p1), .val (.int p2), .val (.int p3), .val (.int p4), .val (.int (3 : Int32)), .val (.int K), .unset, .unset, .unset, .unset, .unset, .unset, .unset, .unset, .unset] [(.int (1 : Int32)), (.ref b53), (.ref b53)])
    refine Go.step (X54.ldc2DoubleC hx hown (mvT hZ (hw _ (List.mem_of_getElem? (i := 6) rfl))) (g := (mkF m 28 #[.val (.int p0), .val (.int p1), .val (.int p2), .val (.int p3), .val (.int p4), .val (.int (3 : Int32)), .val (.int K), .unset, .unset, .unset, .unset, .unset, .unset, .unset, .unset, .unset] [(.int (1 : Int32)), (.ref b53), (.ref b53)])) rfl (hb hby at_28)) ?_
    show Go _ _ _ _ _ _ _ T54 (mkF m 31 #[.val (.int p0), .val (.int p1), .val (.int p2), .val (.int p3), .val (.int p4), .val (.int (3 : Int32)), .val (.int K), .unset, .unset, .unset, .unset, .unset, .unset, .unset, .unset, .unset] [(.double (9223372036854775808 : UInt64)), (.int (1 : Int32)), (.ref b53), (.ref b53)])
    refine Go.dastore X54 hx hZ e54 V_b53_54 (j := (1 : Int32)) (x := (9223372036854775808 : UInt64)) (by decide) (hb hby at_31) ?_
    intro T55 h55 X55 e55 W55 Vn55
    have V_b53_55 : Dv Z h55 b53 (8 : Int32) (updN (updN (fun _ => (0 : UInt64)) 0 (0 : UInt64)) 1 (9223372036854775808 : UInt64)) := Vn55
    have N55 := Fr.snoc X55 N54 ge_b53
    have E_b53_55 := E_b53_54.wr W55
    have K55 : Keep h0 h55 [] := K54.wr W55 (Or.inr sz_b53)
    show Go _ _ _ _ _ _ _ T55 (mkF m 32 #[.val (.int p0), .val (.int p1), .val (.int p2), .val (.int p3), .val (.int p4), .val (.int (3 : Int32)), .val (.int K), .unset, .unset, .unset, .unset, .unset, .unset, .unset, .unset, .unset] [(.ref b53)])
    refine Go.step (fun _ k => XS.dup X55.here hx rfl (hb hby at_32) rfl rfl k) ?_
    show Go _ _ _ _ _ _ _ T55 (mkF m 33 #[.val (.int p0), .val (.int p1), .val (.int p2), .val (.int p3), .val (.int p4), .val (.int (3 : Int32)), .val (.int K), .unset, .unset, .unset, .unset, .unset, .unset, .unset, .unset, .unset] [(.ref b53), (.ref b53)])
    refine Go.step (fun _ k => XS.iconst X55.here hx rfl (hb hby at_33) k) ?_
    show Go _ _ _ _ _ _ _ T55 (mkF m 34 #[.val (.int p0), .val (.int p1), .val (.int p2), .val (.int p3), .val (.int p4), .val (.int (3 : Int32)), .val (.int K), .unset, .unset, .unset, .unset, .unset, .unset, .unset, .unset, .unset] [(.int (2 : Int32)), (.ref b53), (.ref b53)])
    refine Go.step (X55.ldc2DoubleC hx hown (mvT hZ (hw _ (List.mem_of_getElem? (i := 7) rfl))) (g := (mkF m 34 #[.val (.int p0), .val (.int p1), .val (.int p2), .val (.int p3), .val (.int p4), .val (.int (3 : Int32)), .val (.int K), .unset, .unset, .unset, .unset, .unset, .unset, .unset, .unset, .unset] [(.int (2 : Int32)), (.ref b53), (.ref b53)])) rfl (hb hby at_34)) ?_
    show Go _ _ _ _ _ _ _ T55 (mkF m 37 #[.val (.int p0), .val (.int p1), .val (.int p2), .val (.int p3), .val (.int p4), .val (.int (3 : Int32)), .val (.int K), .unset, .unset, .unset, .unset, .unset, .unset, .unset, .unset, .unset] [(.double (4602678819172646912 : UInt64)), (.int (2 : Int32)), (.ref b53), (.ref b53)])
    refine Go.dastore X55 hx hZ e55 V_b53_55 (j := (2 : Int32)) (x := (4602678819172646912 : UInt64)) (by decide) (hb hby at_37) ?_
    intro T56 h56 X56 e56 W56 Vn56
    have V_b53_56 : Dv Z h56 b53 (8 : Int32) (updN (updN (updN (fun _ => (0 : UInt64)) 0 (0 : UInt64)) 1 (9223372036854775808 : UInt64)) 2 (4602678819172646912 : UInt64)) := Vn56
    have N56 := Fr.snoc X56 N55 ge_b53
    have E_b53_56 := E_b53_55.wr W56
    have K56 : Keep h0 h56 [] := K55.wr W56 (Or.inr sz_b53)
    show Go _ _ _ _ _ _ _ T56 (mkF m 38 #[.val (.int p0), .val (.int p1), .val (.int p2), .val (.int p3), .val (.int p4), .val (.int (3 : Int32)), .val (.int K), .unset, .unset, .unset, .unset, .unset, .unset, .unset, .unset, .unset] [(.ref b53)])
    refine Go.step (fun _ k => XS.dup X56.here hx rfl (hb hby at_38) rfl rfl k) ?_
    show Go _ _ _ _ _ _ _ T56 (mkF m 39 #[.val (.int p0), .val (.int p1), .val (.int p2), .val (.int p3), .val (.int p4), .val (.int (3 : Int32)), .val (.int K), .unset, .unset, .unset, .unset, .unset, .unset, .unset, .unset, .unset] [(.ref b53), (.ref b53)])
    refine Go.step (fun _ k => XS.iconst X56.here hx rfl (hb hby at_39) k) ?_
    show Go _ _ _ _ _ _ _ T56 (mkF m 40 #[.val (.int p0), .val (.int p1), .val (.int p2), .val (.int p3), .val (.int p4), .val (.int (3 : Int32)), .val (.int K), .unset, .unset, .unset, .unset, .unset, .unset, .unset, .unset, .unset] [(.int (3 : Int32)), (.ref b53), (.ref b53)])
    refine Go.step (fun _ k => XS.dconst1 X56.here hx rfl (hb hby at_40) rfl k) ?_
    show Go _ _ _ _ _ _ _ T56 (mkF m 41 #[.val (.int p0), .val (.int p1), .val (.int p2), .val (.int p3), .val (.int p4), .val (.int (3 : Int32)), .val (.int K), .unset, .unset, .unset, .unset, .unset, .unset, .unset, .unset, .unset] [(.double (4607182418800017408 : UInt64)), (.int (3 : Int32)), (.ref b53), (.ref b53)])
    refine Go.dastore X56 hx hZ e56 V_b53_56 (j := (3 : Int32)) (x := (4607182418800017408 : UInt64)) (by decide) (hb hby at_41) ?_
    intro T57 h57 X57 e57 W57 Vn57
    have V_b53_57 : Dv Z h57 b53 (8 : Int32) (updN (updN (updN (updN (fun _ => (0 : UInt64)) 0 (0 : UInt64)) 1 (9223372036854775808 : UInt64)) 2 (4602678819172646912 : UInt64)) 3 (4607182418800017408 : UInt64)) := Vn57
    have N57 := Fr.snoc X57 N56 ge_b53
    have E_b53_57 := E_b53_56.wr W57
    have K57 : Keep h0 h57 [] := K56.wr W57 (Or.inr sz_b53)
    show Go _ _ _ _ _ _ _ T57 (mkF m 42 #[.val (.int p0), .val (.int p1), .val (.int p2), .val (.int p3), .val (.int p4), .val (.int (3 : Int32)), .val (.int K), .unset, .unset, .unset, .unset, .unset, .unset, .unset, .unset, .unset] [(.ref b53)])
    refine Go.step (fun _ k => XS.dup X57.here hx rfl (hb hby at_42) rfl rfl k) ?_
    show Go _ _ _ _ _ _ _ T57 (mkF m 43 #[.val (.int p0), .val (.int p1), .val (.int p2), .val (.int p3), .val (.int p4), .val (.int (3 : Int32)), .val (.int K), .unset, .unset, .unset, .unset, .unset, .unset, .unset, .unset, .unset] [(.ref b53), (.ref b53)])
    refine Go.step (fun _ k => XS.iconst X57.here hx rfl (hb hby at_43) k) ?_
    show Go _ _ _ _ _ _ _ T57 (mkF m 44 #[.val (.int p0), .val (.int p1), .val (.int p2), .val (.int p3), .val (.int p4), .val (.int (3 : Int32)), .val (.int K), .unset, .unset, .unset, .unset, .unset, .unset, .unset, .unset, .unset] [(.int (4 : Int32)), (.ref b53), (.ref b53)])
    refine Go.step (X57.ldc2DoubleC hx hown (mvT hZ (hw _ (List.mem_of_getElem? (i := 8) rfl))) (g := (mkF m 44 #[.val (.int p0), .val (.int p1), .val (.int p2), .val (.int p3), .val (.int p4), .val (.int (3 : Int32)), .val (.int K), .unset, .unset, .unset, .unset, .unset, .unset, .unset, .unset, .unset] [(.int (4 : Int32)), (.ref b53), (.ref b53)])) rfl (hb hby at_44)) ?_
    show Go _ _ _ _ _ _ _ T57 (mkF m 47 #[.val (.int p0), .val (.int p1), .val (.int p2), .val (.int p3), .val (.int p4), .val (.int (3 : Int32)), .val (.int K), .unset, .unset, .unset, .unset, .unset, .unset, .unset, .unset, .unset] [(.double (4609434218613702656 : UInt64)), (.int (4 : Int32)), (.ref b53), (.ref b53)])
    refine Go.dastore X57 hx hZ e57 V_b53_57 (j := (4 : Int32)) (x := (4609434218613702656 : UInt64)) (by decide) (hb hby at_47) ?_
    intro T58 h58 X58 e58 W58 Vn58
    have V_b53_58 : Dv Z h58 b53 (8 : Int32) (updN (updN (updN (updN (updN (fun _ => (0 : UInt64)) 0 (0 : UInt64)) 1 (9223372036854775808 : UInt64)) 2 (4602678819172646912 : UInt64)) 3 (4607182418800017408 : UInt64)) 4 (4609434218613702656 : UInt64)) := Vn58
    have N58 := Fr.snoc X58 N57 ge_b53
    have E_b53_58 := E_b53_57.wr W58
    have K58 : Keep h0 h58 [] := K57.wr W58 (Or.inr sz_b53)
    show Go _ _ _ _ _ _ _ T58 (mkF m 48 #[.val (.int p0), .val (.int p1), .val (.int p2), .val (.int p3), .val (.int p4), .val (.int (3 : Int32)), .val (.int K), .unset, .unset, .unset, .unset, .unset, .unset, .unset, .unset, .unset] [(.ref b53)])
    refine Go.step (fun _ k => XS.dup X58.here hx rfl (hb hby at_48) rfl rfl k) ?_
    show Go _ _ _ _ _ _ _ T58 (mkF m 49 #[.val (.int p0), .val (.int p1), .val (.int p2), .val (.int p3), .val (.int p4), .val (.int (3 : Int32)), .val (.int K), .unset, .unset, .unset, .unset, .unset, .unset, .unset, .unset, .unset] [(.ref b53), (.ref b53)])
    refine Go.step (fun _ k => XS.iconst X58.here hx rfl (hb hby at_49) k) ?_
    show Go _ _ _ _ _ _ _ T58 (mkF m 50 #[.val (.int p0), .val (.int p1), .val (.int p2), .val (.int p3), .val (.int p4), .val (.int (3 : Int32)), .val (.int K), .unset, .unset, .unset, .unset, .unset, .unset, .unset, .unset, .unset] [(.int (5 : Int32)), (.ref b53), (.ref b53)])
    refine Go.step (X58.ldc2DoubleC hx hown (mvT hZ (hw _ (List.mem_of_getElem? (i := 9) rfl))) (g := (mkF m 50 #[.val (.int p0), .val (.int p1), .val (.int p2), .val (.int p3), .val (.int p4), .val (.int (3 : Int32)), .val (.int K), .unset, .unset, .unset, .unset, .unset, .unset, .unset, .unset, .unset] [(.int (5 : Int32)), (.ref b53), (.ref b53)])) rfl (hb hby at_50)) ?_
    show Go _ _ _ _ _ _ _ T58 (mkF m 53 #[.val (.int p0), .val (.int p1), .val (.int p2), .val (.int p3), .val (.int p4), .val (.int (3 : Int32)), .val (.int K), .unset, .unset, .unset, .unset, .unset, .unset, .unset, .unset, .unset] [(.double (4611686018427387904 : UInt64)), (.int (5 : Int32)), (.ref b53), (.ref b53)])
    refine Go.dastore X58 hx hZ e58 V_b53_58 (j := (5 : Int32)) (x := (4611686018427387904 : UInt64)) (by decide) (hb hby at_53) ?_
    intro T59 h59 X59 e59 W59 Vn59
    have V_b53_59 : Dv Z h59 b53 (8 : Int32) (updN (updN (updN (updN (updN (updN (fun _ => (0 : UInt64)) 0 (0 : UInt64)) 1 (9223372036854775808 : UInt64)) 2 (4602678819172646912 : UInt64)) 3 (4607182418800017408 : UInt64)) 4 (4609434218613702656 : UInt64)) 5 (4611686018427387904 : UInt64)) := Vn59
    have N59 := Fr.snoc X59 N58 ge_b53
    have E_b53_59 := E_b53_58.wr W59
    have K59 : Keep h0 h59 [] := K58.wr W59 (Or.inr sz_b53)
    show Go _ _ _ _ _ _ _ T59 (mkF m 54 #[.val (.int p0), .val (.int p1), .val (.int p2), .val (.int p3), .val (.int p4), .val (.int (3 : Int32)), .val (.int K), .unset, .unset, .unset, .unset, .unset, .unset, .unset, .unset, .unset] [(.ref b53)])
    refine Go.step (fun _ k => XS.dup X59.here hx rfl (hb hby at_54) rfl rfl k) ?_
    show Go _ _ _ _ _ _ _ T59 (mkF m 55 #[.val (.int p0), .val (.int p1), .val (.int p2), .val (.int p3), .val (.int p4), .val (.int (3 : Int32)), .val (.int K), .unset, .unset, .unset, .unset, .unset, .unset, .unset, .unset, .unset] [(.ref b53), (.ref b53)])
    refine Go.step (fun _ k => XS.bipush X59.here hx rfl (hb hby at_55) k) ?_
    show Go _ _ _ _ _ _ _ T59 (mkF m 57 #[.val (.int p0), .val (.int p1), .val (.int p2), .val (.int p3), .val (.int p4), .val (.int (3 : Int32)), .val (.int K), .unset, .unset, .unset, .unset, .unset, .unset, .unset, .unset, .unset] [(.int (6 : Int32)), (.ref b53), (.ref b53)])
    refine Go.step (X59.ldc2DoubleC hx hown (mvT hZ (hw _ (List.mem_of_getElem? (i := 10) rfl))) (g := (mkF m 57 #[.val (.int p0), .val (.int p1), .val (.int p2), .val (.int p3), .val (.int p4), .val (.int (3 : Int32)), .val (.int K), .unset, .unset, .unset, .unset, .unset, .unset, .unset, .unset, .unset] [(.int (6 : Int32)), (.ref b53), (.ref b53)])) rfl (hb hby at_57)) ?_
    show Go _ _ _ _ _ _ _ T59 (mkF m 60 #[.val (.int p0), .val (.int p1), .val (.int p2), .val (.int p3), .val (.int p4), .val (.int (3 : Int32)), .val (.int K), .unset, .unset, .unset, .unset, .unset, .unset, .unset, .unset, .unset] [(.double (4613937818241073152 : UInt64)), (.int (6 : Int32)), (.ref b53), (.ref b53)])
    refine Go.dastore X59 hx hZ e59 V_b53_59 (j := (6 : Int32)) (x := (4613937818241073152 : UInt64)) (by decide) (hb hby at_60) ?_
    intro T60 h60 X60 e60 W60 Vn60
    have V_b53_60 : Dv Z h60 b53 (8 : Int32) (updN (updN (updN (updN (updN (updN (updN (fun _ => (0 : UInt64)) 0 (0 : UInt64)) 1 (9223372036854775808 : UInt64)) 2 (4602678819172646912 : UInt64)) 3 (4607182418800017408 : UInt64)) 4 (4609434218613702656 : UInt64)) 5 (4611686018427387904 : UInt64)) 6 (4613937818241073152 : UInt64)) := Vn60
    have N60 := Fr.snoc X60 N59 ge_b53
    have E_b53_60 := E_b53_59.wr W60
    have K60 : Keep h0 h60 [] := K59.wr W60 (Or.inr sz_b53)
    show Go _ _ _ _ _ _ _ T60 (mkF m 61 #[.val (.int p0), .val (.int p1), .val (.int p2), .val (.int p3), .val (.int p4), .val (.int (3 : Int32)), .val (.int K), .unset, .unset, .unset, .unset, .unset, .unset, .unset, .unset, .unset] [(.ref b53)])
    refine Go.step (fun _ k => XS.dup X60.here hx rfl (hb hby at_61) rfl rfl k) ?_
    show Go _ _ _ _ _ _ _ T60 (mkF m 62 #[.val (.int p0), .val (.int p1), .val (.int p2), .val (.int p3), .val (.int p4), .val (.int (3 : Int32)), .val (.int K), .unset, .unset, .unset, .unset, .unset, .unset, .unset, .unset, .unset] [(.ref b53), (.ref b53)])
    refine Go.step (fun _ k => XS.bipush X60.here hx rfl (hb hby at_62) k) ?_
    show Go _ _ _ _ _ _ _ T60 (mkF m 64 #[.val (.int p0), .val (.int p1), .val (.int p2), .val (.int p3), .val (.int p4), .val (.int (3 : Int32)), .val (.int K), .unset, .unset, .unset, .unset, .unset, .unset, .unset, .unset, .unset] [(.int (7 : Int32)), (.ref b53), (.ref b53)])
    refine Go.step (X60.ldc2DoubleC hx hown (mvT hZ (hw _ (List.mem_of_getElem? (i := 11) rfl))) (g := (mkF m 64 #[.val (.int p0), .val (.int p1), .val (.int p2), .val (.int p3), .val (.int p4), .val (.int (3 : Int32)), .val (.int K), .unset, .unset, .unset, .unset, .unset, .unset, .unset, .unset, .unset] [(.int (7 : Int32)), (.ref b53), (.ref b53)])) rfl (hb hby at_64)) ?_
    show Go _ _ _ _ _ _ _ T60 (mkF m 67 #[.val (.int p0), .val (.int p1), .val (.int p2), .val (.int p3), .val (.int p4), .val (.int (3 : Int32)), .val (.int K), .unset, .unset, .unset, .unset, .unset, .unset, .unset, .unset, .unset] [(.double (4591870180066957722 : UInt64)), (.int (7 : Int32)), (.ref b53), (.ref b53)])
    refine Go.dastore X60 hx hZ e60 V_b53_60 (j := (7 : Int32)) (x := (4591870180066957722 : UInt64)) (by decide) (hb hby at_67) ?_
    intro T61 h61 X61 e61 W61 Vn61
    have V_b53_61 : Dv Z h61 b53 (8 : Int32) (updN (updN (updN (updN (updN (updN (updN (updN (fun _ => (0 : UInt64)) 0 (0 : UInt64)) 1 (9223372036854775808 : UInt64)) 2 (4602678819172646912 : UInt64)) 3 (4607182418800017408 : UInt64)) 4 (4609434218613702656 : UInt64)) 5 (4611686018427387904 : UInt64)) 6 (4613937818241073152 : UInt64)) 7 (4591870180066957722 : UInt64)) := Vn61
    have N61 := Fr.snoc X61 N60 ge_b53
    have E_b53_61 := E_b53_60.wr W61
    have K61 : Keep h0 h61 [] := K60.wr W61 (Or.inr sz_b53)
    show Go _ _ _ _ _ _ _ T61 (mkF m 68 #[.val (.int p0), .val (.int p1), .val (.int p2), .val (.int p3), .val (.int p4), .val (.int (3 : Int32)), .val (.int K), .unset, .unset, .unset, .unset, .unset, .unset, .unset, .unset, .unset] [(.ref b53)])
    refine Go.step (fun _ k => XS.astore X61.here hx rfl (hb hby at_68) rfl rfl (l' := #[.val (.int p0), .val (.int p1), .val (.int p2), .val (.int p3), .val (.int p4), .val (.int (3 : Int32)), .val (.int K), .val (.ref b53), .unset, .unset, .unset, .unset, .unset, .unset, .unset, .unset]) rfl k) ?_
    show Go _ _ _ _ _ _ _ T61 (mkF m 70 #[.val (.int p0), .val (.int p1), .val (.int p2), .val (.int p3), .val (.int p4), .val (.int (3 : Int32)), .val (.int K), .val (.ref b53), .unset, .unset, .unset, .unset, .unset, .unset, .unset, .unset] [])
    refine Go.step (fun _ k => XS.bipush X61.here hx rfl (hb hby at_70) k) ?_
    show Go _ _ _ _ _ _ _ T61 (mkF m 72 #[.val (.int p0), .val (.int p1), .val (.int p2), .val (.int p3), .val (.int p4), .val (.int (3 : Int32)), .val (.int K), .val (.ref b53), .unset, .unset, .unset, .unset, .unset, .unset, .unset, .unset] [(.int (8 : Int32))])
    obtain ⟨T62, h62, k62, X62, e62, E62, A62, B62, st62⟩ := newPE X61 hx hZ (hw _ (List.mem_of_getElem? (i := 12) rfl)) e61 (g := (mkF m 72 #[.val (.int p0), .val (.int p1), .val (.int p2), .val (.int p3), .val (.int p4), .val (.int (3 : Int32)), .val (.int K), .val (.ref b53), .unset, .unset, .unset, .unset, .unset, .unset, .unset, .unset] [(.int (8 : Int32))])) rfl (hb hby at_72) rfl (by decide) (cap := 8) (by decide) (by decide) (by decide) (by decide) (ad := "[I") (by decide)
    obtain ⟨b62, g62⟩ : ∃ z, z = h61.size := ⟨_, rfl⟩
    rw [← g62] at A62 B62 st62
    refine Go.step st62 ?_
    have K62 : Keep h0 h62 [] := K61.ext E62
    have sz_b62 : h0.size ≤ b62 := Nat.le_trans (K61 : Keep h0 h61 []).1 (Nat.le_of_eq g62.symm)
    have ge_b62 : n0 ≤ b62 := Nat.le_trans Z0 sz_b62
    have ne_b53_b62 : b53 ≠ b62 := Nat.ne_of_lt (Nat.lt_of_lt_of_le V_b53_61.lt (Nat.le_of_eq g62.symm))
    have V_b53_62 := V_b53_61.ext E62
    have E_b53_62 := E_b53_61.ext E62
    have V_b62 : Iv Z h62 b62 (8 : Int32) (fun _ => (0 : Int32)) := Fv.new A62 (by decide)
    have E_b62 := B62
    show Go _ _ _ _ _ _ _ T62 (mkF m 74 #[.val (.int p0), .val (.int p1), .val (.int p2), .val (.int p3), .val (.int p4), .val (.int (3 : Int32)), .val (.int K), .val (.ref b53), .unset, .unset, .unset, .unset, .unset, .unset, .unset, .unset] [(.ref b62)])
    refine Go.step (fun _ k => XS.dup X62.here hx rfl (hb hby at_74) rfl rfl k) ?_
    show Go _ _ _ _ _ _ _ T62 (mkF m 75 #[.val (.int p0), .val (.int p1), .val (.int p2), .val (.int p3), .val (.int p4), .val (.int (3 : Int32)), .val (.int K), .val (.ref b53), .unset, .unset, .unset, .unset, .unset, .unset, .unset, .unset] [(.ref b62), (.ref b62)])
    refine Go.step (fun _ k => XS.iconst X62.here hx rfl (hb hby at_75) k) ?_
    show Go _ _ _ _ _ _ _ T62 (mkF m 76 #[.val (.int p0), .val (.int p1), .val (.int p2), .val (.int p3), .val (.int p4), .val (.int (3 : Int32)), .val (.int K), .val (.ref b53), .unset, .unset, .unset, .unset, .unset, .unset, .unset, .unset] [(.int (0 : Int32)), (.ref b62), (.ref b62)])
    refine Go.step (fun _ k => XS.iconst X62.here hx rfl (hb hby at_76) k) ?_
    show Go _ _ _ _ _ _ _ T62 (mkF m 77 #[.val (.int p0), .val (.int p1), .val (.int p2), .val (.int p3), .val (.int p4), .val (.int (3 : Int32)), .val (.int K), .val (.ref b53), .unset, .unset, .unset, .unset, .unset, .unset, .unset, .unset] [(.int (0 : Int32)), (.int (0 : Int32)), (.ref b62), (.ref b62)])
    refine Go.iastore X62 hx hZ e62 V_b62 (j := (0 : Int32)) (x := (0 : Int32)) (by decide) (hb hby at_77) ?_
    intro T63 h63 X63 e63 W63 Vn63
    have V_b62_63 : Iv Z h63 b62 (8 : Int32) (updN (fun _ => (0 : Int32)) 0 (0 : Int32)) := Vn63
    have N63 := Fr.snoc X63 N61 ge_b62
    have V_b53_63 := V_b53_62.other W63 ne_b53_b62
    have E_b53_63 := E_b53_62.wr W63
    have E_b62_63 := E_b62.wr W63
    have K63 : Keep h0 h63 [] := K62.wr W63 (Or.inr sz_b62)
    show Go _ _ _ _ _ _ _ T63 (mkF m 78 #[.val (.int p0), .val (.int p1), .val (.int p2), .val (.int p3), .val (.int p4), .val (.int (3 : Int32)), .val (.int K), .val (.ref b53), .unset, .unset, .unset, .unset, .unset, .unset, .unset, .unset] [(.ref b62)])
    refine Go.step (fun _ k => XS.dup X63.here hx rfl (hb hby at_78) rfl rfl k) ?_
    show Go _ _ _ _ _ _ _ T63 (mkF m 79 #[.val (.int p0), .val (.int p1), .val (.int p2), .val (.int p3), .val (.int p4), .val (.int (3 : Int32)), .val (.int K), .val (.ref b53), .unset, .unset, .unset, .unset, .unset, .unset, .unset, .unset] [(.ref b62), (.ref b62)])
    refine Go.step (fun _ k => XS.iconst X63.here hx rfl (hb hby at_79) k) ?_
    show Go _ _ _ _ _ _ _ T63 (mkF m 80 #[.val (.int p0), .val (.int p1), .val (.int p2), .val (.int p3), .val (.int p4), .val (.int (3 : Int32)), .val (.int K), .val (.ref b53), .unset, .unset, .unset, .unset, .unset, .unset, .unset, .unset] [(.int (1 : Int32)), (.ref b62), (.ref b62)])
    refine Go.step (X63.ldcInt hx hown (mvT hZ (hw _ (List.mem_of_getElem? (i := 13) rfl))) (g := (mkF m 80 #[.val (.int p0), .val (.int p1), .val (.int p2), .val (.int p3), .val (.int p4), .val (.int (3 : Int32)), .val (.int K), .val (.ref b53), .unset, .unset, .unset, .unset, .unset, .unset, .unset, .unset] [(.int (1 : Int32)), (.ref b62), (.ref b62)])) rfl (hb hby at_80)) ?_
    show Go _ _ _ _ _ _ _ T63 (mkF m 82 #[.val (.int p0), .val (.int p1), .val (.int p2), .val (.int p3), .val (.int p4), .val (.int (3 : Int32)), .val (.int K), .val (.ref b53), .unset, .unset, .unset, .unset, .unset, .unset, .unset, .unset] [(.int (-2147483648 : Int32)), (.int (1 : Int32)), (.ref b62), (.ref b62)])
    refine Go.iastore X63 hx hZ e63 V_b62_63 (j := (1 : Int32)) (x := (-2147483648 : Int32)) (by decide) (hb hby at_82) ?_
    intro T64 h64 X64 e64 W64 Vn64
    have V_b62_64 : Iv Z h64 b62 (8 : Int32) (updN (updN (fun _ => (0 : Int32)) 0 (0 : Int32)) 1 (-2147483648 : Int32)) := Vn64
    have N64 := Fr.snoc X64 N63 ge_b62
    have V_b53_64 := V_b53_63.other W64 ne_b53_b62
    have E_b53_64 := E_b53_63.wr W64
    have E_b62_64 := E_b62_63.wr W64
    have K64 : Keep h0 h64 [] := K63.wr W64 (Or.inr sz_b62)
    show Go _ _ _ _ _ _ _ T64 (mkF m 83 #[.val (.int p0), .val (.int p1), .val (.int p2), .val (.int p3), .val (.int p4), .val (.int (3 : Int32)), .val (.int K), .val (.ref b53), .unset, .unset, .unset, .unset, .unset, .unset, .unset, .unset] [(.ref b62)])
    refine Go.step (fun _ k => XS.dup X64.here hx rfl (hb hby at_83) rfl rfl k) ?_
    show Go _ _ _ _ _ _ _ T64 (mkF m 84 #[.val (.int p0), .val (.int p1), .val (.int p2), .val (.int p3), .val (.int p4), .val (.int (3 : Int32)), .val (.int K), .val (.ref b53), .unset, .unset, .unset, .unset, .unset, .unset, .unset, .unset] [(.ref b62), (.ref b62)])
    refine Go.step (fun _ k => XS.iconst X64.here hx rfl (hb hby at_84) k) ?_
    show Go _ _ _ _ _ _ _ T64 (mkF m 85 #[.val (.int p0), .val (.int p1), .val (.int p2), .val (.int p3), .val (.int p4), .val (.int (3 : Int32)), .val (.int K), .val (.ref b53), .unset, .unset, .unset, .unset, .unset, .unset, .unset, .unset] [(.int (2 : Int32)), (.ref b62), (.ref b62)])
    refine Go.step (X64.ldcInt hx hown (mvT hZ (hw _ (List.mem_of_getElem? (i := 14) rfl))) (g := (mkF m 85 #[.val (.int p0), .val (.int p1), .val (.int p2), .val (.int p3), .val (.int p4), .val (.int (3 : Int32)), .val (.int K), .val (.ref b53), .unset, .unset, .unset, .unset, .unset, .unset, .unset, .unset] [(.int (2 : Int32)), (.ref b62), (.ref b62)])) rfl (hb hby at_85)) ?_
    show Go _ _ _ _ _ _ _ T64 (mkF m 87 #[.val (.int p0), .val (.int p1), .val (.int p2), .val (.int p3), .val (.int p4), .val (.int (3 : Int32)), .val (.int K), .val (.ref b53), .unset, .unset, .unset, .unset, .unset, .unset, .unset, .unset] [(.int (1071644672 : Int32)), (.int (2 : Int32)), (.ref b62), (.ref b62)])
    refine Go.iastore X64 hx hZ e64 V_b62_64 (j := (2 : Int32)) (x := (1071644672 : Int32)) (by decide) (hb hby at_87) ?_
    intro T65 h65 X65 e65 W65 Vn65
    have V_b62_65 : Iv Z h65 b62 (8 : Int32) (updN (updN (updN (fun _ => (0 : Int32)) 0 (0 : Int32)) 1 (-2147483648 : Int32)) 2 (1071644672 : Int32)) := Vn65
    have N65 := Fr.snoc X65 N64 ge_b62
    have V_b53_65 := V_b53_64.other W65 ne_b53_b62
    have E_b53_65 := E_b53_64.wr W65
    have E_b62_65 := E_b62_64.wr W65
    have K65 : Keep h0 h65 [] := K64.wr W65 (Or.inr sz_b62)
    show Go _ _ _ _ _ _ _ T65 (mkF m 88 #[.val (.int p0), .val (.int p1), .val (.int p2), .val (.int p3), .val (.int p4), .val (.int (3 : Int32)), .val (.int K), .val (.ref b53), .unset, .unset, .unset, .unset, .unset, .unset, .unset, .unset] [(.ref b62)])
    refine Go.step (fun _ k => XS.dup X65.here hx rfl (hb hby at_88) rfl rfl k) ?_
    show Go _ _ _ _ _ _ _ T65 (mkF m 89 #[.val (.int p0), .val (.int p1), .val (.int p2), .val (.int p3), .val (.int p4), .val (.int (3 : Int32)), .val (.int K), .val (.ref b53), .unset, .unset, .unset, .unset, .unset, .unset, .unset, .unset] [(.ref b62), (.ref b62)])
    refine Go.step (fun _ k => XS.iconst X65.here hx rfl (hb hby at_89) k) ?_
    show Go _ _ _ _ _ _ _ T65 (mkF m 90 #[.val (.int p0), .val (.int p1), .val (.int p2), .val (.int p3), .val (.int p4), .val (.int (3 : Int32)), .val (.int K), .val (.ref b53), .unset, .unset, .unset, .unset, .unset, .unset, .unset, .unset] [(.int (3 : Int32)), (.ref b62), (.ref b62)])
    refine Go.step (X65.ldcInt hx hown (mvT hZ (hw _ (List.mem_of_getElem? (i := 15) rfl))) (g := (mkF m 90 #[.val (.int p0), .val (.int p1), .val (.int p2), .val (.int p3), .val (.int p4), .val (.int (3 : Int32)), .val (.int K), .val (.ref b53), .unset, .unset, .unset, .unset, .unset, .unset, .unset, .unset] [(.int (3 : Int32)), (.ref b62), (.ref b62)])) rfl (hb hby at_90)) ?_
    show Go _ _ _ _ _ _ _ T65 (mkF m 92 #[.val (.int p0), .val (.int p1), .val (.int p2), .val (.int p3), .val (.int p4), .val (.int (3 : Int32)), .val (.int K), .val (.ref b53), .unset, .unset, .unset, .unset, .unset, .unset, .unset, .unset] [(.int (1072693248 : Int32)), (.int (3 : Int32)), (.ref b62), (.ref b62)])
    refine Go.iastore X65 hx hZ e65 V_b62_65 (j := (3 : Int32)) (x := (1072693248 : Int32)) (by decide) (hb hby at_92) ?_
    intro T66 h66 X66 e66 W66 Vn66
    have V_b62_66 : Iv Z h66 b62 (8 : Int32) (updN (updN (updN (updN (fun _ => (0 : Int32)) 0 (0 : Int32)) 1 (-2147483648 : Int32)) 2 (1071644672 : Int32)) 3 (1072693248 : Int32)) := Vn66
    have N66 := Fr.snoc X66 N65 ge_b62
    have V_b53_66 := V_b53_65.other W66 ne_b53_b62
    have E_b53_66 := E_b53_65.wr W66
    have E_b62_66 := E_b62_65.wr W66
    have K66 : Keep h0 h66 [] := K65.wr W66 (Or.inr sz_b62)
    show Go _ _ _ _ _ _ _ T66 (mkF m 93 #[.val (.int p0), .val (.int p1), .val (.int p2), .val (.int p3), .val (.int p4), .val (.int (3 : Int32)), .val (.int K), .val (.ref b53), .unset, .unset, .unset, .unset, .unset, .unset, .unset, .unset] [(.ref b62)])
    refine Go.step (fun _ k => XS.dup X66.here hx rfl (hb hby at_93) rfl rfl k) ?_
    show Go _ _ _ _ _ _ _ T66 (mkF m 94 #[.val (.int p0), .val (.int p1), .val (.int p2), .val (.int p3), .val (.int p4), .val (.int (3 : Int32)), .val (.int K), .val (.ref b53), .unset, .unset, .unset, .unset, .unset, .unset, .unset, .unset] [(.ref b62), (.ref b62)])
    refine Go.step (fun _ k => XS.iconst X66.here hx rfl (hb hby at_94) k) ?_
    show Go _ _ _ _ _ _ _ T66 (mkF m 95 #[.val (.int p0), .val (.int p1), .val (.int p2), .val (.int p3), .val (.int p4), .val (.int (3 : Int32)), .val (.int K), .val (.ref b53), .unset, .unset, .unset, .unset, .unset, .unset, .unset, .unset] [(.int (4 : Int32)), (.ref b62), (.ref b62)])
    refine Go.step (X66.ldcInt hx hown (mvT hZ (hw _ (List.mem_of_getElem? (i := 16) rfl))) (g := (mkF m 95 #[.val (.int p0), .val (.int p1), .val (.int p2), .val (.int p3), .val (.int p4), .val (.int (3 : Int32)), .val (.int K), .val (.ref b53), .unset, .unset, .unset, .unset, .unset, .unset, .unset, .unset] [(.int (4 : Int32)), (.ref b62), (.ref b62)])) rfl (hb hby at_95)) ?_
    show Go _ _ _ _ _ _ _ T66 (mkF m 97 #[.val (.int p0), .val (.int p1), .val (.int p2), .val (.int p3), .val (.int p4), .val (.int (3 : Int32)), .val (.int K), .val (.ref b53), .unset, .unset, .unset, .unset, .unset, .unset, .unset, .unset] [(.int (1073217536 : Int32)), (.int (4 : Int32)), (.ref b62), (.ref b62)])
    refine Go.iastore X66 hx hZ e66 V_b62_66 (j := (4 : Int32)) (x := (1073217536 : Int32)) (by decide) (hb hby at_97) ?_
    intro T67 h67 X67 e67 W67 Vn67
    have V_b62_67 : Iv Z h67 b62 (8 : Int32) (updN (updN (updN (updN (updN (fun _ => (0 : Int32)) 0 (0 : Int32)) 1 (-2147483648 : Int32)) 2 (1071644672 : Int32)) 3 (1072693248 : Int32)) 4 (1073217536 : Int32)) := Vn67
    have N67 := Fr.snoc X67 N66 ge_b62
    have V_b53_67 := V_b53_66.other W67 ne_b53_b62
    have E_b53_67 := E_b53_66.wr W67
    have E_b62_67 := E_b62_66.wr W67
    have K67 : Keep h0 h67 [] := K66.wr W67 (Or.inr sz_b62)
    show Go _ _ _ _ _ _ _ T67 (mkF m 98 #[.val (.int p0), .val (.int p1), .val (.int p2), .val (.int p3), .val (.int p4), .val (.int (3 : Int32)), .val (.int K), .val (.ref b53), .unset, .unset, .unset, .unset, .unset, .unset, .unset, .unset] [(.ref b62)])
    refine Go.step (fun _ k => XS.dup X67.here hx rfl (hb hby at_98) rfl rfl k) ?_
    show Go _ _ _ _ _ _ _ T67 (mkF m 99 #[.val (.int p0), .val (.int p1), .val (.int p2), .val (.int p3), .val (.int p4), .val (.int (3 : Int32)), .val (.int K), .val (.ref b53), .unset, .unset, .unset, .unset, .unset, .unset, .unset, .unset] [(.ref b62), (.ref b62)])
    refine Go.step (fun _ k => XS.iconst X67.here hx rfl (hb hby at_99) k) ?_
    show Go _ _ _ _ _ _ _ T67 (mkF m 100 #[.val (.int p0), .val (.int p1), .val (.int p2), .val (.int p3), .val (.int p4), .val (.int (3 : Int32)), .val (.int K), .val (.ref b53), .unset, .unset, .unset, .unset, .unset, .unset, .unset, .unset] [(.int (5 : Int32)), (.ref b62), (.ref b62)])
    refine Go.step (X67.ldcInt hx hown (mvT hZ (hw _ (List.mem_of_getElem? (i := 17) rfl))) (g := (mkF m 100 #[.val (.int p0), .val (.int p1), .val (.int p2), .val (.int p3), .val (.int p4), .val (.int (3 : Int32)), .val (.int K), .val (.ref b53), .unset, .unset, .unset, .unset, .unset, .unset, .unset, .unset] [(.int (5 : Int32)), (.ref b62), (.ref b62)])) rfl (hb hby at_100)) ?_
    show Go _ _ _ _ _ _ _ T67 (mkF m 102 #[.val (.int p0), .val (.int p1), .val (.int p2), .val (.int p3), .val (.int p4), .val (.int (3 : Int32)), .val (.int K), .val (.ref b53), .unset, .unset, .unset, .unset, .unset, .unset, .unset, .unset] [(.int (1073741824 : Int32)), (.int (5 : Int32)), (.ref b62), (.ref b62)])
    refine Go.iastore X67 hx hZ e67 V_b62_67 (j := (5 : Int32)) (x := (1073741824 : Int32)) (by decide) (hb hby at_102) ?_
    intro T68 h68 X68 e68 W68 Vn68
    have V_b62_68 : Iv Z h68 b62 (8 : Int32) (updN (updN (updN (updN (updN (updN (fun _ => (0 : Int32)) 0 (0 : Int32)) 1 (-2147483648 : Int32)) 2 (1071644672 : Int32)) 3 (1072693248 : Int32)) 4 (1073217536 : Int32)) 5 (1073741824 : Int32)) := Vn68
    have N68 := Fr.snoc X68 N67 ge_b62
    have V_b53_68 := V_b53_67.other W68 ne_b53_b62
    have E_b53_68 := E_b53_67.wr W68
    have E_b62_68 := E_b62_67.wr W68
    have K68 : Keep h0 h68 [] := K67.wr W68 (Or.inr sz_b62)
    show Go _ _ _ _ _ _ _ T68 (mkF m 103 #[.val (.int p0), .val (.int p1), .val (.int p2), .val (.int p3), .val (.int p4), .val (.int (3 : Int32)), .val (.int K), .val (.ref b53), .unset, .unset, .unset, .unset, .unset, .unset, .unset, .unset] [(.ref b62)])
    refine Go.step (fun _ k => XS.dup X68.here hx rfl (hb hby at_103) rfl rfl k) ?_
    show Go _ _ _ _ _ _ _ T68 (mkF m 104 #[.val (.int p0), .val (.int p1), .val (.int p2), .val (.int p3), .val (.int p4), .val (.int (3 : Int32)), .val (.int K), .val (.ref b53), .unset, .unset, .unset, .unset, .unset, .unset, .unset, .unset] [(.ref b62), (.ref b62)])
    refine Go.step (fun _ k => XS.bipush X68.here hx rfl (hb hby at_104) k) ?_
    show Go _ _ _ _ _ _ _ T68 (mkF m 106 #[.val (.int p0), .val (.int p1), .val (.int p2), .val (.int p3), .val (.int p4), .val (.int (3 : Int32)), .val (.int K), .val (.ref b53), .unset, .unset, .unset, .unset, .unset, .unset, .unset, .unset] [(.int (6 : Int32)), (.ref b62), (.ref b62)])
    refine Go.step (X68.ldcInt hx hown (mvT hZ (hw _ (List.mem_of_getElem? (i := 18) rfl))) (g := (mkF m 106 #[.val (.int p0), .val (.int p1), .val (.int p2), .val (.int p3), .val (.int p4), .val (.int (3 : Int32)), .val (.int K), .val (.ref b53), .unset, .unset, .unset, .unset, .unset, .unset, .unset, .unset] [(.int (6 : Int32)), (.ref b62), (.ref b62)])) rfl (hb hby at_106)) ?_
    show Go _ _ _ _ _ _ _ T68 (mkF m 108 #[.val (.int p0), .val (.int p1), .val (.int p2), .val (.int p3), .val (.int p4), .val (.int (3 : Int32)), .val (.int K), .val (.ref b53), .unset, .unset, .unset, .unset, .unset, .unset, .unset, .unset] [(.int (1074266112 : Int32)), (.int (6 : Int32)), (.ref b62), (.ref b62)])
    refine Go.iastore X68 hx hZ e68 V_b62_68 (j := (6 : Int32)) (x := (1074266112 : Int32)) (by decide) (hb hby at_108) ?_
    intro T69 h69 X69 e69 W69 Vn69
    have V_b62_69 : Iv Z h69 b62 (8 : Int32) (updN (updN (updN (updN (updN (updN (updN (fun _ => (0 : Int32)) 0 (0 : Int32)) 1 (-2147483648 : Int32)) 2 (1071644672 : Int32)) 3 (1072693248 : Int32)) 4 (1073217536 : Int32)) 5 (1073741824 : Int32)) 6 (1074266112 : Int32)) := Vn69
    have N69 := Fr.snoc X69 N68 ge_b62
    have V_b53_69 := V_b53_68.other W69 ne_b53_b62
    have E_b53_69 := E_b53_68.wr W69
    have E_b62_69 := E_b62_68.wr W69
    have K69 : Keep h0 h69 [] := K68.wr W69 (Or.inr sz_b62)
    show Go _ _ _ _ _ _ _ T69 (mkF m 109 #[.val (.int p0), .val (.int p1), .val (.int p2), .val (.int p3), .val (.int p4), .val (.int (3 : Int32)), .val (.int K), .val (.ref b53), .unset, .unset, .unset, .unset, .unset, .unset, .unset, .unset] [(.ref b62)])
    refine Go.step (fun _ k => XS.dup X69.here hx rfl (hb hby at_109) rfl rfl k) ?_
    show Go _ _ _ _ _ _ _ T69 (mkF m 110 #[.val (.int p0), .val (.int p1), .val (.int p2), .val (.int p3), .val (.int p4), .val (.int (3 : Int32)), .val (.int K), .val (.ref b53), .unset, .unset, .unset, .unset, .unset, .unset, .unset, .unset] [(.ref b62), (.ref b62)])
    refine Go.step (fun _ k => XS.bipush X69.here hx rfl (hb hby at_110) k) ?_
    show Go _ _ _ _ _ _ _ T69 (mkF m 112 #[.val (.int p0), .val (.int p1), .val (.int p2), .val (.int p3), .val (.int p4), .val (.int (3 : Int32)), .val (.int K), .val (.ref b53), .unset, .unset, .unset, .unset, .unset, .unset, .unset, .unset] [(.int (7 : Int32)), (.ref b62), (.ref b62)])
    refine Go.step (X69.ldcInt hx hown (mvT hZ (hw _ (List.mem_of_getElem? (i := 19) rfl))) (g := (mkF m 112 #[.val (.int p0), .val (.int p1), .val (.int p2), .val (.int p3), .val (.int p4), .val (.int (3 : Int32)), .val (.int K), .val (.ref b53), .unset, .unset, .unset, .unset, .unset, .unset, .unset, .unset] [(.int (7 : Int32)), (.ref b62), (.ref b62)])) rfl (hb hby at_112)) ?_
    show Go _ _ _ _ _ _ _ T69 (mkF m 114 #[.val (.int p0), .val (.int p1), .val (.int p2), .val (.int p3), .val (.int p4), .val (.int (3 : Int32)), .val (.int K), .val (.ref b53), .unset, .unset, .unset, .unset, .unset, .unset, .unset, .unset] [(.int (-1507852285 : Int32)), (.int (7 : Int32)), (.ref b62), (.ref b62)])
    refine Go.iastore X69 hx hZ e69 V_b62_69 (j := (7 : Int32)) (x := (-1507852285 : Int32)) (by decide) (hb hby at_114) ?_
    intro T70 h70 X70 e70 W70 Vn70
    have V_b62_70 : Iv Z h70 b62 (8 : Int32) (updN (updN (updN (updN (updN (updN (updN (updN (fun _ => (0 : Int32)) 0 (0 : Int32)) 1 (-2147483648 : Int32)) 2 (1071644672 : Int32)) 3 (1072693248 : Int32)) 4 (1073217536 : Int32)) 5 (1073741824 : Int32)) 6 (1074266112 : Int32)) 7 (-1507852285 : Int32)) := Vn70
    have N70 := Fr.snoc X70 N69 ge_b62
    have V_b53_70 := V_b53_69.other W70 ne_b53_b62
    have E_b53_70 := E_b53_69.wr W70
    have E_b62_70 := E_b62_69.wr W70
    have K70 : Keep h0 h70 [] := K69.wr W70 (Or.inr sz_b62)
    show Go _ _ _ _ _ _ _ T70 (mkF m 115 #[.val (.int p0), .val (.int p1), .val (.int p2), .val (.int p3), .val (.int p4), .val (.int (3 : Int32)), .val (.int K), .val (.ref b53), .unset, .unset, .unset, .unset, .unset, .unset, .unset, .unset] [(.ref b62)])
    refine Go.step (fun _ k => XS.astore X70.here hx rfl (hb hby at_115) rfl rfl (l' := #[.val (.int p0), .val (.int p1), .val (.int p2), .val (.int p3), .val (.int p4), .val (.int (3 : Int32)), .val (.int K), .val (.ref b53), .val (.ref b62), .unset, .unset, .unset, .unset, .unset, .unset, .unset]) rfl k) ?_
    have VxvalG : Dv Z h70 b53 (8 : Int32) valG := V_b53_70
    have VxelemG : Iv Z h70 b62 (8 : Int32) elemG := V_b62_70
    have hv0 := own_at7 p2
    have hv1 := own_at7 p3
    have hv2 := own_at7 p4
    show Go _ _ _ _ _ _ _ T70 (mkF m 117 #[.val (.int p0), .val (.int p1), .val (.int p2), .val (.int p3), .val (.int p4), .val (.int (3 : Int32)), .val (.int K), .val (.ref b53), .val (.ref b62), .unset, .unset, .unset, .unset, .unset, .unset, .unset] [])
    refine Go.step (fun _ k => XS.iloadN X70.here hx rfl (hb hby at_117) rfl k) ?_
    show Go _ _ _ _ _ _ _ T70 (mkF m 118 #[.val (.int p0), .val (.int p1), .val (.int p2), .val (.int p3), .val (.int p4), .val (.int (3 : Int32)), .val (.int K), .val (.ref b53), .val (.ref b62), .unset, .unset, .unset, .unset, .unset, .unset, .unset] [(.int p2)])
    refine Go.step (fun _ k => XS.bipush X70.here hx rfl (hb hby at_118) k) ?_
    show Go _ _ _ _ _ _ _ T70 (mkF m 120 #[.val (.int p0), .val (.int p1), .val (.int p2), .val (.int p3), .val (.int p4), .val (.int (3 : Int32)), .val (.int K), .val (.ref b53), .val (.ref b62), .unset, .unset, .unset, .unset, .unset, .unset, .unset] [(.int (7 : Int32)), (.int p2)])
    refine Go.step (fun _ k => XS.iand X70.here hx rfl (hb hby at_120) rfl k) ?_
    show Go _ _ _ _ _ _ _ T70 (mkF m 121 #[.val (.int p0), .val (.int p1), .val (.int p2), .val (.int p3), .val (.int p4), .val (.int (3 : Int32)), .val (.int K), .val (.ref b53), .val (.ref b62), .unset, .unset, .unset, .unset, .unset, .unset, .unset] [(.int (p2 &&& (7 : Int32)))])
    refine Go.step (fun _ k => XS.istore X70.here hx rfl (hb hby at_121) rfl (l' := #[.val (.int p0), .val (.int p1), .val (.int p2), .val (.int p3), .val (.int p4), .val (.int (3 : Int32)), .val (.int K), .val (.ref b53), .val (.ref b62), .val (.int (p2 &&& (7 : Int32))), .unset, .unset, .unset, .unset, .unset, .unset]) rfl k) ?_
    show Go _ _ _ _ _ _ _ T70 (mkF m 123 #[.val (.int p0), .val (.int p1), .val (.int p2), .val (.int p3), .val (.int p4), .val (.int (3 : Int32)), .val (.int K), .val (.ref b53), .val (.ref b62), .val (.int (p2 &&& (7 : Int32))), .unset, .unset, .unset, .unset, .unset, .unset] [])
    refine Go.step (fun _ k => XS.iloadN X70.here hx rfl (hb hby at_123) rfl k) ?_
    show Go _ _ _ _ _ _ _ T70 (mkF m 124 #[.val (.int p0), .val (.int p1), .val (.int p2), .val (.int p3), .val (.int p4), .val (.int (3 : Int32)), .val (.int K), .val (.ref b53), .val (.ref b62), .val (.int (p2 &&& (7 : Int32))), .unset, .unset, .unset, .unset, .unset, .unset] [(.int p3)])
    refine Go.step (fun _ k => XS.bipush X70.here hx rfl (hb hby at_124) k) ?_
    show Go _ _ _ _ _ _ _ T70 (mkF m 126 #[.val (.int p0), .val (.int p1), .val (.int p2), .val (.int p3), .val (.int p4), .val (.int (3 : Int32)), .val (.int K), .val (.ref b53), .val (.ref b62), .val (.int (p2 &&& (7 : Int32))), .unset, .unset, .unset, .unset, .unset, .unset] [(.int (7 : Int32)), (.int p3)])
    refine Go.step (fun _ k => XS.iand X70.here hx rfl (hb hby at_126) rfl k) ?_
    show Go _ _ _ _ _ _ _ T70 (mkF m 127 #[.val (.int p0), .val (.int p1), .val (.int p2), .val (.int p3), .val (.int p4), .val (.int (3 : Int32)), .val (.int K), .val (.ref b53), .val (.ref b62), .val (.int (p2 &&& (7 : Int32))), .unset, .unset, .unset, .unset, .unset, .unset] [(.int (p3 &&& (7 : Int32)))])
    refine Go.step (fun _ k => XS.istore X70.here hx rfl (hb hby at_127) rfl (l' := #[.val (.int p0), .val (.int p1), .val (.int p2), .val (.int p3), .val (.int p4), .val (.int (3 : Int32)), .val (.int K), .val (.ref b53), .val (.ref b62), .val (.int (p2 &&& (7 : Int32))), .val (.int (p3 &&& (7 : Int32))), .unset, .unset, .unset, .unset, .unset]) rfl k) ?_
    show Go _ _ _ _ _ _ _ T70 (mkF m 129 #[.val (.int p0), .val (.int p1), .val (.int p2), .val (.int p3), .val (.int p4), .val (.int (3 : Int32)), .val (.int K), .val (.ref b53), .val (.ref b62), .val (.int (p2 &&& (7 : Int32))), .val (.int (p3 &&& (7 : Int32))), .unset, .unset, .unset, .unset, .unset] [])
    refine Go.step (fun _ k => XS.iload X70.here hx rfl (hb hby at_129) rfl k) ?_
    show Go _ _ _ _ _ _ _ T70 (mkF m 131 #[.val (.int p0), .val (.int p1), .val (.int p2), .val (.int p3), .val (.int p4), .val (.int (3 : Int32)), .val (.int K), .val (.ref b53), .val (.ref b62), .val (.int (p2 &&& (7 : Int32))), .val (.int (p3 &&& (7 : Int32))), .unset, .unset, .unset, .unset, .unset] [(.int p4)])
    refine Go.step (fun _ k => XS.bipush X70.here hx rfl (hb hby at_131) k) ?_
    show Go _ _ _ _ _ _ _ T70 (mkF m 133 #[.val (.int p0), .val (.int p1), .val (.int p2), .val (.int p3), .val (.int p4), .val (.int (3 : Int32)), .val (.int K), .val (.ref b53), .val (.ref b62), .val (.int (p2 &&& (7 : Int32))), .val (.int (p3 &&& (7 : Int32))), .unset, .unset, .unset, .unset, .unset] [(.int (7 : Int32)), (.int p4)])
    refine Go.step (fun _ k => XS.iand X70.here hx rfl (hb hby at_133) rfl k) ?_
    show Go _ _ _ _ _ _ _ T70 (mkF m 134 #[.val (.int p0), .val (.int p1), .val (.int p2), .val (.int p3), .val (.int p4), .val (.int (3 : Int32)), .val (.int K), .val (.ref b53), .val (.ref b62), .val (.int (p2 &&& (7 : Int32))), .val (.int (p3 &&& (7 : Int32))), .unset, .unset, .unset, .unset, .unset] [(.int (p4 &&& (7 : Int32)))])
    refine Go.step (fun _ k => XS.istore X70.here hx rfl (hb hby at_134) rfl (l' := #[.val (.int p0), .val (.int p1), .val (.int p2), .val (.int p3), .val (.int p4), .val (.int (3 : Int32)), .val (.int K), .val (.ref b53), .val (.ref b62), .val (.int (p2 &&& (7 : Int32))), .val (.int (p3 &&& (7 : Int32))), .val (.int (p4 &&& (7 : Int32))), .unset, .unset, .unset, .unset]) rfl k) ?_
    show Go _ _ _ _ _ _ _ T70 (mkF m 136 #[.val (.int p0), .val (.int p1), .val (.int p2), .val (.int p3), .val (.int p4), .val (.int (3 : Int32)), .val (.int K), .val (.ref b53), .val (.ref b62), .val (.int (p2 &&& (7 : Int32))), .val (.int (p3 &&& (7 : Int32))), .val (.int (p4 &&& (7 : Int32))), .unset, .unset, .unset, .unset] [])
    refine Go.step (fun _ k => XS.iload X70.here hx rfl (hb hby at_136) rfl k) ?_
    show Go _ _ _ _ _ _ _ T70 (mkF m 138 #[.val (.int p0), .val (.int p1), .val (.int p2), .val (.int p3), .val (.int p4), .val (.int (3 : Int32)), .val (.int K), .val (.ref b53), .val (.ref b62), .val (.int (p2 &&& (7 : Int32))), .val (.int (p3 &&& (7 : Int32))), .val (.int (p4 &&& (7 : Int32))), .unset, .unset, .unset, .unset] [(.int (3 : Int32))])
    obtain ⟨T71, h71, k71, X71, e71, E71, A71, B71, st71⟩ := newPE X70 hx hZ (hw _ (List.mem_of_getElem? (i := 5) rfl)) e70 (g := (mkF m 138 #[.val (.int p0), .val (.int p1), .val (.int p2), .val (.int p3), .val (.int p4), .val (.int (3 : Int32)), .val (.int K), .val (.ref b53), .val (.ref b62), .val (.int (p2 &&& (7 : Int32))), .val (.int (p3 &&& (7 : Int32))), .val (.int (p4 &&& (7 : Int32))), .unset, .unset, .unset, .unset] [(.int (3 : Int32))])) rfl (hb hby at_138) rfl (by decide) (cap := 3) (by decide) (by decide) (by decide) (by decide) (ad := "[D") (by decide)
    obtain ⟨b71, g71⟩ : ∃ z, z = h70.size := ⟨_, rfl⟩
    rw [← g71] at A71 B71 st71
    refine Go.step st71 ?_
    have K71 : Keep h0 h71 [] := K70.ext E71
    have sz_b71 : h0.size ≤ b71 := Nat.le_trans (K70 : Keep h0 h70 []).1 (Nat.le_of_eq g71.symm)
    have ge_b71 : n0 ≤ b71 := Nat.le_trans Z0 sz_b71
    have ne_b53_b71 : b53 ≠ b71 := Nat.ne_of_lt (Nat.lt_of_lt_of_le VxvalG.lt (Nat.le_of_eq g71.symm))
    have ne_b62_b71 : b62 ≠ b71 := Nat.ne_of_lt (Nat.lt_of_lt_of_le VxelemG.lt (Nat.le_of_eq g71.symm))
    have VxvalG_71 := VxvalG.ext E71
    have E_b53_71 := E_b53_70.ext E71
    have VxelemG_71 := VxelemG.ext E71
    have E_b62_71 := E_b62_70.ext E71
    have V_b71 : Dv Z h71 b71 (3 : Int32) (fun _ => (0 : UInt64)) := Fv.new A71 (by decide)
    have E_b71 := B71
    show Go _ _ _ _ _ _ _ T71 (mkF m 140 #[.val (.int p0), .val (.int p1), .val (.int p2), .val (.int p3), .val (.int p4), .val (.int (3 : Int32)), .val (.int K), .val (.ref b53), .val (.ref b62), .val (.int (p2 &&& (7 : Int32))), .val (.int (p3 &&& (7 : Int32))), .val (.int (p4 &&& (7 : Int32))), .unset, .unset, .unset, .unset] [(.ref b71)])
    refine Go.step (fun _ k => XS.astore X71.here hx rfl (hb hby at_140) rfl rfl (l' := #[.val (.int p0), .val (.int p1), .val (.int p2), .val (.int p3), .val (.int p4), .val (.int (3 : Int32)), .val (.int K), .val (.ref b53), .val (.ref b62), .val (.int (p2 &&& (7 : Int32))), .val (.int (p3 &&& (7 : Int32))), .val (.int (p4 &&& (7 : Int32))), .val (.ref b71), .unset, .unset, .unset]) rfl k) ?_
    show Go _ _ _ _ _ _ _ T71 (mkF m 142 #[.val (.int p0), .val (.int p1), .val (.int p2), .val (.int p3), .val (.int p4), .val (.int (3 : Int32)), .val (.int K), .val (.ref b53), .val (.ref b62), .val (.int (p2 &&& (7 : Int32))), .val (.int (p3 &&& (7 : Int32))), .val (.int (p4 &&& (7 : Int32))), .val (.ref b71), .unset, .unset, .unset] [])
    refine Go.step (fun _ k => XS.aload X71.here hx rfl (hb hby at_142) rfl rfl k) ?_
    show Go _ _ _ _ _ _ _ T71 (mkF m 144 #[.val (.int p0), .val (.int p1), .val (.int p2), .val (.int p3), .val (.int p4), .val (.int (3 : Int32)), .val (.int K), .val (.ref b53), .val (.ref b62), .val (.int (p2 &&& (7 : Int32))), .val (.int (p3 &&& (7 : Int32))), .val (.int (p4 &&& (7 : Int32))), .val (.ref b71), .unset, .unset, .unset] [(.ref b71)])
    refine Go.step (fun _ k => XS.iconst X71.here hx rfl (hb hby at_144) k) ?_
    show Go _ _ _ _ _ _ _ T71 (mkF m 145 #[.val (.int p0), .val (.int p1), .val (.int p2), .val (.int p3), .val (.int p4), .val (.int (3 : Int32)), .val (.int K), .val (.ref b53), .val (.ref b62), .val (.int (p2 &&& (7 : Int32))), .val (.int (p3 &&& (7 : Int32))), .val (.int (p4 &&& (7 : Int32))), .val (.ref b71), .unset, .unset, .unset] [(.int (0 : Int32)), (.ref b71)])
    refine Go.step (fun _ k => XS.aload X71.here hx rfl (hb hby at_145) rfl rfl k) ?_
    show Go _ _ _ _ _ _ _ T71 (mkF m 147 #[.val (.int p0), .val (.int p1), .val (.int p2), .val (.int p3), .val (.int p4), .val (.int (3 : Int32)), .val (.int K), .val (.ref b53), .val (.ref b62), .val (.int (p2 &&& (7 : Int32))), .val (.int (p3 &&& (7 : Int32))), .val (.int (p4 &&& (7 : Int32))), .val (.ref b71), .unset, .unset, .unset] [(.ref b53), (.int (0 : Int32)), (.ref b71)])
    refine Go.step (fun _ k => XS.iload X71.here hx rfl (hb hby at_147) rfl k) ?_
    show Go _ _ _ _ _ _ _ T71 (mkF m 149 #[.val (.int p0), .val (.int p1), .val (.int p2), .val (.int p3), .val (.int p4), .val (.int (3 : Int32)), .val (.int K), .val (.ref b53), .val (.ref b62), .val (.int (p2 &&& (7 : Int32))), .val (.int (p3 &&& (7 : Int32))), .val (.int (p4 &&& (7 : Int32))), .val (.ref b71), .unset, .unset, .unset] [(.int (p2 &&& (7 : Int32))), (.ref b53), (.int (0 : Int32)), (.ref b71)])
    refine Go.daload X71 hx hZ e71 VxvalG_71 (j := (p2 &&& (7 : Int32))) (v := (valG ((p2 &&& (7 : Int32))).toNatClampNeg)) (own_i7 p2) rfl (hb hby at_149) ?_
    show Go _ _ _ _ _ _ _ T71 (mkF m 150 #[.val (.int p0), .val (.int p1), .val (.int p2), .val (.int p3), .val (.int p4), .val (.int (3 : Int32)), .val (.int K), .val (.ref b53), .val (.ref b62), .val (.int (p2 &&& (7 : Int32))), .val (.int (p3 &&& (7 : Int32))), .val (.int (p4 &&& (7 : Int32))), .val (.ref b71), .unset, .unset, .unset] [(.double (valG ((p2 &&& (7 : Int32))).toNatClampNeg)), (.int (0 : Int32)), (.ref b71)])
    refine Go.dastore X71 hx hZ e71 V_b71 (j := (0 : Int32)) (x := (valG ((p2 &&& (7 : Int32))).toNatClampNeg)) (by decide) (hb hby at_150) ?_
    intro T72 h72 X72 e72 W72 Vn72
    have V_b71_72 : Dv Z h72 b71 (3 : Int32) (updN (fun _ => (0 : UInt64)) 0 (valG ((p2 &&& (7 : Int32))).toNatClampNeg)) := Vn72
    have N72 := Fr.snoc X72 N70 ge_b71
    have VxvalG_72 := VxvalG_71.other W72 ne_b53_b71
    have E_b53_72 := E_b53_71.wr W72
    have VxelemG_72 := VxelemG_71.other W72 ne_b62_b71
    have E_b62_72 := E_b62_71.wr W72
    have E_b71_72 := E_b71.wr W72
    have K72 : Keep h0 h72 [] := K71.wr W72 (Or.inr sz_b71)
    show Go _ _ _ _ _ _ _ T72 (mkF m 151 #[.val (.int p0), .val (.int p1), .val (.int p2), .val (.int p3), .val (.int p4), .val (.int (3 : Int32)), .val (.int K), .val (.ref b53), .val (.ref b62), .val (.int (p2 &&& (7 : Int32))), .val (.int (p3 &&& (7 : Int32))), .val (.int (p4 &&& (7 : Int32))), .val (.ref b71), .unset, .unset, .unset] [])
    refine Go.step (fun _ k => XS.iload X72.here hx rfl (hb hby at_151) rfl k) ?_
    show Go _ _ _ _ _ _ _ T72 (mkF m 153 #[.val (.int p0), .val (.int p1), .val (.int p2), .val (.int p3), .val (.int p4), .val (.int (3 : Int32)), .val (.int K), .val (.ref b53), .val (.ref b62), .val (.int (p2 &&& (7 : Int32))), .val (.int (p3 &&& (7 : Int32))), .val (.int (p4 &&& (7 : Int32))), .val (.ref b71), .unset, .unset, .unset] [(.int (3 : Int32))])
    refine Go.step (fun _ k => XS.iconst X72.here hx rfl (hb hby at_153) k) ?_
    show Go _ _ _ _ _ _ _ T72 (mkF m 154 #[.val (.int p0), .val (.int p1), .val (.int p2), .val (.int p3), .val (.int p4), .val (.int (3 : Int32)), .val (.int K), .val (.ref b53), .val (.ref b62), .val (.int (p2 &&& (7 : Int32))), .val (.int (p3 &&& (7 : Int32))), .val (.int (p4 &&& (7 : Int32))), .val (.ref b71), .unset, .unset, .unset] [(.int (1 : Int32)), (.int (3 : Int32))])
    refine Go.step (fun _ k => XS.icmpNo X72.here hx rfl (hb hby at_154) rfl (tlt (by decide : (1 : Int32) < (3 : Int32))).2.2.2 k) ?_
    show Go _ _ _ _ _ _ _ T72 (mkF m 157 #[.val (.int p0), .val (.int p1), .val (.int p2), .val (.int p3), .val (.int p4), .val (.int (3 : Int32)), .val (.int K), .val (.ref b53), .val (.ref b62), .val (.int (p2 &&& (7 : Int32))), .val (.int (p3 &&& (7 : Int32))), .val (.int (p4 &&& (7 : Int32))), .val (.ref b71), .unset, .unset, .unset] [])
    refine Go.step (fun _ k => XS.aload X72.here hx rfl (hb hby at_157) rfl rfl k) ?_
    show Go _ _ _ _ _ _ _ T72 (mkF m 159 #[.val (.int p0), .val (.int p1), .val (.int p2), .val (.int p3), .val (.int p4), .val (.int (3 : Int32)), .val (.int K), .val (.ref b53), .val (.ref b62), .val (.int (p2 &&& (7 : Int32))), .val (.int (p3 &&& (7 : Int32))), .val (.int (p4 &&& (7 : Int32))), .val (.ref b71), .unset, .unset, .unset] [(.ref b71)])
    refine Go.step (fun _ k => XS.iconst X72.here hx rfl (hb hby at_159) k) ?_
    show Go _ _ _ _ _ _ _ T72 (mkF m 160 #[.val (.int p0), .val (.int p1), .val (.int p2), .val (.int p3), .val (.int p4), .val (.int (3 : Int32)), .val (.int K), .val (.ref b53), .val (.ref b62), .val (.int (p2 &&& (7 : Int32))), .val (.int (p3 &&& (7 : Int32))), .val (.int (p4 &&& (7 : Int32))), .val (.ref b71), .unset, .unset, .unset] [(.int (1 : Int32)), (.ref b71)])
    refine Go.step (fun _ k => XS.aload X72.here hx rfl (hb hby at_160) rfl rfl k) ?_
    show Go _ _ _ _ _ _ _ T72 (mkF m 162 #[.val (.int p0), .val (.int p1), .val (.int p2), .val (.int p3), .val (.int p4), .val (.int (3 : Int32)), .val (.int K), .val (.ref b53), .val (.ref b62), .val (.int (p2 &&& (7 : Int32))), .val (.int (p3 &&& (7 : Int32))), .val (.int (p4 &&& (7 : Int32))), .val (.ref b71), .unset, .unset, .unset] [(.ref b53), (.int (1 : Int32)), (.ref b71)])
    refine Go.step (fun _ k => XS.iload X72.here hx rfl (hb hby at_162) rfl k) ?_
    show Go _ _ _ _ _ _ _ T72 (mkF m 164 #[.val (.int p0), .val (.int p1), .val (.int p2), .val (.int p3), .val (.int p4), .val (.int (3 : Int32)), .val (.int K), .val (.ref b53), .val (.ref b62), .val (.int (p2 &&& (7 : Int32))), .val (.int (p3 &&& (7 : Int32))), .val (.int (p4 &&& (7 : Int32))), .val (.ref b71), .unset, .unset, .unset] [(.int (p3 &&& (7 : Int32))), (.ref b53), (.int (1 : Int32)), (.ref b71)])
    refine Go.daload X72 hx hZ e72 VxvalG_72 (j := (p3 &&& (7 : Int32))) (v := (valG ((p3 &&& (7 : Int32))).toNatClampNeg)) (own_i7 p3) rfl (hb hby at_164) ?_
    show Go _ _ _ _ _ _ _ T72 (mkF m 165 #[.val (.int p0), .val (.int p1), .val (.int p2), .val (.int p3), .val (.int p4), .val (.int (3 : Int32)), .val (.int K), .val (.ref b53), .val (.ref b62), .val (.int (p2 &&& (7 : Int32))), .val (.int (p3 &&& (7 : Int32))), .val (.int (p4 &&& (7 : Int32))), .val (.ref b71), .unset, .unset, .unset] [(.double (valG ((p3 &&& (7 : Int32))).toNatClampNeg)), (.int (1 : Int32)), (.ref b71)])
    refine Go.dastore X72 hx hZ e72 V_b71_72 (j := (1 : Int32)) (x := (valG ((p3 &&& (7 : Int32))).toNatClampNeg)) (by decide) (hb hby at_165) ?_
    intro T73 h73 X73 e73 W73 Vn73
    have V_b71_73 : Dv Z h73 b71 (3 : Int32) (updN (updN (fun _ => (0 : UInt64)) 0 (valG ((p2 &&& (7 : Int32))).toNatClampNeg)) 1 (valG ((p3 &&& (7 : Int32))).toNatClampNeg)) := Vn73
    have N73 := Fr.snoc X73 N72 ge_b71
    have VxvalG_73 := VxvalG_72.other W73 ne_b53_b71
    have E_b53_73 := E_b53_72.wr W73
    have VxelemG_73 := VxelemG_72.other W73 ne_b62_b71
    have E_b62_73 := E_b62_72.wr W73
    have E_b71_73 := E_b71_72.wr W73
    have K73 : Keep h0 h73 [] := K72.wr W73 (Or.inr sz_b71)
    show Go _ _ _ _ _ _ _ T73 (mkF m 166 #[.val (.int p0), .val (.int p1), .val (.int p2), .val (.int p3), .val (.int p4), .val (.int (3 : Int32)), .val (.int K), .val (.ref b53), .val (.ref b62), .val (.int (p2 &&& (7 : Int32))), .val (.int (p3 &&& (7 : Int32))), .val (.int (p4 &&& (7 : Int32))), .val (.ref b71), .unset, .unset, .unset] [])
    refine Go.step (fun _ k => XS.iload X73.here hx rfl (hb hby at_166) rfl k) ?_
    show Go _ _ _ _ _ _ _ T73 (mkF m 168 #[.val (.int p0), .val (.int p1), .val (.int p2), .val (.int p3), .val (.int p4), .val (.int (3 : Int32)), .val (.int K), .val (.ref b53), .val (.ref b62), .val (.int (p2 &&& (7 : Int32))), .val (.int (p3 &&& (7 : Int32))), .val (.int (p4 &&& (7 : Int32))), .val (.ref b71), .unset, .unset, .unset] [(.int (3 : Int32))])
    refine Go.step (fun _ k => XS.iconst X73.here hx rfl (hb hby at_168) k) ?_
    show Go _ _ _ _ _ _ _ T73 (mkF m 169 #[.val (.int p0), .val (.int p1), .val (.int p2), .val (.int p3), .val (.int p4), .val (.int (3 : Int32)), .val (.int K), .val (.ref b53), .val (.ref b62), .val (.int (p2 &&& (7 : Int32))), .val (.int (p3 &&& (7 : Int32))), .val (.int (p4 &&& (7 : Int32))), .val (.ref b71), .unset, .unset, .unset] [(.int (2 : Int32)), (.int (3 : Int32))])
    refine Go.step (fun _ k => XS.icmpNo X73.here hx rfl (hb hby at_169) rfl (tlt (by decide : (2 : Int32) < (3 : Int32))).2.2.2 k) ?_
    show Go _ _ _ _ _ _ _ T73 (mkF m 172 #[.val (.int p0), .val (.int p1), .val (.int p2), .val (.int p3), .val (.int p4), .val (.int (3 : Int32)), .val (.int K), .val (.ref b53), .val (.ref b62), .val (.int (p2 &&& (7 : Int32))), .val (.int (p3 &&& (7 : Int32))), .val (.int (p4 &&& (7 : Int32))), .val (.ref b71), .unset, .unset, .unset] [])
    refine Go.step (fun _ k => XS.aload X73.here hx rfl (hb hby at_172) rfl rfl k) ?_
    show Go _ _ _ _ _ _ _ T73 (mkF m 174 #[.val (.int p0), .val (.int p1), .val (.int p2), .val (.int p3), .val (.int p4), .val (.int (3 : Int32)), .val (.int K), .val (.ref b53), .val (.ref b62), .val (.int (p2 &&& (7 : Int32))), .val (.int (p3 &&& (7 : Int32))), .val (.int (p4 &&& (7 : Int32))), .val (.ref b71), .unset, .unset, .unset] [(.ref b71)])
    refine Go.step (fun _ k => XS.iconst X73.here hx rfl (hb hby at_174) k) ?_
    show Go _ _ _ _ _ _ _ T73 (mkF m 175 #[.val (.int p0), .val (.int p1), .val (.int p2), .val (.int p3), .val (.int p4), .val (.int (3 : Int32)), .val (.int K), .val (.ref b53), .val (.ref b62), .val (.int (p2 &&& (7 : Int32))), .val (.int (p3 &&& (7 : Int32))), .val (.int (p4 &&& (7 : Int32))), .val (.ref b71), .unset, .unset, .unset] [(.int (2 : Int32)), (.ref b71)])
    refine Go.step (fun _ k => XS.aload X73.here hx rfl (hb hby at_175) rfl rfl k) ?_
    show Go _ _ _ _ _ _ _ T73 (mkF m 177 #[.val (.int p0), .val (.int p1), .val (.int p2), .val (.int p3), .val (.int p4), .val (.int (3 : Int32)), .val (.int K), .val (.ref b53), .val (.ref b62), .val (.int (p2 &&& (7 : Int32))), .val (.int (p3 &&& (7 : Int32))), .val (.int (p4 &&& (7 : Int32))), .val (.ref b71), .unset, .unset, .unset] [(.ref b53), (.int (2 : Int32)), (.ref b71)])
    refine Go.step (fun _ k => XS.iload X73.here hx rfl (hb hby at_177) rfl k) ?_
    show Go _ _ _ _ _ _ _ T73 (mkF m 179 #[.val (.int p0), .val (.int p1), .val (.int p2), .val (.int p3), .val (.int p4), .val (.int (3 : Int32)), .val (.int K), .val (.ref b53), .val (.ref b62), .val (.int (p2 &&& (7 : Int32))), .val (.int (p3 &&& (7 : Int32))), .val (.int (p4 &&& (7 : Int32))), .val (.ref b71), .unset, .unset, .unset] [(.int (p4 &&& (7 : Int32))), (.ref b53), (.int (2 : Int32)), (.ref b71)])
    refine Go.daload X73 hx hZ e73 VxvalG_73 (j := (p4 &&& (7 : Int32))) (v := (valG ((p4 &&& (7 : Int32))).toNatClampNeg)) (own_i7 p4) rfl (hb hby at_179) ?_
    show Go _ _ _ _ _ _ _ T73 (mkF m 180 #[.val (.int p0), .val (.int p1), .val (.int p2), .val (.int p3), .val (.int p4), .val (.int (3 : Int32)), .val (.int K), .val (.ref b53), .val (.ref b62), .val (.int (p2 &&& (7 : Int32))), .val (.int (p3 &&& (7 : Int32))), .val (.int (p4 &&& (7 : Int32))), .val (.ref b71), .unset, .unset, .unset] [(.double (valG ((p4 &&& (7 : Int32))).toNatClampNeg)), (.int (2 : Int32)), (.ref b71)])
    refine Go.dastore X73 hx hZ e73 V_b71_73 (j := (2 : Int32)) (x := (valG ((p4 &&& (7 : Int32))).toNatClampNeg)) (by decide) (hb hby at_180) ?_
    intro T74 h74 X74 e74 W74 Vn74
    have V_b71_74 : Dv Z h74 b71 (3 : Int32) (updN (updN (updN (fun _ => (0 : UInt64)) 0 (valG ((p2 &&& (7 : Int32))).toNatClampNeg)) 1 (valG ((p3 &&& (7 : Int32))).toNatClampNeg)) 2 (valG ((p4 &&& (7 : Int32))).toNatClampNeg)) := Vn74
    have N74 := Fr.snoc X74 N73 ge_b71
    have VxvalG_74 := VxvalG_73.other W74 ne_b53_b71
    have E_b53_74 := E_b53_73.wr W74
    have VxelemG_74 := VxelemG_73.other W74 ne_b62_b71
    have E_b62_74 := E_b62_73.wr W74
    have E_b71_74 := E_b71_73.wr W74
    have K74 : Keep h0 h74 [] := K73.wr W74 (Or.inr sz_b71)
    show Go _ _ _ _ _ _ _ T74 (mkF m 181 #[.val (.int p0), .val (.int p1), .val (.int p2), .val (.int p3), .val (.int p4), .val (.int (3 : Int32)), .val (.int K), .val (.ref b53), .val (.ref b62), .val (.int (p2 &&& (7 : Int32))), .val (.int (p3 &&& (7 : Int32))), .val (.int (p4 &&& (7 : Int32))), .val (.ref b71), .unset, .unset, .unset] [])
    obtain ⟨T75, h75, X75, e75, E75, A75, D75, -, st75⟩ := newO X74 hx hZ hown (hw _ (List.mem_of_getElem? (i := 20) rfl)) (hw _ (List.mem_of_getElem? (i := 21) rfl)) (hw _ (List.mem_of_getElem? (i := 22) rfl)) e74 (g := (mkF m 181 #[.val (.int p0), .val (.int p1), .val (.int p2), .val (.int p3), .val (.int p4), .val (.int (3 : Int32)), .val (.int K), .val (.ref b53), .val (.ref b62), .val (.int (p2 &&& (7 : Int32))), .val (.int (p3 &&& (7 : Int32))), .val (.int (p4 &&& (7 : Int32))), .val (.ref b71), .unset, .unset, .unset] [])) rfl (hb hby at_181) (by decide) (by decide)
    obtain ⟨b75, g75⟩ : ∃ z, z = h74.size := ⟨_, rfl⟩
    rw [← g75] at A75 D75 st75
    refine Go.step st75 ?_
    have K75 : Keep h0 h75 [] := K74.ext E75
    have sz_b75 : h0.size ≤ b75 := Nat.le_trans (K74 : Keep h0 h74 []).1 (Nat.le_of_eq g75.symm)
    have ge_b75 : n0 ≤ b75 := Nat.le_trans Z0 sz_b75
    have ne_b53_b75 : b53 ≠ b75 := Nat.ne_of_lt (Nat.lt_of_lt_of_le VxvalG_74.lt (Nat.le_of_eq g75.symm))
    have ne_b62_b75 : b62 ≠ b75 := Nat.ne_of_lt (Nat.lt_of_lt_of_le VxelemG_74.lt (Nat.le_of_eq g75.symm))
    have ne_b71_b75 : b71 ≠ b75 := Nat.ne_of_lt (Nat.lt_of_lt_of_le V_b71_74.lt (Nat.le_of_eq g75.symm))
    have VxvalG_75 := VxvalG_74.ext E75
    have E_b53_75 := E_b53_74.ext E75
    have VxelemG_75 := VxelemG_74.ext E75
    have E_b62_75 := E_b62_74.ext E75
    have V_b71_75 := V_b71_74.ext E75
    have E_b71_75 := E_b71_74.ext E75
    have E_b75 := A75
    have F_keyGroups_b75 : Fld Z h75 b75 "tidewatch/decision/KeyGroupCeiling" "keyGroups" "I" (.int (0 : Int32)) := D75 (Or.inr (hw _ (List.mem_of_getElem? (i := 30) rfl))) (ty := .int) (by decide)
    have F_shares_b75 : Fld Z h75 b75 "tidewatch/decision/KeyGroupCeiling" "shares" "[D" .null := D75 (Or.inr (hw _ (List.mem_of_getElem? (i := 41) rfl))) (ty := (.array .double)) (by decide)
    have F_before_b75 : Fld Z h75 b75 "tidewatch/decision/KeyGroupCeiling" "before" "[D" .null := D75 (Or.inr (hw _ (List.mem_of_getElem? (i := 43) rfl))) (ty := (.array .double)) (by decide)
    show Go _ _ _ _ _ _ _ T75 (mkF m 184 #[.val (.int p0), .val (.int p1), .val (.int p2), .val (.int p3), .val (.int p4), .val (.int (3 : Int32)), .val (.int K), .val (.ref b53), .val (.ref b62), .val (.int (p2 &&& (7 : Int32))), .val (.int (p3 &&& (7 : Int32))), .val (.int (p4 &&& (7 : Int32))), .val (.ref b71), .unset, .unset, .unset] [(.ref b75)])
    refine Go.step (fun _ k => XS.dup X75.here hx rfl (hb hby at_184) rfl rfl k) ?_
    show Go _ _ _ _ _ _ _ T75 (mkF m 185 #[.val (.int p0), .val (.int p1), .val (.int p2), .val (.int p3), .val (.int p4), .val (.int (3 : Int32)), .val (.int K), .val (.ref b53), .val (.ref b62), .val (.int (p2 &&& (7 : Int32))), .val (.int (p3 &&& (7 : Int32))), .val (.int (p4 &&& (7 : Int32))), .val (.ref b71), .unset, .unset, .unset] [(.ref b75), (.ref b75)])
    refine Go.step (fun _ k => XS.iload X75.here hx rfl (hb hby at_185) rfl k) ?_
    show Go _ _ _ _ _ _ _ T75 (mkF m 187 #[.val (.int p0), .val (.int p1), .val (.int p2), .val (.int p3), .val (.int p4), .val (.int (3 : Int32)), .val (.int K), .val (.ref b53), .val (.ref b62), .val (.int (p2 &&& (7 : Int32))), .val (.int (p3 &&& (7 : Int32))), .val (.int (p4 &&& (7 : Int32))), .val (.ref b71), .unset, .unset, .unset] [(.int K), (.ref b75), (.ref b75)])
    refine Go.step (fun _ k => XS.aload X75.here hx rfl (hb hby at_187) rfl rfl k) ?_
    show Go _ _ _ _ _ _ _ T75 (mkF m 189 #[.val (.int p0), .val (.int p1), .val (.int p2), .val (.int p3), .val (.int p4), .val (.int (3 : Int32)), .val (.int K), .val (.ref b53), .val (.ref b62), .val (.int (p2 &&& (7 : Int32))), .val (.int (p3 &&& (7 : Int32))), .val (.int (p4 &&& (7 : Int32))), .val (.ref b71), .unset, .unset, .unset] [(.ref b71), (.int K), (.ref b75), (.ref b75)])
    refine Go.callI X75 hx hZ (by rw [hml]; rfl) (y := (⟨"tidewatch/decision/KeyGroupCeiling", "<init>", "(I[D)V"⟩ : MethodName)) (a := b75) (argsL := [(.int K), (.ref b71)]) (rest := [(.ref b75)]) rfl hown (hw _ (List.mem_of_getElem? (i := 23) rfl)) (hw _ (List.mem_of_getElem? (i := 24) rfl)) (hw _ (List.mem_of_getElem? (i := 22) rfl)) (hw _ (List.mem_of_getElem? (i := 25) rfl)) (by decide) (rm2_3 l Z a0 hw b75 b71 K (updN (updN (updN (fun _ => (0 : UInt64)) 0 (valG ((p2 &&& (7 : Int32))).toNatClampNeg)) 1 (valG ((p3 &&& (7 : Int32))).toNatClampNeg)) 2 (valG ((p4 &&& (7 : Int32))).toNatClampNeg)) h75 n0 (Nat.le_trans Z0 (K75 : Keep h0 h75 []).1) E_b75 F_keyGroups_b75 F_shares_b75 F_before_b75 E_b71_75 V_b71_75 ge_b75 (Ne.symm ne_b71_b75) hK (fun i hi' => by rcases (by omega : i = 0 ∨ i = 1 ∨ i = 2) with rfl | rfl | rfl; exact hv0.2.1; exact hv1.2.1; exact hv2.2.1) (fun i hi' => by rcases (by omega : i = 0 ∨ i = 1 ∨ i = 2) with rfl | rfl | rfl; exact hv0.2.2; exact hv1.2.2; exact hv2.2.2)) e75 (hb hby at_189) (lenOf pd_5 rfl) rfl rfl (W := 1) (Nat.le_of_eq rfl) (by decide) (by decide) (by decide) (by decide) ?_
    intro v76 T76 L76 X76 Q76
    obtain ⟨rfl, N76q, Kc76, Ec76, Fk76, c76, d76, Fc76, Fd76, Vc76, Vd76, sc76, sd76, ncd76⟩ := Q76
    have N76 := Fr.app N74 N76q
    have ne_b71_c76 : b71 ≠ c76 := Nat.ne_of_lt (Nat.lt_of_lt_of_le V_b71_75.lt sc76)
    have ne_b71_d76 : b71 ≠ d76 := Nat.ne_of_lt (Nat.lt_of_lt_of_le V_b71_75.lt sd76)
    have VxvalG_76 := VxvalG_75.keep Kc76 (ninS ne_b53_b75 nin0)
    have E_b53_76 := E_b53_75.keep Kc76
    have VxelemG_76 := VxelemG_75.keep Kc76 (ninS ne_b62_b75 nin0)
    have E_b62_76 := E_b62_75.keep Kc76
    have V_b71_76 := V_b71_75.keep Kc76 (ninS ne_b71_b75 nin0)
    have E_b71_76 := E_b71_75.keep Kc76
    have E_b75_76 := E_b75.keep Kc76
    have KK76 : Keep h0 T76.heap [] := (K75 : Keep h0 h75 []).trans Kc76 (allS (Or.inr sz_b75) all0)
    show Go _ _ _ _ _ _ _ T76 (mkF m 192 #[.val (.int p0), .val (.int p1), .val (.int p2), .val (.int p3), .val (.int p4), .val (.int (3 : Int32)), .val (.int K), .val (.ref b53), .val (.ref b62), .val (.int (p2 &&& (7 : Int32))), .val (.int (p3 &&& (7 : Int32))), .val (.int (p4 &&& (7 : Int32))), .val (.ref b71), .unset, .unset, .unset] [(.ref b75)])
    refine Go.step (fun _ k => XS.astore X76.here hx rfl (hb hby at_192) rfl rfl (l' := #[.val (.int p0), .val (.int p1), .val (.int p2), .val (.int p3), .val (.int p4), .val (.int (3 : Int32)), .val (.int K), .val (.ref b53), .val (.ref b62), .val (.int (p2 &&& (7 : Int32))), .val (.int (p3 &&& (7 : Int32))), .val (.int (p4 &&& (7 : Int32))), .val (.ref b71), .val (.ref b75), .unset, .unset]) rfl k) ?_
    show Go _ _ _ _ _ _ _ T76 (mkF m 194 #[.val (.int p0), .val (.int p1), .val (.int p2), .val (.int p3), .val (.int p4), .val (.int (3 : Int32)), .val (.int K), .val (.ref b53), .val (.ref b62), .val (.int (p2 &&& (7 : Int32))), .val (.int (p3 &&& (7 : Int32))), .val (.int (p4 &&& (7 : Int32))), .val (.ref b71), .val (.ref b75), .unset, .unset] [])
    refine Go.step (fun _ k => XS.aload X76.here hx rfl (hb hby at_194) rfl rfl k) ?_
    show Go _ _ _ _ _ _ _ T76 (mkF m 196 #[.val (.int p0), .val (.int p1), .val (.int p2), .val (.int p3), .val (.int p4), .val (.int (3 : Int32)), .val (.int K), .val (.ref b53), .val (.ref b62), .val (.int (p2 &&& (7 : Int32))), .val (.int (p3 &&& (7 : Int32))), .val (.int (p4 &&& (7 : Int32))), .val (.ref b71), .val (.ref b75), .unset, .unset] [(.ref b71)])
    refine Go.step (fun _ k => XS.iconst X76.here hx rfl (hb hby at_196) k) ?_
    show Go _ _ _ _ _ _ _ T76 (mkF m 197 #[.val (.int p0), .val (.int p1), .val (.int p2), .val (.int p3), .val (.int p4), .val (.int (3 : Int32)), .val (.int K), .val (.ref b53), .val (.ref b62), .val (.int (p2 &&& (7 : Int32))), .val (.int (p3 &&& (7 : Int32))), .val (.int (p4 &&& (7 : Int32))), .val (.ref b71), .val (.ref b75), .unset, .unset] [(.int (0 : Int32)), (.ref b71)])
    refine Go.step (X76.ldc2DoubleC hx hown (mvT hZ (hw _ (List.mem_of_getElem? (i := 52) rfl))) (g := (mkF m 197 #[.val (.int p0), .val (.int p1), .val (.int p2), .val (.int p3), .val (.int p4), .val (.int (3 : Int32)), .val (.int K), .val (.ref b53), .val (.ref b62), .val (.int (p2 &&& (7 : Int32))), .val (.int (p3 &&& (7 : Int32))), .val (.int (p4 &&& (7 : Int32))), .val (.ref b71), .val (.ref b75), .unset, .unset] [(.int (0 : Int32)), (.ref b71)])) rfl (hb hby at_197)) ?_
    show Go _ _ _ _ _ _ _ T76 (mkF m 200 #[.val (.int p0), .val (.int p1), .val (.int p2), .val (.int p3), .val (.int p4), .val (.int (3 : Int32)), .val (.int K), .val (.ref b53), .val (.ref b62), .val (.int (p2 &&& (7 : Int32))), .val (.int (p3 &&& (7 : Int32))), .val (.int (p4 &&& (7 : Int32))), .val (.ref b71), .val (.ref b75), .unset, .unset] [(.double (4612811918334230528 : UInt64)), (.int (0 : Int32)), (.ref b71)])
    refine Go.dastore X76 hx hZ rfl V_b71_76 (j := (0 : Int32)) (x := (4612811918334230528 : UInt64)) (by decide) (hb hby at_200) ?_
    intro T77 h77 X77 e77 W77 Vn77
    have V_b71_77 : Dv Z h77 b71 (3 : Int32) (updN (updN (updN (updN (fun _ => (0 : UInt64)) 0 (valG ((p2 &&& (7 : Int32))).toNatClampNeg)) 1 (valG ((p3 &&& (7 : Int32))).toNatClampNeg)) 2 (valG ((p4 &&& (7 : Int32))).toNatClampNeg)) 0 (4612811918334230528 : UInt64)) := Vn77
    have N77 := Fr.snoc X77 N76 ge_b71
    have VxvalG_77 := VxvalG_76.other W77 ne_b53_b71
    have E_b53_77 := E_b53_76.wr W77
    have VxelemG_77 := VxelemG_76.other W77 ne_b62_b71
    have E_b62_77 := E_b62_76.wr W77
    have E_b71_77 := E_b71_76.wr W77
    have Ec76_77 := Ec76.wr W77
    have Fk76_77 := Fk76.other W77 (Or.inl (Ne.symm ne_b71_b75))
    have Fc76_77 := Fc76.other W77 (Or.inl (Ne.symm ne_b71_b75))
    have Fd76_77 := Fd76.other W77 (Or.inl (Ne.symm ne_b71_b75))
    have Vc76_77 := Vc76.other W77 (Ne.symm ne_b71_c76)
    have Vd76_77 := Vd76.other W77 (Ne.symm ne_b71_d76)
    have K77 : Keep h0 h77 [] := KK76.wr W77 (Or.inr sz_b71)
    show Go _ _ _ _ _ _ _ T77 (mkF m 201 #[.val (.int p0), .val (.int p1), .val (.int p2), .val (.int p3), .val (.int p4), .val (.int (3 : Int32)), .val (.int K), .val (.ref b53), .val (.ref b62), .val (.int (p2 &&& (7 : Int32))), .val (.int (p3 &&& (7 : Int32))), .val (.int (p4 &&& (7 : Int32))), .val (.ref b71), .val (.ref b75), .unset, .unset] [])
    refine Go.step (fun _ k => XS.bipush X77.here hx rfl (hb hby at_201) k) ?_
    show Go _ _ _ _ _ _ _ T77 (mkF m 203 #[.val (.int p0), .val (.int p1), .val (.int p2), .val (.int p3), .val (.int p4), .val (.int (3 : Int32)), .val (.int K), .val (.ref b53), .val (.ref b62), .val (.int (p2 &&& (7 : Int32))), .val (.int (p3 &&& (7 : Int32))), .val (.int (p4 &&& (7 : Int32))), .val (.ref b71), .val (.ref b75), .unset, .unset] [(.int (31 : Int32))])
    refine Go.step (fun _ k => XS.aload X77.here hx rfl (hb hby at_203) rfl rfl k) ?_
    show Go _ _ _ _ _ _ _ T77 (mkF m 205 #[.val (.int p0), .val (.int p1), .val (.int p2), .val (.int p3), .val (.int p4), .val (.int (3 : Int32)), .val (.int K), .val (.ref b53), .val (.ref b62), .val (.int (p2 &&& (7 : Int32))), .val (.int (p3 &&& (7 : Int32))), .val (.int (p4 &&& (7 : Int32))), .val (.ref b71), .val (.ref b75), .unset, .unset] [(.ref b62), (.int (31 : Int32))])
    refine Go.step (fun _ k => XS.iload X77.here hx rfl (hb hby at_205) rfl k) ?_
    show Go _ _ _ _ _ _ _ T77 (mkF m 207 #[.val (.int p0), .val (.int p1), .val (.int p2), .val (.int p3), .val (.int p4), .val (.int (3 : Int32)), .val (.int K), .val (.ref b53), .val (.ref b62), .val (.int (p2 &&& (7 : Int32))), .val (.int (p3 &&& (7 : Int32))), .val (.int (p4 &&& (7 : Int32))), .val (.ref b71), .val (.ref b75), .unset, .unset] [(.int (p2 &&& (7 : Int32))), (.ref b62), (.int (31 : Int32))])
    refine Go.iaload X77 hx hZ e77 VxelemG_77 (j := (p2 &&& (7 : Int32))) (v := (elemG ((p2 &&& (7 : Int32))).toNatClampNeg)) (own_i7 p2) rfl (hb hby at_207) ?_
    show Go _ _ _ _ _ _ _ T77 (mkF m 208 #[.val (.int p0), .val (.int p1), .val (.int p2), .val (.int p3), .val (.int p4), .val (.int (3 : Int32)), .val (.int K), .val (.ref b53), .val (.ref b62), .val (.int (p2 &&& (7 : Int32))), .val (.int (p3 &&& (7 : Int32))), .val (.int (p4 &&& (7 : Int32))), .val (.ref b71), .val (.ref b75), .unset, .unset] [(.int (elemG ((p2 &&& (7 : Int32))).toNatClampNeg)), (.int (31 : Int32))])
    refine Go.step (fun _ k => XS.iadd X77.here hx rfl (hb hby at_208) rfl k) ?_
    show Go _ _ _ _ _ _ _ T77 (mkF m 209 #[.val (.int p0), .val (.int p1), .val (.int p2), .val (.int p3), .val (.int p4), .val (.int (3 : Int32)), .val (.int K), .val (.ref b53), .val (.ref b62), .val (.int (p2 &&& (7 : Int32))), .val (.int (p3 &&& (7 : Int32))), .val (.int (p4 &&& (7 : Int32))), .val (.ref b71), .val (.ref b75), .unset, .unset] [(.int ((31 : Int32) + (elemG ((p2 &&& (7 : Int32))).toNatClampNeg)))])
    refine Go.step (fun _ k => XS.istore X77.here hx rfl (hb hby at_209) rfl (l' := #[.val (.int p0), .val (.int p1), .val (.int p2), .val (.int p3), .val (.int p4), .val (.int (3 : Int32)), .val (.int K), .val (.ref b53), .val (.ref b62), .val (.int (p2 &&& (7 : Int32))), .val (.int (p3 &&& (7 : Int32))), .val (.int (p4 &&& (7 : Int32))), .val (.ref b71), .val (.ref b75), .val (.int ((31 : Int32) + (elemG ((p2 &&& (7 : Int32))).toNatClampNeg))), .unset]) rfl k) ?_
    show Go _ _ _ _ _ _ _ T77 (mkF m 211 #[.val (.int p0), .val (.int p1), .val (.int p2), .val (.int p3), .val (.int p4), .val (.int (3 : Int32)), .val (.int K), .val (.ref b53), .val (.ref b62), .val (.int (p2 &&& (7 : Int32))), .val (.int (p3 &&& (7 : Int32))), .val (.int (p4 &&& (7 : Int32))), .val (.ref b71), .val (.ref b75), .val (.int ((31 : Int32) + (elemG ((p2 &&& (7 : Int32))).toNatClampNeg))), .unset] [])
    refine Go.step (fun _ k => XS.iload X77.here hx rfl (hb hby at_211) rfl k) ?_
    show Go _ _ _ _ _ _ _ T77 (mkF m 213 #[.val (.int p0), .val (.int p1), .val (.int p2), .val (.int p3), .val (.int p4), .val (.int (3 : Int32)), .val (.int K), .val (.ref b53), .val (.ref b62), .val (.int (p2 &&& (7 : Int32))), .val (.int (p3 &&& (7 : Int32))), .val (.int (p4 &&& (7 : Int32))), .val (.ref b71), .val (.ref b75), .val (.int ((31 : Int32) + (elemG ((p2 &&& (7 : Int32))).toNatClampNeg))), .unset] [(.int (3 : Int32))])
    refine Go.step (fun _ k => XS.iconst X77.here hx rfl (hb hby at_213) k) ?_
    show Go _ _ _ _ _ _ _ T77 (mkF m 214 #[.val (.int p0), .val (.int p1), .val (.int p2), .val (.int p3), .val (.int p4), .val (.int (3 : Int32)), .val (.int K), .val (.ref b53), .val (.ref b62), .val (.int (p2 &&& (7 : Int32))), .val (.int (p3 &&& (7 : Int32))), .val (.int (p4 &&& (7 : Int32))), .val (.ref b71), .val (.ref b75), .val (.int ((31 : Int32) + (elemG ((p2 &&& (7 : Int32))).toNatClampNeg))), .unset] [(.int (1 : Int32)), (.int (3 : Int32))])
    refine Go.step (fun _ k => XS.icmpNo X77.here hx rfl (hb hby at_214) rfl (tlt (by decide : (1 : Int32) < (3 : Int32))).2.2.2 k) ?_
    show Go _ _ _ _ _ _ _ T77 (mkF m 217 #[.val (.int p0), .val (.int p1), .val (.int p2), .val (.int p3), .val (.int p4), .val (.int (3 : Int32)), .val (.int K), .val (.ref b53), .val (.ref b62), .val (.int (p2 &&& (7 : Int32))), .val (.int (p3 &&& (7 : Int32))), .val (.int (p4 &&& (7 : Int32))), .val (.ref b71), .val (.ref b75), .val (.int ((31 : Int32) + (elemG ((p2 &&& (7 : Int32))).toNatClampNeg))), .unset] [])
    refine Go.step (fun _ k => XS.bipush X77.here hx rfl (hb hby at_217) k) ?_
    show Go _ _ _ _ _ _ _ T77 (mkF m 219 #[.val (.int p0), .val (.int p1), .val (.int p2), .val (.int p3), .val (.int p4), .val (.int (3 : Int32)), .val (.int K), .val (.ref b53), .val (.ref b62), .val (.int (p2 &&& (7 : Int32))), .val (.int (p3 &&& (7 : Int32))), .val (.int (p4 &&& (7 : Int32))), .val (.ref b71), .val (.ref b75), .val (.int ((31 : Int32) + (elemG ((p2 &&& (7 : Int32))).toNatClampNeg))), .unset] [(.int (31 : Int32))])
    refine Go.step (fun _ k => XS.iload X77.here hx rfl (hb hby at_219) rfl k) ?_
    show Go _ _ _ _ _ _ _ T77 (mkF m 221 #[.val (.int p0), .val (.int p1), .val (.int p2), .val (.int p3), .val (.int p4), .val (.int (3 : Int32)), .val (.int K), .val (.ref b53), .val (.ref b62), .val (.int (p2 &&& (7 : Int32))), .val (.int (p3 &&& (7 : Int32))), .val (.int (p4 &&& (7 : Int32))), .val (.ref b71), .val (.ref b75), .val (.int ((31 : Int32) + (elemG ((p2 &&& (7 : Int32))).toNatClampNeg))), .unset] [(.int ((31 : Int32) + (elemG ((p2 &&& (7 : Int32))).toNatClampNeg))), (.int (31 : Int32))])
    refine Go.step (fun _ k => XS.imul X77.here hx rfl (hb hby at_221) rfl k) ?_
    show Go _ _ _ _ _ _ _ T77 (mkF m 222 #[.val (.int p0), .val (.int p1), .val (.int p2), .val (.int p3), .val (.int p4), .val (.int (3 : Int32)), .val (.int K), .val (.ref b53), .val (.ref b62), .val (.int (p2 &&& (7 : Int32))), .val (.int (p3 &&& (7 : Int32))), .val (.int (p4 &&& (7 : Int32))), .val (.ref b71), .val (.ref b75), .val (.int ((31 : Int32) + (elemG ((p2 &&& (7 : Int32))).toNatClampNeg))), .unset] [(.int ((31 : Int32) * ((31 : Int32) + (elemG ((p2 &&& (7 : Int32))).toNatClampNeg))))])
    refine Go.step (fun _ k => XS.aload X77.here hx rfl (hb hby at_222) rfl rfl k) ?_
    show Go _ _ _ _ _ _ _ T77 (mkF m 224 #[.val (.int p0), .val (.int p1), .val (.int p2), .val (.int p3), .val (.int p4), .val (.int (3 : Int32)), .val (.int K), .val (.ref b53), .val (.ref b62), .val (.int (p2 &&& (7 : Int32))), .val (.int (p3 &&& (7 : Int32))), .val (.int (p4 &&& (7 : Int32))), .val (.ref b71), .val (.ref b75), .val (.int ((31 : Int32) + (elemG ((p2 &&& (7 : Int32))).toNatClampNeg))), .unset] [(.ref b62), (.int ((31 : Int32) * ((31 : Int32) + (elemG ((p2 &&& (7 : Int32))).toNatClampNeg))))])
    refine Go.step (fun _ k => XS.iload X77.here hx rfl (hb hby at_224) rfl k) ?_
    show Go _ _ _ _ _ _ _ T77 (mkF m 226 #[.val (.int p0), .val (.int p1), .val (.int p2), .val (.int p3), .val (.int p4), .val (.int (3 : Int32)), .val (.int K), .val (.ref b53), .val (.ref b62), .val (.int (p2 &&& (7 : Int32))), .val (.int (p3 &&& (7 : Int32))), .val (.int (p4 &&& (7 : Int32))), .val (.ref b71), .val (.ref b75), .val (.int ((31 : Int32) + (elemG ((p2 &&& (7 : Int32))).toNatClampNeg))), .unset] [(.int (p3 &&& (7 : Int32))), (.ref b62), (.int ((31 : Int32) * ((31 : Int32) + (elemG ((p2 &&& (7 : Int32))).toNatClampNeg))))])
    refine Go.iaload X77 hx hZ e77 VxelemG_77 (j := (p3 &&& (7 : Int32))) (v := (elemG ((p3 &&& (7 : Int32))).toNatClampNeg)) (own_i7 p3) rfl (hb hby at_226) ?_
    show Go _ _ _ _ _ _ _ T77 (mkF m 227 #[.val (.int p0), .val (.int p1), .val (.int p2), .val (.int p3), .val (.int p4), .val (.int (3 : Int32)), .val (.int K), .val (.ref b53), .val (.ref b62), .val (.int (p2 &&& (7 : Int32))), .val (.int (p3 &&& (7 : Int32))), .val (.int (p4 &&& (7 : Int32))), .val (.ref b71), .val (.ref b75), .val (.int ((31 : Int32) + (elemG ((p2 &&& (7 : Int32))).toNatClampNeg))), .unset] [(.int (elemG ((p3 &&& (7 : Int32))).toNatClampNeg)), (.int ((31 : Int32) * ((31 : Int32) + (elemG ((p2 &&& (7 : Int32))).toNatClampNeg))))])
    refine Go.step (fun _ k => XS.iadd X77.here hx rfl (hb hby at_227) rfl k) ?_
    show Go _ _ _ _ _ _ _ T77 (mkF m 228 #[.val (.int p0), .val (.int p1), .val (.int p2), .val (.int p3), .val (.int p4), .val (.int (3 : Int32)), .val (.int K), .val (.ref b53), .val (.ref b62), .val (.int (p2 &&& (7 : Int32))), .val (.int (p3 &&& (7 : Int32))), .val (.int (p4 &&& (7 : Int32))), .val (.ref b71), .val (.ref b75), .val (.int ((31 : Int32) + (elemG ((p2 &&& (7 : Int32))).toNatClampNeg))), .unset] [(.int (((31 : Int32) * ((31 : Int32) + (elemG ((p2 &&& (7 : Int32))).toNatClampNeg))) + (elemG ((p3 &&& (7 : Int32))).toNatClampNeg)))])
    refine Go.step (fun _ k => XS.istore X77.here hx rfl (hb hby at_228) rfl (l' := #[.val (.int p0), .val (.int p1), .val (.int p2), .val (.int p3), .val (.int p4), .val (.int (3 : Int32)), .val (.int K), .val (.ref b53), .val (.ref b62), .val (.int (p2 &&& (7 : Int32))), .val (.int (p3 &&& (7 : Int32))), .val (.int (p4 &&& (7 : Int32))), .val (.ref b71), .val (.ref b75), .val (.int (((31 : Int32) * ((31 : Int32) + (elemG ((p2 &&& (7 : Int32))).toNatClampNeg))) + (elemG ((p3 &&& (7 : Int32))).toNatClampNeg))), .unset]) rfl k) ?_
    show Go _ _ _ _ _ _ _ T77 (mkF m 230 #[.val (.int p0), .val (.int p1), .val (.int p2), .val (.int p3), .val (.int p4), .val (.int (3 : Int32)), .val (.int K), .val (.ref b53), .val (.ref b62), .val (.int (p2 &&& (7 : Int32))), .val (.int (p3 &&& (7 : Int32))), .val (.int (p4 &&& (7 : Int32))), .val (.ref b71), .val (.ref b75), .val (.int (((31 : Int32) * ((31 : Int32) + (elemG ((p2 &&& (7 : Int32))).toNatClampNeg))) + (elemG ((p3 &&& (7 : Int32))).toNatClampNeg))), .unset] [])
    refine Go.step (fun _ k => XS.iload X77.here hx rfl (hb hby at_230) rfl k) ?_
    show Go _ _ _ _ _ _ _ T77 (mkF m 232 #[.val (.int p0), .val (.int p1), .val (.int p2), .val (.int p3), .val (.int p4), .val (.int (3 : Int32)), .val (.int K), .val (.ref b53), .val (.ref b62), .val (.int (p2 &&& (7 : Int32))), .val (.int (p3 &&& (7 : Int32))), .val (.int (p4 &&& (7 : Int32))), .val (.ref b71), .val (.ref b75), .val (.int (((31 : Int32) * ((31 : Int32) + (elemG ((p2 &&& (7 : Int32))).toNatClampNeg))) + (elemG ((p3 &&& (7 : Int32))).toNatClampNeg))), .unset] [(.int (3 : Int32))])
    refine Go.step (fun _ k => XS.iconst X77.here hx rfl (hb hby at_232) k) ?_
    show Go _ _ _ _ _ _ _ T77 (mkF m 233 #[.val (.int p0), .val (.int p1), .val (.int p2), .val (.int p3), .val (.int p4), .val (.int (3 : Int32)), .val (.int K), .val (.ref b53), .val (.ref b62), .val (.int (p2 &&& (7 : Int32))), .val (.int (p3 &&& (7 : Int32))), .val (.int (p4 &&& (7 : Int32))), .val (.ref b71), .val (.ref b75), .val (.int (((31 : Int32) * ((31 : Int32) + (elemG ((p2 &&& (7 : Int32))).toNatClampNeg))) + (elemG ((p3 &&& (7 : Int32))).toNatClampNeg))), .unset] [(.int (2 : Int32)), (.int (3 : Int32))])
    refine Go.step (fun _ k => XS.icmpNo X77.here hx rfl (hb hby at_233) rfl (tlt (by decide : (2 : Int32) < (3 : Int32))).2.2.2 k) ?_
    show Go _ _ _ _ _ _ _ T77 (mkF m 236 #[.val (.int p0), .val (.int p1), .val (.int p2), .val (.int p3), .val (.int p4), .val (.int (3 : Int32)), .val (.int K), .val (.ref b53), .val (.ref b62), .val (.int (p2 &&& (7 : Int32))), .val (.int (p3 &&& (7 : Int32))), .val (.int (p4 &&& (7 : Int32))), .val (.ref b71), .val (.ref b75), .val (.int (((31 : Int32) * ((31 : Int32) + (elemG ((p2 &&& (7 : Int32))).toNatClampNeg))) + (elemG ((p3 &&& (7 : Int32))).toNatClampNeg))), .unset] [])
    refine Go.step (fun _ k => XS.bipush X77.here hx rfl (hb hby at_236) k) ?_
    show Go _ _ _ _ _ _ _ T77 (mkF m 238 #[.val (.int p0), .val (.int p1), .val (.int p2), .val (.int p3), .val (.int p4), .val (.int (3 : Int32)), .val (.int K), .val (.ref b53), .val (.ref b62), .val (.int (p2 &&& (7 : Int32))), .val (.int (p3 &&& (7 : Int32))), .val (.int (p4 &&& (7 : Int32))), .val (.ref b71), .val (.ref b75), .val (.int (((31 : Int32) * ((31 : Int32) + (elemG ((p2 &&& (7 : Int32))).toNatClampNeg))) + (elemG ((p3 &&& (7 : Int32))).toNatClampNeg))), .unset] [(.int (31 : Int32))])
    refine Go.step (fun _ k => XS.iload X77.here hx rfl (hb hby at_238) rfl k) ?_
    show Go _ _ _ _ _ _ _ T77 (mkF m 240 #[.val (.int p0), .val (.int p1), .val (.int p2), .val (.int p3), .val (.int p4), .val (.int (3 : Int32)), .val (.int K), .val (.ref b53), .val (.ref b62), .val (.int (p2 &&& (7 : Int32))), .val (.int (p3 &&& (7 : Int32))), .val (.int (p4 &&& (7 : Int32))), .val (.ref b71), .val (.ref b75), .val (.int (((31 : Int32) * ((31 : Int32) + (elemG ((p2 &&& (7 : Int32))).toNatClampNeg))) + (elemG ((p3 &&& (7 : Int32))).toNatClampNeg))), .unset] [(.int (((31 : Int32) * ((31 : Int32) + (elemG ((p2 &&& (7 : Int32))).toNatClampNeg))) + (elemG ((p3 &&& (7 : Int32))).toNatClampNeg))), (.int (31 : Int32))])
    refine Go.step (fun _ k => XS.imul X77.here hx rfl (hb hby at_240) rfl k) ?_
    show Go _ _ _ _ _ _ _ T77 (mkF m 241 #[.val (.int p0), .val (.int p1), .val (.int p2), .val (.int p3), .val (.int p4), .val (.int (3 : Int32)), .val (.int K), .val (.ref b53), .val (.ref b62), .val (.int (p2 &&& (7 : Int32))), .val (.int (p3 &&& (7 : Int32))), .val (.int (p4 &&& (7 : Int32))), .val (.ref b71), .val (.ref b75), .val (.int (((31 : Int32) * ((31 : Int32) + (elemG ((p2 &&& (7 : Int32))).toNatClampNeg))) + (elemG ((p3 &&& (7 : Int32))).toNatClampNeg))), .unset] [(.int ((31 : Int32) * (((31 : Int32) * ((31 : Int32) + (elemG ((p2 &&& (7 : Int32))).toNatClampNeg))) + (elemG ((p3 &&& (7 : Int32))).toNatClampNeg))))])
    refine Go.step (fun _ k => XS.aload X77.here hx rfl (hb hby at_241) rfl rfl k) ?_
    show Go _ _ _ _ _ _ _ T77 (mkF m 243 #[.val (.int p0), .val (.int p1), .val (.int p2), .val (.int p3), .val (.int p4), .val (.int (3 : Int32)), .val (.int K), .val (.ref b53), .val (.ref b62), .val (.int (p2 &&& (7 : Int32))), .val (.int (p3 &&& (7 : Int32))), .val (.int (p4 &&& (7 : Int32))), .val (.ref b71), .val (.ref b75), .val (.int (((31 : Int32) * ((31 : Int32) + (elemG ((p2 &&& (7 : Int32))).toNatClampNeg))) + (elemG ((p3 &&& (7 : Int32))).toNatClampNeg))), .unset] [(.ref b62), (.int ((31 : Int32) * (((31 : Int32) * ((31 : Int32) + (elemG ((p2 &&& (7 : Int32))).toNatClampNeg))) + (elemG ((p3 &&& (7 : Int32))).toNatClampNeg))))])
    refine Go.step (fun _ k => XS.iload X77.here hx rfl (hb hby at_243) rfl k) ?_
    show Go _ _ _ _ _ _ _ T77 (mkF m 245 #[.val (.int p0), .val (.int p1), .val (.int p2), .val (.int p3), .val (.int p4), .val (.int (3 : Int32)), .val (.int K), .val (.ref b53), .val (.ref b62), .val (.int (p2 &&& (7 : Int32))), .val (.int (p3 &&& (7 : Int32))), .val (.int (p4 &&& (7 : Int32))), .val (.ref b71), .val (.ref b75), .val (.int (((31 : Int32) * ((31 : Int32) + (elemG ((p2 &&& (7 : Int32))).toNatClampNeg))) + (elemG ((p3 &&& (7 : Int32))).toNatClampNeg))), .unset] [(.int (p4 &&& (7 : Int32))), (.ref b62), (.int ((31 : Int32) * (((31 : Int32) * ((31 : Int32) + (elemG ((p2 &&& (7 : Int32))).toNatClampNeg))) + (elemG ((p3 &&& (7 : Int32))).toNatClampNeg))))])
    refine Go.iaload X77 hx hZ e77 VxelemG_77 (j := (p4 &&& (7 : Int32))) (v := (elemG ((p4 &&& (7 : Int32))).toNatClampNeg)) (own_i7 p4) rfl (hb hby at_245) ?_
    show Go _ _ _ _ _ _ _ T77 (mkF m 246 #[.val (.int p0), .val (.int p1), .val (.int p2), .val (.int p3), .val (.int p4), .val (.int (3 : Int32)), .val (.int K), .val (.ref b53), .val (.ref b62), .val (.int (p2 &&& (7 : Int32))), .val (.int (p3 &&& (7 : Int32))), .val (.int (p4 &&& (7 : Int32))), .val (.ref b71), .val (.ref b75), .val (.int (((31 : Int32) * ((31 : Int32) + (elemG ((p2 &&& (7 : Int32))).toNatClampNeg))) + (elemG ((p3 &&& (7 : Int32))).toNatClampNeg))), .unset] [(.int (elemG ((p4 &&& (7 : Int32))).toNatClampNeg)), (.int ((31 : Int32) * (((31 : Int32) * ((31 : Int32) + (elemG ((p2 &&& (7 : Int32))).toNatClampNeg))) + (elemG ((p3 &&& (7 : Int32))).toNatClampNeg))))])
    refine Go.step (fun _ k => XS.iadd X77.here hx rfl (hb hby at_246) rfl k) ?_
    show Go _ _ _ _ _ _ _ T77 (mkF m 247 #[.val (.int p0), .val (.int p1), .val (.int p2), .val (.int p3), .val (.int p4), .val (.int (3 : Int32)), .val (.int K), .val (.ref b53), .val (.ref b62), .val (.int (p2 &&& (7 : Int32))), .val (.int (p3 &&& (7 : Int32))), .val (.int (p4 &&& (7 : Int32))), .val (.ref b71), .val (.ref b75), .val (.int (((31 : Int32) * ((31 : Int32) + (elemG ((p2 &&& (7 : Int32))).toNatClampNeg))) + (elemG ((p3 &&& (7 : Int32))).toNatClampNeg))), .unset] [(.int (((31 : Int32) * (((31 : Int32) * ((31 : Int32) + (elemG ((p2 &&& (7 : Int32))).toNatClampNeg))) + (elemG ((p3 &&& (7 : Int32))).toNatClampNeg))) + (elemG ((p4 &&& (7 : Int32))).toNatClampNeg)))])
    refine Go.step (fun _ k => XS.istore X77.here hx rfl (hb hby at_247) rfl (l' := #[.val (.int p0), .val (.int p1), .val (.int p2), .val (.int p3), .val (.int p4), .val (.int (3 : Int32)), .val (.int K), .val (.ref b53), .val (.ref b62), .val (.int (p2 &&& (7 : Int32))), .val (.int (p3 &&& (7 : Int32))), .val (.int (p4 &&& (7 : Int32))), .val (.ref b71), .val (.ref b75), .val (.int (((31 : Int32) * (((31 : Int32) * ((31 : Int32) + (elemG ((p2 &&& (7 : Int32))).toNatClampNeg))) + (elemG ((p3 &&& (7 : Int32))).toNatClampNeg))) + (elemG ((p4 &&& (7 : Int32))).toNatClampNeg))), .unset]) rfl k) ?_
    show Go _ _ _ _ _ _ _ T77 (mkF m 249 #[.val (.int p0), .val (.int p1), .val (.int p2), .val (.int p3), .val (.int p4), .val (.int (3 : Int32)), .val (.int K), .val (.ref b53), .val (.ref b62), .val (.int (p2 &&& (7 : Int32))), .val (.int (p3 &&& (7 : Int32))), .val (.int (p4 &&& (7 : Int32))), .val (.ref b71), .val (.ref b75), .val (.int (((31 : Int32) * (((31 : Int32) * ((31 : Int32) + (elemG ((p2 &&& (7 : Int32))).toNatClampNeg))) + (elemG ((p3 &&& (7 : Int32))).toNatClampNeg))) + (elemG ((p4 &&& (7 : Int32))).toNatClampNeg))), .unset] [])
    refine Go.step (fun _ k => XS.bipush X77.here hx rfl (hb hby at_249) k) ?_
    show Go _ _ _ _ _ _ _ T77 (mkF m 251 #[.val (.int p0), .val (.int p1), .val (.int p2), .val (.int p3), .val (.int p4), .val (.int (3 : Int32)), .val (.int K), .val (.ref b53), .val (.ref b62), .val (.int (p2 &&& (7 : Int32))), .val (.int (p3 &&& (7 : Int32))), .val (.int (p4 &&& (7 : Int32))), .val (.ref b71), .val (.ref b75), .val (.int (((31 : Int32) * (((31 : Int32) * ((31 : Int32) + (elemG ((p2 &&& (7 : Int32))).toNatClampNeg))) + (elemG ((p3 &&& (7 : Int32))).toNatClampNeg))) + (elemG ((p4 &&& (7 : Int32))).toNatClampNeg))), .unset] [(.int (31 : Int32))])
    refine Go.step (fun _ k => XS.iload X77.here hx rfl (hb hby at_251) rfl k) ?_
    show Go _ _ _ _ _ _ _ T77 (mkF m 253 #[.val (.int p0), .val (.int p1), .val (.int p2), .val (.int p3), .val (.int p4), .val (.int (3 : Int32)), .val (.int K), .val (.ref b53), .val (.ref b62), .val (.int (p2 &&& (7 : Int32))), .val (.int (p3 &&& (7 : Int32))), .val (.int (p4 &&& (7 : Int32))), .val (.ref b71), .val (.ref b75), .val (.int (((31 : Int32) * (((31 : Int32) * ((31 : Int32) + (elemG ((p2 &&& (7 : Int32))).toNatClampNeg))) + (elemG ((p3 &&& (7 : Int32))).toNatClampNeg))) + (elemG ((p4 &&& (7 : Int32))).toNatClampNeg))), .unset] [(.int K), (.int (31 : Int32))])
    refine Go.step (fun _ k => XS.imul X77.here hx rfl (hb hby at_253) rfl k) ?_
    show Go _ _ _ _ _ _ _ T77 (mkF m 254 #[.val (.int p0), .val (.int p1), .val (.int p2), .val (.int p3), .val (.int p4), .val (.int (3 : Int32)), .val (.int K), .val (.ref b53), .val (.ref b62), .val (.int (p2 &&& (7 : Int32))), .val (.int (p3 &&& (7 : Int32))), .val (.int (p4 &&& (7 : Int32))), .val (.ref b71), .val (.ref b75), .val (.int (((31 : Int32) * (((31 : Int32) * ((31 : Int32) + (elemG ((p2 &&& (7 : Int32))).toNatClampNeg))) + (elemG ((p3 &&& (7 : Int32))).toNatClampNeg))) + (elemG ((p4 &&& (7 : Int32))).toNatClampNeg))), .unset] [(.int ((31 : Int32) * K))])
    refine Go.step (fun _ k => XS.iload X77.here hx rfl (hb hby at_254) rfl k) ?_
    show Go _ _ _ _ _ _ _ T77 (mkF m 256 #[.val (.int p0), .val (.int p1), .val (.int p2), .val (.int p3), .val (.int p4), .val (.int (3 : Int32)), .val (.int K), .val (.ref b53), .val (.ref b62), .val (.int (p2 &&& (7 : Int32))), .val (.int (p3 &&& (7 : Int32))), .val (.int (p4 &&& (7 : Int32))), .val (.ref b71), .val (.ref b75), .val (.int (((31 : Int32) * (((31 : Int32) * ((31 : Int32) + (elemG ((p2 &&& (7 : Int32))).toNatClampNeg))) + (elemG ((p3 &&& (7 : Int32))).toNatClampNeg))) + (elemG ((p4 &&& (7 : Int32))).toNatClampNeg))), .unset] [(.int (((31 : Int32) * (((31 : Int32) * ((31 : Int32) + (elemG ((p2 &&& (7 : Int32))).toNatClampNeg))) + (elemG ((p3 &&& (7 : Int32))).toNatClampNeg))) + (elemG ((p4 &&& (7 : Int32))).toNatClampNeg))), (.int ((31 : Int32) * K))])
    refine Go.step (fun _ k => XS.iadd X77.here hx rfl (hb hby at_256) rfl k) ?_
    show Go _ _ _ _ _ _ _ T77 (mkF m 257 #[.val (.int p0), .val (.int p1), .val (.int p2), .val (.int p3), .val (.int p4), .val (.int (3 : Int32)), .val (.int K), .val (.ref b53), .val (.ref b62), .val (.int (p2 &&& (7 : Int32))), .val (.int (p3 &&& (7 : Int32))), .val (.int (p4 &&& (7 : Int32))), .val (.ref b71), .val (.ref b75), .val (.int (((31 : Int32) * (((31 : Int32) * ((31 : Int32) + (elemG ((p2 &&& (7 : Int32))).toNatClampNeg))) + (elemG ((p3 &&& (7 : Int32))).toNatClampNeg))) + (elemG ((p4 &&& (7 : Int32))).toNatClampNeg))), .unset] [(.int (((31 : Int32) * K) + (((31 : Int32) * (((31 : Int32) * ((31 : Int32) + (elemG ((p2 &&& (7 : Int32))).toNatClampNeg))) + (elemG ((p3 &&& (7 : Int32))).toNatClampNeg))) + (elemG ((p4 &&& (7 : Int32))).toNatClampNeg))))])
    refine Go.step (fun _ k => XS.istore X77.here hx rfl (hb hby at_257) rfl (l' := #[.val (.int p0), .val (.int p1), .val (.int p2), .val (.int p3), .val (.int p4), .val (.int (3 : Int32)), .val (.int K), .val (.ref b53), .val (.ref b62), .val (.int (p2 &&& (7 : Int32))), .val (.int (p3 &&& (7 : Int32))), .val (.int (p4 &&& (7 : Int32))), .val (.ref b71), .val (.ref b75), .val (.int (((31 : Int32) * (((31 : Int32) * ((31 : Int32) + (elemG ((p2 &&& (7 : Int32))).toNatClampNeg))) + (elemG ((p3 &&& (7 : Int32))).toNatClampNeg))) + (elemG ((p4 &&& (7 : Int32))).toNatClampNeg))), .val (.int (((31 : Int32) * K) + (((31 : Int32) * (((31 : Int32) * ((31 : Int32) + (elemG ((p2 &&& (7 : Int32))).toNatClampNeg))) + (elemG ((p3 &&& (7 : Int32))).toNatClampNeg))) + (elemG ((p4 &&& (7 : Int32))).toNatClampNeg))))]) rfl k) ?_
    show Go _ _ _ _ _ _ _ T77 (mkF m 259 #[.val (.int p0), .val (.int p1), .val (.int p2), .val (.int p3), .val (.int p4), .val (.int (3 : Int32)), .val (.int K), .val (.ref b53), .val (.ref b62), .val (.int (p2 &&& (7 : Int32))), .val (.int (p3 &&& (7 : Int32))), .val (.int (p4 &&& (7 : Int32))), .val (.ref b71), .val (.ref b75), .val (.int (((31 : Int32) * (((31 : Int32) * ((31 : Int32) + (elemG ((p2 &&& (7 : Int32))).toNatClampNeg))) + (elemG ((p3 &&& (7 : Int32))).toNatClampNeg))) + (elemG ((p4 &&& (7 : Int32))).toNatClampNeg))), .val (.int (((31 : Int32) * K) + (((31 : Int32) * (((31 : Int32) * ((31 : Int32) + (elemG ((p2 &&& (7 : Int32))).toNatClampNeg))) + (elemG ((p3 &&& (7 : Int32))).toNatClampNeg))) + (elemG ((p4 &&& (7 : Int32))).toNatClampNeg))))] [])
    refine Go.step (fun _ k => XS.aload X77.here hx rfl (hb hby at_259) rfl rfl k) ?_
    show Go _ _ _ _ _ _ _ T77 (mkF m 261 #[.val (.int p0), .val (.int p1), .val (.int p2), .val (.int p3), .val (.int p4), .val (.int (3 : Int32)), .val (.int K), .val (.ref b53), .val (.ref b62), .val (.int (p2 &&& (7 : Int32))), .val (.int (p3 &&& (7 : Int32))), .val (.int (p4 &&& (7 : Int32))), .val (.ref b71), .val (.ref b75), .val (.int (((31 : Int32) * (((31 : Int32) * ((31 : Int32) + (elemG ((p2 &&& (7 : Int32))).toNatClampNeg))) + (elemG ((p3 &&& (7 : Int32))).toNatClampNeg))) + (elemG ((p4 &&& (7 : Int32))).toNatClampNeg))), .val (.int (((31 : Int32) * K) + (((31 : Int32) * (((31 : Int32) * ((31 : Int32) + (elemG ((p2 &&& (7 : Int32))).toNatClampNeg))) + (elemG ((p3 &&& (7 : Int32))).toNatClampNeg))) + (elemG ((p4 &&& (7 : Int32))).toNatClampNeg))))] [(.ref b75)])
    refine Go.callV X77 hx hZ (by rw [hml]; rfl) (y := (⟨"tidewatch/decision/KeyGroupCeiling", "hashCode", "()I"⟩ : MethodName)) (z := (⟨"tidewatch/decision/KeyGroupCeiling", "hashCode", "()I"⟩ : MethodName)) (a := b75) (argsL := []) (rest := []) hown (hw _ (List.mem_of_getElem? (i := 53) rfl)) (hw _ (List.mem_of_getElem? (i := 54) rfl)) (notFace_of_selects (args := #[]) (mvT hZ (hw _ (List.mem_of_getElem? (i := 56) rfl)))) (hw _ (List.mem_of_getElem? (i := 56) rfl)) (hw _ (List.mem_of_getElem? (i := 55) rfl)) (hw _ (List.mem_of_getElem? (i := 22) rfl)) (hw _ (List.mem_of_getElem? (i := 57) rfl)) (by decide) (rm6_3 l Z a0 hw b75 c76 K (updN (updN (updN (fun _ => (0 : UInt64)) 0 (valG ((p2 &&& (7 : Int32))).toNatClampNeg)) 1 (valG ((p3 &&& (7 : Int32))).toNatClampNeg)) 2 (valG ((p4 &&& (7 : Int32))).toNatClampNeg)) h77 n0 (Nat.le_trans Z0 (K77 : Keep h0 h77 []).1) Fk76_77 Fc76_77 Vc76_77 (fun i hi' => by rcases (by omega : i = 0 ∨ i = 1 ∨ i = 2) with rfl | rfl | rfl; exact hv0.2.1.noNaN; exact hv1.2.1.noNaN; exact hv2.2.1.noNaN)) e77 Ec76_77 (hb hby at_261) (lenOf pd_6 rfl) rfl rfl (W := 0) (Nat.le_of_eq rfl) (by decide) (by decide) (by decide) (by decide) ?_
    intro v78 T78 L78 X78 Q78
    obtain ⟨rfl, N78q, hh78⟩ := Q78
    have N78 := Fr.app N77 N78q
    show Go _ _ _ _ _ _ _ T78 (mkF m 264 #[.val (.int p0), .val (.int p1), .val (.int p2), .val (.int p3), .val (.int p4), .val (.int (3 : Int32)), .val (.int K), .val (.ref b53), .val (.ref b62), .val (.int (p2 &&& (7 : Int32))), .val (.int (p3 &&& (7 : Int32))), .val (.int (p4 &&& (7 : Int32))), .val (.ref b71), .val (.ref b75), .val (.int (((31 : Int32) * (((31 : Int32) * ((31 : Int32) + (elemG ((p2 &&& (7 : Int32))).toNatClampNeg))) + (elemG ((p3 &&& (7 : Int32))).toNatClampNeg))) + (elemG ((p4 &&& (7 : Int32))).toNatClampNeg))), .val (.int (((31 : Int32) * K) + (((31 : Int32) * (((31 : Int32) * ((31 : Int32) + (elemG ((p2 &&& (7 : Int32))).toNatClampNeg))) + (elemG ((p3 &&& (7 : Int32))).toNatClampNeg))) + (elemG ((p4 &&& (7 : Int32))).toNatClampNeg))))] [(.int (((31 : Int32) * K) + hashW 3 (updN (updN (updN (fun _ => (0 : UInt64)) 0 (valG ((p2 &&& (7 : Int32))).toNatClampNeg)) 1 (valG ((p3 &&& (7 : Int32))).toNatClampNeg)) 2 (valG ((p4 &&& (7 : Int32))).toNatClampNeg))))])
    refine Go.step (fun _ k => XS.iload X78.here hx rfl (hb hby at_264) rfl k) ?_
    show Go _ _ _ _ _ _ _ T78 (mkF m 266 #[.val (.int p0), .val (.int p1), .val (.int p2), .val (.int p3), .val (.int p4), .val (.int (3 : Int32)), .val (.int K), .val (.ref b53), .val (.ref b62), .val (.int (p2 &&& (7 : Int32))), .val (.int (p3 &&& (7 : Int32))), .val (.int (p4 &&& (7 : Int32))), .val (.ref b71), .val (.ref b75), .val (.int (((31 : Int32) * (((31 : Int32) * ((31 : Int32) + (elemG ((p2 &&& (7 : Int32))).toNatClampNeg))) + (elemG ((p3 &&& (7 : Int32))).toNatClampNeg))) + (elemG ((p4 &&& (7 : Int32))).toNatClampNeg))), .val (.int (((31 : Int32) * K) + (((31 : Int32) * (((31 : Int32) * ((31 : Int32) + (elemG ((p2 &&& (7 : Int32))).toNatClampNeg))) + (elemG ((p3 &&& (7 : Int32))).toNatClampNeg))) + (elemG ((p4 &&& (7 : Int32))).toNatClampNeg))))] [(.int (((31 : Int32) * K) + (((31 : Int32) * (((31 : Int32) * ((31 : Int32) + (elemG ((p2 &&& (7 : Int32))).toNatClampNeg))) + (elemG ((p3 &&& (7 : Int32))).toNatClampNeg))) + (elemG ((p4 &&& (7 : Int32))).toNatClampNeg)))), (.int (((31 : Int32) * K) + hashW 3 (updN (updN (updN (fun _ => (0 : UInt64)) 0 (valG ((p2 &&& (7 : Int32))).toNatClampNeg)) 1 (valG ((p3 &&& (7 : Int32))).toNatClampNeg)) 2 (valG ((p4 &&& (7 : Int32))).toNatClampNeg))))])
    refine Go.step (fun _ k => XS.icmpNo X78.here hx rfl (hb hby at_266) rfl (teq (own_h3 (valG ((p2 &&& (7 : Int32))).toNatClampNeg) (valG ((p3 &&& (7 : Int32))).toNatClampNeg) (valG ((p4 &&& (7 : Int32))).toNatClampNeg) (updN (updN (updN (fun _ => (0 : UInt64)) 0 (valG ((p2 &&& (7 : Int32))).toNatClampNeg)) 1 (valG ((p3 &&& (7 : Int32))).toNatClampNeg)) 2 (valG ((p4 &&& (7 : Int32))).toNatClampNeg)) hv0.1 hv1.1 hv2.1 rfl rfl rfl)).2 k) ?_
    show Go _ _ _ _ _ _ _ T78 (mkF m 269 #[.val (.int p0), .val (.int p1), .val (.int p2), .val (.int p3), .val (.int p4), .val (.int (3 : Int32)), .val (.int K), .val (.ref b53), .val (.ref b62), .val (.int (p2 &&& (7 : Int32))), .val (.int (p3 &&& (7 : Int32))), .val (.int (p4 &&& (7 : Int32))), .val (.ref b71), .val (.ref b75), .val (.int (((31 : Int32) * (((31 : Int32) * ((31 : Int32) + (elemG ((p2 &&& (7 : Int32))).toNatClampNeg))) + (elemG ((p3 &&& (7 : Int32))).toNatClampNeg))) + (elemG ((p4 &&& (7 : Int32))).toNatClampNeg))), .val (.int (((31 : Int32) * K) + (((31 : Int32) * (((31 : Int32) * ((31 : Int32) + (elemG ((p2 &&& (7 : Int32))).toNatClampNeg))) + (elemG ((p3 &&& (7 : Int32))).toNatClampNeg))) + (elemG ((p4 &&& (7 : Int32))).toNatClampNeg))))] [])
    refine Go.step (fun _ k => XS.iconst X78.here hx rfl (hb hby at_269) k) ?_
    show Go _ _ _ _ _ _ _ T78 (mkF m 270 #[.val (.int p0), .val (.int p1), .val (.int p2), .val (.int p3), .val (.int p4), .val (.int (3 : Int32)), .val (.int K), .val (.ref b53), .val (.ref b62), .val (.int (p2 &&& (7 : Int32))), .val (.int (p3 &&& (7 : Int32))), .val (.int (p4 &&& (7 : Int32))), .val (.ref b71), .val (.ref b75), .val (.int (((31 : Int32) * (((31 : Int32) * ((31 : Int32) + (elemG ((p2 &&& (7 : Int32))).toNatClampNeg))) + (elemG ((p3 &&& (7 : Int32))).toNatClampNeg))) + (elemG ((p4 &&& (7 : Int32))).toNatClampNeg))), .val (.int (((31 : Int32) * K) + (((31 : Int32) * (((31 : Int32) * ((31 : Int32) + (elemG ((p2 &&& (7 : Int32))).toNatClampNeg))) + (elemG ((p3 &&& (7 : Int32))).toNatClampNeg))) + (elemG ((p4 &&& (7 : Int32))).toNatClampNeg))))] [(.int (1 : Int32))])
    refine Go.step (fun _ k => XS.goto X78.here hx rfl (pc0 := 270) (pc' := 274) rfl (hb hby at_270) (by decide) (by decide) k) ?_
    show Go _ _ _ _ _ _ _ T78 (mkF m 274 #[.val (.int p0), .val (.int p1), .val (.int p2), .val (.int p3), .val (.int p4), .val (.int (3 : Int32)), .val (.int K), .val (.ref b53), .val (.ref b62), .val (.int (p2 &&& (7 : Int32))), .val (.int (p3 &&& (7 : Int32))), .val (.int (p4 &&& (7 : Int32))), .val (.ref b71), .val (.ref b75), .val (.int (((31 : Int32) * (((31 : Int32) * ((31 : Int32) + (elemG ((p2 &&& (7 : Int32))).toNatClampNeg))) + (elemG ((p3 &&& (7 : Int32))).toNatClampNeg))) + (elemG ((p4 &&& (7 : Int32))).toNatClampNeg))), .val (.int (((31 : Int32) * K) + (((31 : Int32) * (((31 : Int32) * ((31 : Int32) + (elemG ((p2 &&& (7 : Int32))).toNatClampNeg))) + (elemG ((p3 &&& (7 : Int32))).toNatClampNeg))) + (elemG ((p4 &&& (7 : Int32))).toNatClampNeg))))] [(.int (1 : Int32))])
    refine Go.retZ X78 hx hlk hret (by decide) (hb hby at_274) (by decide) (by decide) ?_
    try rw [hh78]
    exact ⟨rfl, N78⟩
theorem pn_0 : plainName "tidewatch/decision/KeyGroupCeilingHashCodePinLaw" = true := by first | (simp [plainName, overriddenIn]; done) | decide +kernel
theorem ef_rm0 (m : MethodId) (p0 : Int32) (p1 : Int32) (p2 : Int32) (p3 : Int32) (p4 : Int32) : entryFrame m #[(.int p0), (.int p1), (.int p2), (.int p3), (.int p4)] maxLocals = mkF m 0 #[.val (.int p0), .val (.int p1), .val (.int p2), .val (.int p3), .val (.int p4), .unset, .unset, .unset, .unset, .unset, .unset, .unset, .unset, .unset, .unset, .unset] [] := by first | (simp [entryFrame, mkF, argsToLocals, Value.category, maxLocals]; done) | rfl
theorem rm0 (l : Launch) (Z : State) (a0 : Array Value) (hw : ∀ d ∈ tables_1, d.before a0 Z = true) (ws : List Jvm.Cond) (p0 p1 p2 p3 p4 : Int32) (h0 : Heap) (n0 : Nat) (Z0 : n0 ≤ h0.size)  :
    MetFree l x (head1 (Jvm.Cond.code x code maxLocals ret :: ws) room_1) (fun a U => a = #[(.int p0), (.int p1), (.int p2), (.int p3), (.int p4)] ∧ Z.Warmed39 U.vm ∧ U.heap = h0) (fun _ _ _ _ _ => True) (fun _ U o U' => ∃ v L, o = .returned v ∧ (fun r h L => r = some (.int 1) ∧ Fr n0 L) v U'.heap L ∧ FrameEnd U o U' L room_1.cells room_1.slots) :=
  con_of (plainFor_of_name pn_0) (fun p_ e_ s_ m_ b_ meth_ c_ T_ X_ hx hZ hby hml hown hnm hret hlk e0 => Go.cast (ef_rm0 m_ p0 p1 p2 p3 p4) (w0 p0 p1 p2 p3 p4 X_ hx hZ hw hby hml hown hnm hret hlk e0 Z0 (Fr.nil n0) ))
set_option maxRecDepth 65536 in
set_option maxHeartbeats 40000000 in
theorem comes_1 {Post : Tables → Env → Array Value → State → Outcome → State → Prop} (hpost : ∀ tb e args s v u, (limb_1_1.after args s (.returned v) u = true ∧ limb_1_2.after args s (.returned v) u = true ∧ True) → FrameEnd s (.returned v) u (Jvm.fieldLocs frame_1_writes args s ++ Jvm.arrayLocs frame_1_arrays args s ++ Jvm.staticLocs frame_1_statics s) 24 128 → Post tb e args s (.returned v) u) :
    ArmFor flags0 classFile x code maxLocals ret World_1 tables_1 room_1 Calls_1 rest_1 Pre_1 Post := by
  intro l hfl _ _ p e ha hc hk s m args below hf hA hF happ hP
  obtain ⟨hcalls, hrest, hpre⟩ := hP
  obtain ⟨-, -, -, hnamed, -, -, -, hat⟩ := (Spec.applies_iff hf).mp happ
  obtain ⟨hg, hn⟩ := and_e (Cond.before_iff.mp (show (Jvm.Cond.and given_1 narrow_1).before args s = true from hpre))
  obtain ⟨g1, g2⟩ := and_e hg
  obtain ⟨g3, g4⟩ := and_e g2
  obtain ⟨g5, g6⟩ := and_e g4
  obtain ⟨g7, g8⟩ := and_e g6
  obtain ⟨g9, g10⟩ := and_e g8
  obtain ⟨w0, w1, w2, w3, w4, rfl⟩ : ∃ w0 w1 w2 w3 w4 : Value, args = #[w0, w1, w2, w3, w4] := by
    have hs : args.size = 5 := by simpa [Cond.value, given_1] using g1
    obtain ⟨L⟩ := args
    match L, hs with
    | [w0, w1, w2, w3, w4], _ => exact ⟨w0, w1, w2, w3, w4, rfl⟩
  have hw := fun d (hd : d ∈ tables_1) => atoms_spec (ws := Jvm.Cond.code x code maxLocals ret :: tables_1) hat d (List.mem_cons_of_mem _ hd)
  have hfit : Fit s := fun {y c} hc i hi => by
    obtain ⟨ha, rfl⟩ := Array.getElem?_eq_some_iff.mp hc
    have q := List.all_eq_true.mp ((Array.all_eq_true_iff_forall_mem.mp hF) _ (Array.getElem_mem ha)) i (List.mem_range.mpr hi)
    simpa [Array.getElem?_eq_getElem hi] using q
  obtain ⟨i0, ei0⟩ := is_v g3
  obtain rfl : w0 = (.int i0) := Option.some.inj ei0
  obtain ⟨i1, ei1⟩ := is_v g5
  obtain rfl : w1 = (.int i1) := Option.some.inj ei1
  obtain ⟨i2, ei2⟩ := is_v g7
  obtain rfl : w2 = (.int i2) := Option.some.inj ei2
  obtain ⟨i3, ei3⟩ := is_v g9
  obtain rfl : w3 = (.int i3) := Option.some.inj ei3
  obtain ⟨i4, ei4⟩ := is_v g10
  obtain rfl : w4 = (.int i4) := Option.some.inj ei4
  obtain ⟨n, o, h1, h2, h3, _, L, rfl, ⟨rfl, N⟩, hq⟩ := rm0 l s _ hw tables_1 i0 i1 i2 i3 i4 s.heap s.heap.size (Nat.le_refl _)  p e ha hc hk s m _ below hf ((Spec.applies_iff_loose hf).mp happ).1 ⟨rfl, State.Warmed39.refl s, rfl⟩ trivial
  refine ⟨n, _, h1, h2, h3, hpost _ _ _ _ _ _ ⟨Cond.after_iff.mpr rfl, Cond.after_iff.mpr (eq_i res_at (Term.int_eval (1)) rfl), trivial⟩ ⟨hq.1, hq.2.1, (hq.2.2.sift fun y hy => Or.inr (N y hy)).mono (by decide) (by decide)⟩⟩
theorem main_1_1 : Claimed_1_1 := comes_1 fun _ _ _ _ _ _ h hF => ⟨h.1, hF⟩
theorem main_1_2 : Claimed_1_2 := comes_1 fun _ _ _ _ _ _ h hF => ⟨h.2.1, hF⟩
end Jvm.Pilot.@@N@@
namespace Jvm.Pilot.@@N@@
open Jvm Jvm.ClassFile Sem Op Lib Jvm.Free Jvm.Stand Jvm.Pilot.@@N@@.Jvm.D
/-! MADE BY PROGRAM (witnessworld.py) out of the Statement's table words and the real class files: 18 classes; the members and pool entries that the words name. The judged class is class 1, her method 1. -/
namespace start1
open Jvm.ClassFile
def u (s : String) : CpInfo := .utf8 (stringToUtf16 s)
/-- a pool by its gaps: so many unusable entries, then the entry; so many at the end -/
def gap : Nat → List CpInfo → List CpInfo
  | 0, r => r
  | n + 1, r => .unusable :: gap n r
def poolList (es : List (Nat × CpInfo)) (last : Nat) : List CpInfo := es.foldr (fun e r => gap e.1 (e.2 :: r)) (gap last [])
def pool (es : List (Nat × CpInfo)) (last : Nat) : Array CpInfo := ⟨poolList es last⟩
def fileOf (pool : Array CpInfo) (this : Nat) (attrs : Array Attribute := #[]) (ms : Array MethodInfo := #[]) (fl : Nat := 33) (sup : Nat := 0) (ifs : Array Nat := #[]) (fds : Array FieldInfo := #[]) : ClassFile where
  minorVersion := 0
  majorVersion := 65
  constantPool := pool
  accessFlags := fl
  thisClass := this
  superClass := sup
  interfaces := ifs
  fields := fds
  methods := ms
  attributes := attrs
def plain (name : String) (sup : Option ClassId) : Class where
  name := name
  kind := .ordinary
  loader := none
  accessFlags := 33
  super := sup
  interfaces := #[]
  cf := none
  fields := #[]
  methods := #[]
  instanceTypes := #[]
  staticTypes := #[]
  resolved := #[]
  callSites := []
  init := .initialized
  statics := none
  mirror := none

def pool0 : Array CpInfo := pool [(5, u "<init>"), (0, u "()V"), (1, .class_ 10), (1, u "java/lang/Object"), (85, u "clone"), (0, u "()Ljava/lang/Object;")] 26

def k0c0 : Code := { maxStack := 0, maxLocals := 1, code := object_method_1_code, exceptionTable := #[], attributes := #[] }
def k0m0 : Method := { name := "<init>", desc := "()V", sig := { parameters := [], returnType := none }, accessFlags := 1, code := some k0c0 }
def k0m1 : Method := { name := "clone", desc := "()Ljava/lang/Object;", sig := { parameters := [], returnType := some (.object "java/lang/Object") }, accessFlags := 260, code := none }
/-- java/lang/Object -/
def k0 : Class := { plain "java/lang/Object" none with
  accessFlags := 33
  interfaces := #[]
  cf := some (fileOf pool0 8 #[] #[{ accessFlags := 1, nameIndex := 5, descriptorIndex := 6, attributes := #[] }, { accessFlags := 260, nameIndex := 96, descriptorIndex := 97, attributes := #[] }] 33 0 #[] #[])
  fields := #[]
  methods := #[k0m0, k0m1]
  instanceTypes := #[]
  staticTypes := #[]
  resolved := Array.replicate 124 none
  statics := none }

def pool1 : Array CpInfo := pool [(2, .class_ 4), (1, u "java/lang/Object"), (0, u "<init>"), (0, u "()V"), (0, .integer 2147483647), (0, .methodref 9 10), (0, .class_ 11), (0, .nameAndType 12 13), (0, u "java/lang/Math"), (0, u "max"), (0, u "(II)I"), (0, .double 9223372036854775808), (1, .double 4602678819172646912), (1, .double 4609434218613702656), (1, .double 4611686018427387904), (1, .double 4613937818241073152), (1, .double 4591870180066957722), (1, .integer 2147483648), (0, .integer 1071644672), (0, .integer 1072693248), (0, .integer 1073217536), (0, .integer 1073741824), (0, .integer 1074266112), (0, .integer 2787115011), (0, .class_ 34), (0, u "tidewatch/decision/KeyGroupCeiling"), (0, .methodref 33 36), (0, .nameAndType 5 37), (0, u "(I[D)V"), (0, .double 4612811918334230528), (1, .methodref 33 41), (0, .nameAndType 42 43), (0, u "hashCode"), (0, u "()I"), (0, .class_ 45), (0, u "tidewatch/decision/KeyGroupCeilingHashCodePinLaw"), (2, u "law"), (0, u "(IIIII)Z")] 7

def k1m0 : Method := { name := "<init>", desc := "()V", sig := { parameters := [], returnType := none }, accessFlags := 1, code := none }
def k1c1 : Code := { maxStack := 5, maxLocals := 16, code := code, exceptionTable := #[], attributes := #[] }
def k1m1 : Method := { name := "law", desc := "(IIIII)Z", sig := { parameters := [.int, .int, .int, .int, .int], returnType := some .boolean }, accessFlags := 9, code := some k1c1 }
/-- tidewatch/decision/KeyGroupCeilingHashCodePinLaw -/
def k1 : Class := { plain "tidewatch/decision/KeyGroupCeilingHashCodePinLaw" (some 0) with
  accessFlags := 49
  interfaces := #[]
  cf := some (fileOf pool1 44 #[] #[{ accessFlags := 1, nameIndex := 5, descriptorIndex := 6, attributes := #[] }, { accessFlags := 9, nameIndex := 48, descriptorIndex := 49, attributes := #[] }] 49 2 #[] #[])
  fields := #[]
  methods := #[k1m0, k1m1]
  instanceTypes := #[]
  staticTypes := #[]
  resolved := Array.replicate 57 none
  statics := none }

def pool2 : Array CpInfo := pool [(1, .class_ 2), (0, u "java/lang/Math"), (1, .class_ 6), (1, u "java/lang/Object"), (0, u "<init>"), (0, u "()V"), (5, u "(D)D"), (83, .class_ 100), (1, u "java/lang/Math$RandomNumberGeneratorHolder"), (23, u "abs"), (47, u "negativeZeroFloatBits"), (0, u "J"), (2, u "negativeZeroDoubleBits"), (21, u "max"), (46, u "$assertionsDisabled"), (0, u "Z"), (88, u "(II)I"), (2, u "twoToTheDoubleScaleDown"), (0, u "D"), (4, u "twoToTheDoubleScaleUp"), (9, u "E"), (3, u "PI"), (2, u "TAU"), (2, u "DEGREES_TO_RADIANS"), (0, u "RADIANS_TO_DEGREES")] 94

def k2m0 : Method := { name := "<init>", desc := "()V", sig := { parameters := [], returnType := none }, accessFlags := 2, code := none }
def k2c1 : Code := { maxStack := 4, maxLocals := 2, code := jdk_29_method_64_code, exceptionTable := #[], attributes := #[] }
def k2m1 : Method := { name := "abs", desc := "(D)D", sig := { parameters := [.double], returnType := some .double }, accessFlags := 9, code := some k2c1 }
def k2c2 : Code := { maxStack := 2, maxLocals := 2, code := jdk_29_method_65_code, exceptionTable := #[], attributes := #[] }
def k2m2 : Method := { name := "max", desc := "(II)I", sig := { parameters := [.int, .int], returnType := some .int }, accessFlags := 9, code := some k2c2 }
/-- java/lang/Math -/
def k2 : Class := { plain "java/lang/Math" (some 0) with
  accessFlags := 49
  interfaces := #[]
  cf := some (fileOf pool2 1 #[.nestMembers #[98]] #[{ accessFlags := 2, nameIndex := 7, descriptorIndex := 8, attributes := #[] }, { accessFlags := 9, nameIndex := 124, descriptorIndex := 14, attributes := #[] }, { accessFlags := 9, nameIndex := 198, descriptorIndex := 335, attributes := #[] }] 49 4 #[] #[{ accessFlags := 25, nameIndex := 354, descriptorIndex := 339, attributes := #[] }, { accessFlags := 25, nameIndex := 358, descriptorIndex := 339, attributes := #[] }, { accessFlags := 25, nameIndex := 361, descriptorIndex := 339, attributes := #[] }, { accessFlags := 26, nameIndex := 364, descriptorIndex := 339, attributes := #[] }, { accessFlags := 26, nameIndex := 365, descriptorIndex := 339, attributes := #[] }, { accessFlags := 26, nameIndex := 172, descriptorIndex := 173, attributes := #[] }, { accessFlags := 26, nameIndex := 176, descriptorIndex := 173, attributes := #[] }, { accessFlags := 8, nameIndex := 344, descriptorIndex := 339, attributes := #[] }, { accessFlags := 8, nameIndex := 338, descriptorIndex := 339, attributes := #[] }, { accessFlags := 4120, nameIndex := 245, descriptorIndex := 246, attributes := #[] }])
  fields := #[{ name := "E", type := .double, accessFlags := 25, slot := 0, constantValue := 0 }, { name := "PI", type := .double, accessFlags := 25, slot := 1, constantValue := 0 }, { name := "TAU", type := .double, accessFlags := 25, slot := 2, constantValue := 0 }, { name := "DEGREES_TO_RADIANS", type := .double, accessFlags := 26, slot := 3, constantValue := 0 }, { name := "RADIANS_TO_DEGREES", type := .double, accessFlags := 26, slot := 4, constantValue := 0 }, { name := "negativeZeroFloatBits", type := .long, accessFlags := 26, slot := 5, constantValue := 0 }, { name := "negativeZeroDoubleBits", type := .long, accessFlags := 26, slot := 6, constantValue := 0 }, { name := "twoToTheDoubleScaleUp", type := .double, accessFlags := 8, slot := 7, constantValue := 0 }, { name := "twoToTheDoubleScaleDown", type := .double, accessFlags := 8, slot := 8, constantValue := 0 }, { name := "$assertionsDisabled", type := .boolean, accessFlags := 4120, slot := 9, constantValue := 0 }]
  methods := #[k2m0, k2m1, k2m2]
  instanceTypes := #[]
  staticTypes := #[.double, .double, .double, .double, .double, .long, .long, .double, .double, .boolean]
  resolved := Array.replicate 460 none
  statics := none }

def pool3 : Array CpInfo := pool [(1, .methodref 2 3), (0, .class_ 4), (0, .nameAndType 5 6), (0, u "java/lang/Object"), (0, u "<init>"), (0, u "()V"), (9, .fieldref 17 18), (0, .class_ 19), (0, .nameAndType 20 21), (0, u "tidewatch/decision/KeyGroupCeiling"), (0, u "keyGroups"), (0, u "I"), (0, .methodref 23 24), (0, .class_ 25), (0, .nameAndType 26 27), (0, u "[D"), (0, u "clone"), (0, u "()Ljava/lang/Object;"), (0, .fieldref 17 29), (0, .nameAndType 30 25), (0, u "shares"), (0, .fieldref 17 32), (0, .nameAndType 33 25), (0, u "before"), (0, .methodref 35 36), (0, .class_ 37), (0, .nameAndType 38 39), (0, u "java/lang/Double"), (0, u "isFinite"), (0, u "(D)Z"), (38, u "(I[D)V"), (8, .class_ 89), (1, u "java/util/Arrays"), (2, .methodref 87 93), (0, .nameAndType 94 95), (0, u "hashCode"), (0, u "([D)I"), (12, u "()I")] 36

def k3c0 : Code := { maxStack := 6, maxLocals := 4, code := prog_33_method_1_code, exceptionTable := #[], attributes := #[] }
def k3m0 : Method := { name := "<init>", desc := "(I[D)V", sig := { parameters := [.int, (.array .double)], returnType := none }, accessFlags := 1, code := some k3c0 }
def k3c1 : Code := { maxStack := 2, maxLocals := 1, code := prog_33_method_9_code, exceptionTable := #[], attributes := #[] }
def k3m1 : Method := { name := "hashCode", desc := "()I", sig := { parameters := [], returnType := some .int }, accessFlags := 1, code := some k3c1 }
/-- tidewatch/decision/KeyGroupCeiling -/
def k3 : Class := { plain "tidewatch/decision/KeyGroupCeiling" (some 0) with
  accessFlags := 49
  interfaces := #[]
  cf := some (fileOf pool3 17 #[] #[{ accessFlags := 1, nameIndex := 5, descriptorIndex := 78, attributes := #[] }, { accessFlags := 1, nameIndex := 94, descriptorIndex := 108, attributes := #[] }] 49 2 #[] #[{ accessFlags := 18, nameIndex := 20, descriptorIndex := 21, attributes := #[] }, { accessFlags := 18, nameIndex := 30, descriptorIndex := 25, attributes := #[] }, { accessFlags := 18, nameIndex := 33, descriptorIndex := 25, attributes := #[] }])
  fields := #[{ name := "keyGroups", type := .int, accessFlags := 18, slot := 0, constantValue := 0 }, { name := "shares", type := (.array .double), accessFlags := 18, slot := 1, constantValue := 0 }, { name := "before", type := (.array .double), accessFlags := 18, slot := 2, constantValue := 0 }]
  methods := #[k3m0, k3m1]
  instanceTypes := #[.int, (.array .double), (.array .double)]
  staticTypes := #[]
  resolved := Array.replicate 145 none
  statics := none }

def pool4 : Array CpInfo := pool [(1, .class_ 2), (0, u "java/lang/Cloneable"), (0, .class_ 4), (0, u "java/lang/Object")] 2

/-- java/lang/Cloneable -/
def k4 : Class := { plain "java/lang/Cloneable" (some 0) with
  accessFlags := 1537
  interfaces := #[]
  cf := some (fileOf pool4 1 #[] #[] 1537 3 #[] #[])
  fields := #[]
  methods := #[]
  instanceTypes := #[]
  staticTypes := #[]
  resolved := Array.replicate 7 none
  statics := none }

def pool5 : Array CpInfo := pool [(1, .class_ 2), (0, u "java/io/Serializable"), (0, .class_ 4), (0, u "java/lang/Object")] 2

/-- java/io/Serializable -/
def k5 : Class := { plain "java/io/Serializable" (some 0) with
  accessFlags := 1537
  interfaces := #[]
  cf := some (fileOf pool5 1 #[] #[] 1537 3 #[] #[])
  fields := #[]
  methods := #[]
  instanceTypes := #[]
  staticTypes := #[]
  resolved := Array.replicate 7 none
  statics := none }

def pool6 : Array CpInfo := pool [(2, .class_ 4), (1, u "java/lang/Object"), (0, u "<init>"), (0, u "()V"), (1, .class_ 10), (1, u "java/lang/Number"), (2, .class_ 14), (0, u "java/io/Serializable"), (0, u "serialVersionUID"), (0, u "J")] 20

def k6m0 : Method := { name := "<init>", desc := "()V", sig := { parameters := [], returnType := none }, accessFlags := 1, code := none }
/-- java/lang/Number -/
def k6 : Class := { plain "java/lang/Number" (some 0) with
  accessFlags := 1057
  interfaces := #[5]
  cf := some (fileOf pool6 8 #[] #[{ accessFlags := 1, nameIndex := 5, descriptorIndex := 6, attributes := #[] }] 1057 2 #[13] #[{ accessFlags := 26, nameIndex := 15, descriptorIndex := 16, attributes := #[] }])
  fields := #[{ name := "serialVersionUID", type := .long, accessFlags := 26, slot := 0, constantValue := 0 }]
  methods := #[k6m0]
  instanceTypes := #[]
  staticTypes := #[.long]
  resolved := Array.replicate 37 none
  statics := none }

def pool7 : Array CpInfo := pool [(1, .class_ 2), (0, u "java/lang/Comparable"), (0, .class_ 4), (0, u "java/lang/Object")] 7

/-- java/lang/Comparable -/
def k7 : Class := { plain "java/lang/Comparable" (some 0) with
  accessFlags := 1537
  interfaces := #[]
  cf := some (fileOf pool7 1 #[] #[] 1537 3 #[] #[])
  fields := #[]
  methods := #[]
  instanceTypes := #[]
  staticTypes := #[]
  resolved := Array.replicate 12 none
  statics := none }

def pool8 : Array CpInfo := pool [(1, .class_ 2), (0, u "java/lang/constant/Constable"), (0, .class_ 4), (0, u "java/lang/Object")] 6

/-- java/lang/constant/Constable -/
def k8 : Class := { plain "java/lang/constant/Constable" (some 0) with
  accessFlags := 1537
  interfaces := #[]
  cf := some (fileOf pool8 1 #[] #[] 1537 3 #[] #[])
  fields := #[]
  methods := #[]
  instanceTypes := #[]
  staticTypes := #[]
  resolved := Array.replicate 11 none
  statics := none }

def pool9 : Array CpInfo := pool [(1, .class_ 2), (0, u "java/lang/constant/ConstantDesc"), (0, .class_ 4), (0, u "java/lang/Object")] 32

/-- java/lang/constant/ConstantDesc -/
def k9 : Class := { plain "java/lang/constant/ConstantDesc" (some 0) with
  accessFlags := 1537
  interfaces := #[]
  cf := some (fileOf pool9 1 #[] #[] 1537 3 #[] #[])
  fields := #[]
  methods := #[]
  instanceTypes := #[]
  staticTypes := #[]
  resolved := Array.replicate 37 none
  statics := none }

def pool10 : Array CpInfo := pool [(1, .class_ 2), (0, u "java/lang/Double"), (10, u "isFinite"), (0, u "(D)Z"), (8, .class_ 25), (1, u "java/lang/Math"), (12, .methodref 23 39), (0, .nameAndType 40 41), (0, u "abs"), (0, u "(D)D"), (6, u "doubleToLongBits"), (0, u "(D)J"), (61, .double 9218868437227405311), (2, .class_ 116), (1, u "java/lang/Number"), (3, u "value"), (0, u "D"), (0, .methodref 1 123), (0, .nameAndType 124 14), (0, u "isNaN"), (9, .methodref 1 135), (0, .nameAndType 136 49), (0, u "doubleToRawLongBits"), (36, u "TYPE"), (0, u "Ljava/lang/Class;"), (0, .class_ 176), (0, u "java/lang/Comparable"), (0, .class_ 178), (0, u "java/lang/constant/Constable"), (0, .class_ 180), (0, u "java/lang/constant/ConstantDesc"), (0, u "POSITIVE_INFINITY"), (3, u "NEGATIVE_INFINITY"), (2, u "NaN"), (2, u "MAX_VALUE"), (0, u "MIN_NORMAL"), (0, u "MIN_VALUE"), (2, u "SIZE"), (0, u "I"), (1, u "PRECISION"), (1, u "MAX_EXPONENT"), (1, u "MIN_EXPONENT"), (1, u "BYTES"), (3, u "serialVersionUID"), (0, u "J")] 79

def k10c0 : Code := { maxStack := 4, maxLocals := 2, code := jdk_117_method_6_code, exceptionTable := #[], attributes := #[] }
def k10m0 : Method := { name := "isNaN", desc := "(D)Z", sig := { parameters := [.double], returnType := some .boolean }, accessFlags := 9, code := some k10c0 }
def k10c1 : Code := { maxStack := 4, maxLocals := 2, code := jdk_117_method_8_code, exceptionTable := #[], attributes := #[] }
def k10m1 : Method := { name := "isFinite", desc := "(D)Z", sig := { parameters := [.double], returnType := some .boolean }, accessFlags := 9, code := some k10c1 }
def k10c2 : Code := { maxStack := 2, maxLocals := 2, code := jdk_117_method_23_code, exceptionTable := #[], attributes := #[] }
def k10m2 : Method := { name := "doubleToLongBits", desc := "(D)J", sig := { parameters := [.double], returnType := some .long }, accessFlags := 9, code := some k10c2 }
def k10m3 : Method := { name := "doubleToRawLongBits", desc := "(D)J", sig := { parameters := [.double], returnType := some .long }, accessFlags := 265, code := none }
/-- java/lang/Double -/
def k10 : Class := { plain "java/lang/Double" (some 6) with
  accessFlags := 49
  interfaces := #[7, 8, 9]
  cf := some (fileOf pool10 1 #[] #[{ accessFlags := 9, nameIndex := 124, descriptorIndex := 14, attributes := #[] }, { accessFlags := 9, nameIndex := 13, descriptorIndex := 14, attributes := #[] }, { accessFlags := 9, nameIndex := 48, descriptorIndex := 49, attributes := #[] }, { accessFlags := 265, nameIndex := 136, descriptorIndex := 49, attributes := #[] }] 49 114 #[175, 177, 179] #[{ accessFlags := 25, nameIndex := 181, descriptorIndex := 121, attributes := #[] }, { accessFlags := 25, nameIndex := 185, descriptorIndex := 121, attributes := #[] }, { accessFlags := 25, nameIndex := 188, descriptorIndex := 121, attributes := #[] }, { accessFlags := 25, nameIndex := 191, descriptorIndex := 121, attributes := #[] }, { accessFlags := 25, nameIndex := 192, descriptorIndex := 121, attributes := #[] }, { accessFlags := 25, nameIndex := 193, descriptorIndex := 121, attributes := #[] }, { accessFlags := 25, nameIndex := 196, descriptorIndex := 197, attributes := #[] }, { accessFlags := 25, nameIndex := 199, descriptorIndex := 197, attributes := #[] }, { accessFlags := 25, nameIndex := 201, descriptorIndex := 197, attributes := #[] }, { accessFlags := 25, nameIndex := 203, descriptorIndex := 197, attributes := #[] }, { accessFlags := 25, nameIndex := 205, descriptorIndex := 197, attributes := #[] }, { accessFlags := 25, nameIndex := 173, descriptorIndex := 174, attributes := #[] }, { accessFlags := 18, nameIndex := 120, descriptorIndex := 121, attributes := #[] }, { accessFlags := 26, nameIndex := 209, descriptorIndex := 210, attributes := #[] }])
  fields := #[{ name := "POSITIVE_INFINITY", type := .double, accessFlags := 25, slot := 0, constantValue := 0 }, { name := "NEGATIVE_INFINITY", type := .double, accessFlags := 25, slot := 1, constantValue := 0 }, { name := "NaN", type := .double, accessFlags := 25, slot := 2, constantValue := 0 }, { name := "MAX_VALUE", type := .double, accessFlags := 25, slot := 3, constantValue := 0 }, { name := "MIN_NORMAL", type := .double, accessFlags := 25, slot := 4, constantValue := 0 }, { name := "MIN_VALUE", type := .double, accessFlags := 25, slot := 5, constantValue := 0 }, { name := "SIZE", type := .int, accessFlags := 25, slot := 6, constantValue := 0 }, { name := "PRECISION", type := .int, accessFlags := 25, slot := 7, constantValue := 0 }, { name := "MAX_EXPONENT", type := .int, accessFlags := 25, slot := 8, constantValue := 0 }, { name := "MIN_EXPONENT", type := .int, accessFlags := 25, slot := 9, constantValue := 0 }, { name := "BYTES", type := .int, accessFlags := 25, slot := 10, constantValue := 0 }, { name := "TYPE", type := (.object "java/lang/Class"), accessFlags := 25, slot := 11, constantValue := 0 }, { name := "value", type := .double, accessFlags := 18, slot := 0, constantValue := 0 }, { name := "serialVersionUID", type := .long, accessFlags := 26, slot := 12, constantValue := 0 }]
  methods := #[k10m0, k10m1, k10m2, k10m3]
  instanceTypes := #[.double]
  staticTypes := #[.double, .double, .double, .double, .double, .double, .int, .int, .int, .int, .int, (.object "java/lang/Class"), .long]
  resolved := Array.replicate 290 none
  statics := none }

def pool11 : Array CpInfo := pool [(2, .class_ 4), (1, u "java/lang/Object"), (0, u "<init>"), (0, u "()V"), (7, .class_ 16), (1, u "java/util/Arrays"), (57, .class_ 76), (1, u "java/util/Arrays$NaturalOrder"), (36, .class_ 115), (1, u "java/util/Arrays$LegacyMergeSort"), (1, u "Z"), (106, .methodref 225 226), (0, .class_ 227), (0, .nameAndType 228 229), (0, u "java/lang/Double"), (0, u "doubleToLongBits"), (0, u "(D)J"), (145, .class_ 376), (0, u "java/util/Arrays$ArrayList"), (8, u "hashCode"), (50, u "([D)I"), (8, u "$assertionsDisabled"), (269, u "MIN_ARRAY_SORT_GRAN"), (0, u "I"), (2, u "INSERTIONSORT_THRESHOLD"), (255, .class_ 976), (0, u "java/util/Arrays$ArrayItr")] 52

def k11m0 : Method := { name := "<init>", desc := "()V", sig := { parameters := [], returnType := none }, accessFlags := 2, code := none }
def k11c1 : Code := { maxStack := 6, maxLocals := 9, code := jdk_65_method_156_code, exceptionTable := #[], attributes := #[] }
def k11m1 : Method := { name := "hashCode", desc := "([D)I", sig := { parameters := [(.array .double)], returnType := some .int }, accessFlags := 9, code := some k11c1 }
/-- java/util/Arrays -/
def k11 : Class := { plain "java/util/Arrays" (some 0) with
  accessFlags := 49
  interfaces := #[]
  cf := some (fileOf pool11 14 #[.nestMembers #[975, 375, 113, 74]] #[{ accessFlags := 2, nameIndex := 5, descriptorIndex := 6, attributes := #[] }, { accessFlags := 9, nameIndex := 385, descriptorIndex := 436, attributes := #[] }] 49 2 #[] #[{ accessFlags := 26, nameIndex := 715, descriptorIndex := 716, attributes := #[] }, { accessFlags := 26, nameIndex := 719, descriptorIndex := 716, attributes := #[] }, { accessFlags := 4120, nameIndex := 445, descriptorIndex := 117, attributes := #[] }])
  fields := #[{ name := "MIN_ARRAY_SORT_GRAN", type := .int, accessFlags := 26, slot := 0, constantValue := 0 }, { name := "INSERTIONSORT_THRESHOLD", type := .int, accessFlags := 26, slot := 1, constantValue := 0 }, { name := "$assertionsDisabled", type := .boolean, accessFlags := 4120, slot := 2, constantValue := 0 }]
  methods := #[k11m0, k11m1]
  instanceTypes := #[]
  staticTypes := #[.int, .int, .boolean]
  resolved := Array.replicate 1029 none
  statics := none }

/-- the primitive byte -/
def k12 : Class := { plain "byte" none with kind := .primitive 'B', accessFlags := 0x411 }
/-- [B -/
def k13 : Class := { plain "[B" (some 0) with kind := .array 12 .byte, interfaces := #[4, 5], accessFlags := 1041 }

/-- the primitive double -/
def k14 : Class := { plain "double" none with kind := .primitive 'D', accessFlags := 0x411 }
/-- [D -/
def k15 : Class := { plain "[D" (some 0) with kind := .array 14 .double, interfaces := #[4, 5], accessFlags := 1041 }

/-- the primitive int -/
def k16 : Class := { plain "int" none with kind := .primitive 'I', accessFlags := 0x411 }
/-- [I -/
def k17 : Class := { plain "[I" (some 0) with kind := .array 16 .int, interfaces := #[4, 5], accessFlags := 1041 }

def heap : Heap := #[]
def classes : Array Class := #[k0, k1, k2, k3, k4, k5, k6, k7, k8, k9, k10, k11, k12, k13, k14, k15, k16, k17]
def interned : List (Array UInt16 × Addr) := []
def slotsUsed : Nat := 0
def theMethod : MethodId := ⟨1, 1⟩
def args0 : Array Value := #[.int 3, .int 2, .int 5, .int 6, .int 1]
def aboutOver (below : List Frame) : State where
  vm := { classes := classes, interned := interned.toArray }
  heap := heap
  slotsUsed := slotsUsed
  threads := #[{ frames := .invoking theMethod args0 :: below }]
def below0 : List Frame := [.native { method := ⟨0, 0⟩, args := #[] }]
def about1 : State := aboutOver below0
def p0 : Program := .bare "" "" ""
def e0 : Env := launch0.env 0 0 0
theorem w_frames : about1.frames = Frame.invoking theMethod args0 :: below0 := rfl
set_option maxRecDepth 65536 in
theorem w_args : argsFit about1.vm theMethod args0 = true := by decide +kernel
set_option maxRecDepth 65536 in
theorem w_heap : heapFits about1 = true := by decide +kernel
set_option maxRecDepth 65536 in
theorem w_runnable : about1.curStatus? = some .runnable := by decide +kernel
set_option maxRecDepth 65536 in
theorem w_alone : about1.alone = true := by decide +kernel
set_option maxRecDepth 65536 in
theorem w_named : about1.methodNamed? x = some theMethod := by decide +kernel
set_option maxRecDepth 65536 in
theorem w_hears : about1.hears theMethod below0 = true := by decide +kernel
set_option maxRecDepth 65536 in
theorem w_ripe : about1.ripe theMethod args0 below0 = true := by decide +kernel
theorem w_running : about1.status = .running := rfl
set_option maxRecDepth 65536 in
theorem w_room : about1.hasRoom e0.platform room_1 = true :=
  launch0.hasRoom_least _ room_1 (by decide +kernel) (by decide +kernel) (by decide +kernel) (by decide +kernel) (by decide +kernel) (by decide +kernel)
theorem allAtoms_all (ts : List Jvm.Cond) (a : Array Jvm.Value) (st : Jvm.State) : (allAtoms ts).before a st = ts.all (fun c => c.before a st) := by
  induction ts with
  | nil => rfl
  | cons c t ih =>
    show (Jvm.Cond.and c (allAtoms t)).before a st = _
    rw [Jvm.Cond.before_and, ih, List.all_cons]
def words1 : List Jvm.Cond := Jvm.Cond.code x code maxLocals ret :: tables_1
/-- a 'code' word, met by the world's own term for the bytes: nothing is compared byte by byte -/
theorem code_word {y : MethodName} {bytes : ByteArray} {mx : Nat} {rt : Option FieldType} {a : Array Value} {s : State} {m : MethodId} {meth : Method} {c : Code} (h1 : s.methodNamed? y = some m) (h2 : s.vm.method? m = some meth) (h3 : meth.code = some c) (h4 : c.code = bytes)
    (h5 : (c.maxLocals == mx && c.exceptionTable.isEmpty && decide (c.maxStack ≤ mostOperands) && decide (meth.sig.returnType = rt) && !meth.locks && decide (parseMethodDescriptor y.desc = some meth.sig)) = true) : (Jvm.Cond.code y bytes mx rt).before a s = true := by
  simp only [Bool.and_eq_true, beq_iff_eq, Bool.not_eq_true', decide_eq_true_eq] at h5
  obtain ⟨⟨⟨⟨⟨g1, g2⟩, g3⟩, g4⟩, g5⟩, g6⟩ := h5
  simp [Cond.before, Cond.holds, Cond.value, h1, h2, h3, h4, g1, g2, g3, g4, g5, g6]
def isCode : Jvm.Cond → Bool
  | .code _ _ _ _ => true
  | _ => false
theorem all_split {L : List Jvm.Cond} {P : Jvm.Cond → Bool} (h1 : L.all (fun c => isCode c || P c) = true) (h2 : ∀ c ∈ L.filter isCode, P c = true) : L.all P = true := by
  refine List.all_eq_true.mpr fun c hc => ?_
  have h := List.all_eq_true.mp h1 c hc
  rcases Bool.eq_false_or_eq_true (isCode c) with hi | hi
  · exact h2 c (List.mem_filter.mpr ⟨hc, hi⟩)
  · simpa [hi] using h
set_option maxRecDepth 65536 in
theorem w_c0 : (Jvm.Cond.code x code maxLocals ret).before args0 about1 = true := code_word (m := ⟨1, 1⟩) (meth := k1m1) (c := k1c1) (by decide +kernel) rfl rfl rfl (by decide +kernel)
set_option maxRecDepth 65536 in
theorem w_c1 : (Jvm.Cond.code ({ cls := "java/lang/Math", name := "max", desc := "(II)I" } : Jvm.MethodName) jdk_29_method_65_code (2 : Nat) (Option.some Jvm.ClassFile.FieldType.int)).before args0 about1 = true := code_word (m := ⟨2, 2⟩) (meth := k2m2) (c := k2c2) (by decide +kernel) rfl rfl rfl (by decide +kernel)
set_option maxRecDepth 65536 in
theorem w_c2 : (Jvm.Cond.code ({ cls := "tidewatch/decision/KeyGroupCeiling", name := "<init>", desc := "(I[D)V" } : Jvm.MethodName) prog_33_method_1_code (4 : Nat) (Option.none : Option Jvm.ClassFile.FieldType)).before args0 about1 = true := code_word (m := ⟨3, 0⟩) (meth := k3m0) (c := k3c0) (by decide +kernel) rfl rfl rfl (by decide +kernel)
set_option maxRecDepth 65536 in
theorem w_c3 : (Jvm.Cond.code ({ cls := "java/lang/Object", name := "<init>", desc := "()V" } : Jvm.MethodName) object_method_1_code (1 : Nat) (Option.none : Option Jvm.ClassFile.FieldType)).before args0 about1 = true := code_word (m := ⟨0, 0⟩) (meth := k0m0) (c := k0c0) (by decide +kernel) rfl rfl rfl (by decide +kernel)
set_option maxRecDepth 65536 in
theorem w_c4 : (Jvm.Cond.code ({ cls := "java/lang/Double", name := "isFinite", desc := "(D)Z" } : Jvm.MethodName) jdk_117_method_8_code (2 : Nat) (Option.some Jvm.ClassFile.FieldType.boolean)).before args0 about1 = true := code_word (m := ⟨10, 1⟩) (meth := k10m1) (c := k10c1) (by decide +kernel) rfl rfl rfl (by decide +kernel)
set_option maxRecDepth 65536 in
theorem w_c5 : (Jvm.Cond.code ({ cls := "java/lang/Math", name := "abs", desc := "(D)D" } : Jvm.MethodName) jdk_29_method_64_code (2 : Nat) (Option.some Jvm.ClassFile.FieldType.double)).before args0 about1 = true := code_word (m := ⟨2, 1⟩) (meth := k2m1) (c := k2c1) (by decide +kernel) rfl rfl rfl (by decide +kernel)
set_option maxRecDepth 65536 in
theorem w_c6 : (Jvm.Cond.code ({ cls := "tidewatch/decision/KeyGroupCeiling", name := "hashCode", desc := "()I" } : Jvm.MethodName) prog_33_method_9_code (1 : Nat) (Option.some Jvm.ClassFile.FieldType.int)).before args0 about1 = true := code_word (m := ⟨3, 1⟩) (meth := k3m1) (c := k3c1) (by decide +kernel) rfl rfl rfl (by decide +kernel)
set_option maxRecDepth 65536 in
theorem w_c7 : (Jvm.Cond.code ({ cls := "java/util/Arrays", name := "hashCode", desc := "([D)I" } : Jvm.MethodName) jdk_65_method_156_code (9 : Nat) (Option.some Jvm.ClassFile.FieldType.int)).before args0 about1 = true := code_word (m := ⟨11, 1⟩) (meth := k11m1) (c := k11c1) (by decide +kernel) rfl rfl rfl (by decide +kernel)
set_option maxRecDepth 65536 in
theorem w_c8 : (Jvm.Cond.code ({ cls := "java/lang/Double", name := "doubleToLongBits", desc := "(D)J" } : Jvm.MethodName) jdk_117_method_23_code (2 : Nat) (Option.some Jvm.ClassFile.FieldType.long)).before args0 about1 = true := code_word (m := ⟨10, 2⟩) (meth := k10m2) (c := k10c2) (by decide +kernel) rfl rfl rfl (by decide +kernel)
set_option maxRecDepth 65536 in
theorem w_c9 : (Jvm.Cond.code ({ cls := "java/lang/Double", name := "isNaN", desc := "(D)Z" } : Jvm.MethodName) jdk_117_method_6_code (2 : Nat) (Option.some Jvm.ClassFile.FieldType.boolean)).before args0 about1 = true := code_word (m := ⟨10, 0⟩) (meth := k10m0) (c := k10c0) (by decide +kernel) rfl rfl rfl (by decide +kernel)
def codes1 : List Jvm.Cond := [Jvm.Cond.code x code maxLocals ret, Jvm.Cond.code ({ cls := "java/lang/Math", name := "max", desc := "(II)I" } : Jvm.MethodName) jdk_29_method_65_code (2 : Nat) (Option.some Jvm.ClassFile.FieldType.int), Jvm.Cond.code ({ cls := "tidewatch/decision/KeyGroupCeiling", name := "<init>", desc := "(I[D)V" } : Jvm.MethodName) prog_33_method_1_code (4 : Nat) (Option.none : Option Jvm.ClassFile.FieldType), Jvm.Cond.code ({ cls := "java/lang/Object", name := "<init>", desc := "()V" } : Jvm.MethodName) object_method_1_code (1 : Nat) (Option.none : Option Jvm.ClassFile.FieldType), Jvm.Cond.code ({ cls := "java/lang/Double", name := "isFinite", desc := "(D)Z" } : Jvm.MethodName) jdk_117_method_8_code (2 : Nat) (Option.some Jvm.ClassFile.FieldType.boolean), Jvm.Cond.code ({ cls := "java/lang/Math", name := "abs", desc := "(D)D" } : Jvm.MethodName) jdk_29_method_64_code (2 : Nat) (Option.some Jvm.ClassFile.FieldType.double), Jvm.Cond.code ({ cls := "tidewatch/decision/KeyGroupCeiling", name := "hashCode", desc := "()I" } : Jvm.MethodName) prog_33_method_9_code (1 : Nat) (Option.some Jvm.ClassFile.FieldType.int), Jvm.Cond.code ({ cls := "java/util/Arrays", name := "hashCode", desc := "([D)I" } : Jvm.MethodName) jdk_65_method_156_code (9 : Nat) (Option.some Jvm.ClassFile.FieldType.int), Jvm.Cond.code ({ cls := "java/lang/Double", name := "doubleToLongBits", desc := "(D)J" } : Jvm.MethodName) jdk_117_method_23_code (2 : Nat) (Option.some Jvm.ClassFile.FieldType.long), Jvm.Cond.code ({ cls := "java/lang/Double", name := "isNaN", desc := "(D)Z" } : Jvm.MethodName) jdk_117_method_6_code (2 : Nat) (Option.some Jvm.ClassFile.FieldType.boolean)]
set_option maxRecDepth 65536 in
theorem codes_eq : words1.filter isCode = codes1 := rfl
theorem w_codes : ∀ c ∈ words1.filter isCode, c.before args0 about1 = true := by
  rw [codes_eq]
  intro c hc
  simp only [codes1, List.mem_cons, List.not_mem_nil, or_false] at hc
  rcases hc with rfl | rfl | rfl | rfl | rfl | rfl | rfl | rfl | rfl | rfl
  · exact w_c0
  · exact w_c1
  · exact w_c2
  · exact w_c3
  · exact w_c4
  · exact w_c5
  · exact w_c6
  · exact w_c7
  · exact w_c8
  · exact w_c9
set_option maxRecDepth 65536 in
theorem w_t1 : (words1.take 24).all (fun c => isCode c || c.before args0 about1) = true := by decide +kernel
set_option maxRecDepth 65536 in
theorem w_t2 : ((words1.drop 24).take 24).all (fun c => isCode c || c.before args0 about1) = true := by decide +kernel
set_option maxRecDepth 65536 in
theorem w_t3 : ((words1.drop 24).drop 24).all (fun c => isCode c || c.before args0 about1) = true := by decide +kernel
theorem w_tables : (allAtoms (Jvm.Cond.code x code maxLocals ret :: tables_1)).before args0 about1 = true := by
  rw [allAtoms_all]
  show words1.all (fun c => c.before args0 about1) = true
  refine all_split ?_ w_codes
  rw [← List.take_append_drop 24 words1, List.all_append, w_t1, ← List.take_append_drop 24 (words1.drop 24), List.all_append, w_t2, w_t3]
  rfl
set_option maxRecDepth 65536 in
theorem w_case : (Jvm.Cond.and given_1 narrow_1).before args0 about1 = true := by decide +kernel
theorem w_applies : (headSpec (Jvm.Cond.code x code maxLocals ret :: tables_1) room_1).applies x e0.platform about1 = true :=
  (Spec.applies_iff w_frames).mpr ⟨w_running, w_runnable, w_alone, w_named, w_hears, w_ripe, w_room, w_tables⟩
theorem atStart : AtStart classFile x code maxLocals ret World_1 tables_1 room_1 Calls_1 rest_1 Pre_1 launch0 p0 e0 about1 theMethod args0 below0 :=
  ⟨lists_1, trivial, launch0.admits_env _ _ _, launch0.least_env, fairChoices_fair.cas, fairChoices_fair.clock, w_frames, w_args, w_heap, w_applies, trivial, trivial, w_case⟩
end start1
theorem witness_1 : WitnessClaimed_1 := ⟨start1.p0, start1.e0, start1.about1, start1.theMethod, start1.args0, start1.below0, start1.atStart⟩
end Jvm.Pilot.@@N@@
