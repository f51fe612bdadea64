import JvmDerived
import JvmDerived.Pilot.@@N@@Statement
import JvmDerived.Pilot.@@N@@Code
set_option linter.unusedVariables false
set_option linter.unusedSimpArgs false
namespace Jvm.Pilot.@@N@@
open Jvm Jvm.ClassFile Sem Op Lib Jvm.Free Jvm.Stand Jvm.LawKit Jvm.RoadKit Bundle Jvm.Pilot.@@N@@.Jvm.D
/-! OWN: the walk as a tree. Go: from here the run comes to a return that Q allows. -/
def Go (p : Program) (e : Env) (below : List Frame) (s : State) (C S : Nat) (Q : Option Value → Heap → List Loc → Prop) (T : State) (g : JFrame) : Prop :=
  ∃ s₂ o, Steps p.tables e below (T.setTop g) s₂ ∧ s₂.status = .running ∧ Ended s₂ below o ∧ ∃ v L, o = .returned v ∧ Q v s₂.heap L ∧ FrameEnd s o s₂ L C S
section OwnGo
variable {p : Program} {l : Launch} {e : Env} {R : Room} {s : State} {m : MethodId} {args : Array Value} {below : List Frame} {meth : Method} {c : Code} {T T' : State} {locs : List Loc} {cells slots : Nat} {Z : State} {a0 : Array Value} {h : Heap} {C S : Nat} {Q : Option Value → Heap → List Loc → Prop} {g g' : JFrame}
theorem Go.step (st : ∀ target, Steps p.tables e below (T'.setTop g') target → Steps p.tables e below (T.setTop g) target) (h : Go p e below s C S Q T' g') : Go p e below s C S Q T g := by
  obtain ⟨s₂, o, h1, r⟩ := h; exact ⟨s₂, o, st _ h1, r⟩
theorem Go.cast (q : g = g') (h : Go p e below s C S Q T g') : Go p e below s C S Q T g := q ▸ h
theorem Go.ret (X : Stand p l e R s m args below meth c T locs cells slots) (hlk : meth.locks = false) {v : Option Value} (hv : meth.sig.returnType = none → v = none)
    (st : ∀ fs, (∀ (f : JFrame) (acts : List Action), f.method = m → f.locked = none → f.entered = [] → (doReturn e (T.setTop f) acts v).1 = T.setFrames fs) → Steps p.tables e below (T.setTop g) (T.setFrames fs))
    (hq : Q v T.heap locs) (hc : cells ≤ C) (hs : slots ≤ S) : Go p e below s C S Q T g := by
  obtain ⟨fs, hr, hrun, hended, hW, hsame⟩ := X.leave (v := v) hv hlk
  exact ⟨_, _, st fs hr, hrun, hended, v, locs, rfl, hq, ⟨_, rfl⟩, hW, hsame.mono hc hs⟩
theorem Go.retV (X : Stand p l e R s m args below meth c T locs cells slots) (hx : p.tables.exec = Jvm.exec) (hlk : meth.locks = false) (hret : meth.sig.returnType = none) {pc : Nat} {Ls : Array Slot} (hd : decode c.code pc = .ok (.return_, 1))
    (hc : cells ≤ C) (hs : slots ≤ S) (hq : Q none T.heap locs) : Go p e below s C S Q T (mkF m pc Ls []) :=
  Go.ret X hlk (fun _ => rfl) (fun fs hr => X.returnOut hx hret hd hr) hq hc hs
theorem Go.retW (X : Stand p l e R s m args below meth c T locs cells slots) (hx : p.tables.exec = Jvm.exec) (hlk : meth.locks = false) {t : FieldType} (hret : meth.sig.returnType = some t) {pc : Nat} {Ls : Array Slot} {w : Value} {i : Instr} {rest : List Value} (hn : narrow t w = w)
    (hi : (i = .ireturn ∧ (t = .int ∨ t = .boolean ∨ t = .byte ∨ t = .char ∨ t = .short) ∧ ∃ z, w = .int z) ∨ (i = .lreturn ∧ t = .long ∧ ∃ z, w = .long z) ∨ (i = .dreturn ∧ t = .double ∧ ∃ z, w = .double z) ∨ (i = .freturn ∧ t = .float ∧ ∃ z, w = .float z) ∨ (i = .areturn ∧ t.isReference = true ∧ w.isRef = true))
    (hd : decode c.code pc = .ok (i, 1)) (hc : cells ≤ C) (hs : slots ≤ S) (hq : Q (some w) T.heap locs) : Go p e below s C S Q T (mkF m pc Ls (w :: rest)) :=
  Go.ret X hlk (fun h => by rw [hret] at h; cases h) (fun fs hr => retOut X hx hret hn hi hd hr) hq hc hs
theorem Go.retI (X : Stand p l e R s m args below meth c T locs cells slots) (hx : p.tables.exec = Jvm.exec) (hlk : meth.locks = false) (hret : meth.sig.returnType = some .int) {pc : Nat} {Ls : Array Slot} {z : Int32} {rest : List Value}
    (hd : decode c.code pc = .ok (.ireturn, 1)) (hc : cells ≤ C) (hs : slots ≤ S) (hq : Q (some (.int z)) T.heap locs) : Go p e below s C S Q T (mkF m pc Ls (.int z :: rest)) :=
  Go.retW X hx hlk hret rfl (Or.inl ⟨rfl, Or.inl rfl, z, rfl⟩) hd hc hs hq
theorem Go.retZ (X : Stand p l e R s m args below meth c T locs cells slots) (hx : p.tables.exec = Jvm.exec) (hlk : meth.locks = false) (hret : meth.sig.returnType = some .boolean) {pc : Nat} {Ls : Array Slot} {z : Int32} {rest : List Value} (hz : z = 0 ∨ z = 1)
    (hd : decode c.code pc = .ok (.ireturn, 1)) (hc : cells ≤ C) (hs : slots ≤ S) (hq : Q (some (.int z)) T.heap locs) : Go p e below s C S Q T (mkF m pc Ls (.int z :: rest)) :=
  Go.retW X hx hlk hret (by rcases hz with rfl | rfl <;> rfl) (Or.inl ⟨rfl, Or.inr (Or.inl rfl), z, rfl⟩) hd hc hs hq
theorem Go.retJ (X : Stand p l e R s m args below meth c T locs cells slots) (hx : p.tables.exec = Jvm.exec) (hlk : meth.locks = false) (hret : meth.sig.returnType = some .long) {pc : Nat} {Ls : Array Slot} {z : Int64} {rest : List Value}
    (hd : decode c.code pc = .ok (.lreturn, 1)) (hc : cells ≤ C) (hs : slots ≤ S) (hq : Q (some (.long z)) T.heap locs) : Go p e below s C S Q T (mkF m pc Ls (.long z :: rest)) :=
  Go.retW X hx hlk hret rfl (Or.inr (Or.inl ⟨rfl, rfl, z, rfl⟩)) hd hc hs hq
theorem Go.retD (X : Stand p l e R s m args below meth c T locs cells slots) (hx : p.tables.exec = Jvm.exec) (hlk : meth.locks = false) (hret : meth.sig.returnType = some .double) {pc : Nat} {Ls : Array Slot} {z : UInt64} {rest : List Value}
    (hd : decode c.code pc = .ok (.dreturn, 1)) (hc : cells ≤ C) (hs : slots ≤ S) (hq : Q (some (.double z)) T.heap locs) : Go p e below s C S Q T (mkF m pc Ls (.double z :: rest)) :=
  Go.retW X hx hlk hret rfl (Or.inr (Or.inr (Or.inl ⟨rfl, rfl, z, rfl⟩))) hd hc hs hq
theorem Go.retR (X : Stand p l e R s m args below meth c T locs cells slots) (hx : p.tables.exec = Jvm.exec) (hlk : meth.locks = false) {t : FieldType} (hret : meth.sig.returnType = some t) (ht : t.isReference = true) {pc : Nat} {Ls : Array Slot} {w : Value} {rest : List Value} (hn : narrow t w = w) (hw : w.isRef = true)
    (hd : decode c.code pc = .ok (.areturn, 1)) (hc : cells ≤ C) (hs : slots ≤ S) (hq : Q (some w) T.heap locs) : Go p e below s C S Q T (mkF m pc Ls (w :: rest)) :=
  Go.retW X hx hlk hret hn (Or.inr (Or.inr (Or.inr (Or.inr ⟨rfl, ht, hw⟩)))) hd hc hs hq
/-- a method's contract out of its walk -/
theorem con_of {y : MethodName} {bytes : ByteArray} {ml : Nat} {rt : Option FieldType} {ws : List Jvm.Cond} {rm : Room} {as' : Array Value} {h0 : Heap} (hpl : plainFor y = true)
    (body : ∀ (p : Program) (e : Env) (s : State) (m : MethodId) (below : List Frame) (meth : Method) (c : Code) (T : State), Stand p l e rm s m as' below meth c T [] 0 0 → p.tables.exec = Jvm.exec → Z.Warmed39 s.vm → c.code = bytes → c.maxLocals = ml → s.vm.findClass y.cls = some m.cls → meth.name = y.name →
      meth.sig.returnType = rt → meth.locks = false → T.heap = h0 → Go p e below s rm.cells rm.slots Q T (entryFrame m as' ml)) :
    MetFree l y (head1 (Jvm.Cond.code y bytes ml rt :: ws) rm) (fun a U => a = as' ∧ Z.Warmed39 U.vm ∧ U.heap = h0) (fun _ _ _ _ _ => True) (fun _ U o U' => ∃ v L, o = .returned v ∧ Q v U'.heap L ∧ FrameEnd U o U' L rm.cells rm.slots) := by
  refine MetFree.of_bodySF hpl hisR ?_
  intro p e s m args below meth c s₁ Bd hml0 hP hK
  obtain ⟨rfl, hZ, hh⟩ := hP
  exact body p e s m below meth c s₁ (Stand.of_body Bd) Bd.exec hZ Bd.bytes hml0 (findClass_of_methodNamed Bd.named) (name_of_methodNamed Bd.named Bd.method).1 Bd.returns (BodyLoose.notSynchronized Bd) (by rw [← hh, Bd.state]; rfl)
abbrev Con (l : Launch) (Z : State) (y : MethodName) (bytes : ByteArray) (ml : Nat) (rt : Option FieldType) (rm : Room) (as' : Array Value) (h0 : Heap) (Q : Option Value → Heap → List Loc → Prop) : Prop :=
  MetFree l y (head1 [Jvm.Cond.code y bytes ml rt] rm) (fun a U => a = as' ∧ Z.Warmed39 U.vm ∧ U.heap = h0) (fun _ _ _ _ _ => True) (fun _ U o U' => ∃ v L, o = .returned v ∧ Q v U'.heap L ∧ FrameEnd U o U' L rm.cells rm.slots)
theorem Go.callS (X : Stand p l e R s m args below meth c T locs cells slots) (hx : p.tables.exec = Jvm.exec) (hZ : Z.Warmed39 s.vm) {own : String} {index : Nat} {y : MethodName} {bytes : ByteArray} {maxL : Nat} {ret : Option FieldType} {rm : Room} {as' : Array Value} {Qc : Option Value → Heap → List Loc → Prop} {W pc : Nat} {Ls : Array Slot} {st : List Value} {argsL rest : List Value} (hml : Ls.size = c.maxLocals)
    (hown : s.vm.findClass own = some m.cls) (w1 : (Jvm.Cond.methodLink own index y).before a0 Z = true) (w2 : (Jvm.Cond.static y).before a0 Z = true) (w3 : (Jvm.Cond.initialized y.cls).before a0 Z = true) (w4 : (Jvm.Cond.code y bytes maxL ret).before a0 Z = true) (hy : y.cls ≠ "java/lang/invoke/MethodHandle" ∧ y.cls ≠ "java/lang/invoke/VarHandle")
    (hM : Con l Z y bytes maxL ret rm as' h Qc) (eT : T.heap = h) (hd : decode c.code pc = .ok (.invokestatic index, 3)) (hlen : ∀ sig, parseMethodDescriptor y.desc = some sig → argsL.length = sig.parameters.length) (hst : st = argsL.reverse ++ rest) (has : argsL.toArray = as')
    (hW : (rest.map fun v => v.category).sum ≤ W) (hf : rm.frames + 1 ≤ R.frames) (hl : W + (maxL + 11) + rm.locals ≤ R.locals) (hc : cells + rm.cells ≤ R.cells) (hs : slots + rm.slots ≤ R.slots)
    (k : ∀ (v : Option Value) (T' : State) (L : List Loc), Stand p l e R s m args below meth c T' (locs ++ L) (cells + rm.cells) (slots + rm.slots) → Qc v T'.heap L → Go p e below s C S Q T' (mkF m (pc + 3) Ls (v.toList ++ rest))) :
    Go p e below s C S Q T (mkF m pc Ls st) := by
  obtain ⟨v, _, ⟨T', L', k', n'⟩, -, X', ⟨Lc, hQ, l1, y1, z1⟩, stp⟩ := Jvm.LawKit.callS X hx (y := y) hown (mvT hZ w1) (mvT hZ w2) (mvT hZ w3) (mvT hZ w4) hy (backOf (W := W) hM hZ w4 w3 hf hl) (g := mkF m pc Ls st) rfl hml (argsL := argsL) (rest := rest) hlen hst (by show 2 * 0 + _ ≤ _; omega) hd (fun _ _ => ⟨has, eT, hc, hs⟩)
  dsimp only [Pt.U, Pt.locs, Pt.cells, Pt.slots] at X' l1 y1 z1 stp hQ
  subst l1 y1 z1
  exact Go.step stp (k v T' Lc X' hQ)
theorem Go.callI (X : Stand p l e R s m args below meth c T locs cells slots) (hx : p.tables.exec = Jvm.exec) (hZ : Z.Warmed39 s.vm) {own : String} {index : Nat} {y : MethodName} {bytes : ByteArray} {maxL : Nat} {rm : Room} {as' : Array Value} {Qc : Option Value → Heap → List Loc → Prop} {W pc : Nat} {Ls : Array Slot} {st : List Value} {a : Addr} {argsL rest : List Value} (hml : Ls.size = c.maxLocals)
    (hy1 : y.name = "<init>") (hown : s.vm.findClass own = some m.cls) (w1 : (Jvm.Cond.methodLink own index y).before a0 Z = true) (w2 : (Jvm.Cond.instanceMethod y).before a0 Z = true) (w3 : (Jvm.Cond.initialized y.cls).before a0 Z = true) (w4 : (Jvm.Cond.code y bytes maxL none).before a0 Z = true) (hy : y.cls ≠ "java/lang/invoke/MethodHandle" ∧ y.cls ≠ "java/lang/invoke/VarHandle")
    (hM : Con l Z y bytes maxL none rm as' h Qc) (eT : T.heap = h) (hd : decode c.code pc = .ok (.invokespecial index, 3)) (hlen : ∀ sig, parseMethodDescriptor y.desc = some sig → argsL.length = sig.parameters.length) (hst : st = argsL.reverse ++ .ref a :: rest) (has : (Value.ref a :: argsL).toArray = as')
    (hW : (rest.map fun v => v.category).sum ≤ W) (hf : rm.frames + 1 ≤ R.frames) (hl : W + (maxL + 11) + rm.locals ≤ R.locals) (hc : cells + rm.cells ≤ R.cells) (hs : slots + rm.slots ≤ R.slots)
    (k : ∀ (v : Option Value) (T' : State) (L : List Loc), Stand p l e R s m args below meth c T' (locs ++ L) (cells + rm.cells) (slots + rm.slots) → Qc v T'.heap L → Go p e below s C S Q T' (mkF m (pc + 3) Ls (v.toList ++ rest))) :
    Go p e below s C S Q T (mkF m pc Ls st) := by
  obtain ⟨v, _, ⟨T', L', k', n'⟩, -, X', ⟨Lc, hQ, l1, y1, z1⟩, stp⟩ := X.specialBack hx (y := y) hy1 hown (mvT hZ w1) (mvT hZ w2) (mvT hZ w4) hy (backOf (W := W) hM hZ w4 w3 hf hl) (g := mkF m pc Ls st) rfl hml (Steps.refl _) (a := a) (argsL := argsL) (rest := rest) hlen hst (by show 2 * 0 + _ ≤ _; omega) hd (fun _ _ => ⟨has, eT, hc, hs⟩)
  dsimp only [Pt.U, Pt.locs, Pt.cells, Pt.slots] at X' l1 y1 z1 stp hQ
  subst l1 y1 z1
  exact Go.step (fun _ q => stp.trans q) (k v T' Lc X' hQ)
theorem Go.callV (X : Stand p l e R s m args below meth c T locs cells slots) (hx : p.tables.exec = Jvm.exec) (hZ : Z.Warmed39 s.vm) {own K : String} {index : Nat} {y z : MethodName} {bytes : ByteArray} {maxL : Nat} {ret : Option FieldType} {rm : Room} {as' : Array Value} {Qc : Option Value → Heap → List Loc → Prop} {W pc : Nat} {Ls : Array Slot} {st : List Value} {a : Addr} {argsL rest : List Value} (hml : Ls.size = c.maxLocals)
    (hown : s.vm.findClass own = some m.cls) (w1 : (Jvm.Cond.methodLink own index y).before a0 Z = true) (w2 : (Jvm.Cond.declares y).before a0 Z = true) (hnf : NotFace s y) (w5 : (Jvm.Cond.selects K y z).before a0 Z = true) (w6 : (Jvm.Cond.instanceMethod z).before a0 Z = true) (w3 : (Jvm.Cond.initialized z.cls).before a0 Z = true) (w4 : (Jvm.Cond.code z bytes maxL ret).before a0 Z = true) (hy : y.cls ≠ "java/lang/invoke/MethodHandle" ∧ y.cls ≠ "java/lang/invoke/VarHandle")
    (hM : Con l Z z bytes maxL ret rm as' h Qc) (eT : T.heap = h) (E : Exa Z h a K) (hd : decode c.code pc = .ok (.invokevirtual index, 3)) (hlen : ∀ sig, parseMethodDescriptor y.desc = some sig → argsL.length = sig.parameters.length) (hst : st = argsL.reverse ++ .ref a :: rest) (has : (Value.ref a :: argsL).toArray = as')
    (hW : (rest.map fun v => v.category).sum ≤ W) (hf : rm.frames + 1 ≤ R.frames) (hl : W + (maxL + 11) + rm.locals ≤ R.locals) (hc : cells + rm.cells ≤ R.cells) (hs : slots + rm.slots ≤ R.slots)
    (k : ∀ (v : Option Value) (T' : State) (L : List Loc), Stand p l e R s m args below meth c T' (locs ++ L) (cells + rm.cells) (slots + rm.slots) → Qc v T'.heap L → Go p e below s C S Q T' (mkF m (pc + 3) Ls (v.toList ++ rest))) :
    Go p e below s C S Q T (mkF m pc Ls st) := by
  obtain ⟨cq, kq, qa, qb, qc⟩ := isOf hZ eT E
  obtain ⟨v, _, ⟨T', L', k', n'⟩, -, X', ⟨Lc, hQ, l1, y1, z1⟩, stp⟩ := X.virtualBack hx (y := y) (z := z) hown (mvT hZ w1) (mvT hZ w2) hnf (mvT hZ w5) (mvT hZ w6) hy (backOf (W := W) hM hZ w4 w3 hf hl) qa qc (g := mkF m pc Ls st) rfl hml (Steps.refl _) (argsL := argsL) (rest := rest) hlen hst (by show 2 * 0 + _ ≤ _; omega) hd (fun _ _ => ⟨has, eT, hc, hs⟩)
  dsimp only [Pt.U, Pt.locs, Pt.cells, Pt.slots] at X' l1 y1 z1 stp hQ
  subst l1 y1 z1
  exact Go.step (fun _ q => stp.trans q) (k v T' Lc X' hQ)
theorem Go.callP (X : Stand p l e R s m args below meth c T locs cells slots) (hx : p.tables.exec = Jvm.exec) (hZ : Z.Warmed39 s.vm) {own : String} {index : Nat} {y : MethodName} {bytes : ByteArray} {maxL : Nat} {ret : Option FieldType} {rm : Room} {as' : Array Value} {Qc : Option Value → Heap → List Loc → Prop} {W pc : Nat} {Ls : Array Slot} {st : List Value} {a : Addr} {argsL rest : List Value} (hml : Ls.size = c.maxLocals)
    (hown : s.vm.findClass own = some m.cls) (w1 : (Jvm.Cond.methodLink own index y).before a0 Z = true) (w6 : (Jvm.Cond.instanceMethod y).before a0 Z = true) {kk : Nat} (w5 : (Jvm.Cond.instantiable y.cls kk).before a0 Z = true) (w7 : (Jvm.Cond.privateMethod y).before a0 Z = true) (w3 : (Jvm.Cond.initialized y.cls).before a0 Z = true) (w4 : (Jvm.Cond.code y bytes maxL ret).before a0 Z = true) (hy : y.cls ≠ "java/lang/invoke/MethodHandle" ∧ y.cls ≠ "java/lang/invoke/VarHandle")
    (hM : Con l Z y bytes maxL ret rm as' h Qc) (eT : T.heap = h) {K : String} (E : Exa Z h a K) (hd : decode c.code pc = .ok (.invokevirtual index, 3)) (hlen : ∀ sig, parseMethodDescriptor y.desc = some sig → argsL.length = sig.parameters.length) (hst : st = argsL.reverse ++ .ref a :: rest) (has : (Value.ref a :: argsL).toArray = as')
    (hW : (rest.map fun v => v.category).sum ≤ W) (hf : rm.frames + 1 ≤ R.frames) (hl : W + (maxL + 11) + rm.locals ≤ R.locals) (hc : cells + rm.cells ≤ R.cells) (hs : slots + rm.slots ≤ R.slots)
    (k : ∀ (v : Option Value) (T' : State) (L : List Loc), Stand p l e R s m args below meth c T' (locs ++ L) (cells + rm.cells) (slots + rm.slots) → Qc v T'.heap L → Go p e below s C S Q T' (mkF m (pc + 3) Ls (v.toList ++ rest))) :
    Go p e below s C S Q T (mkF m pc Ls st) := by
  obtain ⟨cq, q1, q2⟩ := E.cell
  have hpriv : s.PrivateAt y := Cond.privateMethod_at (mvP hZ w7 (args := #[]))
  have w5' : (Jvm.Cond.instantiable y.cls kk).before args s = true := mvT hZ w5
  obtain ⟨c1, k1, i1, i2, -, i4, -⟩ := Cond.instantiable_spec w5'
  have hsel : (Jvm.Cond.selects y.cls y y).before args s = true := selects_self_of_private i1 i2 (by simp only [Bool.or_eq_false_iff] at i4; exact i4.1) hpriv (mvT hZ w6) hy
  obtain ⟨v, _, ⟨T', L', k', n'⟩, -, X', ⟨Lc, hQ, l1, y1, z1⟩, stp⟩ := X.privateBack hx (y := y) hown (mvT hZ w1) (mvT hZ w6) hsel hpriv (mvT hZ w4) hy (backOf (W := W) hM hZ w4 w3 hf hl) (g := mkF m pc Ls st) rfl hml (Steps.refl _) (a := a) (by rw [eT]; exact q1) q2 (argsL := argsL) (rest := rest) hlen hst (by show 2 * 0 + _ ≤ _; omega) hd (fun _ _ => ⟨has, eT, hc, hs⟩)
  dsimp only [Pt.U, Pt.locs, Pt.cells, Pt.slots] at X' l1 y1 z1 stp hQ
  subst l1 y1 z1
  exact Go.step (fun _ q => stp.trans q) (k v T' Lc X' hQ)
end OwnGo
/-! OWN: branches on a comparison of doubles, as javac writes them -/
section OwnCmp
variable {x y : UInt64}
theorem cv_none (o : CmpOp) (h : FP.dcmp x y = none) : cmpValue (FP.dcmp x y) o = (match o with | .l => -1 | .g => 1) := by rw [h]; cases o <;> rfl
theorem gt_y (h : FP.dcmp x y = some .gt) : ifCond.holds .le (cmpValue (FP.dcmp x y) .l) = false := by rw [h]; rfl
theorem gt_n (h : ¬ FP.dcmp x y = some .gt) : ifCond.holds .le (cmpValue (FP.dcmp x y) .l) = true := by
  rcases q : FP.dcmp x y with _ | (_ | _ | _) <;> first | rfl | exact absurd q h
theorem ge_y (h : FP.dcmp x y = some .gt ∨ FP.dcmp x y = some .eq) : ifCond.holds .lt (cmpValue (FP.dcmp x y) .l) = false := by rcases h with h | h <;> rw [h] <;> rfl
theorem ge_n (h : ¬ (FP.dcmp x y = some .gt ∨ FP.dcmp x y = some .eq)) : ifCond.holds .lt (cmpValue (FP.dcmp x y) .l) = true := by
  rcases q : FP.dcmp x y with _ | (_ | _ | _) <;> first | rfl | exact absurd (Or.inl q) h | exact absurd (Or.inr q) h
theorem lt_y (h : FP.dcmp x y = some .lt) : ifCond.holds .ge (cmpValue (FP.dcmp x y) .g) = false := by rw [h]; rfl
theorem lt_n (h : ¬ FP.dcmp x y = some .lt) : ifCond.holds .ge (cmpValue (FP.dcmp x y) .g) = true := by
  rcases q : FP.dcmp x y with _ | (_ | _ | _) <;> first | rfl | exact absurd q h
theorem le_y (h : FP.dcmp x y = some .lt ∨ FP.dcmp x y = some .eq) : ifCond.holds .gt (cmpValue (FP.dcmp x y) .g) = false := by rcases h with h | h <;> rw [h] <;> rfl
theorem le_n (h : ¬ (FP.dcmp x y = some .lt ∨ FP.dcmp x y = some .eq)) : ifCond.holds .gt (cmpValue (FP.dcmp x y) .g) = true := by
  rcases q : FP.dcmp x y with _ | (_ | _ | _) <;> first | rfl | exact absurd (Or.inl q) h | exact absurd (Or.inr q) h
theorem eq_y (o : CmpOp) (h : FP.dcmp x y = some .eq) : ifCond.holds .ne (cmpValue (FP.dcmp x y) o) = false ∧ ifCond.holds .eq (cmpValue (FP.dcmp x y) o) = true := by rw [h]; cases o <;> exact ⟨rfl, rfl⟩
theorem eq_n (o : CmpOp) (h : ¬ FP.dcmp x y = some .eq) : ifCond.holds .ne (cmpValue (FP.dcmp x y) o) = true ∧ ifCond.holds .eq (cmpValue (FP.dcmp x y) o) = false := by
  rcases q : FP.dcmp x y with _ | (_ | _ | _) <;> cases o <;> first | exact ⟨rfl, rfl⟩ | exact absurd q h
/-- x > y, by a taken 'ifgt' over dcmpl -/
theorem gtT_y (h : FP.dcmp x y = some .gt) : ifCond.holds .gt (cmpValue (FP.dcmp x y) .l) = true := by rw [h]; rfl
theorem gtT_n (h : ¬ FP.dcmp x y = some .gt) : ifCond.holds .gt (cmpValue (FP.dcmp x y) .l) = false := by
  rcases q : FP.dcmp x y with _ | (_ | _ | _) <;> first | rfl | exact absurd q h
theorem geT_y (h : FP.dcmp x y = some .gt ∨ FP.dcmp x y = some .eq) : ifCond.holds .ge (cmpValue (FP.dcmp x y) .l) = true := by rcases h with h | h <;> rw [h] <;> rfl
theorem geT_n (h : ¬ (FP.dcmp x y = some .gt ∨ FP.dcmp x y = some .eq)) : ifCond.holds .ge (cmpValue (FP.dcmp x y) .l) = false := by
  rcases q : FP.dcmp x y with _ | (_ | _ | _) <;> first | rfl | exact absurd (Or.inl q) h | exact absurd (Or.inr q) h
theorem ltT_y (h : FP.dcmp x y = some .lt) : ifCond.holds .lt (cmpValue (FP.dcmp x y) .g) = true := by rw [h]; rfl
theorem ltT_n (h : ¬ FP.dcmp x y = some .lt) : ifCond.holds .lt (cmpValue (FP.dcmp x y) .g) = false := by
  rcases q : FP.dcmp x y with _ | (_ | _ | _) <;> first | rfl | exact absurd q h
theorem leT_y (h : FP.dcmp x y = some .lt ∨ FP.dcmp x y = some .eq) : ifCond.holds .le (cmpValue (FP.dcmp x y) .g) = true := by rcases h with h | h <;> rw [h] <;> rfl
theorem leT_n (h : ¬ (FP.dcmp x y = some .lt ∨ FP.dcmp x y = some .eq)) : ifCond.holds .le (cmpValue (FP.dcmp x y) .g) = false := by
  rcases q : FP.dcmp x y with _ | (_ | _ | _) <;> first | rfl | exact absurd (Or.inl q) h | exact absurd (Or.inr q) h
end OwnCmp

section OwnConv
open Jvm.FP.Core
theorem own_nnN {a : UInt64} (h : val64 a ≠ .nan) : Jvm.Free.Fl.NoNaN64 a := Jvm.Free.Fl.noNaN64_no.mpr ((notNaN_iff a).mpr h)
theorem own_Nnn {a : UInt64} (h : Jvm.Free.Fl.NoNaN64 a) : val64 a ≠ .nan := (notNaN_iff a).mp (Jvm.Free.Fl.noNaN64_no.mp h)
theorem own_finF {a : UInt64} (h : DFin a) : Jvm.Free.Fl.Fin64 a := Jvm.Free.Fl.fin64_core.mpr h
theorem own_Ffin {a : UInt64} (h : Jvm.Free.Fl.Fin64 a) : DFin a := Jvm.Free.Fl.fin64_core.mp h
theorem own_nnF {a : UInt64} (h : DFin a) : Jvm.Free.Fl.NoNaN64 a := own_nnN h.ne_nan
theorem own_nz {x : Int64} (h : x ≠ 0) : Jvm.Free.Fl.Nz64 (FP.l2d x) := Jvm.Free.Fl.nz64_core.mpr (fun z => l2d_ne_zero h ((zero_bits2 _).mp z))
theorem own_eqD {a b : UInt64} (h : a = b) (n : Jvm.Free.Fl.NoNaN64 a) : FP.dcmp a b = some .eq := by subst h; exact dcmp_self (own_Nnn n)
end OwnConv

section OwnQuot
open Jvm.FP.Core
theorem own_pow (a b : Nat) : (2:Nat) ^ a * 2 ^ b = 2 ^ (a + b) := (Nat.pow_add 2 a b).symm
theorem own_cross {c d M : Nat} {q r : Int} (hq : 0 ≤ q + M) (hr : 0 ≤ r + M) (h : c * 2 ^ (q + M).toNat ≤ d * 2 ^ (r + M).toNat) : c * 2 ^ (q - r).toNat ≤ d * 2 ^ (r - q).toNat := by
  have e1 : (q + M).toNat = (q - r).toNat + (min q r + M).toNat := by omega
  have e2 : (r + M).toNat = (r - q).toNat + (min q r + M).toNat := by omega
  rw [e1, e2, Nat.pow_add, Nat.pow_add, ← Nat.mul_assoc, ← Nat.mul_assoc] at h
  exact Nat.le_of_mul_le_mul_right h (Nat.two_pow_pos _)
theorem own_cross_eq {c d M : Nat} {q r : Int} (hq : 0 ≤ q + M) (hr : 0 ≤ r + M) (h : c * 2 ^ (q + M).toNat = d * 2 ^ (r + M).toNat) : c * 2 ^ (q - r).toNat = d * 2 ^ (r - q).toNat :=
  Nat.le_antisymm (own_cross hq hr (Nat.le_of_eq h)) (own_cross hr hq (Nat.le_of_eq h.symm))
/-- the quotient of two whole numbers -/
theorem own_quot_int {i j : Int} {a b : UInt64} (ha : DInt i a) (hb : DInt j b) (hi : i ≠ 0) (hj : j ≠ 0) : val64 (FP.ddiv a b) = roundRatio b64 (decide (i < 0) != decide (j < 0)) i.natAbs j.natAbs 0 := by
  show val64 (Jvm.FP.Core.ddiv a b) = _
  rw [val64_ddiv]
  unfold DInt at ha hb
  cases ea : val64 a with
  | nan => rw [ea] at ha; exact ha.elim
  | inf s => rw [ea] at ha; exact ha.elim
  | fin s c q =>
    cases eb : val64 b with
    | nan => rw [eb] at hb; exact hb.elim
    | inf s => rw [eb] at hb; exact hb.elim
    | fin t d r =>
      rw [ea] at ha; rw [eb] at hb
      have hd : d ≠ 0 := fun z => hj ((whole_zero hb).mp z)
      have h1 := whole_natAbs ha
      have h2 := whole_natAbs hb
      show (if d = 0 then (if c = 0 then Datum.nan else .inf (s != t)) else roundRatio b64 (s != t) c d (q - r)) = _
      rw [if_neg hd, whole_sign ha hi, whole_sign hb hj]
      refine roundRatio_congr (by omega) (by omega) ?_
      rw [show (q - r - 0) = q - r by omega, show (0 - (q - r)) = r - q by omega]
      have e3 : c * j.natAbs * 2 ^ (q.toNat + (-r).toNat) = i.natAbs * d * 2 ^ (r.toNat + (-q).toNat) := by
        rw [Nat.pow_add, Nat.pow_add]
        calc c * j.natAbs * (2 ^ q.toNat * 2 ^ (-r).toNat) = (c * 2 ^ q.toNat) * (j.natAbs * 2 ^ (-r).toNat) := by ac_rfl
          _ = (i.natAbs * 2 ^ (-q).toNat) * (d * 2 ^ r.toNat) := by rw [h1, h2]
          _ = _ := by ac_rfl
      have f1 : q.toNat + (-r).toNat = (q - r + ((-q).toNat + r.toNat : Nat)).toNat := by omega
      have f2 : r.toNat + (-q).toNat = (0 + ((-q).toNat + r.toNat : Nat) : Int).toNat := by omega
      rw [f1, f2] at e3
      have := own_cross_eq (q := q - r) (r := 0) (M := (-q).toNat + r.toNat) (by omega) (by omega) e3
      rw [show (q - r - 0) = q - r by omega, show (0 - (q - r)) = r - q by omega] at this
      exact this
end OwnQuot

section OwnFP
open Jvm.FP.Core
def perW (c n : Int64) : UInt64 := if c = 0 then (if n = 0 then 0 else 9218868437227405312) else FP.ddiv (FP.l2d n) (FP.l2d c)
theorem own_r00 {r : UInt64} {c n : Int64} (h : r = perW c n) (hc : c = 0) (hn : n = 0) : r = 0 := by rw [h, perW, if_pos hc, if_pos hn]
theorem own_r01 {r : UInt64} {c n : Int64} (h : r = perW c n) (hc : c = 0) (hn : ¬ n = 0) : r = 9218868437227405312 := by rw [h, perW, if_pos hc, if_neg hn]
theorem own_r1 {r : UInt64} {c n : Int64} (h : r = perW c n) (hc : ¬ c = 0) : r = FP.ddiv (FP.l2d n) (FP.l2d c) := by rw [h, perW, if_neg hc]
theorem own_l2d_small {x : Int64} (h1 : -9007199254740992 < x.toInt) (h2 : x.toInt < 9007199254740992) : DInt x.toInt (FP.l2d x) := l2d_whole ⟨h1, h2⟩
theorem own_exact {n c : Int64} (h1 : (-(9007199254740992 : Int64)) < n) (h2 : n < (9007199254740992 : Int64)) (h3 : (-(9007199254740992 : Int64)) < c) (h4 : c < (9007199254740992 : Int64)) (hc : ¬ c = 0) (hr : (n - (n / c) * c) = (0 : Int64)) :
    FP.dcmp (FP.ddiv (FP.l2d n) (FP.l2d c)) (FP.l2d (n / c)) = some .eq := by
  rw [Int64.lt_iff_toInt_lt] at h1 h2 h3 h4
  rw [show (-(9007199254740992 : Int64)).toInt = -9007199254740992 by decide] at h1 h3
  rw [show (9007199254740992 : Int64).toInt = 9007199254740992 by decide] at h2 h4
  have hc0 : c.toInt ≠ 0 := fun q => hc (Int64.toInt_inj.mp q)
  have hd : (n / c).toInt = n.toInt.tdiv c.toInt := by
    rw [Int64.toInt_div]
    refine Int.bmod_eq_of_le ?_ ?_ <;>
    · have := Int.natAbs_tdiv_le_natAbs n.toInt c.toInt
      omega
  have hmul : n.toInt = n.toInt.tdiv c.toInt * c.toInt := by
    have e : n = (n / c) * c := by
      have := congrArg (· + (n / c) * c) hr
      simpa using this
    have e2 := congrArg Int64.toInt e
    rw [Int64.toInt_mul, hd] at e2
    have hb : (n.toInt.tdiv c.toInt * c.toInt).bmod (2 ^ 64) = n.toInt.tdiv c.toInt * c.toInt := by
      have l1 : (n.toInt.tdiv c.toInt * c.toInt).natAbs ≤ n.toInt.natAbs := by
        rw [Int.natAbs_mul, Int.natAbs_tdiv]; exact Nat.div_mul_le_self _ _
      exact Int.bmod_eq_of_le (by omega) (by omega)
    rw [hb] at e2; exact e2
  by_cases hn : n.toInt = 0
  · have hn' : n = 0 := Int64.toInt_inj.mp hn
    have hk : n / c = 0 := Int64.toInt_inj.mp (by rw [hd, hn]; simp)
    rw [hk, hn']
    refine dcmp_eq.mpr ?_
    have hz : DInt 0 (FP.l2d 0) := l2d_whole (a := 0) ⟨by decide, by decide⟩
    have hcv := own_l2d_small h3 h4
    have nz : val64 (FP.l2d 0) ≠ .nan := DInt_ne_nan hz
    have zz : zval b64 (val64 (FP.l2d 0)) = 0 := by rw [DInt_zval hz]; simp
    have hv : ∃ s, val64 (FP.ddiv (FP.l2d 0) (FP.l2d c)) = .fin s 0 b64.qmin := by
      show ∃ s, val64 (Jvm.FP.Core.ddiv (FP.l2d 0) (FP.l2d c)) = .fin s 0 b64.qmin
      rw [val64_ddiv, show val64 (FP.l2d 0) = .fin false 0 (-1074) by decide +kernel]
      unfold DInt at hcv
      cases e : val64 (FP.l2d c) with
      | nan => rw [e] at hcv; exact hcv.elim
      | inf s => rw [e] at hcv; exact hcv.elim
      | fin t d r =>
        rw [e] at hcv
        have hd0 : ¬ d = 0 := fun z => hc0 ((whole_zero hcv).mp z)
        refine ⟨false != t, ?_⟩
        show (if d = 0 then _ else roundRatio b64 (false != t) 0 d _) = _
        rw [if_neg hd0]; rfl
    obtain ⟨s, hv⟩ := hv
    refine ⟨by rw [hv]; simp, nz, ?_⟩
    rw [zz, hv]; show signed s (0 * _) = 0; rw [Nat.zero_mul, signed_zero]
  · have hq := own_quot_int (own_l2d_small h1 h2) (own_l2d_small h3 h4) hn hc0
    obtain ⟨k, hk⟩ : ∃ k, k = n.toInt.tdiv c.toInt := ⟨_, rfl⟩
    rw [← hk] at hd hmul
    have hk0 : k ≠ 0 := fun q => by rw [q, Int.zero_mul] at hmul; exact hn hmul
    have hs : (decide (n.toInt < 0) != decide (c.toInt < 0)) = decide (k < 0) := by
      rcases Int.lt_or_gt_of_ne hk0 with a | a <;> rcases Int.lt_or_gt_of_ne hc0 with b | b
      · have := Int.mul_pos_of_neg_of_neg a b; simp [a, b, show ¬ n.toInt < 0 by omega]
      · have := Int.mul_neg_of_neg_of_pos a b; simp [a, show ¬ c.toInt < 0 by omega, show n.toInt < 0 by omega]
      · have := Int.mul_neg_of_pos_of_neg a b; simp [b, show ¬ k < 0 by omega, show n.toInt < 0 by omega]
      · have := Int.mul_pos a b; simp [show ¬ c.toInt < 0 by omega, show ¬ k < 0 by omega, show ¬ n.toInt < 0 by omega]
    have hv : val64 (FP.ddiv (FP.l2d n) (FP.l2d c)) = val64 (FP.l2d (n / c)) := by
      rw [hq, show val64 (FP.l2d (n / c)) = round b64 (ofInt (n / c).toInt) from val64_l2d _, hd, hs]
      show _ = roundRatio b64 (decide (k < 0)) k.natAbs 1 0
      refine roundRatio_congr (by omega) (by decide) ?_
      have : n.toInt.natAbs = k.natAbs * c.toInt.natAbs := by rw [hmul, Int.natAbs_mul]
      rw [this]; simp
    have hne : val64 (FP.l2d (n / c)) ≠ .nan := (l2d_fin (n / c)).ne_nan
    have := val64_inj (a := FP.ddiv (FP.l2d n) (FP.l2d c)) (by rw [hv]; exact hne) hv
    rw [this]; exact dcmp_self hne
theorem own_rn {r : UInt64} {c n : Int64} (h : r = perW c n) (hc : ¬ c = 0) : Jvm.Free.Fl.NoNaN64 r := by rw [own_r1 h hc]; exact Jvm.Free.Fl.ddiv_out (Jvm.Free.Fl.l2d_fin _).noNaN (Jvm.Free.Fl.l2d_fin _) (own_nz hc)
end OwnFP

theorem d2_0 : decode jdk_30_method_1_code 0 = .ok (.aload_n 0, 1) := by decide +kernel
theorem d2_1 : decode jdk_30_method_1_code 1 = .ok (.invokespecial 1, 3) := by decide +kernel
theorem d2_4 : decode jdk_30_method_1_code 4 = .ok (.return_, 1) := by decide +kernel
set_option maxRecDepth 65536 in
set_option maxHeartbeats 40000000 in
theorem w2 {p : Program} {l : Launch} {e : Env} {s : State} {m : MethodId} {args : Array Value} {below : List Frame} {meth : Method} {c_ : Code} {T0 : State} {locs : List Loc} {Z : State} {a0 : Array Value} {h0 : Heap} {n0 : Nat} (a : Addr)
    (X0 : Stand p l e ({ frames := 1, cells := 0, slots := 0, locals := 12 } : Room) s m args below meth c_ T0 locs 0 0) (hx : p.tables.exec = Jvm.exec) (hZ : Z.Warmed39 s.vm) (hw : ∀ d ∈ tables_1, d.before a0 Z = true) (hby : c_.code = jdk_30_method_1_code) (hml : c_.maxLocals = 1) (hown : s.vm.findClass "java/lang/Record" = some m.cls) (hnm : meth.name = "<init>") (hret : meth.sig.returnType = none) (hlk : meth.locks = false) (e0 : T0.heap = h0) (Z0 : n0 ≤ h0.size) (N0 : Fr n0 locs)  :
    Go p e below s ({ frames := 1, cells := 0, slots := 0, locals := 12 } : Room).cells ({ frames := 1, cells := 0, slots := 0, locals := 12 } : Room).slots (fun r h L => r = none ∧ Fr n0 L ∧ h = h0) T0 (mkF m 0 #[.val (.ref a)] []) := by
  show Go _ _ _ _ _ _ _ T0 (mkF m 0 #[.val (.ref a)] [])
  refine Go.step (fun _ k => XS.aloadN X0.here hx rfl (hb hby d2_0) rfl rfl k) ?_
  show Go _ _ _ _ _ _ _ T0 (mkF m 1 #[.val (.ref a)] [(.ref a)])
  obtain ⟨T1, X1, e1, st1⟩ := initO X0 hx hZ hown (hw _ (List.mem_of_getElem? (i := 11) rfl)) (hw _ (List.mem_of_getElem? (i := 12) rfl)) (hw _ (List.mem_of_getElem? (i := 13) rfl)) e0 (g := (mkF m 1 #[.val (.ref a)] [(.ref a)])) rfl (by rw [hml]; rfl) rfl (hb hby d2_1) (by decide) (W := 0) (by show 2 * 0 + _ ≤ _; exact Nat.le_of_eq rfl) (by decide)
  refine Go.step st1 ?_
  show Go _ _ _ _ _ _ _ T1 (mkF m 4 #[.val (.ref a)] [])
  refine Go.retV X1 hx hlk hret (hb hby d2_4) (by decide) (by decide) ?_
  try rw [e1]
  exact ⟨rfl, N0, rfl⟩
theorem pn_2 : plainName "java/lang/Record" = true := by first | (simp [plainName, overriddenIn]; done) | decide +kernel
theorem ef_rm2 (m : MethodId) (a : Addr) : entryFrame m #[(.ref a)] 1 = mkF m 0 #[.val (.ref a)] [] := by first | (simp [entryFrame, mkF, argsToLocals, Value.category]; done) | rfl
theorem rm2 (l : Launch) (Z : State) (a0 : Array Value) (hw : ∀ d ∈ tables_1, d.before a0 Z = true) (a : Addr) (h0 : Heap) (n0 : Nat) (Z0 : n0 ≤ h0.size)  :
    Con l Z (⟨"java/lang/Record", "<init>", "()V"⟩ : MethodName) jdk_30_method_1_code 1 none ({ frames := 1, cells := 0, slots := 0, locals := 12 } : Room) #[(.ref a)] h0 (fun r h L => r = none ∧ Fr n0 L ∧ h = h0) :=
  con_of (plainFor_of_name pn_2) (fun p_ e_ s_ m_ b_ meth_ c_ T_ X_ hx hZ hby hml hown hnm hret hlk e0 => Go.cast (ef_rm2 m_ a) (w2 a X_ hx hZ hw hby hml hown hnm hret hlk e0 Z0 (Fr.nil n0) ))
theorem d1_0 : decode prog_24_method_1_code 0 = .ok (.aload_n 0, 1) := by decide +kernel
theorem d1_1 : decode prog_24_method_1_code 1 = .ok (.invokespecial 1, 3) := by decide +kernel
theorem pd_0 : parseMethodDescriptor "()V" = some ⟨[], none⟩ := by decide +kernel
theorem d1_4 : decode prog_24_method_1_code 4 = .ok (.aload_n 0, 1) := by decide +kernel
theorem d1_5 : decode prog_24_method_1_code 5 = .ok (.lload_n 1, 1) := by decide +kernel
theorem d1_6 : decode prog_24_method_1_code 6 = .ok (.putfield 7, 3) := by decide +kernel
theorem d1_9 : decode prog_24_method_1_code 9 = .ok (.aload_n 0, 1) := by decide +kernel
theorem d1_10 : decode prog_24_method_1_code 10 = .ok (.aload_n 3, 1) := by decide +kernel
theorem d1_11 : decode prog_24_method_1_code 11 = .ok (.putfield 13, 3) := by decide +kernel
theorem d1_14 : decode prog_24_method_1_code 14 = .ok (.return_, 1) := by decide +kernel
set_option maxRecDepth 65536 in
set_option maxHeartbeats 40000000 in
theorem w1 {p : Program} {l : Launch} {e : Env} {s : State} {m : MethodId} {args : Array Value} {below : List Frame} {meth : Method} {c_ : Code} {T0 : State} {locs : List Loc} {Z : State} {a0 : Array Value} {h0 : Heap} {n0 : Nat} (a : Addr) (t : Int64)
    (X0 : Stand p l e ({ frames := 2, cells := 0, slots := 0, locals := 24 } : Room) s m args below meth c_ T0 locs 0 0) (hx : p.tables.exec = Jvm.exec) (hZ : Z.Warmed39 s.vm) (hw : ∀ d ∈ tables_1, d.before a0 Z = true) (hby : c_.code = prog_24_method_1_code) (hml : c_.maxLocals = 4) (hown : s.vm.findClass "com/example/cyclebreak/cyclebreak/cli/bench/SharedStore$Tally" = some m.cls) (hnm : meth.name = "<init>") (hret : meth.sig.returnType = none) (hlk : meth.locks = false) (e0 : T0.heap = h0) (Z0 : n0 ≤ h0.size) (N0 : Fr n0 locs) (E_a : Exa Z h0 a "com/example/cyclebreak/cyclebreak/cli/bench/SharedStore$Tally") (F_committed_a : Fld Z h0 a "com/example/cyclebreak/cyclebreak/cli/bench/SharedStore$Tally" "committed" "J" (.long (0 : Int64))) (F_aborted_a : Fld Z h0 a "com/example/cyclebreak/cyclebreak/cli/bench/SharedStore$Tally" "aborted" "Ljava/util/Map;" .null) (ge_a : n0 ≤ a)  :
    Go p e below s ({ frames := 2, cells := 0, slots := 0, locals := 24 } : Room).cells ({ frames := 2, cells := 0, slots := 0, locals := 24 } : Room).slots (fun r h L => r = none ∧ Fr n0 L ∧ Keep h0 h [a] ∧ Exa Z h a "com/example/cyclebreak/cyclebreak/cli/bench/SharedStore$Tally" ∧ Fld Z h a "com/example/cyclebreak/cyclebreak/cli/bench/SharedStore$Tally" "committed" "J" (.long t) ∧ Fld Z h a "com/example/cyclebreak/cyclebreak/cli/bench/SharedStore$Tally" "aborted" "Ljava/util/Map;" .null) T0 (mkF m 0 #[.val (.ref a), .val (.long t), .second, .val .null] []) := by
  show Go _ _ _ _ _ _ _ T0 (mkF m 0 #[.val (.ref a), .val (.long t), .second, .val .null] [])
  refine Go.step (fun _ k => XS.aloadN X0.here hx rfl (hb hby d1_0) rfl rfl k) ?_
  show Go _ _ _ _ _ _ _ T0 (mkF m 1 #[.val (.ref a), .val (.long t), .second, .val .null] [(.ref a)])
  refine Go.callI X0 hx hZ (by rw [hml]; rfl) (y := (⟨"java/lang/Record", "<init>", "()V"⟩ : MethodName)) (a := a) (argsL := []) (rest := []) rfl hown (hw _ (List.mem_of_getElem? (i := 6) rfl)) (hw _ (List.mem_of_getElem? (i := 7) rfl)) (hw _ (List.mem_of_getElem? (i := 9) rfl)) (hw _ (List.mem_of_getElem? (i := 10) rfl)) (by decide) (rm2 l Z a0 hw a h0 n0 Z0) e0 (hb hby d1_1) (lenOf pd_0 rfl) rfl rfl (W := 0) (Nat.le_of_eq rfl) (by decide) (by decide) (by decide) (by decide) ?_
  intro v1 T1 L1 X1 Q1
  obtain ⟨rfl, N1q, hh1⟩ := Q1
  have N1 := Fr.app N0 N1q
  show Go _ _ _ _ _ _ _ T1 (mkF m 4 #[.val (.ref a), .val (.long t), .second, .val .null] [])
  refine Go.step (fun _ k => XS.aloadN X1.here hx rfl (hb hby d1_4) rfl rfl k) ?_
  show Go _ _ _ _ _ _ _ T1 (mkF m 5 #[.val (.ref a), .val (.long t), .second, .val .null] [(.ref a)])
  refine Go.step (fun _ k => XS.lloadN X1.here hx rfl (hb hby d1_5) rfl k) ?_
  show Go _ _ _ _ _ _ _ T1 (mkF m 6 #[.val (.ref a), .val (.long t), .second, .val .null] [(.long t), (.ref a)])
  obtain ⟨T2, h2, X2, e2, W2, st2⟩ := putF X1 hx hZ hown (host := "") (Or.inl (hw _ (List.mem_of_getElem? (i := 14) rfl))) Via.refl hh1 F_committed_a E_a (Or.inr ⟨(hw _ (List.mem_of_getElem? (i := 15) rfl)), rfl, hnm⟩) (hw _ (List.mem_of_getElem? (i := 1) rfl)) (ty := .long) (by decide) rfl rfl (g := (mkF m 6 #[.val (.ref a), .val (.long t), .second, .val .null] [(.long t), (.ref a)])) rfl rfl (hb hby d1_6)
  refine Go.step st2 ?_
  have N2 := Fr.snoc X2 N1 ge_a
  have F_committed_a_2 := F_committed_a.same W2
  have E_a_2 := E_a.wr W2
  have F_aborted_a_2 := F_aborted_a.other W2 (Or.inr (slot_ne (Or.inr (hw _ (List.mem_of_getElem? (i := 17) rfl))) (Or.inr (hw _ (List.mem_of_getElem? (i := 15) rfl))) (by decide) (t := (.object "java/util/Map")) (t' := .long) (by decide) (by decide)))
  have K2 : Keep h0 h2 [a] := (Keep.refl h0 [a]).wr W2 (Or.inl (List.mem_of_getElem? (i := 0) rfl))
  show Go _ _ _ _ _ _ _ T2 (mkF m 9 #[.val (.ref a), .val (.long t), .second, .val .null] [])
  refine Go.step (fun _ k => XS.aloadN X2.here hx rfl (hb hby d1_9) rfl rfl k) ?_
  show Go _ _ _ _ _ _ _ T2 (mkF m 10 #[.val (.ref a), .val (.long t), .second, .val .null] [(.ref a)])
  refine Go.step (fun _ k => XS.aloadN X2.here hx rfl (hb hby d1_10) rfl rfl k) ?_
  show Go _ _ _ _ _ _ _ T2 (mkF m 11 #[.val (.ref a), .val (.long t), .second, .val .null] [.null, (.ref a)])
  obtain ⟨T3, h3, X3, e3, W3, st3⟩ := putF X2 hx hZ hown (host := "") (Or.inl (hw _ (List.mem_of_getElem? (i := 16) rfl))) Via.refl e2 F_aborted_a_2 E_a_2 (Or.inr ⟨(hw _ (List.mem_of_getElem? (i := 17) rfl)), rfl, hnm⟩) (hw _ (List.mem_of_getElem? (i := 1) rfl)) (ty := (.object "java/util/Map")) (by decide) rfl rfl (g := (mkF m 11 #[.val (.ref a), .val (.long t), .second, .val .null] [.null, (.ref a)])) rfl rfl (hb hby d1_11)
  refine Go.step st3 ?_
  have N3 := Fr.snoc X3 N2 ge_a
  have F_aborted_a_3 := F_aborted_a_2.same W3
  have E_a_3 := E_a_2.wr W3
  have F_committed_a_3 := F_committed_a_2.other W3 (Or.inr (slot_ne (Or.inr (hw _ (List.mem_of_getElem? (i := 15) rfl))) (Or.inr (hw _ (List.mem_of_getElem? (i := 17) rfl))) (by decide) (t := .long) (t' := (.object "java/util/Map")) (by decide) (by decide)))
  have K3 : Keep h0 h3 [a] := K2.wr W3 (Or.inl (List.mem_of_getElem? (i := 0) rfl))
  show Go _ _ _ _ _ _ _ T3 (mkF m 14 #[.val (.ref a), .val (.long t), .second, .val .null] [])
  refine Go.retV X3 hx hlk hret (hb hby d1_14) (by decide) (by decide) ?_
  try rw [e3]
  exact ⟨rfl, N3, K3, E_a_3, F_committed_a_3, F_aborted_a_3⟩
theorem pn_1 : plainName "com/example/cyclebreak/cyclebreak/cli/bench/SharedStore$Tally" = true := by first | (simp [plainName, overriddenIn]; done) | decide +kernel
theorem ef_rm1 (m : MethodId) (a : Addr) (t : Int64) : entryFrame m #[(.ref a), (.long t), .null] 4 = mkF m 0 #[.val (.ref a), .val (.long t), .second, .val .null] [] := by first | (simp [entryFrame, mkF, argsToLocals, Value.category]; done) | rfl
theorem rm1 (l : Launch) (Z : State) (a0 : Array Value) (hw : ∀ d ∈ tables_1, d.before a0 Z = true) (a : Addr) (t : Int64) (h0 : Heap) (n0 : Nat) (Z0 : n0 ≤ h0.size) (E_a : Exa Z h0 a "com/example/cyclebreak/cyclebreak/cli/bench/SharedStore$Tally") (F_committed_a : Fld Z h0 a "com/example/cyclebreak/cyclebreak/cli/bench/SharedStore$Tally" "committed" "J" (.long (0 : Int64))) (F_aborted_a : Fld Z h0 a "com/example/cyclebreak/cyclebreak/cli/bench/SharedStore$Tally" "aborted" "Ljava/util/Map;" .null) (ge_a : n0 ≤ a)  :
    Con l Z (⟨"com/example/cyclebreak/cyclebreak/cli/bench/SharedStore$Tally", "<init>", "(JLjava/util/Map;)V"⟩ : MethodName) prog_24_method_1_code 4 none ({ frames := 2, cells := 0, slots := 0, locals := 24 } : Room) #[(.ref a), (.long t), .null] h0 (fun r h L => r = none ∧ Fr n0 L ∧ Keep h0 h [a] ∧ Exa Z h a "com/example/cyclebreak/cyclebreak/cli/bench/SharedStore$Tally" ∧ Fld Z h a "com/example/cyclebreak/cyclebreak/cli/bench/SharedStore$Tally" "committed" "J" (.long t) ∧ Fld Z h a "com/example/cyclebreak/cyclebreak/cli/bench/SharedStore$Tally" "aborted" "Ljava/util/Map;" .null) :=
  con_of (plainFor_of_name pn_1) (fun p_ e_ s_ m_ b_ meth_ c_ T_ X_ hx hZ hby hml hown hnm hret hlk e0 => Go.cast (ef_rm1 m_ a t) (w1 a t X_ hx hZ hw hby hml hown hnm hret hlk e0 Z0 (Fr.nil n0) E_a F_committed_a F_aborted_a ge_a))
theorem d4_0 : decode prog_24_method_3_code 0 = .ok (.aload_n 0, 1) := by decide +kernel
theorem d4_1 : decode prog_24_method_3_code 1 = .ok (.getfield 7, 3) := by decide +kernel
theorem d4_4 : decode prog_24_method_3_code 4 = .ok (.lconst 0, 1) := by decide +kernel
theorem d4_5 : decode prog_24_method_3_code 5 = .ok (.lcmp, 1) := by decide +kernel
theorem d4_6 : decode prog_24_method_3_code 6 = .ok (.ifCond .ne 17, 3) := by decide +kernel
theorem d4_9 : decode prog_24_method_3_code 9 = .ok (.lload_n 1, 1) := by decide +kernel
theorem d4_10 : decode prog_24_method_3_code 10 = .ok (.lconst 0, 1) := by decide +kernel
theorem d4_11 : decode prog_24_method_3_code 11 = .ok (.lcmp, 1) := by decide +kernel
theorem d4_12 : decode prog_24_method_3_code 12 = .ok (.ifCond .ne 7, 3) := by decide +kernel
theorem d4_15 : decode prog_24_method_3_code 15 = .ok (.dconst 0, 1) := by decide +kernel
theorem d4_16 : decode prog_24_method_3_code 16 = .ok (.goto 6, 3) := by decide +kernel
theorem d4_22 : decode prog_24_method_3_code 22 = .ok (.dreturn, 1) := by decide +kernel
theorem d4_19 : decode prog_24_method_3_code 19 = .ok (.ldc2_w 35, 3) := by decide +kernel
theorem d4_23 : decode prog_24_method_3_code 23 = .ok (.lload_n 1, 1) := by decide +kernel
theorem d4_24 : decode prog_24_method_3_code 24 = .ok (.l2d, 1) := by decide +kernel
theorem d4_25 : decode prog_24_method_3_code 25 = .ok (.aload_n 0, 1) := by decide +kernel
theorem d4_26 : decode prog_24_method_3_code 26 = .ok (.getfield 7, 3) := by decide +kernel
theorem d4_29 : decode prog_24_method_3_code 29 = .ok (.l2d, 1) := by decide +kernel
theorem d4_30 : decode prog_24_method_3_code 30 = .ok (.ddiv, 1) := by decide +kernel
theorem d4_31 : decode prog_24_method_3_code 31 = .ok (.dreturn, 1) := by decide +kernel
set_option maxRecDepth 65536 in
set_option maxHeartbeats 40000000 in
theorem w4 {p : Program} {l : Launch} {e : Env} {s : State} {m : MethodId} {args : Array Value} {below : List Frame} {meth : Method} {c_ : Code} {T0 : State} {locs : List Loc} {Z : State} {a0 : Array Value} {h0 : Heap} {n0 : Nat} (a : Addr) (n : Int64) (t : Int64)
    (X0 : Stand p l e ({ frames := 0, cells := 0, slots := 0, locals := 0 } : Room) s m args below meth c_ T0 locs 0 0) (hx : p.tables.exec = Jvm.exec) (hZ : Z.Warmed39 s.vm) (hw : ∀ d ∈ tables_1, d.before a0 Z = true) (hby : c_.code = prog_24_method_3_code) (hml : c_.maxLocals = 3) (hown : s.vm.findClass "com/example/cyclebreak/cyclebreak/cli/bench/SharedStore$Tally" = some m.cls) (hnm : meth.name = "perCommit") (hret : meth.sig.returnType = some .double) (hlk : meth.locks = false) (e0 : T0.heap = h0) (Z0 : n0 ≤ h0.size) (N0 : Fr n0 locs) (F_committed_a : Fld Z h0 a "com/example/cyclebreak/cyclebreak/cli/bench/SharedStore$Tally" "committed" "J" (.long t)) :
    Go p e below s ({ frames := 0, cells := 0, slots := 0, locals := 0 } : Room).cells ({ frames := 0, cells := 0, slots := 0, locals := 0 } : Room).slots (fun r h L => r = some (.double (perW t n)) ∧ Fr n0 L ∧ h = h0) T0 (mkF m 0 #[.val (.ref a), .val (.long n), .second] []) := by
  show Go _ _ _ _ _ _ _ T0 (mkF m 0 #[.val (.ref a), .val (.long n), .second] [])
  refine Go.step (fun _ k => XS.aloadN X0.here hx rfl (hb hby d4_0) rfl rfl k) ?_
  show Go _ _ _ _ _ _ _ T0 (mkF m 1 #[.val (.ref a), .val (.long n), .second] [(.ref a)])
  obtain ⟨T1, X1, e1, st1⟩ := getF X0 hx hZ hown (host := "") (Or.inl (hw _ (List.mem_of_getElem? (i := 14) rfl))) Via.refl e0 F_committed_a (g := (mkF m 1 #[.val (.ref a), .val (.long n), .second] [(.ref a)])) rfl rfl (hb hby d4_1)
  refine Go.step st1 ?_
  show Go _ _ _ _ _ _ _ T1 (mkF m 4 #[.val (.ref a), .val (.long n), .second] [(.long t)])
  refine Go.step (fun _ k => XS.lconst X1.here hx rfl (hb hby d4_4) k) ?_
  show Go _ _ _ _ _ _ _ T1 (mkF m 5 #[.val (.ref a), .val (.long n), .second] [(.long (0 : Int64)), (.long t)])
  refine Go.step (fun _ k => XS.lcmp X1.here hx rfl (hb hby d4_5) rfl k) ?_
  show Go _ _ _ _ _ _ _ T1 (mkF m 6 #[.val (.ref a), .val (.long n), .second] [(.int (lcmpW t (0 : Int64)))])
  by_cases hc6_2 : t = (0 : Int64)
  · refine Go.step (fun _ k => XS.ifNo X1.here hx rfl (hb hby d4_6) rfl ((if0 _ _).trans (teq ((lw_eq t (0 : Int64)).mpr hc6_2)).2) k) ?_
    show Go _ _ _ _ _ _ _ T1 (mkF m 9 #[.val (.ref a), .val (.long n), .second] [])
    refine Go.step (fun _ k => XS.lloadN X1.here hx rfl (hb hby d4_9) rfl k) ?_
    show Go _ _ _ _ _ _ _ T1 (mkF m 10 #[.val (.ref a), .val (.long n), .second] [(.long n)])
    refine Go.step (fun _ k => XS.lconst X1.here hx rfl (hb hby d4_10) k) ?_
    show Go _ _ _ _ _ _ _ T1 (mkF m 11 #[.val (.ref a), .val (.long n), .second] [(.long (0 : Int64)), (.long n)])
    refine Go.step (fun _ k => XS.lcmp X1.here hx rfl (hb hby d4_11) rfl k) ?_
    show Go _ _ _ _ _ _ _ T1 (mkF m 12 #[.val (.ref a), .val (.long n), .second] [(.int (lcmpW n (0 : Int64)))])
    by_cases hc12_3 : n = (0 : Int64)
    · refine Go.step (fun _ k => XS.ifNo X1.here hx rfl (hb hby d4_12) rfl ((if0 _ _).trans (teq ((lw_eq n (0 : Int64)).mpr hc12_3)).2) k) ?_
      show Go _ _ _ _ _ _ _ T1 (mkF m 15 #[.val (.ref a), .val (.long n), .second] [])
      refine Go.step (fun _ k => XS.dconst0 X1.here hx rfl (hb hby d4_15) rfl k) ?_
      show Go _ _ _ _ _ _ _ T1 (mkF m 16 #[.val (.ref a), .val (.long n), .second] [(.double (0 : UInt64))])
      refine Go.step (fun _ k => XS.goto X1.here hx rfl (pc0 := 16) (pc' := 22) rfl (hb hby d4_16) (by decide) (by decide) k) ?_
      show Go _ _ _ _ _ _ _ T1 (mkF m 22 #[.val (.ref a), .val (.long n), .second] [(.double (0 : UInt64))])
      refine Go.retD X1 hx hlk hret (hb hby d4_22) (by decide) (by decide) ?_
      try rw [e1]
      exact ⟨by simp only [perW]; rw [if_pos hc6_2]; rw [if_pos hc12_3], N0, rfl⟩
    · refine Go.step (fun _ k => XS.ifYes X1.here hx rfl (pc0 := 12) (pc' := 19) rfl (hb hby d4_12) rfl ((if0 _ _).trans (feq (fun q => hc12_3 ((lw_eq n (0 : Int64)).mp q))).2) (by decide) (by decide) k) ?_
      show Go _ _ _ _ _ _ _ T1 (mkF m 19 #[.val (.ref a), .val (.long n), .second] [])
      refine Go.step (X1.ldc2DoubleC hx hown (mvT hZ (hw _ (List.mem_of_getElem? (i := 24) rfl))) (g := (mkF m 19 #[.val (.ref a), .val (.long n), .second] [])) rfl (hb hby d4_19)) ?_
      show Go _ _ _ _ _ _ _ T1 (mkF m 22 #[.val (.ref a), .val (.long n), .second] [(.double (9218868437227405312 : UInt64))])
      refine Go.retD X1 hx hlk hret (hb hby d4_22) (by decide) (by decide) ?_
      try rw [e1]
      exact ⟨by simp only [perW]; rw [if_pos hc6_2]; rw [if_neg hc12_3], N0, rfl⟩
  · refine Go.step (fun _ k => XS.ifYes X1.here hx rfl (pc0 := 6) (pc' := 23) rfl (hb hby d4_6) rfl ((if0 _ _).trans (feq (fun q => hc6_2 ((lw_eq t (0 : Int64)).mp q))).2) (by decide) (by decide) k) ?_
    show Go _ _ _ _ _ _ _ T1 (mkF m 23 #[.val (.ref a), .val (.long n), .second] [])
    refine Go.step (fun _ k => XS.lloadN X1.here hx rfl (hb hby d4_23) rfl k) ?_
    show Go _ _ _ _ _ _ _ T1 (mkF m 24 #[.val (.ref a), .val (.long n), .second] [(.long n)])
    refine Go.step (fun _ k => XS.l2dS X1.here hx rfl (hb hby d4_24) rfl rfl k) ?_
    show Go _ _ _ _ _ _ _ T1 (mkF m 25 #[.val (.ref a), .val (.long n), .second] [(.double (FP.l2d n))])
    refine Go.step (fun _ k => XS.aloadN X1.here hx rfl (hb hby d4_25) rfl rfl k) ?_
    show Go _ _ _ _ _ _ _ T1 (mkF m 26 #[.val (.ref a), .val (.long n), .second] [(.ref a), (.double (FP.l2d n))])
    obtain ⟨T4, X4, e4, st4⟩ := getF X1 hx hZ hown (host := "") (Or.inl (hw _ (List.mem_of_getElem? (i := 14) rfl))) Via.refl e1 F_committed_a (g := (mkF m 26 #[.val (.ref a), .val (.long n), .second] [(.ref a), (.double (FP.l2d n))])) rfl rfl (hb hby d4_26)
    refine Go.step st4 ?_
    show Go _ _ _ _ _ _ _ T4 (mkF m 29 #[.val (.ref a), .val (.long n), .second] [(.long t), (.double (FP.l2d n))])
    refine Go.step (fun _ k => XS.l2dS X4.here hx rfl (hb hby d4_29) rfl rfl k) ?_
    show Go _ _ _ _ _ _ _ T4 (mkF m 30 #[.val (.ref a), .val (.long n), .second] [(.double (FP.l2d t)), (.double (FP.l2d n))])
    refine Go.step (fun _ k => XS.ddivS X4.here hx rfl (hb hby d4_30) rfl (Jvm.Free.Fl.ddiv_out (Jvm.Free.Fl.l2d_fin _).noNaN (Jvm.Free.Fl.l2d_fin _) (own_nz hc6_2)) rfl k) ?_
    show Go _ _ _ _ _ _ _ T4 (mkF m 31 #[.val (.ref a), .val (.long n), .second] [(.double (FP.ddiv (FP.l2d n) (FP.l2d t)))])
    refine Go.retD X4 hx hlk hret (hb hby d4_31) (by decide) (by decide) ?_
    try rw [e4]
    exact ⟨by simp only [perW]; rw [if_neg hc6_2], N0, rfl⟩
theorem ef_rm4 (m : MethodId) (a : Addr) (n : Int64) : entryFrame m #[(.ref a), (.long n)] 3 = mkF m 0 #[.val (.ref a), .val (.long n), .second] [] := by first | (simp [entryFrame, mkF, argsToLocals, Value.category]; done) | rfl
theorem rm4 (l : Launch) (Z : State) (a0 : Array Value) (hw : ∀ d ∈ tables_1, d.before a0 Z = true) (a : Addr) (n : Int64) (t : Int64) (h0 : Heap) (n0 : Nat) (Z0 : n0 ≤ h0.size) (F_committed_a : Fld Z h0 a "com/example/cyclebreak/cyclebreak/cli/bench/SharedStore$Tally" "committed" "J" (.long t)) :
    Con l Z (⟨"com/example/cyclebreak/cyclebreak/cli/bench/SharedStore$Tally", "perCommit", "(J)D"⟩ : MethodName) prog_24_method_3_code 3 (some .double) ({ frames := 0, cells := 0, slots := 0, locals := 0 } : Room) #[(.ref a), (.long n)] h0 (fun r h L => r = some (.double (perW t n)) ∧ Fr n0 L ∧ h = h0) :=
  con_of (plainFor_of_name pn_1) (fun p_ e_ s_ m_ b_ meth_ c_ T_ X_ hx hZ hby hml hown hnm hret hlk e0 => Go.cast (ef_rm4 m_ a n) (w4 a n t X_ hx hZ hw hby hml hown hnm hret hlk e0 Z0 (Fr.nil n0) F_committed_a))
theorem pd_1 : parseMethodDescriptor "(JLjava/util/Map;)V" = some ⟨[.long, (.object "java/util/Map")], none⟩ := by decide +kernel
theorem pd_2 : parseMethodDescriptor "(J)D" = some ⟨[.long], some .double⟩ := by decide +kernel
set_option maxRecDepth 65536 in
set_option maxHeartbeats 40000000 in
theorem w0b {p : Program} {l : Launch} {e : Env} {s : State} {m : MethodId} {args : Array Value} {below : List Frame} {meth : Method} {c_ : Code} {T0 : State} {locs : List Loc} {Z : State} {a0 : Array Value} {h0 : Heap} {n0 : Nat} (p0 : Int64) (p1 : Int64) (p2 : Int32) (cm n : Int64)
    (X0 : Stand p l e room_1 s m args below meth c_ T0 locs 0 0) (hx : p.tables.exec = Jvm.exec) (hZ : Z.Warmed39 s.vm) (hw : ∀ d ∈ tables_1, d.before a0 Z = true) (hby : c_.code = code) (hml : c_.maxLocals = maxLocals) (hown : s.vm.findClass "com/example/cyclebreak/cyclebreak/cli/bench/TallyPerCommitPinLaw" = some m.cls) (hnm : meth.name = "law") (hret : meth.sig.returnType = ret) (hlk : meth.locks = false) (e0 : T0.heap = h0) (Z0 : n0 ≤ h0.size) (N0 : Fr n0 locs)  :
    Go p e below s room_1.cells room_1.slots (fun r h L => r = some (.int 1) ∧ Fr n0 L) T0 (mkF m 50 #[.val (.long p0), .second, .val (.long p1), .second, .val (.int p2), .val (.long cm), .second, .val (.long n), .second, .unset, .unset, .unset, .unset, .unset] []) := by
  have hret : meth.sig.returnType = some .boolean := hret
  show Go _ _ _ _ _ _ _ T0 (mkF m 50 #[.val (.long p0), .second, .val (.long p1), .second, .val (.int p2), .val (.long cm), .second, .val (.long n), .second, .unset, .unset, .unset, .unset, .unset] [])
  obtain ⟨T1, h1, X1, e1, E1, A1, D1, -, st1⟩ := newO X0 hx hZ hown (hw _ (List.mem_of_getElem? (i := 0) rfl)) (hw _ (List.mem_of_getElem? (i := 1) rfl)) (hw _ (List.mem_of_getElem? (i := 2) rfl)) e0 (g := (mkF m 50 #[.val (.long p0), .second, .val (.long p1), .second, .val (.int p2), .val (.long cm), .second, .val (.long n), .second, .unset, .unset, .unset, .unset, .unset] [])) rfl (hb hby at_50) (by decide) (by decide)
  obtain ⟨b1, g1⟩ : ∃ z, z = h0.size := ⟨_, rfl⟩
  rw [← g1] at A1 D1 st1
  refine Go.step st1 ?_
  have K1 : Keep h0 h1 [] := (Keep.refl h0 []).ext E1
  have sz_b1 : h0.size ≤ b1 := Nat.le_trans ((Keep.refl h0 []) : Keep h0 h0 []).1 (Nat.le_of_eq g1.symm)
  have ge_b1 : n0 ≤ b1 := Nat.le_trans Z0 sz_b1
  have E_b1 := A1
  have F_committed_b1 : Fld Z h1 b1 "com/example/cyclebreak/cyclebreak/cli/bench/SharedStore$Tally" "committed" "J" (.long (0 : Int64)) := D1 (Or.inr (hw _ (List.mem_of_getElem? (i := 15) rfl))) (ty := .long) (by decide)
  have F_aborted_b1 : Fld Z h1 b1 "com/example/cyclebreak/cyclebreak/cli/bench/SharedStore$Tally" "aborted" "Ljava/util/Map;" .null := D1 (Or.inr (hw _ (List.mem_of_getElem? (i := 17) rfl))) (ty := (.object "java/util/Map")) (by decide)
  show Go _ _ _ _ _ _ _ T1 (mkF m 53 #[.val (.long p0), .second, .val (.long p1), .second, .val (.int p2), .val (.long cm), .second, .val (.long n), .second, .unset, .unset, .unset, .unset, .unset] [(.ref b1)])
  refine Go.step (fun _ k => XS.dup X1.here hx rfl (hb hby at_53) rfl rfl k) ?_
  show Go _ _ _ _ _ _ _ T1 (mkF m 54 #[.val (.long p0), .second, .val (.long p1), .second, .val (.int p2), .val (.long cm), .second, .val (.long n), .second, .unset, .unset, .unset, .unset, .unset] [(.ref b1), (.ref b1)])
  refine Go.step (fun _ k => XS.lload X1.here hx rfl (hb hby at_54) rfl k) ?_
  show Go _ _ _ _ _ _ _ T1 (mkF m 56 #[.val (.long p0), .second, .val (.long p1), .second, .val (.int p2), .val (.long cm), .second, .val (.long n), .second, .unset, .unset, .unset, .unset, .unset] [(.long cm), (.ref b1), (.ref b1)])
  refine Go.step (fun _ k => XS.aconstNull X1.here hx rfl (hb hby at_56) k) ?_
  show Go _ _ _ _ _ _ _ T1 (mkF m 57 #[.val (.long p0), .second, .val (.long p1), .second, .val (.int p2), .val (.long cm), .second, .val (.long n), .second, .unset, .unset, .unset, .unset, .unset] [.null, (.long cm), (.ref b1), (.ref b1)])
  refine Go.callI X1 hx hZ (by rw [hml]; rfl) (y := (⟨"com/example/cyclebreak/cyclebreak/cli/bench/SharedStore$Tally", "<init>", "(JLjava/util/Map;)V"⟩ : MethodName)) (a := b1) (argsL := [(.long cm), .null]) (rest := [(.ref b1)]) rfl hown (hw _ (List.mem_of_getElem? (i := 3) rfl)) (hw _ (List.mem_of_getElem? (i := 4) rfl)) (hw _ (List.mem_of_getElem? (i := 2) rfl)) (hw _ (List.mem_of_getElem? (i := 5) rfl)) (by decide) (rm1 l Z a0 hw b1 cm h1 n0 (Nat.le_trans Z0 (K1 : Keep h0 h1 []).1) E_b1 F_committed_b1 F_aborted_b1 ge_b1 ) e1 (hb hby at_57) (lenOf pd_1 rfl) rfl rfl (W := 1) (Nat.le_of_eq rfl) (by decide) (by decide) (by decide) (by decide) ?_
  intro v2 T2 L2 X2 Q2
  obtain ⟨rfl, N2q, Kc2, Ec2, F2_committed_b1, F2_aborted_b1⟩ := Q2
  have N2 := Fr.app N0 N2q
  have E_b1_2 := E_b1.keep Kc2
  have KK2 : Keep h0 T2.heap [] := (K1 : Keep h0 h1 []).trans Kc2 (allS (Or.inr sz_b1) all0)
  show Go _ _ _ _ _ _ _ T2 (mkF m 60 #[.val (.long p0), .second, .val (.long p1), .second, .val (.int p2), .val (.long cm), .second, .val (.long n), .second, .unset, .unset, .unset, .unset, .unset] [(.ref b1)])
  refine Go.step (fun _ k => XS.astore X2.here hx rfl (hb hby at_60) rfl rfl (l' := #[.val (.long p0), .second, .val (.long p1), .second, .val (.int p2), .val (.long cm), .second, .val (.long n), .second, .val (.ref b1), .unset, .unset, .unset, .unset]) rfl k) ?_
  show Go _ _ _ _ _ _ _ T2 (mkF m 62 #[.val (.long p0), .second, .val (.long p1), .second, .val (.int p2), .val (.long cm), .second, .val (.long n), .second, .val (.ref b1), .unset, .unset, .unset, .unset] [])
  refine Go.step (fun _ k => XS.aload X2.here hx rfl (hb hby at_62) rfl rfl k) ?_
  show Go _ _ _ _ _ _ _ T2 (mkF m 64 #[.val (.long p0), .second, .val (.long p1), .second, .val (.int p2), .val (.long cm), .second, .val (.long n), .second, .val (.ref b1), .unset, .unset, .unset, .unset] [(.ref b1)])
  refine Go.step (fun _ k => XS.lload X2.here hx rfl (hb hby at_64) rfl k) ?_
  show Go _ _ _ _ _ _ _ T2 (mkF m 66 #[.val (.long p0), .second, .val (.long p1), .second, .val (.int p2), .val (.long cm), .second, .val (.long n), .second, .val (.ref b1), .unset, .unset, .unset, .unset] [(.long n), (.ref b1)])
  refine Go.callV X2 hx hZ (by rw [hml]; rfl) (y := (⟨"com/example/cyclebreak/cyclebreak/cli/bench/SharedStore$Tally", "perCommit", "(J)D"⟩ : MethodName)) (z := (⟨"com/example/cyclebreak/cyclebreak/cli/bench/SharedStore$Tally", "perCommit", "(J)D"⟩ : MethodName)) (a := b1) (argsL := [(.long n)]) (rest := []) hown (hw _ (List.mem_of_getElem? (i := 18) rfl)) (hw _ (List.mem_of_getElem? (i := 19) rfl)) (notFace_of_selects (args := #[]) (mvT hZ (hw _ (List.mem_of_getElem? (i := 21) rfl)))) (hw _ (List.mem_of_getElem? (i := 21) rfl)) (hw _ (List.mem_of_getElem? (i := 20) rfl)) (hw _ (List.mem_of_getElem? (i := 2) rfl)) (hw _ (List.mem_of_getElem? (i := 22) rfl)) (by decide) (rm4 l Z a0 hw b1 n cm T2.heap n0 (Nat.le_trans Z0 (KK2 : Keep h0 T2.heap []).1) F2_committed_b1) rfl E_b1_2 (hb hby at_66) (lenOf pd_2 rfl) rfl rfl (W := 0) (Nat.le_of_eq rfl) (by decide) (by decide) (by decide) (by decide) ?_
  intro v3 T3 L3 X3 Q3
  obtain ⟨rfl, N3q, hh3⟩ := Q3
  have N3 := Fr.app N2 N3q
  show Go _ _ _ _ _ _ _ T3 (mkF m 69 #[.val (.long p0), .second, .val (.long p1), .second, .val (.int p2), .val (.long cm), .second, .val (.long n), .second, .val (.ref b1), .unset, .unset, .unset, .unset] [(.double (perW cm n))])
  refine Go.step (fun _ k => XS.dstore X3.here hx rfl (hb hby at_69) rfl (l' := #[.val (.long p0), .second, .val (.long p1), .second, .val (.int p2), .val (.long cm), .second, .val (.long n), .second, .val (.ref b1), .val (.double (perW cm n)), .second, .unset, .unset]) rfl k) ?_
  obtain ⟨r, h_r⟩ : ∃ z, z = (perW cm n) := ⟨_, rfl⟩
  rw [← h_r]
  show Go _ _ _ _ _ _ _ T3 (mkF m 71 #[.val (.long p0), .second, .val (.long p1), .second, .val (.int p2), .val (.long cm), .second, .val (.long n), .second, .val (.ref b1), .val (.double r), .second, .unset, .unset] [])
  refine Go.step (fun _ k => XS.lload X3.here hx rfl (hb hby at_71) rfl k) ?_
  show Go _ _ _ _ _ _ _ T3 (mkF m 73 #[.val (.long p0), .second, .val (.long p1), .second, .val (.int p2), .val (.long cm), .second, .val (.long n), .second, .val (.ref b1), .val (.double r), .second, .unset, .unset] [(.long cm)])
  refine Go.step (fun _ k => XS.lconst X3.here hx rfl (hb hby at_73) k) ?_
  show Go _ _ _ _ _ _ _ T3 (mkF m 74 #[.val (.long p0), .second, .val (.long p1), .second, .val (.int p2), .val (.long cm), .second, .val (.long n), .second, .val (.ref b1), .val (.double r), .second, .unset, .unset] [(.long (0 : Int64)), (.long cm)])
  refine Go.step (fun _ k => XS.lcmp X3.here hx rfl (hb hby at_74) rfl k) ?_
  show Go _ _ _ _ _ _ _ T3 (mkF m 75 #[.val (.long p0), .second, .val (.long p1), .second, .val (.int p2), .val (.long cm), .second, .val (.long n), .second, .val (.ref b1), .val (.double r), .second, .unset, .unset] [(.int (lcmpW cm (0 : Int64)))])
  by_cases hc75_4 : cm = (0 : Int64)
  · refine Go.step (fun _ k => XS.ifNo X3.here hx rfl (hb hby at_75) rfl ((if0 _ _).trans (teq ((lw_eq cm (0 : Int64)).mpr hc75_4)).2) k) ?_
    show Go _ _ _ _ _ _ _ T3 (mkF m 78 #[.val (.long p0), .second, .val (.long p1), .second, .val (.int p2), .val (.long cm), .second, .val (.long n), .second, .val (.ref b1), .val (.double r), .second, .unset, .unset] [])
    refine Go.step (fun _ k => XS.lload X3.here hx rfl (hb hby at_78) rfl k) ?_
    show Go _ _ _ _ _ _ _ T3 (mkF m 80 #[.val (.long p0), .second, .val (.long p1), .second, .val (.int p2), .val (.long cm), .second, .val (.long n), .second, .val (.ref b1), .val (.double r), .second, .unset, .unset] [(.long n)])
    refine Go.step (fun _ k => XS.lconst X3.here hx rfl (hb hby at_80) k) ?_
    show Go _ _ _ _ _ _ _ T3 (mkF m 81 #[.val (.long p0), .second, .val (.long p1), .second, .val (.int p2), .val (.long cm), .second, .val (.long n), .second, .val (.ref b1), .val (.double r), .second, .unset, .unset] [(.long (0 : Int64)), (.long n)])
    refine Go.step (fun _ k => XS.lcmp X3.here hx rfl (hb hby at_81) rfl k) ?_
    show Go _ _ _ _ _ _ _ T3 (mkF m 82 #[.val (.long p0), .second, .val (.long p1), .second, .val (.int p2), .val (.long cm), .second, .val (.long n), .second, .val (.ref b1), .val (.double r), .second, .unset, .unset] [(.int (lcmpW n (0 : Int64)))])
    by_cases hc82_5 : n = (0 : Int64)
    · refine Go.step (fun _ k => XS.ifNo X3.here hx rfl (hb hby at_82) rfl ((if0 _ _).trans (teq ((lw_eq n (0 : Int64)).mpr hc82_5)).2) k) ?_
      show Go _ _ _ _ _ _ _ T3 (mkF m 85 #[.val (.long p0), .second, .val (.long p1), .second, .val (.int p2), .val (.long cm), .second, .val (.long n), .second, .val (.ref b1), .val (.double r), .second, .unset, .unset] [])
      refine Go.step (fun _ k => XS.dload X3.here hx rfl (hb hby at_85) rfl k) ?_
      show Go _ _ _ _ _ _ _ T3 (mkF m 87 #[.val (.long p0), .second, .val (.long p1), .second, .val (.int p2), .val (.long cm), .second, .val (.long n), .second, .val (.ref b1), .val (.double r), .second, .unset, .unset] [(.double r)])
      refine Go.step (fun _ k => XS.dconst0 X3.here hx rfl (hb hby at_87) rfl k) ?_
      show Go _ _ _ _ _ _ _ T3 (mkF m 88 #[.val (.long p0), .second, .val (.long p1), .second, .val (.int p2), .val (.long cm), .second, .val (.long n), .second, .val (.ref b1), .val (.double r), .second, .unset, .unset] [(.double (0 : UInt64)), (.double r)])
      refine Go.step (fun _ k => XS.dcmpS X3.here hx rfl (hb hby at_88) rfl rfl k) ?_
      show Go _ _ _ _ _ _ _ T3 (mkF m 89 #[.val (.long p0), .second, .val (.long p1), .second, .val (.int p2), .val (.long cm), .second, .val (.long n), .second, .val (.ref b1), .val (.double r), .second, .unset, .unset] [(.int (cmpValue (FP.dcmp r (0 : UInt64)) .l))])
      refine Go.step (fun _ k => XS.ifNo X3.here hx rfl (hb hby at_89) rfl (eq_y .l (by rw [own_r00 h_r hc75_4 hc82_5]; decide +kernel)).1 k) ?_
      show Go _ _ _ _ _ _ _ T3 (mkF m 92 #[.val (.long p0), .second, .val (.long p1), .second, .val (.int p2), .val (.long cm), .second, .val (.long n), .second, .val (.ref b1), .val (.double r), .second, .unset, .unset] [])
      refine Go.step (fun _ k => XS.dconst1 X3.here hx rfl (hb hby at_92) rfl k) ?_
      show Go _ _ _ _ _ _ _ T3 (mkF m 93 #[.val (.long p0), .second, .val (.long p1), .second, .val (.int p2), .val (.long cm), .second, .val (.long n), .second, .val (.ref b1), .val (.double r), .second, .unset, .unset] [(.double (4607182418800017408 : UInt64))])
      refine Go.step (fun _ k => XS.dload X3.here hx rfl (hb hby at_93) rfl k) ?_
      show Go _ _ _ _ _ _ _ T3 (mkF m 95 #[.val (.long p0), .second, .val (.long p1), .second, .val (.int p2), .val (.long cm), .second, .val (.long n), .second, .val (.ref b1), .val (.double r), .second, .unset, .unset] [(.double r), (.double (4607182418800017408 : UInt64))])
      refine Go.step (fun _ k => XS.ddivS X3.here hx rfl (hb hby at_95) rfl (by rw [own_r00 h_r hc75_4 hc82_5]; first | (unfold Jvm.Free.Fl.NoNaN64; decide +kernel) | decide +kernel) rfl k) ?_
      show Go _ _ _ _ _ _ _ T3 (mkF m 96 #[.val (.long p0), .second, .val (.long p1), .second, .val (.int p2), .val (.long cm), .second, .val (.long n), .second, .val (.ref b1), .val (.double r), .second, .unset, .unset] [(.double (FP.ddiv (4607182418800017408 : UInt64) r))])
      refine Go.step (fun _ k => XS.dconst0 X3.here hx rfl (hb hby at_96) rfl k) ?_
      show Go _ _ _ _ _ _ _ T3 (mkF m 97 #[.val (.long p0), .second, .val (.long p1), .second, .val (.int p2), .val (.long cm), .second, .val (.long n), .second, .val (.ref b1), .val (.double r), .second, .unset, .unset] [(.double (0 : UInt64)), (.double (FP.ddiv (4607182418800017408 : UInt64) r))])
      refine Go.step (fun _ k => XS.dcmpS X3.here hx rfl (hb hby at_97) rfl rfl k) ?_
      show Go _ _ _ _ _ _ _ T3 (mkF m 98 #[.val (.long p0), .second, .val (.long p1), .second, .val (.int p2), .val (.long cm), .second, .val (.long n), .second, .val (.ref b1), .val (.double r), .second, .unset, .unset] [(.int (cmpValue (FP.dcmp (FP.ddiv (4607182418800017408 : UInt64) r) (0 : UInt64)) .l))])
      refine Go.step (fun _ k => XS.ifNo X3.here hx rfl (hb hby at_98) rfl (gt_y (by rw [own_r00 h_r hc75_4 hc82_5]; decide +kernel)) k) ?_
      show Go _ _ _ _ _ _ _ T3 (mkF m 101 #[.val (.long p0), .second, .val (.long p1), .second, .val (.int p2), .val (.long cm), .second, .val (.long n), .second, .val (.ref b1), .val (.double r), .second, .unset, .unset] [])
      refine Go.step (fun _ k => XS.iconst X3.here hx rfl (hb hby at_101) k) ?_
      show Go _ _ _ _ _ _ _ T3 (mkF m 102 #[.val (.long p0), .second, .val (.long p1), .second, .val (.int p2), .val (.long cm), .second, .val (.long n), .second, .val (.ref b1), .val (.double r), .second, .unset, .unset] [(.int (1 : Int32))])
      refine Go.step (fun _ k => XS.goto X3.here hx rfl (pc0 := 102) (pc' := 106) rfl (hb hby at_102) (by decide) (by decide) k) ?_
      show Go _ _ _ _ _ _ _ T3 (mkF m 106 #[.val (.long p0), .second, .val (.long p1), .second, .val (.int p2), .val (.long cm), .second, .val (.long n), .second, .val (.ref b1), .val (.double r), .second, .unset, .unset] [(.int (1 : Int32))])
      refine Go.retZ X3 hx hlk hret (by decide) (hb hby at_106) (by decide) (by decide) ?_
      try rw [hh3]
      exact ⟨rfl, N3⟩
    · refine Go.step (fun _ k => XS.ifYes X3.here hx rfl (pc0 := 82) (pc' := 107) rfl (hb hby at_82) rfl ((if0 _ _).trans (feq (fun q => hc82_5 ((lw_eq n (0 : Int64)).mp q))).2) (by decide) (by decide) k) ?_
      show Go _ _ _ _ _ _ _ T3 (mkF m 107 #[.val (.long p0), .second, .val (.long p1), .second, .val (.int p2), .val (.long cm), .second, .val (.long n), .second, .val (.ref b1), .val (.double r), .second, .unset, .unset] [])
      refine Go.step (fun _ k => XS.dload X3.here hx rfl (hb hby at_107) rfl k) ?_
      show Go _ _ _ _ _ _ _ T3 (mkF m 109 #[.val (.long p0), .second, .val (.long p1), .second, .val (.int p2), .val (.long cm), .second, .val (.long n), .second, .val (.ref b1), .val (.double r), .second, .unset, .unset] [(.double r)])
      refine Go.step (fun _ k => XS.dconst0 X3.here hx rfl (hb hby at_109) rfl k) ?_
      show Go _ _ _ _ _ _ _ T3 (mkF m 110 #[.val (.long p0), .second, .val (.long p1), .second, .val (.int p2), .val (.long cm), .second, .val (.long n), .second, .val (.ref b1), .val (.double r), .second, .unset, .unset] [(.double (0 : UInt64)), (.double r)])
      refine Go.step (fun _ k => XS.dcmpS X3.here hx rfl (hb hby at_110) rfl rfl k) ?_
      show Go _ _ _ _ _ _ _ T3 (mkF m 111 #[.val (.long p0), .second, .val (.long p1), .second, .val (.int p2), .val (.long cm), .second, .val (.long n), .second, .val (.ref b1), .val (.double r), .second, .unset, .unset] [(.int (cmpValue (FP.dcmp r (0 : UInt64)) .l))])
      refine Go.step (fun _ k => XS.ifNo X3.here hx rfl (hb hby at_111) rfl (gt_y (by rw [own_r01 h_r hc75_4 hc82_5]; decide +kernel)) k) ?_
      show Go _ _ _ _ _ _ _ T3 (mkF m 114 #[.val (.long p0), .second, .val (.long p1), .second, .val (.int p2), .val (.long cm), .second, .val (.long n), .second, .val (.ref b1), .val (.double r), .second, .unset, .unset] [])
      refine Go.step (fun _ k => XS.dload X3.here hx rfl (hb hby at_114) rfl k) ?_
      show Go _ _ _ _ _ _ _ T3 (mkF m 116 #[.val (.long p0), .second, .val (.long p1), .second, .val (.int p2), .val (.long cm), .second, .val (.long n), .second, .val (.ref b1), .val (.double r), .second, .unset, .unset] [(.double r)])
      refine Go.step (X3.ldc2DoubleC hx hown (mvT hZ (hw _ (List.mem_of_getElem? (i := 25) rfl))) (g := (mkF m 116 #[.val (.long p0), .second, .val (.long p1), .second, .val (.int p2), .val (.long cm), .second, .val (.long n), .second, .val (.ref b1), .val (.double r), .second, .unset, .unset] [(.double r)])) rfl (hb hby at_116)) ?_
      show Go _ _ _ _ _ _ _ T3 (mkF m 119 #[.val (.long p0), .second, .val (.long p1), .second, .val (.int p2), .val (.long cm), .second, .val (.long n), .second, .val (.ref b1), .val (.double r), .second, .unset, .unset] [(.double (9218868437227405312 : UInt64)), (.double r)])
      refine Go.step (fun _ k => XS.dcmpS X3.here hx rfl (hb hby at_119) rfl rfl k) ?_
      show Go _ _ _ _ _ _ _ T3 (mkF m 120 #[.val (.long p0), .second, .val (.long p1), .second, .val (.int p2), .val (.long cm), .second, .val (.long n), .second, .val (.ref b1), .val (.double r), .second, .unset, .unset] [(.int (cmpValue (FP.dcmp r (9218868437227405312 : UInt64)) .l))])
      refine Go.step (fun _ k => XS.ifNo X3.here hx rfl (hb hby at_120) rfl (eq_y .l (by rw [own_r01 h_r hc75_4 hc82_5]; decide +kernel)).1 k) ?_
      show Go _ _ _ _ _ _ _ T3 (mkF m 123 #[.val (.long p0), .second, .val (.long p1), .second, .val (.int p2), .val (.long cm), .second, .val (.long n), .second, .val (.ref b1), .val (.double r), .second, .unset, .unset] [])
      refine Go.step (fun _ k => XS.iconst X3.here hx rfl (hb hby at_123) k) ?_
      show Go _ _ _ _ _ _ _ T3 (mkF m 124 #[.val (.long p0), .second, .val (.long p1), .second, .val (.int p2), .val (.long cm), .second, .val (.long n), .second, .val (.ref b1), .val (.double r), .second, .unset, .unset] [(.int (1 : Int32))])
      refine Go.step (fun _ k => XS.goto X3.here hx rfl (pc0 := 124) (pc' := 128) rfl (hb hby at_124) (by decide) (by decide) k) ?_
      show Go _ _ _ _ _ _ _ T3 (mkF m 128 #[.val (.long p0), .second, .val (.long p1), .second, .val (.int p2), .val (.long cm), .second, .val (.long n), .second, .val (.ref b1), .val (.double r), .second, .unset, .unset] [(.int (1 : Int32))])
      refine Go.retZ X3 hx hlk hret (by decide) (hb hby at_128) (by decide) (by decide) ?_
      try rw [hh3]
      exact ⟨rfl, N3⟩
  · refine Go.step (fun _ k => XS.ifYes X3.here hx rfl (pc0 := 75) (pc' := 129) rfl (hb hby at_75) rfl ((if0 _ _).trans (feq (fun q => hc75_4 ((lw_eq cm (0 : Int64)).mp q))).2) (by decide) (by decide) k) ?_
    show Go _ _ _ _ _ _ _ T3 (mkF m 129 #[.val (.long p0), .second, .val (.long p1), .second, .val (.int p2), .val (.long cm), .second, .val (.long n), .second, .val (.ref b1), .val (.double r), .second, .unset, .unset] [])
    refine Go.step (fun _ k => XS.dload X3.here hx rfl (hb hby at_129) rfl k) ?_
    show Go _ _ _ _ _ _ _ T3 (mkF m 131 #[.val (.long p0), .second, .val (.long p1), .second, .val (.int p2), .val (.long cm), .second, .val (.long n), .second, .val (.ref b1), .val (.double r), .second, .unset, .unset] [(.double r)])
    refine Go.step (fun _ k => XS.lload X3.here hx rfl (hb hby at_131) rfl k) ?_
    show Go _ _ _ _ _ _ _ T3 (mkF m 133 #[.val (.long p0), .second, .val (.long p1), .second, .val (.int p2), .val (.long cm), .second, .val (.long n), .second, .val (.ref b1), .val (.double r), .second, .unset, .unset] [(.long n), (.double r)])
    refine Go.step (fun _ k => XS.l2dS X3.here hx rfl (hb hby at_133) rfl rfl k) ?_
    show Go _ _ _ _ _ _ _ T3 (mkF m 134 #[.val (.long p0), .second, .val (.long p1), .second, .val (.int p2), .val (.long cm), .second, .val (.long n), .second, .val (.ref b1), .val (.double r), .second, .unset, .unset] [(.double (FP.l2d n)), (.double r)])
    refine Go.step (fun _ k => XS.lload X3.here hx rfl (hb hby at_134) rfl k) ?_
    show Go _ _ _ _ _ _ _ T3 (mkF m 136 #[.val (.long p0), .second, .val (.long p1), .second, .val (.int p2), .val (.long cm), .second, .val (.long n), .second, .val (.ref b1), .val (.double r), .second, .unset, .unset] [(.long cm), (.double (FP.l2d n)), (.double r)])
    refine Go.step (fun _ k => XS.l2dS X3.here hx rfl (hb hby at_136) rfl rfl k) ?_
    show Go _ _ _ _ _ _ _ T3 (mkF m 137 #[.val (.long p0), .second, .val (.long p1), .second, .val (.int p2), .val (.long cm), .second, .val (.long n), .second, .val (.ref b1), .val (.double r), .second, .unset, .unset] [(.double (FP.l2d cm)), (.double (FP.l2d n)), (.double r)])
    refine Go.step (fun _ k => XS.ddivS X3.here hx rfl (hb hby at_137) rfl (Jvm.Free.Fl.ddiv_out (Jvm.Free.Fl.l2d_fin _).noNaN (Jvm.Free.Fl.l2d_fin _) (own_nz hc75_4)) rfl k) ?_
    show Go _ _ _ _ _ _ _ T3 (mkF m 138 #[.val (.long p0), .second, .val (.long p1), .second, .val (.int p2), .val (.long cm), .second, .val (.long n), .second, .val (.ref b1), .val (.double r), .second, .unset, .unset] [(.double (FP.ddiv (FP.l2d n) (FP.l2d cm))), (.double r)])
    refine Go.step (fun _ k => XS.dcmpS X3.here hx rfl (hb hby at_138) rfl rfl k) ?_
    show Go _ _ _ _ _ _ _ T3 (mkF m 139 #[.val (.long p0), .second, .val (.long p1), .second, .val (.int p2), .val (.long cm), .second, .val (.long n), .second, .val (.ref b1), .val (.double r), .second, .unset, .unset] [(.int (cmpValue (FP.dcmp r (FP.ddiv (FP.l2d n) (FP.l2d cm))) .l))])
    refine Go.step (fun _ k => XS.ifYes X3.here hx rfl (pc0 := 139) (pc' := 144) rfl (hb hby at_139) rfl (eq_y .l (own_eqD (own_r1 h_r hc75_4) (own_rn h_r hc75_4))).2 (by decide) (by decide) k) ?_
    show Go _ _ _ _ _ _ _ T3 (mkF m 144 #[.val (.long p0), .second, .val (.long p1), .second, .val (.int p2), .val (.long cm), .second, .val (.long n), .second, .val (.ref b1), .val (.double r), .second, .unset, .unset] [])
    refine Go.step (X3.ldc2Long hx hown (mvT hZ (hw _ (List.mem_of_getElem? (i := 23) rfl))) (g := (mkF m 144 #[.val (.long p0), .second, .val (.long p1), .second, .val (.int p2), .val (.long cm), .second, .val (.long n), .second, .val (.ref b1), .val (.double r), .second, .unset, .unset] [])) rfl (hb hby at_144)) ?_
    show Go _ _ _ _ _ _ _ T3 (mkF m 147 #[.val (.long p0), .second, .val (.long p1), .second, .val (.int p2), .val (.long cm), .second, .val (.long n), .second, .val (.ref b1), .val (.double r), .second, .unset, .unset] [(.long (9007199254740992 : Int64))])
    refine Go.step (fun _ k => XS.lstore X3.here hx rfl (hb hby at_147) rfl (l' := #[.val (.long p0), .second, .val (.long p1), .second, .val (.int p2), .val (.long cm), .second, .val (.long n), .second, .val (.ref b1), .val (.double r), .second, .val (.long (9007199254740992 : Int64)), .second]) rfl k) ?_
    show Go _ _ _ _ _ _ _ T3 (mkF m 149 #[.val (.long p0), .second, .val (.long p1), .second, .val (.int p2), .val (.long cm), .second, .val (.long n), .second, .val (.ref b1), .val (.double r), .second, .val (.long (9007199254740992 : Int64)), .second] [])
    refine Go.step (fun _ k => XS.lload X3.here hx rfl (hb hby at_149) rfl k) ?_
    show Go _ _ _ _ _ _ _ T3 (mkF m 151 #[.val (.long p0), .second, .val (.long p1), .second, .val (.int p2), .val (.long cm), .second, .val (.long n), .second, .val (.ref b1), .val (.double r), .second, .val (.long (9007199254740992 : Int64)), .second] [(.long n)])
    refine Go.step (fun _ k => XS.lload X3.here hx rfl (hb hby at_151) rfl k) ?_
    show Go _ _ _ _ _ _ _ T3 (mkF m 153 #[.val (.long p0), .second, .val (.long p1), .second, .val (.int p2), .val (.long cm), .second, .val (.long n), .second, .val (.ref b1), .val (.double r), .second, .val (.long (9007199254740992 : Int64)), .second] [(.long (9007199254740992 : Int64)), (.long n)])
    refine Go.step (fun _ k => XS.lneg X3.here hx rfl (hb hby at_153) rfl k) ?_
    show Go _ _ _ _ _ _ _ T3 (mkF m 154 #[.val (.long p0), .second, .val (.long p1), .second, .val (.int p2), .val (.long cm), .second, .val (.long n), .second, .val (.ref b1), .val (.double r), .second, .val (.long (9007199254740992 : Int64)), .second] [(.long (-(9007199254740992 : Int64))), (.long n)])
    refine Go.step (fun _ k => XS.lcmp X3.here hx rfl (hb hby at_154) rfl k) ?_
    show Go _ _ _ _ _ _ _ T3 (mkF m 155 #[.val (.long p0), .second, .val (.long p1), .second, .val (.int p2), .val (.long cm), .second, .val (.long n), .second, .val (.ref b1), .val (.double r), .second, .val (.long (9007199254740992 : Int64)), .second] [(.int (lcmpW n (-(9007199254740992 : Int64))))])
    by_cases hc155_6 : (-(9007199254740992 : Int64)) < n
    · refine Go.step (fun _ k => XS.ifNo X3.here hx rfl (hb hby at_155) rfl ((if0 _ _).trans (tlt ((lw_gt n (-(9007199254740992 : Int64))).mpr hc155_6)).2.2.2) k) ?_
      show Go _ _ _ _ _ _ _ T3 (mkF m 158 #[.val (.long p0), .second, .val (.long p1), .second, .val (.int p2), .val (.long cm), .second, .val (.long n), .second, .val (.ref b1), .val (.double r), .second, .val (.long (9007199254740992 : Int64)), .second] [])
      refine Go.step (fun _ k => XS.lload X3.here hx rfl (hb hby at_158) rfl k) ?_
      show Go _ _ _ _ _ _ _ T3 (mkF m 160 #[.val (.long p0), .second, .val (.long p1), .second, .val (.int p2), .val (.long cm), .second, .val (.long n), .second, .val (.ref b1), .val (.double r), .second, .val (.long (9007199254740992 : Int64)), .second] [(.long n)])
      refine Go.step (fun _ k => XS.lload X3.here hx rfl (hb hby at_160) rfl k) ?_
      show Go _ _ _ _ _ _ _ T3 (mkF m 162 #[.val (.long p0), .second, .val (.long p1), .second, .val (.int p2), .val (.long cm), .second, .val (.long n), .second, .val (.ref b1), .val (.double r), .second, .val (.long (9007199254740992 : Int64)), .second] [(.long (9007199254740992 : Int64)), (.long n)])
      refine Go.step (fun _ k => XS.lcmp X3.here hx rfl (hb hby at_162) rfl k) ?_
      show Go _ _ _ _ _ _ _ T3 (mkF m 163 #[.val (.long p0), .second, .val (.long p1), .second, .val (.int p2), .val (.long cm), .second, .val (.long n), .second, .val (.ref b1), .val (.double r), .second, .val (.long (9007199254740992 : Int64)), .second] [(.int (lcmpW n (9007199254740992 : Int64)))])
      by_cases hc163_7 : n < (9007199254740992 : Int64)
      · refine Go.step (fun _ k => XS.ifNo X3.here hx rfl (hb hby at_163) rfl ((if0 _ _).trans (tlt ((lw_lt n (9007199254740992 : Int64)).mpr hc163_7)).2.1) k) ?_
        show Go _ _ _ _ _ _ _ T3 (mkF m 166 #[.val (.long p0), .second, .val (.long p1), .second, .val (.int p2), .val (.long cm), .second, .val (.long n), .second, .val (.ref b1), .val (.double r), .second, .val (.long (9007199254740992 : Int64)), .second] [])
        refine Go.step (fun _ k => XS.lload X3.here hx rfl (hb hby at_166) rfl k) ?_
        show Go _ _ _ _ _ _ _ T3 (mkF m 168 #[.val (.long p0), .second, .val (.long p1), .second, .val (.int p2), .val (.long cm), .second, .val (.long n), .second, .val (.ref b1), .val (.double r), .second, .val (.long (9007199254740992 : Int64)), .second] [(.long cm)])
        refine Go.step (fun _ k => XS.lload X3.here hx rfl (hb hby at_168) rfl k) ?_
        show Go _ _ _ _ _ _ _ T3 (mkF m 170 #[.val (.long p0), .second, .val (.long p1), .second, .val (.int p2), .val (.long cm), .second, .val (.long n), .second, .val (.ref b1), .val (.double r), .second, .val (.long (9007199254740992 : Int64)), .second] [(.long (9007199254740992 : Int64)), (.long cm)])
        refine Go.step (fun _ k => XS.lneg X3.here hx rfl (hb hby at_170) rfl k) ?_
        show Go _ _ _ _ _ _ _ T3 (mkF m 171 #[.val (.long p0), .second, .val (.long p1), .second, .val (.int p2), .val (.long cm), .second, .val (.long n), .second, .val (.ref b1), .val (.double r), .second, .val (.long (9007199254740992 : Int64)), .second] [(.long (-(9007199254740992 : Int64))), (.long cm)])
        refine Go.step (fun _ k => XS.lcmp X3.here hx rfl (hb hby at_171) rfl k) ?_
        show Go _ _ _ _ _ _ _ T3 (mkF m 172 #[.val (.long p0), .second, .val (.long p1), .second, .val (.int p2), .val (.long cm), .second, .val (.long n), .second, .val (.ref b1), .val (.double r), .second, .val (.long (9007199254740992 : Int64)), .second] [(.int (lcmpW cm (-(9007199254740992 : Int64))))])
        by_cases hc172_8 : (-(9007199254740992 : Int64)) < cm
        · refine Go.step (fun _ k => XS.ifNo X3.here hx rfl (hb hby at_172) rfl ((if0 _ _).trans (tlt ((lw_gt cm (-(9007199254740992 : Int64))).mpr hc172_8)).2.2.2) k) ?_
          show Go _ _ _ _ _ _ _ T3 (mkF m 175 #[.val (.long p0), .second, .val (.long p1), .second, .val (.int p2), .val (.long cm), .second, .val (.long n), .second, .val (.ref b1), .val (.double r), .second, .val (.long (9007199254740992 : Int64)), .second] [])
          refine Go.step (fun _ k => XS.lload X3.here hx rfl (hb hby at_175) rfl k) ?_
          show Go _ _ _ _ _ _ _ T3 (mkF m 177 #[.val (.long p0), .second, .val (.long p1), .second, .val (.int p2), .val (.long cm), .second, .val (.long n), .second, .val (.ref b1), .val (.double r), .second, .val (.long (9007199254740992 : Int64)), .second] [(.long cm)])
          refine Go.step (fun _ k => XS.lload X3.here hx rfl (hb hby at_177) rfl k) ?_
          show Go _ _ _ _ _ _ _ T3 (mkF m 179 #[.val (.long p0), .second, .val (.long p1), .second, .val (.int p2), .val (.long cm), .second, .val (.long n), .second, .val (.ref b1), .val (.double r), .second, .val (.long (9007199254740992 : Int64)), .second] [(.long (9007199254740992 : Int64)), (.long cm)])
          refine Go.step (fun _ k => XS.lcmp X3.here hx rfl (hb hby at_179) rfl k) ?_
          show Go _ _ _ _ _ _ _ T3 (mkF m 180 #[.val (.long p0), .second, .val (.long p1), .second, .val (.int p2), .val (.long cm), .second, .val (.long n), .second, .val (.ref b1), .val (.double r), .second, .val (.long (9007199254740992 : Int64)), .second] [(.int (lcmpW cm (9007199254740992 : Int64)))])
          by_cases hc180_9 : cm < (9007199254740992 : Int64)
          · refine Go.step (fun _ k => XS.ifNo X3.here hx rfl (hb hby at_180) rfl ((if0 _ _).trans (tlt ((lw_lt cm (9007199254740992 : Int64)).mpr hc180_9)).2.1) k) ?_
            show Go _ _ _ _ _ _ _ T3 (mkF m 183 #[.val (.long p0), .second, .val (.long p1), .second, .val (.int p2), .val (.long cm), .second, .val (.long n), .second, .val (.ref b1), .val (.double r), .second, .val (.long (9007199254740992 : Int64)), .second] [])
            refine Go.step (fun _ k => XS.lload X3.here hx rfl (hb hby at_183) rfl k) ?_
            show Go _ _ _ _ _ _ _ T3 (mkF m 185 #[.val (.long p0), .second, .val (.long p1), .second, .val (.int p2), .val (.long cm), .second, .val (.long n), .second, .val (.ref b1), .val (.double r), .second, .val (.long (9007199254740992 : Int64)), .second] [(.long n)])
            refine Go.step (fun _ k => XS.lload X3.here hx rfl (hb hby at_185) rfl k) ?_
            show Go _ _ _ _ _ _ _ T3 (mkF m 187 #[.val (.long p0), .second, .val (.long p1), .second, .val (.int p2), .val (.long cm), .second, .val (.long n), .second, .val (.ref b1), .val (.double r), .second, .val (.long (9007199254740992 : Int64)), .second] [(.long cm), (.long n)])
            refine Go.step (fun _ k => XS.lrem X3.here hx rfl (hb hby at_187) rfl hc75_4 k) ?_
            show Go _ _ _ _ _ _ _ T3 (mkF m 188 #[.val (.long p0), .second, .val (.long p1), .second, .val (.int p2), .val (.long cm), .second, .val (.long n), .second, .val (.ref b1), .val (.double r), .second, .val (.long (9007199254740992 : Int64)), .second] [(.long (n - (n / cm) * cm))])
            refine Go.step (fun _ k => XS.lconst X3.here hx rfl (hb hby at_188) k) ?_
            show Go _ _ _ _ _ _ _ T3 (mkF m 189 #[.val (.long p0), .second, .val (.long p1), .second, .val (.int p2), .val (.long cm), .second, .val (.long n), .second, .val (.ref b1), .val (.double r), .second, .val (.long (9007199254740992 : Int64)), .second] [(.long (0 : Int64)), (.long (n - (n / cm) * cm))])
            refine Go.step (fun _ k => XS.lcmp X3.here hx rfl (hb hby at_189) rfl k) ?_
            show Go _ _ _ _ _ _ _ T3 (mkF m 190 #[.val (.long p0), .second, .val (.long p1), .second, .val (.int p2), .val (.long cm), .second, .val (.long n), .second, .val (.ref b1), .val (.double r), .second, .val (.long (9007199254740992 : Int64)), .second] [(.int (lcmpW (n - (n / cm) * cm) (0 : Int64)))])
            by_cases hc190_10 : (n - (n / cm) * cm) = (0 : Int64)
            · refine Go.step (fun _ k => XS.ifNo X3.here hx rfl (hb hby at_190) rfl ((if0 _ _).trans (teq ((lw_eq (n - (n / cm) * cm) (0 : Int64)).mpr hc190_10)).2) k) ?_
              show Go _ _ _ _ _ _ _ T3 (mkF m 193 #[.val (.long p0), .second, .val (.long p1), .second, .val (.int p2), .val (.long cm), .second, .val (.long n), .second, .val (.ref b1), .val (.double r), .second, .val (.long (9007199254740992 : Int64)), .second] [])
              refine Go.step (fun _ k => XS.dload X3.here hx rfl (hb hby at_193) rfl k) ?_
              show Go _ _ _ _ _ _ _ T3 (mkF m 195 #[.val (.long p0), .second, .val (.long p1), .second, .val (.int p2), .val (.long cm), .second, .val (.long n), .second, .val (.ref b1), .val (.double r), .second, .val (.long (9007199254740992 : Int64)), .second] [(.double r)])
              refine Go.step (fun _ k => XS.lload X3.here hx rfl (hb hby at_195) rfl k) ?_
              show Go _ _ _ _ _ _ _ T3 (mkF m 197 #[.val (.long p0), .second, .val (.long p1), .second, .val (.int p2), .val (.long cm), .second, .val (.long n), .second, .val (.ref b1), .val (.double r), .second, .val (.long (9007199254740992 : Int64)), .second] [(.long n), (.double r)])
              refine Go.step (fun _ k => XS.lload X3.here hx rfl (hb hby at_197) rfl k) ?_
              show Go _ _ _ _ _ _ _ T3 (mkF m 199 #[.val (.long p0), .second, .val (.long p1), .second, .val (.int p2), .val (.long cm), .second, .val (.long n), .second, .val (.ref b1), .val (.double r), .second, .val (.long (9007199254740992 : Int64)), .second] [(.long cm), (.long n), (.double r)])
              refine Go.step (fun _ k => XS.ldiv X3.here hx rfl (hb hby at_199) rfl hc75_4 k) ?_
              show Go _ _ _ _ _ _ _ T3 (mkF m 200 #[.val (.long p0), .second, .val (.long p1), .second, .val (.int p2), .val (.long cm), .second, .val (.long n), .second, .val (.ref b1), .val (.double r), .second, .val (.long (9007199254740992 : Int64)), .second] [(.long (n / cm)), (.double r)])
              refine Go.step (fun _ k => XS.l2dS X3.here hx rfl (hb hby at_200) rfl rfl k) ?_
              show Go _ _ _ _ _ _ _ T3 (mkF m 201 #[.val (.long p0), .second, .val (.long p1), .second, .val (.int p2), .val (.long cm), .second, .val (.long n), .second, .val (.ref b1), .val (.double r), .second, .val (.long (9007199254740992 : Int64)), .second] [(.double (FP.l2d (n / cm))), (.double r)])
              refine Go.step (fun _ k => XS.dcmpS X3.here hx rfl (hb hby at_201) rfl rfl k) ?_
              show Go _ _ _ _ _ _ _ T3 (mkF m 202 #[.val (.long p0), .second, .val (.long p1), .second, .val (.int p2), .val (.long cm), .second, .val (.long n), .second, .val (.ref b1), .val (.double r), .second, .val (.long (9007199254740992 : Int64)), .second] [(.int (cmpValue (FP.dcmp r (FP.l2d (n / cm))) .l))])
              refine Go.step (fun _ k => XS.ifNo X3.here hx rfl (hb hby at_202) rfl (eq_y .l (by rw [own_r1 h_r hc75_4]; exact own_exact hc155_6 hc163_7 hc172_8 hc180_9 hc75_4 hc190_10)).1 k) ?_
              show Go _ _ _ _ _ _ _ T3 (mkF m 205 #[.val (.long p0), .second, .val (.long p1), .second, .val (.int p2), .val (.long cm), .second, .val (.long n), .second, .val (.ref b1), .val (.double r), .second, .val (.long (9007199254740992 : Int64)), .second] [])
              refine Go.step (fun _ k => XS.iconst X3.here hx rfl (hb hby at_205) k) ?_
              show Go _ _ _ _ _ _ _ T3 (mkF m 206 #[.val (.long p0), .second, .val (.long p1), .second, .val (.int p2), .val (.long cm), .second, .val (.long n), .second, .val (.ref b1), .val (.double r), .second, .val (.long (9007199254740992 : Int64)), .second] [(.int (1 : Int32))])
              refine Go.step (fun _ k => XS.goto X3.here hx rfl (pc0 := 206) (pc' := 210) rfl (hb hby at_206) (by decide) (by decide) k) ?_
              show Go _ _ _ _ _ _ _ T3 (mkF m 210 #[.val (.long p0), .second, .val (.long p1), .second, .val (.int p2), .val (.long cm), .second, .val (.long n), .second, .val (.ref b1), .val (.double r), .second, .val (.long (9007199254740992 : Int64)), .second] [(.int (1 : Int32))])
              refine Go.retZ X3 hx hlk hret (by decide) (hb hby at_210) (by decide) (by decide) ?_
              try rw [hh3]
              exact ⟨rfl, N3⟩
            · refine Go.step (fun _ k => XS.ifYes X3.here hx rfl (pc0 := 190) (pc' := 211) rfl (hb hby at_190) rfl ((if0 _ _).trans (feq (fun q => hc190_10 ((lw_eq (n - (n / cm) * cm) (0 : Int64)).mp q))).2) (by decide) (by decide) k) ?_
              show Go _ _ _ _ _ _ _ T3 (mkF m 211 #[.val (.long p0), .second, .val (.long p1), .second, .val (.int p2), .val (.long cm), .second, .val (.long n), .second, .val (.ref b1), .val (.double r), .second, .val (.long (9007199254740992 : Int64)), .second] [])
              refine Go.step (fun _ k => XS.iconst X3.here hx rfl (hb hby at_211) k) ?_
              show Go _ _ _ _ _ _ _ T3 (mkF m 212 #[.val (.long p0), .second, .val (.long p1), .second, .val (.int p2), .val (.long cm), .second, .val (.long n), .second, .val (.ref b1), .val (.double r), .second, .val (.long (9007199254740992 : Int64)), .second] [(.int (1 : Int32))])
              refine Go.retZ X3 hx hlk hret (by decide) (hb hby at_212) (by decide) (by decide) ?_
              try rw [hh3]
              exact ⟨rfl, N3⟩
          · refine Go.step (fun _ k => XS.ifYes X3.here hx rfl (pc0 := 180) (pc' := 211) rfl (hb hby at_180) rfl ((if0 _ _).trans (flt (fun q => hc180_9 ((lw_lt cm (9007199254740992 : Int64)).mp q))).2.1) (by decide) (by decide) k) ?_
            show Go _ _ _ _ _ _ _ T3 (mkF m 211 #[.val (.long p0), .second, .val (.long p1), .second, .val (.int p2), .val (.long cm), .second, .val (.long n), .second, .val (.ref b1), .val (.double r), .second, .val (.long (9007199254740992 : Int64)), .second] [])
            refine Go.step (fun _ k => XS.iconst X3.here hx rfl (hb hby at_211) k) ?_
            show Go _ _ _ _ _ _ _ T3 (mkF m 212 #[.val (.long p0), .second, .val (.long p1), .second, .val (.int p2), .val (.long cm), .second, .val (.long n), .second, .val (.ref b1), .val (.double r), .second, .val (.long (9007199254740992 : Int64)), .second] [(.int (1 : Int32))])
            refine Go.retZ X3 hx hlk hret (by decide) (hb hby at_212) (by decide) (by decide) ?_
            try rw [hh3]
            exact ⟨rfl, N3⟩
        · refine Go.step (fun _ k => XS.ifYes X3.here hx rfl (pc0 := 172) (pc' := 211) rfl (hb hby at_172) rfl ((if0 _ _).trans (flt (fun q => hc172_8 ((lw_gt cm (-(9007199254740992 : Int64))).mp q))).2.2.2) (by decide) (by decide) k) ?_
          show Go _ _ _ _ _ _ _ T3 (mkF m 211 #[.val (.long p0), .second, .val (.long p1), .second, .val (.int p2), .val (.long cm), .second, .val (.long n), .second, .val (.ref b1), .val (.double r), .second, .val (.long (9007199254740992 : Int64)), .second] [])
          refine Go.step (fun _ k => XS.iconst X3.here hx rfl (hb hby at_211) k) ?_
          show Go _ _ _ _ _ _ _ T3 (mkF m 212 #[.val (.long p0), .second, .val (.long p1), .second, .val (.int p2), .val (.long cm), .second, .val (.long n), .second, .val (.ref b1), .val (.double r), .second, .val (.long (9007199254740992 : Int64)), .second] [(.int (1 : Int32))])
          refine Go.retZ X3 hx hlk hret (by decide) (hb hby at_212) (by decide) (by decide) ?_
          try rw [hh3]
          exact ⟨rfl, N3⟩
      · refine Go.step (fun _ k => XS.ifYes X3.here hx rfl (pc0 := 163) (pc' := 211) rfl (hb hby at_163) rfl ((if0 _ _).trans (flt (fun q => hc163_7 ((lw_lt n (9007199254740992 : Int64)).mp q))).2.1) (by decide) (by decide) k) ?_
        show Go _ _ _ _ _ _ _ T3 (mkF m 211 #[.val (.long p0), .second, .val (.long p1), .second, .val (.int p2), .val (.long cm), .second, .val (.long n), .second, .val (.ref b1), .val (.double r), .second, .val (.long (9007199254740992 : Int64)), .second] [])
        refine Go.step (fun _ k => XS.iconst X3.here hx rfl (hb hby at_211) k) ?_
        show Go _ _ _ _ _ _ _ T3 (mkF m 212 #[.val (.long p0), .second, .val (.long p1), .second, .val (.int p2), .val (.long cm), .second, .val (.long n), .second, .val (.ref b1), .val (.double r), .second, .val (.long (9007199254740992 : Int64)), .second] [(.int (1 : Int32))])
        refine Go.retZ X3 hx hlk hret (by decide) (hb hby at_212) (by decide) (by decide) ?_
        try rw [hh3]
        exact ⟨rfl, N3⟩
    · refine Go.step (fun _ k => XS.ifYes X3.here hx rfl (pc0 := 155) (pc' := 211) rfl (hb hby at_155) rfl ((if0 _ _).trans (flt (fun q => hc155_6 ((lw_gt n (-(9007199254740992 : Int64))).mp q))).2.2.2) (by decide) (by decide) k) ?_
      show Go _ _ _ _ _ _ _ T3 (mkF m 211 #[.val (.long p0), .second, .val (.long p1), .second, .val (.int p2), .val (.long cm), .second, .val (.long n), .second, .val (.ref b1), .val (.double r), .second, .val (.long (9007199254740992 : Int64)), .second] [])
      refine Go.step (fun _ k => XS.iconst X3.here hx rfl (hb hby at_211) k) ?_
      show Go _ _ _ _ _ _ _ T3 (mkF m 212 #[.val (.long p0), .second, .val (.long p1), .second, .val (.int p2), .val (.long cm), .second, .val (.long n), .second, .val (.ref b1), .val (.double r), .second, .val (.long (9007199254740992 : Int64)), .second] [(.int (1 : Int32))])
      refine Go.retZ X3 hx hlk hret (by decide) (hb hby at_212) (by decide) (by decide) ?_
      try rw [hh3]
      exact ⟨rfl, N3⟩
set_option maxRecDepth 65536 in
set_option maxHeartbeats 40000000 in
theorem w0 {p : Program} {l : Launch} {e : Env} {s : State} {m : MethodId} {args : Array Value} {below : List Frame} {meth : Method} {c_ : Code} {T0 : State} {locs : List Loc} {Z : State} {a0 : Array Value} {h0 : Heap} {n0 : Nat} (p0 : Int64) (p1 : Int64) (p2 : Int32)
    (X0 : Stand p l e room_1 s m args below meth c_ T0 locs 0 0) (hx : p.tables.exec = Jvm.exec) (hZ : Z.Warmed39 s.vm) (hw : ∀ d ∈ tables_1, d.before a0 Z = true) (hby : c_.code = code) (hml : c_.maxLocals = maxLocals) (hown : s.vm.findClass "com/example/cyclebreak/cyclebreak/cli/bench/TallyPerCommitPinLaw" = some m.cls) (hnm : meth.name = "law") (hret : meth.sig.returnType = ret) (hlk : meth.locks = false) (e0 : T0.heap = h0) (Z0 : n0 ≤ h0.size) (N0 : Fr n0 locs)  :
    Go p e below s room_1.cells room_1.slots (fun r h L => r = some (.int 1) ∧ Fr n0 L) T0 (mkF m 0 #[.val (.long p0), .second, .val (.long p1), .second, .val (.int p2), .unset, .unset, .unset, .unset, .unset, .unset, .unset, .unset, .unset] []) := by
  have hret : meth.sig.returnType = some .boolean := hret
  show Go _ _ _ _ _ _ _ T0 (mkF m 0 #[.val (.long p0), .second, .val (.long p1), .second, .val (.int p2), .unset, .unset, .unset, .unset, .unset, .unset, .unset, .unset, .unset] [])
  refine Go.step (fun _ k => XS.iload X0.here hx rfl (hb hby at_0) rfl k) ?_
  show Go _ _ _ _ _ _ _ T0 (mkF m 2 #[.val (.long p0), .second, .val (.long p1), .second, .val (.int p2), .unset, .unset, .unset, .unset, .unset, .unset, .unset, .unset, .unset] [(.int p2)])
  refine Go.step (fun _ k => XS.iconst X0.here hx rfl (hb hby at_2) k) ?_
  show Go _ _ _ _ _ _ _ T0 (mkF m 3 #[.val (.long p0), .second, .val (.long p1), .second, .val (.int p2), .unset, .unset, .unset, .unset, .unset, .unset, .unset, .unset, .unset] [(.int (1 : Int32)), (.int p2)])
  refine Go.step (fun _ k => XS.iand X0.here hx rfl (hb hby at_3) rfl k) ?_
  show Go _ _ _ _ _ _ _ T0 (mkF m 4 #[.val (.long p0), .second, .val (.long p1), .second, .val (.int p2), .unset, .unset, .unset, .unset, .unset, .unset, .unset, .unset, .unset] [(.int (p2 &&& (1 : Int32)))])
  by_cases hc4_1 : (p2 &&& (1 : Int32)) = (0 : Int32)
  · refine Go.step (fun _ k => XS.ifYes X0.here hx rfl (pc0 := 4) (pc' := 11) rfl (hb hby at_4) rfl ((if0 _ _).trans (teq hc4_1).1) (by decide) (by decide) k) ?_
    show Go _ _ _ _ _ _ _ T0 (mkF m 11 #[.val (.long p0), .second, .val (.long p1), .second, .val (.int p2), .unset, .unset, .unset, .unset, .unset, .unset, .unset, .unset, .unset] [])
    refine Go.step (fun _ k => XS.lloadN X0.here hx rfl (hb hby at_11) rfl k) ?_
    show Go _ _ _ _ _ _ _ T0 (mkF m 12 #[.val (.long p0), .second, .val (.long p1), .second, .val (.int p2), .unset, .unset, .unset, .unset, .unset, .unset, .unset, .unset, .unset] [(.long p0)])
    refine Go.step (fun _ k => XS.lstore X0.here hx rfl (hb hby at_12) rfl (l' := #[.val (.long p0), .second, .val (.long p1), .second, .val (.int p2), .val (.long p0), .second, .unset, .unset, .unset, .unset, .unset, .unset, .unset]) rfl k) ?_
    show Go _ _ _ _ _ _ _ T0 (mkF m 14 #[.val (.long p0), .second, .val (.long p1), .second, .val (.int p2), .val (.long p0), .second, .unset, .unset, .unset, .unset, .unset, .unset, .unset] [])
    refine Go.step (fun _ k => XS.iload X0.here hx rfl (hb hby at_14) rfl k) ?_
    show Go _ _ _ _ _ _ _ T0 (mkF m 16 #[.val (.long p0), .second, .val (.long p1), .second, .val (.int p2), .val (.long p0), .second, .unset, .unset, .unset, .unset, .unset, .unset, .unset] [(.int p2)])
    refine Go.step (fun _ k => XS.iconst X0.here hx rfl (hb hby at_16) k) ?_
    show Go _ _ _ _ _ _ _ T0 (mkF m 17 #[.val (.long p0), .second, .val (.long p1), .second, .val (.int p2), .val (.long p0), .second, .unset, .unset, .unset, .unset, .unset, .unset, .unset] [(.int (2 : Int32)), (.int p2)])
    refine Go.step (fun _ k => XS.iand X0.here hx rfl (hb hby at_17) rfl k) ?_
    show Go _ _ _ _ _ _ _ T0 (mkF m 18 #[.val (.long p0), .second, .val (.long p1), .second, .val (.int p2), .val (.long p0), .second, .unset, .unset, .unset, .unset, .unset, .unset, .unset] [(.int (p2 &&& (2 : Int32)))])
    by_cases hc18_2 : (p2 &&& (2 : Int32)) = (0 : Int32)
    · refine Go.step (fun _ k => XS.ifYes X0.here hx rfl (pc0 := 18) (pc' := 27) rfl (hb hby at_18) rfl ((if0 _ _).trans (teq hc18_2).1) (by decide) (by decide) k) ?_
      show Go _ _ _ _ _ _ _ T0 (mkF m 27 #[.val (.long p0), .second, .val (.long p1), .second, .val (.int p2), .val (.long p0), .second, .unset, .unset, .unset, .unset, .unset, .unset, .unset] [])
      refine Go.step (fun _ k => XS.iload X0.here hx rfl (hb hby at_27) rfl k) ?_
      show Go _ _ _ _ _ _ _ T0 (mkF m 29 #[.val (.long p0), .second, .val (.long p1), .second, .val (.int p2), .val (.long p0), .second, .unset, .unset, .unset, .unset, .unset, .unset, .unset] [(.int p2)])
      refine Go.step (fun _ k => XS.iconst X0.here hx rfl (hb hby at_29) k) ?_
      show Go _ _ _ _ _ _ _ T0 (mkF m 30 #[.val (.long p0), .second, .val (.long p1), .second, .val (.int p2), .val (.long p0), .second, .unset, .unset, .unset, .unset, .unset, .unset, .unset] [(.int (4 : Int32)), (.int p2)])
      refine Go.step (fun _ k => XS.iand X0.here hx rfl (hb hby at_30) rfl k) ?_
      show Go _ _ _ _ _ _ _ T0 (mkF m 31 #[.val (.long p0), .second, .val (.long p1), .second, .val (.int p2), .val (.long p0), .second, .unset, .unset, .unset, .unset, .unset, .unset, .unset] [(.int (p2 &&& (4 : Int32)))])
      by_cases hc31_3 : (p2 &&& (4 : Int32)) = (0 : Int32)
      · refine Go.step (fun _ k => XS.ifYes X0.here hx rfl (pc0 := 31) (pc' := 47) rfl (hb hby at_31) rfl ((if0 _ _).trans (teq hc31_3).1) (by decide) (by decide) k) ?_
        show Go _ _ _ _ _ _ _ T0 (mkF m 47 #[.val (.long p0), .second, .val (.long p1), .second, .val (.int p2), .val (.long p0), .second, .unset, .unset, .unset, .unset, .unset, .unset, .unset] [])
        refine Go.step (fun _ k => XS.lloadN X0.here hx rfl (hb hby at_47) rfl k) ?_
        show Go _ _ _ _ _ _ _ T0 (mkF m 48 #[.val (.long p0), .second, .val (.long p1), .second, .val (.int p2), .val (.long p0), .second, .unset, .unset, .unset, .unset, .unset, .unset, .unset] [(.long p1)])
        refine Go.step (fun _ k => XS.lstore X0.here hx rfl (hb hby at_48) rfl (l' := #[.val (.long p0), .second, .val (.long p1), .second, .val (.int p2), .val (.long p0), .second, .val (.long p1), .second, .unset, .unset, .unset, .unset, .unset]) rfl k) ?_
        show Go _ _ _ _ _ _ _ T0 (mkF m 50 #[.val (.long p0), .second, .val (.long p1), .second, .val (.int p2), .val (.long p0), .second, .val (.long p1), .second, .unset, .unset, .unset, .unset, .unset] [])
        exact w0b p0 p1 p2 p0 p1 X0 hx hZ hw hby hml hown hnm hret hlk e0 Z0 N0
      · refine Go.step (fun _ k => XS.ifNo X0.here hx rfl (hb hby at_31) rfl ((if0 _ _).trans (feq hc31_3).1) k) ?_
        show Go _ _ _ _ _ _ _ T0 (mkF m 34 #[.val (.long p0), .second, .val (.long p1), .second, .val (.int p2), .val (.long p0), .second, .unset, .unset, .unset, .unset, .unset, .unset, .unset] [])
        refine Go.step (fun _ k => XS.lload X0.here hx rfl (hb hby at_34) rfl k) ?_
        show Go _ _ _ _ _ _ _ T0 (mkF m 36 #[.val (.long p0), .second, .val (.long p1), .second, .val (.int p2), .val (.long p0), .second, .unset, .unset, .unset, .unset, .unset, .unset, .unset] [(.long p0)])
        refine Go.step (fun _ k => XS.iload X0.here hx rfl (hb hby at_36) rfl k) ?_
        show Go _ _ _ _ _ _ _ T0 (mkF m 38 #[.val (.long p0), .second, .val (.long p1), .second, .val (.int p2), .val (.long p0), .second, .unset, .unset, .unset, .unset, .unset, .unset, .unset] [(.int p2), (.long p0)])
        refine Go.step (fun _ k => XS.iconst X0.here hx rfl (hb hby at_38) k) ?_
        show Go _ _ _ _ _ _ _ T0 (mkF m 39 #[.val (.long p0), .second, .val (.long p1), .second, .val (.int p2), .val (.long p0), .second, .unset, .unset, .unset, .unset, .unset, .unset, .unset] [(.int (3 : Int32)), (.int p2), (.long p0)])
        refine Go.step (fun _ k => XS.ishr X0.here hx rfl (hb hby at_39) rfl k) ?_
        show Go _ _ _ _ _ _ _ T0 (mkF m 40 #[.val (.long p0), .second, .val (.long p1), .second, .val (.int p2), .val (.long p0), .second, .unset, .unset, .unset, .unset, .unset, .unset, .unset] [(.int (p2 >>> ((3 : Int32) &&& 31))), (.long p0)])
        refine Go.step (fun _ k => XS.i2l X0.here hx rfl (hb hby at_40) rfl k) ?_
        show Go _ _ _ _ _ _ _ T0 (mkF m 41 #[.val (.long p0), .second, .val (.long p1), .second, .val (.int p2), .val (.long p0), .second, .unset, .unset, .unset, .unset, .unset, .unset, .unset] [(.long ((p2 >>> ((3 : Int32) &&& 31)).toInt64)), (.long p0)])
        refine Go.step (fun _ k => XS.lmul X0.here hx rfl (hb hby at_41) rfl k) ?_
        show Go _ _ _ _ _ _ _ T0 (mkF m 42 #[.val (.long p0), .second, .val (.long p1), .second, .val (.int p2), .val (.long p0), .second, .unset, .unset, .unset, .unset, .unset, .unset, .unset] [(.long (p0 * ((p2 >>> ((3 : Int32) &&& 31)).toInt64)))])
        refine Go.step (fun _ k => XS.lstore X0.here hx rfl (hb hby at_42) rfl (l' := #[.val (.long p0), .second, .val (.long p1), .second, .val (.int p2), .val (.long p0), .second, .val (.long (p0 * ((p2 >>> ((3 : Int32) &&& 31)).toInt64))), .second, .unset, .unset, .unset, .unset, .unset]) rfl k) ?_
        show Go _ _ _ _ _ _ _ T0 (mkF m 44 #[.val (.long p0), .second, .val (.long p1), .second, .val (.int p2), .val (.long p0), .second, .val (.long (p0 * ((p2 >>> ((3 : Int32) &&& 31)).toInt64))), .second, .unset, .unset, .unset, .unset, .unset] [])
        refine Go.step (fun _ k => XS.goto X0.here hx rfl (pc0 := 44) (pc' := 50) rfl (hb hby at_44) (by decide) (by decide) k) ?_
        show Go _ _ _ _ _ _ _ T0 (mkF m 50 #[.val (.long p0), .second, .val (.long p1), .second, .val (.int p2), .val (.long p0), .second, .val (.long (p0 * ((p2 >>> ((3 : Int32) &&& 31)).toInt64))), .second, .unset, .unset, .unset, .unset, .unset] [])
        exact w0b p0 p1 p2 p0 (p0 * ((p2 >>> ((3 : Int32) &&& 31)).toInt64)) X0 hx hZ hw hby hml hown hnm hret hlk e0 Z0 N0
    · refine Go.step (fun _ k => XS.ifNo X0.here hx rfl (hb hby at_18) rfl ((if0 _ _).trans (feq hc18_2).1) k) ?_
      show Go _ _ _ _ _ _ _ T0 (mkF m 21 #[.val (.long p0), .second, .val (.long p1), .second, .val (.int p2), .val (.long p0), .second, .unset, .unset, .unset, .unset, .unset, .unset, .unset] [])
      refine Go.step (fun _ k => XS.lconst X0.here hx rfl (hb hby at_21) k) ?_
      show Go _ _ _ _ _ _ _ T0 (mkF m 22 #[.val (.long p0), .second, .val (.long p1), .second, .val (.int p2), .val (.long p0), .second, .unset, .unset, .unset, .unset, .unset, .unset, .unset] [(.long (0 : Int64))])
      refine Go.step (fun _ k => XS.lstore X0.here hx rfl (hb hby at_22) rfl (l' := #[.val (.long p0), .second, .val (.long p1), .second, .val (.int p2), .val (.long p0), .second, .val (.long (0 : Int64)), .second, .unset, .unset, .unset, .unset, .unset]) rfl k) ?_
      show Go _ _ _ _ _ _ _ T0 (mkF m 24 #[.val (.long p0), .second, .val (.long p1), .second, .val (.int p2), .val (.long p0), .second, .val (.long (0 : Int64)), .second, .unset, .unset, .unset, .unset, .unset] [])
      refine Go.step (fun _ k => XS.goto X0.here hx rfl (pc0 := 24) (pc' := 50) rfl (hb hby at_24) (by decide) (by decide) k) ?_
      show Go _ _ _ _ _ _ _ T0 (mkF m 50 #[.val (.long p0), .second, .val (.long p1), .second, .val (.int p2), .val (.long p0), .second, .val (.long (0 : Int64)), .second, .unset, .unset, .unset, .unset, .unset] [])
      exact w0b p0 p1 p2 p0 (0 : Int64) X0 hx hZ hw hby hml hown hnm hret hlk e0 Z0 N0
  · refine Go.step (fun _ k => XS.ifNo X0.here hx rfl (hb hby at_4) rfl ((if0 _ _).trans (feq hc4_1).1) k) ?_
    show Go _ _ _ _ _ _ _ T0 (mkF m 7 #[.val (.long p0), .second, .val (.long p1), .second, .val (.int p2), .unset, .unset, .unset, .unset, .unset, .unset, .unset, .unset, .unset] [])
    refine Go.step (fun _ k => XS.lconst X0.here hx rfl (hb hby at_7) k) ?_
    show Go _ _ _ _ _ _ _ T0 (mkF m 8 #[.val (.long p0), .second, .val (.long p1), .second, .val (.int p2), .unset, .unset, .unset, .unset, .unset, .unset, .unset, .unset, .unset] [(.long (0 : Int64))])
    refine Go.step (fun _ k => XS.goto X0.here hx rfl (pc0 := 8) (pc' := 12) rfl (hb hby at_8) (by decide) (by decide) k) ?_
    show Go _ _ _ _ _ _ _ T0 (mkF m 12 #[.val (.long p0), .second, .val (.long p1), .second, .val (.int p2), .unset, .unset, .unset, .unset, .unset, .unset, .unset, .unset, .unset] [(.long (0 : Int64))])
    refine Go.step (fun _ k => XS.lstore X0.here hx rfl (hb hby at_12) rfl (l' := #[.val (.long p0), .second, .val (.long p1), .second, .val (.int p2), .val (.long (0 : Int64)), .second, .unset, .unset, .unset, .unset, .unset, .unset, .unset]) rfl k) ?_
    show Go _ _ _ _ _ _ _ T0 (mkF m 14 #[.val (.long p0), .second, .val (.long p1), .second, .val (.int p2), .val (.long (0 : Int64)), .second, .unset, .unset, .unset, .unset, .unset, .unset, .unset] [])
    refine Go.step (fun _ k => XS.iload X0.here hx rfl (hb hby at_14) rfl k) ?_
    show Go _ _ _ _ _ _ _ T0 (mkF m 16 #[.val (.long p0), .second, .val (.long p1), .second, .val (.int p2), .val (.long (0 : Int64)), .second, .unset, .unset, .unset, .unset, .unset, .unset, .unset] [(.int p2)])
    refine Go.step (fun _ k => XS.iconst X0.here hx rfl (hb hby at_16) k) ?_
    show Go _ _ _ _ _ _ _ T0 (mkF m 17 #[.val (.long p0), .second, .val (.long p1), .second, .val (.int p2), .val (.long (0 : Int64)), .second, .unset, .unset, .unset, .unset, .unset, .unset, .unset] [(.int (2 : Int32)), (.int p2)])
    refine Go.step (fun _ k => XS.iand X0.here hx rfl (hb hby at_17) rfl k) ?_
    show Go _ _ _ _ _ _ _ T0 (mkF m 18 #[.val (.long p0), .second, .val (.long p1), .second, .val (.int p2), .val (.long (0 : Int64)), .second, .unset, .unset, .unset, .unset, .unset, .unset, .unset] [(.int (p2 &&& (2 : Int32)))])
    by_cases hc18_4 : (p2 &&& (2 : Int32)) = (0 : Int32)
    · refine Go.step (fun _ k => XS.ifYes X0.here hx rfl (pc0 := 18) (pc' := 27) rfl (hb hby at_18) rfl ((if0 _ _).trans (teq hc18_4).1) (by decide) (by decide) k) ?_
      show Go _ _ _ _ _ _ _ T0 (mkF m 27 #[.val (.long p0), .second, .val (.long p1), .second, .val (.int p2), .val (.long (0 : Int64)), .second, .unset, .unset, .unset, .unset, .unset, .unset, .unset] [])
      refine Go.step (fun _ k => XS.iload X0.here hx rfl (hb hby at_27) rfl k) ?_
      show Go _ _ _ _ _ _ _ T0 (mkF m 29 #[.val (.long p0), .second, .val (.long p1), .second, .val (.int p2), .val (.long (0 : Int64)), .second, .unset, .unset, .unset, .unset, .unset, .unset, .unset] [(.int p2)])
      refine Go.step (fun _ k => XS.iconst X0.here hx rfl (hb hby at_29) k) ?_
      show Go _ _ _ _ _ _ _ T0 (mkF m 30 #[.val (.long p0), .second, .val (.long p1), .second, .val (.int p2), .val (.long (0 : Int64)), .second, .unset, .unset, .unset, .unset, .unset, .unset, .unset] [(.int (4 : Int32)), (.int p2)])
      refine Go.step (fun _ k => XS.iand X0.here hx rfl (hb hby at_30) rfl k) ?_
      show Go _ _ _ _ _ _ _ T0 (mkF m 31 #[.val (.long p0), .second, .val (.long p1), .second, .val (.int p2), .val (.long (0 : Int64)), .second, .unset, .unset, .unset, .unset, .unset, .unset, .unset] [(.int (p2 &&& (4 : Int32)))])
      by_cases hc31_5 : (p2 &&& (4 : Int32)) = (0 : Int32)
      · refine Go.step (fun _ k => XS.ifYes X0.here hx rfl (pc0 := 31) (pc' := 47) rfl (hb hby at_31) rfl ((if0 _ _).trans (teq hc31_5).1) (by decide) (by decide) k) ?_
        show Go _ _ _ _ _ _ _ T0 (mkF m 47 #[.val (.long p0), .second, .val (.long p1), .second, .val (.int p2), .val (.long (0 : Int64)), .second, .unset, .unset, .unset, .unset, .unset, .unset, .unset] [])
        refine Go.step (fun _ k => XS.lloadN X0.here hx rfl (hb hby at_47) rfl k) ?_
        show Go _ _ _ _ _ _ _ T0 (mkF m 48 #[.val (.long p0), .second, .val (.long p1), .second, .val (.int p2), .val (.long (0 : Int64)), .second, .unset, .unset, .unset, .unset, .unset, .unset, .unset] [(.long p1)])
        refine Go.step (fun _ k => XS.lstore X0.here hx rfl (hb hby at_48) rfl (l' := #[.val (.long p0), .second, .val (.long p1), .second, .val (.int p2), .val (.long (0 : Int64)), .second, .val (.long p1), .second, .unset, .unset, .unset, .unset, .unset]) rfl k) ?_
        show Go _ _ _ _ _ _ _ T0 (mkF m 50 #[.val (.long p0), .second, .val (.long p1), .second, .val (.int p2), .val (.long (0 : Int64)), .second, .val (.long p1), .second, .unset, .unset, .unset, .unset, .unset] [])
        exact w0b p0 p1 p2 (0 : Int64) p1 X0 hx hZ hw hby hml hown hnm hret hlk e0 Z0 N0
      · refine Go.step (fun _ k => XS.ifNo X0.here hx rfl (hb hby at_31) rfl ((if0 _ _).trans (feq hc31_5).1) k) ?_
        show Go _ _ _ _ _ _ _ T0 (mkF m 34 #[.val (.long p0), .second, .val (.long p1), .second, .val (.int p2), .val (.long (0 : Int64)), .second, .unset, .unset, .unset, .unset, .unset, .unset, .unset] [])
        refine Go.step (fun _ k => XS.lload X0.here hx rfl (hb hby at_34) rfl k) ?_
        show Go _ _ _ _ _ _ _ T0 (mkF m 36 #[.val (.long p0), .second, .val (.long p1), .second, .val (.int p2), .val (.long (0 : Int64)), .second, .unset, .unset, .unset, .unset, .unset, .unset, .unset] [(.long (0 : Int64))])
        refine Go.step (fun _ k => XS.iload X0.here hx rfl (hb hby at_36) rfl k) ?_
        show Go _ _ _ _ _ _ _ T0 (mkF m 38 #[.val (.long p0), .second, .val (.long p1), .second, .val (.int p2), .val (.long (0 : Int64)), .second, .unset, .unset, .unset, .unset, .unset, .unset, .unset] [(.int p2), (.long (0 : Int64))])
        refine Go.step (fun _ k => XS.iconst X0.here hx rfl (hb hby at_38) k) ?_
        show Go _ _ _ _ _ _ _ T0 (mkF m 39 #[.val (.long p0), .second, .val (.long p1), .second, .val (.int p2), .val (.long (0 : Int64)), .second, .unset, .unset, .unset, .unset, .unset, .unset, .unset] [(.int (3 : Int32)), (.int p2), (.long (0 : Int64))])
        refine Go.step (fun _ k => XS.ishr X0.here hx rfl (hb hby at_39) rfl k) ?_
        show Go _ _ _ _ _ _ _ T0 (mkF m 40 #[.val (.long p0), .second, .val (.long p1), .second, .val (.int p2), .val (.long (0 : Int64)), .second, .unset, .unset, .unset, .unset, .unset, .unset, .unset] [(.int (p2 >>> ((3 : Int32) &&& 31))), (.long (0 : Int64))])
        refine Go.step (fun _ k => XS.i2l X0.here hx rfl (hb hby at_40) rfl k) ?_
        show Go _ _ _ _ _ _ _ T0 (mkF m 41 #[.val (.long p0), .second, .val (.long p1), .second, .val (.int p2), .val (.long (0 : Int64)), .second, .unset, .unset, .unset, .unset, .unset, .unset, .unset] [(.long ((p2 >>> ((3 : Int32) &&& 31)).toInt64)), (.long (0 : Int64))])
        refine Go.step (fun _ k => XS.lmul X0.here hx rfl (hb hby at_41) rfl k) ?_
        show Go _ _ _ _ _ _ _ T0 (mkF m 42 #[.val (.long p0), .second, .val (.long p1), .second, .val (.int p2), .val (.long (0 : Int64)), .second, .unset, .unset, .unset, .unset, .unset, .unset, .unset] [(.long ((0 : Int64) * ((p2 >>> ((3 : Int32) &&& 31)).toInt64)))])
        refine Go.step (fun _ k => XS.lstore X0.here hx rfl (hb hby at_42) rfl (l' := #[.val (.long p0), .second, .val (.long p1), .second, .val (.int p2), .val (.long (0 : Int64)), .second, .val (.long ((0 : Int64) * ((p2 >>> ((3 : Int32) &&& 31)).toInt64))), .second, .unset, .unset, .unset, .unset, .unset]) rfl k) ?_
        show Go _ _ _ _ _ _ _ T0 (mkF m 44 #[.val (.long p0), .second, .val (.long p1), .second, .val (.int p2), .val (.long (0 : Int64)), .second, .val (.long ((0 : Int64) * ((p2 >>> ((3 : Int32) &&& 31)).toInt64))), .second, .unset, .unset, .unset, .unset, .unset] [])
        refine Go.step (fun _ k => XS.goto X0.here hx rfl (pc0 := 44) (pc' := 50) rfl (hb hby at_44) (by decide) (by decide) k) ?_
        show Go _ _ _ _ _ _ _ T0 (mkF m 50 #[.val (.long p0), .second, .val (.long p1), .second, .val (.int p2), .val (.long (0 : Int64)), .second, .val (.long ((0 : Int64) * ((p2 >>> ((3 : Int32) &&& 31)).toInt64))), .second, .unset, .unset, .unset, .unset, .unset] [])
        exact w0b p0 p1 p2 (0 : Int64) ((0 : Int64) * ((p2 >>> ((3 : Int32) &&& 31)).toInt64)) X0 hx hZ hw hby hml hown hnm hret hlk e0 Z0 N0
    · refine Go.step (fun _ k => XS.ifNo X0.here hx rfl (hb hby at_18) rfl ((if0 _ _).trans (feq hc18_4).1) k) ?_
      show Go _ _ _ _ _ _ _ T0 (mkF m 21 #[.val (.long p0), .second, .val (.long p1), .second, .val (.int p2), .val (.long (0 : Int64)), .second, .unset, .unset, .unset, .unset, .unset, .unset, .unset] [])
      refine Go.step (fun _ k => XS.lconst X0.here hx rfl (hb hby at_21) k) ?_
      show Go _ _ _ _ _ _ _ T0 (mkF m 22 #[.val (.long p0), .second, .val (.long p1), .second, .val (.int p2), .val (.long (0 : Int64)), .second, .unset, .unset, .unset, .unset, .unset, .unset, .unset] [(.long (0 : Int64))])
      refine Go.step (fun _ k => XS.lstore X0.here hx rfl (hb hby at_22) rfl (l' := #[.val (.long p0), .second, .val (.long p1), .second, .val (.int p2), .val (.long (0 : Int64)), .second, .val (.long (0 : Int64)), .second, .unset, .unset, .unset, .unset, .unset]) rfl k) ?_
      show Go _ _ _ _ _ _ _ T0 (mkF m 24 #[.val (.long p0), .second, .val (.long p1), .second, .val (.int p2), .val (.long (0 : Int64)), .second, .val (.long (0 : Int64)), .second, .unset, .unset, .unset, .unset, .unset] [])
      refine Go.step (fun _ k => XS.goto X0.here hx rfl (pc0 := 24) (pc' := 50) rfl (hb hby at_24) (by decide) (by decide) k) ?_
      show Go _ _ _ _ _ _ _ T0 (mkF m 50 #[.val (.long p0), .second, .val (.long p1), .second, .val (.int p2), .val (.long (0 : Int64)), .second, .val (.long (0 : Int64)), .second, .unset, .unset, .unset, .unset, .unset] [])
      exact w0b p0 p1 p2 (0 : Int64) (0 : Int64) X0 hx hZ hw hby hml hown hnm hret hlk e0 Z0 N0
theorem pn_0 : plainName "com/example/cyclebreak/cyclebreak/cli/bench/TallyPerCommitPinLaw" = true := by first | (simp [plainName, overriddenIn]; done) | decide +kernel
theorem ef_rm0 (m : MethodId) (p0 : Int64) (p1 : Int64) (p2 : Int32) : entryFrame m #[(.long p0), (.long p1), (.int p2)] maxLocals = mkF m 0 #[.val (.long p0), .second, .val (.long p1), .second, .val (.int p2), .unset, .unset, .unset, .unset, .unset, .unset, .unset, .unset, .unset] [] := by first | (simp [entryFrame, mkF, argsToLocals, Value.category, maxLocals]; done) | rfl
theorem rm0 (l : Launch) (Z : State) (a0 : Array Value) (hw : ∀ d ∈ tables_1, d.before a0 Z = true) (ws : List Jvm.Cond) (p0 : Int64) (p1 : Int64) (p2 : Int32) (h0 : Heap) (n0 : Nat) (Z0 : n0 ≤ h0.size)  :
    MetFree l x (head1 (Jvm.Cond.code x code maxLocals ret :: ws) room_1) (fun a U => a = #[(.long p0), (.long p1), (.int p2)] ∧ Z.Warmed39 U.vm ∧ U.heap = h0) (fun _ _ _ _ _ => True) (fun _ U o U' => ∃ v L, o = .returned v ∧ (fun r h L => r = some (.int 1) ∧ Fr n0 L) v U'.heap L ∧ FrameEnd U o U' L room_1.cells room_1.slots) :=
  con_of (plainFor_of_name pn_0) (fun p_ e_ s_ m_ b_ meth_ c_ T_ X_ hx hZ hby hml hown hnm hret hlk e0 => Go.cast (ef_rm0 m_ p0 p1 p2) (w0 p0 p1 p2 X_ hx hZ hw hby hml hown hnm hret hlk e0 Z0 (Fr.nil n0) ))
set_option maxRecDepth 65536 in
set_option maxHeartbeats 40000000 in
theorem comes_1 {Post : Tables → Env → Array Value → State → Outcome → State → Prop} (hpost : ∀ tb e args s v u, (limb_1_1.after args s (.returned v) u = true ∧ limb_1_2.after args s (.returned v) u = true ∧ True) → FrameEnd s (.returned v) u (Jvm.fieldLocs frame_1_writes args s ++ Jvm.arrayLocs frame_1_arrays args s ++ Jvm.staticLocs frame_1_statics s) 16 128 → Post tb e args s (.returned v) u) :
    ArmFor flags0 classFile x code maxLocals ret World_1 tables_1 room_1 Calls_1 rest_1 Pre_1 Post := by
  intro l hfl _ _ p e ha hc hk s m args below hf hA hF happ hP
  obtain ⟨hcalls, hrest, hpre⟩ := hP
  obtain ⟨-, -, -, hnamed, -, -, -, hat⟩ := (Spec.applies_iff hf).mp happ
  obtain ⟨hg, hn⟩ := and_e (Cond.before_iff.mp (show (Jvm.Cond.and given_1 narrow_1).before args s = true from hpre))
  obtain ⟨g1, g2⟩ := and_e hg
  obtain ⟨g3, g4⟩ := and_e g2
  obtain ⟨g5, g6⟩ := and_e g4
  obtain ⟨w0, w1, w2, rfl⟩ : ∃ w0 w1 w2 : Value, args = #[w0, w1, w2] := by
    have hs : args.size = 3 := by simpa [Cond.value, given_1] using g1
    obtain ⟨L⟩ := args
    match L, hs with
    | [w0, w1, w2], _ => exact ⟨w0, w1, w2, rfl⟩
  have hw := fun d (hd : d ∈ tables_1) => atoms_spec (ws := Jvm.Cond.code x code maxLocals ret :: tables_1) hat d (List.mem_cons_of_mem _ hd)
  have hfit : Fit s := fun {y c} hc i hi => by
    obtain ⟨ha, rfl⟩ := Array.getElem?_eq_some_iff.mp hc
    have q := List.all_eq_true.mp ((Array.all_eq_true_iff_forall_mem.mp hF) _ (Array.getElem_mem ha)) i (List.mem_range.mpr hi)
    simpa [Array.getElem?_eq_getElem hi] using q
  obtain ⟨i0, ei0⟩ := isL_v g3
  obtain rfl : w0 = (.long i0) := Option.some.inj ei0
  obtain ⟨i1, ei1⟩ := isL_v g5
  obtain rfl : w1 = (.long i1) := Option.some.inj ei1
  obtain ⟨i2, ei2⟩ := is_v g6
  obtain rfl : w2 = (.int i2) := Option.some.inj ei2
  obtain ⟨n, o, h1, h2, h3, _, L, rfl, ⟨rfl, N⟩, hq⟩ := rm0 l s _ hw tables_1 i0 i1 i2 s.heap s.heap.size (Nat.le_refl _)  p e ha hc hk s m _ below hf ((Spec.applies_iff_loose hf).mp happ).1 ⟨rfl, State.Warmed39.refl s, rfl⟩ trivial
  refine ⟨n, _, h1, h2, h3, hpost _ _ _ _ _ _ ⟨Cond.after_iff.mpr rfl, Cond.after_iff.mpr (eq_i res_at (Term.int_eval (1)) rfl), trivial⟩ ⟨hq.1, hq.2.1, (hq.2.2.sift fun y hy => Or.inr (N y hy)).mono (by decide) (by decide)⟩⟩
theorem main_1_1 : Claimed_1_1 := comes_1 fun _ _ _ _ _ _ h hF => ⟨h.1, hF⟩
theorem main_1_2 : Claimed_1_2 := comes_1 fun _ _ _ _ _ _ h hF => ⟨h.2.1, hF⟩
end Jvm.Pilot.@@N@@
namespace Jvm.Pilot.@@N@@
open Jvm Jvm.ClassFile Sem Op Lib Jvm.Free Jvm.Stand Jvm.Pilot.@@N@@.Jvm.D
/-! MADE BY PROGRAM (witnessworld.py) out of the Statement's table words and the real class files: 8 classes; the members and pool entries that the words name. The judged class is class 1, her method 1. -/
namespace start1
open Jvm.ClassFile
def u (s : String) : CpInfo := .utf8 (stringToUtf16 s)
/-- a pool by its gaps: so many unusable entries, then the entry; so many at the end -/
def gap : Nat → List CpInfo → List CpInfo
  | 0, r => r
  | n + 1, r => .unusable :: gap n r
def poolList (es : List (Nat × CpInfo)) (last : Nat) : List CpInfo := es.foldr (fun e r => gap e.1 (e.2 :: r)) (gap last [])
def pool (es : List (Nat × CpInfo)) (last : Nat) : Array CpInfo := ⟨poolList es last⟩
def fileOf (pool : Array CpInfo) (this : Nat) (attrs : Array Attribute := #[]) (ms : Array MethodInfo := #[]) (fl : Nat := 33) (sup : Nat := 0) (ifs : Array Nat := #[]) (fds : Array FieldInfo := #[]) : ClassFile where
  minorVersion := 0
  majorVersion := 65
  constantPool := pool
  accessFlags := fl
  thisClass := this
  superClass := sup
  interfaces := ifs
  fields := fds
  methods := ms
  attributes := attrs
def plain (name : String) (sup : Option ClassId) : Class where
  name := name
  kind := .ordinary
  loader := none
  accessFlags := 33
  super := sup
  interfaces := #[]
  cf := none
  fields := #[]
  methods := #[]
  instanceTypes := #[]
  staticTypes := #[]
  resolved := #[]
  callSites := []
  init := .initialized
  statics := none
  mirror := none

def pool0 : Array CpInfo := pool [(5, u "<init>"), (0, u "()V"), (1, .class_ 10), (1, u "java/lang/Object")] 113

def k0c0 : Code := { maxStack := 0, maxLocals := 1, code := object_method_1_code, exceptionTable := #[], attributes := #[] }
def k0m0 : Method := { name := "<init>", desc := "()V", sig := { parameters := [], returnType := none }, accessFlags := 1, code := some k0c0 }
/-- java/lang/Object -/
def k0 : Class := { plain "java/lang/Object" none with
  accessFlags := 33
  interfaces := #[]
  cf := some (fileOf pool0 8 #[] #[{ accessFlags := 1, nameIndex := 5, descriptorIndex := 6, attributes := #[] }] 33 0 #[] #[])
  fields := #[]
  methods := #[k0m0]
  instanceTypes := #[]
  staticTypes := #[]
  resolved := Array.replicate 124 none
  statics := none }

def pool1 : Array CpInfo := pool [(2, .class_ 4), (1, u "java/lang/Object"), (0, u "<init>"), (0, u "()V"), (0, .class_ 8), (0, u "com/example/cyclebreak/cyclebreak/cli/bench/SharedStore$Tally"), (0, .methodref 7 10), (0, .nameAndType 5 11), (0, u "(JLjava/util/Map;)V"), (0, .methodref 7 13), (0, .nameAndType 14 15), (0, u "perCommit"), (0, u "(J)D"), (0, .double 9218868437227405312), (1, .long 9007199254740992), (1, .class_ 21), (0, u "com/example/cyclebreak/cyclebreak/cli/bench/TallyPerCommitPinLaw"), (2, u "law"), (0, u "(JJI)Z")] 7

def k1m0 : Method := { name := "<init>", desc := "()V", sig := { parameters := [], returnType := none }, accessFlags := 1, code := none }
def k1c1 : Code := { maxStack := 6, maxLocals := 14, code := code, exceptionTable := #[], attributes := #[] }
def k1m1 : Method := { name := "law", desc := "(JJI)Z", sig := { parameters := [.long, .long, .int], returnType := some .boolean }, accessFlags := 9, code := some k1c1 }
/-- com/example/cyclebreak/cyclebreak/cli/bench/TallyPerCommitPinLaw -/
def k1 : Class := { plain "com/example/cyclebreak/cyclebreak/cli/bench/TallyPerCommitPinLaw" (some 0) with
  accessFlags := 49
  interfaces := #[]
  cf := some (fileOf pool1 20 #[] #[{ accessFlags := 1, nameIndex := 5, descriptorIndex := 6, attributes := #[] }, { accessFlags := 9, nameIndex := 24, descriptorIndex := 25, attributes := #[] }] 49 2 #[] #[])
  fields := #[]
  methods := #[k1m0, k1m1]
  instanceTypes := #[]
  staticTypes := #[]
  resolved := Array.replicate 33 none
  statics := none }

def pool2 : Array CpInfo := pool [(1, .methodref 2 3), (0, .class_ 4), (0, .nameAndType 5 6), (0, u "java/lang/Object"), (0, u "<init>"), (0, u "()V"), (0, .class_ 8), (0, u "java/lang/Record")] 13

def k2c0 : Code := { maxStack := 1, maxLocals := 1, code := jdk_30_method_1_code, exceptionTable := #[], attributes := #[] }
def k2m0 : Method := { name := "<init>", desc := "()V", sig := { parameters := [], returnType := none }, accessFlags := 4, code := some k2c0 }
/-- java/lang/Record -/
def k2 : Class := { plain "java/lang/Record" (some 0) with
  accessFlags := 1057
  interfaces := #[]
  cf := some (fileOf pool2 7 #[] #[{ accessFlags := 4, nameIndex := 5, descriptorIndex := 6, attributes := #[] }] 1057 2 #[] #[])
  fields := #[]
  methods := #[k2m0]
  instanceTypes := #[]
  staticTypes := #[]
  resolved := Array.replicate 22 none
  statics := none }

def pool3 : Array CpInfo := pool [(1, .methodref 2 3), (0, .class_ 4), (0, .nameAndType 5 6), (0, u "java/lang/Record"), (0, u "<init>"), (0, u "()V"), (0, .fieldref 8 9), (0, .class_ 10), (0, .nameAndType 11 12), (0, u "com/example/cyclebreak/cyclebreak/cli/bench/SharedStore$Tally"), (0, u "committed"), (0, u "J"), (0, .fieldref 8 14), (0, .nameAndType 15 16), (0, u "aborted"), (0, u "Ljava/util/Map;"), (18, .double 9218868437227405312), (26, u "(JLjava/util/Map;)V"), (26, u "NONE"), (0, u "Lcom/example/cyclebreak/cyclebreak/cli/bench/SharedStore$Tally;"), (7, u "perCommit"), (0, u "(J)D"), (13, .class_ 114), (0, u "com/example/cyclebreak/cyclebreak/cli/bench/SharedStore")] 42

def k3c0 : Code := { maxStack := 3, maxLocals := 4, code := prog_24_method_1_code, exceptionTable := #[], attributes := #[] }
def k3m0 : Method := { name := "<init>", desc := "(JLjava/util/Map;)V", sig := { parameters := [.long, (.object "java/util/Map")], returnType := none }, accessFlags := 0, code := some k3c0 }
def k3c1 : Code := { maxStack := 4, maxLocals := 3, code := prog_24_method_3_code, exceptionTable := #[], attributes := #[] }
def k3m1 : Method := { name := "perCommit", desc := "(J)D", sig := { parameters := [.long], returnType := some .double }, accessFlags := 0, code := some k3c1 }
/-- com/example/cyclebreak/cyclebreak/cli/bench/SharedStore$Tally -/
def k3 : Class := { plain "com/example/cyclebreak/cyclebreak/cli/bench/SharedStore$Tally" (some 2) with
  accessFlags := 48
  interfaces := #[]
  cf := some (fileOf pool3 8 #[.nestHost 113] #[{ accessFlags := 0, nameIndex := 5, descriptorIndex := 62, attributes := #[] }, { accessFlags := 0, nameIndex := 98, descriptorIndex := 99, attributes := #[] }] 48 2 #[] #[{ accessFlags := 18, nameIndex := 11, descriptorIndex := 12, attributes := #[] }, { accessFlags := 18, nameIndex := 15, descriptorIndex := 16, attributes := #[] }, { accessFlags := 24, nameIndex := 89, descriptorIndex := 90, attributes := #[] }])
  fields := #[{ name := "committed", type := .long, accessFlags := 18, slot := 0, constantValue := 0 }, { name := "aborted", type := (.object "java/util/Map"), accessFlags := 18, slot := 1, constantValue := 0 }, { name := "NONE", type := (.object "com/example/cyclebreak/cyclebreak/cli/bench/SharedStore$Tally"), accessFlags := 24, slot := 0, constantValue := 0 }]
  methods := #[k3m0, k3m1]
  instanceTypes := #[.long, (.object "java/util/Map")]
  staticTypes := #[(.object "com/example/cyclebreak/cyclebreak/cli/bench/SharedStore$Tally")]
  resolved := Array.replicate 157 none
  statics := none }

def pool4 : Array CpInfo := pool [(1, u "java/lang/Cloneable"), (0, .class_ 1), (0, u "java/lang/Object"), (0, .class_ 3)] 3

/-- java/lang/Cloneable -/
def k4 : Class := { plain "java/lang/Cloneable" (some 0) with
  accessFlags := 1537
  interfaces := #[]
  cf := some (fileOf pool4 2 #[] #[] 1537 4 #[] #[])
  fields := #[]
  methods := #[]
  instanceTypes := #[]
  staticTypes := #[]
  resolved := Array.replicate 8 none
  statics := none }

def pool5 : Array CpInfo := pool [(1, u "java/io/Serializable"), (0, .class_ 1), (0, u "java/lang/Object"), (0, .class_ 3)] 3

/-- java/io/Serializable -/
def k5 : Class := { plain "java/io/Serializable" (some 0) with
  accessFlags := 1537
  interfaces := #[]
  cf := some (fileOf pool5 2 #[] #[] 1537 4 #[] #[])
  fields := #[]
  methods := #[]
  instanceTypes := #[]
  staticTypes := #[]
  resolved := Array.replicate 8 none
  statics := none }

/-- the primitive byte -/
def k6 : Class := { plain "byte" none with kind := .primitive 'B', accessFlags := 0x411 }
/-- [B -/
def k7 : Class := { plain "[B" (some 0) with kind := .array 6 .byte, interfaces := #[4, 5], accessFlags := 1041 }

def heap : Heap := #[]
def classes : Array Class := #[k0, k1, k2, k3, k4, k5, k6, k7]
def interned : List (Array UInt16 × Addr) := []
def slotsUsed : Nat := 0
def theMethod : MethodId := ⟨1, 1⟩
def args0 : Array Value := #[.long 5, .long 7, .int 3]
def aboutOver (below : List Frame) : State where
  vm := { classes := classes, interned := interned.toArray }
  heap := heap
  slotsUsed := slotsUsed
  threads := #[{ frames := .invoking theMethod args0 :: below }]
def below0 : List Frame := [.native { method := ⟨0, 0⟩, args := #[] }]
def about1 : State := aboutOver below0
def p0 : Program := .bare "" "" ""
def e0 : Env := launch0.env 0 0 0
theorem w_frames : about1.frames = Frame.invoking theMethod args0 :: below0 := rfl
set_option maxRecDepth 65536 in
theorem w_args : argsFit about1.vm theMethod args0 = true := by decide +kernel
set_option maxRecDepth 65536 in
theorem w_heap : heapFits about1 = true := by decide +kernel
set_option maxRecDepth 65536 in
theorem w_runnable : about1.curStatus? = some .runnable := by decide +kernel
set_option maxRecDepth 65536 in
theorem w_alone : about1.alone = true := by decide +kernel
set_option maxRecDepth 65536 in
theorem w_named : about1.methodNamed? x = some theMethod := by decide +kernel
set_option maxRecDepth 65536 in
theorem w_hears : about1.hears theMethod below0 = true := by decide +kernel
set_option maxRecDepth 65536 in
theorem w_ripe : about1.ripe theMethod args0 below0 = true := by decide +kernel
theorem w_running : about1.status = .running := rfl
set_option maxRecDepth 65536 in
theorem w_room : about1.hasRoom e0.platform room_1 = true :=
  launch0.hasRoom_least _ room_1 (by decide +kernel) (by decide +kernel) (by decide +kernel) (by decide +kernel) (by decide +kernel) (by decide +kernel)
theorem allAtoms_all (ts : List Jvm.Cond) (a : Array Jvm.Value) (st : Jvm.State) : (allAtoms ts).before a st = ts.all (fun c => c.before a st) := by
  induction ts with
  | nil => rfl
  | cons c t ih =>
    show (Jvm.Cond.and c (allAtoms t)).before a st = _
    rw [Jvm.Cond.before_and, ih, List.all_cons]
def words1 : List Jvm.Cond := Jvm.Cond.code x code maxLocals ret :: tables_1
/-- a 'code' word, met by the world's own term for the bytes: nothing is compared byte by byte -/
theorem code_word {y : MethodName} {bytes : ByteArray} {mx : Nat} {rt : Option FieldType} {a : Array Value} {s : State} {m : MethodId} {meth : Method} {c : Code} (h1 : s.methodNamed? y = some m) (h2 : s.vm.method? m = some meth) (h3 : meth.code = some c) (h4 : c.code = bytes)
    (h5 : (c.maxLocals == mx && c.exceptionTable.isEmpty && decide (c.maxStack ≤ mostOperands) && decide (meth.sig.returnType = rt) && !meth.locks && decide (parseMethodDescriptor y.desc = some meth.sig)) = true) : (Jvm.Cond.code y bytes mx rt).before a s = true := by
  simp only [Bool.and_eq_true, beq_iff_eq, Bool.not_eq_true', decide_eq_true_eq] at h5
  obtain ⟨⟨⟨⟨⟨g1, g2⟩, g3⟩, g4⟩, g5⟩, g6⟩ := h5
  simp [Cond.before, Cond.holds, Cond.value, h1, h2, h3, h4, g1, g2, g3, g4, g5, g6]
def isCode : Jvm.Cond → Bool
  | .code _ _ _ _ => true
  | _ => false
theorem all_split {L : List Jvm.Cond} {P : Jvm.Cond → Bool} (h1 : L.all (fun c => isCode c || P c) = true) (h2 : ∀ c ∈ L.filter isCode, P c = true) : L.all P = true := by
  refine List.all_eq_true.mpr fun c hc => ?_
  have h := List.all_eq_true.mp h1 c hc
  rcases Bool.eq_false_or_eq_true (isCode c) with hi | hi
  · exact h2 c (List.mem_filter.mpr ⟨hc, hi⟩)
  · simpa [hi] using h
set_option maxRecDepth 65536 in
theorem w_c0 : (Jvm.Cond.code x code maxLocals ret).before args0 about1 = true := code_word (m := ⟨1, 1⟩) (meth := k1m1) (c := k1c1) (by decide +kernel) rfl rfl rfl (by decide +kernel)
set_option maxRecDepth 65536 in
theorem w_c1 : (Jvm.Cond.code ({ cls := "com/example/cyclebreak/cyclebreak/cli/bench/SharedStore$Tally", name := "<init>", desc := "(JLjava/util/Map;)V" } : Jvm.MethodName) prog_24_method_1_code (4 : Nat) (Option.none : Option Jvm.ClassFile.FieldType)).before args0 about1 = true := code_word (m := ⟨3, 0⟩) (meth := k3m0) (c := k3c0) (by decide +kernel) rfl rfl rfl (by decide +kernel)
set_option maxRecDepth 65536 in
theorem w_c2 : (Jvm.Cond.code ({ cls := "java/lang/Record", name := "<init>", desc := "()V" } : Jvm.MethodName) jdk_30_method_1_code (1 : Nat) (Option.none : Option Jvm.ClassFile.FieldType)).before args0 about1 = true := code_word (m := ⟨2, 0⟩) (meth := k2m0) (c := k2c0) (by decide +kernel) rfl rfl rfl (by decide +kernel)
set_option maxRecDepth 65536 in
theorem w_c3 : (Jvm.Cond.code ({ cls := "java/lang/Object", name := "<init>", desc := "()V" } : Jvm.MethodName) object_method_1_code (1 : Nat) (Option.none : Option Jvm.ClassFile.FieldType)).before args0 about1 = true := code_word (m := ⟨0, 0⟩) (meth := k0m0) (c := k0c0) (by decide +kernel) rfl rfl rfl (by decide +kernel)
set_option maxRecDepth 65536 in
theorem w_c4 : (Jvm.Cond.code ({ cls := "com/example/cyclebreak/cyclebreak/cli/bench/SharedStore$Tally", name := "perCommit", desc := "(J)D" } : Jvm.MethodName) prog_24_method_3_code (3 : Nat) (Option.some Jvm.ClassFile.FieldType.double)).before args0 about1 = true := code_word (m := ⟨3, 1⟩) (meth := k3m1) (c := k3c1) (by decide +kernel) rfl rfl rfl (by decide +kernel)
def codes1 : List Jvm.Cond := [Jvm.Cond.code x code maxLocals ret, Jvm.Cond.code ({ cls := "com/example/cyclebreak/cyclebreak/cli/bench/SharedStore$Tally", name := "<init>", desc := "(JLjava/util/Map;)V" } : Jvm.MethodName) prog_24_method_1_code (4 : Nat) (Option.none : Option Jvm.ClassFile.FieldType), Jvm.Cond.code ({ cls := "java/lang/Record", name := "<init>", desc := "()V" } : Jvm.MethodName) jdk_30_method_1_code (1 : Nat) (Option.none : Option Jvm.ClassFile.FieldType), Jvm.Cond.code ({ cls := "java/lang/Object", name := "<init>", desc := "()V" } : Jvm.MethodName) object_method_1_code (1 : Nat) (Option.none : Option Jvm.ClassFile.FieldType), Jvm.Cond.code ({ cls := "com/example/cyclebreak/cyclebreak/cli/bench/SharedStore$Tally", name := "perCommit", desc := "(J)D" } : Jvm.MethodName) prog_24_method_3_code (3 : Nat) (Option.some Jvm.ClassFile.FieldType.double)]
set_option maxRecDepth 65536 in
theorem codes_eq : words1.filter isCode = codes1 := rfl
theorem w_codes : ∀ c ∈ words1.filter isCode, c.before args0 about1 = true := by
  rw [codes_eq]
  intro c hc
  simp only [codes1, List.mem_cons, List.not_mem_nil, or_false] at hc
  rcases hc with rfl | rfl | rfl | rfl | rfl
  · exact w_c0
  · exact w_c1
  · exact w_c2
  · exact w_c3
  · exact w_c4
set_option maxRecDepth 65536 in
theorem w_t1 : (words1.take 24).all (fun c => isCode c || c.before args0 about1) = true := by decide +kernel
set_option maxRecDepth 65536 in
theorem w_t2 : (words1.drop 24).all (fun c => isCode c || c.before args0 about1) = true := by decide +kernel
theorem w_tables : (allAtoms (Jvm.Cond.code x code maxLocals ret :: tables_1)).before args0 about1 = true := by
  rw [allAtoms_all]
  show words1.all (fun c => c.before args0 about1) = true
  refine all_split ?_ w_codes
  rw [← List.take_append_drop 24 words1, List.all_append, w_t1, w_t2]
  rfl
set_option maxRecDepth 65536 in
theorem w_case : (Jvm.Cond.and given_1 narrow_1).before args0 about1 = true := by decide +kernel
theorem w_applies : (headSpec (Jvm.Cond.code x code maxLocals ret :: tables_1) room_1).applies x e0.platform about1 = true :=
  (Spec.applies_iff w_frames).mpr ⟨w_running, w_runnable, w_alone, w_named, w_hears, w_ripe, w_room, w_tables⟩
theorem atStart : AtStart classFile x code maxLocals ret World_1 tables_1 room_1 Calls_1 rest_1 Pre_1 launch0 p0 e0 about1 theMethod args0 below0 :=
  ⟨lists_1, trivial, launch0.admits_env _ _ _, launch0.least_env, fairChoices_fair.cas, fairChoices_fair.clock, w_frames, w_args, w_heap, w_applies, trivial, trivial, w_case⟩
end start1
theorem witness_1 : WitnessClaimed_1 := ⟨start1.p0, start1.e0, start1.about1, start1.theMethod, start1.args0, start1.below0, start1.atStart⟩
end Jvm.Pilot.@@N@@
