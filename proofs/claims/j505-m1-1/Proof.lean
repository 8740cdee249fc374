import JvmDerived
import JvmDerived.Pilot.@@N@@Statement
import JvmDerived.Pilot.@@N@@Code
set_option linter.unusedVariables false
set_option linter.unusedSimpArgs false
namespace Jvm.Pilot.@@N@@
open Jvm Jvm.ClassFile Sem Op Lib Jvm.Free Jvm.Stand Jvm.LawKit Jvm.RoadKit Bundle Jvm.Pilot.@@N@@.Jvm.D
section OwnKit
variable {p : Program} {l : Launch} {e : Env} {R : Room} {s : State} {m : MethodId} {args : Array Value} {below : List Frame} {meth : Method} {c : Code} {T : State} {locs : List Loc} {cells slots : Nat} {Z : State} {a0 : Array Value} {h : Heap} {Q : Option Value → Heap → List Loc → Prop} {C S : Nat} {F : State → Outcome → Prop}
/-- what is left of a walk: from T with the top frame g the invocation comes to its end, and F holds there -/
def Go (p : Program) (e : Env) (below : List Frame) (F : State → Outcome → Prop) (T : State) (g : JFrame) : Prop :=
  ∃ t o, Steps p.tables e below (T.setTop g) t ∧ t.status = .running ∧ Ended t below o ∧ F t o
/-- it returned, Q holds, and no more has changed than the frame says -/
def FN (s : State) (Q : Option Value → Heap → List Loc → Prop) (C S : Nat) (t : State) (o : Outcome) : Prop := ∃ v L, o = .returned v ∧ Q v t.heap L ∧ FrameEnd s o t L C S
theorem Go.of {T' : State} {g g' : JFrame} (h : ∀ t, Steps p.tables e below (T'.setTop g') t → Steps p.tables e below (T.setTop g) t) (k : Go p e below F T' g') : Go p e below F T g := by
  obtain ⟨t, o, h1, h2⟩ := k
  exact ⟨t, o, h _ h1, h2⟩
theorem Go.cast {g g' : JFrame} (q : g = g') (k : Go p e below F T g') : Go p e below F T g := q ▸ k
theorem Go.ret (X : Stand p l e R s m args below meth c T locs cells slots) {v : Option Value} {g : JFrame} (hlk : meth.locks = false) (hv : meth.sig.returnType = none → v = none)
    (st : ∀ fs, (∀ (f : JFrame) (acts : List Action), f.method = m → f.locked = none → f.entered = [] → (doReturn e (T.setTop f) acts v).1 = T.setFrames fs) → Steps p.tables e below (T.setTop g) (T.setFrames fs))
    (hc : cells ≤ C) (hs : slots ≤ S) (hQ : Q v T.heap locs) : Go p e below (FN s Q C S) T g := by
  obtain ⟨fs, hr, hrun, hended, hW, hsame⟩ := X.leave (v := v) hv hlk
  exact ⟨_, _, st fs hr, hrun, hended, _, _, rfl, hQ, ⟨_, rfl⟩, hW, hsame.mono hc hs⟩
theorem Go.retI (X : Stand p l e R s m args below meth c T locs cells slots) (hx : p.tables.exec = Jvm.exec) (hlk : meth.locks = false) {pc : Nat} {Ls : Array Slot} {z : Int32} {rest : List Value} (hret : meth.sig.returnType = some .int) (hd : decode c.code pc = .ok (.ireturn, 1))
    (hc : cells ≤ C) (hs : slots ≤ S) (hQ : Q (some (.int z)) T.heap locs) : Go p e below (FN s Q C S) T (mkF m pc Ls (.int z :: rest)) :=
  Go.ret X hlk (fun h => by rw [hret] at h; cases h) (fun _ hr => retOut X hx hret rfl (Or.inl ⟨rfl, Or.inl rfl, _, rfl⟩) hd hr) hc hs hQ
theorem Go.retN (X : Stand p l e R s m args below meth c T locs cells slots) (hx : p.tables.exec = Jvm.exec) (hlk : meth.locks = false) {pc : Nat} {Ls : Array Slot} {z : Int32} {rest : List Value} {t : FieldType} (hret : meth.sig.returnType = some t) (ht : t = .boolean ∨ t = .byte ∨ t = .char ∨ t = .short) (hd : decode c.code pc = .ok (.ireturn, 1))
    (hc : cells ≤ C) (hs : slots ≤ S) (hQ : Q (some (.int (nar t z))) T.heap locs) : Go p e below (FN s Q C S) T (mkF m pc Ls (.int z :: rest)) :=
  Go.ret X hlk (fun h => by rw [hret] at h; cases h) (fun _ hr => Jvm.RoadKit.retN X hx hret ht hd hr) hc hs hQ
theorem Go.retA (X : Stand p l e R s m args below meth c T locs cells slots) (hx : p.tables.exec = Jvm.exec) (hlk : meth.locks = false) {pc : Nat} {Ls : Array Slot} {w : Value} {rest : List Value} {t : FieldType} (hret : meth.sig.returnType = some t) (ht : t.isReference = true) (hw : w.isRef = true) (hd : decode c.code pc = .ok (.areturn, 1))
    (hc : cells ≤ C) (hs : slots ≤ S) (hQ : Q (some w) T.heap locs) : Go p e below (FN s Q C S) T (mkF m pc Ls (w :: rest)) :=
  Go.ret X hlk (fun h => by rw [hret] at h; cases h) (fun _ hr => retOut X hx hret (by cases t <;> cases w <;> first | rfl | (simp [FieldType.isReference] at ht) | (simp [Value.isRef] at hw)) (Or.inr (Or.inr (Or.inr (Or.inr ⟨rfl, ht, hw⟩)))) hd hr) hc hs hQ
theorem Go.retV (X : Stand p l e R s m args below meth c T locs cells slots) (hx : p.tables.exec = Jvm.exec) (hlk : meth.locks = false) {pc : Nat} {Ls : Array Slot} (hret : meth.sig.returnType = none) (hd : decode c.code pc = .ok (.return_, 1))
    (hc : cells ≤ C) (hs : slots ≤ S) (hQ : Q none T.heap locs) : Go p e below (FN s Q C S) T (mkF m pc Ls []) :=
  Go.ret X hlk (fun _ => rfl) (fun _ hr => X.returnOut hx hret hd hr) hc hs hQ
/-- a body's contract at given arguments and a given heap -/
def Ct (l : Launch) (y : MethodName) (bytes : ByteArray) (maxL : Nat) (ret : Option FieldType) (rm : Room) (Z : State) (h0 : Heap) (as' : Array Value) (Q : Option Value → Heap → List Loc → Prop) : Prop :=
  ∀ ws, MetFree l y (head1 (Jvm.Cond.code y bytes maxL ret :: ws) rm) (fun a U => a = as' ∧ Z.Warmed39 U.vm ∧ U.heap = h0) (fun _ _ _ _ _ => True) (fun _ U o U' => ∃ v L, o = .returned v ∧ Q v U'.heap L ∧ FrameEnd U o U' L rm.cells rm.slots)
theorem Ct.body {y : MethodName} {bytes : ByteArray} {maxL : Nat} {ret : Option FieldType} {rm : Room} {as' : Array Value} (hpl : plainFor y = true)
    (k : ∀ (p : Program) (e : Env) (s : State) (m : MethodId) (below : List Frame) (meth : Method) (c : Code) (T : State), p.tables.exec = Jvm.exec → c.code = bytes → c.maxLocals = maxL → s.vm.findClass y.cls = some m.cls → meth.name = y.name → meth.sig.returnType = ret → meth.locks = false → Z.Warmed39 s.vm →
      Stand p l e rm s m as' below meth c T [] 0 0 → T.heap = h → Go p e below (FN s Q rm.cells rm.slots) T (entryFrame m as' maxL)) : Ct l y bytes maxL ret rm Z h as' Q := fun ws => by
  refine MetFree.of_bodySF hpl hisR ?_
  intro p e s m args below meth c s₁ Bd hml0 hP hK
  obtain ⟨rfl, hZ, hh⟩ := hP
  exact k p e s m below meth c s₁ Bd.exec Bd.bytes hml0 (findClass_of_methodNamed Bd.named) (name_of_methodNamed Bd.named Bd.method).1 Bd.returns Bd.notSynchronized hZ (Stand.of_body Bd) (by rw [← hh, Bd.state]; rfl)
theorem Go.callS (X : Stand p l e R s m args below meth c T locs cells slots) (hx : p.tables.exec = Jvm.exec) (hZ : Z.Warmed39 s.vm) {own : String} {index : Nat} {y : MethodName} {bytes : ByteArray} {maxL : Nat} {ret : Option FieldType} (hown : s.vm.findClass own = some m.cls)
    (wl : (Jvm.Cond.methodLink own index y).before a0 Z = true) (wst : (Jvm.Cond.static y).before a0 Z = true) (wz : (Jvm.Cond.initialized y.cls).before a0 Z = true) (wc : (Jvm.Cond.code y bytes maxL ret).before a0 Z = true) (hy : y.cls ≠ "java/lang/invoke/MethodHandle" ∧ y.cls ≠ "java/lang/invoke/VarHandle")
    (eT : T.heap = h) {rm : Room} {argsL rest : List Value} {Q' : Option Value → Heap → List Loc → Prop} (hC : Ct l y bytes maxL ret rm Z h argsL.toArray Q') {pc : Nat} {Ls : Array Slot} {st : List Value} (hsz : Ls.size = c.maxLocals)
    (hlen : ∀ sig, parseMethodDescriptor y.desc = some sig → argsL.length = sig.parameters.length) (hst : st = argsL.reverse ++ rest) (hd : decode c.code pc = .ok (.invokestatic index, 3)) (hf : rm.frames + 1 ≤ R.frames) (hl : (rest.map fun v => v.category).sum + (maxL + 11) + rm.locals ≤ R.locals) (hc : cells + rm.cells ≤ R.cells) (hs : slots + rm.slots ≤ R.slots)
    (k : ∀ v T' L, Q' v T'.heap L → Stand p l e R s m args below meth c T' (locs ++ L) (cells + rm.cells) (slots + rm.slots) → Go p e below F T' (mkF m (pc + 3) Ls (v.toList ++ rest))) :
    Go p e below F T (mkF m pc Ls st) := by
  obtain ⟨v, _, ⟨T', L', k', n'⟩, -, X', ⟨L, hQ, l1, y1, z1⟩, stp⟩ := Jvm.LawKit.callS X hx (y := y) hown (mvT hZ wl) (mvT hZ wst) (mvT hZ wz) (mvT hZ wc) hy (backOf (W := (rest.map fun v => v.category).sum) (hC []) hZ wc wz hf hl) (g := mkF m pc Ls st) rfl hsz (argsL := argsL) (rest := rest) hlen hst (by show 2 * 0 + _ ≤ _; exact Nat.le_of_eq (Nat.zero_add _)) hd (fun _ _ => ⟨rfl, eT, hc, hs⟩)
  dsimp only [Pt.U, Pt.locs, Pt.cells, Pt.slots] at X' l1 y1 z1 stp hQ
  subst l1 y1 z1
  exact Go.of stp (k _ _ _ hQ X')
theorem Go.callV (X : Stand p l e R s m args below meth c T locs cells slots) (hx : p.tables.exec = Jvm.exec) (hZ : Z.Warmed39 s.vm) {own K : String} {index : Nat} {y z : MethodName} {bytes : ByteArray} {maxL : Nat} {ret : Option FieldType} (hown : s.vm.findClass own = some m.cls)
    (wl : (Jvm.Cond.methodLink own index y).before a0 Z = true) (wd : (Jvm.Cond.declares y).before a0 Z = true) (nf : NotFace s y) (wsel : (Jvm.Cond.selects K y z).before a0 Z = true) (wim : (Jvm.Cond.instanceMethod z).before a0 Z = true) (wc : (Jvm.Cond.code z bytes maxL ret).before a0 Z = true) (wz : (Jvm.Cond.initialized z.cls).before a0 Z = true) (hy : y.cls ≠ "java/lang/invoke/MethodHandle" ∧ y.cls ≠ "java/lang/invoke/VarHandle")
    (eT : T.heap = h) {b : Addr} (E : Exa Z h b K) {rm : Room} {argsL rest : List Value} {Q' : Option Value → Heap → List Loc → Prop} (hC : Ct l z bytes maxL ret rm Z h (.ref b :: argsL).toArray Q') {pc : Nat} {Ls : Array Slot} {st : List Value} (hsz : Ls.size = c.maxLocals)
    (hlen : ∀ sig, parseMethodDescriptor y.desc = some sig → argsL.length = sig.parameters.length) (hst : st = argsL.reverse ++ .ref b :: rest) (hd : decode c.code pc = .ok (.invokevirtual index, 3)) (hf : rm.frames + 1 ≤ R.frames) (hl : (rest.map fun v => v.category).sum + (maxL + 11) + rm.locals ≤ R.locals) (hc : cells + rm.cells ≤ R.cells) (hs : slots + rm.slots ≤ R.slots)
    (k : ∀ v T' L, Q' v T'.heap L → Stand p l e R s m args below meth c T' (locs ++ L) (cells + rm.cells) (slots + rm.slots) → Go p e below F T' (mkF m (pc + 3) Ls (v.toList ++ rest))) :
    Go p e below F T (mkF m pc Ls st) := by
  obtain ⟨cq, kq, qa, qb, qc⟩ := isOf hZ eT E
  obtain ⟨v, _, ⟨T', L', k', n'⟩, -, X', ⟨L, hQ, l1, y1, z1⟩, stp⟩ := X.virtualBack hx (y := y) (z := z) hown (mvT hZ wl) (mvT hZ wd) nf (mvT hZ wsel) (mvT hZ wim) hy (backOf (W := (rest.map fun v => v.category).sum) (hC []) hZ wc wz hf hl) qa qc (g := mkF m pc Ls st) rfl hsz (Steps.refl _) (argsL := argsL) (rest := rest) hlen hst (by show 2 * 0 + _ ≤ _; exact Nat.le_of_eq (Nat.zero_add _)) hd (fun _ _ => ⟨rfl, eT, hc, hs⟩)
  dsimp only [Pt.U, Pt.locs, Pt.cells, Pt.slots] at X' l1 y1 z1 stp hQ
  subst l1 y1 z1
  exact Go.of (fun t q => stp.trans q) (k _ _ _ hQ X')
theorem Go.callC (X : Stand p l e R s m args below meth c T locs cells slots) (hx : p.tables.exec = Jvm.exec) (hZ : Z.Warmed39 s.vm) {own : String} {index : Nat} {y : MethodName} {bytes : ByteArray} {maxL : Nat} (hy1 : y.name = "<init>") (hown : s.vm.findClass own = some m.cls)
    (wl : (Jvm.Cond.methodLink own index y).before a0 Z = true) (wim : (Jvm.Cond.instanceMethod y).before a0 Z = true) (wc : (Jvm.Cond.code y bytes maxL none).before a0 Z = true) (wz : (Jvm.Cond.initialized y.cls).before a0 Z = true) (hy : y.cls ≠ "java/lang/invoke/MethodHandle" ∧ y.cls ≠ "java/lang/invoke/VarHandle")
    (eT : T.heap = h) {b : Addr} {rm : Room} {argsL rest : List Value} {Q' : Option Value → Heap → List Loc → Prop} (hC : Ct l y bytes maxL none rm Z h (.ref b :: argsL).toArray Q') {pc : Nat} {Ls : Array Slot} {st : List Value} (hsz : Ls.size = c.maxLocals)
    (hlen : ∀ sig, parseMethodDescriptor y.desc = some sig → argsL.length = sig.parameters.length) (hst : st = argsL.reverse ++ .ref b :: rest) (hd : decode c.code pc = .ok (.invokespecial index, 3)) (hf : rm.frames + 1 ≤ R.frames) (hl : (rest.map fun v => v.category).sum + (maxL + 11) + rm.locals ≤ R.locals) (hc : cells + rm.cells ≤ R.cells) (hs : slots + rm.slots ≤ R.slots)
    (k : ∀ v T' L, Q' v T'.heap L → Stand p l e R s m args below meth c T' (locs ++ L) (cells + rm.cells) (slots + rm.slots) → Go p e below F T' (mkF m (pc + 3) Ls (v.toList ++ rest))) :
    Go p e below F T (mkF m pc Ls st) := by
  obtain ⟨v, _, ⟨T', L', k', n'⟩, -, X', ⟨L, hQ, l1, y1, z1⟩, stp⟩ := X.specialBack hx (y := y) hy1 hown (mvT hZ wl) (mvT hZ wim) (mvT hZ wc) hy (backOf (W := (rest.map fun v => v.category).sum) (hC []) hZ wc wz hf hl) (g := mkF m pc Ls st) rfl hsz (Steps.refl _) (a := b) (argsL := argsL) (rest := rest) hlen hst (by show 2 * 0 + _ ≤ _; exact Nat.le_of_eq (Nat.zero_add _)) hd (fun _ _ => ⟨rfl, eT, hc, hs⟩)
  dsimp only [Pt.U, Pt.locs, Pt.cells, Pt.slots] at X' l1 y1 z1 stp hQ
  subst l1 y1 z1
  exact Go.of (fun t q => stp.trans q) (k _ _ _ hQ X')
theorem Go.getF (X : Stand p l e R s m args below meth c T locs cells slots) (hx : p.tables.exec = Jvm.exec) (hZ : Z.Warmed39 s.vm) {own R0 O n d : String} {index : Nat} (hown : s.vm.findClass own = some m.cls) (w : (Jvm.Cond.fieldLink own index R0 n d).before a0 Z = true) (via : Via Z R0 O n d)
    (eT : T.heap = h) {a : Addr} {v : Value} (fF : Fld Z h a O n d v) {pc : Nat} {Ls : Array Slot} {rest : List Value} (hd : decode c.code pc = .ok (.getfield index, 3))
    (k : ∀ T', Stand p l e R s m args below meth c T' locs cells slots → T'.heap = h → Go p e below F T' (mkF m (pc + 3) Ls (v :: rest))) : Go p e below F T (mkF m pc Ls (.ref a :: rest)) := by
  obtain ⟨T', X', e', st⟩ := Jvm.RoadKit.getF X hx hZ hown (host := "") (Or.inl w) via eT fF (g := mkF m pc Ls (.ref a :: rest)) rfl rfl hd
  exact Go.of st (k _ X' e')
theorem Go.getS (X : Stand p l e R s m args below meth c T locs cells slots) (hx : p.tables.exec = Jvm.exec) (hZ : Z.Warmed39 s.vm) {own R0 O n d : String} {index : Nat} (hown : s.vm.findClass own = some m.cls) (w : (Jvm.Cond.fieldLink own index R0 n d).before a0 Z = true) (via : Via Z R0 O n d)
    (eT : T.heap = h) {v : Value} (fF : Sta Z h O n d v) {pc : Nat} {Ls : Array Slot} {rest : List Value} (hd : decode c.code pc = .ok (.getstatic index, 3))
    (k : ∀ T', Stand p l e R s m args below meth c T' locs cells slots → T'.heap = h → Go p e below F T' (mkF m (pc + 3) Ls (v :: rest))) : Go p e below F T (mkF m pc Ls rest) := by
  obtain ⟨T', X', e', st⟩ := getS2 X hx hZ hown (host := "") (Or.inl w) via eT fF (g := mkF m pc Ls rest) rfl hd
  exact Go.of st (k _ X' e')
theorem Go.putF (X : Stand p l e R s m args below meth c T locs cells slots) (hx : p.tables.exec = Jvm.exec) (hZ : Z.Warmed39 s.vm) {own R0 O n d K : String} {index kk : Nat} {ty : FieldType} (hown : s.vm.findClass own = some m.cls) (w : (Jvm.Cond.fieldLink own index R0 n d).before a0 Z = true) (via : Via Z R0 O n d)
    (eT : T.heap = h) {a : Addr} {v old : Value} (fF : Fld Z h a O n d old) (E : Exa Z h a K) (L : (Jvm.Cond.lays K O n d).before a0 Z = true ∨ ((Jvm.Cond.laysFinal K O n d).before a0 Z = true ∧ own = O ∧ meth.name = "<init>")) (wi : (Jvm.Cond.instantiable K kk).before a0 Z = true)
    (hty : parseFieldDescriptor d = some ty) (hn : narrow ty v = v) (hf : fits ty v = true) {pc : Nat} {Ls : Array Slot} {rest : List Value} (hd : decode c.code pc = .ok (.putfield index, 3))
    (k : ∀ T' h', Stand p l e R s m args below meth c T' (locs ++ [⟨a, Jvm.RoadKit.slotOf Z O n d⟩]) cells slots → T'.heap = h' → Wr h h' a (Jvm.RoadKit.slotOf Z O n d) v → Go p e below F T' (mkF m (pc + 3) Ls rest)) : Go p e below F T (mkF m pc Ls (v :: .ref a :: rest)) := by
  obtain ⟨T', h', X', e', W', st⟩ := Jvm.RoadKit.putF X hx hZ hown (host := "") (Or.inl w) via eT fF E L wi hty hn hf (g := mkF m pc Ls (v :: .ref a :: rest)) rfl rfl hd
  exact Go.of st (k _ _ X' e' W')
theorem Go.newO (X : Stand p l e R s m args below meth c T locs cells slots) (hx : p.tables.exec = Jvm.exec) (hZ : Z.Warmed39 s.vm) {own K : String} {index n : Nat} (hown : s.vm.findClass own = some m.cls) (w : (Jvm.Cond.classLink own index K).before a0 Z = true) (wi : (Jvm.Cond.instantiable K n).before a0 Z = true) (wz : (Jvm.Cond.initialized K).before a0 Z = true) (eT : T.heap = h)
    {pc : Nat} {Ls : Array Slot} {rest : List Value} (hd : decode c.code pc = .ok (.new index, 3)) (hc : cells + 1 ≤ R.cells) (hl : slots + n ≤ R.slots)
    (k : ∀ T' h' a, a = h.size → Stand p l e R s m args below meth c T' locs (cells + 1) (slots + n) → T'.heap = h' → Ext h h' → Exa Z h' a K → (∀ {O nm d : String} {ty : FieldType}, Laid Z a0 K O nm d → parseFieldDescriptor d = some ty → Fld Z h' a O nm d (defaultValue ty)) → Go p e below F T' (mkF m (pc + 3) Ls (.ref a :: rest))) : Go p e below F T (mkF m pc Ls rest) := by
  obtain ⟨T', h', X', e', E', A', D', -, st⟩ := Jvm.RoadKit.newO X hx hZ hown w wi wz eT (g := mkF m pc Ls rest) rfl hd hc hl
  exact Go.of st (k _ _ _ rfl X' e' E' A' D')
theorem Go.initO (X : Stand p l e R s m args below meth c T locs cells slots) (hx : p.tables.exec = Jvm.exec) (hZ : Z.Warmed39 s.vm) {own : String} {idx : Nat} (hown : s.vm.findClass own = some m.cls) (w1 : (Jvm.Cond.methodLink own idx Lib.objectInit).before a0 Z = true) (w2 : (Jvm.Cond.instanceMethod Lib.objectInit).before a0 Z = true)
    (w3 : (Jvm.Cond.code Lib.objectInit ⟨#[0xb1]⟩ 1 none).before a0 Z = true) (eT : T.heap = h) {a : Addr} {pc : Nat} {Ls : Array Slot} {rest : List Value} (hsz : Ls.size = c.maxLocals) (hd : decode c.code pc = .ok (.invokespecial idx, 3)) (hf : 1 ≤ R.frames) (hl : (rest.map fun v => v.category).sum + 12 ≤ R.locals)
    (k : ∀ T', Stand p l e R s m args below meth c T' locs cells slots → T'.heap = h → Go p e below F T' (mkF m (pc + 3) Ls rest)) : Go p e below F T (mkF m pc Ls (.ref a :: rest)) := by
  obtain ⟨T', X', e', st⟩ := Jvm.RoadKit.initO X hx hZ hown w1 w2 w3 eT (g := mkF m pc Ls (.ref a :: rest)) rfl hsz rfl hd hf (W := (rest.map fun v => v.category).sum) (by show 2 * 0 + _ ≤ _; exact Nat.le_of_eq (Nat.zero_add _)) hl
  exact Go.of st (k _ X' e')
end OwnKit
section OwnSteps
variable {p : Program} {l : Launch} {e : Env} {R : Room} {s : State} {m : MethodId} {args : Array Value} {below : List Frame} {meth : Method} {c : Code} {T : State} {locs : List Loc} {cells slots : Nat} {Z : State} {a0 : Array Value} {h : Heap} {F : State → Outcome → Prop}
theorem w_ {Z : State} {a0 : Array Value} {ts : List Jvm.Cond} (hw : ∀ d ∈ ts, d.before a0 Z = true) {d : Jvm.Cond} (i : Nat) (h : ts[i]? = some d) : d.before a0 Z = true := hw _ (List.mem_of_getElem? h)
theorem Go.s_iloadN (X : Stand p l e R s m args below meth c T locs cells slots) (hx : p.tables.exec = Jvm.exec) {pc q : Nat} {Ls : Array Slot} {st : List Value} {k : Fin 4} {v : Int32} (hd : decode c.code pc = .ok (.iload_n k, 1)) (hq : pc + 1 = q) (hl : Ls[k.val]? = some (.val (.int v))) (K : Go p e below F T (mkF m q Ls (.int v :: st))) : Go p e below F T (mkF m pc Ls (st)) := by
  subst hq
  exact Go.of (fun t k => XS.iloadN X.here hx rfl hd hl k) K
theorem Go.s_iload (X : Stand p l e R s m args below meth c T locs cells slots) (hx : p.tables.exec = Jvm.exec) {pc q : Nat} {Ls : Array Slot} {st : List Value} {k : Nat} {v : Int32} (hd : decode c.code pc = .ok (.iload k, 2)) (hq : pc + 2 = q) (hl : Ls[k]? = some (.val (.int v))) (K : Go p e below F T (mkF m q Ls (.int v :: st))) : Go p e below F T (mkF m pc Ls (st)) := by
  subst hq
  exact Go.of (fun t k => XS.iload X.here hx rfl hd hl k) K
theorem Go.s_aloadN (X : Stand p l e R s m args below meth c T locs cells slots) (hx : p.tables.exec = Jvm.exec) {pc q : Nat} {Ls : Array Slot} {st : List Value} {k : Fin 4} {v : Value} (hd : decode c.code pc = .ok (.aload_n k, 1)) (hq : pc + 1 = q) (hl : Ls[k.val]? = some (.val v)) (hv : v.isRef = true) (K : Go p e below F T (mkF m q Ls (v :: st))) : Go p e below F T (mkF m pc Ls (st)) := by
  subst hq
  exact Go.of (fun t k => XS.aloadN X.here hx rfl hd hl hv k) K
theorem Go.s_aload (X : Stand p l e R s m args below meth c T locs cells slots) (hx : p.tables.exec = Jvm.exec) {pc q : Nat} {Ls : Array Slot} {st : List Value} {k : Nat} {v : Value} (hd : decode c.code pc = .ok (.aload k, 2)) (hq : pc + 2 = q) (hl : Ls[k]? = some (.val v)) (hv : v.isRef = true) (K : Go p e below F T (mkF m q Ls (v :: st))) : Go p e below F T (mkF m pc Ls (st)) := by
  subst hq
  exact Go.of (fun t k => XS.aload X.here hx rfl hd hl hv k) K
theorem Go.s_istoreN (X : Stand p l e R s m args below meth c T locs cells slots) (hx : p.tables.exec = Jvm.exec) {pc q : Nat} {Ls : Array Slot} {st : List Value} {k : Fin 4} {x : Int32} {l' : Array Slot} (hd : decode c.code pc = .ok (.istore_n k, 1)) (hq : pc + 1 = q) (hl : storeLocals Ls k.val (.int x) = some l') (K : Go p e below F T (mkF m q l' (st))) : Go p e below F T (mkF m pc Ls (.int x :: st)) := by
  subst hq
  exact Go.of (fun t k => XS.istoreN X.here hx rfl hd rfl hl k) K
theorem Go.s_istore (X : Stand p l e R s m args below meth c T locs cells slots) (hx : p.tables.exec = Jvm.exec) {pc q : Nat} {Ls : Array Slot} {st : List Value} {k : Nat} {x : Int32} {l' : Array Slot} (hd : decode c.code pc = .ok (.istore k, 2)) (hq : pc + 2 = q) (hl : storeLocals Ls k (.int x) = some l') (K : Go p e below F T (mkF m q l' (st))) : Go p e below F T (mkF m pc Ls (.int x :: st)) := by
  subst hq
  exact Go.of (fun t k => XS.istore X.here hx rfl hd rfl hl k) K
theorem Go.s_astoreN (X : Stand p l e R s m args below meth c T locs cells slots) (hx : p.tables.exec = Jvm.exec) {pc q : Nat} {Ls : Array Slot} {st : List Value} {k : Fin 4} {x : Value} {l' : Array Slot} (hd : decode c.code pc = .ok (.astore_n k, 1)) (hq : pc + 1 = q) (hv : x.isRef = true) (hl : storeLocals Ls k.val x = some l') (K : Go p e below F T (mkF m q l' (st))) : Go p e below F T (mkF m pc Ls (x :: st)) := by
  subst hq
  exact Go.of (fun t k => XS.astoreN X.here hx rfl hd rfl hv hl k) K
theorem Go.s_astore (X : Stand p l e R s m args below meth c T locs cells slots) (hx : p.tables.exec = Jvm.exec) {pc q : Nat} {Ls : Array Slot} {st : List Value} {k : Nat} {x : Value} {l' : Array Slot} (hd : decode c.code pc = .ok (.astore k, 2)) (hq : pc + 2 = q) (hv : x.isRef = true) (hl : storeLocals Ls k x = some l') (K : Go p e below F T (mkF m q l' (st))) : Go p e below F T (mkF m pc Ls (x :: st)) := by
  subst hq
  exact Go.of (fun t k => XS.astore X.here hx rfl hd rfl hv hl k) K
theorem Go.s_iconst (X : Stand p l e R s m args below meth c T locs cells slots) (hx : p.tables.exec = Jvm.exec) {pc q : Nat} {Ls : Array Slot} {st : List Value} {i : Int} {z : Int32} (hd : decode c.code pc = .ok (.iconst i, 1)) (hq : pc + 1 = q) (hz : Int32.ofInt i = z) (K : Go p e below F T (mkF m q Ls (.int z :: st))) : Go p e below F T (mkF m pc Ls (st)) := by
  subst hq
  exact Go.of (fun t k => XS.iconst X.here hx rfl hd (hz ▸ k)) K
theorem Go.s_bipush (X : Stand p l e R s m args below meth c T locs cells slots) (hx : p.tables.exec = Jvm.exec) {pc q : Nat} {Ls : Array Slot} {st : List Value} {i : Int} {z : Int32} (hd : decode c.code pc = .ok (.bipush i, 2)) (hq : pc + 2 = q) (hz : (Int8.ofInt i).toInt32 = z) (K : Go p e below F T (mkF m q Ls (.int z :: st))) : Go p e below F T (mkF m pc Ls (st)) := by
  subst hq
  exact Go.of (fun t k => XS.bipush X.here hx rfl hd (hz ▸ k)) K
theorem Go.s_sipush (X : Stand p l e R s m args below meth c T locs cells slots) (hx : p.tables.exec = Jvm.exec) {pc q : Nat} {Ls : Array Slot} {st : List Value} {i : Int} {z : Int32} (hd : decode c.code pc = .ok (.sipush i, 3)) (hq : pc + 3 = q) (hz : (Int16.ofInt i).toInt32 = z) (K : Go p e below F T (mkF m q Ls (.int z :: st))) : Go p e below F T (mkF m pc Ls (st)) := by
  subst hq
  exact Go.of (fun t k => XS.sipush X.here hx rfl hd (hz ▸ k)) K
theorem Go.s_aconst_null (X : Stand p l e R s m args below meth c T locs cells slots) (hx : p.tables.exec = Jvm.exec) {pc q : Nat} {Ls : Array Slot} {st : List Value}  (hd : decode c.code pc = .ok (.aconst_null, 1)) (hq : pc + 1 = q)  (K : Go p e below F T (mkF m q Ls (.null :: st))) : Go p e below F T (mkF m pc Ls (st)) := by
  subst hq
  exact Go.of (fun t k => XS.aconstNull X.here hx rfl hd k) K
theorem Go.s_iadd (X : Stand p l e R s m args below meth c T locs cells slots) (hx : p.tables.exec = Jvm.exec) {pc q : Nat} {Ls : Array Slot} {st : List Value} {x y : Int32} (hd : decode c.code pc = .ok (.iadd, 1)) (hq : pc + 1 = q)  (K : Go p e below F T (mkF m q Ls (.int (x + y) :: st))) : Go p e below F T (mkF m pc Ls (.int y :: .int x :: st)) := by
  subst hq
  exact Go.of (fun t k => XS.iadd X.here hx rfl hd rfl k) K
theorem Go.s_iand (X : Stand p l e R s m args below meth c T locs cells slots) (hx : p.tables.exec = Jvm.exec) {pc q : Nat} {Ls : Array Slot} {st : List Value} {x y : Int32} (hd : decode c.code pc = .ok (.iand, 1)) (hq : pc + 1 = q)  (K : Go p e below F T (mkF m q Ls (.int (x &&& y) :: st))) : Go p e below F T (mkF m pc Ls (.int y :: .int x :: st)) := by
  subst hq
  exact Go.of (fun t k => XS.iand X.here hx rfl hd rfl k) K
theorem Go.s_dup (X : Stand p l e R s m args below meth c T locs cells slots) (hx : p.tables.exec = Jvm.exec) {pc q : Nat} {Ls : Array Slot} {st : List Value} {x : Value} (hd : decode c.code pc = .ok (.dup, 1)) (hq : pc + 1 = q) (hc : x.category = 1) (K : Go p e below F T (mkF m q Ls (x :: x :: st))) : Go p e below F T (mkF m pc Ls (x :: st)) := by
  subst hq
  exact Go.of (fun t k => XS.dup X.here hx rfl hd rfl hc k) K
theorem Go.s_goto (X : Stand p l e R s m args below meth c T locs cells slots) (hx : p.tables.exec = Jvm.exec) {pc q : Nat} {Ls : Array Slot} {st : List Value}  {o : Int} (hd : decode c.code pc = .ok (.goto o, 3)) (ho : 0 ≤ (pc : Int) + o) (hp : ((pc : Int) + o).toNat = q)  (K : Go p e below F T (mkF m q Ls st)) : Go p e below F T (mkF m pc Ls (st)) :=
  Go.of (fun t k => XS.goto X.here hx rfl rfl hd ho hp k) K
theorem Go.s_ifYes (X : Stand p l e R s m args below meth c T locs cells slots) (hx : p.tables.exec = Jvm.exec) {pc q : Nat} {Ls : Array Slot} {st : List Value} {cd : ClassFile.Cond} {x : Int32} {o : Int} (hd : decode c.code pc = .ok (.ifCond cd o, 3)) (ho : 0 ≤ (pc : Int) + o) (hp : ((pc : Int) + o).toNat = q) (hc : ifCond.holds cd x = true) (K : Go p e below F T (mkF m q Ls st)) : Go p e below F T (mkF m pc Ls (.int x :: st)) :=
  Go.of (fun t k => XS.ifYes X.here hx rfl rfl hd rfl hc ho hp k) K
theorem Go.s_icmpYes (X : Stand p l e R s m args below meth c T locs cells slots) (hx : p.tables.exec = Jvm.exec) {pc q : Nat} {Ls : Array Slot} {st : List Value} {cd : ClassFile.Cond} {x y : Int32} {o : Int} (hd : decode c.code pc = .ok (.if_icmp cd o, 3)) (ho : 0 ≤ (pc : Int) + o) (hp : ((pc : Int) + o).toNat = q) (hc : if_icmp.holds cd x y = true) (K : Go p e below F T (mkF m q Ls st)) : Go p e below F T (mkF m pc Ls (.int y :: .int x :: st)) :=
  Go.of (fun t k => XS.icmpYes X.here hx rfl rfl hd rfl hc ho hp k) K
theorem Go.s_ifNo (X : Stand p l e R s m args below meth c T locs cells slots) (hx : p.tables.exec = Jvm.exec) {pc q : Nat} {Ls : Array Slot} {st : List Value} {cd : ClassFile.Cond} {o : Int} {x : Int32} (hd : decode c.code pc = .ok (.ifCond cd o, 3)) (hq : pc + 3 = q) (hc : ifCond.holds cd x = false) (K : Go p e below F T (mkF m q Ls (st))) : Go p e below F T (mkF m pc Ls (.int x :: st)) := by
  subst hq
  exact Go.of (fun t k => XS.ifNo X.here hx rfl hd rfl hc k) K
theorem Go.s_icmpNo (X : Stand p l e R s m args below meth c T locs cells slots) (hx : p.tables.exec = Jvm.exec) {pc q : Nat} {Ls : Array Slot} {st : List Value} {cd : ClassFile.Cond} {o : Int} {x y : Int32} (hd : decode c.code pc = .ok (.if_icmp cd o, 3)) (hq : pc + 3 = q) (hc : if_icmp.holds cd x y = false) (K : Go p e below F T (mkF m q Ls (st))) : Go p e below F T (mkF m pc Ls (.int y :: .int x :: st)) := by
  subst hq
  exact Go.of (fun t k => XS.icmpNo X.here hx rfl hd rfl hc k) K
theorem Go.s_ldc (X : Stand p l e R s m args below meth c T locs cells slots) (hx : p.tables.exec = Jvm.exec) {pc q : Nat} {Ls : Array Slot} {st : List Value} {own : String} {index : Nat} {v : Int32} (hd : decode c.code pc = .ok (.ldc index, 2)) (hq : pc + 2 = q) (hown : s.vm.findClass own = some m.cls) (w : (Jvm.Cond.constant own index v).before args s = true) (K : Go p e below F T (mkF m q Ls (.int v :: st))) : Go p e below F T (mkF m pc Ls st) := by
  subst hq
  exact Go.of (X.ldcInt hx hown w (g := mkF m pc Ls st) rfl hd) K
end OwnSteps
theorem max_one {x r : Int32} (h : ((1 : Int32) < x ∧ r = x) ∨ (¬ ((1 : Int32) < x) ∧ r = (1 : Int32))) : ¬ (r < (1 : Int32)) := by
  rcases h with ⟨h, rfl⟩ | ⟨h, rfl⟩
  · intro q
    have t1 := Int32.lt_iff_toInt_lt.mp q
    have t2 := Int32.lt_iff_toInt_lt.mp h
    omega
  · decide
theorem lo128 {x : Int32} (h : ¬ (x < (1 : Int32))) : ¬ (x < (-128 : Int32)) := by
  intro q
  have t1 := Int32.lt_iff_toInt_lt.mp q
  have t2 := mt Int32.lt_iff_toInt_lt.mpr h
  have t3 : (-128 : Int32).toInt = -128 := by decide
  have t4 : (1 : Int32).toInt = 1 := by decide
  omega
theorem cache_in {x : Int32} (h : ¬ (x < (1 : Int32))) (h2 : ¬ ((127 : Int32) < x)) : ¬ (x + (128 : Int32)) < 0 ∧ (x + (128 : Int32)) < (256 : Int32) := by
  have t1 := mt Int32.lt_iff_toInt_lt.mpr h
  have t2 := mt Int32.lt_iff_toInt_lt.mpr h2
  have t3 : (127 : Int32).toInt = 127 := by decide
  have t4 : (1 : Int32).toInt = 1 := by decide
  have t5 : (128 : Int32).toInt = 128 := by decide
  have t6 : (256 : Int32).toInt = 256 := by decide
  have t7 : (0 : Int32).toInt = 0 := by decide
  have t8 := c_iadd x (128 : Int32)
  have t9 := rng32 (x + (128 : Int32))
  refine ⟨fun q => ?_, Int32.lt_iff_toInt_lt.mpr (by omega)⟩
  have := Int32.lt_iff_toInt_lt.mp q
  omega
theorem no_ins {Z : State} {a0 : Array Value} {C S O K : String} {k : Nat} (w1 : (Jvm.Cond.superclass C S).before a0 Z = true) (w2 : (Jvm.Cond.superclass S O).before a0 Z = true) (w3 : (Jvm.Cond.noSuperclass O).before a0 Z = true) (wk : (Jvm.Cond.instantiable K k).before a0 Z = true) (n1 : C ≠ K) (n2 : S ≠ K) (n3 : O ≠ K) :
    ∃ c t, Z.vm.findClass C = some c ∧ Z.vm.findClass K = some t ∧ Z.vm.assignable c t = false := by
  obtain ⟨t, kt, g1, g2, g3, g4, -, -⟩ := Jvm.Cond.instantiable_spec (first := Z) (o := none) (s := Z) (idx := []) wk
  have r1 : NS Z O K := by
    obtain ⟨c, k, h1, h2, h3, -, -⟩ := Jvm.Cond.noSuperclass_spec w3
    have ne := ids_ne h1 g1 n3
    refine ⟨c, t, h1, g1, fun fuel => ?_⟩
    cases fuel with
    | zero => rfl
    | succ f => simp [Vm.isSubclassAux, ne, h2, h3]
  have r3 : NS Z C K := NS.step w1 (NS.step w2 r1 n2) n1
  obtain ⟨c, t', h0, g0, n3'⟩ := r3
  cases g1.symm.trans g0
  obtain ⟨p, k, kp, h1, h2, h3, h4, h5, -, h7⟩ := Jvm.Cond.superclass_spec h0 w1
  have ne := ids_ne h0 g1 n1
  refine ⟨c, t, h0, g1, ?_⟩
  show Z.vm.assignableAux (255 + 1) c t = false
  have g5 := (Bool.or_eq_false_iff.mp g4).1
  simp [Vm.assignableAux, ne, h2, g2, h5, g3, g5, Vm.isSubclass, n3']
section OwnIns
variable {p : Program} {l : Launch} {e : Env} {R : Room} {s : State} {m : MethodId} {args : Array Value} {below : List Frame} {meth : Method} {c : Code} {T : State} {locs : List Loc} {cells slots : Nat} {Z : State} {a0 : Array Value} {h : Heap} {F : State → Outcome → Prop}
theorem Go.castY (X : Stand p l e R s m args below meth c T locs cells slots) (hx : p.tables.exec = Jvm.exec) (hZ : Z.Warmed39 s.vm) {own K : String} {index : Nat} (hown : s.vm.findClass own = some m.cls) (w : (Jvm.Cond.classLink own index K).before a0 Z = true) (eT : T.heap = h) {a : Addr} (I : Ins Z h a K true) {pc : Nat} {Ls : Array Slot} {rest : List Value} (hd : decode c.code pc = .ok (.checkcast index, 3))
    (k : ∀ T', Stand p l e R s m args below meth c T' locs cells slots → T'.heap = h → Go p e below F T' (mkF m (pc + 3) Ls (.ref a :: rest))) : Go p e below F T (mkF m pc Ls (.ref a :: rest)) := by
  obtain ⟨T', X', e', st⟩ := Jvm.RoadKit.castY X hx hZ hown w eT I (g := mkF m pc Ls (.ref a :: rest)) rfl rfl hd
  exact Go.of st (k _ X' e')
theorem Go.instY (X : Stand p l e R s m args below meth c T locs cells slots) (hx : p.tables.exec = Jvm.exec) (hZ : Z.Warmed39 s.vm) {own K : String} {index : Nat} (hown : s.vm.findClass own = some m.cls) (w : (Jvm.Cond.classLink own index K).before a0 Z = true) (eT : T.heap = h) {a : Addr} (I : Ins Z h a K true) {pc : Nat} {Ls : Array Slot} {rest : List Value} (hd : decode c.code pc = .ok (.instanceof index, 3))
    (k : ∀ T', Stand p l e R s m args below meth c T' locs cells slots → T'.heap = h → Go p e below F T' (mkF m (pc + 3) Ls (.int 1 :: rest))) : Go p e below F T (mkF m pc Ls (.ref a :: rest)) := by
  obtain ⟨T', X', e', st⟩ := Jvm.RoadKit.instY X hx hZ hown w eT I (g := mkF m pc Ls (.ref a :: rest)) rfl rfl hd
  exact Go.of st (k _ X' e')
theorem Go.instNo (X : Stand p l e R s m args below meth c T locs cells slots) (hx : p.tables.exec = Jvm.exec) (hZ : Z.Warmed39 s.vm) {own K B : String} {index : Nat} (hown : s.vm.findClass own = some m.cls) (w : (Jvm.Cond.classLink own index K).before a0 Z = true) (eT : T.heap = h) {a : Addr} (E : Exa Z h a B) (I : ∃ c t, Z.vm.findClass B = some c ∧ Z.vm.findClass K = some t ∧ Z.vm.assignable c t = false) {pc : Nat} {Ls : Array Slot} {rest : List Value} (hd : decode c.code pc = .ok (.instanceof index, 3))
    (k : ∀ T', Stand p l e R s m args below meth c T' locs cells slots → T'.heap = h → Go p e below F T' (mkF m (pc + 3) Ls (.int 0 :: rest))) : Go p e below F T (mkF m pc Ls (.ref a :: rest)) := by
  obtain ⟨T', X', e', st⟩ := Jvm.RoadKit.instNo X hx hZ hown w eT E I (g := mkF m pc Ls (.ref a :: rest)) rfl rfl hd
  exact Go.of st (k _ X' e')
end OwnIns
theorem len_small {args : Array Value} {s : State} {t : Term} {a : Addr} {c : Cell} {ty : FieldType} {k : Int32} (h : (Term.length t).eval args s none [] s = some (.int k)) (ht : t.eval args s none [] s = some (.ref a)) (A : Arr s s.heap a c ty) : c.slots.size < 2 ^ 31 ∧ c.slots.size.toInt32 = k := by
  have ha := A.fin (Vm.Alike.refl _)
  simp only [Term.eval, ht, ha, Option.bind_eq_bind, Option.bind_some] at h
  by_cases q : c.slots.size < 2 ^ 31
  · rw [if_pos q] at h
    injection h with h
    injection h with h
    exact ⟨q, h⟩
  · rw [if_neg q] at h
    cases h
theorem idx_val {args : Array Value} {s : State} {j : Int32} (hj : ¬ j < 0) : (Jvm.Term.sub (Jvm.Term.index (0 : Nat)) (Jvm.Term.int (128 : Int32))).eval args s none [j.toNatClampNeg] s = some (.int (j - 128)) := by
  have e := (back32 hj).1
  show some (Value.int (j.toNatClampNeg.toInt32 - 128)) = _
  rw [e]
abbrev mn_4 : MethodName := ⟨"com/example/irama/irama/Prefilter", "equals", "(Ljava/lang/Object;)Z"⟩
abbrev mn_5 : MethodName := ⟨"java/lang/Integer", "valueOf", "(I)Ljava/lang/Integer;"⟩
abbrev mn_6 : MethodName := ⟨"java/lang/Integer", "<init>", "(I)V"⟩
abbrev mn_7 : MethodName := ⟨"java/lang/Number", "<init>", "()V"⟩
abbrev mn_2 : MethodName := ⟨"com/example/irama/irama/Prefilter", "<init>", "(I)V"⟩
abbrev mn_1 : MethodName := ⟨"java/lang/Math", "max", "(II)I"⟩
theorem d1_0 : decode jdk_29_method_65_code 0 = .ok (.iload_n 0, 1) := by decide +kernel
theorem d1_1 : decode jdk_29_method_65_code 1 = .ok (.iload_n 1, 1) := by decide +kernel
theorem d1_2 : decode jdk_29_method_65_code 2 = .ok (.if_icmp .lt 7, 3) := by decide +kernel
theorem d1_9 : decode jdk_29_method_65_code 9 = .ok (.iload_n 1, 1) := by decide +kernel
theorem d1_10 : decode jdk_29_method_65_code 10 = .ok (.ireturn, 1) := by decide +kernel
theorem d1_5 : decode jdk_29_method_65_code 5 = .ok (.iload_n 0, 1) := by decide +kernel
theorem d1_6 : decode jdk_29_method_65_code 6 = .ok (.goto 4, 3) := by decide +kernel
theorem pn_com_example_irama_irama_Prefilter : plainName "com/example/irama/irama/Prefilter" = true := by first | (simp [plainName, overriddenIn]; done) | decide +kernel
theorem d2_0 : decode prog_4_method_1_code 0 = .ok (.aload_n 0, 1) := by decide +kernel
theorem d2_1 : decode prog_4_method_1_code 1 = .ok (.invokespecial 1, 3) := by decide +kernel
theorem d2_4 : decode prog_4_method_1_code 4 = .ok (.iload_n 1, 1) := by decide +kernel
theorem d2_5 : decode prog_4_method_1_code 5 = .ok (.iconst 1, 1) := by decide +kernel
theorem d2_6 : decode prog_4_method_1_code 6 = .ok (.if_icmp .ge 17, 3) := by decide +kernel
theorem d2_23 : decode prog_4_method_1_code 23 = .ok (.aload_n 0, 1) := by decide +kernel
theorem d2_24 : decode prog_4_method_1_code 24 = .ok (.iload_n 1, 1) := by decide +kernel
theorem d2_25 : decode prog_4_method_1_code 25 = .ok (.putfield 16, 3) := by decide +kernel
theorem d2_28 : decode prog_4_method_1_code 28 = .ok (.return_, 1) := by decide +kernel
theorem pn_java_lang_Number : plainName "java/lang/Number" = true := by first | (simp [plainName, overriddenIn]; done) | decide +kernel
theorem d7_0 : decode jdk_18_method_1_code 0 = .ok (.aload_n 0, 1) := by decide +kernel
theorem d7_1 : decode jdk_18_method_1_code 1 = .ok (.invokespecial 1, 3) := by decide +kernel
theorem d7_4 : decode jdk_18_method_1_code 4 = .ok (.return_, 1) := by decide +kernel
theorem pn_java_lang_Integer : plainName "java/lang/Integer" = true := by first | (simp [plainName, overriddenIn]; done) | decide +kernel
theorem d6_0 : decode jdk_33_method_23_code 0 = .ok (.aload_n 0, 1) := by decide +kernel
theorem d6_1 : decode jdk_33_method_23_code 1 = .ok (.invokespecial 202, 3) := by decide +kernel
theorem pd_0 : parseMethodDescriptor "()V" = some ⟨[], none⟩ := by decide +kernel
theorem d6_4 : decode jdk_33_method_23_code 4 = .ok (.aload_n 0, 1) := by decide +kernel
theorem d6_5 : decode jdk_33_method_23_code 5 = .ok (.iload_n 1, 1) := by decide +kernel
theorem d6_6 : decode jdk_33_method_23_code 6 = .ok (.putfield 205, 3) := by decide +kernel
theorem d6_9 : decode jdk_33_method_23_code 9 = .ok (.return_, 1) := by decide +kernel
theorem d5_0 : decode jdk_33_method_22_code 0 = .ok (.iload_n 0, 1) := by decide +kernel
theorem d5_1 : decode jdk_33_method_22_code 1 = .ok (.bipush (-128), 2) := by decide +kernel
theorem d5_3 : decode jdk_33_method_22_code 3 = .ok (.if_icmp .lt 20, 3) := by decide +kernel
theorem d5_6 : decode jdk_33_method_22_code 6 = .ok (.iload_n 0, 1) := by decide +kernel
theorem d5_7 : decode jdk_33_method_22_code 7 = .ok (.getstatic 191, 3) := by decide +kernel
theorem d5_10 : decode jdk_33_method_22_code 10 = .ok (.if_icmp .gt 13, 3) := by decide +kernel
theorem d5_23 : decode jdk_33_method_22_code 23 = .ok (.new 1, 3) := by decide +kernel
theorem d5_26 : decode jdk_33_method_22_code 26 = .ok (.dup, 1) := by decide +kernel
theorem d5_27 : decode jdk_33_method_22_code 27 = .ok (.iload_n 0, 1) := by decide +kernel
theorem d5_28 : decode jdk_33_method_22_code 28 = .ok (.invokespecial 199, 3) := by decide +kernel
theorem pd_2 : parseMethodDescriptor "(I)V" = some ⟨[.int], none⟩ := by decide +kernel
theorem d5_31 : decode jdk_33_method_22_code 31 = .ok (.areturn, 1) := by decide +kernel
theorem d5_13 : decode jdk_33_method_22_code 13 = .ok (.getstatic 195, 3) := by decide +kernel
theorem d5_16 : decode jdk_33_method_22_code 16 = .ok (.iload_n 0, 1) := by decide +kernel
theorem d5_17 : decode jdk_33_method_22_code 17 = .ok (.sipush 128, 3) := by decide +kernel
theorem d5_20 : decode jdk_33_method_22_code 20 = .ok (.iadd, 1) := by decide +kernel
theorem d5_21 : decode jdk_33_method_22_code 21 = .ok (.aaload, 1) := by decide +kernel
theorem d5_22 : decode jdk_33_method_22_code 22 = .ok (.areturn, 1) := by decide +kernel
theorem d4_0 : decode prog_4_method_4_code 0 = .ok (.aload_n 1, 1) := by decide +kernel
theorem d4_1 : decode prog_4_method_4_code 1 = .ok (.instanceof 17, 3) := by decide +kernel
theorem d4_4 : decode prog_4_method_4_code 4 = .ok (.ifCond .eq 23, 3) := by decide +kernel
theorem d4_7 : decode prog_4_method_4_code 7 = .ok (.aload_n 1, 1) := by decide +kernel
theorem d4_8 : decode prog_4_method_4_code 8 = .ok (.checkcast 17, 3) := by decide +kernel
theorem d4_11 : decode prog_4_method_4_code 11 = .ok (.astore_n 2, 1) := by decide +kernel
theorem d4_12 : decode prog_4_method_4_code 12 = .ok (.aload_n 0, 1) := by decide +kernel
theorem d4_13 : decode prog_4_method_4_code 13 = .ok (.getfield 16, 3) := by decide +kernel
theorem d4_16 : decode prog_4_method_4_code 16 = .ok (.aload_n 2, 1) := by decide +kernel
theorem d4_17 : decode prog_4_method_4_code 17 = .ok (.getfield 16, 3) := by decide +kernel
theorem d4_20 : decode prog_4_method_4_code 20 = .ok (.if_icmp .ne 7, 3) := by decide +kernel
theorem d4_23 : decode prog_4_method_4_code 23 = .ok (.iconst 1, 1) := by decide +kernel
theorem d4_24 : decode prog_4_method_4_code 24 = .ok (.goto 4, 3) := by decide +kernel
theorem d4_28 : decode prog_4_method_4_code 28 = .ok (.ireturn, 1) := by decide +kernel
theorem d4_27 : decode prog_4_method_4_code 27 = .ok (.iconst 0, 1) := by decide +kernel
theorem pn_com_example_irama_irama_PrefilterEqualsPinLaw : plainName "com/example/irama/irama/PrefilterEqualsPinLaw" = true := by first | (simp [plainName, overriddenIn]; done) | decide +kernel
theorem pd_3 : parseMethodDescriptor "(II)I" = some ⟨[.int, .int], some .int⟩ := by decide +kernel
theorem pd_4 : parseMethodDescriptor "(Ljava/lang/Object;)Z" = some ⟨[(.object "java/lang/Object")], some .boolean⟩ := by decide +kernel
theorem pd_1 : parseMethodDescriptor "(I)Ljava/lang/Integer;" = some ⟨[.int], some (.object "java/lang/Integer")⟩ := by decide +kernel
theorem ef_mx (m : MethodId) (x0 : Int32) (x1 : Int32) : entryFrame m #[(.int x0), (.int x1)] 2 = mkF m 0 #[.val (.int x0), .val (.int x1)] [] := by first | (simp [entryFrame, mkF, argsToLocals, Value.category]; done) | rfl
set_option maxRecDepth 65536 in
set_option maxHeartbeats 40000000 in
theorem rm_mx (l : Launch) (Z : State) (a0 : Array Value) (hw : ∀ d ∈ tables_1, d.before a0 Z = true) (x0 : Int32) (x1 : Int32) (h0 : Heap)  :
    Ct l mn_1 jdk_29_method_65_code 2 (some .int) ({ frames := 0, cells := 0, slots := 0, locals := 0 } : Room) Z h0 #[(.int x0), (.int x1)] (fun v h L => ∃ r, v = some (.int r) ∧ ((x0 < x1 ∧ r = x1) ∨ (¬ (x0 < x1) ∧ r = x0)) ∧ L = [] ∧ h = h0) := by
  refine Ct.body (Jvm.Free.JP.mathPlain rfl (by decide +kernel)) ?_
  intro p e s m below meth c T0 hx hby hml hown hnm hret hlk hZ X0 e0
  refine Go.cast (ef_mx m x0 x1) ?_
  show Go p e below _ T0 (mkF m 0 #[.val (.int x0), .val (.int x1)] [])
  refine Go.s_iloadN X0 hx (hb hby d1_0) (q := 1) rfl rfl ?_
  refine Go.s_iloadN X0 hx (hb hby d1_1) (q := 2) rfl rfl ?_
  by_cases c2_1 : x0 < x1
  · -- pc 2: x0 < x1
    refine Go.s_icmpYes X0 hx (hb hby d1_2) (q := 9) (by decide) (by decide) (tlt c2_1).1 ?_
    refine Go.s_iloadN X0 hx (hb hby d1_9) (q := 10) rfl rfl ?_
    refine Go.retI X0 hx hlk hret (hb hby d1_10) (by decide) (by decide) ?_
    try rw [e0]
    exact ⟨_, rfl, Or.inl ⟨c2_1, rfl⟩, rfl, rfl⟩
  · -- pc 2: not x0 < x1
    refine Go.s_icmpNo X0 hx (hb hby d1_2) (q := 5) rfl (flt c2_1).1 ?_
    refine Go.s_iloadN X0 hx (hb hby d1_5) (q := 6) rfl rfl ?_
    refine Go.s_goto X0 hx (hb hby d1_6) (q := 10) (by decide) (by decide) ?_
    refine Go.retI X0 hx hlk hret (hb hby d1_10) (by decide) (by decide) ?_
    try rw [e0]
    exact ⟨_, rfl, Or.inr ⟨c2_1, rfl⟩, rfl, rfl⟩
theorem ef_ini (m : MethodId) (x0 : Addr) (x1 : Int32) : entryFrame m #[(.ref x0), (.int x1)] 2 = mkF m 0 #[.val (.ref x0), .val (.int x1)] [] := by first | (simp [entryFrame, mkF, argsToLocals, Value.category]; done) | rfl
set_option maxRecDepth 65536 in
set_option maxHeartbeats 40000000 in
theorem rm_ini (l : Launch) (Z : State) (a0 : Array Value) (hw : ∀ d ∈ tables_1, d.before a0 Z = true) (a : Addr) (x1 : Int32) (h0 : Heap) (n0 : Nat) (u : Value) (E_a : Exa Z h0 a "com/example/irama/irama/Prefilter") (F_a : Fld Z h0 a "com/example/irama/irama/Prefilter" "instances" "I" u) (g_a : n0 ≤ a) (hx1 : ¬ (x1 < (1 : Int32))) :
    Ct l mn_2 prog_4_method_1_code 2 none ({ frames := 1, cells := 0, slots := 0, locals := 12 } : Room) Z h0 #[(.ref a), (.int x1)] (fun v h L => v = none ∧ Fr n0 L ∧ Keep h0 h [a] ∧ Exa Z h a "com/example/irama/irama/Prefilter" ∧ Fld Z h a "com/example/irama/irama/Prefilter" "instances" "I" (.int x1)) := by
  refine Ct.body (plainFor_of_name pn_com_example_irama_irama_Prefilter) ?_
  intro p e s m below meth c T0 hx hby hml hown hnm hret hlk hZ X0 e0
  refine Go.cast (ef_ini m a x1) ?_
  show Go p e below _ T0 (mkF m 0 #[.val (.ref a), .val (.int x1)] [])
  refine Go.s_aloadN X0 hx (hb hby d2_0) (q := 1) rfl rfl rfl ?_
  refine Go.initO X0 hx hZ hown (w_ hw 11 rfl) (w_ hw 12 rfl) (w_ hw 13 rfl) e0 (by rw [hml]; rfl) (hb hby d2_1) (by decide) (by decide) ?_
  intro T1 X1 e1
  show Go p e below _ T1 (mkF m 4 #[.val (.ref a), .val (.int x1)] [])
  refine Go.s_iloadN X1 hx (hb hby d2_4) (q := 5) rfl rfl ?_
  refine Go.s_iconst X1 hx (hb hby d2_5) (q := 6) rfl (z := 1) rfl ?_
  refine Go.s_icmpYes X1 hx (hb hby d2_6) (q := 23) (by decide) (by decide) (flt hx1).2.1 ?_
  refine Go.s_aloadN X1 hx (hb hby d2_23) (q := 24) rfl rfl rfl ?_
  refine Go.s_iloadN X1 hx (hb hby d2_24) (q := 25) rfl rfl ?_
  refine Go.putF X1 hx hZ hown (w_ hw 14 rfl) Via.refl e1 F_a E_a (Or.inr ⟨(w_ hw 15 rfl), rfl, hnm⟩) (w_ hw 6 rfl) (ty := .int) (by decide) rfl rfl (hb hby d2_25) ?_
  intro T2 h2 X2 e2 W2
  have N2 := Fr.snoc X2 (Fr.nil n0) g_a
  have E_a_v3 := E_a.wr W2
  have fact_K_v4 := (Keep.refl h0 [a]).wr W2 (Or.inl (by simp))
  have F_instances_a_v5 := F_a.same W2
  show Go p e below _ T2 (mkF m 28 #[.val (.ref a), .val (.int x1)] [])
  refine Go.retV X2 hx hlk hret (hb hby d2_28) (by decide) (by decide) ?_
  try rw [e2]
  exact ⟨rfl, N2, fact_K_v4, E_a_v3, F_instances_a_v5⟩
theorem ef_ni (m : MethodId) (x0 : Addr) : entryFrame m #[(.ref x0)] 1 = mkF m 0 #[.val (.ref x0)] [] := by first | (simp [entryFrame, mkF, argsToLocals, Value.category]; done) | rfl
set_option maxRecDepth 65536 in
set_option maxHeartbeats 40000000 in
theorem rm_ni (l : Launch) (Z : State) (a0 : Array Value) (hw : ∀ d ∈ tables_1, d.before a0 Z = true) (a : Addr) (h0 : Heap)  :
    Ct l mn_7 jdk_18_method_1_code 1 none ({ frames := 1, cells := 0, slots := 0, locals := 12 } : Room) Z h0 #[(.ref a)] (fun v h L => v = none ∧ L = [] ∧ h = h0) := by
  refine Ct.body (plainFor_of_name pn_java_lang_Number) ?_
  intro p e s m below meth c T0 hx hby hml hown hnm hret hlk hZ X0 e0
  refine Go.cast (ef_ni m a) ?_
  show Go p e below _ T0 (mkF m 0 #[.val (.ref a)] [])
  refine Go.s_aloadN X0 hx (hb hby d7_0) (q := 1) rfl rfl rfl ?_
  refine Go.initO X0 hx hZ hown (w_ hw 45 rfl) (w_ hw 12 rfl) (w_ hw 13 rfl) e0 (by rw [hml]; rfl) (hb hby d7_1) (by decide) (by decide) ?_
  intro T1 X1 e1
  show Go p e below _ T1 (mkF m 4 #[.val (.ref a)] [])
  refine Go.retV X1 hx hlk hret (hb hby d7_4) (by decide) (by decide) ?_
  try rw [e1]
  exact ⟨rfl, rfl, rfl⟩
theorem ef_ii (m : MethodId) (x0 : Addr) (x1 : Int32) : entryFrame m #[(.ref x0), (.int x1)] 2 = mkF m 0 #[.val (.ref x0), .val (.int x1)] [] := by first | (simp [entryFrame, mkF, argsToLocals, Value.category]; done) | rfl
set_option maxRecDepth 65536 in
set_option maxHeartbeats 40000000 in
theorem rm_ii (l : Launch) (Z : State) (a0 : Array Value) (hw : ∀ d ∈ tables_1, d.before a0 Z = true) (a : Addr) (x1 : Int32) (h0 : Heap) (n0 : Nat) (u : Value) (E_a : Exa Z h0 a "java/lang/Integer") (F_a : Fld Z h0 a "java/lang/Integer" "value" "I" u) (g_a : n0 ≤ a) :
    Ct l mn_6 jdk_33_method_23_code 2 none ({ frames := 2, cells := 0, slots := 0, locals := 24 } : Room) Z h0 #[(.ref a), (.int x1)] (fun v h L => v = none ∧ Fr n0 L ∧ Keep h0 h [a] ∧ Exa Z h a "java/lang/Integer") := by
  refine Ct.body (plainFor_of_name pn_java_lang_Integer) ?_
  intro p e s m below meth c T0 hx hby hml hown hnm hret hlk hZ X0 e0
  refine Go.cast (ef_ii m a x1) ?_
  show Go p e below _ T0 (mkF m 0 #[.val (.ref a), .val (.int x1)] [])
  refine Go.s_aloadN X0 hx (hb hby d6_0) (q := 1) rfl rfl rfl ?_
  refine Go.callC (y := mn_7) X0 hx hZ rfl hown (w_ hw 39 rfl) (w_ hw 40 rfl) (w_ hw 44 rfl) (w_ hw 43 rfl) (by decide) e0 (b := a) (argsL := []) (rest := []) (rm_ni l Z a0 hw a _) (by rw [hml]; rfl) (lenOf pd_0 rfl) rfl (hb hby d6_1) (by decide) (by decide) (by decide) (by decide) ?_
  intro r1 T1 L1 q1 X1
  obtain ⟨rfl, rfl, e1⟩ := q1
  rw [List.append_nil] at X1
  show Go p e below _ T1 (mkF m 4 #[.val (.ref a), .val (.int x1)] [])
  refine Go.s_aloadN X1 hx (hb hby d6_4) (q := 5) rfl rfl rfl ?_
  refine Go.s_iloadN X1 hx (hb hby d6_5) (q := 6) rfl rfl ?_
  refine Go.putF X1 hx hZ hown (w_ hw 46 rfl) Via.refl e1 F_a E_a (Or.inr ⟨(w_ hw 47 rfl), rfl, hnm⟩) (w_ hw 34 rfl) (ty := .int) (by decide) rfl rfl (hb hby d6_6) ?_
  intro T2 h2 X2 e2 W2
  have N2 := Fr.snoc X2 (Fr.nil n0) g_a
  have E_a_v3 := E_a.wr W2
  have fact_K_v4 := (Keep.refl h0 [a]).wr W2 (Or.inl (by simp))
  have F_value_a_v5 := F_a.same W2
  show Go p e below _ T2 (mkF m 9 #[.val (.ref a), .val (.int x1)] [])
  refine Go.retV X2 hx hlk hret (hb hby d6_9) (by decide) (by decide) ?_
  try rw [e2]
  exact ⟨rfl, N2, fact_K_v4, E_a_v3⟩
theorem ef_vo (m : MethodId) (x0 : Int32) : entryFrame m #[(.int x0)] 1 = mkF m 0 #[.val (.int x0)] [] := by first | (simp [entryFrame, mkF, argsToLocals, Value.category]; done) | rfl
set_option maxRecDepth 65536 in
set_option maxHeartbeats 40000000 in
theorem rm_vo (l : Launch) (Z : State) (a0 : Array Value) (hw : ∀ d ∈ tables_1, d.before a0 Z = true) (x0 : Int32) (h0 : Heap) (n0 : Nat) (Z0 : n0 ≤ h0.size) (ac : Addr) (cc : Cell) (O : Old Z n0 h0) (S_high0 : Sta Z Z.heap "java/lang/Integer$IntegerCache" "high" "I" (.int (127 : Int32))) (S_cache0 : Sta Z Z.heap "java/lang/Integer$IntegerCache" "cache" "[Ljava/lang/Integer;" (.ref ac)) (BX : Bxs Z ac cc "java/lang/Integer" "I" (256 : Int32) (fun j => .int (j - 128))) (hlo' : ¬ (x0 < (1 : Int32))) :
    Ct l mn_5 jdk_33_method_22_code 1 (some (.object "java/lang/Integer")) ({ frames := 3, cells := 1, slots := 1, locals := 40 } : Room) Z h0 #[(.int x0)] (fun v h L => ∃ r, v = some (.ref r) ∧ Exa Z h r "java/lang/Integer" ∧ Fr n0 L ∧ Keep h0 h []) := by
  refine Ct.body (plainFor_of_name pn_java_lang_Integer) ?_
  intro p e s m below meth c T0 hx hby hml hown hnm hret hlk hZ X0 e0
  have S_high := S_high0.ext O.2
  have S_cache := S_cache0.ext O.2
  have hlo := lo128 hlo'
  refine Go.cast (ef_vo m x0) ?_
  show Go p e below _ T0 (mkF m 0 #[.val (.int x0)] [])
  refine Go.s_iloadN X0 hx (hb hby d5_0) (q := 1) rfl rfl ?_
  refine Go.s_bipush X0 hx (hb hby d5_1) (q := 3) rfl (z := -128) rfl ?_
  refine Go.s_icmpNo X0 hx (hb hby d5_3) (q := 6) rfl (flt hlo).1 ?_
  refine Go.s_iloadN X0 hx (hb hby d5_6) (q := 7) rfl rfl ?_
  refine Go.getS X0 hx hZ hown (w_ hw 27 rfl) Via.refl e0 S_high (hb hby d5_7) ?_
  intro T1 X1 e1
  show Go p e below _ T1 (mkF m 10 #[.val (.int x0)] [(.int (127 : Int32)), (.int x0)])
  by_cases c10_2 : (127 : Int32) < x0
  · -- pc 10: (127 : Int32) < x0
    refine Go.s_icmpYes X1 hx (hb hby d5_10) (q := 23) (by decide) (by decide) (tlt c10_2).2.2.1 ?_
    refine Go.newO X1 hx hZ hown (w_ hw 33 rfl) (w_ hw 34 rfl) (w_ hw 25 rfl) e1 (hb hby d5_23) (by decide) (by decide) ?_
    intro T3 h3 b3 g3 X3 e3 E3 A3 D3
    have g_b3 : n0 ≤ b3 := g3 ▸ Z0
    have sz_b3 : h0.size ≤ b3 := g3 ▸ (Keep.refl h0 []).1
    have S_high_v4 := S_high.ext E3
    have S_cache_v5 := S_cache.ext E3
    have Z0_v6 := Nat.le_trans Z0 E3.1
    have fact_K_v7 := (Keep.refl h0 []).ext E3
    have F_value_b3 : Fld Z h3 b3 "java/lang/Integer" "value" "I" (.int (0 : Int32)) := D3 (Or.inr (w_ hw 47 rfl)) (ty := .int) (by decide)
    show Go p e below _ T3 (mkF m 26 #[.val (.int x0)] [(.ref b3)])
    refine Go.s_dup X3 hx (hb hby d5_26) (q := 27) rfl rfl ?_
    refine Go.s_iloadN X3 hx (hb hby d5_27) (q := 28) rfl rfl ?_
    refine Go.callC (y := mn_6) X3 hx hZ rfl hown (w_ hw 35 rfl) (w_ hw 36 rfl) (w_ hw 38 rfl) (w_ hw 25 rfl) (by decide) e3 (b := b3) (argsL := [(.int x0)]) (rest := [(.ref b3)]) (rm_ii l Z a0 hw b3 x0 h3 n0 _ A3 F_value_b3 g_b3) (by rw [hml]; rfl) (lenOf pd_2 rfl) rfl (hb hby d5_28) (by first | decide | exact Nat.le_of_ble_eq_true rfl) (by first | decide | exact Nat.le_of_ble_eq_true rfl) (by first | decide | exact Nat.le_of_ble_eq_true rfl) (by first | decide | exact Nat.le_of_ble_eq_true rfl) ?_
    intro r8 T8 L8 q8 X8
    obtain ⟨rfl, N8q, K8, Ea8⟩ := q8
    have N8 := Fr.app (Fr.nil n0) N8q
    have Z0_v9 := Nat.le_trans Z0_v6 K8.1
    have fact_K_v10 := Keep.trans fact_K_v7 K8 (allS (Or.inr sz_b3) all0)
    have A3_v11 := A3.keep K8
    show Go p e below _ T8 (mkF m 31 #[.val (.int x0)] [(.ref b3)])
    refine Go.retA X8 hx hlk hret rfl rfl (hb hby d5_31) (by decide) (by decide) ?_
    exact ⟨_, rfl, Ea8, N8, fact_K_v10⟩
  · -- pc 10: not (127 : Int32) < x0
    refine Go.s_icmpNo X1 hx (hb hby d5_10) (q := 13) rfl (flt c10_2).2.2.1 ?_
    refine Go.getS X1 hx hZ hown (w_ hw 29 rfl) Via.refl e1 S_cache (hb hby d5_13) ?_
    intro T12 X12 e12
    show Go p e below _ T12 (mkF m 16 #[.val (.int x0)] [(.ref ac)])
    refine Go.s_iloadN X12 hx (hb hby d5_16) (q := 17) rfl rfl ?_
    refine Go.s_sipush X12 hx (hb hby d5_17) (q := 20) rfl (z := 128) rfl ?_
    refine Go.s_iadd X12 hx (hb hby d5_20) (q := 21) rfl ?_
    obtain ⟨hj0, hjz⟩ := cache_in hlo' c10_2
    obtain ⟨B1, B2, B3, B4⟩ := BX
    have hin := inb_of B2 (j := (x0 + (128 : Int32))) ⟨hj0, hjz⟩
    obtain ⟨b, hb1, hb2, -⟩ := B4 _ hin
    have A1 := B1.ext O.2
    refine Go.of (fun t q => X12.aaload hx (by rw [e12]; exact A1.1) (State.isArrayOf_alike hZ.alike A1.2.1) rfl A1.2.2 hin hb1 (g := (mkF m 21 #[.val (.int x0)] [(.int (x0 + (128 : Int32))), (.ref ac)])) rfl rfl (hb hby d5_21) t q) ?_
    show Go p e below _ T12 (mkF m 22 #[.val (.int x0)] [(.ref b)])
    refine Go.retA X12 hx hlk hret rfl rfl (hb hby d5_22) (by decide) (by decide) ?_
    try rw [e12]
    exact ⟨b, rfl, hb2.ext O.2, (Fr.nil n0), Keep.refl _ _⟩
theorem ef_eq (m : MethodId) (x0 : Addr) (x1 : Addr) : entryFrame m #[(.ref x0), (.ref x1)] 3 = mkF m 0 #[.val (.ref x0), .val (.ref x1), .unset] [] := by first | (simp [entryFrame, mkF, argsToLocals, Value.category]; done) | rfl
set_option maxRecDepth 65536 in
set_option maxHeartbeats 40000000 in
theorem rm_eq (l : Launch) (Z : State) (a0 : Array Value) (hw : ∀ d ∈ tables_1, d.before a0 Z = true) (a : Addr) (b : Addr) (h0 : Heap) (p1 q1 : Int32) (F_a : Fld Z h0 a "com/example/irama/irama/Prefilter" "instances" "I" (.int p1)) (E_b : Exa Z h0 b "com/example/irama/irama/Prefilter") (F_b : Fld Z h0 b "com/example/irama/irama/Prefilter" "instances" "I" (.int q1)) :
    Ct l mn_4 prog_4_method_4_code 3 (some .boolean) ({ frames := 0, cells := 0, slots := 0, locals := 0 } : Room) Z h0 #[(.ref a), (.ref b)] (fun v h L => ∃ r, v = some (.int r) ∧ ((p1 = q1 ∧ r = (1 : Int32)) ∨ (¬ (p1 = q1) ∧ r = (0 : Int32))) ∧ L = [] ∧ h = h0) := by
  refine Ct.body (plainFor_of_name pn_com_example_irama_irama_Prefilter) ?_
  intro p e s m below meth c T0 hx hby hml hown hnm hret hlk hZ X0 e0
  refine Go.cast (ef_eq m a b) ?_
  show Go p e below _ T0 (mkF m 0 #[.val (.ref a), .val (.ref b), .unset] [])
  refine Go.s_aloadN X0 hx (hb hby d4_0) (q := 1) rfl rfl rfl ?_
  refine Go.instY X0 hx hZ hown (w_ hw 21 rfl) e0 (Ins.self E_b) (hb hby d4_1) ?_
  intro T1 X1 e1
  show Go p e below _ T1 (mkF m 4 #[.val (.ref a), .val (.ref b), .unset] [(.int (1 : Int32))])
  refine Go.s_ifNo X1 hx (hb hby d4_4) (q := 7) rfl ((if0 _ _).trans (feq (by decide : ¬ ((1 : Int32) = (0 : Int32)))).1) ?_
  refine Go.s_aloadN X1 hx (hb hby d4_7) (q := 8) rfl rfl rfl ?_
  refine Go.castY X1 hx hZ hown (w_ hw 21 rfl) e1 (Ins.self E_b) (hb hby d4_8) ?_
  intro T2 X2 e2
  show Go p e below _ T2 (mkF m 11 #[.val (.ref a), .val (.ref b), .unset] [(.ref b)])
  refine Go.s_astoreN X2 hx (hb hby d4_11) (q := 12) rfl rfl (l' := #[.val (.ref a), .val (.ref b), .val (.ref b)]) rfl ?_
  refine Go.s_aloadN X2 hx (hb hby d4_12) (q := 13) rfl rfl rfl ?_
  refine Go.getF X2 hx hZ hown (w_ hw 14 rfl) Via.refl e2 F_a (hb hby d4_13) ?_
  intro T3 X3 e3
  show Go p e below _ T3 (mkF m 16 #[.val (.ref a), .val (.ref b), .val (.ref b)] [(.int p1)])
  refine Go.s_aloadN X3 hx (hb hby d4_16) (q := 17) rfl rfl rfl ?_
  refine Go.getF X3 hx hZ hown (w_ hw 14 rfl) Via.refl e3 F_b (hb hby d4_17) ?_
  intro T4 X4 e4
  show Go p e below _ T4 (mkF m 20 #[.val (.ref a), .val (.ref b), .val (.ref b)] [(.int q1), (.int p1)])
  by_cases c20_5 : p1 = q1
  · -- pc 20: p1 = q1
    refine Go.s_icmpNo X4 hx (hb hby d4_20) (q := 23) rfl (teq c20_5).2 ?_
    refine Go.s_iconst X4 hx (hb hby d4_23) (q := 24) rfl (z := 1) rfl ?_
    refine Go.s_goto X4 hx (hb hby d4_24) (q := 28) (by decide) (by decide) ?_
    refine Go.retN X4 hx hlk hret (by simp) (hb hby d4_28) (by decide) (by decide) ?_
    try rw [e4]
    exact ⟨_, rfl, Or.inl ⟨c20_5, (by decide)⟩, rfl, rfl⟩
  · -- pc 20: not p1 = q1
    refine Go.s_icmpYes X4 hx (hb hby d4_20) (q := 27) (by decide) (by decide) (feq c20_5).2 ?_
    refine Go.s_iconst X4 hx (hb hby d4_27) (q := 28) rfl (z := 0) rfl ?_
    refine Go.retN X4 hx hlk hret (by simp) (hb hby d4_28) (by decide) (by decide) ?_
    try rw [e4]
    exact ⟨_, rfl, Or.inr (⟨c20_5, (by decide)⟩), rfl, rfl⟩
theorem ef_eqs (m : MethodId) (x0 : Addr) (x1 : Addr) : entryFrame m #[(.ref x0), (.ref x1)] 3 = mkF m 0 #[.val (.ref x0), .val (.ref x1), .unset] [] := by first | (simp [entryFrame, mkF, argsToLocals, Value.category]; done) | rfl
set_option maxRecDepth 65536 in
set_option maxHeartbeats 40000000 in
theorem rm_eqs (l : Launch) (Z : State) (a0 : Array Value) (hw : ∀ d ∈ tables_1, d.before a0 Z = true) (a : Addr) (a : Addr) (h0 : Heap) (p1 : Int32) (F_a : Fld Z h0 a "com/example/irama/irama/Prefilter" "instances" "I" (.int p1)) (E_a : Exa Z h0 a "com/example/irama/irama/Prefilter") :
    Ct l mn_4 prog_4_method_4_code 3 (some .boolean) ({ frames := 0, cells := 0, slots := 0, locals := 0 } : Room) Z h0 #[(.ref a), (.ref a)] (fun v h L => v = some (.int 1) ∧ L = [] ∧ h = h0) := by
  refine Ct.body (plainFor_of_name pn_com_example_irama_irama_Prefilter) ?_
  intro p e s m below meth c T0 hx hby hml hown hnm hret hlk hZ X0 e0
  refine Go.cast (ef_eqs m a a) ?_
  show Go p e below _ T0 (mkF m 0 #[.val (.ref a), .val (.ref a), .unset] [])
  refine Go.s_aloadN X0 hx (hb hby d4_0) (q := 1) rfl rfl rfl ?_
  refine Go.instY X0 hx hZ hown (w_ hw 21 rfl) e0 (Ins.self E_a) (hb hby d4_1) ?_
  intro T1 X1 e1
  show Go p e below _ T1 (mkF m 4 #[.val (.ref a), .val (.ref a), .unset] [(.int (1 : Int32))])
  refine Go.s_ifNo X1 hx (hb hby d4_4) (q := 7) rfl ((if0 _ _).trans (feq (by decide : ¬ ((1 : Int32) = (0 : Int32)))).1) ?_
  refine Go.s_aloadN X1 hx (hb hby d4_7) (q := 8) rfl rfl rfl ?_
  refine Go.castY X1 hx hZ hown (w_ hw 21 rfl) e1 (Ins.self E_a) (hb hby d4_8) ?_
  intro T2 X2 e2
  show Go p e below _ T2 (mkF m 11 #[.val (.ref a), .val (.ref a), .unset] [(.ref a)])
  refine Go.s_astoreN X2 hx (hb hby d4_11) (q := 12) rfl rfl (l' := #[.val (.ref a), .val (.ref a), .val (.ref a)]) rfl ?_
  refine Go.s_aloadN X2 hx (hb hby d4_12) (q := 13) rfl rfl rfl ?_
  refine Go.getF X2 hx hZ hown (w_ hw 14 rfl) Via.refl e2 F_a (hb hby d4_13) ?_
  intro T3 X3 e3
  show Go p e below _ T3 (mkF m 16 #[.val (.ref a), .val (.ref a), .val (.ref a)] [(.int p1)])
  refine Go.s_aloadN X3 hx (hb hby d4_16) (q := 17) rfl rfl rfl ?_
  refine Go.getF X3 hx hZ hown (w_ hw 14 rfl) Via.refl e3 F_a (hb hby d4_17) ?_
  intro T4 X4 e4
  show Go p e below _ T4 (mkF m 20 #[.val (.ref a), .val (.ref a), .val (.ref a)] [(.int p1), (.int p1)])
  refine Go.s_icmpNo X4 hx (hb hby d4_20) (q := 23) rfl (teq (rfl : p1 = p1)).2 ?_
  refine Go.s_iconst X4 hx (hb hby d4_23) (q := 24) rfl (z := 1) rfl ?_
  refine Go.s_goto X4 hx (hb hby d4_24) (q := 28) (by decide) (by decide) ?_
  refine Go.retN X4 hx hlk hret (by simp) (hb hby d4_28) (by decide) (by decide) ?_
  try rw [e4]
  exact ⟨by decide, rfl, rfl⟩
theorem ef_eqn (m : MethodId) (x0 : Addr) : entryFrame m #[(.ref x0), .null] 3 = mkF m 0 #[.val (.ref x0), .val .null, .unset] [] := by first | (simp [entryFrame, mkF, argsToLocals, Value.category]; done) | rfl
set_option maxRecDepth 65536 in
set_option maxHeartbeats 40000000 in
theorem rm_eqn (l : Launch) (Z : State) (a0 : Array Value) (hw : ∀ d ∈ tables_1, d.before a0 Z = true) (a : Addr) (h0 : Heap)  :
    Ct l mn_4 prog_4_method_4_code 3 (some .boolean) ({ frames := 0, cells := 0, slots := 0, locals := 0 } : Room) Z h0 #[(.ref a), .null] (fun v h L => v = some (.int 0) ∧ L = [] ∧ h = h0) := by
  refine Ct.body (plainFor_of_name pn_com_example_irama_irama_Prefilter) ?_
  intro p e s m below meth c T0 hx hby hml hown hnm hret hlk hZ X0 e0
  refine Go.cast (ef_eqn m a) ?_
  show Go p e below _ T0 (mkF m 0 #[.val (.ref a), .val .null, .unset] [])
  refine Go.s_aloadN X0 hx (hb hby d4_0) (q := 1) rfl rfl rfl ?_
  refine Go.of (X0.instanceofNull hx (g := (mkF m 1 #[.val (.ref a), .val .null, .unset] [.null])) rfl rfl (hb hby d4_1)) ?_
  show Go p e below _ T0 (mkF m 4 #[.val (.ref a), .val .null, .unset] [(.int (0 : Int32))])
  refine Go.s_ifYes X0 hx (hb hby d4_4) (q := 27) (by decide) (by decide) ((if0 _ _).trans (teq (by decide : (0 : Int32) = (0 : Int32))).1) ?_
  refine Go.s_iconst X0 hx (hb hby d4_27) (q := 28) rfl (z := 0) rfl ?_
  refine Go.retN X0 hx hlk hret (by simp) (hb hby d4_28) (by decide) (by decide) ?_
  try rw [e0]
  exact ⟨by decide, rfl, rfl⟩
theorem ef_eqi (m : MethodId) (x0 : Addr) (x1 : Addr) : entryFrame m #[(.ref x0), (.ref x1)] 3 = mkF m 0 #[.val (.ref x0), .val (.ref x1), .unset] [] := by first | (simp [entryFrame, mkF, argsToLocals, Value.category]; done) | rfl
set_option maxRecDepth 65536 in
set_option maxHeartbeats 40000000 in
theorem rm_eqi (l : Launch) (Z : State) (a0 : Array Value) (hw : ∀ d ∈ tables_1, d.before a0 Z = true) (a : Addr) (b : Addr) (h0 : Heap) (E_b : Exa Z h0 b "java/lang/Integer") :
    Ct l mn_4 prog_4_method_4_code 3 (some .boolean) ({ frames := 0, cells := 0, slots := 0, locals := 0 } : Room) Z h0 #[(.ref a), (.ref b)] (fun v h L => v = some (.int 0) ∧ L = [] ∧ h = h0) := by
  refine Ct.body (plainFor_of_name pn_com_example_irama_irama_Prefilter) ?_
  intro p e s m below meth c T0 hx hby hml hown hnm hret hlk hZ X0 e0
  have nopre := no_ins (C := "java/lang/Integer") (K := "com/example/irama/irama/Prefilter") (w_ hw 30 rfl) (w_ hw 31 rfl) (w_ hw 32 rfl) (hw _ (List.mem_of_getElem? (i := 6) rfl)) (by decide) (by decide) (by decide)
  refine Go.cast (ef_eqi m a b) ?_
  show Go p e below _ T0 (mkF m 0 #[.val (.ref a), .val (.ref b), .unset] [])
  refine Go.s_aloadN X0 hx (hb hby d4_0) (q := 1) rfl rfl rfl ?_
  refine Go.instNo X0 hx hZ hown (w_ hw 21 rfl) e0 E_b nopre (hb hby d4_1) ?_
  intro T1 X1 e1
  show Go p e below _ T1 (mkF m 4 #[.val (.ref a), .val (.ref b), .unset] [(.int (0 : Int32))])
  refine Go.s_ifYes X1 hx (hb hby d4_4) (q := 27) (by decide) (by decide) ((if0 _ _).trans (teq (by decide : (0 : Int32) = (0 : Int32))).1) ?_
  refine Go.s_iconst X1 hx (hb hby d4_27) (q := 28) rfl (z := 0) rfl ?_
  refine Go.retN X1 hx hlk hret (by simp) (hb hby d4_28) (by decide) (by decide) ?_
  try rw [e1]
  exact ⟨by decide, rfl, rfl⟩
theorem ef_law (m : MethodId) (x0 : Int32) (x1 : Int32) (x2 : Int32) : entryFrame m #[(.int x0), (.int x1), (.int x2)] maxLocals = mkF m 0 #[.val (.int x0), .val (.int x1), .val (.int x2), .unset, .unset, .unset, .unset, .unset, .unset] [] := by first | (simp [entryFrame, mkF, argsToLocals, Value.category, maxLocals]; done) | rfl
set_option maxRecDepth 65536 in
set_option maxHeartbeats 40000000 in
theorem rm_law (l : Launch) (Z : State) (a0 : Array Value) (hw : ∀ d ∈ tables_1, d.before a0 Z = true) (x0 : Int32) (x1 : Int32) (x2 : Int32) (h0 : Heap) (n0 : Nat) (Z0 : n0 ≤ h0.size) (ac : Addr) (cc : Cell) (O : Old Z n0 h0) (S_high0 : Sta Z Z.heap "java/lang/Integer$IntegerCache" "high" "I" (.int (127 : Int32))) (S_cache0 : Sta Z Z.heap "java/lang/Integer$IntegerCache" "cache" "[Ljava/lang/Integer;" (.ref ac)) (BX : Bxs Z ac cc "java/lang/Integer" "I" (256 : Int32) (fun j => .int (j - 128))) :
    Ct l x code maxLocals ret room_1 Z h0 #[(.int x0), (.int x1), (.int x2)] (fun v h L => v = some (.int 1) ∧ Fr n0 L) := by
  refine Ct.body (plainFor_of_name pn_com_example_irama_irama_PrefilterEqualsPinLaw) ?_
  intro p e s m below meth c T0 hx hby hml hown hnm hret hlk hZ X0 e0
  refine Go.cast (ef_law m x0 x1 x2) ?_
  show Go p e below _ T0 (mkF m 0 #[.val (.int x0), .val (.int x1), .val (.int x2), .unset, .unset, .unset, .unset, .unset, .unset] [])
  refine Go.s_iconst X0 hx (hb hby at_0) (q := 1) rfl (z := 1) rfl ?_
  refine Go.s_iloadN X0 hx (hb hby at_1) (q := 2) rfl rfl ?_
  refine Go.s_ldc X0 hx (hb hby at_2) (q := 4) rfl hown (mvT hZ (w_ hw 0 rfl)) ?_
  refine Go.s_iand X0 hx (hb hby at_4) (q := 5) rfl ?_
  refine Go.callS (y := mn_1) X0 hx hZ hown (w_ hw 1 rfl) (w_ hw 2 rfl) (w_ hw 3 rfl) (w_ hw 4 rfl) (by decide) e0 (argsL := [(.int (1 : Int32)), (.int (x0 &&& (2147483647 : Int32)))]) (rest := []) (rm_mx l Z a0 hw (1 : Int32) (x0 &&& (2147483647 : Int32)) _) (by rw [hml]; rfl) (lenOf pd_3 rfl) rfl (hb hby at_5) (by decide) (by decide) (by decide) (by decide) ?_
  intro r1 T1 L1 q1 X1
  obtain ⟨w1, rfl, p1, rfl, e1⟩ := q1
  rw [List.append_nil] at X1
  have hge_w1 := max_one p1
  show Go p e below _ T1 (mkF m 8 #[.val (.int x0), .val (.int x1), .val (.int x2), .unset, .unset, .unset, .unset, .unset, .unset] [(.int w1)])
  refine Go.s_istoreN X1 hx (hb hby at_8) (q := 9) rfl (l' := #[.val (.int x0), .val (.int x1), .val (.int x2), .val (.int w1), .unset, .unset, .unset, .unset, .unset]) rfl ?_
  refine Go.s_iloadN X1 hx (hb hby at_9) (q := 10) rfl rfl ?_
  refine Go.s_iconst X1 hx (hb hby at_10) (q := 11) rfl (z := 1) rfl ?_
  refine Go.s_iand X1 hx (hb hby at_11) (q := 12) rfl ?_
  by_cases c12_2 : (x2 &&& (1 : Int32)) = (0 : Int32)
  · -- pc 12: (x2 &&& (1 : Int32)) = (0 : Int32)
    refine Go.s_ifYes X1 hx (hb hby at_12) (q := 19) (by decide) (by decide) ((if0 _ _).trans (teq c12_2).1) ?_
    refine Go.s_iconst X1 hx (hb hby at_19) (q := 20) rfl (z := 1) rfl ?_
    refine Go.s_iloadN X1 hx (hb hby at_20) (q := 21) rfl rfl ?_
    refine Go.s_ldc X1 hx (hb hby at_21) (q := 23) rfl hown (mvT hZ (w_ hw 0 rfl)) ?_
    refine Go.s_iand X1 hx (hb hby at_23) (q := 24) rfl ?_
    refine Go.callS (y := mn_1) X1 hx hZ hown (w_ hw 1 rfl) (w_ hw 2 rfl) (w_ hw 3 rfl) (w_ hw 4 rfl) (by decide) e1 (argsL := [(.int (1 : Int32)), (.int (x1 &&& (2147483647 : Int32)))]) (rest := []) (rm_mx l Z a0 hw (1 : Int32) (x1 &&& (2147483647 : Int32)) _) (by rw [hml]; rfl) (lenOf pd_3 rfl) rfl (hb hby at_24) (by decide) (by decide) (by decide) (by decide) ?_
    intro r3 T3 L3 q3 X3
    obtain ⟨w3, rfl, p3, rfl, e3⟩ := q3
    rw [List.append_nil] at X3
    have hge_w3 := max_one p3
    show Go p e below _ T3 (mkF m 27 #[.val (.int x0), .val (.int x1), .val (.int x2), .val (.int w1), .unset, .unset, .unset, .unset, .unset] [(.int w3)])
    refine Go.s_istore X3 hx (hb hby at_27) (q := 29) rfl (l' := #[.val (.int x0), .val (.int x1), .val (.int x2), .val (.int w1), .val (.int w3), .unset, .unset, .unset, .unset]) rfl ?_
    refine Go.newO X3 hx hZ hown (w_ hw 5 rfl) (w_ hw 6 rfl) (w_ hw 7 rfl) e3 (hb hby at_29) (by decide) (by decide) ?_
    intro T4 h4 b4 g4 X4 e4 E4 A4 D4
    have g_b4 : n0 ≤ b4 := g4 ▸ Z0
    have Z0_v5 := Nat.le_trans Z0 E4.1
    have O_v6 := Old.ext O E4
    have F_instances_b4 : Fld Z h4 b4 "com/example/irama/irama/Prefilter" "instances" "I" (.int (0 : Int32)) := D4 (Or.inr (w_ hw 15 rfl)) (ty := .int) (by decide)
    show Go p e below _ T4 (mkF m 32 #[.val (.int x0), .val (.int x1), .val (.int x2), .val (.int w1), .val (.int w3), .unset, .unset, .unset, .unset] [(.ref b4)])
    refine Go.s_dup X4 hx (hb hby at_32) (q := 33) rfl rfl ?_
    refine Go.s_iloadN X4 hx (hb hby at_33) (q := 34) rfl rfl ?_
    refine Go.callC (y := mn_2) X4 hx hZ rfl hown (w_ hw 8 rfl) (w_ hw 9 rfl) (w_ hw 10 rfl) (w_ hw 7 rfl) (by decide) e4 (b := b4) (argsL := [(.int w1)]) (rest := [(.ref b4)]) (rm_ini l Z a0 hw b4 w1 h4 n0 _ A4 F_instances_b4 g_b4 hge_w1) (by rw [hml]; rfl) (lenOf pd_2 rfl) rfl (hb hby at_34) (by first | decide | exact Nat.le_of_ble_eq_true rfl) (by first | decide | exact Nat.le_of_ble_eq_true rfl) (by first | decide | exact Nat.le_of_ble_eq_true rfl) (by first | decide | exact Nat.le_of_ble_eq_true rfl) ?_
    intro r7 T7 L7 q7 X7
    obtain ⟨rfl, N7q, K7, Ea7, Fa7⟩ := q7
    have N7 := Fr.app (Fr.nil n0) N7q
    have Z0_v8 := Nat.le_trans Z0_v5 K7.1
    have O_v9 := Old.keep O_v6 K7 (allS g_b4 all0)
    have A4_v10 := A4.keep K7
    show Go p e below _ T7 (mkF m 37 #[.val (.int x0), .val (.int x1), .val (.int x2), .val (.int w1), .val (.int w3), .unset, .unset, .unset, .unset] [(.ref b4)])
    refine Go.s_astore X7 hx (hb hby at_37) (q := 39) rfl rfl (l' := #[.val (.int x0), .val (.int x1), .val (.int x2), .val (.int w1), .val (.int w3), .val (.ref b4), .unset, .unset, .unset]) rfl ?_
    refine Go.newO X7 hx hZ hown (w_ hw 5 rfl) (w_ hw 6 rfl) (w_ hw 7 rfl) rfl (hb hby at_39) (by decide) (by decide) ?_
    intro T11 h11 b11 g11 X11 e11 E11 A11 D11
    have ne_b4_b11 : b4 ≠ b11 := Nat.ne_of_lt (g11 ▸ Ea7.lt)
    have g_b11 : n0 ≤ b11 := g11 ▸ Z0_v8
    have Z0_v12 := Nat.le_trans Z0_v8 E11.1
    have O_v13 := Old.ext O_v9 E11
    have Ea7_v14 := Ea7.ext E11
    have Fa7_v15 := Fa7.ext E11
    have F_instances_b11 : Fld Z h11 b11 "com/example/irama/irama/Prefilter" "instances" "I" (.int (0 : Int32)) := D11 (Or.inr (w_ hw 15 rfl)) (ty := .int) (by decide)
    show Go p e below _ T11 (mkF m 42 #[.val (.int x0), .val (.int x1), .val (.int x2), .val (.int w1), .val (.int w3), .val (.ref b4), .unset, .unset, .unset] [(.ref b11)])
    refine Go.s_dup X11 hx (hb hby at_42) (q := 43) rfl rfl ?_
    refine Go.s_iload X11 hx (hb hby at_43) (q := 45) rfl rfl ?_
    refine Go.callC (y := mn_2) X11 hx hZ rfl hown (w_ hw 8 rfl) (w_ hw 9 rfl) (w_ hw 10 rfl) (w_ hw 7 rfl) (by decide) e11 (b := b11) (argsL := [(.int w3)]) (rest := [(.ref b11)]) (rm_ini l Z a0 hw b11 w3 h11 n0 _ A11 F_instances_b11 g_b11 hge_w3) (by rw [hml]; rfl) (lenOf pd_2 rfl) rfl (hb hby at_45) (by first | decide | exact Nat.le_of_ble_eq_true rfl) (by first | decide | exact Nat.le_of_ble_eq_true rfl) (by first | decide | exact Nat.le_of_ble_eq_true rfl) (by first | decide | exact Nat.le_of_ble_eq_true rfl) ?_
    intro r16 T16 L16 q16 X16
    obtain ⟨rfl, N16q, K16, Ea16, Fa16⟩ := q16
    have N16 := Fr.app N7 N16q
    have Z0_v17 := Nat.le_trans Z0_v12 K16.1
    have O_v18 := Old.keep O_v13 K16 (allS g_b11 all0)
    have Ea7_v19 := Ea7_v14.keep K16
    have Fa7_v20 := Fa7_v15.keep K16 (ninS ne_b4_b11 nin0)
    have A11_v21 := A11.keep K16
    show Go p e below _ T16 (mkF m 48 #[.val (.int x0), .val (.int x1), .val (.int x2), .val (.int w1), .val (.int w3), .val (.ref b4), .unset, .unset, .unset] [(.ref b11)])
    refine Go.s_astore X16 hx (hb hby at_48) (q := 50) rfl rfl (l' := #[.val (.int x0), .val (.int x1), .val (.int x2), .val (.int w1), .val (.int w3), .val (.ref b4), .val (.ref b11), .unset, .unset]) rfl ?_
    refine Go.s_iloadN X16 hx (hb hby at_50) (q := 51) rfl rfl ?_
    refine Go.s_iload X16 hx (hb hby at_51) (q := 53) rfl rfl ?_
    by_cases c53_22 : w1 = w3
    · -- pc 53: w1 = w3
      refine Go.s_icmpNo X16 hx (hb hby at_53) (q := 56) rfl (teq c53_22).2 ?_
      refine Go.s_iconst X16 hx (hb hby at_56) (q := 57) rfl (z := 1) rfl ?_
      refine Go.s_goto X16 hx (hb hby at_57) (q := 61) (by decide) (by decide) ?_
      refine Go.s_istore X16 hx (hb hby at_61) (q := 63) rfl (l' := #[.val (.int x0), .val (.int x1), .val (.int x2), .val (.int w1), .val (.int w3), .val (.ref b4), .val (.ref b11), .val (.int (1 : Int32)), .unset]) rfl ?_
      refine Go.s_aload X16 hx (hb hby at_63) (q := 65) rfl rfl rfl ?_
      refine Go.s_aload X16 hx (hb hby at_65) (q := 67) rfl rfl rfl ?_
      refine Go.callV (y := mn_4) (z := mn_4) X16 hx hZ hown (w_ hw 16 rfl) (w_ hw 17 rfl) (notFace_of_selects (args := #[]) (mvT hZ (w_ hw 19 rfl))) (w_ hw 19 rfl) (w_ hw 18 rfl) (w_ hw 20 rfl) (w_ hw 7 rfl) (by decide) rfl Ea7_v19 (argsL := [(.ref b11)]) (rest := []) (rm_eq l Z a0 hw b4 b11 T16.heap w1 w3 Fa7_v20 Ea16 Fa16) (by rw [hml]; rfl) (lenOf pd_4 rfl) rfl (hb hby at_67) (by decide) (by decide) (by decide) (by decide) ?_
      intro r23 T23 L23 q23 X23
      obtain ⟨w23, rfl, p23, rfl, e23⟩ := q23
      rw [List.append_nil] at X23
      rcases p23 with ⟨u23_0_0, z23⟩ | ⟨u23_1_0, z23⟩
      · -- (1 : Int32)
        subst w23
        show Go p e below _ T23 (mkF m 70 #[.val (.int x0), .val (.int x1), .val (.int x2), .val (.int w1), .val (.int w3), .val (.ref b4), .val (.ref b11), .val (.int (1 : Int32)), .unset] [(.int (1 : Int32))])
        refine Go.s_iload X23 hx (hb hby at_70) (q := 72) rfl rfl ?_
        refine Go.s_icmpYes X23 hx (hb hby at_72) (q := 77) (by decide) (by decide) (teq (by decide : (1 : Int32) = (1 : Int32))).1 ?_
        refine Go.s_aload X23 hx (hb hby at_77) (q := 79) rfl rfl rfl ?_
        refine Go.s_aload X23 hx (hb hby at_79) (q := 81) rfl rfl rfl ?_
        refine Go.callV (y := mn_4) (z := mn_4) X23 hx hZ hown (w_ hw 16 rfl) (w_ hw 17 rfl) (notFace_of_selects (args := #[]) (mvT hZ (w_ hw 19 rfl))) (w_ hw 19 rfl) (w_ hw 18 rfl) (w_ hw 20 rfl) (w_ hw 7 rfl) (by decide) e23 Ea16 (argsL := [(.ref b4)]) (rest := []) (rm_eq l Z a0 hw b11 b4 T16.heap w3 w1 Fa16 Ea7_v19 Fa7_v20) (by rw [hml]; rfl) (lenOf pd_4 rfl) rfl (hb hby at_81) (by decide) (by decide) (by decide) (by decide) ?_
        intro r24 T24 L24 q24 X24
        obtain ⟨w24, rfl, p24, rfl, e24⟩ := q24
        rw [List.append_nil] at X24
        rcases p24 with ⟨u24_0_0, z24⟩ | ⟨u24_1_0, z24⟩
        · -- (1 : Int32)
          subst w24
          show Go p e below _ T24 (mkF m 84 #[.val (.int x0), .val (.int x1), .val (.int x2), .val (.int w1), .val (.int w3), .val (.ref b4), .val (.ref b11), .val (.int (1 : Int32)), .unset] [(.int (1 : Int32))])
          refine Go.s_iload X24 hx (hb hby at_84) (q := 86) rfl rfl ?_
          refine Go.s_icmpYes X24 hx (hb hby at_86) (q := 91) (by decide) (by decide) (teq (by decide : (1 : Int32) = (1 : Int32))).1 ?_
          refine Go.s_aload X24 hx (hb hby at_91) (q := 93) rfl rfl rfl ?_
          refine Go.s_aload X24 hx (hb hby at_93) (q := 95) rfl rfl rfl ?_
          refine Go.callV (y := mn_4) (z := mn_4) X24 hx hZ hown (w_ hw 16 rfl) (w_ hw 17 rfl) (notFace_of_selects (args := #[]) (mvT hZ (w_ hw 19 rfl))) (w_ hw 19 rfl) (w_ hw 18 rfl) (w_ hw 20 rfl) (w_ hw 7 rfl) (by decide) e24 Ea7_v19 (argsL := [(.ref b4)]) (rest := []) (rm_eqs l Z a0 hw b4 b4 T16.heap w1 Fa7_v20 Ea7_v19) (by rw [hml]; rfl) (lenOf pd_4 rfl) rfl (hb hby at_95) (by decide) (by decide) (by decide) (by decide) ?_
          intro r25 T25 L25 q25 X25
          obtain ⟨rfl, rfl, e25⟩ := q25
          rw [List.append_nil] at X25
          show Go p e below _ T25 (mkF m 98 #[.val (.int x0), .val (.int x1), .val (.int x2), .val (.int w1), .val (.int w3), .val (.ref b4), .val (.ref b11), .val (.int (1 : Int32)), .unset] [(.int (1 : Int32))])
          refine Go.s_ifYes X25 hx (hb hby at_98) (q := 103) (by decide) (by decide) ((if0 _ _).trans (feq (by decide : ¬ ((1 : Int32) = (0 : Int32)))).2) ?_
          refine Go.s_aload X25 hx (hb hby at_103) (q := 105) rfl rfl rfl ?_
          refine Go.s_aconst_null X25 hx (hb hby at_105) (q := 106) rfl ?_
          refine Go.callV (y := mn_4) (z := mn_4) X25 hx hZ hown (w_ hw 16 rfl) (w_ hw 17 rfl) (notFace_of_selects (args := #[]) (mvT hZ (w_ hw 19 rfl))) (w_ hw 19 rfl) (w_ hw 18 rfl) (w_ hw 20 rfl) (w_ hw 7 rfl) (by decide) e25 Ea7_v19 (argsL := [.null]) (rest := []) (rm_eqn l Z a0 hw b4 T16.heap) (by rw [hml]; rfl) (lenOf pd_4 rfl) rfl (hb hby at_106) (by decide) (by decide) (by decide) (by decide) ?_
          intro r26 T26 L26 q26 X26
          obtain ⟨rfl, rfl, e26⟩ := q26
          rw [List.append_nil] at X26
          show Go p e below _ T26 (mkF m 109 #[.val (.int x0), .val (.int x1), .val (.int x2), .val (.int w1), .val (.int w3), .val (.ref b4), .val (.ref b11), .val (.int (1 : Int32)), .unset] [(.int (0 : Int32))])
          refine Go.s_ifYes X26 hx (hb hby at_109) (q := 114) (by decide) (by decide) ((if0 _ _).trans (teq (by decide : (0 : Int32) = (0 : Int32))).1) ?_
          refine Go.s_iloadN X26 hx (hb hby at_114) (q := 115) rfl rfl ?_
          refine Go.callS (y := mn_5) X26 hx hZ hown (w_ hw 23 rfl) (w_ hw 24 rfl) (w_ hw 25 rfl) (w_ hw 26 rfl) (by decide) e26 (argsL := [(.int w1)]) (rest := []) (rm_vo l Z a0 hw w1 T16.heap n0 Z0_v17 ac cc O_v18 S_high0 S_cache0 BX hge_w1) (by rw [hml]; rfl) (lenOf pd_1 rfl) rfl (hb hby at_115) (by decide) (by decide) (by decide) (by decide) ?_
          intro r27 T27 L27 q27 X27
          obtain ⟨r27a, rfl, Er27, N27z, K27z⟩ := q27
          have q27 : (none : Option Value) = none ∧ Fr n0 L27 ∧ Keep T16.heap T27.heap [] := ⟨rfl, N27z, K27z⟩
          obtain ⟨-, N27q, K27⟩ := q27
          have N27 := Fr.app N16 N27q
          have Z0_v28 := Nat.le_trans Z0_v17 K27.1
          have O_v29 := Old.keep O_v18 K27 all0
          have Ea7_v30 := Ea7_v19.keep K27
          have Fa7_v31 := Fa7_v20.keep K27 nin0
          have Ea16_v32 := Ea16.keep K27
          have Fa16_v33 := Fa16.keep K27 nin0
          show Go p e below _ T27 (mkF m 118 #[.val (.int x0), .val (.int x1), .val (.int x2), .val (.int w1), .val (.int w3), .val (.ref b4), .val (.ref b11), .val (.int (1 : Int32)), .unset] [(.ref r27a)])
          refine Go.s_astore X27 hx (hb hby at_118) (q := 120) rfl rfl (l' := #[.val (.int x0), .val (.int x1), .val (.int x2), .val (.int w1), .val (.int w3), .val (.ref b4), .val (.ref b11), .val (.int (1 : Int32)), .val (.ref r27a)]) rfl ?_
          refine Go.s_aload X27 hx (hb hby at_120) (q := 122) rfl rfl rfl ?_
          refine Go.s_aload X27 hx (hb hby at_122) (q := 124) rfl rfl rfl ?_
          refine Go.callV (y := mn_4) (z := mn_4) X27 hx hZ hown (w_ hw 16 rfl) (w_ hw 17 rfl) (notFace_of_selects (args := #[]) (mvT hZ (w_ hw 19 rfl))) (w_ hw 19 rfl) (w_ hw 18 rfl) (w_ hw 20 rfl) (w_ hw 7 rfl) (by decide) rfl Ea7_v30 (argsL := [(.ref r27a)]) (rest := []) (rm_eqi l Z a0 hw b4 r27a T27.heap Er27) (by rw [hml]; rfl) (lenOf pd_4 rfl) rfl (hb hby at_124) (by decide) (by decide) (by decide) (by decide) ?_
          intro r34 T34 L34 q34 X34
          obtain ⟨rfl, rfl, e34⟩ := q34
          rw [List.append_nil] at X34
          show Go p e below _ T34 (mkF m 127 #[.val (.int x0), .val (.int x1), .val (.int x2), .val (.int w1), .val (.int w3), .val (.ref b4), .val (.ref b11), .val (.int (1 : Int32)), .val (.ref r27a)] [(.int (0 : Int32))])
          refine Go.s_ifYes X34 hx (hb hby at_127) (q := 132) (by decide) (by decide) ((if0 _ _).trans (teq (by decide : (0 : Int32) = (0 : Int32))).1) ?_
          refine Go.s_iconst X34 hx (hb hby at_132) (q := 133) rfl (z := 1) rfl ?_
          refine Go.retN X34 hx hlk hret (by simp) (hb hby at_133) (by decide) (by decide) ?_
          try rw [e34]
          exact ⟨by decide, N27⟩
        · -- (0 : Int32)
          subst w24
          exact absurd (Eq.symm u23_0_0) u24_1_0
      · -- (0 : Int32)
        subst w23
        exact absurd c53_22 u23_1_0
    · -- pc 53: not w1 = w3
      refine Go.s_icmpYes X16 hx (hb hby at_53) (q := 60) (by decide) (by decide) (feq c53_22).2 ?_
      refine Go.s_iconst X16 hx (hb hby at_60) (q := 61) rfl (z := 0) rfl ?_
      refine Go.s_istore X16 hx (hb hby at_61) (q := 63) rfl (l' := #[.val (.int x0), .val (.int x1), .val (.int x2), .val (.int w1), .val (.int w3), .val (.ref b4), .val (.ref b11), .val (.int (0 : Int32)), .unset]) rfl ?_
      refine Go.s_aload X16 hx (hb hby at_63) (q := 65) rfl rfl rfl ?_
      refine Go.s_aload X16 hx (hb hby at_65) (q := 67) rfl rfl rfl ?_
      refine Go.callV (y := mn_4) (z := mn_4) X16 hx hZ hown (w_ hw 16 rfl) (w_ hw 17 rfl) (notFace_of_selects (args := #[]) (mvT hZ (w_ hw 19 rfl))) (w_ hw 19 rfl) (w_ hw 18 rfl) (w_ hw 20 rfl) (w_ hw 7 rfl) (by decide) rfl Ea7_v19 (argsL := [(.ref b11)]) (rest := []) (rm_eq l Z a0 hw b4 b11 T16.heap w1 w3 Fa7_v20 Ea16 Fa16) (by rw [hml]; rfl) (lenOf pd_4 rfl) rfl (hb hby at_67) (by decide) (by decide) (by decide) (by decide) ?_
      intro r35 T35 L35 q35 X35
      obtain ⟨w35, rfl, p35, rfl, e35⟩ := q35
      rw [List.append_nil] at X35
      rcases p35 with ⟨u35_0_0, z35⟩ | ⟨u35_1_0, z35⟩
      · -- (1 : Int32)
        subst w35
        exact absurd u35_0_0 c53_22
      · -- (0 : Int32)
        subst w35
        show Go p e below _ T35 (mkF m 70 #[.val (.int x0), .val (.int x1), .val (.int x2), .val (.int w1), .val (.int w3), .val (.ref b4), .val (.ref b11), .val (.int (0 : Int32)), .unset] [(.int (0 : Int32))])
        refine Go.s_iload X35 hx (hb hby at_70) (q := 72) rfl rfl ?_
        refine Go.s_icmpYes X35 hx (hb hby at_72) (q := 77) (by decide) (by decide) (teq (by decide : (0 : Int32) = (0 : Int32))).1 ?_
        refine Go.s_aload X35 hx (hb hby at_77) (q := 79) rfl rfl rfl ?_
        refine Go.s_aload X35 hx (hb hby at_79) (q := 81) rfl rfl rfl ?_
        refine Go.callV (y := mn_4) (z := mn_4) X35 hx hZ hown (w_ hw 16 rfl) (w_ hw 17 rfl) (notFace_of_selects (args := #[]) (mvT hZ (w_ hw 19 rfl))) (w_ hw 19 rfl) (w_ hw 18 rfl) (w_ hw 20 rfl) (w_ hw 7 rfl) (by decide) e35 Ea16 (argsL := [(.ref b4)]) (rest := []) (rm_eq l Z a0 hw b11 b4 T16.heap w3 w1 Fa16 Ea7_v19 Fa7_v20) (by rw [hml]; rfl) (lenOf pd_4 rfl) rfl (hb hby at_81) (by decide) (by decide) (by decide) (by decide) ?_
        intro r36 T36 L36 q36 X36
        obtain ⟨w36, rfl, p36, rfl, e36⟩ := q36
        rw [List.append_nil] at X36
        rcases p36 with ⟨u36_0_0, z36⟩ | ⟨u36_1_0, z36⟩
        · -- (1 : Int32)
          subst w36
          exact absurd (Eq.symm u36_0_0) u35_1_0
        · -- (0 : Int32)
          subst w36
          show Go p e below _ T36 (mkF m 84 #[.val (.int x0), .val (.int x1), .val (.int x2), .val (.int w1), .val (.int w3), .val (.ref b4), .val (.ref b11), .val (.int (0 : Int32)), .unset] [(.int (0 : Int32))])
          refine Go.s_iload X36 hx (hb hby at_84) (q := 86) rfl rfl ?_
          refine Go.s_icmpYes X36 hx (hb hby at_86) (q := 91) (by decide) (by decide) (teq (by decide : (0 : Int32) = (0 : Int32))).1 ?_
          refine Go.s_aload X36 hx (hb hby at_91) (q := 93) rfl rfl rfl ?_
          refine Go.s_aload X36 hx (hb hby at_93) (q := 95) rfl rfl rfl ?_
          refine Go.callV (y := mn_4) (z := mn_4) X36 hx hZ hown (w_ hw 16 rfl) (w_ hw 17 rfl) (notFace_of_selects (args := #[]) (mvT hZ (w_ hw 19 rfl))) (w_ hw 19 rfl) (w_ hw 18 rfl) (w_ hw 20 rfl) (w_ hw 7 rfl) (by decide) e36 Ea7_v19 (argsL := [(.ref b4)]) (rest := []) (rm_eqs l Z a0 hw b4 b4 T16.heap w1 Fa7_v20 Ea7_v19) (by rw [hml]; rfl) (lenOf pd_4 rfl) rfl (hb hby at_95) (by decide) (by decide) (by decide) (by decide) ?_
          intro r37 T37 L37 q37 X37
          obtain ⟨rfl, rfl, e37⟩ := q37
          rw [List.append_nil] at X37
          show Go p e below _ T37 (mkF m 98 #[.val (.int x0), .val (.int x1), .val (.int x2), .val (.int w1), .val (.int w3), .val (.ref b4), .val (.ref b11), .val (.int (0 : Int32)), .unset] [(.int (1 : Int32))])
          refine Go.s_ifYes X37 hx (hb hby at_98) (q := 103) (by decide) (by decide) ((if0 _ _).trans (feq (by decide : ¬ ((1 : Int32) = (0 : Int32)))).2) ?_
          refine Go.s_aload X37 hx (hb hby at_103) (q := 105) rfl rfl rfl ?_
          refine Go.s_aconst_null X37 hx (hb hby at_105) (q := 106) rfl ?_
          refine Go.callV (y := mn_4) (z := mn_4) X37 hx hZ hown (w_ hw 16 rfl) (w_ hw 17 rfl) (notFace_of_selects (args := #[]) (mvT hZ (w_ hw 19 rfl))) (w_ hw 19 rfl) (w_ hw 18 rfl) (w_ hw 20 rfl) (w_ hw 7 rfl) (by decide) e37 Ea7_v19 (argsL := [.null]) (rest := []) (rm_eqn l Z a0 hw b4 T16.heap) (by rw [hml]; rfl) (lenOf pd_4 rfl) rfl (hb hby at_106) (by decide) (by decide) (by decide) (by decide) ?_
          intro r38 T38 L38 q38 X38
          obtain ⟨rfl, rfl, e38⟩ := q38
          rw [List.append_nil] at X38
          show Go p e below _ T38 (mkF m 109 #[.val (.int x0), .val (.int x1), .val (.int x2), .val (.int w1), .val (.int w3), .val (.ref b4), .val (.ref b11), .val (.int (0 : Int32)), .unset] [(.int (0 : Int32))])
          refine Go.s_ifYes X38 hx (hb hby at_109) (q := 114) (by decide) (by decide) ((if0 _ _).trans (teq (by decide : (0 : Int32) = (0 : Int32))).1) ?_
          refine Go.s_iloadN X38 hx (hb hby at_114) (q := 115) rfl rfl ?_
          refine Go.callS (y := mn_5) X38 hx hZ hown (w_ hw 23 rfl) (w_ hw 24 rfl) (w_ hw 25 rfl) (w_ hw 26 rfl) (by decide) e38 (argsL := [(.int w1)]) (rest := []) (rm_vo l Z a0 hw w1 T16.heap n0 Z0_v17 ac cc O_v18 S_high0 S_cache0 BX hge_w1) (by rw [hml]; rfl) (lenOf pd_1 rfl) rfl (hb hby at_115) (by decide) (by decide) (by decide) (by decide) ?_
          intro r39 T39 L39 q39 X39
          obtain ⟨r39a, rfl, Er39, N39z, K39z⟩ := q39
          have q39 : (none : Option Value) = none ∧ Fr n0 L39 ∧ Keep T16.heap T39.heap [] := ⟨rfl, N39z, K39z⟩
          obtain ⟨-, N39q, K39⟩ := q39
          have N39 := Fr.app N16 N39q
          have Z0_v40 := Nat.le_trans Z0_v17 K39.1
          have O_v41 := Old.keep O_v18 K39 all0
          have Ea7_v42 := Ea7_v19.keep K39
          have Fa7_v43 := Fa7_v20.keep K39 nin0
          have Ea16_v44 := Ea16.keep K39
          have Fa16_v45 := Fa16.keep K39 nin0
          show Go p e below _ T39 (mkF m 118 #[.val (.int x0), .val (.int x1), .val (.int x2), .val (.int w1), .val (.int w3), .val (.ref b4), .val (.ref b11), .val (.int (0 : Int32)), .unset] [(.ref r39a)])
          refine Go.s_astore X39 hx (hb hby at_118) (q := 120) rfl rfl (l' := #[.val (.int x0), .val (.int x1), .val (.int x2), .val (.int w1), .val (.int w3), .val (.ref b4), .val (.ref b11), .val (.int (0 : Int32)), .val (.ref r39a)]) rfl ?_
          refine Go.s_aload X39 hx (hb hby at_120) (q := 122) rfl rfl rfl ?_
          refine Go.s_aload X39 hx (hb hby at_122) (q := 124) rfl rfl rfl ?_
          refine Go.callV (y := mn_4) (z := mn_4) X39 hx hZ hown (w_ hw 16 rfl) (w_ hw 17 rfl) (notFace_of_selects (args := #[]) (mvT hZ (w_ hw 19 rfl))) (w_ hw 19 rfl) (w_ hw 18 rfl) (w_ hw 20 rfl) (w_ hw 7 rfl) (by decide) rfl Ea7_v42 (argsL := [(.ref r39a)]) (rest := []) (rm_eqi l Z a0 hw b4 r39a T39.heap Er39) (by rw [hml]; rfl) (lenOf pd_4 rfl) rfl (hb hby at_124) (by decide) (by decide) (by decide) (by decide) ?_
          intro r46 T46 L46 q46 X46
          obtain ⟨rfl, rfl, e46⟩ := q46
          rw [List.append_nil] at X46
          show Go p e below _ T46 (mkF m 127 #[.val (.int x0), .val (.int x1), .val (.int x2), .val (.int w1), .val (.int w3), .val (.ref b4), .val (.ref b11), .val (.int (0 : Int32)), .val (.ref r39a)] [(.int (0 : Int32))])
          refine Go.s_ifYes X46 hx (hb hby at_127) (q := 132) (by decide) (by decide) ((if0 _ _).trans (teq (by decide : (0 : Int32) = (0 : Int32))).1) ?_
          refine Go.s_iconst X46 hx (hb hby at_132) (q := 133) rfl (z := 1) rfl ?_
          refine Go.retN X46 hx hlk hret (by simp) (hb hby at_133) (by decide) (by decide) ?_
          try rw [e46]
          exact ⟨by decide, N39⟩
  · -- pc 12: not (x2 &&& (1 : Int32)) = (0 : Int32)
    refine Go.s_ifNo X1 hx (hb hby at_12) (q := 15) rfl ((if0 _ _).trans (feq c12_2).1) ?_
    refine Go.s_iloadN X1 hx (hb hby at_15) (q := 16) rfl rfl ?_
    refine Go.s_goto X1 hx (hb hby at_16) (q := 27) (by decide) (by decide) ?_
    refine Go.s_istore X1 hx (hb hby at_27) (q := 29) rfl (l' := #[.val (.int x0), .val (.int x1), .val (.int x2), .val (.int w1), .val (.int w1), .unset, .unset, .unset, .unset]) rfl ?_
    refine Go.newO X1 hx hZ hown (w_ hw 5 rfl) (w_ hw 6 rfl) (w_ hw 7 rfl) e1 (hb hby at_29) (by decide) (by decide) ?_
    intro T47 h47 b47 g47 X47 e47 E47 A47 D47
    have g_b47 : n0 ≤ b47 := g47 ▸ Z0
    have Z0_v48 := Nat.le_trans Z0 E47.1
    have O_v49 := Old.ext O E47
    have F_instances_b47 : Fld Z h47 b47 "com/example/irama/irama/Prefilter" "instances" "I" (.int (0 : Int32)) := D47 (Or.inr (w_ hw 15 rfl)) (ty := .int) (by decide)
    show Go p e below _ T47 (mkF m 32 #[.val (.int x0), .val (.int x1), .val (.int x2), .val (.int w1), .val (.int w1), .unset, .unset, .unset, .unset] [(.ref b47)])
    refine Go.s_dup X47 hx (hb hby at_32) (q := 33) rfl rfl ?_
    refine Go.s_iloadN X47 hx (hb hby at_33) (q := 34) rfl rfl ?_
    refine Go.callC (y := mn_2) X47 hx hZ rfl hown (w_ hw 8 rfl) (w_ hw 9 rfl) (w_ hw 10 rfl) (w_ hw 7 rfl) (by decide) e47 (b := b47) (argsL := [(.int w1)]) (rest := [(.ref b47)]) (rm_ini l Z a0 hw b47 w1 h47 n0 _ A47 F_instances_b47 g_b47 hge_w1) (by rw [hml]; rfl) (lenOf pd_2 rfl) rfl (hb hby at_34) (by first | decide | exact Nat.le_of_ble_eq_true rfl) (by first | decide | exact Nat.le_of_ble_eq_true rfl) (by first | decide | exact Nat.le_of_ble_eq_true rfl) (by first | decide | exact Nat.le_of_ble_eq_true rfl) ?_
    intro r50 T50 L50 q50 X50
    obtain ⟨rfl, N50q, K50, Ea50, Fa50⟩ := q50
    have N50 := Fr.app (Fr.nil n0) N50q
    have Z0_v51 := Nat.le_trans Z0_v48 K50.1
    have O_v52 := Old.keep O_v49 K50 (allS g_b47 all0)
    have A47_v53 := A47.keep K50
    show Go p e below _ T50 (mkF m 37 #[.val (.int x0), .val (.int x1), .val (.int x2), .val (.int w1), .val (.int w1), .unset, .unset, .unset, .unset] [(.ref b47)])
    refine Go.s_astore X50 hx (hb hby at_37) (q := 39) rfl rfl (l' := #[.val (.int x0), .val (.int x1), .val (.int x2), .val (.int w1), .val (.int w1), .val (.ref b47), .unset, .unset, .unset]) rfl ?_
    refine Go.newO X50 hx hZ hown (w_ hw 5 rfl) (w_ hw 6 rfl) (w_ hw 7 rfl) rfl (hb hby at_39) (by decide) (by decide) ?_
    intro T54 h54 b54 g54 X54 e54 E54 A54 D54
    have ne_b47_b54 : b47 ≠ b54 := Nat.ne_of_lt (g54 ▸ Ea50.lt)
    have g_b54 : n0 ≤ b54 := g54 ▸ Z0_v51
    have Z0_v55 := Nat.le_trans Z0_v51 E54.1
    have O_v56 := Old.ext O_v52 E54
    have Ea50_v57 := Ea50.ext E54
    have Fa50_v58 := Fa50.ext E54
    have F_instances_b54 : Fld Z h54 b54 "com/example/irama/irama/Prefilter" "instances" "I" (.int (0 : Int32)) := D54 (Or.inr (w_ hw 15 rfl)) (ty := .int) (by decide)
    show Go p e below _ T54 (mkF m 42 #[.val (.int x0), .val (.int x1), .val (.int x2), .val (.int w1), .val (.int w1), .val (.ref b47), .unset, .unset, .unset] [(.ref b54)])
    refine Go.s_dup X54 hx (hb hby at_42) (q := 43) rfl rfl ?_
    refine Go.s_iload X54 hx (hb hby at_43) (q := 45) rfl rfl ?_
    refine Go.callC (y := mn_2) X54 hx hZ rfl hown (w_ hw 8 rfl) (w_ hw 9 rfl) (w_ hw 10 rfl) (w_ hw 7 rfl) (by decide) e54 (b := b54) (argsL := [(.int w1)]) (rest := [(.ref b54)]) (rm_ini l Z a0 hw b54 w1 h54 n0 _ A54 F_instances_b54 g_b54 hge_w1) (by rw [hml]; rfl) (lenOf pd_2 rfl) rfl (hb hby at_45) (by first | decide | exact Nat.le_of_ble_eq_true rfl) (by first | decide | exact Nat.le_of_ble_eq_true rfl) (by first | decide | exact Nat.le_of_ble_eq_true rfl) (by first | decide | exact Nat.le_of_ble_eq_true rfl) ?_
    intro r59 T59 L59 q59 X59
    obtain ⟨rfl, N59q, K59, Ea59, Fa59⟩ := q59
    have N59 := Fr.app N50 N59q
    have Z0_v60 := Nat.le_trans Z0_v55 K59.1
    have O_v61 := Old.keep O_v56 K59 (allS g_b54 all0)
    have Ea50_v62 := Ea50_v57.keep K59
    have Fa50_v63 := Fa50_v58.keep K59 (ninS ne_b47_b54 nin0)
    have A54_v64 := A54.keep K59
    show Go p e below _ T59 (mkF m 48 #[.val (.int x0), .val (.int x1), .val (.int x2), .val (.int w1), .val (.int w1), .val (.ref b47), .unset, .unset, .unset] [(.ref b54)])
    refine Go.s_astore X59 hx (hb hby at_48) (q := 50) rfl rfl (l' := #[.val (.int x0), .val (.int x1), .val (.int x2), .val (.int w1), .val (.int w1), .val (.ref b47), .val (.ref b54), .unset, .unset]) rfl ?_
    refine Go.s_iloadN X59 hx (hb hby at_50) (q := 51) rfl rfl ?_
    refine Go.s_iload X59 hx (hb hby at_51) (q := 53) rfl rfl ?_
    refine Go.s_icmpNo X59 hx (hb hby at_53) (q := 56) rfl (teq (rfl : w1 = w1)).2 ?_
    refine Go.s_iconst X59 hx (hb hby at_56) (q := 57) rfl (z := 1) rfl ?_
    refine Go.s_goto X59 hx (hb hby at_57) (q := 61) (by decide) (by decide) ?_
    refine Go.s_istore X59 hx (hb hby at_61) (q := 63) rfl (l' := #[.val (.int x0), .val (.int x1), .val (.int x2), .val (.int w1), .val (.int w1), .val (.ref b47), .val (.ref b54), .val (.int (1 : Int32)), .unset]) rfl ?_
    refine Go.s_aload X59 hx (hb hby at_63) (q := 65) rfl rfl rfl ?_
    refine Go.s_aload X59 hx (hb hby at_65) (q := 67) rfl rfl rfl ?_
    refine Go.callV (y := mn_4) (z := mn_4) X59 hx hZ hown (w_ hw 16 rfl) (w_ hw 17 rfl) (notFace_of_selects (args := #[]) (mvT hZ (w_ hw 19 rfl))) (w_ hw 19 rfl) (w_ hw 18 rfl) (w_ hw 20 rfl) (w_ hw 7 rfl) (by decide) rfl Ea50_v62 (argsL := [(.ref b54)]) (rest := []) (rm_eq l Z a0 hw b47 b54 T59.heap w1 w1 Fa50_v63 Ea59 Fa59) (by rw [hml]; rfl) (lenOf pd_4 rfl) rfl (hb hby at_67) (by decide) (by decide) (by decide) (by decide) ?_
    intro r65 T65 L65 q65 X65
    obtain ⟨w65, rfl, p65, rfl, e65⟩ := q65
    rw [List.append_nil] at X65
    rcases p65 with ⟨u65_0_0, z65⟩ | ⟨u65_1_0, z65⟩
    · -- (1 : Int32)
      subst w65
      show Go p e below _ T65 (mkF m 70 #[.val (.int x0), .val (.int x1), .val (.int x2), .val (.int w1), .val (.int w1), .val (.ref b47), .val (.ref b54), .val (.int (1 : Int32)), .unset] [(.int (1 : Int32))])
      refine Go.s_iload X65 hx (hb hby at_70) (q := 72) rfl rfl ?_
      refine Go.s_icmpYes X65 hx (hb hby at_72) (q := 77) (by decide) (by decide) (teq (by decide : (1 : Int32) = (1 : Int32))).1 ?_
      refine Go.s_aload X65 hx (hb hby at_77) (q := 79) rfl rfl rfl ?_
      refine Go.s_aload X65 hx (hb hby at_79) (q := 81) rfl rfl rfl ?_
      refine Go.callV (y := mn_4) (z := mn_4) X65 hx hZ hown (w_ hw 16 rfl) (w_ hw 17 rfl) (notFace_of_selects (args := #[]) (mvT hZ (w_ hw 19 rfl))) (w_ hw 19 rfl) (w_ hw 18 rfl) (w_ hw 20 rfl) (w_ hw 7 rfl) (by decide) e65 Ea59 (argsL := [(.ref b47)]) (rest := []) (rm_eq l Z a0 hw b54 b47 T59.heap w1 w1 Fa59 Ea50_v62 Fa50_v63) (by rw [hml]; rfl) (lenOf pd_4 rfl) rfl (hb hby at_81) (by decide) (by decide) (by decide) (by decide) ?_
      intro r66 T66 L66 q66 X66
      obtain ⟨w66, rfl, p66, rfl, e66⟩ := q66
      rw [List.append_nil] at X66
      rcases p66 with ⟨u66_0_0, z66⟩ | ⟨u66_1_0, z66⟩
      · -- (1 : Int32)
        subst w66
        show Go p e below _ T66 (mkF m 84 #[.val (.int x0), .val (.int x1), .val (.int x2), .val (.int w1), .val (.int w1), .val (.ref b47), .val (.ref b54), .val (.int (1 : Int32)), .unset] [(.int (1 : Int32))])
        refine Go.s_iload X66 hx (hb hby at_84) (q := 86) rfl rfl ?_
        refine Go.s_icmpYes X66 hx (hb hby at_86) (q := 91) (by decide) (by decide) (teq (by decide : (1 : Int32) = (1 : Int32))).1 ?_
        refine Go.s_aload X66 hx (hb hby at_91) (q := 93) rfl rfl rfl ?_
        refine Go.s_aload X66 hx (hb hby at_93) (q := 95) rfl rfl rfl ?_
        refine Go.callV (y := mn_4) (z := mn_4) X66 hx hZ hown (w_ hw 16 rfl) (w_ hw 17 rfl) (notFace_of_selects (args := #[]) (mvT hZ (w_ hw 19 rfl))) (w_ hw 19 rfl) (w_ hw 18 rfl) (w_ hw 20 rfl) (w_ hw 7 rfl) (by decide) e66 Ea50_v62 (argsL := [(.ref b47)]) (rest := []) (rm_eqs l Z a0 hw b47 b47 T59.heap w1 Fa50_v63 Ea50_v62) (by rw [hml]; rfl) (lenOf pd_4 rfl) rfl (hb hby at_95) (by decide) (by decide) (by decide) (by decide) ?_
        intro r67 T67 L67 q67 X67
        obtain ⟨rfl, rfl, e67⟩ := q67
        rw [List.append_nil] at X67
        show Go p e below _ T67 (mkF m 98 #[.val (.int x0), .val (.int x1), .val (.int x2), .val (.int w1), .val (.int w1), .val (.ref b47), .val (.ref b54), .val (.int (1 : Int32)), .unset] [(.int (1 : Int32))])
        refine Go.s_ifYes X67 hx (hb hby at_98) (q := 103) (by decide) (by decide) ((if0 _ _).trans (feq (by decide : ¬ ((1 : Int32) = (0 : Int32)))).2) ?_
        refine Go.s_aload X67 hx (hb hby at_103) (q := 105) rfl rfl rfl ?_
        refine Go.s_aconst_null X67 hx (hb hby at_105) (q := 106) rfl ?_
        refine Go.callV (y := mn_4) (z := mn_4) X67 hx hZ hown (w_ hw 16 rfl) (w_ hw 17 rfl) (notFace_of_selects (args := #[]) (mvT hZ (w_ hw 19 rfl))) (w_ hw 19 rfl) (w_ hw 18 rfl) (w_ hw 20 rfl) (w_ hw 7 rfl) (by decide) e67 Ea50_v62 (argsL := [.null]) (rest := []) (rm_eqn l Z a0 hw b47 T59.heap) (by rw [hml]; rfl) (lenOf pd_4 rfl) rfl (hb hby at_106) (by decide) (by decide) (by decide) (by decide) ?_
        intro r68 T68 L68 q68 X68
        obtain ⟨rfl, rfl, e68⟩ := q68
        rw [List.append_nil] at X68
        show Go p e below _ T68 (mkF m 109 #[.val (.int x0), .val (.int x1), .val (.int x2), .val (.int w1), .val (.int w1), .val (.ref b47), .val (.ref b54), .val (.int (1 : Int32)), .unset] [(.int (0 : Int32))])
        refine Go.s_ifYes X68 hx (hb hby at_109) (q := 114) (by decide) (by decide) ((if0 _ _).trans (teq (by decide : (0 : Int32) = (0 : Int32))).1) ?_
        refine Go.s_iloadN X68 hx (hb hby at_114) (q := 115) rfl rfl ?_
        refine Go.callS (y := mn_5) X68 hx hZ hown (w_ hw 23 rfl) (w_ hw 24 rfl) (w_ hw 25 rfl) (w_ hw 26 rfl) (by decide) e68 (argsL := [(.int w1)]) (rest := []) (rm_vo l Z a0 hw w1 T59.heap n0 Z0_v60 ac cc O_v61 S_high0 S_cache0 BX hge_w1) (by rw [hml]; rfl) (lenOf pd_1 rfl) rfl (hb hby at_115) (by decide) (by decide) (by decide) (by decide) ?_
        intro r69 T69 L69 q69 X69
        obtain ⟨r69a, rfl, Er69, N69z, K69z⟩ := q69
        have q69 : (none : Option Value) = none ∧ Fr n0 L69 ∧ Keep T59.heap T69.heap [] := ⟨rfl, N69z, K69z⟩
        obtain ⟨-, N69q, K69⟩ := q69
        have N69 := Fr.app N59 N69q
        have Z0_v70 := Nat.le_trans Z0_v60 K69.1
        have O_v71 := Old.keep O_v61 K69 all0
        have Ea50_v72 := Ea50_v62.keep K69
        have Fa50_v73 := Fa50_v63.keep K69 nin0
        have Ea59_v74 := Ea59.keep K69
        have Fa59_v75 := Fa59.keep K69 nin0
        show Go p e below _ T69 (mkF m 118 #[.val (.int x0), .val (.int x1), .val (.int x2), .val (.int w1), .val (.int w1), .val (.ref b47), .val (.ref b54), .val (.int (1 : Int32)), .unset] [(.ref r69a)])
        refine Go.s_astore X69 hx (hb hby at_118) (q := 120) rfl rfl (l' := #[.val (.int x0), .val (.int x1), .val (.int x2), .val (.int w1), .val (.int w1), .val (.ref b47), .val (.ref b54), .val (.int (1 : Int32)), .val (.ref r69a)]) rfl ?_
        refine Go.s_aload X69 hx (hb hby at_120) (q := 122) rfl rfl rfl ?_
        refine Go.s_aload X69 hx (hb hby at_122) (q := 124) rfl rfl rfl ?_
        refine Go.callV (y := mn_4) (z := mn_4) X69 hx hZ hown (w_ hw 16 rfl) (w_ hw 17 rfl) (notFace_of_selects (args := #[]) (mvT hZ (w_ hw 19 rfl))) (w_ hw 19 rfl) (w_ hw 18 rfl) (w_ hw 20 rfl) (w_ hw 7 rfl) (by decide) rfl Ea50_v72 (argsL := [(.ref r69a)]) (rest := []) (rm_eqi l Z a0 hw b47 r69a T69.heap Er69) (by rw [hml]; rfl) (lenOf pd_4 rfl) rfl (hb hby at_124) (by decide) (by decide) (by decide) (by decide) ?_
        intro r76 T76 L76 q76 X76
        obtain ⟨rfl, rfl, e76⟩ := q76
        rw [List.append_nil] at X76
        show Go p e below _ T76 (mkF m 127 #[.val (.int x0), .val (.int x1), .val (.int x2), .val (.int w1), .val (.int w1), .val (.ref b47), .val (.ref b54), .val (.int (1 : Int32)), .val (.ref r69a)] [(.int (0 : Int32))])
        refine Go.s_ifYes X76 hx (hb hby at_127) (q := 132) (by decide) (by decide) ((if0 _ _).trans (teq (by decide : (0 : Int32) = (0 : Int32))).1) ?_
        refine Go.s_iconst X76 hx (hb hby at_132) (q := 133) rfl (z := 1) rfl ?_
        refine Go.retN X76 hx hlk hret (by simp) (hb hby at_133) (by decide) (by decide) ?_
        try rw [e76]
        exact ⟨by decide, N69⟩
      · -- (0 : Int32)
        subst w66
        exact absurd u65_0_0 u66_1_0
    · -- (0 : Int32)
      subst w65
      exact absurd (rfl : w1 = w1) u65_1_0
set_option maxRecDepth 65536 in
set_option maxHeartbeats 40000000 in
theorem comes_1 {Post : Tables → Env → Array Value → State → Outcome → State → Prop} (hpost : ∀ tb e args s v u, (limb_1_1.after args s (.returned v) u = true ∧ limb_1_2.after args s (.returned v) u = true ∧ True) → FrameEnd s (.returned v) u (Jvm.fieldLocs frame_1_writes args s ++ Jvm.arrayLocs frame_1_arrays args s ++ Jvm.staticLocs frame_1_statics s) 16 128 → Post tb e args s (.returned v) u) :
    ArmFor flags0 classFile x code maxLocals ret World_1 tables_1 room_1 Calls_1 rest_1 Pre_1 Post := by
  intro l hfl _ _ p e ha hc hk s m args below hf hA hF happ hP
  obtain ⟨hcalls, hrest, hpre⟩ := hP
  obtain ⟨-, -, -, hnamed, -, -, -, hat⟩ := (Spec.applies_iff hf).mp happ
  obtain ⟨hg, hn⟩ := and_e (Cond.before_iff.mp (show (Jvm.Cond.and given_1 narrow_1).before args s = true from hpre))
  obtain ⟨hgl, hgr⟩ := and_e hg
  obtain ⟨hgrl, hgrr⟩ := and_e hgr
  obtain ⟨hgrrl, hgrrr⟩ := and_e hgrr
  obtain ⟨w0, w1, w2, rfl⟩ : ∃ w0 w1 w2 : Value, args = #[w0, w1, w2] := by
    have hs : args.size = 3 := by simpa [Cond.value, given_1] using hgl
    obtain ⟨L⟩ := args
    match L, hs with
    | [w0, w1, w2], _ => exact ⟨w0, w1, w2, rfl⟩
  have hw := fun d (hd : d ∈ tables_1) => atoms_spec (ws := Jvm.Cond.code x code maxLocals ret :: tables_1) hat d (List.mem_cons_of_mem _ hd)
  obtain ⟨i0, ev0⟩ := is_v hgrl
  obtain rfl : w0 = (.int i0) := Option.some.inj ev0
  obtain ⟨i1, ev1⟩ := is_v hgrrl
  obtain rfl : w1 = (.int i1) := Option.some.inj ev1
  obtain ⟨i2, ev2⟩ := is_v hgrrr
  obtain rfl : w2 = (.int i2) := Option.some.inj ev2
  have hrs := Cond.before_iff.mp (show rest_1_c.before _ s = true from hrest)
  obtain ⟨r0, hrs⟩ := and_e hrs
  obtain ⟨r1, hrs⟩ := and_e hrs
  obtain ⟨r2, hrs⟩ := and_e hrs
  obtain ⟨r3, hrs⟩ := and_e hrs
  obtain ⟨r4, hrs⟩ := and_e hrs
  obtain ⟨r5, hrs⟩ := and_e hrs
  obtain ⟨r6, hrs⟩ := and_e hrs
  obtain ⟨r7, -⟩ := and_e hrs
  have eh := eqv_i (Term.int_eval _) r3
  have S_high0 := Sta.start eh (Or.inl (Cond.before_iff.mpr r1))
  obtain ⟨ac, ea⟩ := arr_v r4
  have S_cache0 := Sta.start ea (Or.inr ⟨(w_ hw 28 rfl), Cond.before_iff.mpr r2⟩)
  obtain ⟨cc, AC⟩ := Arr.start ea r4
  have eidx : ∀ idx, (Jvm.Term.static "java/lang/Integer$IntegerCache" "cache" "[Ljava/lang/Integer;").eval #[.int i0, .int i1, .int i2] s none idx s = some (.ref ac) := fun _ => ea
  have el := eqv_i (Term.int_eval _) r6
  have hsz := len_small el ea AC
  have BX : Bxs s ac cc "java/lang/Integer" "I" (256 : Int32) (fun j => .int (j - 128)) := Bxs.start eidx AC hsz.1 hsz.2 (by decide) r7 (fun X j hj hq => eqv_i (idx_val hj) hq)
  obtain ⟨n, o, h1, h2, h3, _, L, rfl, ⟨rfl, N⟩, hq⟩ := rm_law l s _ hw i0 i1 i2 s.heap s.heap.size (Nat.le_refl _) ac cc (Old.start s) S_high0 S_cache0 BX tables_1 p e ha hc hk s m _ below hf ((Spec.applies_iff_loose hf).mp happ).1 ⟨rfl, State.Warmed39.refl s, rfl⟩ trivial
  refine ⟨n, _, h1, h2, h3, hpost _ _ _ _ _ _ ⟨Cond.after_iff.mpr rfl, Cond.after_iff.mpr (eq_i res_at (Term.int_eval (1)) rfl), trivial⟩ ⟨hq.1, hq.2.1, (hq.2.2.sift fun y hy => Or.inr (N y hy)).mono (by decide) (by decide)⟩⟩
theorem main_1_1 : Claimed_1_1 := comes_1 fun _ _ _ _ _ _ h hF => ⟨h.1, hF⟩
theorem main_1_2 : Claimed_1_2 := comes_1 fun _ _ _ _ _ _ h hF => ⟨h.2.1, hF⟩
end Jvm.Pilot.@@N@@
namespace Jvm.Pilot.@@N@@
open Jvm Jvm.ClassFile Sem Op Lib Jvm.Free Jvm.Stand Jvm.Pilot.@@N@@.Jvm.D
/-! MADE BY PROGRAM (witnessworld.py) out of the Statement's table words and the real class files: 17 classes; the members and pool entries that the words name. The judged class is class 1, her method 1. -/
namespace start1
open Jvm.ClassFile
def u (s : String) : CpInfo := .utf8 (stringToUtf16 s)
/-- a pool by its gaps: so many unusable entries, then the entry; so many at the end -/
def gap : Nat → List CpInfo → List CpInfo
  | 0, r => r
  | n + 1, r => .unusable :: gap n r
def poolList (es : List (Nat × CpInfo)) (last : Nat) : List CpInfo := es.foldr (fun e r => gap e.1 (e.2 :: r)) (gap last [])
def pool (es : List (Nat × CpInfo)) (last : Nat) : Array CpInfo := ⟨poolList es last⟩
def fileOf (pool : Array CpInfo) (this : Nat) (attrs : Array Attribute := #[]) (ms : Array MethodInfo := #[]) (fl : Nat := 33) (sup : Nat := 0) (ifs : Array Nat := #[]) (fds : Array FieldInfo := #[]) : ClassFile where
  minorVersion := 0
  majorVersion := 65
  constantPool := pool
  accessFlags := fl
  thisClass := this
  superClass := sup
  interfaces := ifs
  fields := fds
  methods := ms
  attributes := attrs
def plain (name : String) (sup : Option ClassId) : Class where
  name := name
  kind := .ordinary
  loader := none
  accessFlags := 33
  super := sup
  interfaces := #[]
  cf := none
  fields := #[]
  methods := #[]
  instanceTypes := #[]
  staticTypes := #[]
  resolved := #[]
  callSites := []
  init := .initialized
  statics := none
  mirror := none

def pool0 : Array CpInfo := pool [(5, u "<init>"), (0, u "()V"), (1, .class_ 10), (1, u "java/lang/Object")] 113

def k0c0 : Code := { maxStack := 0, maxLocals := 1, code := object_method_1_code, exceptionTable := #[], attributes := #[] }
def k0m0 : Method := { name := "<init>", desc := "()V", sig := { parameters := [], returnType := none }, accessFlags := 1, code := some k0c0 }
/-- java/lang/Object -/
def k0 : Class := { plain "java/lang/Object" none with
  accessFlags := 33
  interfaces := #[]
  cf := some (fileOf pool0 8 #[] #[{ accessFlags := 1, nameIndex := 5, descriptorIndex := 6, attributes := #[] }] 33 0 #[] #[])
  fields := #[]
  methods := #[k0m0]
  instanceTypes := #[]
  staticTypes := #[]
  resolved := Array.replicate 124 none
  statics := none }

def pool1 : Array CpInfo := pool [(2, .class_ 4), (1, u "java/lang/Object"), (0, u "<init>"), (0, u "()V"), (0, .integer 2147483647), (0, .methodref 9 10), (0, .class_ 11), (0, .nameAndType 12 13), (0, u "java/lang/Math"), (0, u "max"), (0, u "(II)I"), (0, .class_ 15), (0, u "com/example/irama/irama/Prefilter"), (0, .methodref 14 17), (0, .nameAndType 5 18), (0, u "(I)V"), (0, .methodref 14 20), (0, .nameAndType 21 22), (0, u "equals"), (0, u "(Ljava/lang/Object;)Z"), (0, .methodref 24 25), (0, .class_ 26), (0, .nameAndType 27 28), (0, u "java/lang/Integer"), (0, u "valueOf"), (0, u "(I)Ljava/lang/Integer;"), (0, .class_ 30), (0, u "com/example/irama/irama/PrefilterEqualsPinLaw"), (2, u "law"), (0, u "(III)Z")] 3

def k1m0 : Method := { name := "<init>", desc := "()V", sig := { parameters := [], returnType := none }, accessFlags := 1, code := none }
def k1c1 : Code := { maxStack := 3, maxLocals := 9, code := code, exceptionTable := #[], attributes := #[] }
def k1m1 : Method := { name := "law", desc := "(III)Z", sig := { parameters := [.int, .int, .int], returnType := some .boolean }, accessFlags := 9, code := some k1c1 }
/-- com/example/irama/irama/PrefilterEqualsPinLaw -/
def k1 : Class := { plain "com/example/irama/irama/PrefilterEqualsPinLaw" (some 0) with
  accessFlags := 49
  interfaces := #[]
  cf := some (fileOf pool1 29 #[] #[{ accessFlags := 1, nameIndex := 5, descriptorIndex := 6, attributes := #[] }, { accessFlags := 9, nameIndex := 33, descriptorIndex := 34, attributes := #[] }] 49 2 #[] #[])
  fields := #[]
  methods := #[k1m0, k1m1]
  instanceTypes := #[]
  staticTypes := #[]
  resolved := Array.replicate 38 none
  statics := none }

def pool2 : Array CpInfo := pool [(1, .class_ 2), (0, u "java/lang/Math"), (1, .class_ 6), (1, u "java/lang/Object"), (0, u "<init>"), (0, u "()V"), (89, .class_ 100), (1, u "java/lang/Math$RandomNumberGeneratorHolder"), (71, u "negativeZeroFloatBits"), (0, u "J"), (2, u "negativeZeroDoubleBits"), (21, u "max"), (46, u "$assertionsDisabled"), (0, u "Z"), (88, u "(II)I"), (2, u "twoToTheDoubleScaleDown"), (0, u "D"), (4, u "twoToTheDoubleScaleUp"), (9, u "E"), (3, u "PI"), (2, u "TAU"), (2, u "DEGREES_TO_RADIANS"), (0, u "RADIANS_TO_DEGREES")] 94

def k2m0 : Method := { name := "<init>", desc := "()V", sig := { parameters := [], returnType := none }, accessFlags := 2, code := none }
def k2c1 : Code := { maxStack := 2, maxLocals := 2, code := jdk_29_method_65_code, exceptionTable := #[], attributes := #[] }
def k2m1 : Method := { name := "max", desc := "(II)I", sig := { parameters := [.int, .int], returnType := some .int }, accessFlags := 9, code := some k2c1 }
/-- java/lang/Math -/
def k2 : Class := { plain "java/lang/Math" (some 0) with
  accessFlags := 49
  interfaces := #[]
  cf := some (fileOf pool2 1 #[.nestMembers #[98]] #[{ accessFlags := 2, nameIndex := 7, descriptorIndex := 8, attributes := #[] }, { accessFlags := 9, nameIndex := 198, descriptorIndex := 335, attributes := #[] }] 49 4 #[] #[{ accessFlags := 25, nameIndex := 354, descriptorIndex := 339, attributes := #[] }, { accessFlags := 25, nameIndex := 358, descriptorIndex := 339, attributes := #[] }, { accessFlags := 25, nameIndex := 361, descriptorIndex := 339, attributes := #[] }, { accessFlags := 26, nameIndex := 364, descriptorIndex := 339, attributes := #[] }, { accessFlags := 26, nameIndex := 365, descriptorIndex := 339, attributes := #[] }, { accessFlags := 26, nameIndex := 172, descriptorIndex := 173, attributes := #[] }, { accessFlags := 26, nameIndex := 176, descriptorIndex := 173, attributes := #[] }, { accessFlags := 8, nameIndex := 344, descriptorIndex := 339, attributes := #[] }, { accessFlags := 8, nameIndex := 338, descriptorIndex := 339, attributes := #[] }, { accessFlags := 4120, nameIndex := 245, descriptorIndex := 246, attributes := #[] }])
  fields := #[{ name := "E", type := .double, accessFlags := 25, slot := 0, constantValue := 0 }, { name := "PI", type := .double, accessFlags := 25, slot := 1, constantValue := 0 }, { name := "TAU", type := .double, accessFlags := 25, slot := 2, constantValue := 0 }, { name := "DEGREES_TO_RADIANS", type := .double, accessFlags := 26, slot := 3, constantValue := 0 }, { name := "RADIANS_TO_DEGREES", type := .double, accessFlags := 26, slot := 4, constantValue := 0 }, { name := "negativeZeroFloatBits", type := .long, accessFlags := 26, slot := 5, constantValue := 0 }, { name := "negativeZeroDoubleBits", type := .long, accessFlags := 26, slot := 6, constantValue := 0 }, { name := "twoToTheDoubleScaleUp", type := .double, accessFlags := 8, slot := 7, constantValue := 0 }, { name := "twoToTheDoubleScaleDown", type := .double, accessFlags := 8, slot := 8, constantValue := 0 }, { name := "$assertionsDisabled", type := .boolean, accessFlags := 4120, slot := 9, constantValue := 0 }]
  methods := #[k2m0, k2m1]
  instanceTypes := #[]
  staticTypes := #[.double, .double, .double, .double, .double, .long, .long, .double, .double, .boolean]
  resolved := Array.replicate 460 none
  statics := none }

def pool3 : Array CpInfo := pool [(1, .methodref 2 3), (0, .class_ 4), (0, .nameAndType 5 6), (0, u "java/lang/Object"), (0, u "<init>"), (0, u "()V"), (9, .fieldref 17 18), (0, .class_ 19), (0, .nameAndType 20 21), (0, u "com/example/irama/irama/Prefilter"), (0, u "instances"), (0, u "I"), (13, u "(I)V"), (5, u "equals"), (0, u "(Ljava/lang/Object;)Z")] 23

def k3c0 : Code := { maxStack := 3, maxLocals := 2, code := prog_4_method_1_code, exceptionTable := #[], attributes := #[] }
def k3m0 : Method := { name := "<init>", desc := "(I)V", sig := { parameters := [.int], returnType := none }, accessFlags := 1, code := some k3c0 }
def k3c1 : Code := { maxStack := 2, maxLocals := 3, code := prog_4_method_4_code, exceptionTable := #[], attributes := #[] }
def k3m1 : Method := { name := "equals", desc := "(Ljava/lang/Object;)Z", sig := { parameters := [(.object "java/lang/Object")], returnType := some .boolean }, accessFlags := 1, code := some k3c1 }
/-- com/example/irama/irama/Prefilter -/
def k3 : Class := { plain "com/example/irama/irama/Prefilter" (some 0) with
  accessFlags := 49
  interfaces := #[]
  cf := some (fileOf pool3 17 #[] #[{ accessFlags := 1, nameIndex := 5, descriptorIndex := 35, attributes := #[] }, { accessFlags := 1, nameIndex := 41, descriptorIndex := 42, attributes := #[] }] 49 2 #[] #[{ accessFlags := 18, nameIndex := 20, descriptorIndex := 21, attributes := #[] }])
  fields := #[{ name := "instances", type := .int, accessFlags := 18, slot := 0, constantValue := 0 }]
  methods := #[k3m0, k3m1]
  instanceTypes := #[.int]
  staticTypes := #[]
  resolved := Array.replicate 66 none
  statics := none }

def pool4 : Array CpInfo := pool [(1, .class_ 2), (0, u "java/io/Serializable"), (0, .class_ 4), (0, u "java/lang/Object")] 2

/-- java/io/Serializable -/
def k4 : Class := { plain "java/io/Serializable" (some 0) with
  accessFlags := 1537
  interfaces := #[]
  cf := some (fileOf pool4 1 #[] #[] 1537 3 #[] #[])
  fields := #[]
  methods := #[]
  instanceTypes := #[]
  staticTypes := #[]
  resolved := Array.replicate 7 none
  statics := none }

def pool5 : Array CpInfo := pool [(1, .methodref 2 3), (0, .class_ 4), (0, .nameAndType 5 6), (0, u "java/lang/Object"), (0, u "<init>"), (0, u "()V"), (1, .class_ 10), (1, u "java/lang/Number"), (2, .class_ 14), (0, u "java/io/Serializable"), (0, u "serialVersionUID"), (0, u "J")] 20

def k5c0 : Code := { maxStack := 1, maxLocals := 1, code := jdk_18_method_1_code, exceptionTable := #[], attributes := #[] }
def k5m0 : Method := { name := "<init>", desc := "()V", sig := { parameters := [], returnType := none }, accessFlags := 1, code := some k5c0 }
/-- java/lang/Number -/
def k5 : Class := { plain "java/lang/Number" (some 0) with
  accessFlags := 1057
  interfaces := #[4]
  cf := some (fileOf pool5 8 #[] #[{ accessFlags := 1, nameIndex := 5, descriptorIndex := 6, attributes := #[] }] 1057 2 #[13] #[{ accessFlags := 26, nameIndex := 15, descriptorIndex := 16, attributes := #[] }])
  fields := #[{ name := "serialVersionUID", type := .long, accessFlags := 26, slot := 0, constantValue := 0 }]
  methods := #[k5m0]
  instanceTypes := #[]
  staticTypes := #[.long]
  resolved := Array.replicate 37 none
  statics := none }

def pool6 : Array CpInfo := pool [(1, .class_ 2), (0, u "java/lang/Comparable"), (0, .class_ 4), (0, u "java/lang/Object")] 7

/-- java/lang/Comparable -/
def k6 : Class := { plain "java/lang/Comparable" (some 0) with
  accessFlags := 1537
  interfaces := #[]
  cf := some (fileOf pool6 1 #[] #[] 1537 3 #[] #[])
  fields := #[]
  methods := #[]
  instanceTypes := #[]
  staticTypes := #[]
  resolved := Array.replicate 12 none
  statics := none }

def pool7 : Array CpInfo := pool [(1, .class_ 2), (0, u "java/lang/constant/Constable"), (0, .class_ 4), (0, u "java/lang/Object")] 6

/-- java/lang/constant/Constable -/
def k7 : Class := { plain "java/lang/constant/Constable" (some 0) with
  accessFlags := 1537
  interfaces := #[]
  cf := some (fileOf pool7 1 #[] #[] 1537 3 #[] #[])
  fields := #[]
  methods := #[]
  instanceTypes := #[]
  staticTypes := #[]
  resolved := Array.replicate 11 none
  statics := none }

def pool8 : Array CpInfo := pool [(1, .class_ 2), (0, u "java/lang/constant/ConstantDesc"), (0, .class_ 4), (0, u "java/lang/Object")] 32

/-- java/lang/constant/ConstantDesc -/
def k8 : Class := { plain "java/lang/constant/ConstantDesc" (some 0) with
  accessFlags := 1537
  interfaces := #[]
  cf := some (fileOf pool8 1 #[] #[] 1537 3 #[] #[])
  fields := #[]
  methods := #[]
  instanceTypes := #[]
  staticTypes := #[]
  resolved := Array.replicate 37 none
  statics := none }

def pool9 : Array CpInfo := pool [(1, .class_ 2), (0, u "java/lang/Integer"), (16, u "digits"), (0, u "[C"), (46, u "<init>"), (17, u "DigitOnes"), (0, u "[B"), (2, u "DigitTens"), (10, .nameAndType 67 101), (0, u "()V"), (85, u "valueOf"), (0, u "(I)Ljava/lang/Integer;"), (0, .class_ 190), (0, u "java/lang/Integer$IntegerCache"), (0, .fieldref 189 192), (0, .nameAndType 193 194), (0, u "high"), (0, u "I"), (0, .fieldref 189 196), (0, .nameAndType 197 198), (0, u "cache"), (0, u "[Ljava/lang/Integer;"), (0, .methodref 1 200), (0, .nameAndType 67 201), (0, u "(I)V"), (0, .methodref 203 100), (0, .class_ 204), (0, u "java/lang/Number"), (0, .fieldref 1 206), (0, .nameAndType 207 194), (0, u "value"), (94, u "TYPE"), (0, u "Ljava/lang/Class;"), (0, .class_ 305), (0, u "java/lang/Comparable"), (0, .class_ 307), (0, u "java/lang/constant/Constable"), (0, .class_ 309), (0, u "java/lang/constant/ConstantDesc"), (0, u "MIN_VALUE"), (1, u "MAX_VALUE"), (3, u "SIZE"), (1, u "BYTES"), (1, u "serialVersionUID"), (0, u "J")] 131

def k9c0 : Code := { maxStack := 3, maxLocals := 1, code := jdk_33_method_22_code, exceptionTable := #[], attributes := #[] }
def k9m0 : Method := { name := "valueOf", desc := "(I)Ljava/lang/Integer;", sig := { parameters := [.int], returnType := some (.object "java/lang/Integer") }, accessFlags := 9, code := some k9c0 }
def k9c1 : Code := { maxStack := 2, maxLocals := 2, code := jdk_33_method_23_code, exceptionTable := #[], attributes := #[] }
def k9m1 : Method := { name := "<init>", desc := "(I)V", sig := { parameters := [.int], returnType := none }, accessFlags := 1, code := some k9c1 }
/-- java/lang/Integer -/
def k9 : Class := { plain "java/lang/Integer" (some 5) with
  accessFlags := 49
  interfaces := #[6, 7, 8]
  cf := some (fileOf pool9 1 #[.nestMembers #[189]] #[{ accessFlags := 9, nameIndex := 187, descriptorIndex := 188, attributes := #[] }, { accessFlags := 1, nameIndex := 67, descriptorIndex := 201, attributes := #[] }] 49 203 #[304, 306, 308] #[{ accessFlags := 25, nameIndex := 310, descriptorIndex := 194, attributes := #[] }, { accessFlags := 25, nameIndex := 312, descriptorIndex := 194, attributes := #[] }, { accessFlags := 25, nameIndex := 302, descriptorIndex := 303, attributes := #[] }, { accessFlags := 24, nameIndex := 19, descriptorIndex := 20, attributes := #[] }, { accessFlags := 24, nameIndex := 89, descriptorIndex := 86, attributes := #[] }, { accessFlags := 24, nameIndex := 85, descriptorIndex := 86, attributes := #[] }, { accessFlags := 18, nameIndex := 207, descriptorIndex := 194, attributes := #[] }, { accessFlags := 25, nameIndex := 316, descriptorIndex := 194, attributes := #[] }, { accessFlags := 25, nameIndex := 318, descriptorIndex := 194, attributes := #[] }, { accessFlags := 26, nameIndex := 320, descriptorIndex := 321, attributes := #[] }])
  fields := #[{ name := "MIN_VALUE", type := .int, accessFlags := 25, slot := 0, constantValue := 0 }, { name := "MAX_VALUE", type := .int, accessFlags := 25, slot := 1, constantValue := 0 }, { name := "TYPE", type := (.object "java/lang/Class"), accessFlags := 25, slot := 2, constantValue := 0 }, { name := "digits", type := (.array .char), accessFlags := 24, slot := 3, constantValue := 0 }, { name := "DigitTens", type := (.array .byte), accessFlags := 24, slot := 4, constantValue := 0 }, { name := "DigitOnes", type := (.array .byte), accessFlags := 24, slot := 5, constantValue := 0 }, { name := "value", type := .int, accessFlags := 18, slot := 0, constantValue := 0 }, { name := "SIZE", type := .int, accessFlags := 25, slot := 6, constantValue := 0 }, { name := "BYTES", type := .int, accessFlags := 25, slot := 7, constantValue := 0 }, { name := "serialVersionUID", type := .long, accessFlags := 26, slot := 8, constantValue := 0 }]
  methods := #[k9m0, k9m1]
  instanceTypes := #[.int]
  staticTypes := #[.int, .int, (.object "java/lang/Class"), (.array .char), (.array .byte), (.array .byte), .int, .int, .long]
  resolved := Array.replicate 453 none
  statics := none }

def pool10 : Array CpInfo := pool [(2, .class_ 4), (1, u "java/lang/Object"), (0, u "<init>"), (0, u "()V"), (0, .class_ 8), (0, u "java/lang/Integer"), (7, .class_ 18), (1, u "java/lang/Integer$IntegerCache"), (0, u "$assertionsDisabled"), (0, u "Z"), (26, u "high"), (0, u "I"), (8, u "archivedCache"), (0, u "[Ljava/lang/Integer;"), (12, u "cache"), (0, u "low")] 27

def k10m0 : Method := { name := "<init>", desc := "()V", sig := { parameters := [], returnType := none }, accessFlags := 2, code := none }
/-- java/lang/Integer$IntegerCache -/
def k10 : Class := { plain "java/lang/Integer$IntegerCache" (some 0) with
  accessFlags := 48
  interfaces := #[]
  cf := some (fileOf pool10 16 #[.nestHost 7] #[{ accessFlags := 2, nameIndex := 5, descriptorIndex := 6, attributes := #[] }] 48 2 #[] #[{ accessFlags := 24, nameIndex := 72, descriptorIndex := 48, attributes := #[] }, { accessFlags := 24, nameIndex := 47, descriptorIndex := 48, attributes := #[] }, { accessFlags := 24, nameIndex := 71, descriptorIndex := 58, attributes := #[] }, { accessFlags := 8, nameIndex := 57, descriptorIndex := 58, attributes := #[] }, { accessFlags := 4120, nameIndex := 19, descriptorIndex := 20, attributes := #[] }])
  fields := #[{ name := "low", type := .int, accessFlags := 24, slot := 0, constantValue := 0 }, { name := "high", type := .int, accessFlags := 24, slot := 1, constantValue := 0 }, { name := "cache", type := (.array (.object "java/lang/Integer")), accessFlags := 24, slot := 2, constantValue := 0 }, { name := "archivedCache", type := (.array (.object "java/lang/Integer")), accessFlags := 8, slot := 3, constantValue := 0 }, { name := "$assertionsDisabled", type := .boolean, accessFlags := 4120, slot := 4, constantValue := 0 }]
  methods := #[k10m0]
  instanceTypes := #[]
  staticTypes := #[.int, .int, (.array (.object "java/lang/Integer")), (.array (.object "java/lang/Integer")), .boolean]
  resolved := Array.replicate 100 none
  statics := some 0 }

def pool11 : Array CpInfo := pool [(1, u "java/lang/Cloneable"), (0, .class_ 1), (0, u "java/lang/Object"), (0, .class_ 3)] 3

/-- java/lang/Cloneable -/
def k11 : Class := { plain "java/lang/Cloneable" (some 0) with
  accessFlags := 1537
  interfaces := #[]
  cf := some (fileOf pool11 2 #[] #[] 1537 4 #[] #[])
  fields := #[]
  methods := #[]
  instanceTypes := #[]
  staticTypes := #[]
  resolved := Array.replicate 8 none
  statics := none }

/-- the primitive byte -/
def k12 : Class := { plain "byte" none with kind := .primitive 'B', accessFlags := 0x411 }
/-- [B -/
def k13 : Class := { plain "[B" (some 0) with kind := .array 12 .byte, interfaces := #[11, 4], accessFlags := 1041 }

/-- the primitive int -/
def k14 : Class := { plain "int" none with kind := .primitive 'I', accessFlags := 0x411 }
/-- [I -/
def k15 : Class := { plain "[I" (some 0) with kind := .array 14 .int, interfaces := #[11, 4], accessFlags := 1041 }

/-- [Ljava/lang/Integer; -/
def k16 : Class := { plain "[Ljava/lang/Integer;" (some 0) with kind := .array 9 (.object "java/lang/Integer"), interfaces := #[11, 4], accessFlags := 1041 }

def heap : Heap := #[{ cls := 10, slots := #[.int 0, .int 127, .ref 1, .null, .int 0], vm := .statics 10 },
  { cls := 16, slots := #[.ref 2, .ref 3, .ref 4, .ref 5, .ref 6, .ref 7, .ref 8, .ref 9, .ref 10, .ref 11, .ref 12, .ref 13, .ref 14, .ref 15, .ref 16, .ref 17, .ref 18, .ref 19, .ref 20, .ref 21, .ref 22, .ref 23, .ref 24, .ref 25, .ref 26, .ref 27, .ref 28, .ref 29, .ref 30, .ref 31, .ref 32, .ref 33, .ref 34, .ref 35, .ref 36, .ref 37, .ref 38, .ref 39, .ref 40, .ref 41, .ref 42, .ref 43, .ref 44, .ref 45, .ref 46, .ref 47, .ref 48, .ref 49, .ref 50, .ref 51, .ref 52, .ref 53, .ref 54, .ref 55, .ref 56, .ref 57, .ref 58, .ref 59, .ref 60, .ref 61, .ref 62, .ref 63, .ref 64, .ref 65, .ref 66, .ref 67, .ref 68, .ref 69, .ref 70, .ref 71, .ref 72, .ref 73, .ref 74, .ref 75, .ref 76, .ref 77, .ref 78, .ref 79, .ref 80, .ref 81, .ref 82, .ref 83, .ref 84, .ref 85, .ref 86, .ref 87, .ref 88, .ref 89, .ref 90, .ref 91, .ref 92, .ref 93, .ref 94, .ref 95, .ref 96, .ref 97, .ref 98, .ref 99, .ref 100, .ref 101, .ref 102, .ref 103, .ref 104, .ref 105, .ref 106, .ref 107, .ref 108, .ref 109, .ref 110, .ref 111, .ref 112, .ref 113, .ref 114, .ref 115, .ref 116, .ref 117, .ref 118, .ref 119, .ref 120, .ref 121, .ref 122, .ref 123, .ref 124, .ref 125, .ref 126, .ref 127, .ref 128, .ref 129, .ref 130, .ref 131, .ref 132, .ref 133, .ref 134, .ref 135, .ref 136, .ref 137, .ref 138, .ref 139, .ref 140, .ref 141, .ref 142, .ref 143, .ref 144, .ref 145, .ref 146, .ref 147, .ref 148, .ref 149, .ref 150, .ref 151, .ref 152, .ref 153, .ref 154, .ref 155, .ref 156, .ref 157, .ref 158, .ref 159, .ref 160, .ref 161, .ref 162, .ref 163, .ref 164, .ref 165, .ref 166, .ref 167, .ref 168, .ref 169, .ref 170, .ref 171, .ref 172, .ref 173, .ref 174, .ref 175, .ref 176, .ref 177, .ref 178, .ref 179, .ref 180, .ref 181, .ref 182, .ref 183, .ref 184, .ref 185, .ref 186, .ref 187, .ref 188, .ref 189, .ref 190, .ref 191, .ref 192, .ref 193, .ref 194, .ref 195, .ref 196, .ref 197, .ref 198, .ref 199, .ref 200, .ref 201, .ref 202, .ref 203, .ref 204, .ref 205, .ref 206, .ref 207, .ref 208, .ref 209, .ref 210, .ref 211, .ref 212, .ref 213, .ref 214, .ref 215, .ref 216, .ref 217, .ref 218, .ref 219, .ref 220, .ref 221, .ref 222, .ref 223, .ref 224, .ref 225, .ref 226, .ref 227, .ref 228, .ref 229, .ref 230, .ref 231, .ref 232, .ref 233, .ref 234, .ref 235, .ref 236, .ref 237, .ref 238, .ref 239, .ref 240, .ref 241, .ref 242, .ref 243, .ref 244, .ref 245, .ref 246, .ref 247, .ref 248, .ref 249, .ref 250, .ref 251, .ref 252, .ref 253, .ref 254, .ref 255, .ref 256, .ref 257], vm := .none },
  { cls := 9, slots := #[.int (-128)], vm := .none },
  { cls := 9, slots := #[.int (-127)], vm := .none },
  { cls := 9, slots := #[.int (-126)], vm := .none },
  { cls := 9, slots := #[.int (-125)], vm := .none },
  { cls := 9, slots := #[.int (-124)], vm := .none },
  { cls := 9, slots := #[.int (-123)], vm := .none },
  { cls := 9, slots := #[.int (-122)], vm := .none },
  { cls := 9, slots := #[.int (-121)], vm := .none },
  { cls := 9, slots := #[.int (-120)], vm := .none },
  { cls := 9, slots := #[.int (-119)], vm := .none },
  { cls := 9, slots := #[.int (-118)], vm := .none },
  { cls := 9, slots := #[.int (-117)], vm := .none },
  { cls := 9, slots := #[.int (-116)], vm := .none },
  { cls := 9, slots := #[.int (-115)], vm := .none },
  { cls := 9, slots := #[.int (-114)], vm := .none },
  { cls := 9, slots := #[.int (-113)], vm := .none },
  { cls := 9, slots := #[.int (-112)], vm := .none },
  { cls := 9, slots := #[.int (-111)], vm := .none },
  { cls := 9, slots := #[.int (-110)], vm := .none },
  { cls := 9, slots := #[.int (-109)], vm := .none },
  { cls := 9, slots := #[.int (-108)], vm := .none },
  { cls := 9, slots := #[.int (-107)], vm := .none },
  { cls := 9, slots := #[.int (-106)], vm := .none },
  { cls := 9, slots := #[.int (-105)], vm := .none },
  { cls := 9, slots := #[.int (-104)], vm := .none },
  { cls := 9, slots := #[.int (-103)], vm := .none },
  { cls := 9, slots := #[.int (-102)], vm := .none },
  { cls := 9, slots := #[.int (-101)], vm := .none },
  { cls := 9, slots := #[.int (-100)], vm := .none },
  { cls := 9, slots := #[.int (-99)], vm := .none },
  { cls := 9, slots := #[.int (-98)], vm := .none },
  { cls := 9, slots := #[.int (-97)], vm := .none },
  { cls := 9, slots := #[.int (-96)], vm := .none },
  { cls := 9, slots := #[.int (-95)], vm := .none },
  { cls := 9, slots := #[.int (-94)], vm := .none },
  { cls := 9, slots := #[.int (-93)], vm := .none },
  { cls := 9, slots := #[.int (-92)], vm := .none },
  { cls := 9, slots := #[.int (-91)], vm := .none },
  { cls := 9, slots := #[.int (-90)], vm := .none },
  { cls := 9, slots := #[.int (-89)], vm := .none },
  { cls := 9, slots := #[.int (-88)], vm := .none },
  { cls := 9, slots := #[.int (-87)], vm := .none },
  { cls := 9, slots := #[.int (-86)], vm := .none },
  { cls := 9, slots := #[.int (-85)], vm := .none },
  { cls := 9, slots := #[.int (-84)], vm := .none },
  { cls := 9, slots := #[.int (-83)], vm := .none },
  { cls := 9, slots := #[.int (-82)], vm := .none },
  { cls := 9, slots := #[.int (-81)], vm := .none },
  { cls := 9, slots := #[.int (-80)], vm := .none },
  { cls := 9, slots := #[.int (-79)], vm := .none },
  { cls := 9, slots := #[.int (-78)], vm := .none },
  { cls := 9, slots := #[.int (-77)], vm := .none },
  { cls := 9, slots := #[.int (-76)], vm := .none },
  { cls := 9, slots := #[.int (-75)], vm := .none },
  { cls := 9, slots := #[.int (-74)], vm := .none },
  { cls := 9, slots := #[.int (-73)], vm := .none },
  { cls := 9, slots := #[.int (-72)], vm := .none },
  { cls := 9, slots := #[.int (-71)], vm := .none },
  { cls := 9, slots := #[.int (-70)], vm := .none },
  { cls := 9, slots := #[.int (-69)], vm := .none },
  { cls := 9, slots := #[.int (-68)], vm := .none },
  { cls := 9, slots := #[.int (-67)], vm := .none },
  { cls := 9, slots := #[.int (-66)], vm := .none },
  { cls := 9, slots := #[.int (-65)], vm := .none },
  { cls := 9, slots := #[.int (-64)], vm := .none },
  { cls := 9, slots := #[.int (-63)], vm := .none },
  { cls := 9, slots := #[.int (-62)], vm := .none },
  { cls := 9, slots := #[.int (-61)], vm := .none },
  { cls := 9, slots := #[.int (-60)], vm := .none },
  { cls := 9, slots := #[.int (-59)], vm := .none },
  { cls := 9, slots := #[.int (-58)], vm := .none },
  { cls := 9, slots := #[.int (-57)], vm := .none },
  { cls := 9, slots := #[.int (-56)], vm := .none },
  { cls := 9, slots := #[.int (-55)], vm := .none },
  { cls := 9, slots := #[.int (-54)], vm := .none },
  { cls := 9, slots := #[.int (-53)], vm := .none },
  { cls := 9, slots := #[.int (-52)], vm := .none },
  { cls := 9, slots := #[.int (-51)], vm := .none },
  { cls := 9, slots := #[.int (-50)], vm := .none },
  { cls := 9, slots := #[.int (-49)], vm := .none },
  { cls := 9, slots := #[.int (-48)], vm := .none },
  { cls := 9, slots := #[.int (-47)], vm := .none },
  { cls := 9, slots := #[.int (-46)], vm := .none },
  { cls := 9, slots := #[.int (-45)], vm := .none },
  { cls := 9, slots := #[.int (-44)], vm := .none },
  { cls := 9, slots := #[.int (-43)], vm := .none },
  { cls := 9, slots := #[.int (-42)], vm := .none },
  { cls := 9, slots := #[.int (-41)], vm := .none },
  { cls := 9, slots := #[.int (-40)], vm := .none },
  { cls := 9, slots := #[.int (-39)], vm := .none },
  { cls := 9, slots := #[.int (-38)], vm := .none },
  { cls := 9, slots := #[.int (-37)], vm := .none },
  { cls := 9, slots := #[.int (-36)], vm := .none },
  { cls := 9, slots := #[.int (-35)], vm := .none },
  { cls := 9, slots := #[.int (-34)], vm := .none },
  { cls := 9, slots := #[.int (-33)], vm := .none },
  { cls := 9, slots := #[.int (-32)], vm := .none },
  { cls := 9, slots := #[.int (-31)], vm := .none },
  { cls := 9, slots := #[.int (-30)], vm := .none },
  { cls := 9, slots := #[.int (-29)], vm := .none },
  { cls := 9, slots := #[.int (-28)], vm := .none },
  { cls := 9, slots := #[.int (-27)], vm := .none },
  { cls := 9, slots := #[.int (-26)], vm := .none },
  { cls := 9, slots := #[.int (-25)], vm := .none },
  { cls := 9, slots := #[.int (-24)], vm := .none },
  { cls := 9, slots := #[.int (-23)], vm := .none },
  { cls := 9, slots := #[.int (-22)], vm := .none },
  { cls := 9, slots := #[.int (-21)], vm := .none },
  { cls := 9, slots := #[.int (-20)], vm := .none },
  { cls := 9, slots := #[.int (-19)], vm := .none },
  { cls := 9, slots := #[.int (-18)], vm := .none },
  { cls := 9, slots := #[.int (-17)], vm := .none },
  { cls := 9, slots := #[.int (-16)], vm := .none },
  { cls := 9, slots := #[.int (-15)], vm := .none },
  { cls := 9, slots := #[.int (-14)], vm := .none },
  { cls := 9, slots := #[.int (-13)], vm := .none },
  { cls := 9, slots := #[.int (-12)], vm := .none },
  { cls := 9, slots := #[.int (-11)], vm := .none },
  { cls := 9, slots := #[.int (-10)], vm := .none },
  { cls := 9, slots := #[.int (-9)], vm := .none },
  { cls := 9, slots := #[.int (-8)], vm := .none },
  { cls := 9, slots := #[.int (-7)], vm := .none },
  { cls := 9, slots := #[.int (-6)], vm := .none },
  { cls := 9, slots := #[.int (-5)], vm := .none },
  { cls := 9, slots := #[.int (-4)], vm := .none },
  { cls := 9, slots := #[.int (-3)], vm := .none },
  { cls := 9, slots := #[.int (-2)], vm := .none },
  { cls := 9, slots := #[.int (-1)], vm := .none },
  { cls := 9, slots := #[.int 0], vm := .none },
  { cls := 9, slots := #[.int 1], vm := .none },
  { cls := 9, slots := #[.int 2], vm := .none },
  { cls := 9, slots := #[.int 3], vm := .none },
  { cls := 9, slots := #[.int 4], vm := .none },
  { cls := 9, slots := #[.int 5], vm := .none },
  { cls := 9, slots := #[.int 6], vm := .none },
  { cls := 9, slots := #[.int 7], vm := .none },
  { cls := 9, slots := #[.int 8], vm := .none },
  { cls := 9, slots := #[.int 9], vm := .none },
  { cls := 9, slots := #[.int 10], vm := .none },
  { cls := 9, slots := #[.int 11], vm := .none },
  { cls := 9, slots := #[.int 12], vm := .none },
  { cls := 9, slots := #[.int 13], vm := .none },
  { cls := 9, slots := #[.int 14], vm := .none },
  { cls := 9, slots := #[.int 15], vm := .none },
  { cls := 9, slots := #[.int 16], vm := .none },
  { cls := 9, slots := #[.int 17], vm := .none },
  { cls := 9, slots := #[.int 18], vm := .none },
  { cls := 9, slots := #[.int 19], vm := .none },
  { cls := 9, slots := #[.int 20], vm := .none },
  { cls := 9, slots := #[.int 21], vm := .none },
  { cls := 9, slots := #[.int 22], vm := .none },
  { cls := 9, slots := #[.int 23], vm := .none },
  { cls := 9, slots := #[.int 24], vm := .none },
  { cls := 9, slots := #[.int 25], vm := .none },
  { cls := 9, slots := #[.int 26], vm := .none },
  { cls := 9, slots := #[.int 27], vm := .none },
  { cls := 9, slots := #[.int 28], vm := .none },
  { cls := 9, slots := #[.int 29], vm := .none },
  { cls := 9, slots := #[.int 30], vm := .none },
  { cls := 9, slots := #[.int 31], vm := .none },
  { cls := 9, slots := #[.int 32], vm := .none },
  { cls := 9, slots := #[.int 33], vm := .none },
  { cls := 9, slots := #[.int 34], vm := .none },
  { cls := 9, slots := #[.int 35], vm := .none },
  { cls := 9, slots := #[.int 36], vm := .none },
  { cls := 9, slots := #[.int 37], vm := .none },
  { cls := 9, slots := #[.int 38], vm := .none },
  { cls := 9, slots := #[.int 39], vm := .none },
  { cls := 9, slots := #[.int 40], vm := .none },
  { cls := 9, slots := #[.int 41], vm := .none },
  { cls := 9, slots := #[.int 42], vm := .none },
  { cls := 9, slots := #[.int 43], vm := .none },
  { cls := 9, slots := #[.int 44], vm := .none },
  { cls := 9, slots := #[.int 45], vm := .none },
  { cls := 9, slots := #[.int 46], vm := .none },
  { cls := 9, slots := #[.int 47], vm := .none },
  { cls := 9, slots := #[.int 48], vm := .none },
  { cls := 9, slots := #[.int 49], vm := .none },
  { cls := 9, slots := #[.int 50], vm := .none },
  { cls := 9, slots := #[.int 51], vm := .none },
  { cls := 9, slots := #[.int 52], vm := .none },
  { cls := 9, slots := #[.int 53], vm := .none },
  { cls := 9, slots := #[.int 54], vm := .none },
  { cls := 9, slots := #[.int 55], vm := .none },
  { cls := 9, slots := #[.int 56], vm := .none },
  { cls := 9, slots := #[.int 57], vm := .none },
  { cls := 9, slots := #[.int 58], vm := .none },
  { cls := 9, slots := #[.int 59], vm := .none },
  { cls := 9, slots := #[.int 60], vm := .none },
  { cls := 9, slots := #[.int 61], vm := .none },
  { cls := 9, slots := #[.int 62], vm := .none },
  { cls := 9, slots := #[.int 63], vm := .none },
  { cls := 9, slots := #[.int 64], vm := .none },
  { cls := 9, slots := #[.int 65], vm := .none },
  { cls := 9, slots := #[.int 66], vm := .none },
  { cls := 9, slots := #[.int 67], vm := .none },
  { cls := 9, slots := #[.int 68], vm := .none },
  { cls := 9, slots := #[.int 69], vm := .none },
  { cls := 9, slots := #[.int 70], vm := .none },
  { cls := 9, slots := #[.int 71], vm := .none },
  { cls := 9, slots := #[.int 72], vm := .none },
  { cls := 9, slots := #[.int 73], vm := .none },
  { cls := 9, slots := #[.int 74], vm := .none },
  { cls := 9, slots := #[.int 75], vm := .none },
  { cls := 9, slots := #[.int 76], vm := .none },
  { cls := 9, slots := #[.int 77], vm := .none },
  { cls := 9, slots := #[.int 78], vm := .none },
  { cls := 9, slots := #[.int 79], vm := .none },
  { cls := 9, slots := #[.int 80], vm := .none },
  { cls := 9, slots := #[.int 81], vm := .none },
  { cls := 9, slots := #[.int 82], vm := .none },
  { cls := 9, slots := #[.int 83], vm := .none },
  { cls := 9, slots := #[.int 84], vm := .none },
  { cls := 9, slots := #[.int 85], vm := .none },
  { cls := 9, slots := #[.int 86], vm := .none },
  { cls := 9, slots := #[.int 87], vm := .none },
  { cls := 9, slots := #[.int 88], vm := .none },
  { cls := 9, slots := #[.int 89], vm := .none },
  { cls := 9, slots := #[.int 90], vm := .none },
  { cls := 9, slots := #[.int 91], vm := .none },
  { cls := 9, slots := #[.int 92], vm := .none },
  { cls := 9, slots := #[.int 93], vm := .none },
  { cls := 9, slots := #[.int 94], vm := .none },
  { cls := 9, slots := #[.int 95], vm := .none },
  { cls := 9, slots := #[.int 96], vm := .none },
  { cls := 9, slots := #[.int 97], vm := .none },
  { cls := 9, slots := #[.int 98], vm := .none },
  { cls := 9, slots := #[.int 99], vm := .none },
  { cls := 9, slots := #[.int 100], vm := .none },
  { cls := 9, slots := #[.int 101], vm := .none },
  { cls := 9, slots := #[.int 102], vm := .none },
  { cls := 9, slots := #[.int 103], vm := .none },
  { cls := 9, slots := #[.int 104], vm := .none },
  { cls := 9, slots := #[.int 105], vm := .none },
  { cls := 9, slots := #[.int 106], vm := .none },
  { cls := 9, slots := #[.int 107], vm := .none },
  { cls := 9, slots := #[.int 108], vm := .none },
  { cls := 9, slots := #[.int 109], vm := .none },
  { cls := 9, slots := #[.int 110], vm := .none },
  { cls := 9, slots := #[.int 111], vm := .none },
  { cls := 9, slots := #[.int 112], vm := .none },
  { cls := 9, slots := #[.int 113], vm := .none },
  { cls := 9, slots := #[.int 114], vm := .none },
  { cls := 9, slots := #[.int 115], vm := .none },
  { cls := 9, slots := #[.int 116], vm := .none },
  { cls := 9, slots := #[.int 117], vm := .none },
  { cls := 9, slots := #[.int 118], vm := .none },
  { cls := 9, slots := #[.int 119], vm := .none },
  { cls := 9, slots := #[.int 120], vm := .none },
  { cls := 9, slots := #[.int 121], vm := .none },
  { cls := 9, slots := #[.int 122], vm := .none },
  { cls := 9, slots := #[.int 123], vm := .none },
  { cls := 9, slots := #[.int 124], vm := .none },
  { cls := 9, slots := #[.int 125], vm := .none },
  { cls := 9, slots := #[.int 126], vm := .none },
  { cls := 9, slots := #[.int 127], vm := .none }]
def classes : Array Class := #[k0, k1, k2, k3, k4, k5, k6, k7, k8, k9, k10, k11, k12, k13, k14, k15, k16]
def interned : List (Array UInt16 × Addr) := []
def slotsUsed : Nat := 517
def theMethod : MethodId := ⟨1, 1⟩
def args0 : Array Value := #[.int 5, .int 3, .int 2]
def aboutOver (below : List Frame) : State where
  vm := { classes := classes, interned := interned.toArray }
  heap := heap
  slotsUsed := slotsUsed
  threads := #[{ frames := .invoking theMethod args0 :: below }]
def below0 : List Frame := [.native { method := ⟨0, 0⟩, args := #[] }]
def about1 : State := aboutOver below0
def p0 : Program := .bare "" "" ""
def e0 : Env := launch0.env 0 0 0
theorem w_frames : about1.frames = Frame.invoking theMethod args0 :: below0 := rfl
set_option maxRecDepth 65536 in
theorem w_args : argsFit about1.vm theMethod args0 = true := by decide +kernel
set_option maxRecDepth 65536 in
theorem w_heap : heapFits about1 = true := by decide +kernel
set_option maxRecDepth 65536 in
theorem w_runnable : about1.curStatus? = some .runnable := by decide +kernel
set_option maxRecDepth 65536 in
theorem w_alone : about1.alone = true := by decide +kernel
set_option maxRecDepth 65536 in
theorem w_named : about1.methodNamed? x = some theMethod := by decide +kernel
set_option maxRecDepth 65536 in
theorem w_hears : about1.hears theMethod below0 = true := by decide +kernel
set_option maxRecDepth 65536 in
theorem w_ripe : about1.ripe theMethod args0 below0 = true := by decide +kernel
theorem w_running : about1.status = .running := rfl
set_option maxRecDepth 65536 in
theorem w_room : about1.hasRoom e0.platform room_1 = true :=
  launch0.hasRoom_least _ room_1 (by decide +kernel) (by decide +kernel) (by decide +kernel) (by decide +kernel) (by decide +kernel) (by decide +kernel)
theorem allAtoms_all (ts : List Jvm.Cond) (a : Array Jvm.Value) (st : Jvm.State) : (allAtoms ts).before a st = ts.all (fun c => c.before a st) := by
  induction ts with
  | nil => rfl
  | cons c t ih =>
    show (Jvm.Cond.and c (allAtoms t)).before a st = _
    rw [Jvm.Cond.before_and, ih, List.all_cons]
def words1 : List Jvm.Cond := Jvm.Cond.code x code maxLocals ret :: tables_1
/-- a 'code' word, met by the world's own term for the bytes: nothing is compared byte by byte -/
theorem code_word {y : MethodName} {bytes : ByteArray} {mx : Nat} {rt : Option FieldType} {a : Array Value} {s : State} {m : MethodId} {meth : Method} {c : Code} (h1 : s.methodNamed? y = some m) (h2 : s.vm.method? m = some meth) (h3 : meth.code = some c) (h4 : c.code = bytes)
    (h5 : (c.maxLocals == mx && c.exceptionTable.isEmpty && decide (c.maxStack ≤ mostOperands) && decide (meth.sig.returnType = rt) && !meth.locks && decide (parseMethodDescriptor y.desc = some meth.sig)) = true) : (Jvm.Cond.code y bytes mx rt).before a s = true := by
  simp only [Bool.and_eq_true, beq_iff_eq, Bool.not_eq_true', decide_eq_true_eq] at h5
  obtain ⟨⟨⟨⟨⟨g1, g2⟩, g3⟩, g4⟩, g5⟩, g6⟩ := h5
  simp [Cond.before, Cond.holds, Cond.value, h1, h2, h3, h4, g1, g2, g3, g4, g5, g6]
def isCode : Jvm.Cond → Bool
  | .code _ _ _ _ => true
  | _ => false
theorem all_split {L : List Jvm.Cond} {P : Jvm.Cond → Bool} (h1 : L.all (fun c => isCode c || P c) = true) (h2 : ∀ c ∈ L.filter isCode, P c = true) : L.all P = true := by
  refine List.all_eq_true.mpr fun c hc => ?_
  have h := List.all_eq_true.mp h1 c hc
  rcases Bool.eq_false_or_eq_true (isCode c) with hi | hi
  · exact h2 c (List.mem_filter.mpr ⟨hc, hi⟩)
  · simpa [hi] using h
set_option maxRecDepth 65536 in
theorem w_c0 : (Jvm.Cond.code x code maxLocals ret).before args0 about1 = true := code_word (m := ⟨1, 1⟩) (meth := k1m1) (c := k1c1) (by decide +kernel) rfl rfl rfl (by decide +kernel)
set_option maxRecDepth 65536 in
theorem w_c1 : (Jvm.Cond.code ({ cls := "java/lang/Math", name := "max", desc := "(II)I" } : Jvm.MethodName) jdk_29_method_65_code (2 : Nat) (Option.some Jvm.ClassFile.FieldType.int)).before args0 about1 = true := code_word (m := ⟨2, 1⟩) (meth := k2m1) (c := k2c1) (by decide +kernel) rfl rfl rfl (by decide +kernel)
set_option maxRecDepth 65536 in
theorem w_c2 : (Jvm.Cond.code ({ cls := "com/example/irama/irama/Prefilter", name := "<init>", desc := "(I)V" } : Jvm.MethodName) prog_4_method_1_code (2 : Nat) (Option.none : Option Jvm.ClassFile.FieldType)).before args0 about1 = true := code_word (m := ⟨3, 0⟩) (meth := k3m0) (c := k3c0) (by decide +kernel) rfl rfl rfl (by decide +kernel)
set_option maxRecDepth 65536 in
theorem w_c3 : (Jvm.Cond.code ({ cls := "java/lang/Object", name := "<init>", desc := "()V" } : Jvm.MethodName) object_method_1_code (1 : Nat) (Option.none : Option Jvm.ClassFile.FieldType)).before args0 about1 = true := code_word (m := ⟨0, 0⟩) (meth := k0m0) (c := k0c0) (by decide +kernel) rfl rfl rfl (by decide +kernel)
set_option maxRecDepth 65536 in
theorem w_c4 : (Jvm.Cond.code ({ cls := "com/example/irama/irama/Prefilter", name := "equals", desc := "(Ljava/lang/Object;)Z" } : Jvm.MethodName) prog_4_method_4_code (3 : Nat) (Option.some Jvm.ClassFile.FieldType.boolean)).before args0 about1 = true := code_word (m := ⟨3, 1⟩) (meth := k3m1) (c := k3c1) (by decide +kernel) rfl rfl rfl (by decide +kernel)
set_option maxRecDepth 65536 in
theorem w_c5 : (Jvm.Cond.code ({ cls := "java/lang/Integer", name := "valueOf", desc := "(I)Ljava/lang/Integer;" } : Jvm.MethodName) jdk_33_method_22_code (1 : Nat) (Option.some (Jvm.ClassFile.FieldType.object "java/lang/Integer"))).before args0 about1 = true := code_word (m := ⟨9, 0⟩) (meth := k9m0) (c := k9c0) (by decide +kernel) rfl rfl rfl (by decide +kernel)
set_option maxRecDepth 65536 in
theorem w_c6 : (Jvm.Cond.code ({ cls := "java/lang/Integer", name := "<init>", desc := "(I)V" } : Jvm.MethodName) jdk_33_method_23_code (2 : Nat) (Option.none : Option Jvm.ClassFile.FieldType)).before args0 about1 = true := code_word (m := ⟨9, 1⟩) (meth := k9m1) (c := k9c1) (by decide +kernel) rfl rfl rfl (by decide +kernel)
set_option maxRecDepth 65536 in
theorem w_c7 : (Jvm.Cond.code ({ cls := "java/lang/Number", name := "<init>", desc := "()V" } : Jvm.MethodName) jdk_18_method_1_code (1 : Nat) (Option.none : Option Jvm.ClassFile.FieldType)).before args0 about1 = true := code_word (m := ⟨5, 0⟩) (meth := k5m0) (c := k5c0) (by decide +kernel) rfl rfl rfl (by decide +kernel)
def codes1 : List Jvm.Cond := [Jvm.Cond.code x code maxLocals ret, Jvm.Cond.code ({ cls := "java/lang/Math", name := "max", desc := "(II)I" } : Jvm.MethodName) jdk_29_method_65_code (2 : Nat) (Option.some Jvm.ClassFile.FieldType.int), Jvm.Cond.code ({ cls := "com/example/irama/irama/Prefilter", name := "<init>", desc := "(I)V" } : Jvm.MethodName) prog_4_method_1_code (2 : Nat) (Option.none : Option Jvm.ClassFile.FieldType), Jvm.Cond.code ({ cls := "java/lang/Object", name := "<init>", desc := "()V" } : Jvm.MethodName) object_method_1_code (1 : Nat) (Option.none : Option Jvm.ClassFile.FieldType), Jvm.Cond.code ({ cls := "com/example/irama/irama/Prefilter", name := "equals", desc := "(Ljava/lang/Object;)Z" } : Jvm.MethodName) prog_4_method_4_code (3 : Nat) (Option.some Jvm.ClassFile.FieldType.boolean), Jvm.Cond.code ({ cls := "java/lang/Integer", name := "valueOf", desc := "(I)Ljava/lang/Integer;" } : Jvm.MethodName) jdk_33_method_22_code (1 : Nat) (Option.some (Jvm.ClassFile.FieldType.object "java/lang/Integer")), Jvm.Cond.code ({ cls := "java/lang/Integer", name := "<init>", desc := "(I)V" } : Jvm.MethodName) jdk_33_method_23_code (2 : Nat) (Option.none : Option Jvm.ClassFile.FieldType), Jvm.Cond.code ({ cls := "java/lang/Number", name := "<init>", desc := "()V" } : Jvm.MethodName) jdk_18_method_1_code (1 : Nat) (Option.none : Option Jvm.ClassFile.FieldType)]
set_option maxRecDepth 65536 in
theorem codes_eq : words1.filter isCode = codes1 := rfl
theorem w_codes : ∀ c ∈ words1.filter isCode, c.before args0 about1 = true := by
  rw [codes_eq]
  intro c hc
  simp only [codes1, List.mem_cons, List.not_mem_nil, or_false] at hc
  rcases hc with rfl | rfl | rfl | rfl | rfl | rfl | rfl | rfl
  · exact w_c0
  · exact w_c1
  · exact w_c2
  · exact w_c3
  · exact w_c4
  · exact w_c5
  · exact w_c6
  · exact w_c7
set_option maxRecDepth 65536 in
theorem w_t1 : (words1.take 24).all (fun c => isCode c || c.before args0 about1) = true := by decide +kernel
set_option maxRecDepth 65536 in
theorem w_t2 : ((words1.drop 24).take 24).all (fun c => isCode c || c.before args0 about1) = true := by decide +kernel
set_option maxRecDepth 65536 in
theorem w_t3 : ((words1.drop 24).drop 24).all (fun c => isCode c || c.before args0 about1) = true := by decide +kernel
theorem w_tables : (allAtoms (Jvm.Cond.code x code maxLocals ret :: tables_1)).before args0 about1 = true := by
  rw [allAtoms_all]
  show words1.all (fun c => c.before args0 about1) = true
  refine all_split ?_ w_codes
  rw [← List.take_append_drop 24 words1, List.all_append, w_t1, ← List.take_append_drop 24 (words1.drop 24), List.all_append, w_t2, w_t3]
  rfl
set_option maxRecDepth 65536 in
theorem w_rest : rest_1_c.before args0 about1 = true := by decide +kernel
set_option maxRecDepth 65536 in
theorem w_case : (Jvm.Cond.and given_1 narrow_1).before args0 about1 = true := by decide +kernel
theorem w_applies : (headSpec (Jvm.Cond.code x code maxLocals ret :: tables_1) room_1).applies x e0.platform about1 = true :=
  (Spec.applies_iff w_frames).mpr ⟨w_running, w_runnable, w_alone, w_named, w_hears, w_ripe, w_room, w_tables⟩
theorem atStart : AtStart classFile x code maxLocals ret World_1 tables_1 room_1 Calls_1 rest_1 Pre_1 launch0 p0 e0 about1 theMethod args0 below0 :=
  ⟨lists_1, trivial, launch0.admits_env _ _ _, launch0.least_env, fairChoices_fair.cas, fairChoices_fair.clock, w_frames, w_args, w_heap, w_applies, trivial, w_rest, w_case⟩
end start1
theorem witness_1 : WitnessClaimed_1 := ⟨start1.p0, start1.e0, start1.about1, start1.theMethod, start1.args0, start1.below0, start1.atStart⟩
end Jvm.Pilot.@@N@@
