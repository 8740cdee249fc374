import JvmDerived
import JvmDerived.Pilot.@@N@@Statement
import JvmDerived.Pilot.@@N@@Code
set_option linter.unusedVariables false
set_option linter.unusedSimpArgs false
namespace Jvm.Pilot.@@N@@
open Jvm Jvm.ClassFile Sem Op Lib Jvm.Free Jvm.Stand Jvm.LawKit Jvm.RoadKit Bundle Jvm.Pilot.@@N@@.Jvm.D
section OwnKit
variable {p : Program} {l : Launch} {e : Env} {R : Room} {s : State} {m : MethodId} {args : Array Value} {below : List Frame} {meth : Method} {c : Code} {T : State} {locs : List Loc} {cells slots : Nat} {Z : State} {a0 : Array Value} {h : Heap} {Q : Option Value → Heap → List Loc → Prop} {C S : Nat} {F : State → Outcome → Prop}
/-- what is left of a walk: from T with the top frame g the invocation comes to its end, and F holds there -/
def Go (p : Program) (e : Env) (below : List Frame) (F : State → Outcome → Prop) (T : State) (g : JFrame) : Prop :=
  ∃ t o, Steps p.tables e below (T.setTop g) t ∧ t.status = .running ∧ Ended t below o ∧ F t o
/-- it returned, Q holds, and no more has changed than the frame says -/
def FN (s : State) (Q : Option Value → Heap → List Loc → Prop) (C S : Nat) (t : State) (o : Outcome) : Prop := ∃ v L, o = .returned v ∧ Q v t.heap L ∧ FrameEnd s o t L C S
theorem Go.of {T' : State} {g g' : JFrame} (h : ∀ t, Steps p.tables e below (T'.setTop g') t → Steps p.tables e below (T.setTop g) t) (k : Go p e below F T' g') : Go p e below F T g := by
  obtain ⟨t, o, h1, h2⟩ := k
  exact ⟨t, o, h _ h1, h2⟩
theorem Go.cast {g g' : JFrame} (q : g = g') (k : Go p e below F T g') : Go p e below F T g := q ▸ k
theorem Go.ret (X : Stand p l e R s m args below meth c T locs cells slots) {v : Option Value} {g : JFrame} (hlk : meth.locks = false) (hv : meth.sig.returnType = none → v = none)
    (st : ∀ fs, (∀ (f : JFrame) (acts : List Action), f.method = m → f.locked = none → f.entered = [] → (doReturn e (T.setTop f) acts v).1 = T.setFrames fs) → Steps p.tables e below (T.setTop g) (T.setFrames fs))
    (hc : cells ≤ C) (hs : slots ≤ S) (hQ : Q v T.heap locs) : Go p e below (FN s Q C S) T g := by
  obtain ⟨fs, hr, hrun, hended, hW, hsame⟩ := X.leave (v := v) hv hlk
  exact ⟨_, _, st fs hr, hrun, hended, _, _, rfl, hQ, ⟨_, rfl⟩, hW, hsame.mono hc hs⟩
theorem Go.retI (X : Stand p l e R s m args below meth c T locs cells slots) (hx : p.tables.exec = Jvm.exec) (hlk : meth.locks = false) {pc : Nat} {Ls : Array Slot} {z : Int32} {rest : List Value} (hret : meth.sig.returnType = some .int) (hd : decode c.code pc = .ok (.ireturn, 1))
    (hc : cells ≤ C) (hs : slots ≤ S) (hQ : Q (some (.int z)) T.heap locs) : Go p e below (FN s Q C S) T (mkF m pc Ls (.int z :: rest)) :=
  Go.ret X hlk (fun h => by rw [hret] at h; cases h) (fun _ hr => retOut X hx hret rfl (Or.inl ⟨rfl, Or.inl rfl, _, rfl⟩) hd hr) hc hs hQ
theorem Go.retN (X : Stand p l e R s m args below meth c T locs cells slots) (hx : p.tables.exec = Jvm.exec) (hlk : meth.locks = false) {pc : Nat} {Ls : Array Slot} {z : Int32} {rest : List Value} {t : FieldType} (hret : meth.sig.returnType = some t) (ht : t = .boolean ∨ t = .byte ∨ t = .char ∨ t = .short) (hd : decode c.code pc = .ok (.ireturn, 1))
    (hc : cells ≤ C) (hs : slots ≤ S) (hQ : Q (some (.int (nar t z))) T.heap locs) : Go p e below (FN s Q C S) T (mkF m pc Ls (.int z :: rest)) :=
  Go.ret X hlk (fun h => by rw [hret] at h; cases h) (fun _ hr => Jvm.RoadKit.retN X hx hret ht hd hr) hc hs hQ
theorem Go.retA (X : Stand p l e R s m args below meth c T locs cells slots) (hx : p.tables.exec = Jvm.exec) (hlk : meth.locks = false) {pc : Nat} {Ls : Array Slot} {w : Value} {rest : List Value} {t : FieldType} (hret : meth.sig.returnType = some t) (ht : t.isReference = true) (hw : w.isRef = true) (hd : decode c.code pc = .ok (.areturn, 1))
    (hc : cells ≤ C) (hs : slots ≤ S) (hQ : Q (some w) T.heap locs) : Go p e below (FN s Q C S) T (mkF m pc Ls (w :: rest)) :=
  Go.ret X hlk (fun h => by rw [hret] at h; cases h) (fun _ hr => retOut X hx hret (by cases t <;> cases w <;> first | rfl | (simp [FieldType.isReference] at ht) | (simp [Value.isRef] at hw)) (Or.inr (Or.inr (Or.inr (Or.inr ⟨rfl, ht, hw⟩)))) hd hr) hc hs hQ
theorem Go.retV (X : Stand p l e R s m args below meth c T locs cells slots) (hx : p.tables.exec = Jvm.exec) (hlk : meth.locks = false) {pc : Nat} {Ls : Array Slot} (hret : meth.sig.returnType = none) (hd : decode c.code pc = .ok (.return_, 1))
    (hc : cells ≤ C) (hs : slots ≤ S) (hQ : Q none T.heap locs) : Go p e below (FN s Q C S) T (mkF m pc Ls []) :=
  Go.ret X hlk (fun _ => rfl) (fun _ hr => X.returnOut hx hret hd hr) hc hs hQ
/-- a body's contract at given arguments and a given heap -/
def Ct (l : Launch) (y : MethodName) (bytes : ByteArray) (maxL : Nat) (ret : Option FieldType) (rm : Room) (Z : State) (h0 : Heap) (as' : Array Value) (Q : Option Value → Heap → List Loc → Prop) : Prop :=
  ∀ ws, MetFree l y (head1 (Jvm.Cond.code y bytes maxL ret :: ws) rm) (fun a U => a = as' ∧ Z.Warmed39 U.vm ∧ U.heap = h0) (fun _ _ _ _ _ => True) (fun _ U o U' => ∃ v L, o = .returned v ∧ Q v U'.heap L ∧ FrameEnd U o U' L rm.cells rm.slots)
theorem Ct.body {y : MethodName} {bytes : ByteArray} {maxL : Nat} {ret : Option FieldType} {rm : Room} {as' : Array Value} (hpl : plainFor y = true)
    (k : ∀ (p : Program) (e : Env) (s : State) (m : MethodId) (below : List Frame) (meth : Method) (c : Code) (T : State), p.tables.exec = Jvm.exec → c.code = bytes → c.maxLocals = maxL → s.vm.findClass y.cls = some m.cls → meth.name = y.name → meth.sig.returnType = ret → meth.locks = false → Z.Warmed39 s.vm →
      Stand p l e rm s m as' below meth c T [] 0 0 → T.heap = h → Go p e below (FN s Q rm.cells rm.slots) T (entryFrame m as' maxL)) : Ct l y bytes maxL ret rm Z h as' Q := fun ws => by
  refine MetFree.of_bodySF hpl hisR ?_
  intro p e s m args below meth c s₁ Bd hml0 hP hK
  obtain ⟨rfl, hZ, hh⟩ := hP
  exact k p e s m below meth c s₁ Bd.exec Bd.bytes hml0 (findClass_of_methodNamed Bd.named) (name_of_methodNamed Bd.named Bd.method).1 Bd.returns Bd.notSynchronized hZ (Stand.of_body Bd) (by rw [← hh, Bd.state]; rfl)
theorem Go.callS (X : Stand p l e R s m args below meth c T locs cells slots) (hx : p.tables.exec = Jvm.exec) (hZ : Z.Warmed39 s.vm) {own : String} {index : Nat} {y : MethodName} {bytes : ByteArray} {maxL : Nat} {ret : Option FieldType} (hown : s.vm.findClass own = some m.cls)
    (wl : (Jvm.Cond.methodLink own index y).before a0 Z = true) (wst : (Jvm.Cond.static y).before a0 Z = true) (wz : (Jvm.Cond.initialized y.cls).before a0 Z = true) (wc : (Jvm.Cond.code y bytes maxL ret).before a0 Z = true) (hy : y.cls ≠ "java/lang/invoke/MethodHandle" ∧ y.cls ≠ "java/lang/invoke/VarHandle")
    (eT : T.heap = h) {rm : Room} {argsL rest : List Value} {Q' : Option Value → Heap → List Loc → Prop} (hC : Ct l y bytes maxL ret rm Z h argsL.toArray Q') {pc : Nat} {Ls : Array Slot} {st : List Value} (hsz : Ls.size = c.maxLocals)
    (hlen : ∀ sig, parseMethodDescriptor y.desc = some sig → argsL.length = sig.parameters.length) (hst : st = argsL.reverse ++ rest) (hd : decode c.code pc = .ok (.invokestatic index, 3)) (hf : rm.frames + 1 ≤ R.frames) (hl : (rest.map fun v => v.category).sum + (maxL + 11) + rm.locals ≤ R.locals) (hc : cells + rm.cells ≤ R.cells) (hs : slots + rm.slots ≤ R.slots)
    (k : ∀ v T' L, Q' v T'.heap L → Stand p l e R s m args below meth c T' (locs ++ L) (cells + rm.cells) (slots + rm.slots) → Go p e below F T' (mkF m (pc + 3) Ls (v.toList ++ rest))) :
    Go p e below F T (mkF m pc Ls st) := by
  obtain ⟨v, _, ⟨T', L', k', n'⟩, -, X', ⟨L, hQ, l1, y1, z1⟩, stp⟩ := Jvm.LawKit.callS X hx (y := y) hown (mvT hZ wl) (mvT hZ wst) (mvT hZ wz) (mvT hZ wc) hy (backOf (W := (rest.map fun v => v.category).sum) (hC []) hZ wc wz hf hl) (g := mkF m pc Ls st) rfl hsz (argsL := argsL) (rest := rest) hlen hst (by show 2 * 0 + _ ≤ _; exact Nat.le_of_eq (Nat.zero_add _)) hd (fun _ _ => ⟨rfl, eT, hc, hs⟩)
  dsimp only [Pt.U, Pt.locs, Pt.cells, Pt.slots] at X' l1 y1 z1 stp hQ
  subst l1 y1 z1
  exact Go.of stp (k _ _ _ hQ X')
theorem Go.callV (X : Stand p l e R s m args below meth c T locs cells slots) (hx : p.tables.exec = Jvm.exec) (hZ : Z.Warmed39 s.vm) {own K : String} {index : Nat} {y z : MethodName} {bytes : ByteArray} {maxL : Nat} {ret : Option FieldType} (hown : s.vm.findClass own = some m.cls)
    (wl : (Jvm.Cond.methodLink own index y).before a0 Z = true) (wd : (Jvm.Cond.declares y).before a0 Z = true) (nf : NotFace s y) (wsel : (Jvm.Cond.selects K y z).before a0 Z = true) (wim : (Jvm.Cond.instanceMethod z).before a0 Z = true) (wc : (Jvm.Cond.code z bytes maxL ret).before a0 Z = true) (wz : (Jvm.Cond.initialized z.cls).before a0 Z = true) (hy : y.cls ≠ "java/lang/invoke/MethodHandle" ∧ y.cls ≠ "java/lang/invoke/VarHandle")
    (eT : T.heap = h) {b : Addr} (E : Exa Z h b K) {rm : Room} {argsL rest : List Value} {Q' : Option Value → Heap → List Loc → Prop} (hC : Ct l z bytes maxL ret rm Z h (.ref b :: argsL).toArray Q') {pc : Nat} {Ls : Array Slot} {st : List Value} (hsz : Ls.size = c.maxLocals)
    (hlen : ∀ sig, parseMethodDescriptor y.desc = some sig → argsL.length = sig.parameters.length) (hst : st = argsL.reverse ++ .ref b :: rest) (hd : decode c.code pc = .ok (.invokevirtual index, 3)) (hf : rm.frames + 1 ≤ R.frames) (hl : (rest.map fun v => v.category).sum + (maxL + 11) + rm.locals ≤ R.locals) (hc : cells + rm.cells ≤ R.cells) (hs : slots + rm.slots ≤ R.slots)
    (k : ∀ v T' L, Q' v T'.heap L → Stand p l e R s m args below meth c T' (locs ++ L) (cells + rm.cells) (slots + rm.slots) → Go p e below F T' (mkF m (pc + 3) Ls (v.toList ++ rest))) :
    Go p e below F T (mkF m pc Ls st) := by
  obtain ⟨cq, kq, qa, qb, qc⟩ := isOf hZ eT E
  obtain ⟨v, _, ⟨T', L', k', n'⟩, -, X', ⟨L, hQ, l1, y1, z1⟩, stp⟩ := X.virtualBack hx (y := y) (z := z) hown (mvT hZ wl) (mvT hZ wd) nf (mvT hZ wsel) (mvT hZ wim) hy (backOf (W := (rest.map fun v => v.category).sum) (hC []) hZ wc wz hf hl) qa qc (g := mkF m pc Ls st) rfl hsz (Steps.refl _) (argsL := argsL) (rest := rest) hlen hst (by show 2 * 0 + _ ≤ _; exact Nat.le_of_eq (Nat.zero_add _)) hd (fun _ _ => ⟨rfl, eT, hc, hs⟩)
  dsimp only [Pt.U, Pt.locs, Pt.cells, Pt.slots] at X' l1 y1 z1 stp hQ
  subst l1 y1 z1
  exact Go.of (fun t q => stp.trans q) (k _ _ _ hQ X')
theorem Go.callC (X : Stand p l e R s m args below meth c T locs cells slots) (hx : p.tables.exec = Jvm.exec) (hZ : Z.Warmed39 s.vm) {own : String} {index : Nat} {y : MethodName} {bytes : ByteArray} {maxL : Nat} (hy1 : y.name = "<init>") (hown : s.vm.findClass own = some m.cls)
    (wl : (Jvm.Cond.methodLink own index y).before a0 Z = true) (wim : (Jvm.Cond.instanceMethod y).before a0 Z = true) (wc : (Jvm.Cond.code y bytes maxL none).before a0 Z = true) (wz : (Jvm.Cond.initialized y.cls).before a0 Z = true) (hy : y.cls ≠ "java/lang/invoke/MethodHandle" ∧ y.cls ≠ "java/lang/invoke/VarHandle")
    (eT : T.heap = h) {b : Addr} {rm : Room} {argsL rest : List Value} {Q' : Option Value → Heap → List Loc → Prop} (hC : Ct l y bytes maxL none rm Z h (.ref b :: argsL).toArray Q') {pc : Nat} {Ls : Array Slot} {st : List Value} (hsz : Ls.size = c.maxLocals)
    (hlen : ∀ sig, parseMethodDescriptor y.desc = some sig → argsL.length = sig.parameters.length) (hst : st = argsL.reverse ++ .ref b :: rest) (hd : decode c.code pc = .ok (.invokespecial index, 3)) (hf : rm.frames + 1 ≤ R.frames) (hl : (rest.map fun v => v.category).sum + (maxL + 11) + rm.locals ≤ R.locals) (hc : cells + rm.cells ≤ R.cells) (hs : slots + rm.slots ≤ R.slots)
    (k : ∀ v T' L, Q' v T'.heap L → Stand p l e R s m args below meth c T' (locs ++ L) (cells + rm.cells) (slots + rm.slots) → Go p e below F T' (mkF m (pc + 3) Ls (v.toList ++ rest))) :
    Go p e below F T (mkF m pc Ls st) := by
  obtain ⟨v, _, ⟨T', L', k', n'⟩, -, X', ⟨L, hQ, l1, y1, z1⟩, stp⟩ := X.specialBack hx (y := y) hy1 hown (mvT hZ wl) (mvT hZ wim) (mvT hZ wc) hy (backOf (W := (rest.map fun v => v.category).sum) (hC []) hZ wc wz hf hl) (g := mkF m pc Ls st) rfl hsz (Steps.refl _) (a := b) (argsL := argsL) (rest := rest) hlen hst (by show 2 * 0 + _ ≤ _; exact Nat.le_of_eq (Nat.zero_add _)) hd (fun _ _ => ⟨rfl, eT, hc, hs⟩)
  dsimp only [Pt.U, Pt.locs, Pt.cells, Pt.slots] at X' l1 y1 z1 stp hQ
  subst l1 y1 z1
  exact Go.of (fun t q => stp.trans q) (k _ _ _ hQ X')
theorem Go.getF (X : Stand p l e R s m args below meth c T locs cells slots) (hx : p.tables.exec = Jvm.exec) (hZ : Z.Warmed39 s.vm) {own R0 O n d : String} {index : Nat} (hown : s.vm.findClass own = some m.cls) (w : (Jvm.Cond.fieldLink own index R0 n d).before a0 Z = true) (via : Via Z R0 O n d)
    (eT : T.heap = h) {a : Addr} {v : Value} (fF : Fld Z h a O n d v) {pc : Nat} {Ls : Array Slot} {rest : List Value} (hd : decode c.code pc = .ok (.getfield index, 3))
    (k : ∀ T', Stand p l e R s m args below meth c T' locs cells slots → T'.heap = h → Go p e below F T' (mkF m (pc + 3) Ls (v :: rest))) : Go p e below F T (mkF m pc Ls (.ref a :: rest)) := by
  obtain ⟨T', X', e', st⟩ := Jvm.RoadKit.getF X hx hZ hown (host := "") (Or.inl w) via eT fF (g := mkF m pc Ls (.ref a :: rest)) rfl rfl hd
  exact Go.of st (k _ X' e')
theorem Go.getS (X : Stand p l e R s m args below meth c T locs cells slots) (hx : p.tables.exec = Jvm.exec) (hZ : Z.Warmed39 s.vm) {own R0 O n d : String} {index : Nat} (hown : s.vm.findClass own = some m.cls) (w : (Jvm.Cond.fieldLink own index R0 n d).before a0 Z = true) (via : Via Z R0 O n d)
    (eT : T.heap = h) {v : Value} (fF : Sta Z h O n d v) {pc : Nat} {Ls : Array Slot} {rest : List Value} (hd : decode c.code pc = .ok (.getstatic index, 3))
    (k : ∀ T', Stand p l e R s m args below meth c T' locs cells slots → T'.heap = h → Go p e below F T' (mkF m (pc + 3) Ls (v :: rest))) : Go p e below F T (mkF m pc Ls rest) := by
  obtain ⟨T', X', e', st⟩ := getS2 X hx hZ hown (host := "") (Or.inl w) via eT fF (g := mkF m pc Ls rest) rfl hd
  exact Go.of st (k _ X' e')
theorem Go.putF (X : Stand p l e R s m args below meth c T locs cells slots) (hx : p.tables.exec = Jvm.exec) (hZ : Z.Warmed39 s.vm) {own R0 O n d K : String} {index kk : Nat} {ty : FieldType} (hown : s.vm.findClass own = some m.cls) (w : (Jvm.Cond.fieldLink own index R0 n d).before a0 Z = true) (via : Via Z R0 O n d)
    (eT : T.heap = h) {a : Addr} {v old : Value} (fF : Fld Z h a O n d old) (E : Exa Z h a K) (L : (Jvm.Cond.lays K O n d).before a0 Z = true ∨ ((Jvm.Cond.laysFinal K O n d).before a0 Z = true ∧ own = O ∧ meth.name = "<init>")) (wi : (Jvm.Cond.instantiable K kk).before a0 Z = true)
    (hty : parseFieldDescriptor d = some ty) (hn : narrow ty v = v) (hf : fits ty v = true) {pc : Nat} {Ls : Array Slot} {rest : List Value} (hd : decode c.code pc = .ok (.putfield index, 3))
    (k : ∀ T' h', Stand p l e R s m args below meth c T' (locs ++ [⟨a, Jvm.RoadKit.slotOf Z O n d⟩]) cells slots → T'.heap = h' → Wr h h' a (Jvm.RoadKit.slotOf Z O n d) v → Go p e below F T' (mkF m (pc + 3) Ls rest)) : Go p e below F T (mkF m pc Ls (v :: .ref a :: rest)) := by
  obtain ⟨T', h', X', e', W', st⟩ := Jvm.RoadKit.putF X hx hZ hown (host := "") (Or.inl w) via eT fF E L wi hty hn hf (g := mkF m pc Ls (v :: .ref a :: rest)) rfl rfl hd
  exact Go.of st (k _ _ X' e' W')
theorem Go.newO (X : Stand p l e R s m args below meth c T locs cells slots) (hx : p.tables.exec = Jvm.exec) (hZ : Z.Warmed39 s.vm) {own K : String} {index n : Nat} (hown : s.vm.findClass own = some m.cls) (w : (Jvm.Cond.classLink own index K).before a0 Z = true) (wi : (Jvm.Cond.instantiable K n).before a0 Z = true) (wz : (Jvm.Cond.initialized K).before a0 Z = true) (eT : T.heap = h)
    {pc : Nat} {Ls : Array Slot} {rest : List Value} (hd : decode c.code pc = .ok (.new index, 3)) (hc : cells + 1 ≤ R.cells) (hl : slots + n ≤ R.slots)
    (k : ∀ T' h' a, a = h.size → Stand p l e R s m args below meth c T' locs (cells + 1) (slots + n) → T'.heap = h' → Ext h h' → Exa Z h' a K → (∀ {O nm d : String} {ty : FieldType}, Laid Z a0 K O nm d → parseFieldDescriptor d = some ty → Fld Z h' a O nm d (defaultValue ty)) → Go p e below F T' (mkF m (pc + 3) Ls (.ref a :: rest))) : Go p e below F T (mkF m pc Ls rest) := by
  obtain ⟨T', h', X', e', E', A', D', -, st⟩ := Jvm.RoadKit.newO X hx hZ hown w wi wz eT (g := mkF m pc Ls rest) rfl hd hc hl
  exact Go.of st (k _ _ _ rfl X' e' E' A' D')
theorem Go.initO (X : Stand p l e R s m args below meth c T locs cells slots) (hx : p.tables.exec = Jvm.exec) (hZ : Z.Warmed39 s.vm) {own : String} {idx : Nat} (hown : s.vm.findClass own = some m.cls) (w1 : (Jvm.Cond.methodLink own idx Lib.objectInit).before a0 Z = true) (w2 : (Jvm.Cond.instanceMethod Lib.objectInit).before a0 Z = true)
    (w3 : (Jvm.Cond.code Lib.objectInit ⟨#[0xb1]⟩ 1 none).before a0 Z = true) (eT : T.heap = h) {a : Addr} {pc : Nat} {Ls : Array Slot} {rest : List Value} (hsz : Ls.size = c.maxLocals) (hd : decode c.code pc = .ok (.invokespecial idx, 3)) (hf : 1 ≤ R.frames) (hl : (rest.map fun v => v.category).sum + 12 ≤ R.locals)
    (k : ∀ T', Stand p l e R s m args below meth c T' locs cells slots → T'.heap = h → Go p e below F T' (mkF m (pc + 3) Ls rest)) : Go p e below F T (mkF m pc Ls (.ref a :: rest)) := by
  obtain ⟨T', X', e', st⟩ := Jvm.RoadKit.initO X hx hZ hown w1 w2 w3 eT (g := mkF m pc Ls (.ref a :: rest)) rfl hsz rfl hd hf (W := (rest.map fun v => v.category).sum) (by show 2 * 0 + _ ≤ _; exact Nat.le_of_eq (Nat.zero_add _)) hl
  exact Go.of st (k _ X' e')
end OwnKit
section OwnSteps
variable {p : Program} {l : Launch} {e : Env} {R : Room} {s : State} {m : MethodId} {args : Array Value} {below : List Frame} {meth : Method} {c : Code} {T : State} {locs : List Loc} {cells slots : Nat} {Z : State} {a0 : Array Value} {h : Heap} {F : State → Outcome → Prop}
theorem w_ {Z : State} {a0 : Array Value} {ts : List Jvm.Cond} (hw : ∀ d ∈ ts, d.before a0 Z = true) {d : Jvm.Cond} (i : Nat) (h : ts[i]? = some d) : d.before a0 Z = true := hw _ (List.mem_of_getElem? h)
theorem Go.s_iloadN (X : Stand p l e R s m args below meth c T locs cells slots) (hx : p.tables.exec = Jvm.exec) {pc q : Nat} {Ls : Array Slot} {st : List Value} {k : Fin 4} {v : Int32} (hd : decode c.code pc = .ok (.iload_n k, 1)) (hq : pc + 1 = q) (hl : Ls[k.val]? = some (.val (.int v))) (K : Go p e below F T (mkF m q Ls (.int v :: st))) : Go p e below F T (mkF m pc Ls (st)) := by
  subst hq
  exact Go.of (fun t k => XS.iloadN X.here hx rfl hd hl k) K
theorem Go.s_iload (X : Stand p l e R s m args below meth c T locs cells slots) (hx : p.tables.exec = Jvm.exec) {pc q : Nat} {Ls : Array Slot} {st : List Value} {k : Nat} {v : Int32} (hd : decode c.code pc = .ok (.iload k, 2)) (hq : pc + 2 = q) (hl : Ls[k]? = some (.val (.int v))) (K : Go p e below F T (mkF m q Ls (.int v :: st))) : Go p e below F T (mkF m pc Ls (st)) := by
  subst hq
  exact Go.of (fun t k => XS.iload X.here hx rfl hd hl k) K
theorem Go.s_aloadN (X : Stand p l e R s m args below meth c T locs cells slots) (hx : p.tables.exec = Jvm.exec) {pc q : Nat} {Ls : Array Slot} {st : List Value} {k : Fin 4} {v : Value} (hd : decode c.code pc = .ok (.aload_n k, 1)) (hq : pc + 1 = q) (hl : Ls[k.val]? = some (.val v)) (hv : v.isRef = true) (K : Go p e below F T (mkF m q Ls (v :: st))) : Go p e below F T (mkF m pc Ls (st)) := by
  subst hq
  exact Go.of (fun t k => XS.aloadN X.here hx rfl hd hl hv k) K
theorem Go.s_aload (X : Stand p l e R s m args below meth c T locs cells slots) (hx : p.tables.exec = Jvm.exec) {pc q : Nat} {Ls : Array Slot} {st : List Value} {k : Nat} {v : Value} (hd : decode c.code pc = .ok (.aload k, 2)) (hq : pc + 2 = q) (hl : Ls[k]? = some (.val v)) (hv : v.isRef = true) (K : Go p e below F T (mkF m q Ls (v :: st))) : Go p e below F T (mkF m pc Ls (st)) := by
  subst hq
  exact Go.of (fun t k => XS.aload X.here hx rfl hd hl hv k) K
theorem Go.s_istoreN (X : Stand p l e R s m args below meth c T locs cells slots) (hx : p.tables.exec = Jvm.exec) {pc q : Nat} {Ls : Array Slot} {st : List Value} {k : Fin 4} {x : Int32} {l' : Array Slot} (hd : decode c.code pc = .ok (.istore_n k, 1)) (hq : pc + 1 = q) (hl : storeLocals Ls k.val (.int x) = some l') (K : Go p e below F T (mkF m q l' (st))) : Go p e below F T (mkF m pc Ls (.int x :: st)) := by
  subst hq
  exact Go.of (fun t k => XS.istoreN X.here hx rfl hd rfl hl k) K
theorem Go.s_istore (X : Stand p l e R s m args below meth c T locs cells slots) (hx : p.tables.exec = Jvm.exec) {pc q : Nat} {Ls : Array Slot} {st : List Value} {k : Nat} {x : Int32} {l' : Array Slot} (hd : decode c.code pc = .ok (.istore k, 2)) (hq : pc + 2 = q) (hl : storeLocals Ls k (.int x) = some l') (K : Go p e below F T (mkF m q l' (st))) : Go p e below F T (mkF m pc Ls (.int x :: st)) := by
  subst hq
  exact Go.of (fun t k => XS.istore X.here hx rfl hd rfl hl k) K
theorem Go.s_astoreN (X : Stand p l e R s m args below meth c T locs cells slots) (hx : p.tables.exec = Jvm.exec) {pc q : Nat} {Ls : Array Slot} {st : List Value} {k : Fin 4} {x : Value} {l' : Array Slot} (hd : decode c.code pc = .ok (.astore_n k, 1)) (hq : pc + 1 = q) (hv : x.isRef = true) (hl : storeLocals Ls k.val x = some l') (K : Go p e below F T (mkF m q l' (st))) : Go p e below F T (mkF m pc Ls (x :: st)) := by
  subst hq
  exact Go.of (fun t k => XS.astoreN X.here hx rfl hd rfl hv hl k) K
theorem Go.s_astore (X : Stand p l e R s m args below meth c T locs cells slots) (hx : p.tables.exec = Jvm.exec) {pc q : Nat} {Ls : Array Slot} {st : List Value} {k : Nat} {x : Value} {l' : Array Slot} (hd : decode c.code pc = .ok (.astore k, 2)) (hq : pc + 2 = q) (hv : x.isRef = true) (hl : storeLocals Ls k x = some l') (K : Go p e below F T (mkF m q l' (st))) : Go p e below F T (mkF m pc Ls (x :: st)) := by
  subst hq
  exact Go.of (fun t k => XS.astore X.here hx rfl hd rfl hv hl k) K
theorem Go.s_istoreS (X : Stand p l e R s m args below meth c T locs cells slots) (hx : p.tables.exec = Jvm.exec) {pc q : Nat} {Ls : Array Slot} {st : List Value} {k : Nat} {x : Int32} {o : Slot} {l' : Array Slot} (hd : decode c.code pc = .ok (.istore k, 2)) (hq : pc + 2 = q) (hold : Ls[k]? = some o) (ho : o = .unset ∨ ∃ w, o = .val w ∧ w.category = 1) (hl : Ls.setIfInBounds k (.val (.int x)) = l') (K : Go p e below F T (mkF m q l' (st))) : Go p e below F T (mkF m pc Ls (.int x :: st)) := by
  subst hq
  exact Go.of (fun t k => XS.istoreS X.here hx rfl hd rfl hold ho (hl ▸ k)) K
theorem Go.s_istoreNS (X : Stand p l e R s m args below meth c T locs cells slots) (hx : p.tables.exec = Jvm.exec) {pc q : Nat} {Ls : Array Slot} {st : List Value} {k : Fin 4} {x : Int32} {o : Slot} {l' : Array Slot} (hd : decode c.code pc = .ok (.istore_n k, 1)) (hq : pc + 1 = q) (hold : Ls[k.val]? = some o) (ho : o = .unset ∨ ∃ w, o = .val w ∧ w.category = 1) (hl : Ls.setIfInBounds k.val (.val (.int x)) = l') (K : Go p e below F T (mkF m q l' (st))) : Go p e below F T (mkF m pc Ls (.int x :: st)) := by
  subst hq
  exact Go.of (fun t k => XS.istoreNS X.here hx rfl hd rfl hold ho (hl ▸ k)) K
theorem Go.s_iconst (X : Stand p l e R s m args below meth c T locs cells slots) (hx : p.tables.exec = Jvm.exec) {pc q : Nat} {Ls : Array Slot} {st : List Value} {i : Int} {z : Int32} (hd : decode c.code pc = .ok (.iconst i, 1)) (hq : pc + 1 = q) (hz : Int32.ofInt i = z) (K : Go p e below F T (mkF m q Ls (.int z :: st))) : Go p e below F T (mkF m pc Ls (st)) := by
  subst hq
  exact Go.of (fun t k => XS.iconst X.here hx rfl hd (hz ▸ k)) K
theorem Go.s_bipush (X : Stand p l e R s m args below meth c T locs cells slots) (hx : p.tables.exec = Jvm.exec) {pc q : Nat} {Ls : Array Slot} {st : List Value} {i : Int} {z : Int32} (hd : decode c.code pc = .ok (.bipush i, 2)) (hq : pc + 2 = q) (hz : (Int8.ofInt i).toInt32 = z) (K : Go p e below F T (mkF m q Ls (.int z :: st))) : Go p e below F T (mkF m pc Ls (st)) := by
  subst hq
  exact Go.of (fun t k => XS.bipush X.here hx rfl hd (hz ▸ k)) K
theorem Go.s_sipush (X : Stand p l e R s m args below meth c T locs cells slots) (hx : p.tables.exec = Jvm.exec) {pc q : Nat} {Ls : Array Slot} {st : List Value} {i : Int} {z : Int32} (hd : decode c.code pc = .ok (.sipush i, 3)) (hq : pc + 3 = q) (hz : (Int16.ofInt i).toInt32 = z) (K : Go p e below F T (mkF m q Ls (.int z :: st))) : Go p e below F T (mkF m pc Ls (st)) := by
  subst hq
  exact Go.of (fun t k => XS.sipush X.here hx rfl hd (hz ▸ k)) K
theorem Go.s_aconst_null (X : Stand p l e R s m args below meth c T locs cells slots) (hx : p.tables.exec = Jvm.exec) {pc q : Nat} {Ls : Array Slot} {st : List Value}  (hd : decode c.code pc = .ok (.aconst_null, 1)) (hq : pc + 1 = q)  (K : Go p e below F T (mkF m q Ls (.null :: st))) : Go p e below F T (mkF m pc Ls (st)) := by
  subst hq
  exact Go.of (fun t k => XS.aconstNull X.here hx rfl hd k) K
theorem Go.s_iadd (X : Stand p l e R s m args below meth c T locs cells slots) (hx : p.tables.exec = Jvm.exec) {pc q : Nat} {Ls : Array Slot} {st : List Value} {x y : Int32} (hd : decode c.code pc = .ok (.iadd, 1)) (hq : pc + 1 = q)  (K : Go p e below F T (mkF m q Ls (.int (x + y) :: st))) : Go p e below F T (mkF m pc Ls (.int y :: .int x :: st)) := by
  subst hq
  exact Go.of (fun t k => XS.iadd X.here hx rfl hd rfl k) K
theorem Go.s_isub (X : Stand p l e R s m args below meth c T locs cells slots) (hx : p.tables.exec = Jvm.exec) {pc q : Nat} {Ls : Array Slot} {st : List Value} {x y : Int32} (hd : decode c.code pc = .ok (.isub, 1)) (hq : pc + 1 = q)  (K : Go p e below F T (mkF m q Ls (.int (x - y) :: st))) : Go p e below F T (mkF m pc Ls (.int y :: .int x :: st)) := by
  subst hq
  exact Go.of (fun t k => XS.isub X.here hx rfl hd rfl k) K
theorem Go.s_imul (X : Stand p l e R s m args below meth c T locs cells slots) (hx : p.tables.exec = Jvm.exec) {pc q : Nat} {Ls : Array Slot} {st : List Value} {x y : Int32} (hd : decode c.code pc = .ok (.imul, 1)) (hq : pc + 1 = q)  (K : Go p e below F T (mkF m q Ls (.int (x * y) :: st))) : Go p e below F T (mkF m pc Ls (.int y :: .int x :: st)) := by
  subst hq
  exact Go.of (fun t k => XS.imul X.here hx rfl hd rfl k) K
theorem Go.s_iand (X : Stand p l e R s m args below meth c T locs cells slots) (hx : p.tables.exec = Jvm.exec) {pc q : Nat} {Ls : Array Slot} {st : List Value} {x y : Int32} (hd : decode c.code pc = .ok (.iand, 1)) (hq : pc + 1 = q)  (K : Go p e below F T (mkF m q Ls (.int (x &&& y) :: st))) : Go p e below F T (mkF m pc Ls (.int y :: .int x :: st)) := by
  subst hq
  exact Go.of (fun t k => XS.iand X.here hx rfl hd rfl k) K
theorem Go.s_ishl (X : Stand p l e R s m args below meth c T locs cells slots) (hx : p.tables.exec = Jvm.exec) {pc q : Nat} {Ls : Array Slot} {st : List Value} {x y : Int32} (hd : decode c.code pc = .ok (.ishl, 1)) (hq : pc + 1 = q)  (K : Go p e below F T (mkF m q Ls (.int (x <<< (y &&& 31)) :: st))) : Go p e below F T (mkF m pc Ls (.int y :: .int x :: st)) := by
  subst hq
  exact Go.of (fun t k => XS.ishl X.here hx rfl hd rfl k) K
theorem Go.s_ishr (X : Stand p l e R s m args below meth c T locs cells slots) (hx : p.tables.exec = Jvm.exec) {pc q : Nat} {Ls : Array Slot} {st : List Value} {x y : Int32} (hd : decode c.code pc = .ok (.ishr, 1)) (hq : pc + 1 = q)  (K : Go p e below F T (mkF m q Ls (.int (x >>> (y &&& 31)) :: st))) : Go p e below F T (mkF m pc Ls (.int y :: .int x :: st)) := by
  subst hq
  exact Go.of (fun t k => XS.ishr X.here hx rfl hd rfl k) K
theorem Go.s_ineg (X : Stand p l e R s m args below meth c T locs cells slots) (hx : p.tables.exec = Jvm.exec) {pc q : Nat} {Ls : Array Slot} {st : List Value} {x : Int32} (hd : decode c.code pc = .ok (.ineg, 1)) (hq : pc + 1 = q)  (K : Go p e below F T (mkF m q Ls (.int (-x) :: st))) : Go p e below F T (mkF m pc Ls (.int x :: st)) := by
  subst hq
  exact Go.of (fun t k => XS.ineg X.here hx rfl hd rfl k) K
theorem Go.s_i2c (X : Stand p l e R s m args below meth c T locs cells slots) (hx : p.tables.exec = Jvm.exec) {pc q : Nat} {Ls : Array Slot} {st : List Value} {x : Int32} (hd : decode c.code pc = .ok (.i2c, 1)) (hq : pc + 1 = q)  (K : Go p e below F T (mkF m q Ls (.int (x.toUInt32.toUInt16.toUInt32.toInt32) :: st))) : Go p e below F T (mkF m pc Ls (.int x :: st)) := by
  subst hq
  exact Go.of (fun t k => XS.i2c X.here hx rfl hd rfl k) K
theorem Go.s_idiv (X : Stand p l e R s m args below meth c T locs cells slots) (hx : p.tables.exec = Jvm.exec) {pc q : Nat} {Ls : Array Slot} {st : List Value} {x y : Int32} (hd : decode c.code pc = .ok (.idiv, 1)) (hq : pc + 1 = q) (hy : y ≠ 0) (K : Go p e below F T (mkF m q Ls (.int (x / y) :: st))) : Go p e below F T (mkF m pc Ls (.int y :: .int x :: st)) := by
  subst hq
  exact Go.of (fun t k => XS.idiv X.here hx rfl hd rfl hy k) K
theorem Go.s_irem (X : Stand p l e R s m args below meth c T locs cells slots) (hx : p.tables.exec = Jvm.exec) {pc q : Nat} {Ls : Array Slot} {st : List Value} {x y : Int32} (hd : decode c.code pc = .ok (.irem, 1)) (hq : pc + 1 = q) (hy : y ≠ 0) (K : Go p e below F T (mkF m q Ls (.int (x % y) :: st))) : Go p e below F T (mkF m pc Ls (.int y :: .int x :: st)) := by
  subst hq
  exact Go.of (fun t k => iremM X hx rfl hd rfl hy k) K
theorem Go.s_iinc (X : Stand p l e R s m args below meth c T locs cells slots) (hx : p.tables.exec = Jvm.exec) {pc q : Nat} {Ls : Array Slot} {st : List Value} {k : Nat} {cst : Int} {x : Int32} {l' : Array Slot} (hd : decode c.code pc = .ok (.iinc k cst, 3)) (hq : pc + 3 = q) (hl : Ls[k]? = some (.val (.int x))) (hl' : storeLocals Ls k (.int (x + Int32.ofInt cst)) = some l') (K : Go p e below F T (mkF m q l' (st))) : Go p e below F T (mkF m pc Ls (st)) := by
  subst hq
  exact Go.of (fun t k => XS.iinc X.here hx rfl hd hl hl' k) K
theorem Go.s_dup (X : Stand p l e R s m args below meth c T locs cells slots) (hx : p.tables.exec = Jvm.exec) {pc q : Nat} {Ls : Array Slot} {st : List Value} {x : Value} (hd : decode c.code pc = .ok (.dup, 1)) (hq : pc + 1 = q) (hc : x.category = 1) (K : Go p e below F T (mkF m q Ls (x :: x :: st))) : Go p e below F T (mkF m pc Ls (x :: st)) := by
  subst hq
  exact Go.of (fun t k => XS.dup X.here hx rfl hd rfl hc k) K
theorem Go.s_pop (X : Stand p l e R s m args below meth c T locs cells slots) (hx : p.tables.exec = Jvm.exec) {pc q : Nat} {Ls : Array Slot} {st : List Value} {x : Value} (hd : decode c.code pc = .ok (.pop, 1)) (hq : pc + 1 = q) (hc : x.category = 1) (K : Go p e below F T (mkF m q Ls (st))) : Go p e below F T (mkF m pc Ls (x :: st)) := by
  subst hq
  exact Go.of (fun t k => XS.pop X.here hx rfl hd rfl hc k) K
theorem Go.s_goto (X : Stand p l e R s m args below meth c T locs cells slots) (hx : p.tables.exec = Jvm.exec) {pc q : Nat} {Ls : Array Slot} {st : List Value}  {o : Int} (hd : decode c.code pc = .ok (.goto o, 3)) (ho : 0 ≤ (pc : Int) + o) (hp : ((pc : Int) + o).toNat = q)  (K : Go p e below F T (mkF m q Ls st)) : Go p e below F T (mkF m pc Ls (st)) :=
  Go.of (fun t k => XS.goto X.here hx rfl rfl hd ho hp k) K
theorem Go.s_ifYes (X : Stand p l e R s m args below meth c T locs cells slots) (hx : p.tables.exec = Jvm.exec) {pc q : Nat} {Ls : Array Slot} {st : List Value} {cd : ClassFile.Cond} {x : Int32} {o : Int} (hd : decode c.code pc = .ok (.ifCond cd o, 3)) (ho : 0 ≤ (pc : Int) + o) (hp : ((pc : Int) + o).toNat = q) (hc : ifCond.holds cd x = true) (K : Go p e below F T (mkF m q Ls st)) : Go p e below F T (mkF m pc Ls (.int x :: st)) :=
  Go.of (fun t k => XS.ifYes X.here hx rfl rfl hd rfl hc ho hp k) K
theorem Go.s_icmpYes (X : Stand p l e R s m args below meth c T locs cells slots) (hx : p.tables.exec = Jvm.exec) {pc q : Nat} {Ls : Array Slot} {st : List Value} {cd : ClassFile.Cond} {x y : Int32} {o : Int} (hd : decode c.code pc = .ok (.if_icmp cd o, 3)) (ho : 0 ≤ (pc : Int) + o) (hp : ((pc : Int) + o).toNat = q) (hc : if_icmp.holds cd x y = true) (K : Go p e below F T (mkF m q Ls st)) : Go p e below F T (mkF m pc Ls (.int y :: .int x :: st)) :=
  Go.of (fun t k => XS.icmpYes X.here hx rfl rfl hd rfl hc ho hp k) K
theorem Go.s_ifNo (X : Stand p l e R s m args below meth c T locs cells slots) (hx : p.tables.exec = Jvm.exec) {pc q : Nat} {Ls : Array Slot} {st : List Value} {cd : ClassFile.Cond} {o : Int} {x : Int32} (hd : decode c.code pc = .ok (.ifCond cd o, 3)) (hq : pc + 3 = q) (hc : ifCond.holds cd x = false) (K : Go p e below F T (mkF m q Ls (st))) : Go p e below F T (mkF m pc Ls (.int x :: st)) := by
  subst hq
  exact Go.of (fun t k => XS.ifNo X.here hx rfl hd rfl hc k) K
theorem Go.s_icmpNo (X : Stand p l e R s m args below meth c T locs cells slots) (hx : p.tables.exec = Jvm.exec) {pc q : Nat} {Ls : Array Slot} {st : List Value} {cd : ClassFile.Cond} {o : Int} {x y : Int32} (hd : decode c.code pc = .ok (.if_icmp cd o, 3)) (hq : pc + 3 = q) (hc : if_icmp.holds cd x y = false) (K : Go p e below F T (mkF m q Ls (st))) : Go p e below F T (mkF m pc Ls (.int y :: .int x :: st)) := by
  subst hq
  exact Go.of (fun t k => XS.icmpNo X.here hx rfl hd rfl hc k) K
theorem Go.s_ifnullNo (X : Stand p l e R s m args below meth c T locs cells slots) (hx : p.tables.exec = Jvm.exec) {pc q : Nat} {Ls : Array Slot} {st : List Value} {o : Int} {b : Addr} (hd : decode c.code pc = .ok (.ifnull o, 3)) (hq : pc + 3 = q)  (K : Go p e below F T (mkF m q Ls (st))) : Go p e below F T (mkF m pc Ls (.ref b :: st)) := by
  subst hq
  exact Go.of (fun t k => XS.ifnullNo X.here hx rfl hd rfl k) K
theorem Go.s_ifnonnullYes (X : Stand p l e R s m args below meth c T locs cells slots) (hx : p.tables.exec = Jvm.exec) {pc q : Nat} {Ls : Array Slot} {st : List Value} {b : Addr} {o : Int} (hd : decode c.code pc = .ok (.ifnonnull o, 3)) (ho : 0 ≤ (pc : Int) + o) (hp : ((pc : Int) + o).toNat = q)  (K : Go p e below F T (mkF m q Ls st)) : Go p e below F T (mkF m pc Ls (.ref b :: st)) :=
  Go.of (fun t k => XS.ifnonnullYes X.here hx rfl rfl hd rfl ho hp k) K
theorem Go.s_ldc (X : Stand p l e R s m args below meth c T locs cells slots) (hx : p.tables.exec = Jvm.exec) {pc q : Nat} {Ls : Array Slot} {st : List Value} {own : String} {index : Nat} {v : Int32} (hd : decode c.code pc = .ok (.ldc index, 2)) (hq : pc + 2 = q) (hown : s.vm.findClass own = some m.cls) (w : (Jvm.Cond.constant own index v).before args s = true) (K : Go p e below F T (mkF m q Ls (.int v :: st))) : Go p e below F T (mkF m pc Ls st) := by
  subst hq
  exact Go.of (X.ldcInt hx hown w (g := mkF m pc Ls st) rfl hd) K
end OwnSteps
section OwnArr
variable {p : Program} {l : Launch} {e : Env} {R : Room} {s : State} {m : MethodId} {args : Array Value} {below : List Frame} {meth : Method} {c : Code} {T : State} {locs : List Loc} {cells slots : Nat} {Z : State} {a0 : Array Value} {h : Heap} {F : State → Outcome → Prop}
theorem Go.newP (X : Stand p l e R s m args below meth c T locs cells slots) (hx : p.tables.exec = Jvm.exec) (hZ : Z.Warmed39 s.vm) {aty : ArrayType} (w : (Jvm.Cond.arrayClass (newarray.typeOf aty)).before a0 Z = true) (eT : T.heap = h) {pc : Nat} {Ls : Array Slot} {n : Int32} {rest : List Value} (hd : decode c.code pc = .ok (.newarray aty, 2))
    (hn : ¬ n < 0) {cap : Nat} (hcap : n.toNatClampNeg ≤ cap) (hb : cap * 8 ≤ 536870912) (hc : cells + 1 ≤ R.cells) (hl : slots + cap ≤ R.slots)
    (k : ∀ T' h' a kc, a = h.size → Stand p l e R s m args below meth c T' locs (cells + 1) (slots + cap) → T'.heap = h' → Ext h h' → Arv Z h' a kc (newarray.typeOf aty) n [] (defaultValue (newarray.typeOf aty)) → Go p e below F T' (mkF m (pc + 2) Ls (.ref a :: rest))) : Go p e below F T (mkF m pc Ls (.int n :: rest)) := by
  obtain ⟨T', h', kc, X', e', E', A', st⟩ := Jvm.RoadKit.newP X hx hZ w eT (g := mkF m pc Ls (.int n :: rest)) rfl hd rfl hn hcap hb hc hl
  exact Go.of st (k _ _ _ kc rfl X' e' E' (Arv.new A' hn))
theorem Go.stB (X : Stand p l e R s m args below meth c T locs cells slots) (hx : p.tables.exec = Jvm.exec) (hZ : Z.Warmed39 s.vm) (eT : T.heap = h) {a : Addr} {kc : ClassId} {z j x : Int32} {vs : List Value} {dv : Value} (V : Arv Z h a kc .byte z vs dv) (hj : ¬ j < 0 ∧ j < z) (i : Nat) (hji : j.toNatClampNeg = i) (hi : i < vs.length) {pc : Nat} {Ls : Array Slot} {rest : List Value} (hd : decode c.code pc = .ok (.bastore, 1))
    (k : ∀ T' h', Stand p l e R s m args below meth c T' (locs ++ [⟨a, j.toNatClampNeg⟩]) cells slots → T'.heap = h' → Wr h h' a j.toNatClampNeg (.int (nar .byte x)) → Arv Z h' a kc .byte z (vs.set i (.int (nar .byte x))) dv → Go p e below F T' (mkF m (pc + 1) Ls rest)) : Go p e below F T (mkF m pc Ls (.int x :: .int j :: .ref a :: rest)) := by
  obtain ⟨cl, A, q1, S1, q3, H, G⟩ := V
  obtain ⟨T', h', X', e', W', st⟩ := Jvm.RoadKit.stB X hx hZ eT A (x := x) (inb_of S1 hj) (g := mkF m pc Ls (.int x :: .int j :: .ref a :: rest)) rfl rfl hd
  exact Go.of st (k _ _ X' e' W' (Arv.set A q1 S1 q3 H G (fits_nar_byte x) W' i hji hi))
theorem Go.stI (X : Stand p l e R s m args below meth c T locs cells slots) (hx : p.tables.exec = Jvm.exec) (hZ : Z.Warmed39 s.vm) (eT : T.heap = h) {a : Addr} {kc : ClassId} {z j x : Int32} {vs : List Value} {dv : Value} (V : Arv Z h a kc .int z vs dv) (hj : ¬ j < 0 ∧ j < z) (i : Nat) (hji : j.toNatClampNeg = i) (hi : i < vs.length) {pc : Nat} {Ls : Array Slot} {rest : List Value} (hd : decode c.code pc = .ok (.iastore, 1))
    (k : ∀ T' h', Stand p l e R s m args below meth c T' (locs ++ [⟨a, j.toNatClampNeg⟩]) cells slots → T'.heap = h' → Wr h h' a j.toNatClampNeg (.int x) → Arv Z h' a kc .int z (vs.set i (.int x)) dv → Go p e below F T' (mkF m (pc + 1) Ls rest)) : Go p e below F T (mkF m pc Ls (.int x :: .int j :: .ref a :: rest)) := by
  obtain ⟨cl, A, q1, S1, q3, H, G⟩ := V
  obtain ⟨T', h', X', e', W', st⟩ := Jvm.RoadKit.stI X hx hZ eT A (x := x) (inb_of S1 hj) (g := mkF m pc Ls (.int x :: .int j :: .ref a :: rest)) rfl rfl hd
  exact Go.of st (k _ _ X' e' W' (Arv.set A q1 S1 q3 H G rfl W' i hji hi))
theorem Go.ldB (X : Stand p l e R s m args below meth c T locs cells slots) (hx : p.tables.exec = Jvm.exec) (hZ : Z.Warmed39 s.vm) (eT : T.heap = h) {a : Addr} {kc : ClassId} {z j : Int32} {vs : List Value} {dv w : Value} (V : Arv Z h a kc .byte z vs dv) (hj : ¬ j < 0 ∧ j < z) (hw : vs.getD j.toNatClampNeg dv = w) {pc : Nat} {Ls : Array Slot} {rest : List Value} (hd : decode c.code pc = .ok (.baload, 1))
    (k : Go p e below F T (mkF m (pc + 1) Ls (w :: rest))) : Go p e below F T (mkF m pc Ls (.int j :: .ref a :: rest)) := by
  obtain ⟨cl, A, q1, S1, q3, H, G⟩ := V
  exact Go.of (fun t q => X.baloadBytes hx (by rw [eT]; exact A.1) (State.isArrayOf_alike hZ.alike A.2.1) A.2.2 (inb_of S1 hj) (H.at (inb_of S1 hj) hw) (g := mkF m pc Ls (.int j :: .ref a :: rest)) rfl rfl hd t q) k
theorem Go.ldI (X : Stand p l e R s m args below meth c T locs cells slots) (hx : p.tables.exec = Jvm.exec) (hZ : Z.Warmed39 s.vm) (eT : T.heap = h) {a : Addr} {kc : ClassId} {z j : Int32} {vs : List Value} {dv w : Value} (V : Arv Z h a kc .int z vs dv) (hj : ¬ j < 0 ∧ j < z) (hw : vs.getD j.toNatClampNeg dv = w) {pc : Nat} {Ls : Array Slot} {rest : List Value} (hd : decode c.code pc = .ok (.iaload, 1))
    (k : Go p e below F T (mkF m (pc + 1) Ls (w :: rest))) : Go p e below F T (mkF m pc Ls (.int j :: .ref a :: rest)) := by
  obtain ⟨cl, A, q1, S1, q3, H, G⟩ := V
  exact Go.of (fun t q => X.iaload hx (by rw [eT]; exact A.1) (State.isArrayOf_alike hZ.alike A.2.1) A.2.2 (inb_of S1 hj) (H.at (inb_of S1 hj) hw) (g := mkF m pc Ls (.int j :: .ref a :: rest)) rfl rfl hd t q) k
theorem Go.len (X : Stand p l e R s m args below meth c T locs cells slots) (hx : p.tables.exec = Jvm.exec) (hZ : Z.Warmed39 s.vm) (eT : T.heap = h) {a : Addr} {kc : ClassId} {ty : FieldType} {z : Int32} {vs : List Value} {dv : Value} (V : Arv Z h a kc ty z vs dv) {pc : Nat} {Ls : Array Slot} {rest : List Value} (hd : decode c.code pc = .ok (.arraylength, 1))
    (k : Go p e below F T (mkF m (pc + 1) Ls (.int z :: rest))) : Go p e below F T (mkF m pc Ls (.ref a :: rest)) := by
  obtain ⟨cl, A, q1, S1, q3, H, G⟩ := V
  refine Go.of (fun t q => X.arraylength hx (by rw [eT]; exact A.1) (State.isArrayOf_alike hZ.alike A.2.1) (g := mkF m pc Ls (.ref a :: rest)) rfl rfl hd t q) ?_
  rw [len_of S1 q3]
  exact k
theorem getD_mapI (bs : List Int32) (i : Nat) : (bs.map Value.int).getD i (.int 0) = .int (bs.getD i 0) := by
  rw [List.getD_eq_getElem?_getD, List.getD_eq_getElem?_getD, List.getElem?_map]
  cases bs[i]? <;> rfl
end OwnArr
section OwnWide
variable {p : Program} {l : Launch} {e : Env} {R : Room} {s : State} {m : MethodId} {args : Array Value} {below : List Frame} {meth : Method} {c : Code} {T : State} {locs : List Loc} {cells slots : Nat} {Z : State} {a0 : Array Value} {h h' : Heap} {Q : Option Value → Heap → List Loc → Prop} {C S : Nat} {F : State → Outcome → Prop} {EL : List (String × Nat)} {vm0 : Vm}
/-- what a walk that may load String constants carries: its tables since its start, and the constants' invariant -/
def Wd (Z : State) (EL : List (String × Nat)) (s : State) (vm : Vm) (h : Heap) : Prop := (∃ k, s.Since vm k ∧ k ≤ h.size) ∧ CHr Z EL s.vm s.heap vm h
theorem Wd.ext (W : Wd Z EL s vm0 h) (E : Ext h h') : Wd Z EL s vm0 h' := by
  obtain ⟨⟨k, h1, h2⟩, h3⟩ := W
  exact ⟨⟨k, h1, Nat.le_trans h2 E.1⟩, h3.trans (CHr.ext E h3.1)⟩
theorem Wd.keep {ws : List Addr} (W : Wd Z EL s vm0 h) (K : Keep h h' ws) (hs : ∀ x ∈ ws, Safe Z EL vm0 h x) : Wd Z EL s vm0 h' := by
  obtain ⟨⟨k, h1, h2⟩, h3⟩ := W
  exact ⟨⟨k, h1, Nat.le_trans h2 K.1⟩, h3.trans (CHr.keep K hs h3.1)⟩
theorem Wd.wr {a : Addr} {sl : Nat} {v : Value} (W : Wd Z EL s vm0 h) (K : Wr h h' a sl v) (hs : Safe Z EL vm0 h a) : Wd Z EL s vm0 h' := W.keep (Keep.of_wr K) (sfS hs sf0)
def FNW (Z : State) (EL : List (String × Nat)) (s : State) (Q : Option Value → Heap → List Loc → Prop) (C S : Nat) (t : State) (o : Outcome) : Prop := ∃ v L, o = .returned v ∧ Q v t.heap L ∧ CHr Z EL s.vm s.heap t.vm t.heap ∧ ReturnedEndW s o t L C S
theorem Go.retW (X : Stand p l e R (s.setVm vm0) m args below meth c T locs cells slots) (hZ : Z.Warmed39 (s.setVm vm0).vm) (hEL : EW Z a0 EL) (eT : T.heap = h) (hW : Wd Z EL s vm0 h) {v : Option Value} {g : JFrame} (hlk : meth.locks = false) (hv : meth.sig.returnType = none → v = none)
    (st : ∀ fs, (∀ (f : JFrame) (acts : List Action), f.method = m → f.locked = none → f.entered = [] → (doReturn e (T.setTop f) acts v).1 = T.setFrames fs) → Steps p.tables e below (T.setTop g) (T.setFrames fs))
    (hc : cells ≤ C) (hs : slots ≤ S) (hQ : Q v h locs) : Go p e below (FNW Z EL s Q C S) T g := by
  subst eT
  obtain ⟨⟨k, hS, hk⟩, hr⟩ := hW
  obtain ⟨fs, hr', hrun, hended, hE⟩ := X.leaveW hS hk (v := v) hv hlk
  have A := hr.trans (CHv.at X hZ hEL hr.1)
  exact ⟨_, _, st fs hr', hrun, hended, _, _, rfl, hQ, A, hE.1, hE.2.1, hE.2.2.1, hE.2.2.2.mono hc hs⟩
theorem Go.retNW (X : Stand p l e R (s.setVm vm0) m args below meth c T locs cells slots) (hx : p.tables.exec = Jvm.exec) (hZ : Z.Warmed39 (s.setVm vm0).vm) (hEL : EW Z a0 EL) (eT : T.heap = h) (hW : Wd Z EL s vm0 h) (hlk : meth.locks = false) {pc : Nat} {Ls : Array Slot} {z : Int32} {rest : List Value} {t : FieldType} (hret : meth.sig.returnType = some t) (ht : t = .boolean ∨ t = .byte ∨ t = .char ∨ t = .short) (hd : decode c.code pc = .ok (.ireturn, 1))
    (hc : cells ≤ C) (hs : slots ≤ S) (hQ : Q (some (.int (nar t z))) h locs) : Go p e below (FNW Z EL s Q C S) T (mkF m pc Ls (.int z :: rest)) :=
  Go.retW X hZ hEL eT hW hlk (fun h => by rw [hret] at h; cases h) (fun _ hr => Jvm.RoadKit.retN X hx hret ht hd hr) hc hs hQ
theorem Go.retAW (X : Stand p l e R (s.setVm vm0) m args below meth c T locs cells slots) (hx : p.tables.exec = Jvm.exec) (hZ : Z.Warmed39 (s.setVm vm0).vm) (hEL : EW Z a0 EL) (eT : T.heap = h) (hW : Wd Z EL s vm0 h) (hlk : meth.locks = false) {pc : Nat} {Ls : Array Slot} {w : Value} {rest : List Value} {t : FieldType} (hret : meth.sig.returnType = some t) (ht : t.isReference = true) (hw : w.isRef = true) (hd : decode c.code pc = .ok (.areturn, 1))
    (hc : cells ≤ C) (hs : slots ≤ S) (hQ : Q (some w) h locs) : Go p e below (FNW Z EL s Q C S) T (mkF m pc Ls (w :: rest)) :=
  Go.retW X hZ hEL eT hW hlk (fun h => by rw [hret] at h; cases h) (fun _ hr => retOut X hx hret (by cases t <;> cases w <;> first | rfl | (simp [FieldType.isReference] at ht) | (simp [Value.isRef] at hw)) (Or.inr (Or.inr (Or.inr (Or.inr ⟨rfl, ht, hw⟩)))) hd hr) hc hs hQ
theorem Go.retVW (X : Stand p l e R (s.setVm vm0) m args below meth c T locs cells slots) (hx : p.tables.exec = Jvm.exec) (hZ : Z.Warmed39 (s.setVm vm0).vm) (hEL : EW Z a0 EL) (eT : T.heap = h) (hW : Wd Z EL s vm0 h) (hlk : meth.locks = false) {pc : Nat} {Ls : Array Slot} (hret : meth.sig.returnType = none) (hd : decode c.code pc = .ok (.return_, 1))
    (hc : cells ≤ C) (hs : slots ≤ S) (hQ : Q none h locs) : Go p e below (FNW Z EL s Q C S) T (mkF m pc Ls []) :=
  Go.retW X hZ hEL eT hW hlk (fun _ => rfl) (fun _ hr => X.returnOut hx hret hd hr) hc hs hQ
/-- a body's contract where it may load constants: sf: what it may write besides what it makes -/
def CtW (l : Launch) (y : MethodName) (bytes : ByteArray) (maxL : Nat) (ret : Option FieldType) (rm : Room) (Z : State) (EL : List (String × Nat)) (sf : List Addr) (h0 : Heap) (as' : Array Value) (Q : Option Value → Heap → List Loc → Prop) : Prop :=
  ∀ ws, MetFree l y (head1 (Jvm.Cond.code y bytes maxL ret :: ws) rm) (fun a U => a = as' ∧ Z.Warmed39 U.vm ∧ U.heap = h0 ∧ CHv Z EL U.vm h0 ∧ ∀ x ∈ sf, Safe Z EL U.vm h0 x) (fun _ _ _ _ _ => True)
    (fun _ U o U' => ∃ v L, o = .returned v ∧ Q v U'.heap L ∧ CHr Z EL U.vm U.heap U'.vm U'.heap ∧ ReturnedEndW U o U' L rm.cells rm.slots)
theorem CtW.body {y : MethodName} {bytes : ByteArray} {maxL : Nat} {ret : Option FieldType} {rm : Room} {sf : List Addr} {as' : Array Value} (hpl : plainFor y = true)
    (k : ∀ (p : Program) (e : Env) (s : State) (m : MethodId) (below : List Frame) (meth : Method) (c : Code) (T : State), p.tables.exec = Jvm.exec → c.code = bytes → c.maxLocals = maxL → (s.setVm s.vm).vm.findClass y.cls = some m.cls → meth.name = y.name → meth.sig.returnType = ret → meth.locks = false → Z.Warmed39 (s.setVm s.vm).vm →
      Wd Z EL s s.vm h → (∀ x ∈ sf, Safe Z EL s.vm h x) → Stand p l e rm (s.setVm s.vm) m as' below meth c T [] 0 0 → T.heap = h → Go p e below (FNW Z EL s Q rm.cells rm.slots) T (entryFrame m as' maxL)) : CtW l y bytes maxL ret rm Z EL sf h as' Q := fun ws => by
  refine MetFree.of_bodySF hpl hisR ?_
  intro p e s m args below meth c s₁ Bd hml0 hP hK
  obtain ⟨rfl, hZ, hh, hC, hsf⟩ := hP
  have h1 : s₁.heap = h := by rw [← hh, Bd.state]; rfl
  exact k p e s m below meth c s₁ Bd.exec Bd.bytes hml0 (findClass_of_methodNamed Bd.named) (name_of_methodNamed Bd.named Bd.method).1 Bd.returns Bd.notSynchronized hZ
    ⟨⟨s.heap.size, (State.WarmedH.refl s).since _, by rw [hh]; exact Nat.le_refl _⟩, by rw [hh]; exact CHr.refl hC⟩ hsf (Stand.of_body Bd) h1
theorem backW {y : MethodName} {bytes : ByteArray} {maxL : Nat} {ret : Option FieldType} {rm : Room} {sf : List Addr} {len W : Nat} {as' : Array Value} (hM : CtW l y bytes maxL ret rm Z EL sf h as' Q)
    (hZ : Z.Warmed39 vm0) (wc : (Jvm.Cond.code y bytes maxL ret).before a0 Z = true) (wz : (Jvm.Cond.initialized y.cls).before a0 Z = true) (hf : rm.frames + 1 ≤ R.frames) (hl : W + (maxL + 11) + rm.locals ≤ R.locals) (hEL : EW Z a0 EL) (H : CHv Z EL vm0 h) (hsf : ∀ x ∈ sf, Safe Z EL vm0 h x ∧ x < h.size) :
    BackS l R p e below (s.setVm vm0) args y len W (fun A a => a = as' ∧ A.U.heap = h ∧ A.cells + rm.cells ≤ R.cells ∧ A.slots + rm.slots ≤ R.slots)
      (fun A _ v B => ∃ L, Q v B.U.heap L ∧ B.locs = A.locs ++ L ∧ B.cells = A.cells + rm.cells ∧ B.slots = A.slots + rm.slots ∧ CHr Z EL vm0 h B.U.vm B.U.heap) := by
  refine BackS.of_freeW (bytes := bytes) (maxL := maxL) (ret := ret) (E := fun _ U o t L k n => (k = rm.cells ∧ n = rm.slots) ∧ ∃ v, o = .returned v ∧ Q v t.heap L ∧ CHr Z EL U.vm U.heap t.vm t.heap) (hM []) hf hl ?_ ?_ ?_ ?_ ?_
  · intro m meth c A a Y hp
    have hU : Z.Warmed39 A.U.vm := wtrans (s := s.setVm vm0) hZ Y.warmed
    refine ⟨?_, mv hU wc, mv hU wz, hp.2.2.1, hp.2.2.2⟩
    show (Jvm.Cond.and _ .tt).before a A.U = true
    rw [Jvm.Cond.before_and, mv hU wc]; rfl
  · intro m meth c A a g mk Y hp
    have A1 := CHv.at Y hZ hEL H
    exact ⟨hp.1, wtrans (s := s.setVm vm0) hZ Y.warmed, hp.2.1, A1.1, fun x hx => A1.safe (hsf x hx).2 (hsf x hx).1⟩
  · intro _ _ _ _ _ _ _ _ _; trivial
  · rintro _ _ _ _ ⟨v, L, h1, h2, h3, h4⟩
    exact ⟨L, _, _, h4, ⟨rfl, rfl⟩, v, h1, h2, h3⟩
  · rintro m meth c A a g mk v t L k n Y hp - - ⟨⟨rfl, rfl⟩, v', e1, e2, e3⟩
    cases e1
    refine ⟨L, e2, rfl, rfl, rfl, (CHv.at Y hZ hEL H).trans ?_⟩
    have q : A.U.heap = h := hp.2.1
    rw [← q]; exact e3
theorem Wd.next {vm1 : Vm} {n : Nat} (hW : Wd Z EL s vm0 h) (h2 : (s.setVm vm0).Since vm1 n) (hn : n ≤ h'.size) (g : h.size ≤ n) (hr : CHr Z EL vm0 h vm1 h') : Wd Z EL s vm1 h' := by
  obtain ⟨⟨k, hS, hk⟩, hr0⟩ := hW
  exact ⟨⟨n, hS.trans h2 (Nat.le_trans hk g), hn⟩, hr0.trans hr⟩
theorem Go.callSW (X : Stand p l e R (s.setVm vm0) m args below meth c T locs cells slots) (hx : p.tables.exec = Jvm.exec) (hZ : Z.Warmed39 (s.setVm vm0).vm) {own : String} {index : Nat} {y : MethodName} {bytes : ByteArray} {maxL : Nat} {ret : Option FieldType} (hown : (s.setVm vm0).vm.findClass own = some m.cls)
    (wl : (Jvm.Cond.methodLink own index y).before a0 Z = true) (wst : (Jvm.Cond.static y).before a0 Z = true) (wz : (Jvm.Cond.initialized y.cls).before a0 Z = true) (wc : (Jvm.Cond.code y bytes maxL ret).before a0 Z = true) (hy : y.cls ≠ "java/lang/invoke/MethodHandle" ∧ y.cls ≠ "java/lang/invoke/VarHandle")
    (eT : T.heap = h) (hEL : EW Z a0 EL) (hW : Wd Z EL s vm0 h) {sf : List Addr} (hsf : ∀ x ∈ sf, Safe Z EL vm0 h x ∧ x < h.size) {rm : Room} {argsL rest : List Value} {Q' : Option Value → Heap → List Loc → Prop} (hC : CtW l y bytes maxL ret rm Z EL sf h argsL.toArray Q') {pc : Nat} {Ls : Array Slot} {st : List Value} (hsz : Ls.size = c.maxLocals)
    (hlen : ∀ sig, parseMethodDescriptor y.desc = some sig → argsL.length = sig.parameters.length) (hst : st = argsL.reverse ++ rest) (hd : decode c.code pc = .ok (.invokestatic index, 3)) (hf : rm.frames + 1 ≤ R.frames) (hl : (rest.map fun v => v.category).sum + (maxL + 11) + rm.locals ≤ R.locals) (hc : cells + rm.cells ≤ R.cells) (hs : slots + rm.slots ≤ R.slots)
    (k : ∀ v T' L, Q' v T'.heap L → Stand p l e R (s.setVm T'.vm) m args below meth c T' (locs ++ L) (cells + rm.cells) (slots + rm.slots) → Z.Warmed39 (s.setVm T'.vm).vm → (s.setVm T'.vm).vm.findClass own = some m.cls → Wd Z EL s T'.vm T'.heap → Go p e below F T' (mkF m (pc + 3) Ls (v.toList ++ rest))) :
    Go p e below F T (mkF m pc Ls st) := by
  obtain ⟨v, _, ⟨T', L', k', n'⟩, -, X', h2, g, ⟨L, hQ, l1, y1, z1, hr⟩, stp⟩ := callSS X hx (y := y) hown (mvT hZ wl) (mvT hZ wst) (mvT hZ wz) (mvT hZ wc) hy (backW (W := (rest.map fun v => v.category).sum) hC hZ wc wz hf hl hEL hW.2.1 hsf) (g := mkF m pc Ls st) rfl hsz (argsL := argsL) (rest := rest) hlen hst (by show 2 * 0 + _ ≤ _; exact Nat.le_of_eq (Nat.zero_add _)) hd (fun _ _ => ⟨rfl, eT, hc, hs⟩)
  dsimp only [Pt.U, Pt.locs, Pt.cells, Pt.slots] at X' l1 y1 z1 stp hQ h2 g hr
  subst l1 y1 z1
  rw [eT] at g
  exact Go.of (fun t q => stp.trans q) (k _ _ _ hQ X' (State.Warmed39.trans hZ h2.1) ((h2.1.alike.findClass _ _).trans hown) (hW.next h2 (Nat.le_refl _) g hr))
theorem Go.callCW (X : Stand p l e R (s.setVm vm0) m args below meth c T locs cells slots) (hx : p.tables.exec = Jvm.exec) (hZ : Z.Warmed39 (s.setVm vm0).vm) {own : String} {index : Nat} {y : MethodName} {bytes : ByteArray} {maxL : Nat} (hy1 : y.name = "<init>") (hown : (s.setVm vm0).vm.findClass own = some m.cls)
    (wl : (Jvm.Cond.methodLink own index y).before a0 Z = true) (wim : (Jvm.Cond.instanceMethod y).before a0 Z = true) (wc : (Jvm.Cond.code y bytes maxL none).before a0 Z = true) (wz : (Jvm.Cond.initialized y.cls).before a0 Z = true) (hy : y.cls ≠ "java/lang/invoke/MethodHandle" ∧ y.cls ≠ "java/lang/invoke/VarHandle")
    (eT : T.heap = h) (hEL : EW Z a0 EL) (hW : Wd Z EL s vm0 h) {sf : List Addr} (hsf : ∀ x ∈ sf, Safe Z EL vm0 h x ∧ x < h.size) {b : Addr} {rm : Room} {argsL rest : List Value} {Q' : Option Value → Heap → List Loc → Prop} (hC : CtW l y bytes maxL none rm Z EL sf h (.ref b :: argsL).toArray Q') {pc : Nat} {Ls : Array Slot} {st : List Value} (hsz : Ls.size = c.maxLocals)
    (hlen : ∀ sig, parseMethodDescriptor y.desc = some sig → argsL.length = sig.parameters.length) (hst : st = argsL.reverse ++ .ref b :: rest) (hd : decode c.code pc = .ok (.invokespecial index, 3)) (hf : rm.frames + 1 ≤ R.frames) (hl : (rest.map fun v => v.category).sum + (maxL + 11) + rm.locals ≤ R.locals) (hc : cells + rm.cells ≤ R.cells) (hs : slots + rm.slots ≤ R.slots)
    (k : ∀ v T' L, Q' v T'.heap L → Stand p l e R (s.setVm T'.vm) m args below meth c T' (locs ++ L) (cells + rm.cells) (slots + rm.slots) → Z.Warmed39 (s.setVm T'.vm).vm → (s.setVm T'.vm).vm.findClass own = some m.cls → Wd Z EL s T'.vm T'.heap → Go p e below F T' (mkF m (pc + 3) Ls (v.toList ++ rest))) :
    Go p e below F T (mkF m pc Ls st) := by
  obtain ⟨v, _, ⟨T', L', k', n'⟩, -, X', h2, g, ⟨L, hQ, l1, y1, z1, hr⟩, stp⟩ := X.specialBackS hx (y := y) hy1 hown (mvT hZ wl) (mvT hZ wim) (mvT hZ wc) hy (backW (W := (rest.map fun v => v.category).sum) hC hZ wc wz hf hl hEL hW.2.1 hsf) (g := mkF m pc Ls st) rfl hsz (Steps.refl _) (a := b) (argsL := argsL) (rest := rest) hlen hst (by show 2 * 0 + _ ≤ _; exact Nat.le_of_eq (Nat.zero_add _)) hd (fun _ _ => ⟨rfl, eT, hc, hs⟩)
  dsimp only [Pt.U, Pt.locs, Pt.cells, Pt.slots] at X' l1 y1 z1 stp hQ h2 g hr
  subst l1 y1 z1
  rw [eT] at g
  exact Go.of (fun t q => stp.trans q) (k _ _ _ hQ X' (State.Warmed39.trans hZ h2.1) ((h2.1.alike.findClass _ _).trans hown) (hW.next h2 (Nat.le_refl _) g hr))
/-- the same walk, more room said to be used -/
theorem more (X : Stand p l e R s m args below meth c T locs cells slots) {c' s' : Nat} (hc : cells ≤ c') (hs : slots ≤ s') : Stand p l e R s m args below meth c T locs c' s' := { X with same := X.same.mono hc hs }
end OwnWide
section OwnStr
variable {p : Program} {l : Launch} {e : Env} {R : Room} {s : State} {m : MethodId} {args : Array Value} {below : List Frame} {meth : Method} {c : Code} {T : State} {locs : List Loc} {cells slots : Nat} {Z : State} {a0 : Array Value} {h h' : Heap} {F : State → Outcome → Prop} {EL : List (String × Nat)} {vm0 : Vm} {x : Addr} {cs : List Int32} {k : Nat}
abbrev ch1 (c : Int32) : Prop := ¬ c < 0 ∧ ¬ (255 : Int32) < c
abbrev chs (cs : List Int32) : Prop := ∀ c ∈ cs, ch1 c
theorem of255 {x : Int32} (h : ch1 x) : ∃ k : Fin 256, x = Int32.ofNat k.val := by
  have h0 := mt Int32.lt_iff_toInt_lt.mpr h.1
  have h1 := mt Int32.lt_iff_toInt_lt.mpr h.2
  have e0 : (0 : Int32).toInt = 0 := by decide
  have e1 : (255 : Int32).toInt = 255 := by decide
  refine ⟨⟨x.toInt.toNat, by omega⟩, ?_⟩
  apply Int32.toInt_inj.mp
  rw [Int32.toInt_ofNat_of_lt (by omega)]
  show x.toInt = ((x.toInt.toNat : Nat) : Int)
  omega
theorem nar_ch {x : Int32} (h : ch1 x) : nar .char x = x := by
  obtain ⟨k, rfl⟩ := of255 h
  exact (by decide +kernel : ∀ k : Fin 256, nar .char (Int32.ofNat k.val) = Int32.ofNat k.val) k
theorem up_ch {cs : List Int32} (h : chs cs) : ∀ c ∈ cs, ¬ c < 0 ∧ ¬ (65535 : Int32) < c := fun c hc => ⟨(h c hc).1, fun q => (h c hc).2 (by rw [Int32.lt_iff_toInt_lt] at q ⊢; have e1 : (65535 : Int32).toInt = 65535 := rfl; have e2 : (255 : Int32).toInt = 255 := rfl; omega)⟩
/-- a Latin-1 String of these chars, its two cells below k -/
def Str (Z : State) (h : Heap) (k : Nat) (x : Addr) (cs : List Int32) : Prop := ∃ (t : Addr) (kb : ClassId), Exa Z h x "java/lang/String" ∧ Fld Z h x "java/lang/String" "value" "[B" (.ref t) ∧ Fld Z h x "java/lang/String" "coder" "B" (.int 0) ∧ Arv Z h t kb .byte (Int32.ofNat cs.length) ((cs.map (fun c => c.toInt8.toInt32)).map Value.int) (.int 0) ∧ chs cs ∧ cs.length ≤ 4000 ∧ x < k ∧ t < k
theorem Str.exa (S : Str Z h k x cs) : Exa Z h x "java/lang/String" := by obtain ⟨t, kb, h1, -⟩ := S; exact h1
theorem Str.ext (S : Str Z h k x cs) (E : Ext h h') : Str Z h' k x cs := by
  obtain ⟨t, kb, h1, h2, h3, h4, r⟩ := S
  exact ⟨t, kb, h1.ext E, h2.ext E, h3.ext E, h4.ext E, r⟩
theorem Str.up {k' : Nat} (S : Str Z h k x cs) (q : k ≤ k') : Str Z h k' x cs := by
  obtain ⟨t, kb, h1, h2, h3, h4, h5, h6, h7, h8⟩ := S
  exact ⟨t, kb, h1, h2, h3, h4, h5, h6, Nat.lt_of_lt_of_le h7 q, Nat.lt_of_lt_of_le h8 q⟩
theorem Str.keep {ws : List Addr} (S : Str Z h k x cs) (K : Keep h h' ws) (q : ∀ w ∈ ws, k ≤ w) : Str Z h' k x cs := by
  obtain ⟨t, kb, h1, h2, h3, h4, h5, h6, h7, h8⟩ := S
  have n1 : x ∉ ws := fun z => absurd h7 (Nat.not_lt.mpr (q x z))
  have n2 : t ∉ ws := fun z => absurd h8 (Nat.not_lt.mpr (q t z))
  exact ⟨t, kb, h1.keep K, h2.keep K n1, h3.keep K n1, h4.keep K n2, h5, h6, h7, h8⟩
theorem Go.ldcW (X : Stand p l e R (s.setVm vm0) m args below meth c T locs cells slots) (hx : p.tables.exec = Jvm.exec) (hZ : Z.Warmed39 (s.setVm vm0).vm) {own text : String} {index : Nat} (hown : (s.setVm vm0).vm.findClass own = some m.cls) (w : (Jvm.Cond.stringLink own index text).before a0 Z = true) (wS : ∀ a ∈ Bundle.stringAtoms, a.before a0 Z = true)
    (eT : T.heap = h) (hEL : EW Z a0 EL) (hmem : (own, index) ∈ EL) (hW : Wd Z EL s vm0 h) (ht : (∀ c ∈ text.toList, c.toNat < 256) ∧ text.toList.map (fun c => Value.int (Jvm.Lit.byteI c.toNat.toUInt16)) = (cs.map (fun c => c.toInt8.toInt32)).map Value.int) (hcs : chs cs) (hn : cs.length ≤ 4000)
    {pc : Nat} {Ls : Array Slot} {rest : List Value} (hd : decode c.code pc = .ok (.ldc index, 2)) (hc : cells + 2 ≤ R.cells) (hl : slots + (4 * cs.length + 4) ≤ R.slots)
    (k : ∀ T' h' a, Stand p l e R (s.setVm T'.vm) m args below meth c T' locs (cells + 2) (slots + (4 * cs.length + 4)) → T'.heap = h' → Ext h h' → Z.Warmed39 (s.setVm T'.vm).vm → (s.setVm T'.vm).vm.findClass own = some m.cls → Str Z h' h'.size a cs → Wd Z EL s T'.vm h' → CHr Z EL vm0 h T'.vm h' → Go p e below F T' (mkF m (pc + 2) Ls (.ref a :: rest))) : Go p e below F T (mkF m pc Ls rest) := by
  obtain ⟨⟨k0, hS, hk⟩, hr⟩ := hW
  have el : text.toList.length = cs.length := by have := congrArg List.length ht.2; simpa using this
  have hz : ¬ Int32.ofNat cs.length < 0 := fun q => by
    have := Int32.lt_iff_toInt_lt.mp q
    rw [Int32.toInt_ofNat_of_lt (by omega)] at this
    have e0 : (0 : Int32).toInt = 0 := by decide
    omega
  have hv : (Int32.ofNat cs.length).toNatClampNeg = ((cs.map (fun c => c.toInt8.toInt32)).map Value.int).length := by
    rw [List.length_map, List.length_map]
    show (Int32.ofNat cs.length).toInt.toNat = _
    rw [Int32.toInt_ofNat_of_lt (by omega)]; rfl
  obtain ⟨a, T', h', k1, b, kb, X', e', E', S', k1', Z', o', E1, C1, V1, A1, l1, l2, r', -, -, st⟩ := ldcCH (n := 4 * cs.length) X hx hZ hown w wS eT hS hk hEL hmem hr.1 ht hz hv (g := mkF m pc Ls rest) rfl hd (by rw [el]; exact Nat.le_refl _) (by omega) hc hl
  exact Go.of st (k T' h' a X' e' E' Z' o' ⟨b, kb, E1, V1, C1, A1, hcs, hn, l1, l2⟩ ⟨⟨k1, S', k1'⟩, hr.trans r'⟩ r')
/-- a Latin-1 byte read back as a char -/
theorem byte_ch {c : Int32} (h : ch1 c) : nar .char ((c.toInt8.toInt32 &&& (255 : Int32)).toUInt32.toUInt16.toUInt32.toInt32) = c := by
  obtain ⟨k, rfl⟩ := of255 h
  exact (by decide +kernel : ∀ k : Fin 256, nar .char (((Int32.ofNat k.val).toInt8.toInt32 &&& (255 : Int32)).toUInt32.toUInt16.toUInt32.toInt32) = Int32.ofNat k.val) k
theorem idx_lt {j : Int32} {n : Nat} (h0 : ¬ j < 0) (h1 : j < Int32.ofNat n) (hn : n ≤ 4000) : j.toNatClampNeg < n := by
  have q := Int32.lt_iff_toInt_lt.mp h1
  rw [Int32.toInt_ofNat_of_lt (by omega)] at q
  have := nat_of h0
  omega
theorem getD_lo (cs : List Int32) (i : Nat) : ((cs.map (fun c => c.toInt8.toInt32)).map Value.int).getD i (.int 0) = .int ((cs.getD i 0).toInt8.toInt32) := by
  rw [getD_mapI, List.getD_eq_getElem?_getD, List.getD_eq_getElem?_getD, List.getElem?_map]
  cases cs[i]? <;> rfl
theorem chs_getD {cs : List Int32} (h : chs cs) {i : Nat} (hi : i < cs.length) : ch1 (cs.getD i 0) := by
  rw [List.getD_eq_getElem?_getD, List.getElem?_eq_getElem hi]
  exact h _ (List.getElem_mem hi)
/-- over a write of a builder's own cell -/
theorem Str.keepA {a : Addr} {K : String} {n : Nat} (S : Str Z h k x cs) (K1 : Keep h h' [a]) (E : Exa Z h a K) (hK : "java/lang/String" ≠ K) (wi : (Jvm.Cond.instantiable K n).before a0 Z = true) : Str Z h' k x cs := by
  obtain ⟨t, kb, h1, h2, h3, h4, h5, h6, h7, h8⟩ := S
  have n1 : x ∉ [a] := ninS (Exa.ne h1 E hK) nin0
  have n2 : t ∉ [a] := ninS (Ne.symm (Exa.neArv E h4 wi)) nin0
  exact ⟨t, kb, h1.keep K1, h2.keep K1 n1, h3.keep K1 n1, h4.keep K1 n2, h5, h6, h7, h8⟩
theorem Sta.keepN {C n d : String} {v : Value} {ws : List Addr} (F : Sta Z h C n d v) (K : Keep h h' ws) (hn : ∀ x ∈ ws, ∀ cell : Cell, h[x]? = some cell → cell.vm.isStatics = false) : Sta Z h' C n d v := by
  obtain ⟨cf, i, k, f, st, cell, h1, h2, h3, h4, h5, h6, h7⟩ := F
  exact ⟨cf, i, k, f, st, cell, h1, h2, h3, h4, K.2.1 st cell h5 (fun q => by rw [hn st q cell h5] at h6; cases h6), h6, h7⟩
end OwnStr
section OwnSB
variable {p : Program} {l : Launch} {e : Env} {R : Room} {s : State} {m : MethodId} {args : Array Value} {below : List Frame} {meth : Method} {c : Code} {T : State} {locs : List Loc} {cells slots : Nat} {Z : State} {a0 : Array Value} {h h' : Heap} {F : State → Outcome → Prop}
/-- the class of a method that some class selects is no interface -/
theorem noface_of {K : String} {x y : MethodName} (w : (Jvm.Cond.selects K x y).before a0 Z = true) : ∃ c k, Z.vm.findClass y.cls = some c ∧ Z.vm.classes[c]? = some k ∧ k.isInterface = false := by
  obtain ⟨c2, r2, m2, q1, q2, q3, q4, kP, hkP, hkPi⟩ := Jvm.Cond.selects_spec w
  exact ⟨m2.cls, kP, findClass_of_methodNamed q3, hkP, hkPi⟩
theorem same_of {K : String} {x y y' : MethodName} (w : (Jvm.Cond.selects K x y').before a0 Z = true) (hc : y'.cls = y.cls) (wi : (Jvm.Cond.instanceMethod y).before a0 Z = true) (hy : y.cls ≠ "java/lang/invoke/MethodHandle" ∧ y.cls ≠ "java/lang/invoke/VarHandle") : (Jvm.Cond.sameMethod y.cls y.cls y.name y.desc).before a0 Z = true := by
  obtain ⟨c, k, h1, h2, h3⟩ := noface_of w
  rw [hc] at h1
  obtain ⟨mk, methM, hn, -, -, -⟩ := Jvm.Cond.instanceMethod_spec wi
  have hf := State.methodFound?_of_named hn hy
  simp [Jvm.Cond.before, Jvm.Cond.holds, Jvm.Cond.value, h1, hf, hn, h2, h3]
theorem notFace_of {K : String} {x y y' : MethodName} (w : (Jvm.Cond.selects K x y').before a0 Z = true) (hc : y'.cls = y.cls) (wi : (Jvm.Cond.instanceMethod y).before a0 Z = true) (hy : y.cls ≠ "java/lang/invoke/MethodHandle" ∧ y.cls ≠ "java/lang/invoke/VarHandle") : NotFace Z y := fun r0 h0 => by
  obtain ⟨c, k, h1, h2, h3⟩ := noface_of w
  rw [hc] at h1
  obtain ⟨mk, methM, hn, -, -, -⟩ := Jvm.Cond.instanceMethod_spec wi
  first
  | (cases h0.symm.trans hn
     have := findClass_of_methodNamed hn
     cases this.symm.trans h1
     exact ⟨k, h2, h3⟩)
  | (have hf := State.methodFound?_of_named hn hy
     cases h0.symm.trans hf
     have := findClass_of_methodNamed hn
     cases this.symm.trans h1
     exact ⟨k, h2, h3⟩)
theorem Go.callPS (X : Stand p l e R s m args below meth c T locs cells slots) (hx : p.tables.exec = Jvm.exec) (hZ : Z.Warmed39 s.vm) {own : String} {index : Nat} {y x0 : MethodName} {K0 : String} {bytes : ByteArray} {maxL : Nat} {ret : Option FieldType} (hown : s.vm.findClass own = some m.cls)
    (wl : (Jvm.Cond.methodLink own index y).before a0 Z = true) (wim : (Jvm.Cond.instanceMethod y).before a0 Z = true) (wp : (Jvm.Cond.privateMethod y).before a0 Z = true) (wsel : (Jvm.Cond.selects K0 x0 y).before a0 Z = true) (wc : (Jvm.Cond.code y bytes maxL ret).before a0 Z = true) (wz : (Jvm.Cond.initialized y.cls).before a0 Z = true) (hy : y.cls ≠ "java/lang/invoke/MethodHandle" ∧ y.cls ≠ "java/lang/invoke/VarHandle")
    (eT : T.heap = h) {b : Addr} {K : String} (E : Exa Z h b K) {rm : Room} {argsL rest : List Value} {Q' : Option Value → Heap → List Loc → Prop} (hC : Ct l y bytes maxL ret rm Z h (.ref b :: argsL).toArray Q') {pc : Nat} {Ls : Array Slot} {st : List Value} (hsz : Ls.size = c.maxLocals)
    (hlen : ∀ sig, parseMethodDescriptor y.desc = some sig → argsL.length = sig.parameters.length) (hst : st = argsL.reverse ++ .ref b :: rest) (hd : decode c.code pc = .ok (.invokevirtual index, 3)) (hf : rm.frames + 1 ≤ R.frames) (hl : (rest.map fun v => v.category).sum + (maxL + 11) + rm.locals ≤ R.locals) (hc : cells + rm.cells ≤ R.cells) (hs : slots + rm.slots ≤ R.slots)
    (k : ∀ v T' L, Q' v T'.heap L → Stand p l e R s m args below meth c T' (locs ++ L) (cells + rm.cells) (slots + rm.slots) → Go p e below F T' (mkF m (pc + 3) Ls (v.toList ++ rest))) :
    Go p e below F T (mkF m pc Ls st) := by
  have wsel' : (Jvm.Cond.selects K0 x0 y).before args s = true := mvT hZ wsel
  obtain ⟨c0, k0, f1, f2, f3⟩ := noface_of wsel'
  have hpr := Jvm.Cond.privateMethod_at (mvP (args := #[]) hZ wp)
  have hsel : (Jvm.Cond.selects y.cls y y).before args s = true := selects_self_of_private f1 f2 f3 hpr (mvT hZ wim) hy
  obtain ⟨cq, hq, hq'⟩ := E.cell
  obtain ⟨v, _, ⟨T', L', k', n'⟩, -, X', ⟨L, hQ, l1, y1, z1⟩, stp⟩ := X.privateBack hx (y := y) hown (mvT hZ wl) (mvT hZ wim) hsel hpr (mvT hZ wc) hy (backOf (W := (rest.map fun v => v.category).sum) (hC []) hZ wc wz hf hl) (g := mkF m pc Ls st) rfl hsz (Steps.refl _) (a := b) (by rw [eT]; exact hq) hq' (argsL := argsL) (rest := rest) hlen hst (by show 2 * 0 + _ ≤ _; exact Nat.le_of_eq (Nat.zero_add _)) hd (fun _ _ => ⟨rfl, eT, hc, hs⟩)
  dsimp only [Pt.U, Pt.locs, Pt.cells, Pt.slots] at X' l1 y1 z1 stp hQ
  subst l1 y1 z1
  exact Go.of (fun t q => stp.trans q) (k _ _ _ hQ X')
theorem Go.callSup (X : Stand p l e R s m args below meth c T locs cells slots) (hx : p.tables.exec = Jvm.exec) (hZ : Z.Warmed39 s.vm) {own : String} {index : Nat} {y : MethodName} {bytes : ByteArray} {maxL : Nat} {ret : Option FieldType} (hown : s.vm.findClass own = some m.cls)
    (wl : (Jvm.Cond.methodLink own index y).before a0 Z = true) (wsm : (Jvm.Cond.sameMethod y.cls y.cls y.name y.desc).before a0 Z = true) (wim : (Jvm.Cond.instanceMethod y).before a0 Z = true) (wsup : (Jvm.Cond.superclass own y.cls).before a0 Z = true) (wc : (Jvm.Cond.code y bytes maxL ret).before a0 Z = true) (wz : (Jvm.Cond.initialized y.cls).before a0 Z = true) (hn : y.name ≠ "<init>")
    (eT : T.heap = h) {b : Addr} {K : String} (E : Exa Z h b K) {rm : Room} {argsL rest : List Value} {Q' : Option Value → Heap → List Loc → Prop} (hC : Ct l y bytes maxL ret rm Z h (.ref b :: argsL).toArray Q') {pc : Nat} {Ls : Array Slot} {st : List Value} (hsz : Ls.size = c.maxLocals)
    (hlen : ∀ sig, parseMethodDescriptor y.desc = some sig → argsL.length = sig.parameters.length) (hst : st = argsL.reverse ++ .ref b :: rest) (hd : decode c.code pc = .ok (.invokespecial index, 3)) (hf : rm.frames + 1 ≤ R.frames) (hl : (rest.map fun v => v.category).sum + (maxL + 11) + rm.locals ≤ R.locals) (hc : cells + rm.cells ≤ R.cells) (hs : slots + rm.slots ≤ R.slots)
    (k : ∀ v T' L, Q' v T'.heap L → Stand p l e R s m args below meth c T' (locs ++ L) (cells + rm.cells) (slots + rm.slots) → Go p e below F T' (mkF m (pc + 3) Ls (v.toList ++ rest))) :
    Go p e below F T (mkF m pc Ls st) := by
  obtain ⟨v, _, ⟨T', L', k', n'⟩, -, X', ⟨L, hQ, l1, y1, z1⟩, stp⟩ := superBack X hx hZ (y := y) hown wl wsm wim wsup hn (backOf (W := (rest.map fun v => v.category).sum) (hC []) hZ wc wz hf hl) eT (Ins.self E) (g := mkF m pc Ls st) rfl hsz wc (argsL := argsL) (rest := rest) hlen hst (by show 2 * 0 + _ ≤ _; exact Nat.le_of_eq (Nat.zero_add _)) hd (fun _ _ => ⟨rfl, eT, hc, hs⟩)
  dsimp only [Pt.U, Pt.locs, Pt.cells, Pt.slots] at X' l1 y1 z1 stp hQ
  subst l1 y1 z1
  exact Go.of (fun t q => stp.trans q) (k _ _ _ hQ X')
theorem range_getD (vs : List Value) (dv : Value) : (List.range vs.length).map (fun i => vs.getD (0 + i) dv) = vs := by
  apply List.ext_getElem
  · simp
  · intro i h1 h2
    simp [List.getD_eq_getElem?_getD, List.getElem?_eq_getElem h2]
/-- System.arraycopy of bytes: all of a's first nn bytes, to the end of what b holds -/
theorem Go.copy (X : Stand p l e R s m args below meth c T locs cells slots) (hx : p.tables.exec = Jvm.exec) (hZ : Z.Warmed39 s.vm) {own : String} {index : Nat} (hown : s.vm.findClass own = some m.cls) (w1 : (Jvm.Cond.methodLink own index Jvm.Stand.acN).before a0 Z = true) (w2 : (Jvm.Cond.native Jvm.Stand.acN).before a0 Z = true) (w3 : (Jvm.Cond.static Jvm.Stand.acN).before a0 Z = true) (w4 : (Jvm.Cond.initialized "java/lang/System").before a0 Z = true)
    (eT : T.heap = h) {a b : Addr} {k k' : ClassId} {z z' dp nn : Int32} {as bs : List Int32} (A : Arv Z h a k .byte z (as.map Value.int) (.int 0)) (B : Arv Z h b k' .byte z' (bs.map Value.int) (.int 0)) (hdp : dp.toInt = (bs.length : Int)) (hnn : (as.length : Int) ≤ nn.toInt) (hnz : nn.toInt ≤ z.toInt) (hfit : dp.toInt + nn.toInt ≤ z'.toInt) {n0 : Nat} (N : Fr n0 locs) (ge : n0 ≤ b)
    {pc : Nat} {Ls : Array Slot} {rest : List Value} (hsz : Ls.size = c.maxLocals) (hd : decode c.code pc = .ok (.invokestatic index, 3)) (hf : 1 ≤ R.frames) (hl : (rest.map fun v => v.category).sum + (nativeFrameWords "java/lang/System" "arraycopy" 5 + 11) ≤ R.locals)
    (kk : ∀ T' h' L, Stand p l e R s m args below meth c T' L cells slots → T'.heap = h' → Fr n0 L → Keep h h' [b] → Arv Z h' b k' .byte z' ((bs ++ as).map Value.int) (.int 0) → Go p e below F T' (mkF m (pc + 3) Ls rest)) : Go p e below F T (mkF m pc Ls (.int nn :: .int dp :: .ref b :: .int (0 : Int32) :: .ref a :: rest)) := by
  have nat : ∀ {x : Int32}, 0 ≤ x.toInt → ¬ x < 0 ∧ (x.toNatClampNeg : Int) = x.toInt := fun {x} q => by
    have h0 : ¬ x < 0 := fun r => by have := Int32.lt_iff_toInt_lt.mp r; have e0 : (0 : Int32).toInt = 0 := (by decide); omega
    exact ⟨h0, (nat_of h0).symm⟩
  obtain ⟨d1, d2⟩ := nat (x := dp) (by omega)
  obtain ⟨n1, n2⟩ := nat (x := nn) (by omega)
  obtain ⟨z1, z2⟩ := nat (x := z) (by omega)
  obtain ⟨y1, y2⟩ := nat (x := z') (by omega)
  have ed : dp.toNatClampNeg = bs.length := by omega
  -- both lists, as long as what is copied
  have A' : Arv Z h a k .byte z ((as ++ List.replicate (nn.toNatClampNeg - as.length) 0).map Value.int) (.int 0) := A.pad fun i => by
    rw [getD_mapI, getD_mapI, List.getD_eq_getElem?_getD, List.getD_eq_getElem?_getD, List.getElem?_append, List.getElem?_replicate]
    split
    · rfl
    · rename_i q
      rw [List.getElem?_eq_none (by omega)]
      split <;> rfl
  have B' : Arv Z h b k' .byte z' ((bs ++ List.replicate nn.toNatClampNeg 0).map Value.int) (.int 0) := B.pad fun i => by
    rw [getD_mapI, getD_mapI, List.getD_eq_getElem?_getD, List.getD_eq_getElem?_getD, List.getElem?_append, List.getElem?_replicate]
    split
    · rfl
    · rename_i q
      rw [List.getElem?_eq_none (by omega)]
      split <;> rfl
  have la : ((as ++ List.replicate (nn.toNatClampNeg - as.length) 0).map Value.int).length = nn.toNatClampNeg := by simp; omega
  obtain ⟨T', h', L, X', e', N', K', V', st⟩ := cpA X hx hZ hown w1 w2 w3 w4 eT A' B' (us := (as ++ List.replicate (nn.toNatClampNeg - as.length) 0).map Value.int) (Or.inl ⟨rfl, rfl⟩) (sp := 0) (dp := dp) (nn := nn) (by decide) d1 n1
    (by show 0 + _ ≤ _; omega) (by omega) (by
      show _ = (List.range nn.toNatClampNeg).map fun i => _
      have r := range_getD ((as ++ List.replicate (nn.toNatClampNeg - as.length) 0).map Value.int) (.int 0)
      rw [la] at r
      exact r.symm) (by simp; omega) N ge (g := mkF m pc Ls (.int nn :: .int dp :: .ref b :: .int (0 : Int32) :: .ref a :: rest)) rfl hsz (rest := rest) rfl hd hf (W := (rest.map fun v => v.category).sum) (by show 2 * 0 + _ ≤ _; exact Nat.le_of_eq (Nat.zero_add _)) hl
  refine Go.of st (kk T' h' L X' e' N' K' ?_)
  refine V'.pad fun i => ?_
  have e1 : List.take bs.length ((bs ++ List.replicate nn.toNatClampNeg 0).map Value.int) = bs.map Value.int := by rw [List.map_append, List.take_append_of_le_length (by simp), List.take_of_length_le (by simp)]
  have e2 : List.drop (bs.length + nn.toNatClampNeg) ((bs ++ List.replicate nn.toNatClampNeg 0).map Value.int) = [] := List.drop_eq_nil_of_le (by simp)
  rw [ed, e1, e2, List.append_nil, ← List.map_append, getD_mapI, getD_mapI, List.getD_eq_getElem?_getD, List.getD_eq_getElem?_getD, ← List.append_assoc, List.getElem?_append (l₂ := List.replicate _ _), List.getElem?_replicate]
  split
  · rfl
  · rename_i q
    rw [List.getElem?_eq_none (by omega)]
    split <;> rfl
theorem shl0 (x : Int32) : (x <<< ((0 : Int32) &&& 31)) = x := by
  have e : ((0 : Int32) &&& 31) = 0 := by decide
  rw [e]
  exact Int32.shiftLeft_zero
theorem shr0 (x : Int32) : (x >>> ((0 : Int32) &&& 31)) = x := by
  have e : ((0 : Int32) &&& 31) = 0 := by decide
  rw [e]
  exact Int32.shiftRight_zero
/-- what newCapacity answers for a full array -/
def GR (z mn r : Int32) : Prop := (r.toInt = mn.toInt ∨ r.toInt = 2 * z.toInt + 2) ∧ mn.toInt ≤ r.toInt ∧ 2 * z.toInt + 2 ≤ r.toInt
/-- a byte stored at the last of the places still 0 -/
theorem Go.stD (X : Stand p l e R s m args below meth c T locs cells slots) (hx : p.tables.exec = Jvm.exec) (hZ : Z.Warmed39 s.vm) (eT : T.heap = h) {t : Addr} {kb : ClassId} {z j v : Int32} {pf tl : List Int32} {n : Nat} (V : Arv Z h t kb .byte z ((pf ++ List.replicate (n + 1) 0 ++ tl).map Value.int) (.int 0)) (hj : j.toInt = ((pf.length + n : Nat) : Int)) (hl : j.toInt < z.toInt) (hv : nar .byte v = v)
    {pc : Nat} {Ls : Array Slot} {rest : List Value} (hd : decode c.code pc = .ok (.bastore, 1))
    (k : ∀ T' h', Stand p l e R s m args below meth c T' (locs ++ [⟨t, j.toNatClampNeg⟩]) cells slots → T'.heap = h' → Wr h h' t j.toNatClampNeg (.int (nar .byte v)) → Arv Z h' t kb .byte z ((pf ++ List.replicate n 0 ++ (v :: tl)).map Value.int) (.int 0) → Go p e below F T' (mkF m (pc + 1) Ls rest)) : Go p e below F T (mkF m pc Ls (.int v :: .int j :: .ref t :: rest)) := by
  have e0 : (0 : Int32).toInt = 0 := by decide
  have h0 : ¬ j < 0 := fun q => by have := Int32.lt_iff_toInt_lt.mp q; omega
  have hn := nat_of h0
  have ej : j.toNatClampNeg = pf.length + n := by omega
  refine Go.stB X hx hZ eT V ⟨h0, Int32.lt_iff_toInt_lt.mpr hl⟩ (pf.length + n) ej (by simp only [List.length_map, List.length_append, List.length_replicate]; omega) hd ?_
  intro T' h' X' e' W' V'
  refine k T' h' X' e' W' ?_
  rw [hv] at V'
  have q : ((pf ++ List.replicate (n + 1) 0 ++ tl).map Value.int).set (pf.length + n) (.int v) = (pf ++ List.replicate n 0 ++ (v :: tl)).map Value.int := by
    rw [← List.map_set]
    congr 1
    rw [List.replicate_succ']
    simp only [List.append_assoc]
    rw [List.set_append_right _ _ (by omega), show pf.length + n - pf.length = n by omega, List.set_append_right _ _ (by simp)]
    simp
  rw [q] at V'
  exact V'
/-- a local that holds nothing of two words -/
def One (v : Slot) : Prop := v = .unset ∨ ∃ w : Value, v = .val w ∧ w.category = 1
theorem One.u : One .unset := Or.inl rfl
theorem One.val {w : Value} (h : w.category = 1) : One (.val w) := Or.inr ⟨w, rfl, h⟩
theorem Safe.grow {EL : List (String × Nat)} {vm : Vm} {ws : List Addr} {t t' : Addr} (K : Keep h h' ws) (hs : ∀ x ∈ ws, Safe Z EL vm h x) (H : CHv Z EL vm h) (st : Safe Z EL vm h t) (ht : t' = t ∨ h.size ≤ t') : Safe Z EL vm h' t' := by
  refine Safe.keep K hs H ?_
  rcases ht with q | q
  · rw [q]; exact st
  · exact Safe.new q
theorem Go.callVW {EL : List (String × Nat)} {vm0 : Vm} (X : Stand p l e R (s.setVm vm0) m args below meth c T locs cells slots) (hx : p.tables.exec = Jvm.exec) (hZ : Z.Warmed39 (s.setVm vm0).vm) {own K : String} {index : Nat} {y z : MethodName} {bytes : ByteArray} {maxL : Nat} {ret : Option FieldType} (hown : (s.setVm vm0).vm.findClass own = some m.cls)
    (wl : (Jvm.Cond.methodLink own index y).before a0 Z = true) (wd : (Jvm.Cond.declares y).before a0 Z = true) (nf : NotFace (s.setVm vm0) y) (wsel : (Jvm.Cond.selects K y z).before a0 Z = true) (wim : (Jvm.Cond.instanceMethod z).before a0 Z = true) (wc : (Jvm.Cond.code z bytes maxL ret).before a0 Z = true) (wz : (Jvm.Cond.initialized z.cls).before a0 Z = true) (hy : y.cls ≠ "java/lang/invoke/MethodHandle" ∧ y.cls ≠ "java/lang/invoke/VarHandle")
    (eT : T.heap = h) (hEL : EW Z a0 EL) (hW : Wd Z EL s vm0 h) {sf : List Addr} (hsf : ∀ x ∈ sf, Safe Z EL vm0 h x ∧ x < h.size) {b : Addr} (E : Exa Z h b K) {rm : Room} {argsL rest : List Value} {Q' : Option Value → Heap → List Loc → Prop} (hC : CtW l z bytes maxL ret rm Z EL sf h (.ref b :: argsL).toArray Q') {pc : Nat} {Ls : Array Slot} {st : List Value} (hsz : Ls.size = c.maxLocals)
    (hlen : ∀ sig, parseMethodDescriptor y.desc = some sig → argsL.length = sig.parameters.length) (hst : st = argsL.reverse ++ .ref b :: rest) (hd : decode c.code pc = .ok (.invokevirtual index, 3)) (hf : rm.frames + 1 ≤ R.frames) (hl : (rest.map fun v => v.category).sum + (maxL + 11) + rm.locals ≤ R.locals) (hc : cells + rm.cells ≤ R.cells) (hs : slots + rm.slots ≤ R.slots)
    (k : ∀ v T' L, Q' v T'.heap L → Stand p l e R (s.setVm T'.vm) m args below meth c T' (locs ++ L) (cells + rm.cells) (slots + rm.slots) → Z.Warmed39 (s.setVm T'.vm).vm → (s.setVm T'.vm).vm.findClass own = some m.cls → Wd Z EL s T'.vm T'.heap → Go p e below F T' (mkF m (pc + 3) Ls (v.toList ++ rest))) :
    Go p e below F T (mkF m pc Ls st) := by
  obtain ⟨cq, kq, qa, qb, qc⟩ := isOf hZ eT E
  obtain ⟨v, _, ⟨T', L', k', n'⟩, -, X', h2, g, ⟨L, hQ, l1, y1, z1, hr⟩, stp⟩ := X.virtualBackS hx (y := y) (z := z) hown (mvT hZ wl) (mvT hZ wd) nf (mvT hZ wsel) (mvT hZ wim) hy (backW (W := (rest.map fun v => v.category).sum) hC hZ wc wz hf hl hEL hW.2.1 hsf) qa qc (g := mkF m pc Ls st) rfl hsz (Steps.refl _) (argsL := argsL) (rest := rest) hlen hst (by show 2 * 0 + _ ≤ _; exact Nat.le_of_eq (Nat.zero_add _)) hd (fun _ _ => ⟨rfl, eT, hc, hs⟩)
  dsimp only [Pt.U, Pt.locs, Pt.cells, Pt.slots] at X' l1 y1 z1 stp hQ h2 g hr
  subst l1 y1 z1
  rw [eT] at g
  exact Go.of (fun t q => stp.trans q) (k _ _ _ hQ X' (State.Warmed39.trans hZ h2.1) ((h2.1.alike.findClass _ _).trans hown) (hW.next h2 (Nat.le_refl _) g hr))
end OwnSB
/-- a positive number and how many digits it has -/
def DG (x r : Int32) : Prop := ∃ (ee mm : Nat), r = Int32.ofNat ee ∧ x.toInt = (mm : Int) ∧ 1 ≤ ee ∧ ee ≤ 10 ∧ 10 ^ (ee - 1) ≤ mm ∧ mm < 10 ^ ee
def ones : List Int32 := (List.range 100).map fun i => Int32.ofNat (48 + i % 10)
def tens : List Int32 := (List.range 100).map fun i => Int32.ofNat (48 + i / 10)
/-- the digits of a number, the last ee of them -/
def digs : Nat → Nat → List Int32
  | 0, _ => []
  | ee + 1, mm => digs ee (mm / 10) ++ [Int32.ofNat (48 + mm % 10)]
theorem digs2 (ee mm : Nat) : digs (ee + 2) mm = digs ee (mm / 100) ++ [Int32.ofNat (48 + mm / 10 % 10), Int32.ofNat (48 + mm % 10)] := by
  show digs ee (mm / 10 / 10) ++ [_] ++ [_] = _
  rw [Nat.div_div_eq_div_mul]
  simp
theorem dig_b (k : Nat) : nar .byte (Int32.ofNat (48 + k % 10)) = Int32.ofNat (48 + k % 10) :=
  (by decide +kernel : ∀ j : Fin 10, nar .byte (Int32.ofNat (48 + j.val)) = Int32.ofNat (48 + j.val)) ⟨k % 10, Nat.mod_lt _ (by decide)⟩
theorem in100 {r : Int32} {k : Nat} (h : r.toInt = ((k % 100 : Nat) : Int)) : ¬ r < 0 ∧ r < (100 : Int32) := by
  have e0 : (0 : Int32).toInt = 0 := by decide
  have e1 : (100 : Int32).toInt = 100 := by decide
  exact ⟨fun q => by have := Int32.lt_iff_toInt_lt.mp q; omega, Int32.lt_iff_toInt_lt.mpr (by omega)⟩
theorem at_nat {r : Int32} {k : Nat} (h : r.toInt = ((k % 100 : Nat) : Int)) : r.toNatClampNeg = k % 100 := by
  show r.toInt.toNat = _
  rw [h]; rfl
theorem one_at {r : Int32} {k : Nat} (h : r.toInt = ((k % 100 : Nat) : Int)) : (ones.map Value.int).getD r.toNatClampNeg (.int 0) = .int (Int32.ofNat (48 + k % 10)) := by
  rw [at_nat h, getD_mapI]
  have q := (by decide +kernel : ∀ j : Fin 100, ones.getD j.val 0 = Int32.ofNat (48 + j.val % 10)) ⟨k % 100, Nat.mod_lt _ (by decide)⟩
  rw [show ones.getD (k % 100) 0 = _ from q]
  show Value.int (Int32.ofNat (48 + k % 100 % 10)) = _
  rw [show k % 100 % 10 = k % 10 by omega]
theorem ten_at {r : Int32} {k : Nat} (h : r.toInt = ((k % 100 : Nat) : Int)) : (tens.map Value.int).getD r.toNatClampNeg (.int 0) = .int (Int32.ofNat (48 + k / 10 % 10)) := by
  rw [at_nat h, getD_mapI]
  have q := (by decide +kernel : ∀ j : Fin 100, tens.getD j.val 0 = Int32.ofNat (48 + j.val / 10)) ⟨k % 100, Nat.mod_lt _ (by decide)⟩
  rw [show tens.getD (k % 100) 0 = _ from q]
  show Value.int (Int32.ofNat (48 + k % 100 / 10)) = _
  rw [show k % 100 / 10 = k / 10 % 10 by omega]
theorem qr {i q r : Int32} {mm : Nat} (hi : i.toInt = -(mm : Int)) (hm : 100 ≤ mm) (hq : (i / (100 : Int32)) = q) (hr : ((q * (100 : Int32)) - i) = r) : q.toInt = -((mm / 100 : Nat) : Int) ∧ r.toInt = ((mm % 100 : Nat) : Int) := by
  have t1 := (c_idiv i (100 : Int32) 100 (by decide) (by decide)).2 (by omega)
  have t2 := c_imul q (100 : Int32)
  have t3 := c_isub (q * (100 : Int32)) i
  have t4 := rng32 (q * (100 : Int32))
  have t5 := rng32 ((q * (100 : Int32)) - i)
  have t6 := rng32 i
  have k : (100 : Int32).toInt = 100 := by decide
  rw [hq] at t1
  rw [k] at t2
  rw [hr] at t3 t5
  constructor <;> omega
theorem p10_le {a b : Nat} (h : a ≤ b) : 10 ^ a ≤ 10 ^ b := Nat.pow_le_pow_right (by decide) h
theorem ee3 {ee mm : Nat} (h : mm < 10 ^ ee) (hm : 100 ≤ mm) : 3 ≤ ee := by
  refine Nat.lt_of_not_le fun q => ?_
  have := p10_le q
  omega
theorem ee2 {ee mm : Nat} (h : 10 ^ (ee - 1) ≤ mm) (hm : mm < 100) : ee ≤ 2 := by
  refine Nat.le_of_not_lt fun q => ?_
  have := p10_le (show 2 ≤ ee - 1 by omega)
  omega
theorem ee2' {ee mm : Nat} (h : mm < 10 ^ ee) (hm : 10 ≤ mm) : 2 ≤ ee := by
  refine Nat.lt_of_not_le fun q => ?_
  have := p10_le q
  omega
theorem ee1 {ee mm : Nat} (h : 10 ^ (ee - 1) ≤ mm) (hm : mm < 10) : ee ≤ 1 := by
  refine Nat.le_of_not_lt fun q => ?_
  have := p10_le (show 1 ≤ ee - 1 by omega)
  omega
theorem cp_ix {cp z : Int32} {a n : Nat} (h : cp.toInt = ((a + (n + 1) : Nat) : Int)) (hz : ((a + (n + 1) : Nat) : Int) ≤ z.toInt) : (cp + (-1 : Int32)).toInt = ((a + n : Nat) : Int) ∧ (cp + (-1 : Int32)).toInt < z.toInt := by
  have k1 : (-1 : Int32).toInt = -1 := by decide
  have a1 := c_iadd cp (-1 : Int32)
  have b1 := rng32 (cp + (-1 : Int32))
  have b3 := rng32 z
  constructor <;> omega
theorem cp_two {cp z : Int32} {a n : Nat} (h : cp.toInt = ((a + (n + 2) : Nat) : Int)) (hz : ((a + (n + 2) : Nat) : Int) ≤ z.toInt) : (cp + (-1 : Int32)).toInt = ((a + (n + 1) : Nat) : Int) ∧ (cp + (-1 : Int32)).toInt < z.toInt ∧ ((cp + (-1 : Int32)) + (-1 : Int32)).toInt = ((a + n : Nat) : Int) ∧ ((cp + (-1 : Int32)) + (-1 : Int32)).toInt < z.toInt := by
  have p1 := cp_ix (n := n + 1) h hz
  have p2 := cp_ix (n := n) p1.1 (by rw [← p1.1]; exact Int.le_of_lt p1.2)
  exact ⟨p1.1, p1.2, p2.1, p2.2⟩
theorem le100 {i : Int32} {mm : Nat} (hi : i.toInt = -(mm : Int)) (hm : 100 ≤ mm) : ¬ ((-100 : Int32) < i) := fun q => by
  have k : (-100 : Int32).toInt = -100 := by decide
  have := Int32.lt_iff_toInt_lt.mp q
  omega
theorem lt100 {i : Int32} {mm : Nat} (hi : i.toInt = -(mm : Int)) (hm : ¬ 100 ≤ mm) : (-100 : Int32) < i ∧ (-i).toInt = ((mm % 100 : Nat) : Int) := by
  have k : (-100 : Int32).toInt = -100 := by decide
  have cn := c_ineg i
  have bn := rng32 (-i)
  exact ⟨Int32.lt_iff_toInt_lt.mpr (by omega), by omega⟩
theorem nine {i : Int32} {mm : Nat} (hi : i.toInt = -(mm : Int)) (h : 10 ≤ mm) : i < (-9 : Int32) := by
  have k : (-9 : Int32).toInt = -9 := by decide
  exact Int32.lt_iff_toInt_lt.mpr (by omega)
theorem nine' {i : Int32} {mm : Nat} (hi : i.toInt = -(mm : Int)) (h : ¬ 10 ≤ mm) : ¬ (i < (-9 : Int32)) := fun q => by
  have k : (-9 : Int32).toInt = -9 := by decide
  have := Int32.lt_iff_toInt_lt.mp q
  omega
theorem pow2 {e2 mm : Nat} (h1 : 1 ≤ e2) (hlo : 10 ^ (e2 + 2 - 1) ≤ mm) (hhi : mm < 10 ^ (e2 + 2)) : 10 ^ (e2 - 1) ≤ mm / 100 ∧ mm / 100 < 10 ^ e2 := by
  constructor
  · rw [Nat.le_div_iff_mul_le (by decide)]
    have : 10 ^ (e2 - 1) * 100 = 10 ^ (e2 + 2 - 1) := by
      rw [show e2 + 2 - 1 = (e2 - 1) + 2 by omega, Nat.pow_add]
    omega
  · rw [Nat.div_lt_iff_lt_mul (by decide)]
    have : 10 ^ e2 * 100 = 10 ^ (e2 + 2) := by rw [Nat.pow_add]
    omega
theorem pad_z (pf : List Int32) (ee : Nat) (i : Nat) : ((pf ++ List.replicate ee 0 ++ []).map Value.int).getD i (.int 0) = (pf.map Value.int).getD i (.int 0) := by
  rw [List.append_nil, getD_mapI, getD_mapI, List.getD_eq_getElem?_getD, List.getD_eq_getElem?_getD, List.getElem?_append, List.getElem?_replicate]
  split
  · rfl
  · rename_i q
    rw [List.getElem?_eq_none (by omega)]
    split <;> rfl
def tx0 : List Int32 := [112, 114, 101, 45, 102, 105, 108, 116, 101, 114, 101, 100, 32, 97, 115, 32, 115, 104, 97, 114, 101, 100, 32, 98, 121, 32]
def tx1 : List Int32 := [32, 105, 110, 115, 116, 97, 110, 99, 101]
def tx2 : List Int32 := [32, 105, 110, 115, 116, 97, 110, 99, 101, 115]
theorem hc0 : chs tx0 := by decide
theorem hc1 : chs tx1 := by decide
theorem hc2 : chs tx2 := by decide
theorem ht0 : (∀ c ∈ "pre-filtered as shared by ".toList, c.toNat < 256) ∧ "pre-filtered as shared by ".toList.map (fun c => Value.int (Jvm.Lit.byteI c.toNat.toUInt16)) = (tx0.map (fun c => c.toInt8.toInt32)).map Value.int := by decide +kernel
theorem ht1 : (∀ c ∈ " instance".toList, c.toNat < 256) ∧ " instance".toList.map (fun c => Value.int (Jvm.Lit.byteI c.toNat.toUInt16)) = (tx1.map (fun c => c.toInt8.toInt32)).map Value.int := by decide +kernel
theorem ht2 : (∀ c ∈ " instances".toList, c.toNat < 256) ∧ " instances".toList.map (fun c => Value.int (Jvm.Lit.byteI c.toNat.toUInt16)) = (tx2.map (fun c => c.toInt8.toInt32)).map Value.int := by decide +kernel
def sfx (x : Int32) : List Int32 := if x = 1 then tx1 else tx2
theorem sfx_one {x : Int32} (h : x = (1 : Int32)) : tx1 = sfx x := (if_pos h).symm
theorem sfx_more {x : Int32} (h : ¬ x = (1 : Int32)) : tx2 = sfx x := (if_neg h).symm
theorem lw1 : 9 ≤ tx1.length ∧ tx1.length ≤ 10 := by decide
theorem lw2 : 9 ≤ tx2.length ∧ tx2.length ≤ 10 := by decide
/-- the capacity behind a call that asks for mn places -/
def CapR (z : Int32) (mn : Nat) (z' : Int32) : Prop := ((mn : Int) ≤ z.toInt ∧ z' = z) ∨ (z.toInt < (mn : Int) ∧ (z'.toInt = (mn : Int) ∨ z'.toInt = 2 * z.toInt + 2) ∧ (mn : Int) ≤ z'.toInt ∧ 2 * z.toInt + 2 ≤ z'.toInt)
theorem ofn_i {n : Nat} (h : n ≤ 200) : (Int32.ofNat n).toInt = (n : Int) := Int32.toInt_ofNat_of_lt (by omega)
theorem sum_n (n k : Nat) (h1 : n ≤ 100) (h2 : k ≤ 100) : 0 ≤ (Int32.ofNat n + Int32.ofNat k).toInt ∧ (Int32.ofNat n + Int32.ofNat k).toInt ≤ 400 ∧ (Int32.ofNat n + Int32.ofNat k).toInt = ((n + k : Nat) : Int) := by
  rw [← Int32.ofNat_add, Int32.toInt_ofNat_of_lt (by omega)]
  omega
theorem sum_i (bs cs : List Int32) (h1 : bs.length ≤ 100) (h2 : cs.length ≤ 100) : 0 ≤ (Int32.ofNat bs.length + Int32.ofNat cs.length).toInt ∧ (Int32.ofNat bs.length + Int32.ofNat cs.length).toInt ≤ 400 ∧ (Int32.ofNat bs.length + Int32.ofNat cs.length).toInt = ((bs.length + cs.length : Nat) : Int) := sum_n _ _ h1 h2
theorem len_i (cs : List Int32) (h : cs.length ≤ 100) : (Int32.ofNat cs.length).toInt = ((cs.map (fun c => c.toInt8.toInt32)).length : Int) := by
  rw [List.length_map]
  exact ofn_i (by omega)
theorem cap_of {z z' : Int32} {n k : Nat} (hR : ((Int32.ofNat n + Int32.ofNat k).toInt ≤ z.toInt ∧ z' = z) ∨ (z.toInt < (Int32.ofNat n + Int32.ofNat k).toInt ∧ GR z (Int32.ofNat n + Int32.ofNat k) z')) (h : 0 ≤ (Int32.ofNat n + Int32.ofNat k).toInt ∧ (Int32.ofNat n + Int32.ofNat k).toInt ≤ 400 ∧ (Int32.ofNat n + Int32.ofNat k).toInt = ((n + k : Nat) : Int)) : CapR z (n + k) z' := by
  unfold GR at hR
  unfold CapR
  rw [h.2.2] at hR
  exact hR
theorem cap_le {z z' : Int32} {n : Nat} (h : CapR z n z') : (n : Int) ≤ z'.toInt := by
  unfold CapR at h
  rcases h with ⟨q, rfl⟩ | ⟨q, r⟩ <;> omega
theorem fit_i {z z' : Int32} {n k : Nat} (h : CapR z (n + k) z') (h1 : n ≤ 100) (h2 : k ≤ 100) : (Int32.ofNat n).toInt + (Int32.ofNat k).toInt ≤ z'.toInt := by
  rw [ofn_i (by omega), ofn_i (by omega)]
  have := cap_le h
  omega
theorem pow_uniq {a b mm : Nat} (h1 : 10 ^ (a - 1) ≤ mm) (h2 : mm < 10 ^ a) (h3 : 10 ^ (b - 1) ≤ mm) (h4 : mm < 10 ^ b) (ha : 1 ≤ a) (hb : 1 ≤ b) : a = b := by
  rcases Nat.lt_trichotomy a b with q | q | q
  · have := p10_le (show a ≤ b - 1 by omega)
    omega
  · exact q
  · have := p10_le (show b ≤ a - 1 by omega)
    omega
theorem dg_is {x r : Int32} {ee mm : Nat} (h : DG x r) (hmm : x.toInt = (mm : Int)) (he : 1 ≤ ee) (hlo : 10 ^ (ee - 1) ≤ mm) (hhi : mm < 10 ^ ee) : r = Int32.ofNat ee := by
  obtain ⟨e1, m1, hr, hm, h1, -, h3, h4⟩ := h
  have q : m1 = mm := by omega
  rw [q] at h3 h4
  rw [hr, pow_uniq h3 h4 hlo hhi h1 he]
theorem pos_of {ee mm : Nat} (hlo : 10 ^ (ee - 1) ≤ mm) : 1 ≤ mm := by
  have := p10_le (Nat.zero_le (ee - 1))
  omega
theorem digs_len (ee mm : Nat) : (digs ee mm).length = ee := by
  induction ee generalizing mm with
  | zero => rfl
  | succ e ih => simp [digs, ih]
theorem len_dg (bs : List Int32) (ee mm : Nat) : Int32.ofNat bs.length + Int32.ofNat ee = Int32.ofNat (bs ++ digs ee mm).length := by
  rw [List.length_append, digs_len, Int32.ofNat_add]
theorem dig_lo (k : Nat) : (Int32.ofNat (48 + k % 10)).toInt8.toInt32 = Int32.ofNat (48 + k % 10) ∧ ch1 (Int32.ofNat (48 + k % 10)) :=
  (by decide +kernel : ∀ j : Fin 10, (Int32.ofNat (48 + j.val)).toInt8.toInt32 = Int32.ofNat (48 + j.val) ∧ ch1 (Int32.ofNat (48 + j.val))) ⟨k % 10, Nat.mod_lt _ (by decide)⟩
theorem lo_digs (ee mm : Nat) : (digs ee mm).map (fun c => c.toInt8.toInt32) = digs ee mm := by
  induction ee generalizing mm with
  | zero => rfl
  | succ e ih =>
    show (digs e (mm / 10) ++ [Int32.ofNat (48 + mm % 10)]).map _ = _
    rw [List.map_append, ih]
    show _ ++ [(Int32.ofNat (48 + mm % 10)).toInt8.toInt32] = digs e (mm / 10) ++ [Int32.ofNat (48 + mm % 10)]
    rw [(dig_lo mm).1]
theorem chs_digs (ee mm : Nat) : chs (digs ee mm) := by
  induction ee generalizing mm with
  | zero => intro c hc; cases hc
  | succ e ih =>
    intro c hc
    rcases List.mem_append.mp (show c ∈ digs e (mm / 10) ++ [Int32.ofNat (48 + mm % 10)] from hc) with q | q
    · exact ih _ c q
    · rw [List.mem_singleton.mp q]; exact (dig_lo mm).2
theorem by_all (ee mm : Nat) (tl : List Int32) : (((([] : List Int32) ++ tx0.map (fun c => c.toInt8.toInt32)) ++ digs ee mm) ++ tl.map (fun c => c.toInt8.toInt32)) = (tx0 ++ digs ee mm ++ tl).map (fun c => c.toInt8.toInt32) := by
  rw [List.map_append, List.map_append, lo_digs, List.nil_append]
theorem chs_all (ee mm : Nat) {tl : List Int32} (h : chs tl) : chs (tx0 ++ digs ee mm ++ tl) := by
  intro c hc
  rcases List.mem_append.mp hc with q | q
  · rcases List.mem_append.mp q with q | q
    · exact hc0 c q
    · exact chs_digs ee mm c q
  · exact h c q
theorem all_len (ee mm : Nat) (tl : List Int32) : (tx0 ++ digs ee mm ++ tl).length = 26 + ee + tl.length := by
  rw [List.length_append, List.length_append, digs_len]
  all_goals rfl
theorem l26 : (([] : List Int32) ++ tx0.map (fun c => c.toInt8.toInt32)).length = 26 := by decide
theorem b2_le {ee mm : Nat} (he' : ee ≤ 10) : ((([] : List Int32) ++ tx0.map (fun c => c.toInt8.toInt32)) ++ digs ee mm).length ≤ 100 := by
  rw [List.length_append, digs_len, l26]
  omega
theorem b3_le {ee mm : Nat} {tl : List Int32} (he' : ee ≤ 10) (h : 9 ≤ tl.length ∧ tl.length ≤ 10) : (((([] : List Int32) ++ tx0.map (fun c => c.toInt8.toInt32)) ++ digs ee mm) ++ tl.map (fun c => c.toInt8.toInt32)).length ≤ 100 := by
  rw [List.length_append, List.length_append, digs_len, l26, List.length_map]
  omega
theorem cap1 {z : Int32} (h : CapR (16 : Int32) (([] : List Int32).length + tx0.length) z) : 0 ≤ z.toInt ∧ z.toInt ≤ 200 ∧ (((([] : List Int32) ++ tx0.map (fun c => c.toInt8.toInt32)).length : Nat) : Int) ≤ z.toInt ∧ z.toInt = 34 := by
  have e : (16 : Int32).toInt = 16 := by decide
  have e2 : ([] : List Int32).length + tx0.length = 26 := by decide
  rw [e2] at h
  unfold CapR at h
  rw [l26]
  omega
theorem cap2 {z1 z : Int32} {ee mm : Nat} (c : 0 ≤ z1.toInt ∧ z1.toInt ≤ 200 ∧ (((([] : List Int32) ++ tx0.map (fun c => c.toInt8.toInt32)).length : Nat) : Int) ≤ z1.toInt ∧ z1.toInt = 34) (h : CapR z1 ((([] : List Int32) ++ tx0.map (fun c => c.toInt8.toInt32)).length + ee) z) (he' : ee ≤ 10) : 0 ≤ z.toInt ∧ z.toInt ≤ 200 ∧ ((((([] : List Int32) ++ tx0.map (fun c => c.toInt8.toInt32)) ++ digs ee mm).length : Nat) : Int) ≤ z.toInt ∧ (z.toInt = 34 ∨ z.toInt = 70) := by
  rw [l26] at h
  rw [List.length_append, digs_len, l26]
  have c4 := c.2.2.2
  unfold CapR at h
  rcases h with ⟨q, rfl⟩ | ⟨q, r⟩ <;> omega
theorem cap3 {z2 z : Int32} {ee mm : Nat} {tl : List Int32} {P : Prop} (c : 0 ≤ z2.toInt ∧ z2.toInt ≤ 200 ∧ P ∧ (z2.toInt = 34 ∨ z2.toInt = 70)) (h : CapR z2 (((([] : List Int32) ++ tx0.map (fun c => c.toInt8.toInt32)) ++ digs ee mm).length + tl.length) z) (he : 1 ≤ ee) (he' : ee ≤ 10) (hl : 9 ≤ tl.length ∧ tl.length ≤ 10) : (((((([] : List Int32) ++ tx0.map (fun c => c.toInt8.toInt32)) ++ digs ee mm) ++ tl.map (fun c => c.toInt8.toInt32)).length : Nat) : Int) < z.toInt := by
  rw [List.length_append, digs_len, l26] at h
  rw [List.length_append, List.length_append, digs_len, l26, List.length_map]
  have c4 := c.2.2.2
  unfold CapR at h
  rcases h with ⟨q, rfl⟩ | ⟨q, r⟩ <;> omega
theorem mask_pos {x v : Int32} (h : (x &&& (2147483647 : Int32)) = v) (hv : ¬ v = (0 : Int32)) : 1 ≤ v.toInt := by
  have m := c_mask x (2147483647 : Int32) 31 (by decide) (by decide)
  have e : (0 : Int32).toInt = 0 := by decide
  have q := mt Int32.toInt_inj.mp hv
  rw [h] at m
  omega
def p10 : List Int32 := [1, 10, 100, 1000, 10000, 100000, 1000000, 10000000, 100000000, 1000000000]
theorem pw_i {k : Nat} (h : k ≤ 9) : (Int32.ofNat (10 ^ k)).toInt = ((10 ^ k : Nat) : Int) := by
  have := p10_le h
  exact Int32.toInt_ofNat_of_lt (by omega)
theorem pw_ne {k : Nat} (h : (Int32.ofNat (10 ^ k)).toInt = ((10 ^ k : Nat) : Int)) : Int32.ofNat (10 ^ k) ≠ 0 := fun q => by
  rw [q] at h
  have := p10_le (Nat.zero_le k)
  have e : (0 : Int32).toInt = 0 := by decide
  omega
theorem dg_lt {x4 x2 : Int32} {ee kk : Nat} (h : x4 < x2) (hd : x2 = Int32.ofNat ee) (he' : ee ≤ 10) (hk : x4.toInt = (kk : Int)) : kk < ee := by
  have q := Int32.lt_iff_toInt_lt.mp h
  rw [hd, ofn_i (by omega)] at q
  omega
theorem dg_ix {x4 x2 : Int32} {ee kk : Nat} (h : kk < ee) (hd : x2 = Int32.ofNat ee) (he' : ee ≤ 10) (hk : x4.toInt = (kk : Int)) : ((x2 - (1 : Int32)) - x4).toInt = ((ee - 1 - kk : Nat) : Int) ∧ ee - 1 - kk ≤ 9 := by
  have e := ofn_i (show ee ≤ 200 by omega)
  rw [← hd] at e
  have e1 : (1 : Int32).toInt = 1 := by decide
  have t1 := c_isub x2 (1 : Int32)
  have t2 := rng32 (x2 - (1 : Int32))
  have t3 := c_isub (x2 - (1 : Int32)) x4
  have t4 := rng32 ((x2 - (1 : Int32)) - x4)
  omega
theorem dg_in {j : Int32} {k : Nat} (h : j.toInt = (k : Int) ∧ k ≤ 9) : ¬ j < 0 ∧ j < (10 : Int32) := by
  have e0 : (0 : Int32).toInt = 0 := by decide
  have e1 : (10 : Int32).toInt = 10 := by decide
  exact ⟨fun q => by have := Int32.lt_iff_toInt_lt.mp q; omega, Int32.lt_iff_toInt_lt.mpr (by omega)⟩
theorem p10_at {j : Int32} {k : Nat} (hk : k ≤ 9) (h : j.toInt = (k : Int) ∧ k ≤ 9) : (p10.map Value.int).getD j.toNatClampNeg (.int 0) = .int (Int32.ofNat (10 ^ k)) := by
  have e : j.toNatClampNeg = k := by show j.toInt.toNat = _; rw [h.1]; rfl
  rw [e, getD_mapI]
  exact congrArg Value.int ((by decide +kernel : ∀ i : Fin 10, p10.getD i.val 0 = Int32.ofNat (10 ^ i.val)) ⟨k, by omega⟩)
theorem c26 {x : Int32} {kk : Nat} (hk : x.toInt = (kk : Int)) (h : kk ≤ 9) : ¬ ((26 : Int32) + x) < 0 ∧ ((26 : Int32) + x).toInt = ((26 + kk : Nat) : Int) := by
  have e0 : (0 : Int32).toInt = 0 := by decide
  have e1 : (26 : Int32).toInt = 26 := by decide
  have t1 := c_iadd (26 : Int32) x
  have t2 := rng32 ((26 : Int32) + x)
  exact ⟨fun q => by have := Int32.lt_iff_toInt_lt.mp q; omega, by omega⟩
theorem lt_n {j : Int32} {k n : Nat} (h : j.toInt = (k : Int)) (hk : k < n) (hn : n ≤ 100) : j < Int32.ofNat n := Int32.lt_iff_toInt_lt.mpr (by rw [ofn_i (by omega)]; omega)
theorem lt_26 {j : Int32} {ee n : Nat} (h : j.toInt < 26) (hk : 26 + ee ≤ n) (hn : n ≤ 100) : j < Int32.ofNat n := Int32.lt_iff_toInt_lt.mpr (by rw [ofn_i (by omega)]; omega)
theorem dg_eq {x1 x4 v : Int32} {mm kk ee : Nat} {cs : List Int32} (hmm : x1.toInt = (mm : Int)) (hp : (Int32.ofNat (10 ^ (ee - 1 - kk))).toInt = ((10 ^ (ee - 1 - kk) : Nat) : Int)) (hv : ((x1 / (Int32.ofNat (10 ^ (ee - 1 - kk)))) % (10 : Int32)) = v) (hk : x4.toInt = (kk : Int)) (hk9 : kk ≤ 9) (hat : cs.getD (26 + kk) 0 = Int32.ofNat (48 + mm / 10 ^ (ee - 1 - kk) % 10)) : cs.getD ((26 : Int32) + x4).toNatClampNeg 0 = ((48 : Int32) + v).toUInt32.toUInt16.toUInt32.toInt32 := by
  have e : ((26 : Int32) + x4).toNatClampNeg = 26 + kk := by show ((26 : Int32) + x4).toInt.toNat = _; rw [(c26 hk hk9).2]; rfl
  rw [e, hat]
  generalize 10 ^ (ee - 1 - kk) = P at hp hv ⊢
  have hP1 : Int32.ofNat P ≠ -1 := fun q => by
    rw [q] at hp
    have : (-1 : Int32).toInt = -1 := by decide
    omega
  have t1 := (c_idiv x1 (Int32.ofNat P) (P : Int) hp hP1).1 (by omega)
  have t2 := (c_irem (x1 / Int32.ofNat P) (10 : Int32) 10 (by decide)).1 (by rw [t1, hmm]; exact Int.ediv_nonneg (by omega) (by omega))
  rw [hv, t1, hmm] at t2
  have t3 : v.toInt = ((mm / P % 10 : Nat) : Int) := t2.trans (by first | rfl | (simp; done))
  obtain ⟨dd, hdd⟩ : ∃ dd : Fin 10, dd.val = mm / P % 10 := ⟨⟨mm / P % 10, Nat.mod_lt _ (by decide)⟩, rfl⟩
  have hv' : v = Int32.ofNat dd.val := by
    apply Int32.toInt_inj.mp
    have hd10 := dd.isLt
    rw [t3, ← hdd, Int32.toInt_ofNat_of_lt (by omega)]
  rw [hv', ← hdd]
  exact (by decide +kernel : ∀ j : Fin 10, Int32.ofNat (48 + j.val) = ((48 : Int32) + Int32.ofNat j.val).toUInt32.toUInt16.toUInt32.toInt32) dd
theorem pre_at {ee mm : Nat} {tl : List Int32} {i : Nat} (h : i < 26) : (tx0 ++ digs ee mm ++ tl).getD i 0 = tx0.getD i 0 := by
  rw [List.getD_eq_getElem?_getD, List.getD_eq_getElem?_getD, List.append_assoc, List.getElem?_append_left (show i < tx0.length from h)]
theorem digs_at : ∀ (ee mm k : Nat), k < ee → (digs ee mm).getD k 0 = Int32.ofNat (48 + mm / 10 ^ (ee - 1 - k) % 10)
  | 0, _, _, h => absurd h (Nat.not_lt_zero _)
  | e + 1, mm, k, h => by
    show (digs e (mm / 10) ++ [Int32.ofNat (48 + mm % 10)]).getD k 0 = _
    rw [List.getD_eq_getElem?_getD]
    by_cases q : k < e
    · rw [List.getElem?_append_left (by rw [digs_len]; exact q), ← List.getD_eq_getElem?_getD, digs_at e (mm / 10) k q, Nat.div_div_eq_div_mul, show e + 1 - 1 - k = (e - 1 - k) + 1 by omega, Nat.pow_succ, Nat.mul_comm 10]
    · have q' : e = k := by omega
      rw [List.getElem?_append_right (by rw [digs_len]; omega), digs_len, show k - e = 0 by omega, show e + 1 - 1 - k = 0 by omega, Nat.pow_zero, Nat.div_one]
      all_goals rfl
theorem dig_at {ee mm k : Nat} {tl : List Int32} (h : k < ee) : (tx0 ++ digs ee mm ++ tl).getD (26 + k) 0 = Int32.ofNat (48 + mm / 10 ^ (ee - 1 - k) % 10) := by
  have e : tx0.length = 26 := by decide
  rw [List.getD_eq_getElem?_getD, List.append_assoc, List.getElem?_append_right (by omega), e, Nat.add_sub_cancel_left, List.getElem?_append_left (by rw [digs_len]; exact h), ← List.getD_eq_getElem?_getD, digs_at ee mm k h]
theorem suf_ok {ee mm : Nat} {tl ds : List Int32} {j : Int32} (he' : ee ≤ 10) (h0 : 0 ≤ j.toInt) (h9 : j.toInt ≤ 9) (hj : j.toNatClampNeg < tl.length) (htl : tl.length ≤ 10) (heq : tl.getD j.toNatClampNeg 0 = ds.getD j.toNatClampNeg 0) : ¬ (((26 : Int32) + (Int32.ofNat ee)) + j) < 0 ∧ (((26 : Int32) + (Int32.ofNat ee)) + j) < Int32.ofNat (tx0 ++ digs ee mm ++ tl).length ∧ (tx0 ++ digs ee mm ++ tl).getD ((((26 : Int32) + (Int32.ofNat ee)) + j)).toNatClampNeg 0 = ds.getD (j).toNatClampNeg 0 := by
  have e0 : (0 : Int32).toInt = 0 := by decide
  have e1 : (26 : Int32).toInt = 26 := by decide
  have e2 := ofn_i (show ee ≤ 200 by omega)
  have t1 := c_iadd (26 : Int32) (Int32.ofNat ee)
  have t2 := rng32 ((26 : Int32) + Int32.ofNat ee)
  have t3 := c_iadd ((26 : Int32) + Int32.ofNat ee) j
  have t4 := rng32 (((26 : Int32) + Int32.ofNat ee) + j)
  have jn : (j.toNatClampNeg : Int) = j.toInt := by show (j.toInt.toNat : Int) = _; omega
  have hs : (((26 : Int32) + Int32.ofNat ee) + j).toInt = ((26 + ee + j.toNatClampNeg : Nat) : Int) := by omega
  have hn : (((26 : Int32) + Int32.ofNat ee) + j).toNatClampNeg = 26 + ee + j.toNatClampNeg := by
    show (((26 : Int32) + Int32.ofNat ee) + j).toInt.toNat = _
    rw [hs]; rfl
  have hl := all_len ee mm tl
  refine ⟨fun q => ?_, Int32.lt_iff_toInt_lt.mpr ?_, ?_⟩
  · have := Int32.lt_iff_toInt_lt.mp q
    omega
  · rw [hl, ofn_i (by omega)]
    omega
  · have e : (tx0 ++ digs ee mm).length = 26 + ee := by rw [List.length_append, digs_len]; all_goals rfl
    rw [hn, ← heq, List.getD_eq_getElem?_getD, List.getD_eq_getElem?_getD, List.getElem?_append_right (by omega), e, Nat.add_sub_cancel_left]
theorem len_q {ee mm k : Nat} {tl : List Int32} {w : Int32} (h : (tx0 ++ digs ee mm ++ tl).length = 26 + ee + tl.length) (he' : ee ≤ 10) (hk : k ≤ tl.length) (hw : w = Int32.ofNat tl.length) : (Int32.ofNat (tx0 ++ digs ee mm ++ tl).length) = (((26 : Int32) + (Int32.ofNat ee)) + w) := by
  have q : Int32.ofNat (26 + ee + tl.length) = (Int32.ofNat 26 + Int32.ofNat ee) + Int32.ofNat tl.length := by rw [Int32.ofNat_add, Int32.ofNat_add]
  rw [h, hw]
  exact q
theorem ones_num : ∀ r, r < 100 → (48 : Int32) + Int32.ofNat r % 10 = ones.getD r 0 ∧ fits .byte (.int (ones.getD r 0)) = true := by decide +kernel
theorem tens_num : ∀ r, r < 100 → (48 : Int32) + Int32.ofNat r / 10 = tens.getD r 0 ∧ fits .byte (.int (tens.getD r 0)) = true := by decide +kernel
theorem sub0 (x : Int32) : x - (0 : Int32) = x := by
  apply Int32.toInt_inj.mp
  have := c_isub x (0 : Int32)
  have e : (0 : Int32).toInt = 0 := by decide
  have := rng32 x
  have := rng32 (x - (0 : Int32))
  omega
theorem len_app (bs cs : List Int32) : Int32.ofNat bs.length + Int32.ofNat cs.length = Int32.ofNat (bs ++ cs.map (fun c => c.toInt8.toInt32)).length := by
  rw [List.length_append, List.length_map, Int32.ofNat_add]
theorem pad16 (i : Nat) : ((([] : List Int32).map Value.int).getD i (.int 0)) = ([(.int 0), (.int 0), (.int 0), (.int 0), (.int 0), (.int 0), (.int 0), (.int 0), (.int 0), (.int 0), (.int 0), (.int 0), (.int 0), (.int 0), (.int 0), (.int 0)] : List Value).getD i (.int 0) := by
  have e : ([(.int 0), (.int 0), (.int 0), (.int 0), (.int 0), (.int 0), (.int 0), (.int 0), (.int 0), (.int 0), (.int 0), (.int 0), (.int 0), (.int 0), (.int 0), (.int 0)] : List Value) = List.replicate 16 (.int 0) := rfl
  rw [e, List.getD_eq_getElem?_getD, List.getD_eq_getElem?_getD, List.getElem?_replicate]
  split <;> rfl
theorem gr_b {z mn r : Int32} (h : GR z mn r) (b0 : 0 ≤ z.toInt) (b1 : z.toInt ≤ 200) (b2 : mn.toInt ≤ 400) : z.toInt < r.toInt ∧ r.toInt ≤ 402 := by
  unfold GR at h
  omega
theorem w_str {Z : State} {a0 : Array Value} (hw : ∀ d ∈ tables_1, d.before a0 Z = true) : ∀ d ∈ Bundle.stringAtoms, d.before a0 Z = true := fun d hd => hw d ((by decide +kernel : ∀ d ∈ Bundle.stringAtoms, d ∈ tables_1) d hd)
theorem ne_of_not {args : Array Value} {s : State} {t : Term} {z : Int32} (ez : t.eval args s none [] s = some (.int z)) (h : (Jvm.Cond.not (.eq t (.int 0))).value args s none s [] = some true) : ¬ z = 0 := by
  intro q
  subst q
  simp [Cond.value, Term.eval, ez] at h
theorem len_small {args : Array Value} {s : State} {t : Term} {a : Addr} {c : Cell} {ty : FieldType} {k : Int32} (h : (Term.length t).eval args s none [] s = some (.int k)) (ht : t.eval args s none [] s = some (.ref a)) (A : Arr s s.heap a c ty) : c.slots.size < 2 ^ 31 ∧ c.slots.size.toInt32 = k := by
  have ha := A.fin (Vm.Alike.refl _)
  simp only [Term.eval, ht, ha, Option.bind_eq_bind, Option.bind_some] at h
  by_cases q : c.slots.size < 2 ^ 31
  · rw [if_pos q] at h
    injection h with h
    injection h with h
    exact ⟨q, h⟩
  · rw [if_neg q] at h
    cases h
/-- a table of bytes that stood before, each of them told by one word -/
theorem tbl_arv {args a0 : Array Value} {s : State} {t rhs : Term} {d : Addr} {vs : List Int32} (et : ∀ idx, t.eval args s none idx s = some (.ref d)) (hE : (Jvm.Cond.exactly t "[B").value args s none s [] = some true) (wa : (Jvm.Cond.arrayClass .byte).before a0 s = true) (hl : (Jvm.Cond.eq (.length t) (.int 100)).value args s none s [] = some true)
    (hall : (Jvm.Cond.all t (.eq (.elem t (.index 0)) rhs)).value args s none s [] = some true) (hr : ∀ r, r < 100 → rhs.eval args s none [r] s = some (.int (vs.getD r 0))) (hf : ∀ r, r < 100 → fits .byte (.int (vs.getD r 0)) = true) : ∃ k, Arv s s.heap d k .byte (100 : Int32) (vs.map Value.int) (.int 0) := by
  obtain ⟨d0, cB, D, kB, hev, hfcB, hcellD, hkB, hstatD, hclsD, -⟩ := Jvm.Cond.exactly_spec (Cond.before_iff.mpr hE)
  cases (et []).symm.trans hev
  have hl' := eqv_i (Term.int_eval _) hl
  obtain ⟨d', D', hev', harrAt, -⟩ := Term.length_spec hl'
  cases hev.symm.trans hev'
  obtain ⟨hcellD', hknD, -, -⟩ := State.arrayAt?_spec harrAt
  cases hcellD.symm.trans hcellD'
  obtain ⟨cB', kB', comp, hnameB, hkB', hkindB⟩ := Jvm.Cond.arrayClass_spec wa
  have eBA : ("[" ++ FieldType.toString .byte) = "[B" := by decide
  rw [eBA] at hnameB
  cases hfcB.symm.trans hnameB
  cases hkB.symm.trans hkB'
  have A : Arr s s.heap d D .byte := ⟨hcellD, ⟨(fun q h => by rw [h] at hstatD; cases hstatD), kB, (by rw [hclsD]; exact hkB), comp, hkindB⟩, hknD⟩
  obtain ⟨h31, hsz⟩ := len_small hl' (et []) A
  have hs : D.slots.size = (100 : Int32).toNatClampNeg := by rw [← hsz]; simp only [Int32.toNatClampNeg, len_toInt h31]; rfl
  have e100 : (100 : Int32).toNatClampNeg = 100 := by decide
  have H : ∀ r, r < 100 → D.slots[r]? = some (.int (vs.getD r 0)) := fun r hr' => by
    have e : (Int32.ofNat r).toInt = (r : Int) := Int32.toInt_ofNat_of_lt (by omega)
    have nn : ¬ Int32.ofNat r < 0 := fun q => by have := Int32.lt_iff_toInt_lt.mp q; have e0 : (0 : Int32).toInt = 0 := (by decide); omega
    have hrr : (Int32.ofNat r).toNatClampNeg = r := by show (Int32.ofNat r).toInt.toNat = r; rw [e]; rfl
    have u := Cond.all_elim (et []) harrAt hall r (by rw [hs, e100]; exact hr')
    have v := eqv_i (hr r hr') u
    have w := elem_f (et [r]) (a := Term.index 0) (j := Int32.ofNat r) rfl harrAt nn
    rw [hrr] at w
    exact w.symm.trans v
  refine ⟨D.cls, D, A, rfl, hs, by decide, fun i hi => ?_, fun i hi => ?_⟩
  · rw [getD_mapI]; exact H i (by rw [hs, e100] at hi; exact hi)
  · rw [getD_mapI]; exact hf i (by rw [hs, e100] at hi; exact hi)
abbrev mn_40 : MethodName := ⟨"com/example/irama/irama/PrefilterToStringPinLaw", "dg", "(Ljava/lang/String;II[II)Z"⟩
abbrev mn_41 : MethodName := ⟨"com/example/irama/irama/PrefilterToStringPinLaw", "sf", "(Ljava/lang/String;Ljava/lang/String;II)Z"⟩
abbrev mn_34 : MethodName := ⟨"com/example/irama/irama/PrefilterToStringPinLaw", "c", "(Ljava/lang/String;Ljava/lang/String;I)Z"⟩
abbrev mn_1 : MethodName := ⟨"com/example/irama/irama/PrefilterToStringPinLaw", "digits", "(I)I"⟩
abbrev mn_4 : MethodName := ⟨"com/example/irama/irama/Prefilter", "toString", "()Ljava/lang/String;"⟩
abbrev mn_2 : MethodName := ⟨"com/example/irama/irama/Prefilter", "<init>", "(I)V"⟩
abbrev mn_25 : MethodName := ⟨"java/lang/StringBuilder", "toString", "()Ljava/lang/String;"⟩
abbrev mn_26 : MethodName := ⟨"java/lang/String", "<init>", "(Ljava/lang/StringBuilder;)V"⟩
abbrev mn_27 : MethodName := ⟨"java/lang/String", "<init>", "(Ljava/lang/AbstractStringBuilder;Ljava/lang/Void;)V"⟩
abbrev mn_31 : MethodName := ⟨"java/util/Arrays", "copyOfRange", "([BII)[B"⟩
abbrev mn_32 : MethodName := ⟨"java/util/Arrays", "copyOfRangeByte", "([BII)[B"⟩
abbrev mn_33 : MethodName := ⟨"java/util/Arrays", "checkLength", "(II)V"⟩
abbrev mn_29 : MethodName := ⟨"java/lang/StringBuilder", "length", "()I"⟩
abbrev mn_30 : MethodName := ⟨"java/lang/AbstractStringBuilder", "length", "()I"⟩
abbrev mn_28 : MethodName := ⟨"java/lang/AbstractStringBuilder", "getValue", "()[B"⟩
abbrev mn_20 : MethodName := ⟨"java/lang/StringBuilder", "append", "(I)Ljava/lang/StringBuilder;"⟩
abbrev mn_21 : MethodName := ⟨"java/lang/AbstractStringBuilder", "append", "(I)Ljava/lang/AbstractStringBuilder;"⟩
abbrev mn_23 : MethodName := ⟨"java/lang/AbstractStringBuilder", "isLatin1", "()Z"⟩
abbrev mn_24 : MethodName := ⟨"java/lang/Integer", "getChars", "(II[B)I"⟩
abbrev mn_22 : MethodName := ⟨"java/lang/Integer", "stringSize", "(I)I"⟩
abbrev mn_5 : MethodName := ⟨"java/lang/StringBuilder", "<init>", "()V"⟩
abbrev mn_6 : MethodName := ⟨"java/lang/AbstractStringBuilder", "<init>", "(I)V"⟩
abbrev mn_7 : MethodName := ⟨"java/lang/StringBuilder", "append", "(Ljava/lang/String;)Ljava/lang/StringBuilder;"⟩
abbrev mn_8 : MethodName := ⟨"java/lang/AbstractStringBuilder", "append", "(Ljava/lang/String;)Ljava/lang/AbstractStringBuilder;"⟩
abbrev mn_17 : MethodName := ⟨"java/lang/AbstractStringBuilder", "putStringAt", "(ILjava/lang/String;)V"⟩
abbrev mn_19 : MethodName := ⟨"java/lang/String", "getBytes", "([BIB)V"⟩
abbrev mn_35 : MethodName := ⟨"java/lang/String", "charAt", "(I)C"⟩
abbrev mn_37 : MethodName := ⟨"java/lang/StringLatin1", "charAt", "([BI)C"⟩
abbrev mn_38 : MethodName := ⟨"java/lang/String", "checkIndex", "(II)V"⟩
abbrev mn_39 : MethodName := ⟨"jdk/internal/util/Preconditions", "checkIndex", "(IILjava/util/function/BiFunction;)I"⟩
abbrev mn_36 : MethodName := ⟨"java/lang/String", "isLatin1", "()Z"⟩
abbrev mn_9 : MethodName := ⟨"java/lang/String", "length", "()I"⟩
abbrev mn_18 : MethodName := ⟨"java/lang/AbstractStringBuilder", "inflateIfNeededFor", "(Ljava/lang/String;)V"⟩
abbrev mn_10 : MethodName := ⟨"java/lang/String", "coder", "()B"⟩
abbrev mn_11 : MethodName := ⟨"java/lang/AbstractStringBuilder", "ensureCapacityInternal", "(I)V"⟩
abbrev mn_15 : MethodName := ⟨"java/util/Arrays", "copyOf", "([BI)[B"⟩
abbrev mn_12 : MethodName := ⟨"java/lang/AbstractStringBuilder", "newCapacity", "(I)I"⟩
abbrev mn_13 : MethodName := ⟨"jdk/internal/util/ArraysSupport", "newLength", "(III)I"⟩
abbrev mn_16 : MethodName := ⟨"java/lang/Math", "min", "(II)I"⟩
abbrev mn_14 : MethodName := ⟨"java/lang/Math", "max", "(II)I"⟩
theorem d14_0 : decode jdk_29_method_65_code 0 = .ok (.iload_n 0, 1) := by decide +kernel
theorem d14_1 : decode jdk_29_method_65_code 1 = .ok (.iload_n 1, 1) := by decide +kernel
theorem d14_2 : decode jdk_29_method_65_code 2 = .ok (.if_icmp .lt 7, 3) := by decide +kernel
theorem d14_9 : decode jdk_29_method_65_code 9 = .ok (.iload_n 1, 1) := by decide +kernel
theorem d14_10 : decode jdk_29_method_65_code 10 = .ok (.ireturn, 1) := by decide +kernel
theorem d14_5 : decode jdk_29_method_65_code 5 = .ok (.iload_n 0, 1) := by decide +kernel
theorem d14_6 : decode jdk_29_method_65_code 6 = .ok (.goto 4, 3) := by decide +kernel
theorem d16_0 : decode jdk_29_method_69_code 0 = .ok (.iload_n 0, 1) := by decide +kernel
theorem d16_1 : decode jdk_29_method_69_code 1 = .ok (.iload_n 1, 1) := by decide +kernel
theorem d16_2 : decode jdk_29_method_69_code 2 = .ok (.if_icmp .gt 7, 3) := by decide +kernel
theorem d16_9 : decode jdk_29_method_69_code 9 = .ok (.iload_n 1, 1) := by decide +kernel
theorem d16_10 : decode jdk_29_method_69_code 10 = .ok (.ireturn, 1) := by decide +kernel
theorem d16_5 : decode jdk_29_method_69_code 5 = .ok (.iload_n 0, 1) := by decide +kernel
theorem d16_6 : decode jdk_29_method_69_code 6 = .ok (.goto 4, 3) := by decide +kernel
theorem pn_jdk_internal_util_ArraysSupport : plainName "jdk/internal/util/ArraysSupport" = true := by first | (simp [plainName, overriddenIn]; done) | decide +kernel
theorem d13_0 : decode jdk_48_method_27_code 0 = .ok (.iload_n 0, 1) := by decide +kernel
theorem d13_1 : decode jdk_48_method_27_code 1 = .ok (.iload_n 1, 1) := by decide +kernel
theorem d13_2 : decode jdk_48_method_27_code 2 = .ok (.iload_n 2, 1) := by decide +kernel
theorem d13_3 : decode jdk_48_method_27_code 3 = .ok (.invokestatic 194, 3) := by decide +kernel
theorem pd_11 : parseMethodDescriptor "(II)I" = some ⟨[.int, .int], some .int⟩ := by decide +kernel
theorem d13_6 : decode jdk_48_method_27_code 6 = .ok (.iadd, 1) := by decide +kernel
theorem d13_7 : decode jdk_48_method_27_code 7 = .ok (.istore_n 3, 1) := by decide +kernel
theorem d13_8 : decode jdk_48_method_27_code 8 = .ok (.iconst 0, 1) := by decide +kernel
theorem d13_9 : decode jdk_48_method_27_code 9 = .ok (.iload_n 3, 1) := by decide +kernel
theorem d13_10 : decode jdk_48_method_27_code 10 = .ok (.if_icmp .ge 11, 3) := by decide +kernel
theorem d13_13 : decode jdk_48_method_27_code 13 = .ok (.iload_n 3, 1) := by decide +kernel
theorem d13_14 : decode jdk_48_method_27_code 14 = .ok (.ldc 200, 2) := by decide +kernel
theorem d13_16 : decode jdk_48_method_27_code 16 = .ok (.if_icmp .gt 5, 3) := by decide +kernel
theorem d13_19 : decode jdk_48_method_27_code 19 = .ok (.iload_n 3, 1) := by decide +kernel
theorem d13_20 : decode jdk_48_method_27_code 20 = .ok (.ireturn, 1) := by decide +kernel
theorem pn_java_lang_AbstractStringBuilder : plainName "java/lang/AbstractStringBuilder" = true := by first | (simp [plainName, overriddenIn]; done) | decide +kernel
theorem d12_0 : decode jdk_68_method_10_code 0 = .ok (.aload_n 0, 1) := by decide +kernel
theorem d12_1 : decode jdk_68_method_10_code 1 = .ok (.getfield 15, 3) := by decide +kernel
theorem d12_4 : decode jdk_68_method_10_code 4 = .ok (.arraylength, 1) := by decide +kernel
theorem d12_5 : decode jdk_68_method_10_code 5 = .ok (.istore_n 2, 1) := by decide +kernel
theorem d12_6 : decode jdk_68_method_10_code 6 = .ok (.iload_n 1, 1) := by decide +kernel
theorem d12_7 : decode jdk_68_method_10_code 7 = .ok (.aload_n 0, 1) := by decide +kernel
theorem d12_8 : decode jdk_68_method_10_code 8 = .ok (.getfield 22, 3) := by decide +kernel
theorem d12_11 : decode jdk_68_method_10_code 11 = .ok (.ishl, 1) := by decide +kernel
theorem d12_12 : decode jdk_68_method_10_code 12 = .ok (.istore_n 3, 1) := by decide +kernel
theorem d12_13 : decode jdk_68_method_10_code 13 = .ok (.iload_n 3, 1) := by decide +kernel
theorem d12_14 : decode jdk_68_method_10_code 14 = .ok (.iload_n 2, 1) := by decide +kernel
theorem d12_15 : decode jdk_68_method_10_code 15 = .ok (.isub, 1) := by decide +kernel
theorem d12_16 : decode jdk_68_method_10_code 16 = .ok (.istore 4, 2) := by decide +kernel
theorem d12_18 : decode jdk_68_method_10_code 18 = .ok (.iload_n 2, 1) := by decide +kernel
theorem d12_19 : decode jdk_68_method_10_code 19 = .ok (.iload 4, 2) := by decide +kernel
theorem d12_21 : decode jdk_68_method_10_code 21 = .ok (.iload_n 2, 1) := by decide +kernel
theorem d12_22 : decode jdk_68_method_10_code 22 = .ok (.iconst 2, 1) := by decide +kernel
theorem d12_23 : decode jdk_68_method_10_code 23 = .ok (.aload_n 0, 1) := by decide +kernel
theorem d12_24 : decode jdk_68_method_10_code 24 = .ok (.getfield 22, 3) := by decide +kernel
theorem d12_27 : decode jdk_68_method_10_code 27 = .ok (.ishl, 1) := by decide +kernel
theorem d12_28 : decode jdk_68_method_10_code 28 = .ok (.iadd, 1) := by decide +kernel
theorem d12_29 : decode jdk_68_method_10_code 29 = .ok (.invokestatic 114, 3) := by decide +kernel
theorem pd_13 : parseMethodDescriptor "(III)I" = some ⟨[.int, .int, .int], some .int⟩ := by decide +kernel
theorem d12_32 : decode jdk_68_method_10_code 32 = .ok (.istore 5, 2) := by decide +kernel
theorem d12_34 : decode jdk_68_method_10_code 34 = .ok (.iload 5, 2) := by decide +kernel
theorem d12_36 : decode jdk_68_method_10_code 36 = .ok (.ldc 39, 2) := by decide +kernel
theorem d12_38 : decode jdk_68_method_10_code 38 = .ok (.if_icmp .ne 13, 3) := by decide +kernel
theorem d12_51 : decode jdk_68_method_10_code 51 = .ok (.iload 5, 2) := by decide +kernel
theorem d12_53 : decode jdk_68_method_10_code 53 = .ok (.aload_n 0, 1) := by decide +kernel
theorem d12_54 : decode jdk_68_method_10_code 54 = .ok (.getfield 22, 3) := by decide +kernel
theorem d12_57 : decode jdk_68_method_10_code 57 = .ok (.ishr, 1) := by decide +kernel
theorem d12_58 : decode jdk_68_method_10_code 58 = .ok (.ireturn, 1) := by decide +kernel
theorem pn_java_util_Arrays : plainName "java/util/Arrays" = true := by first | (simp [plainName, overriddenIn]; done) | decide +kernel
theorem d15_0 : decode jdk_65_method_121_code 0 = .ok (.iload_n 1, 1) := by decide +kernel
theorem d15_1 : decode jdk_65_method_121_code 1 = .ok (.aload_n 0, 1) := by decide +kernel
theorem d15_2 : decode jdk_65_method_121_code 2 = .ok (.arraylength, 1) := by decide +kernel
theorem d15_3 : decode jdk_65_method_121_code 3 = .ok (.if_icmp .ne 11, 3) := by decide +kernel
theorem d15_14 : decode jdk_65_method_121_code 14 = .ok (.iload_n 1, 1) := by decide +kernel
theorem d15_15 : decode jdk_65_method_121_code 15 = .ok (.newarray .byte, 2) := by decide +kernel
theorem d15_17 : decode jdk_65_method_121_code 17 = .ok (.astore_n 2, 1) := by decide +kernel
theorem d15_18 : decode jdk_65_method_121_code 18 = .ok (.aload_n 0, 1) := by decide +kernel
theorem d15_19 : decode jdk_65_method_121_code 19 = .ok (.iconst 0, 1) := by decide +kernel
theorem d15_20 : decode jdk_65_method_121_code 20 = .ok (.aload_n 2, 1) := by decide +kernel
theorem d15_21 : decode jdk_65_method_121_code 21 = .ok (.iconst 0, 1) := by decide +kernel
theorem d15_22 : decode jdk_65_method_121_code 22 = .ok (.aload_n 0, 1) := by decide +kernel
theorem d15_23 : decode jdk_65_method_121_code 23 = .ok (.arraylength, 1) := by decide +kernel
theorem d15_24 : decode jdk_65_method_121_code 24 = .ok (.iload_n 1, 1) := by decide +kernel
theorem d15_25 : decode jdk_65_method_121_code 25 = .ok (.invokestatic 304, 3) := by decide +kernel
theorem d15_28 : decode jdk_65_method_121_code 28 = .ok (.invokestatic 150, 3) := by decide +kernel
theorem d15_31 : decode jdk_65_method_121_code 31 = .ok (.aload_n 2, 1) := by decide +kernel
theorem d15_32 : decode jdk_65_method_121_code 32 = .ok (.areturn, 1) := by decide +kernel
theorem d11_0 : decode jdk_68_method_9_code 0 = .ok (.aload_n 0, 1) := by decide +kernel
theorem d11_1 : decode jdk_68_method_9_code 1 = .ok (.getfield 15, 3) := by decide +kernel
theorem d11_4 : decode jdk_68_method_9_code 4 = .ok (.arraylength, 1) := by decide +kernel
theorem d11_5 : decode jdk_68_method_9_code 5 = .ok (.aload_n 0, 1) := by decide +kernel
theorem d11_6 : decode jdk_68_method_9_code 6 = .ok (.getfield 22, 3) := by decide +kernel
theorem d11_9 : decode jdk_68_method_9_code 9 = .ok (.ishr, 1) := by decide +kernel
theorem d11_10 : decode jdk_68_method_9_code 10 = .ok (.istore_n 2, 1) := by decide +kernel
theorem d11_11 : decode jdk_68_method_9_code 11 = .ok (.iload_n 1, 1) := by decide +kernel
theorem d11_12 : decode jdk_68_method_9_code 12 = .ok (.iload_n 2, 1) := by decide +kernel
theorem d11_13 : decode jdk_68_method_9_code 13 = .ok (.isub, 1) := by decide +kernel
theorem d11_14 : decode jdk_68_method_9_code 14 = .ok (.ifCond .le 24, 3) := by decide +kernel
theorem d11_17 : decode jdk_68_method_9_code 17 = .ok (.aload_n 0, 1) := by decide +kernel
theorem d11_18 : decode jdk_68_method_9_code 18 = .ok (.aload_n 0, 1) := by decide +kernel
theorem d11_19 : decode jdk_68_method_9_code 19 = .ok (.getfield 15, 3) := by decide +kernel
theorem d11_22 : decode jdk_68_method_9_code 22 = .ok (.aload_n 0, 1) := by decide +kernel
theorem d11_23 : decode jdk_68_method_9_code 23 = .ok (.iload_n 1, 1) := by decide +kernel
theorem d11_24 : decode jdk_68_method_9_code 24 = .ok (.invokevirtual 104, 3) := by decide +kernel
theorem pd_7 : parseMethodDescriptor "(I)I" = some ⟨[.int], some .int⟩ := by decide +kernel
theorem d11_27 : decode jdk_68_method_9_code 27 = .ok (.aload_n 0, 1) := by decide +kernel
theorem d11_28 : decode jdk_68_method_9_code 28 = .ok (.getfield 22, 3) := by decide +kernel
theorem d11_31 : decode jdk_68_method_9_code 31 = .ok (.ishl, 1) := by decide +kernel
theorem d11_32 : decode jdk_68_method_9_code 32 = .ok (.invokestatic 108, 3) := by decide +kernel
theorem pd_27 : parseMethodDescriptor "([BI)[B" = some ⟨[(.array .byte), .int], some (.array .byte)⟩ := by decide +kernel
theorem d11_35 : decode jdk_68_method_9_code 35 = .ok (.putfield 15, 3) := by decide +kernel
theorem d11_38 : decode jdk_68_method_9_code 38 = .ok (.return_, 1) := by decide +kernel
theorem pn_java_lang_String : plainName "java/lang/String" = true := by first | (simp [plainName, overriddenIn]; done) | decide +kernel
theorem d10_0 : decode jdk_42_method_152_code 0 = .ok (.getstatic 38, 3) := by decide +kernel
theorem d10_3 : decode jdk_42_method_152_code 3 = .ok (.ifCond .eq 10, 3) := by decide +kernel
theorem d10_6 : decode jdk_42_method_152_code 6 = .ok (.aload_n 0, 1) := by decide +kernel
theorem d10_7 : decode jdk_42_method_152_code 7 = .ok (.getfield 15, 3) := by decide +kernel
theorem d10_10 : decode jdk_42_method_152_code 10 = .ok (.goto 4, 3) := by decide +kernel
theorem d10_14 : decode jdk_42_method_152_code 14 = .ok (.ireturn, 1) := by decide +kernel
theorem d18_0 : decode jdk_68_method_71_code 0 = .ok (.getstatic 18, 3) := by decide +kernel
theorem d18_3 : decode jdk_68_method_71_code 3 = .ok (.ifCond .eq 18, 3) := by decide +kernel
theorem d18_6 : decode jdk_68_method_71_code 6 = .ok (.aload_n 0, 1) := by decide +kernel
theorem d18_7 : decode jdk_68_method_71_code 7 = .ok (.getfield 22, 3) := by decide +kernel
theorem d18_10 : decode jdk_68_method_71_code 10 = .ok (.aload_n 1, 1) := by decide +kernel
theorem d18_11 : decode jdk_68_method_71_code 11 = .ok (.invokevirtual 40, 3) := by decide +kernel
theorem pd_0 : parseMethodDescriptor "()B" = some ⟨[], some .byte⟩ := by decide +kernel
theorem d18_14 : decode jdk_68_method_71_code 14 = .ok (.if_icmp .eq 7, 3) := by decide +kernel
theorem d18_21 : decode jdk_68_method_71_code 21 = .ok (.return_, 1) := by decide +kernel
theorem d9_0 : decode jdk_42_method_54_code 0 = .ok (.aload_n 0, 1) := by decide +kernel
theorem d9_1 : decode jdk_42_method_54_code 1 = .ok (.getfield 9, 3) := by decide +kernel
theorem d9_4 : decode jdk_42_method_54_code 4 = .ok (.arraylength, 1) := by decide +kernel
theorem d9_5 : decode jdk_42_method_54_code 5 = .ok (.aload_n 0, 1) := by decide +kernel
theorem d9_6 : decode jdk_42_method_54_code 6 = .ok (.invokevirtual 335, 3) := by decide +kernel
theorem d9_9 : decode jdk_42_method_54_code 9 = .ok (.ishr, 1) := by decide +kernel
theorem d9_10 : decode jdk_42_method_54_code 10 = .ok (.ireturn, 1) := by decide +kernel
theorem d36_0 : decode jdk_42_method_154_code 0 = .ok (.getstatic 38, 3) := by decide +kernel
theorem d36_3 : decode jdk_42_method_154_code 3 = .ok (.ifCond .eq 14, 3) := by decide +kernel
theorem d36_6 : decode jdk_42_method_154_code 6 = .ok (.aload_n 0, 1) := by decide +kernel
theorem d36_7 : decode jdk_42_method_154_code 7 = .ok (.getfield 15, 3) := by decide +kernel
theorem d36_10 : decode jdk_42_method_154_code 10 = .ok (.ifCond .ne 7, 3) := by decide +kernel
theorem d36_13 : decode jdk_42_method_154_code 13 = .ok (.iconst 1, 1) := by decide +kernel
theorem d36_14 : decode jdk_42_method_154_code 14 = .ok (.goto 4, 3) := by decide +kernel
theorem d36_18 : decode jdk_42_method_154_code 18 = .ok (.ireturn, 1) := by decide +kernel
theorem pn_jdk_internal_util_Preconditions : plainName "jdk/internal/util/Preconditions" = true := by first | (simp [plainName, overriddenIn]; done) | decide +kernel
theorem d39_0 : decode jdk_41_method_11_code 0 = .ok (.iload_n 0, 1) := by decide +kernel
theorem d39_1 : decode jdk_41_method_11_code 1 = .ok (.ifCond .lt 8, 3) := by decide +kernel
theorem d39_4 : decode jdk_41_method_11_code 4 = .ok (.iload_n 0, 1) := by decide +kernel
theorem d39_5 : decode jdk_41_method_11_code 5 = .ok (.iload_n 1, 1) := by decide +kernel
theorem d39_6 : decode jdk_41_method_11_code 6 = .ok (.if_icmp .lt 10, 3) := by decide +kernel
theorem d39_16 : decode jdk_41_method_11_code 16 = .ok (.iload_n 0, 1) := by decide +kernel
theorem d39_17 : decode jdk_41_method_11_code 17 = .ok (.ireturn, 1) := by decide +kernel
theorem d38_0 : decode jdk_42_method_155_code 0 = .ok (.iload_n 0, 1) := by decide +kernel
theorem d38_1 : decode jdk_42_method_155_code 1 = .ok (.iload_n 1, 1) := by decide +kernel
theorem d38_2 : decode jdk_42_method_155_code 2 = .ok (.getstatic 1053, 3) := by decide +kernel
theorem d38_5 : decode jdk_42_method_155_code 5 = .ok (.invokestatic 1059, 3) := by decide +kernel
theorem pd_14 : parseMethodDescriptor "(IILjava/util/function/BiFunction;)I" = some ⟨[.int, .int, (.object "java/util/function/BiFunction")], some .int⟩ := by decide +kernel
theorem d38_8 : decode jdk_42_method_155_code 8 = .ok (.pop, 1) := by decide +kernel
theorem d38_9 : decode jdk_42_method_155_code 9 = .ok (.return_, 1) := by decide +kernel
theorem pn_java_lang_StringLatin1 : plainName "java/lang/StringLatin1" = true := by first | (simp [plainName, overriddenIn]; done) | decide +kernel
theorem d37_0 : decode jdk_43_method_2_code 0 = .ok (.iload_n 1, 1) := by decide +kernel
theorem d37_1 : decode jdk_43_method_2_code 1 = .ok (.aload_n 0, 1) := by decide +kernel
theorem d37_2 : decode jdk_43_method_2_code 2 = .ok (.arraylength, 1) := by decide +kernel
theorem d37_3 : decode jdk_43_method_2_code 3 = .ok (.invokestatic 9, 3) := by decide +kernel
theorem pd_12 : parseMethodDescriptor "(II)V" = some ⟨[.int, .int], none⟩ := by decide +kernel
theorem d37_6 : decode jdk_43_method_2_code 6 = .ok (.aload_n 0, 1) := by decide +kernel
theorem d37_7 : decode jdk_43_method_2_code 7 = .ok (.iload_n 1, 1) := by decide +kernel
theorem d37_8 : decode jdk_43_method_2_code 8 = .ok (.baload, 1) := by decide +kernel
theorem d37_9 : decode jdk_43_method_2_code 9 = .ok (.sipush 255, 3) := by decide +kernel
theorem d37_12 : decode jdk_43_method_2_code 12 = .ok (.iand, 1) := by decide +kernel
theorem d37_13 : decode jdk_43_method_2_code 13 = .ok (.i2c, 1) := by decide +kernel
theorem d37_14 : decode jdk_43_method_2_code 14 = .ok (.ireturn, 1) := by decide +kernel
theorem d35_0 : decode jdk_42_method_56_code 0 = .ok (.aload_n 0, 1) := by decide +kernel
theorem d35_1 : decode jdk_42_method_56_code 1 = .ok (.invokevirtual 492, 3) := by decide +kernel
theorem pd_4 : parseMethodDescriptor "()Z" = some ⟨[], some .boolean⟩ := by decide +kernel
theorem d35_4 : decode jdk_42_method_56_code 4 = .ok (.ifCond .eq 12, 3) := by decide +kernel
theorem d35_7 : decode jdk_42_method_56_code 7 = .ok (.aload_n 0, 1) := by decide +kernel
theorem d35_8 : decode jdk_42_method_56_code 8 = .ok (.getfield 9, 3) := by decide +kernel
theorem d35_11 : decode jdk_42_method_56_code 11 = .ok (.iload_n 1, 1) := by decide +kernel
theorem d35_12 : decode jdk_42_method_56_code 12 = .ok (.invokestatic 495, 3) := by decide +kernel
theorem pd_26 : parseMethodDescriptor "([BI)C" = some ⟨[(.array .byte), .int], some .char⟩ := by decide +kernel
theorem d35_15 : decode jdk_42_method_56_code 15 = .ok (.ireturn, 1) := by decide +kernel
theorem d19_0 : decode jdk_42_method_147_code 0 = .ok (.aload_n 0, 1) := by decide +kernel
theorem d19_1 : decode jdk_42_method_147_code 1 = .ok (.invokevirtual 335, 3) := by decide +kernel
theorem d19_4 : decode jdk_42_method_147_code 4 = .ok (.iload_n 3, 1) := by decide +kernel
theorem d19_5 : decode jdk_42_method_147_code 5 = .ok (.if_icmp .ne 23, 3) := by decide +kernel
theorem d19_8 : decode jdk_42_method_147_code 8 = .ok (.aload_n 0, 1) := by decide +kernel
theorem d19_9 : decode jdk_42_method_147_code 9 = .ok (.getfield 9, 3) := by decide +kernel
theorem d19_12 : decode jdk_42_method_147_code 12 = .ok (.iconst 0, 1) := by decide +kernel
theorem d19_13 : decode jdk_42_method_147_code 13 = .ok (.aload_n 1, 1) := by decide +kernel
theorem d19_14 : decode jdk_42_method_147_code 14 = .ok (.iload_n 2, 1) := by decide +kernel
theorem d19_15 : decode jdk_42_method_147_code 15 = .ok (.iload_n 3, 1) := by decide +kernel
theorem d19_16 : decode jdk_42_method_147_code 16 = .ok (.ishl, 1) := by decide +kernel
theorem d19_17 : decode jdk_42_method_147_code 17 = .ok (.aload_n 0, 1) := by decide +kernel
theorem d19_18 : decode jdk_42_method_147_code 18 = .ok (.getfield 9, 3) := by decide +kernel
theorem d19_21 : decode jdk_42_method_147_code 21 = .ok (.arraylength, 1) := by decide +kernel
theorem d19_22 : decode jdk_42_method_147_code 22 = .ok (.invokestatic 212, 3) := by decide +kernel
theorem d19_25 : decode jdk_42_method_147_code 25 = .ok (.goto 18, 3) := by decide +kernel
theorem d19_43 : decode jdk_42_method_147_code 43 = .ok (.return_, 1) := by decide +kernel
theorem d17_0 : decode jdk_68_method_73_code 0 = .ok (.aload_n 0, 1) := by decide +kernel
theorem d17_1 : decode jdk_68_method_73_code 1 = .ok (.aload_n 2, 1) := by decide +kernel
theorem d17_2 : decode jdk_68_method_73_code 2 = .ok (.invokevirtual 397, 3) := by decide +kernel
theorem pd_21 : parseMethodDescriptor "(Ljava/lang/String;)V" = some ⟨[(.object "java/lang/String")], none⟩ := by decide +kernel
theorem d17_5 : decode jdk_68_method_73_code 5 = .ok (.aload_n 2, 1) := by decide +kernel
theorem d17_6 : decode jdk_68_method_73_code 6 = .ok (.aload_n 0, 1) := by decide +kernel
theorem d17_7 : decode jdk_68_method_73_code 7 = .ok (.getfield 15, 3) := by decide +kernel
theorem d17_10 : decode jdk_68_method_73_code 10 = .ok (.iload_n 1, 1) := by decide +kernel
theorem d17_11 : decode jdk_68_method_73_code 11 = .ok (.aload_n 0, 1) := by decide +kernel
theorem d17_12 : decode jdk_68_method_73_code 12 = .ok (.getfield 22, 3) := by decide +kernel
theorem d17_15 : decode jdk_68_method_73_code 15 = .ok (.invokevirtual 399, 3) := by decide +kernel
theorem pd_28 : parseMethodDescriptor "([BIB)V" = some ⟨[(.array .byte), .int, .byte], none⟩ := by decide +kernel
theorem d17_18 : decode jdk_68_method_73_code 18 = .ok (.return_, 1) := by decide +kernel
theorem d8_0 : decode jdk_68_method_22_code 0 = .ok (.aload_n 1, 1) := by decide +kernel
theorem d8_1 : decode jdk_68_method_22_code 1 = .ok (.ifnonnull 8, 3) := by decide +kernel
theorem d8_9 : decode jdk_68_method_22_code 9 = .ok (.aload_n 1, 1) := by decide +kernel
theorem d8_10 : decode jdk_68_method_22_code 10 = .ok (.invokevirtual 32, 3) := by decide +kernel
theorem pd_1 : parseMethodDescriptor "()I" = some ⟨[], some .int⟩ := by decide +kernel
theorem d8_13 : decode jdk_68_method_22_code 13 = .ok (.istore_n 2, 1) := by decide +kernel
theorem d8_14 : decode jdk_68_method_22_code 14 = .ok (.aload_n 0, 1) := by decide +kernel
theorem d8_15 : decode jdk_68_method_22_code 15 = .ok (.aload_n 0, 1) := by decide +kernel
theorem d8_16 : decode jdk_68_method_22_code 16 = .ok (.getfield 79, 3) := by decide +kernel
theorem d8_19 : decode jdk_68_method_22_code 19 = .ok (.iload_n 2, 1) := by decide +kernel
theorem d8_20 : decode jdk_68_method_22_code 20 = .ok (.iadd, 1) := by decide +kernel
theorem d8_21 : decode jdk_68_method_22_code 21 = .ok (.invokevirtual 100, 3) := by decide +kernel
theorem pd_10 : parseMethodDescriptor "(I)V" = some ⟨[.int], none⟩ := by decide +kernel
theorem d8_24 : decode jdk_68_method_22_code 24 = .ok (.aload_n 0, 1) := by decide +kernel
theorem d8_25 : decode jdk_68_method_22_code 25 = .ok (.aload_n 0, 1) := by decide +kernel
theorem d8_26 : decode jdk_68_method_22_code 26 = .ok (.getfield 79, 3) := by decide +kernel
theorem d8_29 : decode jdk_68_method_22_code 29 = .ok (.aload_n 1, 1) := by decide +kernel
theorem d8_30 : decode jdk_68_method_22_code 30 = .ok (.invokevirtual 208, 3) := by decide +kernel
theorem pd_16 : parseMethodDescriptor "(ILjava/lang/String;)V" = some ⟨[.int, (.object "java/lang/String")], none⟩ := by decide +kernel
theorem d8_33 : decode jdk_68_method_22_code 33 = .ok (.aload_n 0, 1) := by decide +kernel
theorem d8_34 : decode jdk_68_method_22_code 34 = .ok (.dup, 1) := by decide +kernel
theorem d8_35 : decode jdk_68_method_22_code 35 = .ok (.getfield 79, 3) := by decide +kernel
theorem d8_38 : decode jdk_68_method_22_code 38 = .ok (.iload_n 2, 1) := by decide +kernel
theorem d8_39 : decode jdk_68_method_22_code 39 = .ok (.iadd, 1) := by decide +kernel
theorem d8_40 : decode jdk_68_method_22_code 40 = .ok (.putfield 79, 3) := by decide +kernel
theorem d8_43 : decode jdk_68_method_22_code 43 = .ok (.aload_n 0, 1) := by decide +kernel
theorem d8_44 : decode jdk_68_method_22_code 44 = .ok (.areturn, 1) := by decide +kernel
theorem pn_java_lang_StringBuilder : plainName "java/lang/StringBuilder" = true := by first | (simp [plainName, overriddenIn]; done) | decide +kernel
theorem d7_0 : decode jdk_67_method_7_code 0 = .ok (.aload_n 0, 1) := by decide +kernel
theorem d7_1 : decode jdk_67_method_7_code 1 = .ok (.aload_n 1, 1) := by decide +kernel
theorem d7_2 : decode jdk_67_method_7_code 2 = .ok (.invokespecial 29, 3) := by decide +kernel
theorem pd_19 : parseMethodDescriptor "(Ljava/lang/String;)Ljava/lang/AbstractStringBuilder;" = some ⟨[(.object "java/lang/String")], some (.object "java/lang/AbstractStringBuilder")⟩ := by decide +kernel
theorem d7_5 : decode jdk_67_method_7_code 5 = .ok (.pop, 1) := by decide +kernel
theorem d7_6 : decode jdk_67_method_7_code 6 = .ok (.aload_n 0, 1) := by decide +kernel
theorem d7_7 : decode jdk_67_method_7_code 7 = .ok (.areturn, 1) := by decide +kernel
theorem d6_0 : decode jdk_68_method_2_code 0 = .ok (.aload_n 0, 1) := by decide +kernel
theorem d6_1 : decode jdk_68_method_2_code 1 = .ok (.invokespecial 3, 3) := by decide +kernel
theorem d6_4 : decode jdk_68_method_2_code 4 = .ok (.getstatic 18, 3) := by decide +kernel
theorem d6_7 : decode jdk_68_method_2_code 7 = .ok (.ifCond .eq 18, 3) := by decide +kernel
theorem d6_10 : decode jdk_68_method_2_code 10 = .ok (.aload_n 0, 1) := by decide +kernel
theorem d6_11 : decode jdk_68_method_2_code 11 = .ok (.iload_n 1, 1) := by decide +kernel
theorem d6_12 : decode jdk_68_method_2_code 12 = .ok (.newarray .byte, 2) := by decide +kernel
theorem d6_14 : decode jdk_68_method_2_code 14 = .ok (.putfield 15, 3) := by decide +kernel
theorem d6_17 : decode jdk_68_method_2_code 17 = .ok (.aload_n 0, 1) := by decide +kernel
theorem d6_18 : decode jdk_68_method_2_code 18 = .ok (.iconst 0, 1) := by decide +kernel
theorem d6_19 : decode jdk_68_method_2_code 19 = .ok (.putfield 22, 3) := by decide +kernel
theorem d6_22 : decode jdk_68_method_2_code 22 = .ok (.goto 16, 3) := by decide +kernel
theorem d6_38 : decode jdk_68_method_2_code 38 = .ok (.return_, 1) := by decide +kernel
theorem d5_0 : decode jdk_67_method_1_code 0 = .ok (.aload_n 0, 1) := by decide +kernel
theorem d5_1 : decode jdk_67_method_1_code 1 = .ok (.bipush 16, 2) := by decide +kernel
theorem d5_3 : decode jdk_67_method_1_code 3 = .ok (.invokespecial 1, 3) := by decide +kernel
theorem d5_6 : decode jdk_67_method_1_code 6 = .ok (.return_, 1) := by decide +kernel
theorem pn_java_lang_Integer : plainName "java/lang/Integer" = true := by first | (simp [plainName, overriddenIn]; done) | decide +kernel
theorem d22_0 : decode jdk_33_method_13_code 0 = .ok (.iconst 1, 1) := by decide +kernel
theorem d22_1 : decode jdk_33_method_13_code 1 = .ok (.istore_n 1, 1) := by decide +kernel
theorem d22_2 : decode jdk_33_method_13_code 2 = .ok (.iload_n 0, 1) := by decide +kernel
theorem d22_3 : decode jdk_33_method_13_code 3 = .ok (.ifCond .lt 8, 3) := by decide +kernel
theorem d22_6 : decode jdk_33_method_13_code 6 = .ok (.iconst 0, 1) := by decide +kernel
theorem d22_7 : decode jdk_33_method_13_code 7 = .ok (.istore_n 1, 1) := by decide +kernel
theorem d22_8 : decode jdk_33_method_13_code 8 = .ok (.iload_n 0, 1) := by decide +kernel
theorem d22_9 : decode jdk_33_method_13_code 9 = .ok (.ineg, 1) := by decide +kernel
theorem d22_10 : decode jdk_33_method_13_code 10 = .ok (.istore_n 0, 1) := by decide +kernel
theorem d22_11 : decode jdk_33_method_13_code 11 = .ok (.bipush (-10), 2) := by decide +kernel
theorem d22_13 : decode jdk_33_method_13_code 13 = .ok (.istore_n 2, 1) := by decide +kernel
theorem d22_14 : decode jdk_33_method_13_code 14 = .ok (.iconst 1, 1) := by decide +kernel
theorem d22_15 : decode jdk_33_method_13_code 15 = .ok (.istore_n 3, 1) := by decide +kernel
theorem d22_16 : decode jdk_33_method_13_code 16 = .ok (.iload_n 3, 1) := by decide +kernel
theorem d22_17 : decode jdk_33_method_13_code 17 = .ok (.bipush 10, 2) := by decide +kernel
theorem d22_19 : decode jdk_33_method_13_code 19 = .ok (.if_icmp .ge 23, 3) := by decide +kernel
theorem d22_22 : decode jdk_33_method_13_code 22 = .ok (.iload_n 0, 1) := by decide +kernel
theorem d22_23 : decode jdk_33_method_13_code 23 = .ok (.iload_n 2, 1) := by decide +kernel
theorem d22_24 : decode jdk_33_method_13_code 24 = .ok (.if_icmp .le 7, 3) := by decide +kernel
theorem d22_27 : decode jdk_33_method_13_code 27 = .ok (.iload_n 3, 1) := by decide +kernel
theorem d22_28 : decode jdk_33_method_13_code 28 = .ok (.iload_n 1, 1) := by decide +kernel
theorem d22_29 : decode jdk_33_method_13_code 29 = .ok (.iadd, 1) := by decide +kernel
theorem d22_30 : decode jdk_33_method_13_code 30 = .ok (.ireturn, 1) := by decide +kernel
theorem d22_31 : decode jdk_33_method_13_code 31 = .ok (.bipush 10, 2) := by decide +kernel
theorem d22_33 : decode jdk_33_method_13_code 33 = .ok (.iload_n 2, 1) := by decide +kernel
theorem d22_34 : decode jdk_33_method_13_code 34 = .ok (.imul, 1) := by decide +kernel
theorem d22_35 : decode jdk_33_method_13_code 35 = .ok (.istore_n 2, 1) := by decide +kernel
theorem d22_36 : decode jdk_33_method_13_code 36 = .ok (.iinc 3 1, 3) := by decide +kernel
theorem d22_39 : decode jdk_33_method_13_code 39 = .ok (.goto (-23), 3) := by decide +kernel
theorem d22_42 : decode jdk_33_method_13_code 42 = .ok (.bipush 10, 2) := by decide +kernel
theorem d22_44 : decode jdk_33_method_13_code 44 = .ok (.iload_n 1, 1) := by decide +kernel
theorem d22_45 : decode jdk_33_method_13_code 45 = .ok (.iadd, 1) := by decide +kernel
theorem d22_46 : decode jdk_33_method_13_code 46 = .ok (.ireturn, 1) := by decide +kernel
theorem d24_22 : decode jdk_33_method_12_code 22 = .ok (.iload_n 0, 1) := by decide +kernel
theorem d24_23 : decode jdk_33_method_12_code 23 = .ok (.bipush (-100), 2) := by decide +kernel
theorem d24_25 : decode jdk_33_method_12_code 25 = .ok (.if_icmp .gt 47, 3) := by decide +kernel
theorem d24_28 : decode jdk_33_method_12_code 28 = .ok (.iload_n 0, 1) := by decide +kernel
theorem d24_29 : decode jdk_33_method_12_code 29 = .ok (.bipush 100, 2) := by decide +kernel
theorem d24_31 : decode jdk_33_method_12_code 31 = .ok (.idiv, 1) := by decide +kernel
theorem d24_32 : decode jdk_33_method_12_code 32 = .ok (.istore_n 3, 1) := by decide +kernel
theorem d24_33 : decode jdk_33_method_12_code 33 = .ok (.iload_n 3, 1) := by decide +kernel
theorem d24_34 : decode jdk_33_method_12_code 34 = .ok (.bipush 100, 2) := by decide +kernel
theorem d24_36 : decode jdk_33_method_12_code 36 = .ok (.imul, 1) := by decide +kernel
theorem d24_37 : decode jdk_33_method_12_code 37 = .ok (.iload_n 0, 1) := by decide +kernel
theorem d24_38 : decode jdk_33_method_12_code 38 = .ok (.isub, 1) := by decide +kernel
theorem d24_39 : decode jdk_33_method_12_code 39 = .ok (.istore 4, 2) := by decide +kernel
theorem d24_41 : decode jdk_33_method_12_code 41 = .ok (.iload_n 3, 1) := by decide +kernel
theorem d24_42 : decode jdk_33_method_12_code 42 = .ok (.istore_n 0, 1) := by decide +kernel
theorem d24_43 : decode jdk_33_method_12_code 43 = .ok (.aload_n 2, 1) := by decide +kernel
theorem d24_44 : decode jdk_33_method_12_code 44 = .ok (.iinc 5 (-1), 3) := by decide +kernel
theorem d24_47 : decode jdk_33_method_12_code 47 = .ok (.iload 5, 2) := by decide +kernel
theorem d24_49 : decode jdk_33_method_12_code 49 = .ok (.getstatic 83, 3) := by decide +kernel
theorem d24_52 : decode jdk_33_method_12_code 52 = .ok (.iload 4, 2) := by decide +kernel
theorem d24_54 : decode jdk_33_method_12_code 54 = .ok (.baload, 1) := by decide +kernel
theorem d24_55 : decode jdk_33_method_12_code 55 = .ok (.bastore, 1) := by decide +kernel
theorem d24_56 : decode jdk_33_method_12_code 56 = .ok (.aload_n 2, 1) := by decide +kernel
theorem d24_57 : decode jdk_33_method_12_code 57 = .ok (.iinc 5 (-1), 3) := by decide +kernel
theorem d24_60 : decode jdk_33_method_12_code 60 = .ok (.iload 5, 2) := by decide +kernel
theorem d24_62 : decode jdk_33_method_12_code 62 = .ok (.getstatic 87, 3) := by decide +kernel
theorem d24_65 : decode jdk_33_method_12_code 65 = .ok (.iload 4, 2) := by decide +kernel
theorem d24_67 : decode jdk_33_method_12_code 67 = .ok (.baload, 1) := by decide +kernel
theorem d24_68 : decode jdk_33_method_12_code 68 = .ok (.bastore, 1) := by decide +kernel
theorem d24_69 : decode jdk_33_method_12_code 69 = .ok (.goto (-47), 3) := by decide +kernel
theorem d24_72 : decode jdk_33_method_12_code 72 = .ok (.aload_n 2, 1) := by decide +kernel
theorem d24_73 : decode jdk_33_method_12_code 73 = .ok (.iinc 5 (-1), 3) := by decide +kernel
theorem d24_76 : decode jdk_33_method_12_code 76 = .ok (.iload 5, 2) := by decide +kernel
theorem d24_78 : decode jdk_33_method_12_code 78 = .ok (.getstatic 83, 3) := by decide +kernel
theorem d24_81 : decode jdk_33_method_12_code 81 = .ok (.iload_n 0, 1) := by decide +kernel
theorem d24_82 : decode jdk_33_method_12_code 82 = .ok (.ineg, 1) := by decide +kernel
theorem d24_83 : decode jdk_33_method_12_code 83 = .ok (.baload, 1) := by decide +kernel
theorem d24_84 : decode jdk_33_method_12_code 84 = .ok (.bastore, 1) := by decide +kernel
theorem d24_85 : decode jdk_33_method_12_code 85 = .ok (.iload_n 0, 1) := by decide +kernel
theorem d24_86 : decode jdk_33_method_12_code 86 = .ok (.bipush (-9), 2) := by decide +kernel
theorem d24_88 : decode jdk_33_method_12_code 88 = .ok (.if_icmp .ge 16, 3) := by decide +kernel
theorem d24_91 : decode jdk_33_method_12_code 91 = .ok (.aload_n 2, 1) := by decide +kernel
theorem d24_92 : decode jdk_33_method_12_code 92 = .ok (.iinc 5 (-1), 3) := by decide +kernel
theorem d24_95 : decode jdk_33_method_12_code 95 = .ok (.iload 5, 2) := by decide +kernel
theorem d24_97 : decode jdk_33_method_12_code 97 = .ok (.getstatic 87, 3) := by decide +kernel
theorem d24_100 : decode jdk_33_method_12_code 100 = .ok (.iload_n 0, 1) := by decide +kernel
theorem d24_101 : decode jdk_33_method_12_code 101 = .ok (.ineg, 1) := by decide +kernel
theorem d24_102 : decode jdk_33_method_12_code 102 = .ok (.baload, 1) := by decide +kernel
theorem d24_103 : decode jdk_33_method_12_code 103 = .ok (.bastore, 1) := by decide +kernel
theorem d24_104 : decode jdk_33_method_12_code 104 = .ok (.iload 6, 2) := by decide +kernel
theorem d24_106 : decode jdk_33_method_12_code 106 = .ok (.ifCond .eq 12, 3) := by decide +kernel
theorem d24_118 : decode jdk_33_method_12_code 118 = .ok (.iload 5, 2) := by decide +kernel
theorem d24_120 : decode jdk_33_method_12_code 120 = .ok (.ireturn, 1) := by decide +kernel
theorem d24_0 : decode jdk_33_method_12_code 0 = .ok (.iload_n 1, 1) := by decide +kernel
theorem d24_1 : decode jdk_33_method_12_code 1 = .ok (.istore 5, 2) := by decide +kernel
theorem d24_3 : decode jdk_33_method_12_code 3 = .ok (.iload_n 0, 1) := by decide +kernel
theorem d24_4 : decode jdk_33_method_12_code 4 = .ok (.ifCond .ge 7, 3) := by decide +kernel
theorem d24_11 : decode jdk_33_method_12_code 11 = .ok (.iconst 0, 1) := by decide +kernel
theorem d24_12 : decode jdk_33_method_12_code 12 = .ok (.istore 6, 2) := by decide +kernel
theorem d24_14 : decode jdk_33_method_12_code 14 = .ok (.iload 6, 2) := by decide +kernel
theorem d24_16 : decode jdk_33_method_12_code 16 = .ok (.ifCond .ne 6, 3) := by decide +kernel
theorem d24_19 : decode jdk_33_method_12_code 19 = .ok (.iload_n 0, 1) := by decide +kernel
theorem d24_20 : decode jdk_33_method_12_code 20 = .ok (.ineg, 1) := by decide +kernel
theorem d24_21 : decode jdk_33_method_12_code 21 = .ok (.istore_n 0, 1) := by decide +kernel
theorem d23_0 : decode jdk_68_method_68_code 0 = .ok (.getstatic 18, 3) := by decide +kernel
theorem d23_3 : decode jdk_68_method_68_code 3 = .ok (.ifCond .eq 14, 3) := by decide +kernel
theorem d23_6 : decode jdk_68_method_68_code 6 = .ok (.aload_n 0, 1) := by decide +kernel
theorem d23_7 : decode jdk_68_method_68_code 7 = .ok (.getfield 22, 3) := by decide +kernel
theorem d23_10 : decode jdk_68_method_68_code 10 = .ok (.ifCond .ne 7, 3) := by decide +kernel
theorem d23_13 : decode jdk_68_method_68_code 13 = .ok (.iconst 1, 1) := by decide +kernel
theorem d23_14 : decode jdk_68_method_68_code 14 = .ok (.goto 4, 3) := by decide +kernel
theorem d23_18 : decode jdk_68_method_68_code 18 = .ok (.ireturn, 1) := by decide +kernel
theorem d21_0 : decode jdk_68_method_32_code 0 = .ok (.aload_n 0, 1) := by decide +kernel
theorem d21_1 : decode jdk_68_method_32_code 1 = .ok (.getfield 79, 3) := by decide +kernel
theorem d21_4 : decode jdk_68_method_32_code 4 = .ok (.istore_n 2, 1) := by decide +kernel
theorem d21_5 : decode jdk_68_method_32_code 5 = .ok (.iload_n 2, 1) := by decide +kernel
theorem d21_6 : decode jdk_68_method_32_code 6 = .ok (.iload_n 1, 1) := by decide +kernel
theorem d21_7 : decode jdk_68_method_32_code 7 = .ok (.invokestatic 245, 3) := by decide +kernel
theorem d21_10 : decode jdk_68_method_32_code 10 = .ok (.iadd, 1) := by decide +kernel
theorem d21_11 : decode jdk_68_method_32_code 11 = .ok (.istore_n 3, 1) := by decide +kernel
theorem d21_12 : decode jdk_68_method_32_code 12 = .ok (.aload_n 0, 1) := by decide +kernel
theorem d21_13 : decode jdk_68_method_32_code 13 = .ok (.iload_n 3, 1) := by decide +kernel
theorem d21_14 : decode jdk_68_method_32_code 14 = .ok (.invokevirtual 100, 3) := by decide +kernel
theorem d21_17 : decode jdk_68_method_32_code 17 = .ok (.aload_n 0, 1) := by decide +kernel
theorem d21_18 : decode jdk_68_method_32_code 18 = .ok (.invokevirtual 83, 3) := by decide +kernel
theorem d21_21 : decode jdk_68_method_32_code 21 = .ok (.ifCond .eq 16, 3) := by decide +kernel
theorem d21_24 : decode jdk_68_method_32_code 24 = .ok (.iload_n 1, 1) := by decide +kernel
theorem d21_25 : decode jdk_68_method_32_code 25 = .ok (.iload_n 3, 1) := by decide +kernel
theorem d21_26 : decode jdk_68_method_32_code 26 = .ok (.aload_n 0, 1) := by decide +kernel
theorem d21_27 : decode jdk_68_method_32_code 27 = .ok (.getfield 15, 3) := by decide +kernel
theorem d21_30 : decode jdk_68_method_32_code 30 = .ok (.invokestatic 248, 3) := by decide +kernel
theorem pd_15 : parseMethodDescriptor "(II[B)I" = some ⟨[.int, .int, (.array .byte)], some .int⟩ := by decide +kernel
theorem d21_33 : decode jdk_68_method_32_code 33 = .ok (.pop, 1) := by decide +kernel
theorem d21_34 : decode jdk_68_method_32_code 34 = .ok (.goto 14, 3) := by decide +kernel
theorem d21_48 : decode jdk_68_method_32_code 48 = .ok (.aload_n 0, 1) := by decide +kernel
theorem d21_49 : decode jdk_68_method_32_code 49 = .ok (.iload_n 3, 1) := by decide +kernel
theorem d21_50 : decode jdk_68_method_32_code 50 = .ok (.putfield 79, 3) := by decide +kernel
theorem d21_53 : decode jdk_68_method_32_code 53 = .ok (.aload_n 0, 1) := by decide +kernel
theorem d21_54 : decode jdk_68_method_32_code 54 = .ok (.areturn, 1) := by decide +kernel
theorem d20_0 : decode jdk_67_method_15_code 0 = .ok (.aload_n 0, 1) := by decide +kernel
theorem d20_1 : decode jdk_67_method_15_code 1 = .ok (.iload_n 1, 1) := by decide +kernel
theorem d20_2 : decode jdk_67_method_15_code 2 = .ok (.invokespecial 53, 3) := by decide +kernel
theorem pd_8 : parseMethodDescriptor "(I)Ljava/lang/AbstractStringBuilder;" = some ⟨[.int], some (.object "java/lang/AbstractStringBuilder")⟩ := by decide +kernel
theorem d20_5 : decode jdk_67_method_15_code 5 = .ok (.pop, 1) := by decide +kernel
theorem d20_6 : decode jdk_67_method_15_code 6 = .ok (.aload_n 0, 1) := by decide +kernel
theorem d20_7 : decode jdk_67_method_15_code 7 = .ok (.areturn, 1) := by decide +kernel
theorem d28_0 : decode jdk_68_method_64_code 0 = .ok (.aload_n 0, 1) := by decide +kernel
theorem d28_1 : decode jdk_68_method_64_code 1 = .ok (.getfield 15, 3) := by decide +kernel
theorem d28_4 : decode jdk_68_method_64_code 4 = .ok (.areturn, 1) := by decide +kernel
theorem d30_0 : decode jdk_68_method_6_code 0 = .ok (.aload_n 0, 1) := by decide +kernel
theorem d30_1 : decode jdk_68_method_6_code 1 = .ok (.getfield 79, 3) := by decide +kernel
theorem d30_4 : decode jdk_68_method_6_code 4 = .ok (.ireturn, 1) := by decide +kernel
theorem d29_0 : decode jdk_67_method_93_code 0 = .ok (.aload_n 0, 1) := by decide +kernel
theorem d29_1 : decode jdk_67_method_93_code 1 = .ok (.invokespecial 343, 3) := by decide +kernel
theorem d29_4 : decode jdk_67_method_93_code 4 = .ok (.ireturn, 1) := by decide +kernel
theorem d33_0 : decode jdk_65_method_131_code 0 = .ok (.iload_n 1, 1) := by decide +kernel
theorem d33_1 : decode jdk_65_method_131_code 1 = .ok (.iload_n 0, 1) := by decide +kernel
theorem d33_2 : decode jdk_65_method_131_code 2 = .ok (.if_icmp .ge 35, 3) := by decide +kernel
theorem d33_37 : decode jdk_65_method_131_code 37 = .ok (.return_, 1) := by decide +kernel
theorem d32_0 : decode jdk_65_method_133_code 0 = .ok (.iload_n 1, 1) := by decide +kernel
theorem d32_1 : decode jdk_65_method_133_code 1 = .ok (.iload_n 2, 1) := by decide +kernel
theorem d32_2 : decode jdk_65_method_133_code 2 = .ok (.invokestatic 343, 3) := by decide +kernel
theorem d32_5 : decode jdk_65_method_133_code 5 = .ok (.iload_n 2, 1) := by decide +kernel
theorem d32_6 : decode jdk_65_method_133_code 6 = .ok (.iload_n 1, 1) := by decide +kernel
theorem d32_7 : decode jdk_65_method_133_code 7 = .ok (.isub, 1) := by decide +kernel
theorem d32_8 : decode jdk_65_method_133_code 8 = .ok (.istore_n 3, 1) := by decide +kernel
theorem d32_9 : decode jdk_65_method_133_code 9 = .ok (.iload_n 3, 1) := by decide +kernel
theorem d32_10 : decode jdk_65_method_133_code 10 = .ok (.newarray .byte, 2) := by decide +kernel
theorem d32_12 : decode jdk_65_method_133_code 12 = .ok (.astore 4, 2) := by decide +kernel
theorem d32_14 : decode jdk_65_method_133_code 14 = .ok (.aload_n 0, 1) := by decide +kernel
theorem d32_15 : decode jdk_65_method_133_code 15 = .ok (.iload_n 1, 1) := by decide +kernel
theorem d32_16 : decode jdk_65_method_133_code 16 = .ok (.aload 4, 2) := by decide +kernel
theorem d32_18 : decode jdk_65_method_133_code 18 = .ok (.iconst 0, 1) := by decide +kernel
theorem d32_19 : decode jdk_65_method_133_code 19 = .ok (.aload_n 0, 1) := by decide +kernel
theorem d32_20 : decode jdk_65_method_133_code 20 = .ok (.arraylength, 1) := by decide +kernel
theorem d32_21 : decode jdk_65_method_133_code 21 = .ok (.iload_n 1, 1) := by decide +kernel
theorem d32_22 : decode jdk_65_method_133_code 22 = .ok (.isub, 1) := by decide +kernel
theorem d32_23 : decode jdk_65_method_133_code 23 = .ok (.iload_n 3, 1) := by decide +kernel
theorem d32_24 : decode jdk_65_method_133_code 24 = .ok (.invokestatic 304, 3) := by decide +kernel
theorem d32_27 : decode jdk_65_method_133_code 27 = .ok (.invokestatic 150, 3) := by decide +kernel
theorem d32_30 : decode jdk_65_method_133_code 30 = .ok (.aload 4, 2) := by decide +kernel
theorem d32_32 : decode jdk_65_method_133_code 32 = .ok (.areturn, 1) := by decide +kernel
theorem d31_0 : decode jdk_65_method_132_code 0 = .ok (.iload_n 1, 1) := by decide +kernel
theorem d31_1 : decode jdk_65_method_132_code 1 = .ok (.ifCond .ne 9, 3) := by decide +kernel
theorem d31_4 : decode jdk_65_method_132_code 4 = .ok (.iload_n 2, 1) := by decide +kernel
theorem d31_5 : decode jdk_65_method_132_code 5 = .ok (.aload_n 0, 1) := by decide +kernel
theorem d31_6 : decode jdk_65_method_132_code 6 = .ok (.arraylength, 1) := by decide +kernel
theorem d31_7 : decode jdk_65_method_132_code 7 = .ok (.if_icmp .eq 10, 3) := by decide +kernel
theorem d31_10 : decode jdk_65_method_132_code 10 = .ok (.aload_n 0, 1) := by decide +kernel
theorem d31_11 : decode jdk_65_method_132_code 11 = .ok (.iload_n 1, 1) := by decide +kernel
theorem d31_12 : decode jdk_65_method_132_code 12 = .ok (.iload_n 2, 1) := by decide +kernel
theorem d31_13 : decode jdk_65_method_132_code 13 = .ok (.invokestatic 339, 3) := by decide +kernel
theorem pd_29 : parseMethodDescriptor "([BII)[B" = some ⟨[(.array .byte), .int, .int], some (.array .byte)⟩ := by decide +kernel
theorem d31_16 : decode jdk_65_method_132_code 16 = .ok (.areturn, 1) := by decide +kernel
theorem d27_0 : decode jdk_42_method_150_code 0 = .ok (.aload_n 0, 1) := by decide +kernel
theorem d27_1 : decode jdk_42_method_150_code 1 = .ok (.invokespecial 1, 3) := by decide +kernel
theorem d27_4 : decode jdk_42_method_150_code 4 = .ok (.aload_n 1, 1) := by decide +kernel
theorem d27_5 : decode jdk_42_method_150_code 5 = .ok (.invokevirtual 552, 3) := by decide +kernel
theorem pd_5 : parseMethodDescriptor "()[B" = some ⟨[], some (.array .byte)⟩ := by decide +kernel
theorem d27_8 : decode jdk_42_method_150_code 8 = .ok (.astore_n 3, 1) := by decide +kernel
theorem d27_9 : decode jdk_42_method_150_code 9 = .ok (.aload_n 1, 1) := by decide +kernel
theorem d27_10 : decode jdk_42_method_150_code 10 = .ok (.invokevirtual 549, 3) := by decide +kernel
theorem d27_13 : decode jdk_42_method_150_code 13 = .ok (.istore 4, 2) := by decide +kernel
theorem d27_15 : decode jdk_42_method_150_code 15 = .ok (.aload_n 1, 1) := by decide +kernel
theorem d27_16 : decode jdk_42_method_150_code 16 = .ok (.invokevirtual 1047, 3) := by decide +kernel
theorem d27_19 : decode jdk_42_method_150_code 19 = .ok (.ifCond .eq 22, 3) := by decide +kernel
theorem d27_22 : decode jdk_42_method_150_code 22 = .ok (.aload_n 0, 1) := by decide +kernel
theorem d27_23 : decode jdk_42_method_150_code 23 = .ok (.iconst 0, 1) := by decide +kernel
theorem d27_24 : decode jdk_42_method_150_code 24 = .ok (.putfield 15, 3) := by decide +kernel
theorem d27_27 : decode jdk_42_method_150_code 27 = .ok (.aload_n 0, 1) := by decide +kernel
theorem d27_28 : decode jdk_42_method_150_code 28 = .ok (.aload_n 3, 1) := by decide +kernel
theorem d27_29 : decode jdk_42_method_150_code 29 = .ok (.iconst 0, 1) := by decide +kernel
theorem d27_30 : decode jdk_42_method_150_code 30 = .ok (.iload 4, 2) := by decide +kernel
theorem d27_32 : decode jdk_42_method_150_code 32 = .ok (.invokestatic 54, 3) := by decide +kernel
theorem d27_35 : decode jdk_42_method_150_code 35 = .ok (.putfield 9, 3) := by decide +kernel
theorem d27_38 : decode jdk_42_method_150_code 38 = .ok (.goto 59, 3) := by decide +kernel
theorem d27_97 : decode jdk_42_method_150_code 97 = .ok (.return_, 1) := by decide +kernel
theorem d26_0 : decode jdk_42_method_53_code 0 = .ok (.aload_n 0, 1) := by decide +kernel
theorem d26_1 : decode jdk_42_method_53_code 1 = .ok (.aload_n 1, 1) := by decide +kernel
theorem d26_2 : decode jdk_42_method_53_code 2 = .ok (.aconst_null, 1) := by decide +kernel
theorem d26_3 : decode jdk_42_method_53_code 3 = .ok (.invokespecial 489, 3) := by decide +kernel
theorem pd_17 : parseMethodDescriptor "(Ljava/lang/AbstractStringBuilder;Ljava/lang/Void;)V" = some ⟨[(.object "java/lang/AbstractStringBuilder"), (.object "java/lang/Void")], none⟩ := by decide +kernel
theorem d26_6 : decode jdk_42_method_53_code 6 = .ok (.return_, 1) := by decide +kernel
theorem d25_0 : decode jdk_67_method_42_code 0 = .ok (.new 18, 3) := by decide +kernel
theorem d25_3 : decode jdk_67_method_42_code 3 = .ok (.dup, 1) := by decide +kernel
theorem d25_4 : decode jdk_67_method_42_code 4 = .ok (.aload_n 0, 1) := by decide +kernel
theorem d25_5 : decode jdk_67_method_42_code 5 = .ok (.invokespecial 137, 3) := by decide +kernel
theorem pd_25 : parseMethodDescriptor "(Ljava/lang/StringBuilder;)V" = some ⟨[(.object "java/lang/StringBuilder")], none⟩ := by decide +kernel
theorem d25_8 : decode jdk_67_method_42_code 8 = .ok (.areturn, 1) := by decide +kernel
theorem pn_com_example_irama_irama_Prefilter : plainName "com/example/irama/irama/Prefilter" = true := by first | (simp [plainName, overriddenIn]; done) | decide +kernel
theorem d2_0 : decode prog_4_method_1_code 0 = .ok (.aload_n 0, 1) := by decide +kernel
theorem d2_1 : decode prog_4_method_1_code 1 = .ok (.invokespecial 1, 3) := by decide +kernel
theorem d2_4 : decode prog_4_method_1_code 4 = .ok (.iload_n 1, 1) := by decide +kernel
theorem d2_5 : decode prog_4_method_1_code 5 = .ok (.iconst 1, 1) := by decide +kernel
theorem d2_6 : decode prog_4_method_1_code 6 = .ok (.if_icmp .ge 30, 3) := by decide +kernel
theorem d2_36 : decode prog_4_method_1_code 36 = .ok (.aload_n 0, 1) := by decide +kernel
theorem d2_37 : decode prog_4_method_1_code 37 = .ok (.iload_n 1, 1) := by decide +kernel
theorem d2_38 : decode prog_4_method_1_code 38 = .ok (.putfield 28, 3) := by decide +kernel
theorem d2_41 : decode prog_4_method_1_code 41 = .ok (.return_, 1) := by decide +kernel
theorem d4_0 : decode prog_4_method_6_code 0 = .ok (.new 9, 3) := by decide +kernel
theorem d4_3 : decode prog_4_method_6_code 3 = .ok (.dup, 1) := by decide +kernel
theorem d4_4 : decode prog_4_method_6_code 4 = .ok (.invokespecial 11, 3) := by decide +kernel
theorem pd_3 : parseMethodDescriptor "()V" = some ⟨[], none⟩ := by decide +kernel
theorem d4_7 : decode prog_4_method_6_code 7 = .ok (.ldc 40, 2) := by decide +kernel
theorem d4_9 : decode prog_4_method_6_code 9 = .ok (.invokevirtual 14, 3) := by decide +kernel
theorem pd_20 : parseMethodDescriptor "(Ljava/lang/String;)Ljava/lang/StringBuilder;" = some ⟨[(.object "java/lang/String")], some (.object "java/lang/StringBuilder")⟩ := by decide +kernel
theorem d4_12 : decode prog_4_method_6_code 12 = .ok (.aload_n 0, 1) := by decide +kernel
theorem d4_13 : decode prog_4_method_6_code 13 = .ok (.getfield 28, 3) := by decide +kernel
theorem d4_16 : decode prog_4_method_6_code 16 = .ok (.invokevirtual 18, 3) := by decide +kernel
theorem pd_9 : parseMethodDescriptor "(I)Ljava/lang/StringBuilder;" = some ⟨[.int], some (.object "java/lang/StringBuilder")⟩ := by decide +kernel
theorem d4_19 : decode prog_4_method_6_code 19 = .ok (.aload_n 0, 1) := by decide +kernel
theorem d4_20 : decode prog_4_method_6_code 20 = .ok (.getfield 28, 3) := by decide +kernel
theorem d4_23 : decode prog_4_method_6_code 23 = .ok (.iconst 1, 1) := by decide +kernel
theorem d4_24 : decode prog_4_method_6_code 24 = .ok (.if_icmp .ne 8, 3) := by decide +kernel
theorem d4_27 : decode prog_4_method_6_code 27 = .ok (.ldc 42, 2) := by decide +kernel
theorem d4_29 : decode prog_4_method_6_code 29 = .ok (.goto 5, 3) := by decide +kernel
theorem d4_34 : decode prog_4_method_6_code 34 = .ok (.invokevirtual 14, 3) := by decide +kernel
theorem d4_37 : decode prog_4_method_6_code 37 = .ok (.invokevirtual 21, 3) := by decide +kernel
theorem pd_2 : parseMethodDescriptor "()Ljava/lang/String;" = some ⟨[], some (.object "java/lang/String")⟩ := by decide +kernel
theorem d4_40 : decode prog_4_method_6_code 40 = .ok (.areturn, 1) := by decide +kernel
theorem d4_32 : decode prog_4_method_6_code 32 = .ok (.ldc 44, 2) := by decide +kernel
theorem pn_com_example_irama_irama_PrefilterToStringPinLaw : plainName "com/example/irama/irama/PrefilterToStringPinLaw" = true := by first | (simp [plainName, overriddenIn]; done) | decide +kernel
theorem d1_0 : decode method_6_code 0 = .ok (.iload_n 0, 1) := by decide +kernel
theorem d1_1 : decode method_6_code 1 = .ok (.ldc 12, 2) := by decide +kernel
theorem d1_3 : decode method_6_code 3 = .ok (.if_icmp .lt 6, 3) := by decide +kernel
theorem d1_9 : decode method_6_code 9 = .ok (.iload_n 0, 1) := by decide +kernel
theorem d1_10 : decode method_6_code 10 = .ok (.ldc 11, 2) := by decide +kernel
theorem d1_12 : decode method_6_code 12 = .ok (.if_icmp .lt 6, 3) := by decide +kernel
theorem d1_18 : decode method_6_code 18 = .ok (.iload_n 0, 1) := by decide +kernel
theorem d1_19 : decode method_6_code 19 = .ok (.ldc 10, 2) := by decide +kernel
theorem d1_21 : decode method_6_code 21 = .ok (.if_icmp .lt 6, 3) := by decide +kernel
theorem d1_27 : decode method_6_code 27 = .ok (.iload_n 0, 1) := by decide +kernel
theorem d1_28 : decode method_6_code 28 = .ok (.ldc 9, 2) := by decide +kernel
theorem d1_30 : decode method_6_code 30 = .ok (.if_icmp .lt 6, 3) := by decide +kernel
theorem d1_36 : decode method_6_code 36 = .ok (.iload_n 0, 1) := by decide +kernel
theorem d1_37 : decode method_6_code 37 = .ok (.ldc 8, 2) := by decide +kernel
theorem d1_39 : decode method_6_code 39 = .ok (.if_icmp .lt 6, 3) := by decide +kernel
theorem d1_45 : decode method_6_code 45 = .ok (.iload_n 0, 1) := by decide +kernel
theorem d1_46 : decode method_6_code 46 = .ok (.sipush 10000, 3) := by decide +kernel
theorem d1_49 : decode method_6_code 49 = .ok (.if_icmp .lt 5, 3) := by decide +kernel
theorem d1_54 : decode method_6_code 54 = .ok (.iload_n 0, 1) := by decide +kernel
theorem d1_55 : decode method_6_code 55 = .ok (.sipush 1000, 3) := by decide +kernel
theorem d1_58 : decode method_6_code 58 = .ok (.if_icmp .lt 5, 3) := by decide +kernel
theorem d1_63 : decode method_6_code 63 = .ok (.iload_n 0, 1) := by decide +kernel
theorem d1_64 : decode method_6_code 64 = .ok (.bipush 100, 2) := by decide +kernel
theorem d1_66 : decode method_6_code 66 = .ok (.if_icmp .lt 5, 3) := by decide +kernel
theorem d1_71 : decode method_6_code 71 = .ok (.iload_n 0, 1) := by decide +kernel
theorem d1_72 : decode method_6_code 72 = .ok (.bipush 10, 2) := by decide +kernel
theorem d1_74 : decode method_6_code 74 = .ok (.if_icmp .lt 5, 3) := by decide +kernel
theorem d1_79 : decode method_6_code 79 = .ok (.iconst 1, 1) := by decide +kernel
theorem d1_80 : decode method_6_code 80 = .ok (.ireturn, 1) := by decide +kernel
theorem d1_77 : decode method_6_code 77 = .ok (.iconst 2, 1) := by decide +kernel
theorem d1_78 : decode method_6_code 78 = .ok (.ireturn, 1) := by decide +kernel
theorem d1_69 : decode method_6_code 69 = .ok (.iconst 3, 1) := by decide +kernel
theorem d1_70 : decode method_6_code 70 = .ok (.ireturn, 1) := by decide +kernel
theorem d1_61 : decode method_6_code 61 = .ok (.iconst 4, 1) := by decide +kernel
theorem d1_62 : decode method_6_code 62 = .ok (.ireturn, 1) := by decide +kernel
theorem d1_52 : decode method_6_code 52 = .ok (.iconst 5, 1) := by decide +kernel
theorem d1_53 : decode method_6_code 53 = .ok (.ireturn, 1) := by decide +kernel
theorem d1_42 : decode method_6_code 42 = .ok (.bipush 6, 2) := by decide +kernel
theorem d1_44 : decode method_6_code 44 = .ok (.ireturn, 1) := by decide +kernel
theorem d1_33 : decode method_6_code 33 = .ok (.bipush 7, 2) := by decide +kernel
theorem d1_35 : decode method_6_code 35 = .ok (.ireturn, 1) := by decide +kernel
theorem d1_24 : decode method_6_code 24 = .ok (.bipush 8, 2) := by decide +kernel
theorem d1_26 : decode method_6_code 26 = .ok (.ireturn, 1) := by decide +kernel
theorem d1_15 : decode method_6_code 15 = .ok (.bipush 9, 2) := by decide +kernel
theorem d1_17 : decode method_6_code 17 = .ok (.ireturn, 1) := by decide +kernel
theorem d1_6 : decode method_6_code 6 = .ok (.bipush 10, 2) := by decide +kernel
theorem d1_8 : decode method_6_code 8 = .ok (.ireturn, 1) := by decide +kernel
theorem d34_0 : decode method_3_code 0 = .ok (.aload_n 0, 1) := by decide +kernel
theorem d34_1 : decode method_3_code 1 = .ok (.iload_n 2, 1) := by decide +kernel
theorem d34_2 : decode method_3_code 2 = .ok (.invokevirtual 50, 3) := by decide +kernel
theorem pd_6 : parseMethodDescriptor "(I)C" = some ⟨[.int], some .char⟩ := by decide +kernel
theorem d34_5 : decode method_3_code 5 = .ok (.aload_n 1, 1) := by decide +kernel
theorem d34_6 : decode method_3_code 6 = .ok (.iload_n 2, 1) := by decide +kernel
theorem d34_7 : decode method_3_code 7 = .ok (.invokevirtual 50, 3) := by decide +kernel
theorem d34_10 : decode method_3_code 10 = .ok (.if_icmp .ne 7, 3) := by decide +kernel
theorem d34_13 : decode method_3_code 13 = .ok (.iconst 1, 1) := by decide +kernel
theorem d34_14 : decode method_3_code 14 = .ok (.goto 4, 3) := by decide +kernel
theorem d34_18 : decode method_3_code 18 = .ok (.ireturn, 1) := by decide +kernel
theorem d41_0 : decode method_5_code 0 = .ok (.aload_n 0, 1) := by decide +kernel
theorem d41_1 : decode method_5_code 1 = .ok (.iload_n 2, 1) := by decide +kernel
theorem d41_2 : decode method_5_code 2 = .ok (.iload_n 3, 1) := by decide +kernel
theorem d41_3 : decode method_5_code 3 = .ok (.iadd, 1) := by decide +kernel
theorem d41_4 : decode method_5_code 4 = .ok (.invokevirtual 50, 3) := by decide +kernel
theorem d41_7 : decode method_5_code 7 = .ok (.aload_n 1, 1) := by decide +kernel
theorem d41_8 : decode method_5_code 8 = .ok (.iload_n 3, 1) := by decide +kernel
theorem d41_9 : decode method_5_code 9 = .ok (.invokevirtual 50, 3) := by decide +kernel
theorem d41_12 : decode method_5_code 12 = .ok (.if_icmp .ne 7, 3) := by decide +kernel
theorem d41_15 : decode method_5_code 15 = .ok (.iconst 1, 1) := by decide +kernel
theorem d41_16 : decode method_5_code 16 = .ok (.goto 4, 3) := by decide +kernel
theorem d41_20 : decode method_5_code 20 = .ok (.ireturn, 1) := by decide +kernel
theorem d40_0 : decode method_4_code 0 = .ok (.iload 4, 2) := by decide +kernel
theorem d40_2 : decode method_4_code 2 = .ok (.iload_n 2, 1) := by decide +kernel
theorem d40_3 : decode method_4_code 3 = .ok (.if_icmp .lt 5, 3) := by decide +kernel
theorem d40_8 : decode method_4_code 8 = .ok (.iload_n 1, 1) := by decide +kernel
theorem d40_9 : decode method_4_code 9 = .ok (.aload_n 3, 1) := by decide +kernel
theorem d40_10 : decode method_4_code 10 = .ok (.iload_n 2, 1) := by decide +kernel
theorem d40_11 : decode method_4_code 11 = .ok (.iconst 1, 1) := by decide +kernel
theorem d40_12 : decode method_4_code 12 = .ok (.isub, 1) := by decide +kernel
theorem d40_13 : decode method_4_code 13 = .ok (.iload 4, 2) := by decide +kernel
theorem d40_15 : decode method_4_code 15 = .ok (.isub, 1) := by decide +kernel
theorem d40_16 : decode method_4_code 16 = .ok (.iaload, 1) := by decide +kernel
theorem d40_17 : decode method_4_code 17 = .ok (.idiv, 1) := by decide +kernel
theorem d40_18 : decode method_4_code 18 = .ok (.bipush 10, 2) := by decide +kernel
theorem d40_20 : decode method_4_code 20 = .ok (.irem, 1) := by decide +kernel
theorem d40_21 : decode method_4_code 21 = .ok (.istore 5, 2) := by decide +kernel
theorem d40_23 : decode method_4_code 23 = .ok (.aload_n 0, 1) := by decide +kernel
theorem d40_24 : decode method_4_code 24 = .ok (.bipush 26, 2) := by decide +kernel
theorem d40_26 : decode method_4_code 26 = .ok (.iload 4, 2) := by decide +kernel
theorem d40_28 : decode method_4_code 28 = .ok (.iadd, 1) := by decide +kernel
theorem d40_29 : decode method_4_code 29 = .ok (.invokevirtual 50, 3) := by decide +kernel
theorem d40_32 : decode method_4_code 32 = .ok (.bipush 48, 2) := by decide +kernel
theorem d40_34 : decode method_4_code 34 = .ok (.iload 5, 2) := by decide +kernel
theorem d40_36 : decode method_4_code 36 = .ok (.iadd, 1) := by decide +kernel
theorem d40_37 : decode method_4_code 37 = .ok (.i2c, 1) := by decide +kernel
theorem d40_38 : decode method_4_code 38 = .ok (.if_icmp .ne 7, 3) := by decide +kernel
theorem d40_41 : decode method_4_code 41 = .ok (.iconst 1, 1) := by decide +kernel
theorem d40_42 : decode method_4_code 42 = .ok (.goto 4, 3) := by decide +kernel
theorem d40_46 : decode method_4_code 46 = .ok (.ireturn, 1) := by decide +kernel
theorem d40_6 : decode method_4_code 6 = .ok (.iconst 1, 1) := by decide +kernel
theorem d40_7 : decode method_4_code 7 = .ok (.ireturn, 1) := by decide +kernel
theorem pd_23 : parseMethodDescriptor "(Ljava/lang/String;Ljava/lang/String;I)Z" = some ⟨[(.object "java/lang/String"), (.object "java/lang/String"), .int], some .boolean⟩ := by decide +kernel
theorem pd_22 : parseMethodDescriptor "(Ljava/lang/String;II[II)Z" = some ⟨[(.object "java/lang/String"), .int, .int, (.array .int), .int], some .boolean⟩ := by decide +kernel
theorem pd_24 : parseMethodDescriptor "(Ljava/lang/String;Ljava/lang/String;II)Z" = some ⟨[(.object "java/lang/String"), (.object "java/lang/String"), .int, .int], some .boolean⟩ := by decide +kernel
theorem ef_mx (m : MethodId) (x0 : Int32) (x1 : Int32) : entryFrame m #[(.int x0), (.int x1)] 2 = mkF m 0 #[.val (.int x0), .val (.int x1)] [] := by first | (simp [entryFrame, mkF, argsToLocals, Value.category]; done) | rfl
set_option maxRecDepth 65536 in
set_option maxHeartbeats 40000000 in
theorem rm_mx (l : Launch) (Z : State) (a0 : Array Value) (hw : ∀ d ∈ tables_1, d.before a0 Z = true) (x0 : Int32) (x1 : Int32) (h0 : Heap)  :
    Ct l mn_14 jdk_29_method_65_code 2 (some .int) ({ frames := 0, cells := 0, slots := 0, locals := 0 } : Room) Z h0 #[(.int x0), (.int x1)] (fun v h L => ∃ r, v = some (.int r) ∧ ((x0 < x1 ∧ r = x1) ∨ (¬ (x0 < x1) ∧ r = x0)) ∧ L = [] ∧ h = h0) := by
  refine Ct.body (Jvm.Free.JP.mathPlain rfl (by decide +kernel)) ?_
  intro p e s m below meth c T0 hx hby hml hown hnm hret hlk hZ X0 e0
  refine Go.cast (ef_mx m x0 x1) ?_
  show Go p e below _ T0 (mkF m 0 #[.val (.int x0), .val (.int x1)] [])
  refine Go.s_iloadN X0 hx (hb hby d14_0) (q := 1) rfl rfl ?_
  refine Go.s_iloadN X0 hx (hb hby d14_1) (q := 2) rfl rfl ?_
  by_cases c2_1 : x0 < x1
  · -- pc 2: x0 < x1
    refine Go.s_icmpYes X0 hx (hb hby d14_2) (q := 9) (by decide) (by decide) (tlt c2_1).1 ?_
    refine Go.s_iloadN X0 hx (hb hby d14_9) (q := 10) rfl rfl ?_
    refine Go.retI X0 hx hlk hret (hb hby d14_10) (by decide) (by decide) ?_
    try rw [e0]
    exact ⟨_, rfl, Or.inl ⟨c2_1, rfl⟩, rfl, rfl⟩
  · -- pc 2: not x0 < x1
    refine Go.s_icmpNo X0 hx (hb hby d14_2) (q := 5) rfl (flt c2_1).1 ?_
    refine Go.s_iloadN X0 hx (hb hby d14_5) (q := 6) rfl rfl ?_
    refine Go.s_goto X0 hx (hb hby d14_6) (q := 10) (by decide) (by decide) ?_
    refine Go.retI X0 hx hlk hret (hb hby d14_10) (by decide) (by decide) ?_
    try rw [e0]
    exact ⟨_, rfl, Or.inr ⟨c2_1, rfl⟩, rfl, rfl⟩
theorem ef_mn (m : MethodId) (x0 : Int32) (x1 : Int32) : entryFrame m #[(.int x0), (.int x1)] 2 = mkF m 0 #[.val (.int x0), .val (.int x1)] [] := by first | (simp [entryFrame, mkF, argsToLocals, Value.category]; done) | rfl
set_option maxRecDepth 65536 in
set_option maxHeartbeats 40000000 in
theorem rm_mn (l : Launch) (Z : State) (a0 : Array Value) (hw : ∀ d ∈ tables_1, d.before a0 Z = true) (x0 : Int32) (x1 : Int32) (h0 : Heap)  :
    Ct l mn_16 jdk_29_method_69_code 2 (some .int) ({ frames := 0, cells := 0, slots := 0, locals := 0 } : Room) Z h0 #[(.int x0), (.int x1)] (fun v h L => ∃ r, v = some (.int r) ∧ ((x1 < x0 ∧ r = x1) ∨ (¬ (x1 < x0) ∧ r = x0)) ∧ L = [] ∧ h = h0) := by
  refine Ct.body (Jvm.Free.JP.mathPlain rfl (by decide +kernel)) ?_
  intro p e s m below meth c T0 hx hby hml hown hnm hret hlk hZ X0 e0
  refine Go.cast (ef_mn m x0 x1) ?_
  show Go p e below _ T0 (mkF m 0 #[.val (.int x0), .val (.int x1)] [])
  refine Go.s_iloadN X0 hx (hb hby d16_0) (q := 1) rfl rfl ?_
  refine Go.s_iloadN X0 hx (hb hby d16_1) (q := 2) rfl rfl ?_
  by_cases c2_1 : x1 < x0
  · -- pc 2: x1 < x0
    refine Go.s_icmpYes X0 hx (hb hby d16_2) (q := 9) (by decide) (by decide) (tlt c2_1).2.2.1 ?_
    refine Go.s_iloadN X0 hx (hb hby d16_9) (q := 10) rfl rfl ?_
    refine Go.retI X0 hx hlk hret (hb hby d16_10) (by decide) (by decide) ?_
    try rw [e0]
    exact ⟨_, rfl, Or.inl ⟨c2_1, rfl⟩, rfl, rfl⟩
  · -- pc 2: not x1 < x0
    refine Go.s_icmpNo X0 hx (hb hby d16_2) (q := 5) rfl (flt c2_1).2.2.1 ?_
    refine Go.s_iloadN X0 hx (hb hby d16_5) (q := 6) rfl rfl ?_
    refine Go.s_goto X0 hx (hb hby d16_6) (q := 10) (by decide) (by decide) ?_
    refine Go.retI X0 hx hlk hret (hb hby d16_10) (by decide) (by decide) ?_
    try rw [e0]
    exact ⟨_, rfl, Or.inr ⟨c2_1, rfl⟩, rfl, rfl⟩
theorem ef_nl (m : MethodId) (x0 : Int32) (x1 : Int32) (x2 : Int32) : entryFrame m #[(.int x0), (.int x1), (.int x2)] 4 = mkF m 0 #[.val (.int x0), .val (.int x1), .val (.int x2), .unset] [] := by first | (simp [entryFrame, mkF, argsToLocals, Value.category]; done) | rfl
set_option maxRecDepth 65536 in
set_option maxHeartbeats 40000000 in
theorem rm_nl (l : Launch) (Z : State) (a0 : Array Value) (hw : ∀ d ∈ tables_1, d.before a0 Z = true) (x0 : Int32) (x1 : Int32) (x2 : Int32) (h0 : Heap) (b0 : 0 ≤ x0.toInt) (b1 : x0.toInt ≤ 1000) (b2 : x1.toInt ≤ 1000) (b3 : 1 ≤ x2.toInt) (b4 : x2.toInt ≤ 1002) :
    Ct l mn_13 jdk_48_method_27_code 4 (some .int) ({ frames := 1, cells := 0, slots := 0, locals := 20 } : Room) Z h0 #[(.int x0), (.int x1), (.int x2)] (fun v h L => ∃ r, v = some (.int r) ∧ ((r.toInt = x0.toInt + x1.toInt ∨ r.toInt = x0.toInt + x2.toInt) ∧ x0.toInt + x1.toInt ≤ r.toInt ∧ x0.toInt + x2.toInt ≤ r.toInt) ∧ L = [] ∧ h = h0) := by
  refine Ct.body (plainFor_of_name pn_jdk_internal_util_ArraysSupport) ?_
  intro p e s m below meth c T0 hx hby hml hown hnm hret hlk hZ X0 e0
  refine Go.cast (ef_nl m x0 x1 x2) ?_
  show Go p e below _ T0 (mkF m 0 #[.val (.int x0), .val (.int x1), .val (.int x2), .unset] [])
  refine Go.s_iloadN X0 hx (hb hby d13_0) (q := 1) rfl rfl ?_
  refine Go.s_iloadN X0 hx (hb hby d13_1) (q := 2) rfl rfl ?_
  refine Go.s_iloadN X0 hx (hb hby d13_2) (q := 3) rfl rfl ?_
  refine Go.callS (y := mn_14) X0 hx hZ hown (w_ hw 92 rfl) (w_ hw 93 rfl) (w_ hw 94 rfl) (w_ hw 95 rfl) (by decide) e0 (argsL := [(.int x1), (.int x2)]) (rest := [(.int x0)]) (rm_mx l Z a0 hw x1 x2 _) (by rw [hml]; rfl) (lenOf pd_11 rfl) rfl (hb hby d13_3) (by first | decide | exact Nat.le_of_ble_eq_true rfl) (by first | decide | exact Nat.le_of_ble_eq_true rfl) (by first | decide | exact Nat.le_of_ble_eq_true rfl) (by first | decide | exact Nat.le_of_ble_eq_true rfl) ?_
  intro r1 T1 L1 q1 X1
  obtain ⟨w1, rfl, p1, rfl, e1⟩ := q1
  rw [List.append_nil] at X1
  rcases p1 with ⟨u1_0_0, z1⟩ | ⟨u1_1_0, z1⟩
  · -- x2
    subst w1
    show Go p e below _ T1 (mkF m 6 #[.val (.int x0), .val (.int x1), .val (.int x2), .unset] [(.int x2), (.int x0)])
    refine Go.s_iadd X1 hx (hb hby d13_6) (q := 7) rfl ?_
    refine Go.s_istoreN X1 hx (hb hby d13_7) (q := 8) rfl (l' := #[.val (.int x0), .val (.int x1), .val (.int x2), .val (.int (x0 + x2))]) rfl ?_
    generalize hv2 : (x0 + x2) = v2
    refine Go.s_iconst X1 hx (hb hby d13_8) (q := 9) rfl (z := 0) rfl ?_
    refine Go.s_iloadN X1 hx (hb hby d13_9) (q := 10) rfl rfl ?_
    by_cases c10_3 : (0 : Int32) < v2
    · -- pc 10: (0 : Int32) < v2
      refine Go.s_icmpNo X1 hx (hb hby d13_10) (q := 13) rfl (tlt c10_3).2.1 ?_
      refine Go.s_iloadN X1 hx (hb hby d13_13) (q := 14) rfl rfl ?_
      refine Go.s_ldc X1 hx (hb hby d13_14) (q := 16) rfl hown (mvT hZ (w_ hw 96 rfl)) ?_
      by_cases c16_4 : (2147483639 : Int32) < v2
      · -- pc 16: (2147483639 : Int32) < v2
        exfalso
        have t0 := rng32 x1
        have t1 := rng32 x2
        have t2 := (by decide : ((0 : Int32)).toInt = 0)
        have t3 := rng32 v2
        have t4 := (by decide : ((2147483639 : Int32)).toInt = 2147483639)
        have t5 := rng32 x0
        have t6 := c_iadd x0 x2
        have t7 := rng32 (x0 + x2)
        have t8 := Int32.lt_iff_toInt_lt.mp u1_0_0
        have t9 := Int32.lt_iff_toInt_lt.mp c10_3
        have t10 := Int32.lt_iff_toInt_lt.mp c16_4
        have t11 := congrArg Int32.toInt hv2
        have t12 := b0
        have t13 := b1
        have t14 := b2
        have t15 := b3
        have t16 := b4
        omega
      · -- pc 16: not (2147483639 : Int32) < v2
        refine Go.s_icmpNo X1 hx (hb hby d13_16) (q := 19) rfl (flt c16_4).2.2.1 ?_
        refine Go.s_iloadN X1 hx (hb hby d13_19) (q := 20) rfl rfl ?_
        refine Go.retI X1 hx hlk hret (hb hby d13_20) (by decide) (by decide) ?_
        try rw [e1]
        refine ⟨_, rfl, ?_, rfl, rfl⟩
        have t0 := rng32 x1
        have t1 := rng32 x2
        have t2 := (by decide : ((0 : Int32)).toInt = 0)
        have t3 := rng32 v2
        have t4 := (by decide : ((2147483639 : Int32)).toInt = 2147483639)
        have t5 := rng32 x0
        have t6 := c_iadd x0 x2
        have t7 := rng32 (x0 + x2)
        have t8 := Int32.lt_iff_toInt_lt.mp u1_0_0
        have t9 := Int32.lt_iff_toInt_lt.mp c10_3
        have t10 := mt Int32.lt_iff_toInt_lt.mpr c16_4
        have t11 := congrArg Int32.toInt hv2
        have t12 := b0
        have t13 := b1
        have t14 := b2
        have t15 := b3
        have t16 := b4
        omega
    · -- pc 10: not (0 : Int32) < v2
      exfalso
      have t0 := rng32 x1
      have t1 := rng32 x2
      have t2 := (by decide : ((0 : Int32)).toInt = 0)
      have t3 := rng32 v2
      have t4 := rng32 x0
      have t5 := c_iadd x0 x2
      have t6 := rng32 (x0 + x2)
      have t7 := Int32.lt_iff_toInt_lt.mp u1_0_0
      have t8 := mt Int32.lt_iff_toInt_lt.mpr c10_3
      have t9 := congrArg Int32.toInt hv2
      have t10 := b0
      have t11 := b1
      have t12 := b2
      have t13 := b3
      have t14 := b4
      omega
  · -- x1
    subst w1
    show Go p e below _ T1 (mkF m 6 #[.val (.int x0), .val (.int x1), .val (.int x2), .unset] [(.int x1), (.int x0)])
    refine Go.s_iadd X1 hx (hb hby d13_6) (q := 7) rfl ?_
    refine Go.s_istoreN X1 hx (hb hby d13_7) (q := 8) rfl (l' := #[.val (.int x0), .val (.int x1), .val (.int x2), .val (.int (x0 + x1))]) rfl ?_
    generalize hv5 : (x0 + x1) = v5
    refine Go.s_iconst X1 hx (hb hby d13_8) (q := 9) rfl (z := 0) rfl ?_
    refine Go.s_iloadN X1 hx (hb hby d13_9) (q := 10) rfl rfl ?_
    by_cases c10_6 : (0 : Int32) < v5
    · -- pc 10: (0 : Int32) < v5
      refine Go.s_icmpNo X1 hx (hb hby d13_10) (q := 13) rfl (tlt c10_6).2.1 ?_
      refine Go.s_iloadN X1 hx (hb hby d13_13) (q := 14) rfl rfl ?_
      refine Go.s_ldc X1 hx (hb hby d13_14) (q := 16) rfl hown (mvT hZ (w_ hw 96 rfl)) ?_
      by_cases c16_7 : (2147483639 : Int32) < v5
      · -- pc 16: (2147483639 : Int32) < v5
        exfalso
        have t0 := rng32 x1
        have t1 := rng32 x2
        have t2 := (by decide : ((0 : Int32)).toInt = 0)
        have t3 := rng32 v5
        have t4 := (by decide : ((2147483639 : Int32)).toInt = 2147483639)
        have t5 := rng32 x0
        have t6 := c_iadd x0 x1
        have t7 := rng32 (x0 + x1)
        have t8 := mt Int32.lt_iff_toInt_lt.mpr u1_1_0
        have t9 := Int32.lt_iff_toInt_lt.mp c10_6
        have t10 := Int32.lt_iff_toInt_lt.mp c16_7
        have t11 := congrArg Int32.toInt hv5
        have t12 := b0
        have t13 := b1
        have t14 := b2
        have t15 := b3
        have t16 := b4
        omega
      · -- pc 16: not (2147483639 : Int32) < v5
        refine Go.s_icmpNo X1 hx (hb hby d13_16) (q := 19) rfl (flt c16_7).2.2.1 ?_
        refine Go.s_iloadN X1 hx (hb hby d13_19) (q := 20) rfl rfl ?_
        refine Go.retI X1 hx hlk hret (hb hby d13_20) (by decide) (by decide) ?_
        try rw [e1]
        refine ⟨_, rfl, ?_, rfl, rfl⟩
        have t0 := rng32 x1
        have t1 := rng32 x2
        have t2 := (by decide : ((0 : Int32)).toInt = 0)
        have t3 := rng32 v5
        have t4 := (by decide : ((2147483639 : Int32)).toInt = 2147483639)
        have t5 := rng32 x0
        have t6 := c_iadd x0 x1
        have t7 := rng32 (x0 + x1)
        have t8 := mt Int32.lt_iff_toInt_lt.mpr u1_1_0
        have t9 := Int32.lt_iff_toInt_lt.mp c10_6
        have t10 := mt Int32.lt_iff_toInt_lt.mpr c16_7
        have t11 := congrArg Int32.toInt hv5
        have t12 := b0
        have t13 := b1
        have t14 := b2
        have t15 := b3
        have t16 := b4
        omega
    · -- pc 10: not (0 : Int32) < v5
      exfalso
      have t0 := rng32 x1
      have t1 := rng32 x2
      have t2 := (by decide : ((0 : Int32)).toInt = 0)
      have t3 := rng32 v5
      have t4 := rng32 x0
      have t5 := c_iadd x0 x1
      have t6 := rng32 (x0 + x1)
      have t7 := mt Int32.lt_iff_toInt_lt.mpr u1_1_0
      have t8 := mt Int32.lt_iff_toInt_lt.mpr c10_6
      have t9 := congrArg Int32.toInt hv5
      have t10 := b0
      have t11 := b1
      have t12 := b2
      have t13 := b3
      have t14 := b4
      omega
theorem ef_nc (m : MethodId) (x0 : Addr) (x1 : Int32) : entryFrame m #[(.ref x0), (.int x1)] 6 = mkF m 0 #[.val (.ref x0), .val (.int x1), .unset, .unset, .unset, .unset] [] := by first | (simp [entryFrame, mkF, argsToLocals, Value.category]; done) | rfl
set_option maxRecDepth 65536 in
set_option maxHeartbeats 40000000 in
theorem rm_nc (l : Launch) (Z : State) (a0 : Array Value) (hw : ∀ d ∈ tables_1, d.before a0 Z = true) (a : Addr) (x1 : Int32) (h0 : Heap) (t : Addr) (kb : ClassId) (z : Int32) (bs : List Int32) (n0 : Nat) (E_a : Exa Z h0 a "java/lang/StringBuilder") (F_v : Fld Z h0 a "java/lang/AbstractStringBuilder" "value" "[B" (.ref t)) (F_c : Fld Z h0 a "java/lang/AbstractStringBuilder" "coder" "B" (.int (0 : Int32))) (F_n : Fld Z h0 a "java/lang/AbstractStringBuilder" "count" "I" (.int (Int32.ofNat bs.length))) (V_t : Arv Z h0 t kb .byte z (bs.map Value.int) (.int 0)) (g_a : n0 ≤ a) (g_t : n0 ≤ t) (bz0 : 0 ≤ z.toInt) (bz1 : z.toInt ≤ 200) (bm1 : x1.toInt ≤ 400) (hgt : z.toInt < x1.toInt) :
    Ct l mn_12 jdk_68_method_10_code 6 (some .int) ({ frames := 2, cells := 0, slots := 0, locals := 44 } : Room) Z h0 #[(.ref a), (.int x1)] (fun v h L => ∃ r, v = some (.int r) ∧ GR z x1 r ∧ L = [] ∧ h = h0) := by
  refine Ct.body (plainFor_of_name pn_java_lang_AbstractStringBuilder) ?_
  intro p e s m below meth c T0 hx hby hml hown hnm hret hlk hZ X0 e0
  have ne_ta : t ≠ a := Ne.symm (Exa.neArv E_a V_t (w_ hw 28 rfl))
  refine Go.cast (ef_nc m a x1) ?_
  show Go p e below _ T0 (mkF m 0 #[.val (.ref a), .val (.int x1), .unset, .unset, .unset, .unset] [])
  refine Go.s_aloadN X0 hx (hb hby d12_0) (q := 1) rfl rfl rfl ?_
  refine Go.getF X0 hx hZ hown (w_ hw 43 rfl) Via.refl e0 F_v (hb hby d12_1) ?_
  intro T1 X1 e1
  show Go p e below _ T1 (mkF m 4 #[.val (.ref a), .val (.int x1), .unset, .unset, .unset, .unset] [(.ref t)])
  refine Go.len X1 hx hZ e1 V_t (hb hby d12_4) ?_
  show Go p e below _ T1 (mkF m 5 #[.val (.ref a), .val (.int x1), .unset, .unset, .unset, .unset] [(.int z)])
  refine Go.s_istoreN X1 hx (hb hby d12_5) (q := 6) rfl (l' := #[.val (.ref a), .val (.int x1), .val (.int z), .unset, .unset, .unset]) rfl ?_
  refine Go.s_iloadN X1 hx (hb hby d12_6) (q := 7) rfl rfl ?_
  refine Go.s_aloadN X1 hx (hb hby d12_7) (q := 8) rfl rfl rfl ?_
  refine Go.getF X1 hx hZ hown (w_ hw 45 rfl) Via.refl e1 F_c (hb hby d12_8) ?_
  intro T2 X2 e2
  show Go p e below _ T2 (mkF m 11 #[.val (.ref a), .val (.int x1), .val (.int z), .unset, .unset, .unset] [(.int (0 : Int32)), (.int x1)])
  refine Go.s_ishl X2 hx (hb hby d12_11) (q := 12) rfl ?_
  rw [shl0 x1]
  refine Go.s_istoreN X2 hx (hb hby d12_12) (q := 13) rfl (l' := #[.val (.ref a), .val (.int x1), .val (.int z), .val (.int x1), .unset, .unset]) rfl ?_
  refine Go.s_iloadN X2 hx (hb hby d12_13) (q := 14) rfl rfl ?_
  refine Go.s_iloadN X2 hx (hb hby d12_14) (q := 15) rfl rfl ?_
  refine Go.s_isub X2 hx (hb hby d12_15) (q := 16) rfl ?_
  refine Go.s_istore X2 hx (hb hby d12_16) (q := 18) rfl (l' := #[.val (.ref a), .val (.int x1), .val (.int z), .val (.int x1), .val (.int (x1 - z)), .unset]) rfl ?_
  generalize hv3 : (x1 - z) = v3
  refine Go.s_iloadN X2 hx (hb hby d12_18) (q := 19) rfl rfl ?_
  refine Go.s_iload X2 hx (hb hby d12_19) (q := 21) rfl rfl ?_
  refine Go.s_iloadN X2 hx (hb hby d12_21) (q := 22) rfl rfl ?_
  refine Go.s_iconst X2 hx (hb hby d12_22) (q := 23) rfl (z := 2) rfl ?_
  refine Go.s_aloadN X2 hx (hb hby d12_23) (q := 24) rfl rfl rfl ?_
  refine Go.getF X2 hx hZ hown (w_ hw 45 rfl) Via.refl e2 F_c (hb hby d12_24) ?_
  intro T4 X4 e4
  show Go p e below _ T4 (mkF m 27 #[.val (.ref a), .val (.int x1), .val (.int z), .val (.int x1), .val (.int v3), .unset] [(.int (0 : Int32)), (.int (2 : Int32)), (.int z), (.int v3), (.int z)])
  refine Go.s_ishl X4 hx (hb hby d12_27) (q := 28) rfl ?_
  rw [(by decide : ((2 : Int32) <<< ((0 : Int32) &&& 31)) = (2 : Int32))]
  refine Go.s_iadd X4 hx (hb hby d12_28) (q := 29) rfl ?_
  have c0 : 0 ≤ (z).toInt := by
    have := rng32 z
    have := rng32 v3
    have := (by decide : ((2 : Int32)).toInt = 2)
    have := c_iadd z (2 : Int32)
    have := rng32 (z + (2 : Int32))
    have := congrArg Int32.toInt hv3
    have := rng32 x1
    have := c_isub x1 z
    have := rng32 (x1 - z)
    omega
  have c1 : (z).toInt ≤ 1000 := by
    have := rng32 z
    have := rng32 v3
    have := (by decide : ((2 : Int32)).toInt = 2)
    have := c_iadd z (2 : Int32)
    have := rng32 (z + (2 : Int32))
    have := congrArg Int32.toInt hv3
    have := rng32 x1
    have := c_isub x1 z
    have := rng32 (x1 - z)
    omega
  have c2 : (v3).toInt ≤ 1000 := by
    have := rng32 z
    have := rng32 v3
    have := (by decide : ((2 : Int32)).toInt = 2)
    have := c_iadd z (2 : Int32)
    have := rng32 (z + (2 : Int32))
    have := congrArg Int32.toInt hv3
    have := rng32 x1
    have := c_isub x1 z
    have := rng32 (x1 - z)
    omega
  have c3 : 1 ≤ ((z + (2 : Int32))).toInt := by
    have := rng32 z
    have := rng32 v3
    have := (by decide : ((2 : Int32)).toInt = 2)
    have := c_iadd z (2 : Int32)
    have := rng32 (z + (2 : Int32))
    have := congrArg Int32.toInt hv3
    have := rng32 x1
    have := c_isub x1 z
    have := rng32 (x1 - z)
    omega
  have c4 : ((z + (2 : Int32))).toInt ≤ 1002 := by
    have := rng32 z
    have := rng32 v3
    have := (by decide : ((2 : Int32)).toInt = 2)
    have := c_iadd z (2 : Int32)
    have := rng32 (z + (2 : Int32))
    have := congrArg Int32.toInt hv3
    have := rng32 x1
    have := c_isub x1 z
    have := rng32 (x1 - z)
    omega
  refine Go.callS (y := mn_13) X4 hx hZ hown (w_ hw 88 rfl) (w_ hw 89 rfl) (w_ hw 90 rfl) (w_ hw 91 rfl) (by decide) e4 (argsL := [(.int z), (.int v3), (.int (z + (2 : Int32)))]) (rest := []) (rm_nl l Z a0 hw z v3 (z + (2 : Int32)) _ c0 c1 c2 c3 c4) (by rw [hml]; rfl) (lenOf pd_13 rfl) rfl (hb hby d12_29) (by decide) (by decide) (by decide) (by decide) ?_
  intro r5 T5 L5 q5 X5
  obtain ⟨w5, rfl, p5, rfl, e5⟩ := q5
  rw [List.append_nil] at X5
  show Go p e below _ T5 (mkF m 32 #[.val (.ref a), .val (.int x1), .val (.int z), .val (.int x1), .val (.int v3), .unset] [(.int w5)])
  refine Go.s_istore X5 hx (hb hby d12_32) (q := 34) rfl (l' := #[.val (.ref a), .val (.int x1), .val (.int z), .val (.int x1), .val (.int v3), .val (.int w5)]) rfl ?_
  refine Go.s_iload X5 hx (hb hby d12_34) (q := 36) rfl rfl ?_
  refine Go.s_ldc X5 hx (hb hby d12_36) (q := 38) rfl hown (mvT hZ (w_ hw 97 rfl)) ?_
  by_cases c38_6 : w5 = (2147483647 : Int32)
  · -- pc 38: w5 = (2147483647 : Int32)
    exfalso
    have t0 := rng32 w5
    have t1 := (by decide : ((2147483647 : Int32)).toInt = 2147483647)
    have t2 := rng32 x1
    have t3 := rng32 z
    have t4 := c_isub x1 z
    have t5 := rng32 (x1 - z)
    have t6 := rng32 v3
    have t7 := (by decide : ((2 : Int32)).toInt = 2)
    have t8 := c_iadd z (2 : Int32)
    have t9 := rng32 (z + (2 : Int32))
    have t10 := congrArg Int32.toInt c38_6
    have t11 := congrArg Int32.toInt hv3
    have t12 := bz0
    have t13 := bz1
    have t14 := bm1
    have t15 := hgt
    have t16 := p5
    omega
  · -- pc 38: not w5 = (2147483647 : Int32)
    refine Go.s_icmpYes X5 hx (hb hby d12_38) (q := 51) (by decide) (by decide) (feq c38_6).2 ?_
    refine Go.s_iload X5 hx (hb hby d12_51) (q := 53) rfl rfl ?_
    refine Go.s_aloadN X5 hx (hb hby d12_53) (q := 54) rfl rfl rfl ?_
    refine Go.getF X5 hx hZ hown (w_ hw 45 rfl) Via.refl e5 F_c (hb hby d12_54) ?_
    intro T7 X7 e7
    show Go p e below _ T7 (mkF m 57 #[.val (.ref a), .val (.int x1), .val (.int z), .val (.int x1), .val (.int v3), .val (.int w5)] [(.int (0 : Int32)), (.int w5)])
    refine Go.s_ishr X7 hx (hb hby d12_57) (q := 58) rfl ?_
    rw [shr0 w5]
    refine Go.retI X7 hx hlk hret (hb hby d12_58) (by decide) (by decide) ?_
    try rw [e7]
    refine ⟨_, rfl, ?_, rfl, rfl⟩
    unfold GR
    have t0 := rng32 w5
    have t1 := (by decide : ((2147483647 : Int32)).toInt = 2147483647)
    have t2 := rng32 x1
    have t3 := rng32 z
    have t4 := c_isub x1 z
    have t5 := rng32 (x1 - z)
    have t6 := rng32 v3
    have t7 := (by decide : ((2 : Int32)).toInt = 2)
    have t8 := c_iadd z (2 : Int32)
    have t9 := rng32 (z + (2 : Int32))
    have t10 := mt Int32.toInt_inj.mp c38_6
    have t11 := congrArg Int32.toInt hv3
    have t12 := bz0
    have t13 := bz1
    have t14 := bm1
    have t15 := hgt
    have t16 := p5
    omega
theorem ef_cpo (m : MethodId) (x0 : Addr) (x1 : Int32) : entryFrame m #[(.ref x0), (.int x1)] 3 = mkF m 0 #[.val (.ref x0), .val (.int x1), .unset] [] := by first | (simp [entryFrame, mkF, argsToLocals, Value.category]; done) | rfl
set_option maxRecDepth 65536 in
set_option maxHeartbeats 40000000 in
theorem rm_cpo (l : Launch) (Z : State) (a0 : Array Value) (hw : ∀ d ∈ tables_1, d.before a0 Z = true) (t : Addr) (x1 : Int32) (h0 : Heap) (kb : ClassId) (z : Int32) (bs : List Int32) (n0 : Nat) (Z0 : n0 ≤ h0.size) (V_t : Arv Z h0 t kb .byte z (bs.map Value.int) (.int 0)) (bz0 : 0 ≤ z.toInt) (hgt : z.toInt < x1.toInt) (bm1 : x1.toInt ≤ 402) (hbs : (bs.length : Int) ≤ z.toInt) :
    Ct l mn_15 jdk_65_method_121_code 3 (some (.array .byte)) ({ frames := 1, cells := 1, slots := 402, locals := 40 } : Room) Z h0 #[(.ref t), (.int x1)] (fun v h L => ∃ r kc, v = some (.ref r) ∧ Fr n0 L ∧ Keep h0 h [] ∧ h0.size ≤ r ∧ Arv Z h r kc .byte x1 (bs.map Value.int) (.int 0)) := by
  refine Ct.body (plainFor_of_name pn_java_util_Arrays) ?_
  intro p e s m below meth c T0 hx hby hml hown hnm hret hlk hZ X0 e0
  have e0' : (0 : Int32).toInt = 0 := by decide
  have hnn : ¬ x1 < 0 := fun q => by have := Int32.lt_iff_toInt_lt.mp q; omega
  have hcap : x1.toNatClampNeg ≤ 402 := by have := nat_of hnn; omega
  have hlen : (bs.length : Int) ≤ z.toInt := hbs
  have hfit : (0 : Int32).toInt + z.toInt ≤ x1.toInt := by omega
  refine Go.cast (ef_cpo m t x1) ?_
  show Go p e below _ T0 (mkF m 0 #[.val (.ref t), .val (.int x1), .unset] [])
  refine Go.s_iloadN X0 hx (hb hby d15_0) (q := 1) rfl rfl ?_
  refine Go.s_aloadN X0 hx (hb hby d15_1) (q := 2) rfl rfl rfl ?_
  refine Go.len X0 hx hZ e0 V_t (hb hby d15_2) ?_
  show Go p e below _ T0 (mkF m 3 #[.val (.ref t), .val (.int x1), .unset] [(.int z), (.int x1)])
  have hne : ¬ (x1 = z) := fun q => by rw [q] at hgt; omega
  refine Go.s_icmpYes X0 hx (hb hby d15_3) (q := 14) (by decide) (by decide) (feq hne).2 ?_
  refine Go.s_iloadN X0 hx (hb hby d15_14) (q := 15) rfl rfl ?_
  refine Go.newP X0 hx hZ (w_ hw 42 rfl) e0 (hb hby d15_15) hnn (cap := 402) hcap (by decide) (by decide) (by decide) ?_
  intro T1 h1 b1 k1 g1 X1 e1 E1 V1
  have g_b : n0 ≤ b1 := g1 ▸ Z0
  have V_t1 := V_t.ext E1
  have hsz : h0.size ≤ b1 := Nat.le_of_eq g1.symm
  show Go p e below _ T1 (mkF m 17 #[.val (.ref t), .val (.int x1), .unset] [(.ref b1)])
  refine Go.s_astoreN X1 hx (hb hby d15_17) (q := 18) rfl rfl (l' := #[.val (.ref t), .val (.int x1), .val (.ref b1)]) rfl ?_
  refine Go.s_aloadN X1 hx (hb hby d15_18) (q := 19) rfl rfl rfl ?_
  refine Go.s_iconst X1 hx (hb hby d15_19) (q := 20) rfl (z := 0) rfl ?_
  refine Go.s_aloadN X1 hx (hb hby d15_20) (q := 21) rfl rfl rfl ?_
  refine Go.s_iconst X1 hx (hb hby d15_21) (q := 22) rfl (z := 0) rfl ?_
  refine Go.s_aloadN X1 hx (hb hby d15_22) (q := 23) rfl rfl rfl ?_
  refine Go.len X1 hx hZ e1 V_t1 (hb hby d15_23) ?_
  show Go p e below _ T1 (mkF m 24 #[.val (.ref t), .val (.int x1), .val (.ref b1)] [(.int z), (.int (0 : Int32)), (.ref b1), (.int (0 : Int32)), (.ref t)])
  refine Go.s_iloadN X1 hx (hb hby d15_24) (q := 25) rfl rfl ?_
  refine Go.callS (y := mn_16) X1 hx hZ hown (w_ hw 102 rfl) (w_ hw 103 rfl) (w_ hw 94 rfl) (w_ hw 104 rfl) (by decide) e1 (argsL := [(.int z), (.int x1)]) (rest := [(.int (0 : Int32)), (.ref b1), (.int (0 : Int32)), (.ref t)]) (rm_mn l Z a0 hw z x1 _) (by rw [hml]; rfl) (lenOf pd_11 rfl) rfl (hb hby d15_25) (by first | decide | exact Nat.le_of_ble_eq_true rfl) (by first | decide | exact Nat.le_of_ble_eq_true rfl) (by first | decide | exact Nat.le_of_ble_eq_true rfl) (by first | decide | exact Nat.le_of_ble_eq_true rfl) ?_
  intro r2 T2 L2 q2 X2
  obtain ⟨w2, rfl, p2, rfl, e2⟩ := q2
  rw [List.append_nil] at X2
  rcases p2 with ⟨u2_0_0, z2⟩ | ⟨u2_1_0, z2⟩
  · -- x1
    subst w2
    exfalso
    have t0 := rng32 x1
    have t1 := rng32 z
    have t2 := Int32.lt_iff_toInt_lt.mp u2_0_0
    have t3 := hgt
    omega
  · -- z
    subst w2
    refine Go.copy (bs := []) X2 hx hZ hown (w_ hw 105 rfl) (w_ hw 108 rfl) (w_ hw 106 rfl) (w_ hw 107 rfl) e2 V_t1 V1 (by decide) hlen (Int.le_refl _) hfit (Fr.nil n0) g_b (by rw [hml]; rfl) (hb hby d15_28) (by first | decide | exact Nat.le_of_ble_eq_true rfl) (by first | decide | exact Nat.le_of_ble_eq_true rfl) ?_
    intro T3 h3 L3 X3 e3 N3 K3 V3
    have Kc : Keep h0 h3 [] := (Keep.trans (Keep.ext (Keep.refl h0 []) E1) K3 (allS (Or.inr hsz) all0))
    show Go p e below _ T3 (mkF m 31 #[.val (.ref t), .val (.int x1), .val (.ref b1)] [])
    refine Go.s_aloadN X3 hx (hb hby d15_31) (q := 32) rfl rfl rfl ?_
    refine Go.retA X3 hx hlk hret rfl rfl (hb hby d15_32) (by decide) (by decide) ?_
    try rw [e3]
    exact ⟨_, _, rfl, N3, Kc, hsz, V3⟩
theorem ef_ens (m : MethodId) (x0 : Addr) (x1 : Int32) : entryFrame m #[(.ref x0), (.int x1)] 3 = mkF m 0 #[.val (.ref x0), .val (.int x1), .unset] [] := by first | (simp [entryFrame, mkF, argsToLocals, Value.category]; done) | rfl
set_option maxRecDepth 65536 in
set_option maxHeartbeats 40000000 in
theorem rm_ens (l : Launch) (Z : State) (a0 : Array Value) (hw : ∀ d ∈ tables_1, d.before a0 Z = true) (a : Addr) (x1 : Int32) (h0 : Heap) (t : Addr) (kb : ClassId) (z : Int32) (bs : List Int32) (n0 : Nat) (E_a : Exa Z h0 a "java/lang/StringBuilder") (F_v : Fld Z h0 a "java/lang/AbstractStringBuilder" "value" "[B" (.ref t)) (F_c : Fld Z h0 a "java/lang/AbstractStringBuilder" "coder" "B" (.int (0 : Int32))) (F_n : Fld Z h0 a "java/lang/AbstractStringBuilder" "count" "I" (.int (Int32.ofNat bs.length))) (V_t : Arv Z h0 t kb .byte z (bs.map Value.int) (.int 0)) (g_a : n0 ≤ a) (g_t : n0 ≤ t) (Z0 : n0 ≤ h0.size) (bz0 : 0 ≤ z.toInt) (bz1 : z.toInt ≤ 200) (bm0 : 0 ≤ x1.toInt) (bm1 : x1.toInt ≤ 400) (hbs : (bs.length : Int) ≤ z.toInt) :
    Ct l mn_11 jdk_68_method_9_code 3 none ({ frames := 4, cells := 1, slots := 402, locals := 90 } : Room) Z h0 #[(.ref a), (.int x1)] (fun v h L => v = none ∧ Fr n0 L ∧ Keep h0 h [a] ∧ ∃ t' kb' z', n0 ≤ t' ∧ (t' = t ∨ h0.size ≤ t') ∧ Exa Z h a "java/lang/StringBuilder" ∧ Fld Z h a "java/lang/AbstractStringBuilder" "value" "[B" (.ref t') ∧ Fld Z h a "java/lang/AbstractStringBuilder" "coder" "B" (.int (0 : Int32)) ∧ Fld Z h a "java/lang/AbstractStringBuilder" "count" "I" (.int (Int32.ofNat bs.length)) ∧ Arv Z h t' kb' .byte z' (bs.map Value.int) (.int 0) ∧ ((x1.toInt ≤ z.toInt ∧ z' = z) ∨ (z.toInt < x1.toInt ∧ GR z x1 z'))) := by
  refine Ct.body (plainFor_of_name pn_java_lang_AbstractStringBuilder) ?_
  intro p e s m below meth c T0 hx hby hml hown hnm hret hlk hZ X0 e0
  have ne_ta : t ≠ a := Ne.symm (Exa.neArv E_a V_t (w_ hw 28 rfl))
  refine Go.cast (ef_ens m a x1) ?_
  show Go p e below _ T0 (mkF m 0 #[.val (.ref a), .val (.int x1), .unset] [])
  refine Go.s_aloadN X0 hx (hb hby d11_0) (q := 1) rfl rfl rfl ?_
  refine Go.getF X0 hx hZ hown (w_ hw 43 rfl) Via.refl e0 F_v (hb hby d11_1) ?_
  intro T1 X1 e1
  show Go p e below _ T1 (mkF m 4 #[.val (.ref a), .val (.int x1), .unset] [(.ref t)])
  refine Go.len X1 hx hZ e1 V_t (hb hby d11_4) ?_
  show Go p e below _ T1 (mkF m 5 #[.val (.ref a), .val (.int x1), .unset] [(.int z)])
  refine Go.s_aloadN X1 hx (hb hby d11_5) (q := 6) rfl rfl rfl ?_
  refine Go.getF X1 hx hZ hown (w_ hw 45 rfl) Via.refl e1 F_c (hb hby d11_6) ?_
  intro T2 X2 e2
  show Go p e below _ T2 (mkF m 9 #[.val (.ref a), .val (.int x1), .unset] [(.int (0 : Int32)), (.int z)])
  refine Go.s_ishr X2 hx (hb hby d11_9) (q := 10) rfl ?_
  rw [shr0 z]
  refine Go.s_istoreN X2 hx (hb hby d11_10) (q := 11) rfl (l' := #[.val (.ref a), .val (.int x1), .val (.int z)]) rfl ?_
  refine Go.s_iloadN X2 hx (hb hby d11_11) (q := 12) rfl rfl ?_
  refine Go.s_iloadN X2 hx (hb hby d11_12) (q := 13) rfl rfl ?_
  refine Go.s_isub X2 hx (hb hby d11_13) (q := 14) rfl ?_
  by_cases c14_3 : (0 : Int32) < (x1 - z)
  · -- pc 14: (0 : Int32) < (x1 - z)
    refine Go.s_ifNo X2 hx (hb hby d11_14) (q := 17) rfl ((if0 _ _).trans (tlt c14_3).2.2.2) ?_
    refine Go.s_aloadN X2 hx (hb hby d11_17) (q := 18) rfl rfl rfl ?_
    refine Go.s_aloadN X2 hx (hb hby d11_18) (q := 19) rfl rfl rfl ?_
    refine Go.getF X2 hx hZ hown (w_ hw 43 rfl) Via.refl e2 F_v (hb hby d11_19) ?_
    intro T4 X4 e4
    show Go p e below _ T4 (mkF m 22 #[.val (.ref a), .val (.int x1), .val (.int z)] [(.ref t), (.ref a)])
    refine Go.s_aloadN X4 hx (hb hby d11_22) (q := 23) rfl rfl rfl ?_
    refine Go.s_iloadN X4 hx (hb hby d11_23) (q := 24) rfl rfl ?_
    have hgt : z.toInt < x1.toInt := by
      have t0 := (by decide : ((0 : Int32)).toInt = 0)
      have t1 := rng32 x1
      have t2 := rng32 z
      have t3 := c_isub x1 z
      have t4 := rng32 (x1 - z)
      have t5 := Int32.lt_iff_toInt_lt.mp c14_3
      have t6 := bz0
      have t7 := bz1
      have t8 := bm0
      have t9 := bm1
      omega
    refine Go.callPS (y := mn_12) X4 hx hZ hown (w_ hw 83 rfl) (w_ hw 84 rfl) (w_ hw 85 rfl) (w_ hw 86 rfl) (w_ hw 87 rfl) (w_ hw 37 rfl) (by decide) e4 E_a (argsL := [(.int x1)]) (rest := [(.ref t), (.ref a)]) (rm_nc l Z a0 hw a x1 _ t kb z bs n0 E_a F_v F_c F_n V_t g_a g_t bz0 bz1 bm1 hgt) (by rw [hml]; rfl) (lenOf pd_7 rfl) rfl (hb hby d11_24) (by first | decide | exact Nat.le_of_ble_eq_true rfl) (by first | decide | exact Nat.le_of_ble_eq_true rfl) (by first | decide | exact Nat.le_of_ble_eq_true rfl) (by first | decide | exact Nat.le_of_ble_eq_true rfl) ?_
    intro r5 T5 L5 q5 X5
    obtain ⟨w5, rfl, p5, rfl, e5⟩ := q5
    rw [List.append_nil] at X5
    show Go p e below _ T5 (mkF m 27 #[.val (.ref a), .val (.int x1), .val (.int z)] [(.int w5), (.ref t), (.ref a)])
    refine Go.s_aloadN X5 hx (hb hby d11_27) (q := 28) rfl rfl rfl ?_
    refine Go.getF X5 hx hZ hown (w_ hw 45 rfl) Via.refl e5 F_c (hb hby d11_28) ?_
    intro T6 X6 e6
    show Go p e below _ T6 (mkF m 31 #[.val (.ref a), .val (.int x1), .val (.int z)] [(.int (0 : Int32)), (.int w5), (.ref t), (.ref a)])
    refine Go.s_ishl X6 hx (hb hby d11_31) (q := 32) rfl ?_
    rw [shl0 w5]
    obtain ⟨gg1, gg2⟩ := gr_b p5 bz0 bz1 bm1
    refine Go.callS (y := mn_15) X6 hx hZ hown (w_ hw 98 rfl) (w_ hw 99 rfl) (w_ hw 100 rfl) (w_ hw 101 rfl) (by decide) e6 (argsL := [(.ref t), (.int w5)]) (rest := [(.ref a)]) (rm_cpo l Z a0 hw t w5 _ kb z bs n0 Z0 V_t bz0 gg1 gg2 hbs) (by rw [hml]; rfl) (lenOf pd_27 rfl) rfl (hb hby d11_32) (by first | decide | exact Nat.le_of_ble_eq_true rfl) (by first | decide | exact Nat.le_of_ble_eq_true rfl) (by first | decide | exact Nat.le_of_ble_eq_true rfl) (by first | decide | exact Nat.le_of_ble_eq_true rfl) ?_
    intro r7 T7 L7 q7 X7
    obtain ⟨r7a, k7a, rfl, N7, K7, s7, V7⟩ := q7
    have N7q := Fr.app (Fr.nil n0) N7
    have ne_r : r7a ≠ a := fun q => absurd E_a.lt (Nat.not_lt.mpr (q ▸ s7))
    have E_a1 := E_a.keep K7
    have F_v1 := F_v.keep K7 nin0
    have F_c1 := F_c.keep K7 nin0
    have F_n1 := F_n.keep K7 nin0
    show Go p e below _ T7 (mkF m 35 #[.val (.ref a), .val (.int x1), .val (.int z)] [(.ref r7a), (.ref a)])
    refine Go.putF X7 hx hZ hown (w_ hw 43 rfl) Via.refl rfl F_v1 E_a1 (Or.inl (w_ hw 44 rfl)) (w_ hw 28 rfl) (ty := (.array .byte)) (by decide) rfl rfl (hb hby d11_35) ?_
    intro T8 h8 X8 e8 W8
    have N8 := Fr.snoc X8 N7q g_a
    have E_a1_v9 := E_a1.wr W8
    have V7_v10 := V7.other W8 ne_r
    have fact_K_v11 := (Keep.trans (Keep.refl h0 [a]) K7 all0).wr W8 (Or.inl (by simp))
    have F_c1_v12 := F_c1.other W8 (Or.inr (slot_ne (Or.inl (w_ hw 46 rfl)) (Or.inl (w_ hw 44 rfl)) (by decide) (t := .byte) (t' := (.array .byte)) (by decide) (by decide)))
    have F_n1_v13 := F_n1.other W8 (Or.inr (slot_ne (Or.inl (w_ hw 77 rfl)) (Or.inl (w_ hw 44 rfl)) (by decide) (t := .int) (t' := (.array .byte)) (by decide) (by decide)))
    have F_value_a_v14 := F_v1.same W8
    show Go p e below _ T8 (mkF m 38 #[.val (.ref a), .val (.int x1), .val (.int z)] [])
    refine Go.retV X8 hx hlk hret (hb hby d11_38) (by decide) (by decide) ?_
    try rw [e8]
    exact ⟨rfl, N8, fact_K_v11, r7a, _, _, Nat.le_trans Z0 s7, Or.inr s7, E_a1_v9, F_value_a_v14, F_c1_v12, F_n1_v13, V7_v10, Or.inr ⟨hgt, p5⟩⟩
  · -- pc 14: not (0 : Int32) < (x1 - z)
    refine Go.s_ifYes X2 hx (hb hby d11_14) (q := 38) (by decide) (by decide) ((if0 _ _).trans (flt c14_3).2.2.2) ?_
    refine Go.retV X2 hx hlk hret (hb hby d11_38) (by decide) (by decide) ?_
    try rw [e2]
    have hle : x1.toInt ≤ z.toInt := by
      have t0 := (by decide : ((0 : Int32)).toInt = 0)
      have t1 := rng32 x1
      have t2 := rng32 z
      have t3 := c_isub x1 z
      have t4 := rng32 (x1 - z)
      have t5 := mt Int32.lt_iff_toInt_lt.mpr c14_3
      have t6 := bz0
      have t7 := bz1
      have t8 := bm0
      have t9 := bm1
      omega
    exact ⟨rfl, Fr.nil _, Keep.refl _ _, t, kb, z, g_t, Or.inl rfl, E_a, F_v, F_c, F_n, V_t, Or.inl ⟨hle, rfl⟩⟩
theorem ef_cod (m : MethodId) (x0 : Addr) : entryFrame m #[(.ref x0)] 1 = mkF m 0 #[.val (.ref x0)] [] := by first | (simp [entryFrame, mkF, argsToLocals, Value.category]; done) | rfl
set_option maxRecDepth 65536 in
set_option maxHeartbeats 40000000 in
theorem rm_cod (l : Launch) (Z : State) (a0 : Array Value) (hw : ∀ d ∈ tables_1, d.before a0 Z = true) (a : Addr) (h0 : Heap) (zc : Int32) (CS : Sta Z h0 "java/lang/String" "COMPACT_STRINGS" "Z" (.int zc)) (hzc : ¬ zc = 0) (F_sc : Fld Z h0 a "java/lang/String" "coder" "B" (.int (0 : Int32))) :
    Ct l mn_10 jdk_42_method_152_code 1 (some .byte) ({ frames := 0, cells := 0, slots := 0, locals := 0 } : Room) Z h0 #[(.ref a)] (fun v h L => v = some (.int 0) ∧ L = [] ∧ h = h0) := by
  refine Ct.body (plainFor_of_name pn_java_lang_String) ?_
  intro p e s m below meth c T0 hx hby hml hown hnm hret hlk hZ X0 e0
  refine Go.cast (ef_cod m a) ?_
  show Go p e below _ T0 (mkF m 0 #[.val (.ref a)] [])
  refine Go.getS X0 hx hZ hown (w_ hw 74 rfl) Via.refl e0 CS (hb hby d10_0) ?_
  intro T1 X1 e1
  show Go p e below _ T1 (mkF m 3 #[.val (.ref a)] [(.int zc)])
  refine Go.s_ifNo X1 hx (hb hby d10_3) (q := 6) rfl ((if0 _ _).trans (feq hzc).1) ?_
  refine Go.s_aloadN X1 hx (hb hby d10_6) (q := 7) rfl rfl rfl ?_
  refine Go.getF X1 hx hZ hown (w_ hw 75 rfl) Via.refl e1 F_sc (hb hby d10_7) ?_
  intro T2 X2 e2
  show Go p e below _ T2 (mkF m 10 #[.val (.ref a)] [(.int (0 : Int32))])
  refine Go.s_goto X2 hx (hb hby d10_10) (q := 14) (by decide) (by decide) ?_
  refine Go.retN X2 hx hlk hret (by simp) (hb hby d10_14) (by decide) (by decide) ?_
  try rw [e2]
  exact ⟨by decide, rfl, rfl⟩
theorem ef_inf (m : MethodId) (x0 : Addr) (x1 : Addr) : entryFrame m #[(.ref x0), (.ref x1)] 2 = mkF m 0 #[.val (.ref x0), .val (.ref x1)] [] := by first | (simp [entryFrame, mkF, argsToLocals, Value.category]; done) | rfl
set_option maxRecDepth 65536 in
set_option maxHeartbeats 40000000 in
theorem rm_inf (l : Launch) (Z : State) (a0 : Array Value) (hw : ∀ d ∈ tables_1, d.before a0 Z = true) (a : Addr) (sg : Addr) (h0 : Heap) (zc : Int32) (CS : Sta Z h0 "java/lang/String" "COMPACT_STRINGS" "Z" (.int zc)) (hzc : ¬ zc = 0) (F_c : Fld Z h0 a "java/lang/AbstractStringBuilder" "coder" "B" (.int (0 : Int32))) (E_s : Exa Z h0 sg "java/lang/String") (F_sc : Fld Z h0 sg "java/lang/String" "coder" "B" (.int (0 : Int32))) :
    Ct l mn_18 jdk_68_method_71_code 2 none ({ frames := 1, cells := 0, slots := 0, locals := 14 } : Room) Z h0 #[(.ref a), (.ref sg)] (fun v h L => v = none ∧ L = [] ∧ h = h0) := by
  refine Ct.body (plainFor_of_name pn_java_lang_AbstractStringBuilder) ?_
  intro p e s m below meth c T0 hx hby hml hown hnm hret hlk hZ X0 e0
  refine Go.cast (ef_inf m a sg) ?_
  show Go p e below _ T0 (mkF m 0 #[.val (.ref a), .val (.ref sg)] [])
  refine Go.getS X0 hx hZ hown (w_ hw 40 rfl) Via.refl e0 CS (hb hby d18_0) ?_
  intro T1 X1 e1
  show Go p e below _ T1 (mkF m 3 #[.val (.ref a), .val (.ref sg)] [(.int zc)])
  refine Go.s_ifNo X1 hx (hb hby d18_3) (q := 6) rfl ((if0 _ _).trans (feq hzc).1) ?_
  refine Go.s_aloadN X1 hx (hb hby d18_6) (q := 7) rfl rfl rfl ?_
  refine Go.getF X1 hx hZ hown (w_ hw 45 rfl) Via.refl e1 F_c (hb hby d18_7) ?_
  intro T2 X2 e2
  show Go p e below _ T2 (mkF m 10 #[.val (.ref a), .val (.ref sg)] [(.int (0 : Int32))])
  refine Go.s_aloadN X2 hx (hb hby d18_10) (q := 11) rfl rfl rfl ?_
  refine Go.callV (y := mn_10) (z := mn_10) X2 hx hZ hown (w_ hw 119 rfl) (w_ hw 70 rfl) (notFace_of_selects (args := #[]) (mvT hZ (w_ hw 72 rfl))) (w_ hw 72 rfl) (w_ hw 71 rfl) (w_ hw 73 rfl) (w_ hw 41 rfl) (by decide) e2 E_s (argsL := []) (rest := [(.int (0 : Int32))]) (rm_cod l Z a0 hw sg _ zc CS hzc F_sc) (by rw [hml]; rfl) (lenOf pd_0 rfl) rfl (hb hby d18_11) (by first | decide | exact Nat.le_of_ble_eq_true rfl) (by first | decide | exact Nat.le_of_ble_eq_true rfl) (by first | decide | exact Nat.le_of_ble_eq_true rfl) (by first | decide | exact Nat.le_of_ble_eq_true rfl) ?_
  intro r3 T3 L3 q3 X3
  obtain ⟨rfl, rfl, e3⟩ := q3
  rw [List.append_nil] at X3
  show Go p e below _ T3 (mkF m 14 #[.val (.ref a), .val (.ref sg)] [(.int (0 : Int32)), (.int (0 : Int32))])
  refine Go.s_icmpYes X3 hx (hb hby d18_14) (q := 21) (by decide) (by decide) (teq (by decide : (0 : Int32) = (0 : Int32))).1 ?_
  refine Go.retV X3 hx hlk hret (hb hby d18_21) (by decide) (by decide) ?_
  try rw [e3]
  exact ⟨rfl, rfl, rfl⟩
theorem ef_sln (m : MethodId) (x0 : Addr) : entryFrame m #[(.ref x0)] 1 = mkF m 0 #[.val (.ref x0)] [] := by first | (simp [entryFrame, mkF, argsToLocals, Value.category]; done) | rfl
set_option maxRecDepth 65536 in
set_option maxHeartbeats 40000000 in
theorem rm_sln (l : Launch) (Z : State) (a0 : Array Value) (hw : ∀ d ∈ tables_1, d.before a0 Z = true) (sg : Addr) (h0 : Heap) (zc : Int32) (CS : Sta Z h0 "java/lang/String" "COMPACT_STRINGS" "Z" (.int zc)) (hzc : ¬ zc = 0) (ks : Nat) (cs : List Int32) (S_s : Str Z h0 ks sg cs) :
    Ct l mn_9 jdk_42_method_54_code 1 (some .int) ({ frames := 1, cells := 0, slots := 0, locals := 14 } : Room) Z h0 #[(.ref sg)] (fun v h L => v = some (.int (Int32.ofNat cs.length)) ∧ L = [] ∧ h = h0) := by
  refine Ct.body (plainFor_of_name pn_java_lang_String) ?_
  intro p e s m below meth c T0 hx hby hml hown hnm hret hlk hZ X0 e0
  obtain ⟨u, ku, E_s, F_sv, F_sc, V_u, hp, hn, -⟩ := id S_s
  refine Go.cast (ef_sln m sg) ?_
  show Go p e below _ T0 (mkF m 0 #[.val (.ref sg)] [])
  refine Go.s_aloadN X0 hx (hb hby d9_0) (q := 1) rfl rfl rfl ?_
  refine Go.getF X0 hx hZ hown (w_ hw 68 rfl) Via.refl e0 F_sv (hb hby d9_1) ?_
  intro T1 X1 e1
  show Go p e below _ T1 (mkF m 4 #[.val (.ref sg)] [(.ref u)])
  refine Go.len X1 hx hZ e1 V_u (hb hby d9_4) ?_
  show Go p e below _ T1 (mkF m 5 #[.val (.ref sg)] [(.int (Int32.ofNat cs.length))])
  refine Go.s_aloadN X1 hx (hb hby d9_5) (q := 6) rfl rfl rfl ?_
  refine Go.callV (y := mn_10) (z := mn_10) X1 hx hZ hown (w_ hw 69 rfl) (w_ hw 70 rfl) (notFace_of_selects (args := #[]) (mvT hZ (w_ hw 72 rfl))) (w_ hw 72 rfl) (w_ hw 71 rfl) (w_ hw 73 rfl) (w_ hw 41 rfl) (by decide) e1 E_s (argsL := []) (rest := [(.int (Int32.ofNat cs.length))]) (rm_cod l Z a0 hw sg _ zc CS hzc F_sc) (by rw [hml]; rfl) (lenOf pd_0 rfl) rfl (hb hby d9_6) (by first | decide | exact Nat.le_of_ble_eq_true rfl) (by first | decide | exact Nat.le_of_ble_eq_true rfl) (by first | decide | exact Nat.le_of_ble_eq_true rfl) (by first | decide | exact Nat.le_of_ble_eq_true rfl) ?_
  intro r2 T2 L2 q2 X2
  obtain ⟨rfl, rfl, e2⟩ := q2
  rw [List.append_nil] at X2
  show Go p e below _ T2 (mkF m 9 #[.val (.ref sg)] [(.int (0 : Int32)), (.int (Int32.ofNat cs.length))])
  refine Go.s_ishr X2 hx (hb hby d9_9) (q := 10) rfl ?_
  rw [shr0 (Int32.ofNat cs.length)]
  refine Go.retI X2 hx hlk hret (hb hby d9_10) (by decide) (by decide) ?_
  try rw [e2]
  exact ⟨rfl, rfl, rfl⟩
theorem ef_sil (m : MethodId) (x0 : Addr) : entryFrame m #[(.ref x0)] 1 = mkF m 0 #[.val (.ref x0)] [] := by first | (simp [entryFrame, mkF, argsToLocals, Value.category]; done) | rfl
set_option maxRecDepth 65536 in
set_option maxHeartbeats 40000000 in
theorem rm_sil (l : Launch) (Z : State) (a0 : Array Value) (hw : ∀ d ∈ tables_1, d.before a0 Z = true) (sg : Addr) (h0 : Heap) (zc : Int32) (CS : Sta Z h0 "java/lang/String" "COMPACT_STRINGS" "Z" (.int zc)) (hzc : ¬ zc = 0) (ks : Nat) (cs : List Int32) (S_s : Str Z h0 ks sg cs) :
    Ct l mn_36 jdk_42_method_154_code 1 (some .boolean) ({ frames := 0, cells := 0, slots := 0, locals := 0 } : Room) Z h0 #[(.ref sg)] (fun v h L => v = some (.int 1) ∧ L = [] ∧ h = h0) := by
  refine Ct.body (plainFor_of_name pn_java_lang_String) ?_
  intro p e s m below meth c T0 hx hby hml hown hnm hret hlk hZ X0 e0
  obtain ⟨u, ku, E_s, F_sv, F_sc, V_u, hp, hn, -⟩ := id S_s
  refine Go.cast (ef_sil m sg) ?_
  show Go p e below _ T0 (mkF m 0 #[.val (.ref sg)] [])
  refine Go.getS X0 hx hZ hown (w_ hw 74 rfl) Via.refl e0 CS (hb hby d36_0) ?_
  intro T1 X1 e1
  show Go p e below _ T1 (mkF m 3 #[.val (.ref sg)] [(.int zc)])
  refine Go.s_ifNo X1 hx (hb hby d36_3) (q := 6) rfl ((if0 _ _).trans (feq hzc).1) ?_
  refine Go.s_aloadN X1 hx (hb hby d36_6) (q := 7) rfl rfl rfl ?_
  refine Go.getF X1 hx hZ hown (w_ hw 75 rfl) Via.refl e1 F_sc (hb hby d36_7) ?_
  intro T2 X2 e2
  show Go p e below _ T2 (mkF m 10 #[.val (.ref sg)] [(.int (0 : Int32))])
  refine Go.s_ifNo X2 hx (hb hby d36_10) (q := 13) rfl ((if0 _ _).trans (teq (by decide : (0 : Int32) = (0 : Int32))).2) ?_
  refine Go.s_iconst X2 hx (hb hby d36_13) (q := 14) rfl (z := 1) rfl ?_
  refine Go.s_goto X2 hx (hb hby d36_14) (q := 18) (by decide) (by decide) ?_
  refine Go.retN X2 hx hlk hret (by simp) (hb hby d36_18) (by decide) (by decide) ?_
  try rw [e2]
  exact ⟨by decide, rfl, rfl⟩
theorem ef_pcir (m : MethodId) (x0 : Int32) (x1 : Int32) (x2 : Addr) : entryFrame m #[(.int x0), (.int x1), (.ref x2)] 3 = mkF m 0 #[.val (.int x0), .val (.int x1), .val (.ref x2)] [] := by first | (simp [entryFrame, mkF, argsToLocals, Value.category]; done) | rfl
set_option maxRecDepth 65536 in
set_option maxHeartbeats 40000000 in
theorem rm_pcir (l : Launch) (Z : State) (a0 : Array Value) (hw : ∀ d ∈ tables_1, d.before a0 Z = true) (x0 : Int32) (x1 : Int32) (f : Addr) (h0 : Heap) (hi0 : ¬ x0 < 0) (hi1 : x0 < x1) :
    Ct l mn_39 jdk_41_method_11_code 3 (some .int) ({ frames := 0, cells := 0, slots := 0, locals := 0 } : Room) Z h0 #[(.int x0), (.int x1), (.ref f)] (fun v h L => v = some (.int x0) ∧ L = [] ∧ h = h0) := by
  refine Ct.body (plainFor_of_name pn_jdk_internal_util_Preconditions) ?_
  intro p e s m below meth c T0 hx hby hml hown hnm hret hlk hZ X0 e0
  refine Go.cast (ef_pcir m x0 x1 f) ?_
  show Go p e below _ T0 (mkF m 0 #[.val (.int x0), .val (.int x1), .val (.ref f)] [])
  refine Go.s_iloadN X0 hx (hb hby d39_0) (q := 1) rfl rfl ?_
  refine Go.s_ifNo X0 hx (hb hby d39_1) (q := 4) rfl ((if0 _ _).trans (flt hi0).1) ?_
  refine Go.s_iloadN X0 hx (hb hby d39_4) (q := 5) rfl rfl ?_
  refine Go.s_iloadN X0 hx (hb hby d39_5) (q := 6) rfl rfl ?_
  refine Go.s_icmpYes X0 hx (hb hby d39_6) (q := 16) (by decide) (by decide) (tlt hi1).1 ?_
  refine Go.s_iloadN X0 hx (hb hby d39_16) (q := 17) rfl rfl ?_
  refine Go.retI X0 hx hlk hret (hb hby d39_17) (by decide) (by decide) ?_
  try rw [e0]
  exact ⟨rfl, rfl, rfl⟩
theorem ef_scir (m : MethodId) (x0 : Int32) (x1 : Int32) : entryFrame m #[(.int x0), (.int x1)] 2 = mkF m 0 #[.val (.int x0), .val (.int x1)] [] := by first | (simp [entryFrame, mkF, argsToLocals, Value.category]; done) | rfl
set_option maxRecDepth 65536 in
set_option maxHeartbeats 40000000 in
theorem rm_scir (l : Launch) (Z : State) (a0 : Array Value) (hw : ∀ d ∈ tables_1, d.before a0 Z = true) (x0 : Int32) (x1 : Int32) (h0 : Heap) (f : Addr) (SF : Sta Z h0 "jdk/internal/util/Preconditions" "SIOOBE_FORMATTER" "Ljava/util/function/BiFunction;" (.ref f)) (hi0 : ¬ x0 < 0) (hi1 : x0 < x1) :
    Ct l mn_38 jdk_42_method_155_code 2 none ({ frames := 1, cells := 0, slots := 0, locals := 16 } : Room) Z h0 #[(.int x0), (.int x1)] (fun v h L => v = none ∧ L = [] ∧ h = h0) := by
  refine Ct.body (plainFor_of_name pn_java_lang_String) ?_
  intro p e s m below meth c T0 hx hby hml hown hnm hret hlk hZ X0 e0
  refine Go.cast (ef_scir m x0 x1) ?_
  show Go p e below _ T0 (mkF m 0 #[.val (.int x0), .val (.int x1)] [])
  refine Go.s_iloadN X0 hx (hb hby d38_0) (q := 1) rfl rfl ?_
  refine Go.s_iloadN X0 hx (hb hby d38_1) (q := 2) rfl rfl ?_
  refine Go.getS X0 hx hZ hown (w_ hw 208 rfl) Via.refl e0 SF (hb hby d38_2) ?_
  intro T1 X1 e1
  show Go p e below _ T1 (mkF m 5 #[.val (.int x0), .val (.int x1)] [(.ref f), (.int x1), (.int x0)])
  refine Go.callS (y := mn_39) X1 hx hZ hown (w_ hw 210 rfl) (w_ hw 211 rfl) (w_ hw 209 rfl) (w_ hw 212 rfl) (by decide) e1 (argsL := [(.int x0), (.int x1), (.ref f)]) (rest := []) (rm_pcir l Z a0 hw x0 x1 f _ hi0 hi1) (by rw [hml]; rfl) (lenOf pd_14 rfl) rfl (hb hby d38_5) (by decide) (by decide) (by decide) (by decide) ?_
  intro r2 T2 L2 q2 X2
  obtain ⟨rfl, rfl, e2⟩ := q2
  rw [List.append_nil] at X2
  show Go p e below _ T2 (mkF m 8 #[.val (.int x0), .val (.int x1)] [(.int x0)])
  refine Go.s_pop X2 hx (hb hby d38_8) (q := 9) rfl rfl ?_
  refine Go.retV X2 hx hlk hret (hb hby d38_9) (by decide) (by decide) ?_
  try rw [e2]
  exact ⟨rfl, rfl, rfl⟩
theorem ef_pcin (m : MethodId) (x0 : Int32) (x1 : Int32) : entryFrame m #[(.int x0), (.int x1), .null] 3 = mkF m 0 #[.val (.int x0), .val (.int x1), .val .null] [] := by first | (simp [entryFrame, mkF, argsToLocals, Value.category]; done) | rfl
set_option maxRecDepth 65536 in
set_option maxHeartbeats 40000000 in
theorem rm_pcin (l : Launch) (Z : State) (a0 : Array Value) (hw : ∀ d ∈ tables_1, d.before a0 Z = true) (x0 : Int32) (x1 : Int32) (h0 : Heap) (hi0 : ¬ x0 < 0) (hi1 : x0 < x1) :
    Ct l mn_39 jdk_41_method_11_code 3 (some .int) ({ frames := 0, cells := 0, slots := 0, locals := 0 } : Room) Z h0 #[(.int x0), (.int x1), .null] (fun v h L => v = some (.int x0) ∧ L = [] ∧ h = h0) := by
  refine Ct.body (plainFor_of_name pn_jdk_internal_util_Preconditions) ?_
  intro p e s m below meth c T0 hx hby hml hown hnm hret hlk hZ X0 e0
  refine Go.cast (ef_pcin m x0 x1) ?_
  show Go p e below _ T0 (mkF m 0 #[.val (.int x0), .val (.int x1), .val .null] [])
  refine Go.s_iloadN X0 hx (hb hby d39_0) (q := 1) rfl rfl ?_
  refine Go.s_ifNo X0 hx (hb hby d39_1) (q := 4) rfl ((if0 _ _).trans (flt hi0).1) ?_
  refine Go.s_iloadN X0 hx (hb hby d39_4) (q := 5) rfl rfl ?_
  refine Go.s_iloadN X0 hx (hb hby d39_5) (q := 6) rfl rfl ?_
  refine Go.s_icmpYes X0 hx (hb hby d39_6) (q := 16) (by decide) (by decide) (tlt hi1).1 ?_
  refine Go.s_iloadN X0 hx (hb hby d39_16) (q := 17) rfl rfl ?_
  refine Go.retI X0 hx hlk hret (hb hby d39_17) (by decide) (by decide) ?_
  try rw [e0]
  exact ⟨rfl, rfl, rfl⟩
theorem ef_scin (m : MethodId) (x0 : Int32) (x1 : Int32) : entryFrame m #[(.int x0), (.int x1)] 2 = mkF m 0 #[.val (.int x0), .val (.int x1)] [] := by first | (simp [entryFrame, mkF, argsToLocals, Value.category]; done) | rfl
set_option maxRecDepth 65536 in
set_option maxHeartbeats 40000000 in
theorem rm_scin (l : Launch) (Z : State) (a0 : Array Value) (hw : ∀ d ∈ tables_1, d.before a0 Z = true) (x0 : Int32) (x1 : Int32) (h0 : Heap) (SF : Sta Z h0 "jdk/internal/util/Preconditions" "SIOOBE_FORMATTER" "Ljava/util/function/BiFunction;" .null) (hi0 : ¬ x0 < 0) (hi1 : x0 < x1) :
    Ct l mn_38 jdk_42_method_155_code 2 none ({ frames := 1, cells := 0, slots := 0, locals := 16 } : Room) Z h0 #[(.int x0), (.int x1)] (fun v h L => v = none ∧ L = [] ∧ h = h0) := by
  refine Ct.body (plainFor_of_name pn_java_lang_String) ?_
  intro p e s m below meth c T0 hx hby hml hown hnm hret hlk hZ X0 e0
  refine Go.cast (ef_scin m x0 x1) ?_
  show Go p e below _ T0 (mkF m 0 #[.val (.int x0), .val (.int x1)] [])
  refine Go.s_iloadN X0 hx (hb hby d38_0) (q := 1) rfl rfl ?_
  refine Go.s_iloadN X0 hx (hb hby d38_1) (q := 2) rfl rfl ?_
  refine Go.getS X0 hx hZ hown (w_ hw 208 rfl) Via.refl e0 SF (hb hby d38_2) ?_
  intro T1 X1 e1
  show Go p e below _ T1 (mkF m 5 #[.val (.int x0), .val (.int x1)] [.null, (.int x1), (.int x0)])
  refine Go.callS (y := mn_39) X1 hx hZ hown (w_ hw 210 rfl) (w_ hw 211 rfl) (w_ hw 209 rfl) (w_ hw 212 rfl) (by decide) e1 (argsL := [(.int x0), (.int x1), .null]) (rest := []) (rm_pcin l Z a0 hw x0 x1 _ hi0 hi1) (by rw [hml]; rfl) (lenOf pd_14 rfl) rfl (hb hby d38_5) (by decide) (by decide) (by decide) (by decide) ?_
  intro r2 T2 L2 q2 X2
  obtain ⟨rfl, rfl, e2⟩ := q2
  rw [List.append_nil] at X2
  show Go p e below _ T2 (mkF m 8 #[.val (.int x0), .val (.int x1)] [(.int x0)])
  refine Go.s_pop X2 hx (hb hby d38_8) (q := 9) rfl rfl ?_
  refine Go.retV X2 hx hlk hret (hb hby d38_9) (by decide) (by decide) ?_
  try rw [e2]
  exact ⟨rfl, rfl, rfl⟩
theorem rm_sci (l : Launch) (Z : State) (a0 : Array Value) (hw : ∀ d ∈ tables_1, d.before a0 Z = true) (x0 : Int32) (x1 : Int32) (h0 : Heap) (fm : Value) (SF : Sta Z h0 "jdk/internal/util/Preconditions" "SIOOBE_FORMATTER" "Ljava/util/function/BiFunction;" fm) (rf : fm.isRef = true) (hi0 : ¬ x0 < 0) (hi1 : x0 < x1) :
    Ct l mn_38 jdk_42_method_155_code 2 none ({ frames := 1, cells := 0, slots := 0, locals := 16 } : Room) Z h0 #[(.int x0), (.int x1)] (fun v h L => v = none ∧ L = [] ∧ h = h0) := by
  rcases ref_cases rf with rfl | ⟨f, rfl⟩
  · exact rm_scin l Z a0 hw x0 x1 h0 SF hi0 hi1
  · exact rm_scir l Z a0 hw x0 x1 h0 f SF hi0 hi1
theorem ef_lch (m : MethodId) (x0 : Addr) (x1 : Int32) : entryFrame m #[(.ref x0), (.int x1)] 2 = mkF m 0 #[.val (.ref x0), .val (.int x1)] [] := by first | (simp [entryFrame, mkF, argsToLocals, Value.category]; done) | rfl
set_option maxRecDepth 65536 in
set_option maxHeartbeats 40000000 in
theorem rm_lch (l : Launch) (Z : State) (a0 : Array Value) (hw : ∀ d ∈ tables_1, d.before a0 Z = true) (u : Addr) (x1 : Int32) (h0 : Heap) (fm : Value) (SF : Sta Z h0 "jdk/internal/util/Preconditions" "SIOOBE_FORMATTER" "Ljava/util/function/BiFunction;" fm) (rf : fm.isRef = true) (ku : ClassId) (cs : List Int32) (V_u : Arv Z h0 u ku .byte (Int32.ofNat cs.length) ((cs.map (fun c => c.toInt8.toInt32)).map Value.int) (.int 0)) (hp : chs cs) (hn : cs.length ≤ 4000) (hi0 : ¬ x1 < 0) (hi1 : x1 < Int32.ofNat cs.length) :
    Ct l mn_37 jdk_43_method_2_code 2 (some .char) ({ frames := 2, cells := 0, slots := 0, locals := 32 } : Room) Z h0 #[(.ref u), (.int x1)] (fun v h L => v = some (.int (cs.getD x1.toNatClampNeg 0)) ∧ L = [] ∧ h = h0) := by
  refine Ct.body (plainFor_of_name pn_java_lang_StringLatin1) ?_
  intro p e s m below meth c T0 hx hby hml hown hnm hret hlk hZ X0 e0
  refine Go.cast (ef_lch m u x1) ?_
  show Go p e below _ T0 (mkF m 0 #[.val (.ref u), .val (.int x1)] [])
  refine Go.s_iloadN X0 hx (hb hby d37_0) (q := 1) rfl rfl ?_
  refine Go.s_aloadN X0 hx (hb hby d37_1) (q := 2) rfl rfl rfl ?_
  refine Go.len X0 hx hZ e0 V_u (hb hby d37_2) ?_
  show Go p e below _ T0 (mkF m 3 #[.val (.ref u), .val (.int x1)] [(.int (Int32.ofNat cs.length)), (.int x1)])
  refine Go.callS (y := mn_38) X0 hx hZ hown (w_ hw 205 rfl) (w_ hw 206 rfl) (w_ hw 41 rfl) (w_ hw 207 rfl) (by decide) e0 (argsL := [(.int x1), (.int (Int32.ofNat cs.length))]) (rest := []) (rm_sci l Z a0 hw x1 (Int32.ofNat cs.length) _ fm SF rf hi0 hi1) (by rw [hml]; rfl) (lenOf pd_12 rfl) rfl (hb hby d37_3) (by decide) (by decide) (by decide) (by decide) ?_
  intro r1 T1 L1 q1 X1
  obtain ⟨rfl, rfl, e1⟩ := q1
  rw [List.append_nil] at X1
  show Go p e below _ T1 (mkF m 6 #[.val (.ref u), .val (.int x1)] [])
  refine Go.s_aloadN X1 hx (hb hby d37_6) (q := 7) rfl rfl rfl ?_
  refine Go.s_iloadN X1 hx (hb hby d37_7) (q := 8) rfl rfl ?_
  refine Go.ldB X1 hx hZ e1 V_u ⟨hi0, hi1⟩ (w := (.int ((cs.getD x1.toNatClampNeg 0).toInt8.toInt32))) (getD_lo cs _) (hb hby d37_8) ?_
  show Go p e below _ T1 (mkF m 9 #[.val (.ref u), .val (.int x1)] [(.int ((cs.getD x1.toNatClampNeg 0).toInt8.toInt32))])
  refine Go.s_sipush X1 hx (hb hby d37_9) (q := 12) rfl (z := 255) rfl ?_
  refine Go.s_iand X1 hx (hb hby d37_12) (q := 13) rfl ?_
  refine Go.s_i2c X1 hx (hb hby d37_13) (q := 14) rfl ?_
  refine Go.retN X1 hx hlk hret (by simp) (hb hby d37_14) (by decide) (by decide) ?_
  try rw [e1]
  exact ⟨congrArg (fun q => some (Value.int q)) (byte_ch (chs_getD hp (idx_lt hi0 hi1 hn))), rfl, rfl⟩
theorem ef_sch (m : MethodId) (x0 : Addr) (x1 : Int32) : entryFrame m #[(.ref x0), (.int x1)] 2 = mkF m 0 #[.val (.ref x0), .val (.int x1)] [] := by first | (simp [entryFrame, mkF, argsToLocals, Value.category]; done) | rfl
set_option maxRecDepth 65536 in
set_option maxHeartbeats 40000000 in
theorem rm_sch (l : Launch) (Z : State) (a0 : Array Value) (hw : ∀ d ∈ tables_1, d.before a0 Z = true) (sg : Addr) (x1 : Int32) (h0 : Heap) (zc : Int32) (CS : Sta Z h0 "java/lang/String" "COMPACT_STRINGS" "Z" (.int zc)) (hzc : ¬ zc = 0) (fm : Value) (SF : Sta Z h0 "jdk/internal/util/Preconditions" "SIOOBE_FORMATTER" "Ljava/util/function/BiFunction;" fm) (rf : fm.isRef = true) (ks : Nat) (cs : List Int32) (S_s : Str Z h0 ks sg cs) (hi0 : ¬ x1 < 0) (hi1 : x1 < Int32.ofNat cs.length) :
    Ct l mn_35 jdk_42_method_56_code 2 (some .char) ({ frames := 3, cells := 0, slots := 0, locals := 48 } : Room) Z h0 #[(.ref sg), (.int x1)] (fun v h L => v = some (.int (cs.getD x1.toNatClampNeg 0)) ∧ L = [] ∧ h = h0) := by
  refine Ct.body (plainFor_of_name pn_java_lang_String) ?_
  intro p e s m below meth c T0 hx hby hml hown hnm hret hlk hZ X0 e0
  obtain ⟨u, ku, E_s, F_sv, F_sc, V_u, hp, hn, -⟩ := id S_s
  refine Go.cast (ef_sch m sg x1) ?_
  show Go p e below _ T0 (mkF m 0 #[.val (.ref sg), .val (.int x1)] [])
  refine Go.s_aloadN X0 hx (hb hby d35_0) (q := 1) rfl rfl rfl ?_
  refine Go.callV (y := mn_36) (z := mn_36) X0 hx hZ hown (w_ hw 196 rfl) (w_ hw 197 rfl) (notFace_of_selects (args := #[]) (mvT hZ (w_ hw 199 rfl))) (w_ hw 199 rfl) (w_ hw 198 rfl) (w_ hw 200 rfl) (w_ hw 41 rfl) (by decide) e0 E_s (argsL := []) (rest := []) (rm_sil l Z a0 hw sg _ zc CS hzc ks cs S_s) (by rw [hml]; rfl) (lenOf pd_4 rfl) rfl (hb hby d35_1) (by decide) (by decide) (by decide) (by decide) ?_
  intro r1 T1 L1 q1 X1
  obtain ⟨rfl, rfl, e1⟩ := q1
  rw [List.append_nil] at X1
  show Go p e below _ T1 (mkF m 4 #[.val (.ref sg), .val (.int x1)] [(.int (1 : Int32))])
  refine Go.s_ifNo X1 hx (hb hby d35_4) (q := 7) rfl ((if0 _ _).trans (feq (by decide : ¬ ((1 : Int32) = (0 : Int32)))).1) ?_
  refine Go.s_aloadN X1 hx (hb hby d35_7) (q := 8) rfl rfl rfl ?_
  refine Go.getF X1 hx hZ hown (w_ hw 68 rfl) Via.refl e1 F_sv (hb hby d35_8) ?_
  intro T2 X2 e2
  show Go p e below _ T2 (mkF m 11 #[.val (.ref sg), .val (.int x1)] [(.ref u)])
  refine Go.s_iloadN X2 hx (hb hby d35_11) (q := 12) rfl rfl ?_
  refine Go.callS (y := mn_37) X2 hx hZ hown (w_ hw 201 rfl) (w_ hw 202 rfl) (w_ hw 203 rfl) (w_ hw 204 rfl) (by decide) e2 (argsL := [(.ref u), (.int x1)]) (rest := []) (rm_lch l Z a0 hw u x1 _ fm SF rf ku cs V_u hp hn hi0 hi1) (by rw [hml]; rfl) (lenOf pd_26 rfl) rfl (hb hby d35_12) (by decide) (by decide) (by decide) (by decide) ?_
  intro r3 T3 L3 q3 X3
  obtain ⟨rfl, rfl, e3⟩ := q3
  rw [List.append_nil] at X3
  show Go p e below _ T3 (mkF m 15 #[.val (.ref sg), .val (.int x1)] [(.int (cs.getD x1.toNatClampNeg 0))])
  refine Go.retN X3 hx hlk hret (by simp) (hb hby d35_15) (by decide) (by decide) ?_
  try rw [e3]
  exact ⟨congrArg (fun q => some (Value.int q)) (nar_ch (chs_getD hp (idx_lt hi0 hi1 hn))), rfl, rfl⟩
theorem ef_gby (m : MethodId) (x0 : Addr) (x1 : Addr) (x2 : Int32) (x3 : Int32) : entryFrame m #[(.ref x0), (.ref x1), (.int x2), (.int x3)] 4 = mkF m 0 #[.val (.ref x0), .val (.ref x1), .val (.int x2), .val (.int x3)] [] := by first | (simp [entryFrame, mkF, argsToLocals, Value.category]; done) | rfl
set_option maxRecDepth 65536 in
set_option maxHeartbeats 40000000 in
theorem rm_gby (l : Launch) (Z : State) (a0 : Array Value) (hw : ∀ d ∈ tables_1, d.before a0 Z = true) (sg : Addr) (t : Addr) (x : Int32) (h0 : Heap) (zc : Int32) (CS : Sta Z h0 "java/lang/String" "COMPACT_STRINGS" "Z" (.int zc)) (hzc : ¬ zc = 0) (E_s : Exa Z h0 sg "java/lang/String") (u : Addr) (ku : ClassId) (zu : Int32) (us : List Int32) (F_sv : Fld Z h0 sg "java/lang/String" "value" "[B" (.ref u)) (F_sc : Fld Z h0 sg "java/lang/String" "coder" "B" (.int (0 : Int32))) (V_u : Arv Z h0 u ku .byte zu (us.map Value.int) (.int 0)) (hzu : zu.toInt = (us.length : Int)) (kb : ClassId) (z : Int32) (bs : List Int32) (n0 : Nat) (V_t : Arv Z h0 t kb .byte z (bs.map Value.int) (.int 0)) (g_t : n0 ≤ t) (hdp : x.toInt = (bs.length : Int)) (hfit : x.toInt + zu.toInt ≤ z.toInt) :
    Ct l mn_19 jdk_42_method_147_code 4 none ({ frames := 1, cells := 0, slots := 0, locals := 40 } : Room) Z h0 #[(.ref sg), (.ref t), (.int x), (.int (0 : Int32))] (fun v h L => v = none ∧ Fr n0 L ∧ Keep h0 h [t] ∧ Arv Z h t kb .byte z ((bs ++ us).map Value.int) (.int 0)) := by
  refine Ct.body (plainFor_of_name pn_java_lang_String) ?_
  intro p e s m below meth c T0 hx hby hml hown hnm hret hlk hZ X0 e0
  refine Go.cast (ef_gby m sg t x (0 : Int32)) ?_
  show Go p e below _ T0 (mkF m 0 #[.val (.ref sg), .val (.ref t), .val (.int x), .val (.int (0 : Int32))] [])
  refine Go.s_aloadN X0 hx (hb hby d19_0) (q := 1) rfl rfl rfl ?_
  refine Go.callV (y := mn_10) (z := mn_10) X0 hx hZ hown (w_ hw 69 rfl) (w_ hw 70 rfl) (notFace_of_selects (args := #[]) (mvT hZ (w_ hw 72 rfl))) (w_ hw 72 rfl) (w_ hw 71 rfl) (w_ hw 73 rfl) (w_ hw 41 rfl) (by decide) e0 E_s (argsL := []) (rest := []) (rm_cod l Z a0 hw sg _ zc CS hzc F_sc) (by rw [hml]; rfl) (lenOf pd_0 rfl) rfl (hb hby d19_1) (by decide) (by decide) (by decide) (by decide) ?_
  intro r1 T1 L1 q1 X1
  obtain ⟨rfl, rfl, e1⟩ := q1
  rw [List.append_nil] at X1
  show Go p e below _ T1 (mkF m 4 #[.val (.ref sg), .val (.ref t), .val (.int x), .val (.int (0 : Int32))] [(.int (0 : Int32))])
  refine Go.s_iloadN X1 hx (hb hby d19_4) (q := 5) rfl rfl ?_
  refine Go.s_icmpNo X1 hx (hb hby d19_5) (q := 8) rfl (teq (by decide : (0 : Int32) = (0 : Int32))).2 ?_
  refine Go.s_aloadN X1 hx (hb hby d19_8) (q := 9) rfl rfl rfl ?_
  refine Go.getF X1 hx hZ hown (w_ hw 68 rfl) Via.refl e1 F_sv (hb hby d19_9) ?_
  intro T2 X2 e2
  show Go p e below _ T2 (mkF m 12 #[.val (.ref sg), .val (.ref t), .val (.int x), .val (.int (0 : Int32))] [(.ref u)])
  refine Go.s_iconst X2 hx (hb hby d19_12) (q := 13) rfl (z := 0) rfl ?_
  refine Go.s_aloadN X2 hx (hb hby d19_13) (q := 14) rfl rfl rfl ?_
  refine Go.s_iloadN X2 hx (hb hby d19_14) (q := 15) rfl rfl ?_
  refine Go.s_iloadN X2 hx (hb hby d19_15) (q := 16) rfl rfl ?_
  refine Go.s_ishl X2 hx (hb hby d19_16) (q := 17) rfl ?_
  rw [shl0 x]
  refine Go.s_aloadN X2 hx (hb hby d19_17) (q := 18) rfl rfl rfl ?_
  refine Go.getF X2 hx hZ hown (w_ hw 68 rfl) Via.refl e2 F_sv (hb hby d19_18) ?_
  intro T3 X3 e3
  show Go p e below _ T3 (mkF m 21 #[.val (.ref sg), .val (.ref t), .val (.int x), .val (.int (0 : Int32))] [(.ref u), (.int x), (.ref t), (.int (0 : Int32)), (.ref u)])
  refine Go.len X3 hx hZ e3 V_u (hb hby d19_21) ?_
  refine Go.copy (bs := bs) X3 hx hZ hown (w_ hw 125 rfl) (w_ hw 108 rfl) (w_ hw 106 rfl) (w_ hw 107 rfl) e3 V_u V_t hdp (Int.le_of_eq hzu.symm) (Int.le_refl _) hfit (Fr.nil n0) g_t (by rw [hml]; rfl) (hb hby d19_22) (by first | decide | exact Nat.le_of_ble_eq_true rfl) (by first | decide | exact Nat.le_of_ble_eq_true rfl) ?_
  intro T4 h4 L4 X4 e4 N4 K4 V4
  show Go p e below _ T4 (mkF m 25 #[.val (.ref sg), .val (.ref t), .val (.int x), .val (.int (0 : Int32))] [])
  refine Go.s_goto X4 hx (hb hby d19_25) (q := 43) (by decide) (by decide) ?_
  refine Go.retV X4 hx hlk hret (hb hby d19_43) (by decide) (by decide) ?_
  try rw [e4]
  exact ⟨rfl, N4, K4, V4⟩
theorem ef_psa (m : MethodId) (x0 : Addr) (x1 : Int32) (x2 : Addr) : entryFrame m #[(.ref x0), (.int x1), (.ref x2)] 3 = mkF m 0 #[.val (.ref x0), .val (.int x1), .val (.ref x2)] [] := by first | (simp [entryFrame, mkF, argsToLocals, Value.category]; done) | rfl
set_option maxRecDepth 65536 in
set_option maxHeartbeats 40000000 in
theorem rm_psa (l : Launch) (Z : State) (a0 : Array Value) (hw : ∀ d ∈ tables_1, d.before a0 Z = true) (a : Addr) (x : Int32) (sg : Addr) (h0 : Heap) (zc : Int32) (CS : Sta Z h0 "java/lang/String" "COMPACT_STRINGS" "Z" (.int zc)) (hzc : ¬ zc = 0) (E_a : Exa Z h0 a "java/lang/StringBuilder") (E_s : Exa Z h0 sg "java/lang/String") (u : Addr) (ku : ClassId) (zu : Int32) (us : List Int32) (F_sv : Fld Z h0 sg "java/lang/String" "value" "[B" (.ref u)) (F_sc : Fld Z h0 sg "java/lang/String" "coder" "B" (.int (0 : Int32))) (V_u : Arv Z h0 u ku .byte zu (us.map Value.int) (.int 0)) (hzu : zu.toInt = (us.length : Int)) (t : Addr) (kb : ClassId) (z : Int32) (bs : List Int32) (n0 : Nat) (V_t : Arv Z h0 t kb .byte z (bs.map Value.int) (.int 0)) (g_t : n0 ≤ t) (hdp : x.toInt = (bs.length : Int)) (hfit : x.toInt + zu.toInt ≤ z.toInt) (F_v : Fld Z h0 a "java/lang/AbstractStringBuilder" "value" "[B" (.ref t)) (F_c : Fld Z h0 a "java/lang/AbstractStringBuilder" "coder" "B" (.int (0 : Int32))) :
    Ct l mn_17 jdk_68_method_73_code 3 none ({ frames := 2, cells := 0, slots := 0, locals := 60 } : Room) Z h0 #[(.ref a), (.int x), (.ref sg)] (fun v h L => v = none ∧ Fr n0 L ∧ Keep h0 h [t] ∧ Arv Z h t kb .byte z ((bs ++ us).map Value.int) (.int 0)) := by
  refine Ct.body (plainFor_of_name pn_java_lang_AbstractStringBuilder) ?_
  intro p e s m below meth c T0 hx hby hml hown hnm hret hlk hZ X0 e0
  refine Go.cast (ef_psa m a x sg) ?_
  show Go p e below _ T0 (mkF m 0 #[.val (.ref a), .val (.int x), .val (.ref sg)] [])
  refine Go.s_aloadN X0 hx (hb hby d17_0) (q := 1) rfl rfl rfl ?_
  refine Go.s_aloadN X0 hx (hb hby d17_1) (q := 2) rfl rfl rfl ?_
  refine Go.callPS (y := mn_18) X0 hx hZ hown (w_ hw 114 rfl) (w_ hw 115 rfl) (w_ hw 116 rfl) (w_ hw 117 rfl) (w_ hw 118 rfl) (w_ hw 37 rfl) (by decide) e0 E_a (argsL := [(.ref sg)]) (rest := []) (rm_inf l Z a0 hw a sg _ zc CS hzc F_c E_s F_sc) (by rw [hml]; rfl) (lenOf pd_21 rfl) rfl (hb hby d17_2) (by first | decide | exact Nat.le_of_ble_eq_true rfl) (by first | decide | exact Nat.le_of_ble_eq_true rfl) (by first | decide | exact Nat.le_of_ble_eq_true rfl) (by first | decide | exact Nat.le_of_ble_eq_true rfl) ?_
  intro r1 T1 L1 q1 X1
  obtain ⟨rfl, rfl, e1⟩ := q1
  rw [List.append_nil] at X1
  show Go p e below _ T1 (mkF m 5 #[.val (.ref a), .val (.int x), .val (.ref sg)] [])
  refine Go.s_aloadN X1 hx (hb hby d17_5) (q := 6) rfl rfl rfl ?_
  refine Go.s_aloadN X1 hx (hb hby d17_6) (q := 7) rfl rfl rfl ?_
  refine Go.getF X1 hx hZ hown (w_ hw 43 rfl) Via.refl e1 F_v (hb hby d17_7) ?_
  intro T2 X2 e2
  show Go p e below _ T2 (mkF m 10 #[.val (.ref a), .val (.int x), .val (.ref sg)] [(.ref t), (.ref sg)])
  refine Go.s_iloadN X2 hx (hb hby d17_10) (q := 11) rfl rfl ?_
  refine Go.s_aloadN X2 hx (hb hby d17_11) (q := 12) rfl rfl rfl ?_
  refine Go.getF X2 hx hZ hown (w_ hw 45 rfl) Via.refl e2 F_c (hb hby d17_12) ?_
  intro T3 X3 e3
  show Go p e below _ T3 (mkF m 15 #[.val (.ref a), .val (.int x), .val (.ref sg)] [(.int (0 : Int32)), (.int x), (.ref t), (.ref sg)])
  refine Go.callV (y := mn_19) (z := mn_19) X3 hx hZ hown (w_ hw 120 rfl) (w_ hw 121 rfl) (notFace_of_selects (args := #[]) (mvT hZ (w_ hw 123 rfl))) (w_ hw 123 rfl) (w_ hw 122 rfl) (w_ hw 124 rfl) (w_ hw 41 rfl) (by decide) e3 E_s (argsL := [(.ref t), (.int x), (.int (0 : Int32))]) (rest := []) (rm_gby l Z a0 hw sg t x _ zc CS hzc E_s u ku zu us F_sv F_sc V_u hzu kb z bs n0 V_t g_t hdp hfit) (by rw [hml]; rfl) (lenOf pd_28 rfl) rfl (hb hby d17_15) (by decide) (by decide) (by decide) (by decide) ?_
  intro r4 T4 L4 q4 X4
  obtain ⟨rfl, N4, K4, V4⟩ := q4
  show Go p e below _ T4 (mkF m 18 #[.val (.ref a), .val (.int x), .val (.ref sg)] [])
  refine Go.retV X4 hx hlk hret (hb hby d17_18) (by decide) (by decide) ?_
  exact ⟨rfl, Fr.app (Fr.nil _) N4, K4, V4⟩
theorem ef_aas (m : MethodId) (x0 : Addr) (x1 : Addr) : entryFrame m #[(.ref x0), (.ref x1)] 3 = mkF m 0 #[.val (.ref x0), .val (.ref x1), .unset] [] := by first | (simp [entryFrame, mkF, argsToLocals, Value.category]; done) | rfl
set_option maxRecDepth 65536 in
set_option maxHeartbeats 40000000 in
theorem rm_aas (l : Launch) (Z : State) (a0 : Array Value) (hw : ∀ d ∈ tables_1, d.before a0 Z = true) (a : Addr) (sg : Addr) (h0 : Heap) (zc : Int32) (CS : Sta Z h0 "java/lang/String" "COMPACT_STRINGS" "Z" (.int zc)) (hzc : ¬ zc = 0) (t : Addr) (kb : ClassId) (z : Int32) (bs : List Int32) (n0 : Nat) (E_a : Exa Z h0 a "java/lang/StringBuilder") (F_v : Fld Z h0 a "java/lang/AbstractStringBuilder" "value" "[B" (.ref t)) (F_c : Fld Z h0 a "java/lang/AbstractStringBuilder" "coder" "B" (.int (0 : Int32))) (F_n : Fld Z h0 a "java/lang/AbstractStringBuilder" "count" "I" (.int (Int32.ofNat bs.length))) (V_t : Arv Z h0 t kb .byte z (bs.map Value.int) (.int 0)) (g_a : n0 ≤ a) (g_t : n0 ≤ t) (Z0 : n0 ≤ h0.size) (bz0 : 0 ≤ z.toInt) (bz1 : z.toInt ≤ 200) (hbs : (bs.length : Int) ≤ z.toInt) (ks : Nat) (cs : List Int32) (S_s : Str Z h0 ks sg cs) (hb1 : bs.length ≤ 100) (hb2 : cs.length ≤ 100) :
    Ct l mn_8 jdk_68_method_22_code 3 (some (.object "java/lang/AbstractStringBuilder")) ({ frames := 5, cells := 1, slots := 402, locals := 130 } : Room) Z h0 #[(.ref a), (.ref sg)] (fun v h L => v = some (.ref a) ∧ Fr n0 L ∧ Keep h0 h [a, t] ∧ ∃ t' kb' z', n0 ≤ t' ∧ (t' = t ∨ h0.size ≤ t') ∧ Exa Z h a "java/lang/StringBuilder" ∧ Fld Z h a "java/lang/AbstractStringBuilder" "value" "[B" (.ref t') ∧ Fld Z h a "java/lang/AbstractStringBuilder" "coder" "B" (.int (0 : Int32)) ∧ Fld Z h a "java/lang/AbstractStringBuilder" "count" "I" (.int (Int32.ofNat (bs ++ cs.map (fun c => c.toInt8.toInt32)).length)) ∧ Arv Z h t' kb' .byte z' ((bs ++ cs.map (fun c => c.toInt8.toInt32)).map Value.int) (.int 0) ∧ CapR z (bs.length + cs.length) z') := by
  refine Ct.body (plainFor_of_name pn_java_lang_AbstractStringBuilder) ?_
  intro p e s m below meth c T0 hx hby hml hown hnm hret hlk hZ X0 e0
  have ne_ta : t ≠ a := Ne.symm (Exa.neArv E_a V_t (w_ hw 28 rfl))
  have E_s0 := S_s.exa
  refine Go.cast (ef_aas m a sg) ?_
  show Go p e below _ T0 (mkF m 0 #[.val (.ref a), .val (.ref sg), .unset] [])
  refine Go.s_aloadN X0 hx (hb hby d8_0) (q := 1) rfl rfl rfl ?_
  refine Go.s_ifnonnullYes X0 hx (hb hby d8_1) (q := 9) (by decide) (by decide) ?_
  refine Go.s_aloadN X0 hx (hb hby d8_9) (q := 10) rfl rfl rfl ?_
  refine Go.callV (y := mn_9) (z := mn_9) X0 hx hZ hown (w_ hw 63 rfl) (w_ hw 64 rfl) (notFace_of_selects (args := #[]) (mvT hZ (w_ hw 66 rfl))) (w_ hw 66 rfl) (w_ hw 65 rfl) (w_ hw 67 rfl) (w_ hw 41 rfl) (by decide) e0 E_s0 (argsL := []) (rest := []) (rm_sln l Z a0 hw sg _ zc CS hzc ks cs S_s) (by rw [hml]; rfl) (lenOf pd_1 rfl) rfl (hb hby d8_10) (by decide) (by decide) (by decide) (by decide) ?_
  intro r1 T1 L1 q1 X1
  obtain ⟨rfl, rfl, e1⟩ := q1
  rw [List.append_nil] at X1
  show Go p e below _ T1 (mkF m 13 #[.val (.ref a), .val (.ref sg), .unset] [(.int (Int32.ofNat cs.length))])
  refine Go.s_istoreN X1 hx (hb hby d8_13) (q := 14) rfl (l' := #[.val (.ref a), .val (.ref sg), .val (.int (Int32.ofNat cs.length))]) rfl ?_
  refine Go.s_aloadN X1 hx (hb hby d8_14) (q := 15) rfl rfl rfl ?_
  refine Go.s_aloadN X1 hx (hb hby d8_15) (q := 16) rfl rfl rfl ?_
  refine Go.getF X1 hx hZ hown (w_ hw 76 rfl) Via.refl e1 F_n (hb hby d8_16) ?_
  intro T2 X2 e2
  show Go p e below _ T2 (mkF m 19 #[.val (.ref a), .val (.ref sg), .val (.int (Int32.ofNat cs.length))] [(.int (Int32.ofNat bs.length)), (.ref a)])
  refine Go.s_iloadN X2 hx (hb hby d8_19) (q := 20) rfl rfl ?_
  refine Go.s_iadd X2 hx (hb hby d8_20) (q := 21) rfl ?_
  have hx1 := sum_i bs cs hb1 hb2
  refine Go.callPS (y := mn_11) X2 hx hZ hown (w_ hw 78 rfl) (w_ hw 79 rfl) (w_ hw 80 rfl) (w_ hw 81 rfl) (w_ hw 82 rfl) (w_ hw 37 rfl) (by decide) e2 E_a (argsL := [(.int ((Int32.ofNat bs.length) + (Int32.ofNat cs.length)))]) (rest := []) (rm_ens l Z a0 hw a (Int32.ofNat bs.length + Int32.ofNat cs.length) _ t kb z bs n0 E_a F_v F_c F_n V_t g_a g_t Z0 bz0 bz1 hx1.1 hx1.2.1 hbs) (by rw [hml]; rfl) (lenOf pd_10 rfl) rfl (hb hby d8_21) (by first | decide | exact Nat.le_of_ble_eq_true rfl) (by first | decide | exact Nat.le_of_ble_eq_true rfl) (by first | decide | exact Nat.le_of_ble_eq_true rfl) (by first | decide | exact Nat.le_of_ble_eq_true rfl) ?_
  intro r3 T3 L3 q3 X3
  obtain ⟨rfl, N3, K3, t1, kb1, z1, g_t1, ht1, E_a1, F_v1, F_c1, F_n1, V_t1, hR⟩ := q3
  have S_s1 := S_s.keepA K3 E_a (by decide) (w_ hw 28 rfl)
  obtain ⟨u, ku, E_s, F_sv, F_sc, V_u, hp1, hp2, -⟩ := id S_s1
  have CS1 := Sta.keepN CS K3 (nsS (Exa.nostat E_a) ns0)
  have K1 : Keep h0 T3.heap [a, t] := Keep.trans (Keep.refl h0 [a, t]) K3 (allS (Or.inl (by simp)) all0)
  have hcap := cap_of hR hx1
  show Go p e below _ T3 (mkF m 24 #[.val (.ref a), .val (.ref sg), .val (.int (Int32.ofNat cs.length))] [])
  refine Go.s_aloadN X3 hx (hb hby d8_24) (q := 25) rfl rfl rfl ?_
  refine Go.s_aloadN X3 hx (hb hby d8_25) (q := 26) rfl rfl rfl ?_
  refine Go.getF X3 hx hZ hown (w_ hw 76 rfl) Via.refl rfl F_n1 (hb hby d8_26) ?_
  intro T4 X4 e4
  show Go p e below _ T4 (mkF m 29 #[.val (.ref a), .val (.ref sg), .val (.int (Int32.ofNat cs.length))] [(.int (Int32.ofNat bs.length)), (.ref a)])
  refine Go.s_aloadN X4 hx (hb hby d8_29) (q := 30) rfl rfl rfl ?_
  refine Go.callPS (y := mn_17) X4 hx hZ hown (w_ hw 109 rfl) (w_ hw 110 rfl) (w_ hw 111 rfl) (w_ hw 112 rfl) (w_ hw 113 rfl) (w_ hw 37 rfl) (by decide) e4 E_a1 (argsL := [(.int (Int32.ofNat bs.length)), (.ref sg)]) (rest := []) (rm_psa l Z a0 hw a (Int32.ofNat bs.length) sg _ zc CS1 hzc E_a1 E_s u ku _ (cs.map (fun c => c.toInt8.toInt32)) F_sv F_sc V_u (len_i cs hb2) t1 kb1 z1 bs n0 V_t1 g_t1 (ofn_i (by omega)) (fit_i hcap hb1 hb2) F_v1 F_c1) (by rw [hml]; rfl) (lenOf pd_16 rfl) rfl (hb hby d8_30) (by first | decide | exact Nat.le_of_ble_eq_true rfl) (by first | decide | exact Nat.le_of_ble_eq_true rfl) (by first | decide | exact Nat.le_of_ble_eq_true rfl) (by first | decide | exact Nat.le_of_ble_eq_true rfl) ?_
  intro r5 T5 L5 q5 X5
  obtain ⟨rfl, N5, K5, V_t2⟩ := q5
  have ne2 : t1 ≠ a := Ne.symm (Exa.neArv E_a1 V_t1 (w_ hw 28 rfl))
  have K2 := Keep.trans K1 K5 (allS (ht1.imp (fun q => by rw [q]; simp) id) all0)
  have E_a2 := E_a1.keep K5
  have F_v2 := F_v1.keep K5 (ninS (Ne.symm ne2) nin0)
  have F_c2 := F_c1.keep K5 (ninS (Ne.symm ne2) nin0)
  have F_n2 := F_n1.keep K5 (ninS (Ne.symm ne2) nin0)
  show Go p e below _ T5 (mkF m 33 #[.val (.ref a), .val (.ref sg), .val (.int (Int32.ofNat cs.length))] [])
  refine Go.s_aloadN X5 hx (hb hby d8_33) (q := 34) rfl rfl rfl ?_
  refine Go.s_dup X5 hx (hb hby d8_34) (q := 35) rfl rfl ?_
  refine Go.getF X5 hx hZ hown (w_ hw 76 rfl) Via.refl rfl F_n2 (hb hby d8_35) ?_
  intro T6 X6 e6
  show Go p e below _ T6 (mkF m 38 #[.val (.ref a), .val (.ref sg), .val (.int (Int32.ofNat cs.length))] [(.int (Int32.ofNat bs.length)), (.ref a)])
  refine Go.s_iloadN X6 hx (hb hby d8_38) (q := 39) rfl rfl ?_
  refine Go.s_iadd X6 hx (hb hby d8_39) (q := 40) rfl ?_
  refine Go.putF X6 hx hZ hown (w_ hw 76 rfl) Via.refl e6 F_n2 E_a2 (Or.inl (w_ hw 77 rfl)) (w_ hw 28 rfl) (ty := .int) (by decide) rfl rfl (hb hby d8_40) ?_
  intro T7 h7 X7 e7 W7
  have N7 := Fr.snoc X7 (Fr.app (Fr.app (Fr.nil n0) N3) N5) g_a
  have E_a2_v8 := E_a2.wr W7
  have F_v9 := F_v2.other W7 (Or.inr (slot_ne (Or.inl (w_ hw 44 rfl)) (Or.inl (w_ hw 77 rfl)) (by decide) (t := (.array .byte)) (t' := .int) (by decide) (by decide)))
  have F_c2_v10 := F_c2.other W7 (Or.inr (slot_ne (Or.inl (w_ hw 46 rfl)) (Or.inl (w_ hw 77 rfl)) (by decide) (t := .byte) (t' := .int) (by decide) (by decide)))
  have V_t2_v11 := V_t2.other W7 ne2
  have K2_v12 := K2.wr W7 (Or.inl (by simp))
  have F_count_a_v13 := F_n2.same W7
  show Go p e below _ T7 (mkF m 43 #[.val (.ref a), .val (.ref sg), .val (.int (Int32.ofNat cs.length))] [])
  refine Go.s_aloadN X7 hx (hb hby d8_43) (q := 44) rfl rfl rfl ?_
  refine Go.retA X7 hx hlk hret rfl rfl (hb hby d8_44) (by decide) (by decide) ?_
  try rw [e7]
  exact ⟨rfl, N7, K2_v12, t1, kb1, z1, g_t1, ht1, E_a2_v8, F_v9, F_c2_v10, (len_app bs cs ▸ F_count_a_v13), V_t2_v11, hcap⟩
theorem ef_sas (m : MethodId) (x0 : Addr) (x1 : Addr) : entryFrame m #[(.ref x0), (.ref x1)] 2 = mkF m 0 #[.val (.ref x0), .val (.ref x1)] [] := by first | (simp [entryFrame, mkF, argsToLocals, Value.category]; done) | rfl
set_option maxRecDepth 65536 in
set_option maxHeartbeats 40000000 in
theorem rm_sas (l : Launch) (Z : State) (a0 : Array Value) (hw : ∀ d ∈ tables_1, d.before a0 Z = true) (a : Addr) (sg : Addr) (h0 : Heap) (zc : Int32) (CS : Sta Z h0 "java/lang/String" "COMPACT_STRINGS" "Z" (.int zc)) (hzc : ¬ zc = 0) (t : Addr) (kb : ClassId) (z : Int32) (bs : List Int32) (n0 : Nat) (E_a : Exa Z h0 a "java/lang/StringBuilder") (F_v : Fld Z h0 a "java/lang/AbstractStringBuilder" "value" "[B" (.ref t)) (F_c : Fld Z h0 a "java/lang/AbstractStringBuilder" "coder" "B" (.int (0 : Int32))) (F_n : Fld Z h0 a "java/lang/AbstractStringBuilder" "count" "I" (.int (Int32.ofNat bs.length))) (V_t : Arv Z h0 t kb .byte z (bs.map Value.int) (.int 0)) (g_a : n0 ≤ a) (g_t : n0 ≤ t) (Z0 : n0 ≤ h0.size) (bz0 : 0 ≤ z.toInt) (bz1 : z.toInt ≤ 200) (hbs : (bs.length : Int) ≤ z.toInt) (ks : Nat) (cs : List Int32) (S_s : Str Z h0 ks sg cs) (hb1 : bs.length ≤ 100) (hb2 : cs.length ≤ 100) :
    Ct l mn_7 jdk_67_method_7_code 2 (some (.object "java/lang/StringBuilder")) ({ frames := 6, cells := 1, slots := 402, locals := 146 } : Room) Z h0 #[(.ref a), (.ref sg)] (fun v h L => v = some (.ref a) ∧ Fr n0 L ∧ Keep h0 h [a, t] ∧ ∃ t' kb' z', n0 ≤ t' ∧ (t' = t ∨ h0.size ≤ t') ∧ Exa Z h a "java/lang/StringBuilder" ∧ Fld Z h a "java/lang/AbstractStringBuilder" "value" "[B" (.ref t') ∧ Fld Z h a "java/lang/AbstractStringBuilder" "coder" "B" (.int (0 : Int32)) ∧ Fld Z h a "java/lang/AbstractStringBuilder" "count" "I" (.int (Int32.ofNat (bs ++ cs.map (fun c => c.toInt8.toInt32)).length)) ∧ Arv Z h t' kb' .byte z' ((bs ++ cs.map (fun c => c.toInt8.toInt32)).map Value.int) (.int 0) ∧ CapR z (bs.length + cs.length) z') := by
  refine Ct.body (plainFor_of_name pn_java_lang_StringBuilder) ?_
  intro p e s m below meth c T0 hx hby hml hown hnm hret hlk hZ X0 e0
  have ne_ta : t ≠ a := Ne.symm (Exa.neArv E_a V_t (w_ hw 28 rfl))
  refine Go.cast (ef_sas m a sg) ?_
  show Go p e below _ T0 (mkF m 0 #[.val (.ref a), .val (.ref sg)] [])
  refine Go.s_aloadN X0 hx (hb hby d7_0) (q := 1) rfl rfl rfl ?_
  refine Go.s_aloadN X0 hx (hb hby d7_1) (q := 2) rfl rfl rfl ?_
  refine Go.callSup (y := mn_8) X0 hx hZ hown (w_ hw 58 rfl) (same_of (w_ hw 142 rfl) rfl (w_ hw 59 rfl) (by decide)) (w_ hw 59 rfl) (w_ hw 60 rfl) (w_ hw 62 rfl) (w_ hw 37 rfl) (by decide) e0 E_a (argsL := [(.ref sg)]) (rest := []) (rm_aas l Z a0 hw a sg _ zc CS hzc t kb z bs n0 E_a F_v F_c F_n V_t g_a g_t Z0 bz0 bz1 hbs ks cs S_s hb1 hb2) (by rw [hml]; rfl) (lenOf pd_19 rfl) rfl (hb hby d7_2) (by first | decide | exact Nat.le_of_ble_eq_true rfl) (by first | decide | exact Nat.le_of_ble_eq_true rfl) (by first | decide | exact Nat.le_of_ble_eq_true rfl) (by first | decide | exact Nat.le_of_ble_eq_true rfl) ?_
  intro r1 T1 L1 q1 X1
  obtain ⟨rfl, N1, R1⟩ := q1
  show Go p e below _ T1 (mkF m 5 #[.val (.ref a), .val (.ref sg)] [(.ref a)])
  refine Go.s_pop X1 hx (hb hby d7_5) (q := 6) rfl rfl ?_
  refine Go.s_aloadN X1 hx (hb hby d7_6) (q := 7) rfl rfl rfl ?_
  refine Go.retA X1 hx hlk hret rfl rfl (hb hby d7_7) (by decide) (by decide) ?_
  exact ⟨rfl, Fr.app (Fr.nil _) N1, R1⟩
theorem ef_ai (m : MethodId) (x0 : Addr) (x1 : Int32) : entryFrame m #[(.ref x0), (.int x1)] 2 = mkF m 0 #[.val (.ref x0), .val (.int x1)] [] := by first | (simp [entryFrame, mkF, argsToLocals, Value.category]; done) | rfl
set_option maxRecDepth 65536 in
set_option maxHeartbeats 40000000 in
theorem rm_ai (l : Launch) (Z : State) (a0 : Array Value) (hw : ∀ d ∈ tables_1, d.before a0 Z = true) (a : Addr) (h0 : Heap) (zc : Int32) (CS : Sta Z h0 "java/lang/String" "COMPACT_STRINGS" "Z" (.int zc)) (hzc : ¬ zc = 0) (n0 : Nat) (Z0 : n0 ≤ h0.size) (E_a : Exa Z h0 a "java/lang/StringBuilder") (v0 c0 : Value) (F_v : Fld Z h0 a "java/lang/AbstractStringBuilder" "value" "[B" v0) (F_c : Fld Z h0 a "java/lang/AbstractStringBuilder" "coder" "B" c0) (F_n : Fld Z h0 a "java/lang/AbstractStringBuilder" "count" "I" (.int (0 : Int32))) (g_a : n0 ≤ a) :
    Ct l mn_6 jdk_68_method_2_code 2 none ({ frames := 1, cells := 1, slots := 16, locals := 14 } : Room) Z h0 #[(.ref a), (.int (16 : Int32))] (fun v h L => v = none ∧ Fr n0 L ∧ Keep h0 h [a] ∧ ∃ t' kb', h0.size ≤ t' ∧ Exa Z h a "java/lang/StringBuilder" ∧ Fld Z h a "java/lang/AbstractStringBuilder" "value" "[B" (.ref t') ∧ Fld Z h a "java/lang/AbstractStringBuilder" "coder" "B" (.int (0 : Int32)) ∧ Fld Z h a "java/lang/AbstractStringBuilder" "count" "I" (.int (Int32.ofNat (([] : List Int32)).length)) ∧ Arv Z h t' kb' .byte (16 : Int32) ((([] : List Int32)).map Value.int) (.int 0)) := by
  refine Ct.body (plainFor_of_name pn_java_lang_AbstractStringBuilder) ?_
  intro p e s m below meth c T0 hx hby hml hown hnm hret hlk hZ X0 e0
  refine Go.cast (ef_ai m a (16 : Int32)) ?_
  show Go p e below _ T0 (mkF m 0 #[.val (.ref a), .val (.int (16 : Int32))] [])
  refine Go.s_aloadN X0 hx (hb hby d6_0) (q := 1) rfl rfl rfl ?_
  refine Go.initO X0 hx hZ hown (w_ hw 39 rfl) (w_ hw 18 rfl) (w_ hw 19 rfl) e0 (by rw [hml]; rfl) (hb hby d6_1) (by decide) (by decide) ?_
  intro T1 X1 e1
  show Go p e below _ T1 (mkF m 4 #[.val (.ref a), .val (.int (16 : Int32))] [])
  refine Go.getS X1 hx hZ hown (w_ hw 40 rfl) Via.refl e1 CS (hb hby d6_4) ?_
  intro T2 X2 e2
  show Go p e below _ T2 (mkF m 7 #[.val (.ref a), .val (.int (16 : Int32))] [(.int zc)])
  refine Go.s_ifNo X2 hx (hb hby d6_7) (q := 10) rfl ((if0 _ _).trans (feq hzc).1) ?_
  refine Go.s_aloadN X2 hx (hb hby d6_10) (q := 11) rfl rfl rfl ?_
  refine Go.s_iloadN X2 hx (hb hby d6_11) (q := 12) rfl rfl ?_
  refine Go.newP X2 hx hZ (w_ hw 42 rfl) e2 (hb hby d6_12) (by decide) (cap := 16) (by decide) (by decide) (by decide) (by decide) ?_
  intro T3 h3 b3 k3 g3 X3 e3 E3 V3
  have ne_a_b3 : a ≠ b3 := Nat.ne_of_lt (g3 ▸ E_a.lt)
  have g_b3 : n0 ≤ b3 := g3 ▸ Z0
  have sz_b3 : h0.size ≤ b3 := g3 ▸ (Keep.refl h0 [a]).1
  have CS_v4 := CS.ext E3
  have E_a_v5 := E_a.ext E3
  have F_v_v6 := F_v.ext E3
  have F_c_v7 := F_c.ext E3
  have F_n_v8 := F_n.ext E3
  have Z0_v9 := Nat.le_trans Z0 E3.1
  have fact_K_v10 := (Keep.refl h0 [a]).ext E3
  have V3_11 : Arv Z h3 b3 k3 .byte (16 : Int32) [(.int (0 : Int32)), (.int (0 : Int32)), (.int (0 : Int32)), (.int (0 : Int32)), (.int (0 : Int32)), (.int (0 : Int32)), (.int (0 : Int32)), (.int (0 : Int32)), (.int (0 : Int32)), (.int (0 : Int32)), (.int (0 : Int32)), (.int (0 : Int32)), (.int (0 : Int32)), (.int (0 : Int32)), (.int (0 : Int32)), (.int (0 : Int32))] (.int (0 : Int32)) := V3.pad (pad_rep [] (.int (0 : Int32)) 16)
  show Go p e below _ T3 (mkF m 14 #[.val (.ref a), .val (.int (16 : Int32))] [(.ref b3), (.ref a)])
  refine Go.putF X3 hx hZ hown (w_ hw 43 rfl) Via.refl e3 F_v_v6 E_a_v5 (Or.inl (w_ hw 44 rfl)) (w_ hw 28 rfl) (ty := (.array .byte)) (by decide) rfl rfl (hb hby d6_14) ?_
  intro T12 h12 X12 e12 W12
  have N12 := Fr.snoc X12 (Fr.nil n0) g_a
  have CS_v13 := CS_v4.wr W12
  have E_a_v14 := E_a_v5.wr W12
  have F_c_v15 := F_c_v7.other W12 (Or.inr (slot_ne (Or.inl (w_ hw 46 rfl)) (Or.inl (w_ hw 44 rfl)) (by decide) (t := .byte) (t' := (.array .byte)) (by decide) (by decide)))
  have F_n_v16 := F_n_v8.other W12 (Or.inr (slot_ne (Or.inl (w_ hw 77 rfl)) (Or.inl (w_ hw 44 rfl)) (by decide) (t := .int) (t' := (.array .byte)) (by decide) (by decide)))
  have Z0_v17 := Nat.le_trans Z0_v9 (Keep.of_wr W12).1
  have fact_K_v18 := fact_K_v10.wr W12 (Or.inl (by simp))
  have V3_11_v19 := V3_11.other W12 (Ne.symm ne_a_b3)
  have F_value_a_v20 := F_v_v6.same W12
  show Go p e below _ T12 (mkF m 17 #[.val (.ref a), .val (.int (16 : Int32))] [])
  refine Go.s_aloadN X12 hx (hb hby d6_17) (q := 18) rfl rfl rfl ?_
  refine Go.s_iconst X12 hx (hb hby d6_18) (q := 19) rfl (z := 0) rfl ?_
  refine Go.putF X12 hx hZ hown (w_ hw 45 rfl) Via.refl e12 F_c_v15 E_a_v14 (Or.inl (w_ hw 46 rfl)) (w_ hw 28 rfl) (ty := .byte) (by decide) (by decide) (by decide) (hb hby d6_19) ?_
  intro T21 h21 X21 e21 W21
  have N21 := Fr.snoc X21 N12 g_a
  have CS_v22 := CS_v13.wr W21
  have E_a_v23 := E_a_v14.wr W21
  have F_n_v24 := F_n_v16.other W21 (Or.inr (slot_ne (Or.inl (w_ hw 77 rfl)) (Or.inl (w_ hw 46 rfl)) (by decide) (t := .int) (t' := .byte) (by decide) (by decide)))
  have Z0_v25 := Nat.le_trans Z0_v17 (Keep.of_wr W21).1
  have fact_K_v26 := fact_K_v18.wr W21 (Or.inl (by simp))
  have V3_11_v27 := V3_11_v19.other W21 (Ne.symm ne_a_b3)
  have F_value_a_v28 := F_value_a_v20.other W21 (Or.inr (slot_ne (Or.inl (w_ hw 44 rfl)) (Or.inl (w_ hw 46 rfl)) (by decide) (t := (.array .byte)) (t' := .byte) (by decide) (by decide)))
  have F_coder_21 := F_c_v15.same W21
  show Go p e below _ T21 (mkF m 22 #[.val (.ref a), .val (.int (16 : Int32))] [])
  refine Go.s_goto X21 hx (hb hby d6_22) (q := 38) (by decide) (by decide) ?_
  refine Go.retV X21 hx hlk hret (hb hby d6_38) (by decide) (by decide) ?_
  try rw [e21]
  exact ⟨rfl, N21, fact_K_v26, b3, _, sz_b3, E_a_v23, F_value_a_v28, F_coder_21, F_n_v24, Arv.pad V3_11_v27 pad16⟩
theorem ef_si (m : MethodId) (x0 : Addr) : entryFrame m #[(.ref x0)] 1 = mkF m 0 #[.val (.ref x0)] [] := by first | (simp [entryFrame, mkF, argsToLocals, Value.category]; done) | rfl
set_option maxRecDepth 65536 in
set_option maxHeartbeats 40000000 in
theorem rm_si (l : Launch) (Z : State) (a0 : Array Value) (hw : ∀ d ∈ tables_1, d.before a0 Z = true) (a : Addr) (h0 : Heap) (zc : Int32) (CS : Sta Z h0 "java/lang/String" "COMPACT_STRINGS" "Z" (.int zc)) (hzc : ¬ zc = 0) (n0 : Nat) (Z0 : n0 ≤ h0.size) (E_a : Exa Z h0 a "java/lang/StringBuilder") (v0 c0 : Value) (F_v : Fld Z h0 a "java/lang/AbstractStringBuilder" "value" "[B" v0) (F_c : Fld Z h0 a "java/lang/AbstractStringBuilder" "coder" "B" c0) (F_n : Fld Z h0 a "java/lang/AbstractStringBuilder" "count" "I" (.int (0 : Int32))) (g_a : n0 ≤ a) :
    Ct l mn_5 jdk_67_method_1_code 1 none ({ frames := 2, cells := 1, slots := 16, locals := 30 } : Room) Z h0 #[(.ref a)] (fun v h L => v = none ∧ Fr n0 L ∧ Keep h0 h [a] ∧ ∃ t' kb', h0.size ≤ t' ∧ Exa Z h a "java/lang/StringBuilder" ∧ Fld Z h a "java/lang/AbstractStringBuilder" "value" "[B" (.ref t') ∧ Fld Z h a "java/lang/AbstractStringBuilder" "coder" "B" (.int (0 : Int32)) ∧ Fld Z h a "java/lang/AbstractStringBuilder" "count" "I" (.int (Int32.ofNat (([] : List Int32)).length)) ∧ Arv Z h t' kb' .byte (16 : Int32) ((([] : List Int32)).map Value.int) (.int 0)) := by
  refine Ct.body (plainFor_of_name pn_java_lang_StringBuilder) ?_
  intro p e s m below meth c T0 hx hby hml hown hnm hret hlk hZ X0 e0
  refine Go.cast (ef_si m a) ?_
  show Go p e below _ T0 (mkF m 0 #[.val (.ref a)] [])
  refine Go.s_aloadN X0 hx (hb hby d5_0) (q := 1) rfl rfl rfl ?_
  refine Go.s_bipush X0 hx (hb hby d5_1) (q := 3) rfl (z := 16) rfl ?_
  refine Go.callC (y := mn_6) X0 hx hZ rfl hown (w_ hw 33 rfl) (w_ hw 34 rfl) (w_ hw 38 rfl) (w_ hw 37 rfl) (by decide) e0 (b := a) (argsL := [(.int (16 : Int32))]) (rest := []) (rm_ai l Z a0 hw a _ zc CS hzc n0 Z0 E_a v0 c0 F_v F_c F_n g_a) (by rw [hml]; rfl) (lenOf pd_10 rfl) rfl (hb hby d5_3) (by decide) (by decide) (by decide) (by decide) ?_
  intro r1 T1 L1 q1 X1
  obtain ⟨rfl, N1, R1⟩ := q1
  show Go p e below _ T1 (mkF m 6 #[.val (.ref a)] [])
  refine Go.retV X1 hx hlk hret (hb hby d5_6) (by decide) (by decide) ?_
  exact ⟨rfl, Fr.app (Fr.nil _) N1, R1⟩
theorem ef_ssz (m : MethodId) (x0 : Int32) : entryFrame m #[(.int x0)] 4 = mkF m 0 #[.val (.int x0), .unset, .unset, .unset] [] := by first | (simp [entryFrame, mkF, argsToLocals, Value.category]; done) | rfl
set_option maxRecDepth 65536 in
set_option maxHeartbeats 40000000 in
theorem rm_ssz (l : Launch) (Z : State) (a0 : Array Value) (hw : ∀ d ∈ tables_1, d.before a0 Z = true) (x0 : Int32) (h0 : Heap) (mm : Nat) (hmm : x0.toInt = (mm : Int)) (hpos : 1 ≤ mm) :
    Ct l mn_22 jdk_33_method_13_code 4 (some .int) ({ frames := 0, cells := 0, slots := 0, locals := 0 } : Room) Z h0 #[(.int x0)] (fun v h L => ∃ r, v = some (.int r) ∧ DG x0 r ∧ L = [] ∧ h = h0) := by
  refine Ct.body (plainFor_of_name pn_java_lang_Integer) ?_
  intro p e s m below meth c T0 hx hby hml hown hnm hret hlk hZ X0 e0
  have hneg : ¬ (x0 < (0 : Int32)) := fun q => by have := Int32.lt_iff_toInt_lt.mp q; have e0 : (0 : Int32).toInt = 0 := (by decide); omega
  refine Go.cast (ef_ssz m x0) ?_
  show Go p e below _ T0 (mkF m 0 #[.val (.int x0), .unset, .unset, .unset] [])
  refine Go.s_iconst X0 hx (hb hby d22_0) (q := 1) rfl (z := 1) rfl ?_
  refine Go.s_istoreN X0 hx (hb hby d22_1) (q := 2) rfl (l' := #[.val (.int x0), .val (.int (1 : Int32)), .unset, .unset]) rfl ?_
  refine Go.s_iloadN X0 hx (hb hby d22_2) (q := 3) rfl rfl ?_
  refine Go.s_ifNo X0 hx (hb hby d22_3) (q := 6) rfl ((if0 _ _).trans (flt hneg).1) ?_
  refine Go.s_iconst X0 hx (hb hby d22_6) (q := 7) rfl (z := 0) rfl ?_
  refine Go.s_istoreN X0 hx (hb hby d22_7) (q := 8) rfl (l' := #[.val (.int x0), .val (.int (0 : Int32)), .unset, .unset]) rfl ?_
  refine Go.s_iloadN X0 hx (hb hby d22_8) (q := 9) rfl rfl ?_
  refine Go.s_ineg X0 hx (hb hby d22_9) (q := 10) rfl ?_
  refine Go.s_istoreN X0 hx (hb hby d22_10) (q := 11) rfl (l' := #[.val (.int (-x0)), .val (.int (0 : Int32)), .unset, .unset]) rfl ?_
  refine Go.s_bipush X0 hx (hb hby d22_11) (q := 13) rfl (z := -10) rfl ?_
  refine Go.s_istoreN X0 hx (hb hby d22_13) (q := 14) rfl (l' := #[.val (.int (-x0)), .val (.int (0 : Int32)), .val (.int (-10 : Int32)), .unset]) rfl ?_
  refine Go.s_iconst X0 hx (hb hby d22_14) (q := 15) rfl (z := 1) rfl ?_
  refine Go.s_istoreN X0 hx (hb hby d22_15) (q := 16) rfl (l' := #[.val (.int (-x0)), .val (.int (0 : Int32)), .val (.int (-10 : Int32)), .val (.int (1 : Int32))]) rfl ?_
  refine Go.s_iloadN X0 hx (hb hby d22_16) (q := 17) rfl rfl ?_
  refine Go.s_bipush X0 hx (hb hby d22_17) (q := 19) rfl (z := 10) rfl ?_
  refine Go.s_icmpNo X0 hx (hb hby d22_19) (q := 22) rfl (tlt (by decide : (1 : Int32) < (10 : Int32))).2.1 ?_
  refine Go.s_iloadN X0 hx (hb hby d22_22) (q := 23) rfl rfl ?_
  refine Go.s_iloadN X0 hx (hb hby d22_23) (q := 24) rfl rfl ?_
  by_cases c24_1 : (-10 : Int32) < (-x0)
  · -- pc 24: (-10 : Int32) < (-x0)
    refine Go.s_icmpNo X0 hx (hb hby d22_24) (q := 27) rfl (tlt c24_1).2.2.2 ?_
    refine Go.s_iloadN X0 hx (hb hby d22_27) (q := 28) rfl rfl ?_
    refine Go.s_iloadN X0 hx (hb hby d22_28) (q := 29) rfl rfl ?_
    refine Go.s_iadd X0 hx (hb hby d22_29) (q := 30) rfl ?_
    rw [(by decide : ((1 : Int32) + (0 : Int32)) = (1 : Int32))]
    refine Go.retI X0 hx hlk hret (hb hby d22_30) (by decide) (by decide) ?_
    try rw [e0]
    refine ⟨_, rfl, ⟨1, mm, rfl, hmm, by decide, by decide, ?_, ?_⟩, rfl, rfl⟩
    · show 1 ≤ mm
      have := Int32.lt_iff_toInt_lt.mp c24_1
      have := (by decide : ((-10 : Int32)).toInt = -10)
      have := rng32 x0
      have := c_ineg x0
      have := rng32 x0
      have := rng32 (-x0)
      omega
    · show mm < 10
      have := Int32.lt_iff_toInt_lt.mp c24_1
      have := (by decide : ((-10 : Int32)).toInt = -10)
      have := rng32 x0
      have := c_ineg x0
      have := rng32 x0
      have := rng32 (-x0)
      omega
  · -- pc 24: not (-10 : Int32) < (-x0)
    refine Go.s_icmpYes X0 hx (hb hby d22_24) (q := 31) (by decide) (by decide) (flt c24_1).2.2.2 ?_
    refine Go.s_bipush X0 hx (hb hby d22_31) (q := 33) rfl (z := 10) rfl ?_
    refine Go.s_iloadN X0 hx (hb hby d22_33) (q := 34) rfl rfl ?_
    refine Go.s_imul X0 hx (hb hby d22_34) (q := 35) rfl ?_
    rw [(by decide : ((10 : Int32) * (-10 : Int32)) = (-100 : Int32))]
    refine Go.s_istoreN X0 hx (hb hby d22_35) (q := 36) rfl (l' := #[.val (.int (-x0)), .val (.int (0 : Int32)), .val (.int (-100 : Int32)), .val (.int (1 : Int32))]) rfl ?_
    refine Go.s_iinc X0 hx (hb hby d22_36) (q := 39) rfl rfl (l' := #[.val (.int (-x0)), .val (.int (0 : Int32)), .val (.int (-100 : Int32)), .val (.int ((1 : Int32) + (1 : Int32)))]) rfl ?_
    rw [(by decide : ((1 : Int32) + (1 : Int32)) = (2 : Int32))]
    refine Go.s_goto X0 hx (hb hby d22_39) (q := 16) (by decide) (by decide) ?_
    refine Go.s_iloadN X0 hx (hb hby d22_16) (q := 17) rfl rfl ?_
    refine Go.s_bipush X0 hx (hb hby d22_17) (q := 19) rfl (z := 10) rfl ?_
    refine Go.s_icmpNo X0 hx (hb hby d22_19) (q := 22) rfl (tlt (by decide : (2 : Int32) < (10 : Int32))).2.1 ?_
    refine Go.s_iloadN X0 hx (hb hby d22_22) (q := 23) rfl rfl ?_
    refine Go.s_iloadN X0 hx (hb hby d22_23) (q := 24) rfl rfl ?_
    by_cases c24_2 : (-100 : Int32) < (-x0)
    · -- pc 24: (-100 : Int32) < (-x0)
      refine Go.s_icmpNo X0 hx (hb hby d22_24) (q := 27) rfl (tlt c24_2).2.2.2 ?_
      refine Go.s_iloadN X0 hx (hb hby d22_27) (q := 28) rfl rfl ?_
      refine Go.s_iloadN X0 hx (hb hby d22_28) (q := 29) rfl rfl ?_
      refine Go.s_iadd X0 hx (hb hby d22_29) (q := 30) rfl ?_
      rw [(by decide : ((2 : Int32) + (0 : Int32)) = (2 : Int32))]
      refine Go.retI X0 hx hlk hret (hb hby d22_30) (by decide) (by decide) ?_
      try rw [e0]
      refine ⟨_, rfl, ⟨2, mm, rfl, hmm, by decide, by decide, ?_, ?_⟩, rfl, rfl⟩
      · show 10 ≤ mm
        have := mt Int32.lt_iff_toInt_lt.mpr c24_1
        have := Int32.lt_iff_toInt_lt.mp c24_2
        have := (by decide : ((-10 : Int32)).toInt = -10)
        have := rng32 x0
        have := c_ineg x0
        have := (by decide : ((-100 : Int32)).toInt = -100)
        have := rng32 x0
        have := rng32 (-x0)
        omega
      · show mm < 100
        have := mt Int32.lt_iff_toInt_lt.mpr c24_1
        have := Int32.lt_iff_toInt_lt.mp c24_2
        have := (by decide : ((-10 : Int32)).toInt = -10)
        have := rng32 x0
        have := c_ineg x0
        have := (by decide : ((-100 : Int32)).toInt = -100)
        have := rng32 x0
        have := rng32 (-x0)
        omega
    · -- pc 24: not (-100 : Int32) < (-x0)
      refine Go.s_icmpYes X0 hx (hb hby d22_24) (q := 31) (by decide) (by decide) (flt c24_2).2.2.2 ?_
      refine Go.s_bipush X0 hx (hb hby d22_31) (q := 33) rfl (z := 10) rfl ?_
      refine Go.s_iloadN X0 hx (hb hby d22_33) (q := 34) rfl rfl ?_
      refine Go.s_imul X0 hx (hb hby d22_34) (q := 35) rfl ?_
      rw [(by decide : ((10 : Int32) * (-100 : Int32)) = (-1000 : Int32))]
      refine Go.s_istoreN X0 hx (hb hby d22_35) (q := 36) rfl (l' := #[.val (.int (-x0)), .val (.int (0 : Int32)), .val (.int (-1000 : Int32)), .val (.int (2 : Int32))]) rfl ?_
      refine Go.s_iinc X0 hx (hb hby d22_36) (q := 39) rfl rfl (l' := #[.val (.int (-x0)), .val (.int (0 : Int32)), .val (.int (-1000 : Int32)), .val (.int ((2 : Int32) + (1 : Int32)))]) rfl ?_
      rw [(by decide : ((2 : Int32) + (1 : Int32)) = (3 : Int32))]
      refine Go.s_goto X0 hx (hb hby d22_39) (q := 16) (by decide) (by decide) ?_
      refine Go.s_iloadN X0 hx (hb hby d22_16) (q := 17) rfl rfl ?_
      refine Go.s_bipush X0 hx (hb hby d22_17) (q := 19) rfl (z := 10) rfl ?_
      refine Go.s_icmpNo X0 hx (hb hby d22_19) (q := 22) rfl (tlt (by decide : (3 : Int32) < (10 : Int32))).2.1 ?_
      refine Go.s_iloadN X0 hx (hb hby d22_22) (q := 23) rfl rfl ?_
      refine Go.s_iloadN X0 hx (hb hby d22_23) (q := 24) rfl rfl ?_
      by_cases c24_3 : (-1000 : Int32) < (-x0)
      · -- pc 24: (-1000 : Int32) < (-x0)
        refine Go.s_icmpNo X0 hx (hb hby d22_24) (q := 27) rfl (tlt c24_3).2.2.2 ?_
        refine Go.s_iloadN X0 hx (hb hby d22_27) (q := 28) rfl rfl ?_
        refine Go.s_iloadN X0 hx (hb hby d22_28) (q := 29) rfl rfl ?_
        refine Go.s_iadd X0 hx (hb hby d22_29) (q := 30) rfl ?_
        rw [(by decide : ((3 : Int32) + (0 : Int32)) = (3 : Int32))]
        refine Go.retI X0 hx hlk hret (hb hby d22_30) (by decide) (by decide) ?_
        try rw [e0]
        refine ⟨_, rfl, ⟨3, mm, rfl, hmm, by decide, by decide, ?_, ?_⟩, rfl, rfl⟩
        · show 100 ≤ mm
          have := mt Int32.lt_iff_toInt_lt.mpr c24_1
          have := mt Int32.lt_iff_toInt_lt.mpr c24_2
          have := Int32.lt_iff_toInt_lt.mp c24_3
          have := (by decide : ((-10 : Int32)).toInt = -10)
          have := rng32 x0
          have := c_ineg x0
          have := (by decide : ((-100 : Int32)).toInt = -100)
          have := (by decide : ((-1000 : Int32)).toInt = -1000)
          have := rng32 x0
          have := rng32 (-x0)
          omega
        · show mm < 1000
          have := mt Int32.lt_iff_toInt_lt.mpr c24_1
          have := mt Int32.lt_iff_toInt_lt.mpr c24_2
          have := Int32.lt_iff_toInt_lt.mp c24_3
          have := (by decide : ((-10 : Int32)).toInt = -10)
          have := rng32 x0
          have := c_ineg x0
          have := (by decide : ((-100 : Int32)).toInt = -100)
          have := (by decide : ((-1000 : Int32)).toInt = -1000)
          have := rng32 x0
          have := rng32 (-x0)
          omega
      · -- pc 24: not (-1000 : Int32) < (-x0)
        refine Go.s_icmpYes X0 hx (hb hby d22_24) (q := 31) (by decide) (by decide) (flt c24_3).2.2.2 ?_
        refine Go.s_bipush X0 hx (hb hby d22_31) (q := 33) rfl (z := 10) rfl ?_
        refine Go.s_iloadN X0 hx (hb hby d22_33) (q := 34) rfl rfl ?_
        refine Go.s_imul X0 hx (hb hby d22_34) (q := 35) rfl ?_
        rw [(by decide : ((10 : Int32) * (-1000 : Int32)) = (-10000 : Int32))]
        refine Go.s_istoreN X0 hx (hb hby d22_35) (q := 36) rfl (l' := #[.val (.int (-x0)), .val (.int (0 : Int32)), .val (.int (-10000 : Int32)), .val (.int (3 : Int32))]) rfl ?_
        refine Go.s_iinc X0 hx (hb hby d22_36) (q := 39) rfl rfl (l' := #[.val (.int (-x0)), .val (.int (0 : Int32)), .val (.int (-10000 : Int32)), .val (.int ((3 : Int32) + (1 : Int32)))]) rfl ?_
        rw [(by decide : ((3 : Int32) + (1 : Int32)) = (4 : Int32))]
        refine Go.s_goto X0 hx (hb hby d22_39) (q := 16) (by decide) (by decide) ?_
        refine Go.s_iloadN X0 hx (hb hby d22_16) (q := 17) rfl rfl ?_
        refine Go.s_bipush X0 hx (hb hby d22_17) (q := 19) rfl (z := 10) rfl ?_
        refine Go.s_icmpNo X0 hx (hb hby d22_19) (q := 22) rfl (tlt (by decide : (4 : Int32) < (10 : Int32))).2.1 ?_
        refine Go.s_iloadN X0 hx (hb hby d22_22) (q := 23) rfl rfl ?_
        refine Go.s_iloadN X0 hx (hb hby d22_23) (q := 24) rfl rfl ?_
        by_cases c24_4 : (-10000 : Int32) < (-x0)
        · -- pc 24: (-10000 : Int32) < (-x0)
          refine Go.s_icmpNo X0 hx (hb hby d22_24) (q := 27) rfl (tlt c24_4).2.2.2 ?_
          refine Go.s_iloadN X0 hx (hb hby d22_27) (q := 28) rfl rfl ?_
          refine Go.s_iloadN X0 hx (hb hby d22_28) (q := 29) rfl rfl ?_
          refine Go.s_iadd X0 hx (hb hby d22_29) (q := 30) rfl ?_
          rw [(by decide : ((4 : Int32) + (0 : Int32)) = (4 : Int32))]
          refine Go.retI X0 hx hlk hret (hb hby d22_30) (by decide) (by decide) ?_
          try rw [e0]
          refine ⟨_, rfl, ⟨4, mm, rfl, hmm, by decide, by decide, ?_, ?_⟩, rfl, rfl⟩
          · show 1000 ≤ mm
            have := mt Int32.lt_iff_toInt_lt.mpr c24_1
            have := mt Int32.lt_iff_toInt_lt.mpr c24_2
            have := mt Int32.lt_iff_toInt_lt.mpr c24_3
            have := Int32.lt_iff_toInt_lt.mp c24_4
            have := (by decide : ((-10 : Int32)).toInt = -10)
            have := rng32 x0
            have := c_ineg x0
            have := (by decide : ((-100 : Int32)).toInt = -100)
            have := (by decide : ((-1000 : Int32)).toInt = -1000)
            have := (by decide : ((-10000 : Int32)).toInt = -10000)
            have := rng32 x0
            have := rng32 (-x0)
            omega
          · show mm < 10000
            have := mt Int32.lt_iff_toInt_lt.mpr c24_1
            have := mt Int32.lt_iff_toInt_lt.mpr c24_2
            have := mt Int32.lt_iff_toInt_lt.mpr c24_3
            have := Int32.lt_iff_toInt_lt.mp c24_4
            have := (by decide : ((-10 : Int32)).toInt = -10)
            have := rng32 x0
            have := c_ineg x0
            have := (by decide : ((-100 : Int32)).toInt = -100)
            have := (by decide : ((-1000 : Int32)).toInt = -1000)
            have := (by decide : ((-10000 : Int32)).toInt = -10000)
            have := rng32 x0
            have := rng32 (-x0)
            omega
        · -- pc 24: not (-10000 : Int32) < (-x0)
          refine Go.s_icmpYes X0 hx (hb hby d22_24) (q := 31) (by decide) (by decide) (flt c24_4).2.2.2 ?_
          refine Go.s_bipush X0 hx (hb hby d22_31) (q := 33) rfl (z := 10) rfl ?_
          refine Go.s_iloadN X0 hx (hb hby d22_33) (q := 34) rfl rfl ?_
          refine Go.s_imul X0 hx (hb hby d22_34) (q := 35) rfl ?_
          rw [(by decide : ((10 : Int32) * (-10000 : Int32)) = (-100000 : Int32))]
          refine Go.s_istoreN X0 hx (hb hby d22_35) (q := 36) rfl (l' := #[.val (.int (-x0)), .val (.int (0 : Int32)), .val (.int (-100000 : Int32)), .val (.int (4 : Int32))]) rfl ?_
          refine Go.s_iinc X0 hx (hb hby d22_36) (q := 39) rfl rfl (l' := #[.val (.int (-x0)), .val (.int (0 : Int32)), .val (.int (-100000 : Int32)), .val (.int ((4 : Int32) + (1 : Int32)))]) rfl ?_
          rw [(by decide : ((4 : Int32) + (1 : Int32)) = (5 : Int32))]
          refine Go.s_goto X0 hx (hb hby d22_39) (q := 16) (by decide) (by decide) ?_
          refine Go.s_iloadN X0 hx (hb hby d22_16) (q := 17) rfl rfl ?_
          refine Go.s_bipush X0 hx (hb hby d22_17) (q := 19) rfl (z := 10) rfl ?_
          refine Go.s_icmpNo X0 hx (hb hby d22_19) (q := 22) rfl (tlt (by decide : (5 : Int32) < (10 : Int32))).2.1 ?_
          refine Go.s_iloadN X0 hx (hb hby d22_22) (q := 23) rfl rfl ?_
          refine Go.s_iloadN X0 hx (hb hby d22_23) (q := 24) rfl rfl ?_
          by_cases c24_5 : (-100000 : Int32) < (-x0)
          · -- pc 24: (-100000 : Int32) < (-x0)
            refine Go.s_icmpNo X0 hx (hb hby d22_24) (q := 27) rfl (tlt c24_5).2.2.2 ?_
            refine Go.s_iloadN X0 hx (hb hby d22_27) (q := 28) rfl rfl ?_
            refine Go.s_iloadN X0 hx (hb hby d22_28) (q := 29) rfl rfl ?_
            refine Go.s_iadd X0 hx (hb hby d22_29) (q := 30) rfl ?_
            rw [(by decide : ((5 : Int32) + (0 : Int32)) = (5 : Int32))]
            refine Go.retI X0 hx hlk hret (hb hby d22_30) (by decide) (by decide) ?_
            try rw [e0]
            refine ⟨_, rfl, ⟨5, mm, rfl, hmm, by decide, by decide, ?_, ?_⟩, rfl, rfl⟩
            · show 10000 ≤ mm
              have := mt Int32.lt_iff_toInt_lt.mpr c24_1
              have := mt Int32.lt_iff_toInt_lt.mpr c24_2
              have := mt Int32.lt_iff_toInt_lt.mpr c24_3
              have := mt Int32.lt_iff_toInt_lt.mpr c24_4
              have := Int32.lt_iff_toInt_lt.mp c24_5
              have := (by decide : ((-10 : Int32)).toInt = -10)
              have := rng32 x0
              have := c_ineg x0
              have := (by decide : ((-100 : Int32)).toInt = -100)
              have := (by decide : ((-1000 : Int32)).toInt = -1000)
              have := (by decide : ((-10000 : Int32)).toInt = -10000)
              have := (by decide : ((-100000 : Int32)).toInt = -100000)
              have := rng32 x0
              have := rng32 (-x0)
              omega
            · show mm < 100000
              have := mt Int32.lt_iff_toInt_lt.mpr c24_1
              have := mt Int32.lt_iff_toInt_lt.mpr c24_2
              have := mt Int32.lt_iff_toInt_lt.mpr c24_3
              have := mt Int32.lt_iff_toInt_lt.mpr c24_4
              have := Int32.lt_iff_toInt_lt.mp c24_5
              have := (by decide : ((-10 : Int32)).toInt = -10)
              have := rng32 x0
              have := c_ineg x0
              have := (by decide : ((-100 : Int32)).toInt = -100)
              have := (by decide : ((-1000 : Int32)).toInt = -1000)
              have := (by decide : ((-10000 : Int32)).toInt = -10000)
              have := (by decide : ((-100000 : Int32)).toInt = -100000)
              have := rng32 x0
              have := rng32 (-x0)
              omega
          · -- pc 24: not (-100000 : Int32) < (-x0)
            refine Go.s_icmpYes X0 hx (hb hby d22_24) (q := 31) (by decide) (by decide) (flt c24_5).2.2.2 ?_
            refine Go.s_bipush X0 hx (hb hby d22_31) (q := 33) rfl (z := 10) rfl ?_
            refine Go.s_iloadN X0 hx (hb hby d22_33) (q := 34) rfl rfl ?_
            refine Go.s_imul X0 hx (hb hby d22_34) (q := 35) rfl ?_
            rw [(by decide : ((10 : Int32) * (-100000 : Int32)) = (-1000000 : Int32))]
            refine Go.s_istoreN X0 hx (hb hby d22_35) (q := 36) rfl (l' := #[.val (.int (-x0)), .val (.int (0 : Int32)), .val (.int (-1000000 : Int32)), .val (.int (5 : Int32))]) rfl ?_
            refine Go.s_iinc X0 hx (hb hby d22_36) (q := 39) rfl rfl (l' := #[.val (.int (-x0)), .val (.int (0 : Int32)), .val (.int (-1000000 : Int32)), .val (.int ((5 : Int32) + (1 : Int32)))]) rfl ?_
            rw [(by decide : ((5 : Int32) + (1 : Int32)) = (6 : Int32))]
            refine Go.s_goto X0 hx (hb hby d22_39) (q := 16) (by decide) (by decide) ?_
            refine Go.s_iloadN X0 hx (hb hby d22_16) (q := 17) rfl rfl ?_
            refine Go.s_bipush X0 hx (hb hby d22_17) (q := 19) rfl (z := 10) rfl ?_
            refine Go.s_icmpNo X0 hx (hb hby d22_19) (q := 22) rfl (tlt (by decide : (6 : Int32) < (10 : Int32))).2.1 ?_
            refine Go.s_iloadN X0 hx (hb hby d22_22) (q := 23) rfl rfl ?_
            refine Go.s_iloadN X0 hx (hb hby d22_23) (q := 24) rfl rfl ?_
            by_cases c24_6 : (-1000000 : Int32) < (-x0)
            · -- pc 24: (-1000000 : Int32) < (-x0)
              refine Go.s_icmpNo X0 hx (hb hby d22_24) (q := 27) rfl (tlt c24_6).2.2.2 ?_
              refine Go.s_iloadN X0 hx (hb hby d22_27) (q := 28) rfl rfl ?_
              refine Go.s_iloadN X0 hx (hb hby d22_28) (q := 29) rfl rfl ?_
              refine Go.s_iadd X0 hx (hb hby d22_29) (q := 30) rfl ?_
              rw [(by decide : ((6 : Int32) + (0 : Int32)) = (6 : Int32))]
              refine Go.retI X0 hx hlk hret (hb hby d22_30) (by decide) (by decide) ?_
              try rw [e0]
              refine ⟨_, rfl, ⟨6, mm, rfl, hmm, by decide, by decide, ?_, ?_⟩, rfl, rfl⟩
              · show 100000 ≤ mm
                have := mt Int32.lt_iff_toInt_lt.mpr c24_1
                have := mt Int32.lt_iff_toInt_lt.mpr c24_2
                have := mt Int32.lt_iff_toInt_lt.mpr c24_3
                have := mt Int32.lt_iff_toInt_lt.mpr c24_4
                have := mt Int32.lt_iff_toInt_lt.mpr c24_5
                have := Int32.lt_iff_toInt_lt.mp c24_6
                have := (by decide : ((-10 : Int32)).toInt = -10)
                have := rng32 x0
                have := c_ineg x0
                have := (by decide : ((-100 : Int32)).toInt = -100)
                have := (by decide : ((-1000 : Int32)).toInt = -1000)
                have := (by decide : ((-10000 : Int32)).toInt = -10000)
                have := (by decide : ((-100000 : Int32)).toInt = -100000)
                have := (by decide : ((-1000000 : Int32)).toInt = -1000000)
                have := rng32 x0
                have := rng32 (-x0)
                omega
              · show mm < 1000000
                have := mt Int32.lt_iff_toInt_lt.mpr c24_1
                have := mt Int32.lt_iff_toInt_lt.mpr c24_2
                have := mt Int32.lt_iff_toInt_lt.mpr c24_3
                have := mt Int32.lt_iff_toInt_lt.mpr c24_4
                have := mt Int32.lt_iff_toInt_lt.mpr c24_5
                have := Int32.lt_iff_toInt_lt.mp c24_6
                have := (by decide : ((-10 : Int32)).toInt = -10)
                have := rng32 x0
                have := c_ineg x0
                have := (by decide : ((-100 : Int32)).toInt = -100)
                have := (by decide : ((-1000 : Int32)).toInt = -1000)
                have := (by decide : ((-10000 : Int32)).toInt = -10000)
                have := (by decide : ((-100000 : Int32)).toInt = -100000)
                have := (by decide : ((-1000000 : Int32)).toInt = -1000000)
                have := rng32 x0
                have := rng32 (-x0)
                omega
            · -- pc 24: not (-1000000 : Int32) < (-x0)
              refine Go.s_icmpYes X0 hx (hb hby d22_24) (q := 31) (by decide) (by decide) (flt c24_6).2.2.2 ?_
              refine Go.s_bipush X0 hx (hb hby d22_31) (q := 33) rfl (z := 10) rfl ?_
              refine Go.s_iloadN X0 hx (hb hby d22_33) (q := 34) rfl rfl ?_
              refine Go.s_imul X0 hx (hb hby d22_34) (q := 35) rfl ?_
              rw [(by decide : ((10 : Int32) * (-1000000 : Int32)) = (-10000000 : Int32))]
              refine Go.s_istoreN X0 hx (hb hby d22_35) (q := 36) rfl (l' := #[.val (.int (-x0)), .val (.int (0 : Int32)), .val (.int (-10000000 : Int32)), .val (.int (6 : Int32))]) rfl ?_
              refine Go.s_iinc X0 hx (hb hby d22_36) (q := 39) rfl rfl (l' := #[.val (.int (-x0)), .val (.int (0 : Int32)), .val (.int (-10000000 : Int32)), .val (.int ((6 : Int32) + (1 : Int32)))]) rfl ?_
              rw [(by decide : ((6 : Int32) + (1 : Int32)) = (7 : Int32))]
              refine Go.s_goto X0 hx (hb hby d22_39) (q := 16) (by decide) (by decide) ?_
              refine Go.s_iloadN X0 hx (hb hby d22_16) (q := 17) rfl rfl ?_
              refine Go.s_bipush X0 hx (hb hby d22_17) (q := 19) rfl (z := 10) rfl ?_
              refine Go.s_icmpNo X0 hx (hb hby d22_19) (q := 22) rfl (tlt (by decide : (7 : Int32) < (10 : Int32))).2.1 ?_
              refine Go.s_iloadN X0 hx (hb hby d22_22) (q := 23) rfl rfl ?_
              refine Go.s_iloadN X0 hx (hb hby d22_23) (q := 24) rfl rfl ?_
              by_cases c24_7 : (-10000000 : Int32) < (-x0)
              · -- pc 24: (-10000000 : Int32) < (-x0)
                refine Go.s_icmpNo X0 hx (hb hby d22_24) (q := 27) rfl (tlt c24_7).2.2.2 ?_
                refine Go.s_iloadN X0 hx (hb hby d22_27) (q := 28) rfl rfl ?_
                refine Go.s_iloadN X0 hx (hb hby d22_28) (q := 29) rfl rfl ?_
                refine Go.s_iadd X0 hx (hb hby d22_29) (q := 30) rfl ?_
                rw [(by decide : ((7 : Int32) + (0 : Int32)) = (7 : Int32))]
                refine Go.retI X0 hx hlk hret (hb hby d22_30) (by decide) (by decide) ?_
                try rw [e0]
                refine ⟨_, rfl, ⟨7, mm, rfl, hmm, by decide, by decide, ?_, ?_⟩, rfl, rfl⟩
                · show 1000000 ≤ mm
                  have := mt Int32.lt_iff_toInt_lt.mpr c24_1
                  have := mt Int32.lt_iff_toInt_lt.mpr c24_2
                  have := mt Int32.lt_iff_toInt_lt.mpr c24_3
                  have := mt Int32.lt_iff_toInt_lt.mpr c24_4
                  have := mt Int32.lt_iff_toInt_lt.mpr c24_5
                  have := mt Int32.lt_iff_toInt_lt.mpr c24_6
                  have := Int32.lt_iff_toInt_lt.mp c24_7
                  have := (by decide : ((-10 : Int32)).toInt = -10)
                  have := rng32 x0
                  have := c_ineg x0
                  have := (by decide : ((-100 : Int32)).toInt = -100)
                  have := (by decide : ((-1000 : Int32)).toInt = -1000)
                  have := (by decide : ((-10000 : Int32)).toInt = -10000)
                  have := (by decide : ((-100000 : Int32)).toInt = -100000)
                  have := (by decide : ((-1000000 : Int32)).toInt = -1000000)
                  have := (by decide : ((-10000000 : Int32)).toInt = -10000000)
                  have := rng32 x0
                  have := rng32 (-x0)
                  omega
                · show mm < 10000000
                  have := mt Int32.lt_iff_toInt_lt.mpr c24_1
                  have := mt Int32.lt_iff_toInt_lt.mpr c24_2
                  have := mt Int32.lt_iff_toInt_lt.mpr c24_3
                  have := mt Int32.lt_iff_toInt_lt.mpr c24_4
                  have := mt Int32.lt_iff_toInt_lt.mpr c24_5
                  have := mt Int32.lt_iff_toInt_lt.mpr c24_6
                  have := Int32.lt_iff_toInt_lt.mp c24_7
                  have := (by decide : ((-10 : Int32)).toInt = -10)
                  have := rng32 x0
                  have := c_ineg x0
                  have := (by decide : ((-100 : Int32)).toInt = -100)
                  have := (by decide : ((-1000 : Int32)).toInt = -1000)
                  have := (by decide : ((-10000 : Int32)).toInt = -10000)
                  have := (by decide : ((-100000 : Int32)).toInt = -100000)
                  have := (by decide : ((-1000000 : Int32)).toInt = -1000000)
                  have := (by decide : ((-10000000 : Int32)).toInt = -10000000)
                  have := rng32 x0
                  have := rng32 (-x0)
                  omega
              · -- pc 24: not (-10000000 : Int32) < (-x0)
                refine Go.s_icmpYes X0 hx (hb hby d22_24) (q := 31) (by decide) (by decide) (flt c24_7).2.2.2 ?_
                refine Go.s_bipush X0 hx (hb hby d22_31) (q := 33) rfl (z := 10) rfl ?_
                refine Go.s_iloadN X0 hx (hb hby d22_33) (q := 34) rfl rfl ?_
                refine Go.s_imul X0 hx (hb hby d22_34) (q := 35) rfl ?_
                rw [(by decide : ((10 : Int32) * (-10000000 : Int32)) = (-100000000 : Int32))]
                refine Go.s_istoreN X0 hx (hb hby d22_35) (q := 36) rfl (l' := #[.val (.int (-x0)), .val (.int (0 : Int32)), .val (.int (-100000000 : Int32)), .val (.int (7 : Int32))]) rfl ?_
                refine Go.s_iinc X0 hx (hb hby d22_36) (q := 39) rfl rfl (l' := #[.val (.int (-x0)), .val (.int (0 : Int32)), .val (.int (-100000000 : Int32)), .val (.int ((7 : Int32) + (1 : Int32)))]) rfl ?_
                rw [(by decide : ((7 : Int32) + (1 : Int32)) = (8 : Int32))]
                refine Go.s_goto X0 hx (hb hby d22_39) (q := 16) (by decide) (by decide) ?_
                refine Go.s_iloadN X0 hx (hb hby d22_16) (q := 17) rfl rfl ?_
                refine Go.s_bipush X0 hx (hb hby d22_17) (q := 19) rfl (z := 10) rfl ?_
                refine Go.s_icmpNo X0 hx (hb hby d22_19) (q := 22) rfl (tlt (by decide : (8 : Int32) < (10 : Int32))).2.1 ?_
                refine Go.s_iloadN X0 hx (hb hby d22_22) (q := 23) rfl rfl ?_
                refine Go.s_iloadN X0 hx (hb hby d22_23) (q := 24) rfl rfl ?_
                by_cases c24_8 : (-100000000 : Int32) < (-x0)
                · -- pc 24: (-100000000 : Int32) < (-x0)
                  refine Go.s_icmpNo X0 hx (hb hby d22_24) (q := 27) rfl (tlt c24_8).2.2.2 ?_
                  refine Go.s_iloadN X0 hx (hb hby d22_27) (q := 28) rfl rfl ?_
                  refine Go.s_iloadN X0 hx (hb hby d22_28) (q := 29) rfl rfl ?_
                  refine Go.s_iadd X0 hx (hb hby d22_29) (q := 30) rfl ?_
                  rw [(by decide : ((8 : Int32) + (0 : Int32)) = (8 : Int32))]
                  refine Go.retI X0 hx hlk hret (hb hby d22_30) (by decide) (by decide) ?_
                  try rw [e0]
                  refine ⟨_, rfl, ⟨8, mm, rfl, hmm, by decide, by decide, ?_, ?_⟩, rfl, rfl⟩
                  · show 10000000 ≤ mm
                    have := mt Int32.lt_iff_toInt_lt.mpr c24_1
                    have := mt Int32.lt_iff_toInt_lt.mpr c24_2
                    have := mt Int32.lt_iff_toInt_lt.mpr c24_3
                    have := mt Int32.lt_iff_toInt_lt.mpr c24_4
                    have := mt Int32.lt_iff_toInt_lt.mpr c24_5
                    have := mt Int32.lt_iff_toInt_lt.mpr c24_6
                    have := mt Int32.lt_iff_toInt_lt.mpr c24_7
                    have := Int32.lt_iff_toInt_lt.mp c24_8
                    have := (by decide : ((-10 : Int32)).toInt = -10)
                    have := rng32 x0
                    have := c_ineg x0
                    have := (by decide : ((-100 : Int32)).toInt = -100)
                    have := (by decide : ((-1000 : Int32)).toInt = -1000)
                    have := (by decide : ((-10000 : Int32)).toInt = -10000)
                    have := (by decide : ((-100000 : Int32)).toInt = -100000)
                    have := (by decide : ((-1000000 : Int32)).toInt = -1000000)
                    have := (by decide : ((-10000000 : Int32)).toInt = -10000000)
                    have := (by decide : ((-100000000 : Int32)).toInt = -100000000)
                    have := rng32 x0
                    have := rng32 (-x0)
                    omega
                  · show mm < 100000000
                    have := mt Int32.lt_iff_toInt_lt.mpr c24_1
                    have := mt Int32.lt_iff_toInt_lt.mpr c24_2
                    have := mt Int32.lt_iff_toInt_lt.mpr c24_3
                    have := mt Int32.lt_iff_toInt_lt.mpr c24_4
                    have := mt Int32.lt_iff_toInt_lt.mpr c24_5
                    have := mt Int32.lt_iff_toInt_lt.mpr c24_6
                    have := mt Int32.lt_iff_toInt_lt.mpr c24_7
                    have := Int32.lt_iff_toInt_lt.mp c24_8
                    have := (by decide : ((-10 : Int32)).toInt = -10)
                    have := rng32 x0
                    have := c_ineg x0
                    have := (by decide : ((-100 : Int32)).toInt = -100)
                    have := (by decide : ((-1000 : Int32)).toInt = -1000)
                    have := (by decide : ((-10000 : Int32)).toInt = -10000)
                    have := (by decide : ((-100000 : Int32)).toInt = -100000)
                    have := (by decide : ((-1000000 : Int32)).toInt = -1000000)
                    have := (by decide : ((-10000000 : Int32)).toInt = -10000000)
                    have := (by decide : ((-100000000 : Int32)).toInt = -100000000)
                    have := rng32 x0
                    have := rng32 (-x0)
                    omega
                · -- pc 24: not (-100000000 : Int32) < (-x0)
                  refine Go.s_icmpYes X0 hx (hb hby d22_24) (q := 31) (by decide) (by decide) (flt c24_8).2.2.2 ?_
                  refine Go.s_bipush X0 hx (hb hby d22_31) (q := 33) rfl (z := 10) rfl ?_
                  refine Go.s_iloadN X0 hx (hb hby d22_33) (q := 34) rfl rfl ?_
                  refine Go.s_imul X0 hx (hb hby d22_34) (q := 35) rfl ?_
                  rw [(by decide : ((10 : Int32) * (-100000000 : Int32)) = (-1000000000 : Int32))]
                  refine Go.s_istoreN X0 hx (hb hby d22_35) (q := 36) rfl (l' := #[.val (.int (-x0)), .val (.int (0 : Int32)), .val (.int (-1000000000 : Int32)), .val (.int (8 : Int32))]) rfl ?_
                  refine Go.s_iinc X0 hx (hb hby d22_36) (q := 39) rfl rfl (l' := #[.val (.int (-x0)), .val (.int (0 : Int32)), .val (.int (-1000000000 : Int32)), .val (.int ((8 : Int32) + (1 : Int32)))]) rfl ?_
                  rw [(by decide : ((8 : Int32) + (1 : Int32)) = (9 : Int32))]
                  refine Go.s_goto X0 hx (hb hby d22_39) (q := 16) (by decide) (by decide) ?_
                  refine Go.s_iloadN X0 hx (hb hby d22_16) (q := 17) rfl rfl ?_
                  refine Go.s_bipush X0 hx (hb hby d22_17) (q := 19) rfl (z := 10) rfl ?_
                  refine Go.s_icmpNo X0 hx (hb hby d22_19) (q := 22) rfl (tlt (by decide : (9 : Int32) < (10 : Int32))).2.1 ?_
                  refine Go.s_iloadN X0 hx (hb hby d22_22) (q := 23) rfl rfl ?_
                  refine Go.s_iloadN X0 hx (hb hby d22_23) (q := 24) rfl rfl ?_
                  by_cases c24_9 : (-1000000000 : Int32) < (-x0)
                  · -- pc 24: (-1000000000 : Int32) < (-x0)
                    refine Go.s_icmpNo X0 hx (hb hby d22_24) (q := 27) rfl (tlt c24_9).2.2.2 ?_
                    refine Go.s_iloadN X0 hx (hb hby d22_27) (q := 28) rfl rfl ?_
                    refine Go.s_iloadN X0 hx (hb hby d22_28) (q := 29) rfl rfl ?_
                    refine Go.s_iadd X0 hx (hb hby d22_29) (q := 30) rfl ?_
                    rw [(by decide : ((9 : Int32) + (0 : Int32)) = (9 : Int32))]
                    refine Go.retI X0 hx hlk hret (hb hby d22_30) (by decide) (by decide) ?_
                    try rw [e0]
                    refine ⟨_, rfl, ⟨9, mm, rfl, hmm, by decide, by decide, ?_, ?_⟩, rfl, rfl⟩
                    · show 100000000 ≤ mm
                      have := mt Int32.lt_iff_toInt_lt.mpr c24_1
                      have := mt Int32.lt_iff_toInt_lt.mpr c24_2
                      have := mt Int32.lt_iff_toInt_lt.mpr c24_3
                      have := mt Int32.lt_iff_toInt_lt.mpr c24_4
                      have := mt Int32.lt_iff_toInt_lt.mpr c24_5
                      have := mt Int32.lt_iff_toInt_lt.mpr c24_6
                      have := mt Int32.lt_iff_toInt_lt.mpr c24_7
                      have := mt Int32.lt_iff_toInt_lt.mpr c24_8
                      have := Int32.lt_iff_toInt_lt.mp c24_9
                      have := (by decide : ((-10 : Int32)).toInt = -10)
                      have := rng32 x0
                      have := c_ineg x0
                      have := (by decide : ((-100 : Int32)).toInt = -100)
                      have := (by decide : ((-1000 : Int32)).toInt = -1000)
                      have := (by decide : ((-10000 : Int32)).toInt = -10000)
                      have := (by decide : ((-100000 : Int32)).toInt = -100000)
                      have := (by decide : ((-1000000 : Int32)).toInt = -1000000)
                      have := (by decide : ((-10000000 : Int32)).toInt = -10000000)
                      have := (by decide : ((-100000000 : Int32)).toInt = -100000000)
                      have := (by decide : ((-1000000000 : Int32)).toInt = -1000000000)
                      have := rng32 x0
                      have := rng32 (-x0)
                      omega
                    · show mm < 1000000000
                      have := mt Int32.lt_iff_toInt_lt.mpr c24_1
                      have := mt Int32.lt_iff_toInt_lt.mpr c24_2
                      have := mt Int32.lt_iff_toInt_lt.mpr c24_3
                      have := mt Int32.lt_iff_toInt_lt.mpr c24_4
                      have := mt Int32.lt_iff_toInt_lt.mpr c24_5
                      have := mt Int32.lt_iff_toInt_lt.mpr c24_6
                      have := mt Int32.lt_iff_toInt_lt.mpr c24_7
                      have := mt Int32.lt_iff_toInt_lt.mpr c24_8
                      have := Int32.lt_iff_toInt_lt.mp c24_9
                      have := (by decide : ((-10 : Int32)).toInt = -10)
                      have := rng32 x0
                      have := c_ineg x0
                      have := (by decide : ((-100 : Int32)).toInt = -100)
                      have := (by decide : ((-1000 : Int32)).toInt = -1000)
                      have := (by decide : ((-10000 : Int32)).toInt = -10000)
                      have := (by decide : ((-100000 : Int32)).toInt = -100000)
                      have := (by decide : ((-1000000 : Int32)).toInt = -1000000)
                      have := (by decide : ((-10000000 : Int32)).toInt = -10000000)
                      have := (by decide : ((-100000000 : Int32)).toInt = -100000000)
                      have := (by decide : ((-1000000000 : Int32)).toInt = -1000000000)
                      have := rng32 x0
                      have := rng32 (-x0)
                      omega
                  · -- pc 24: not (-1000000000 : Int32) < (-x0)
                    refine Go.s_icmpYes X0 hx (hb hby d22_24) (q := 31) (by decide) (by decide) (flt c24_9).2.2.2 ?_
                    refine Go.s_bipush X0 hx (hb hby d22_31) (q := 33) rfl (z := 10) rfl ?_
                    refine Go.s_iloadN X0 hx (hb hby d22_33) (q := 34) rfl rfl ?_
                    refine Go.s_imul X0 hx (hb hby d22_34) (q := 35) rfl ?_
                    rw [(by decide : ((10 : Int32) * (-1000000000 : Int32)) = (-1410065408 : Int32))]
                    refine Go.s_istoreN X0 hx (hb hby d22_35) (q := 36) rfl (l' := #[.val (.int (-x0)), .val (.int (0 : Int32)), .val (.int (-1410065408 : Int32)), .val (.int (9 : Int32))]) rfl ?_
                    refine Go.s_iinc X0 hx (hb hby d22_36) (q := 39) rfl rfl (l' := #[.val (.int (-x0)), .val (.int (0 : Int32)), .val (.int (-1410065408 : Int32)), .val (.int ((9 : Int32) + (1 : Int32)))]) rfl ?_
                    rw [(by decide : ((9 : Int32) + (1 : Int32)) = (10 : Int32))]
                    refine Go.s_goto X0 hx (hb hby d22_39) (q := 16) (by decide) (by decide) ?_
                    refine Go.s_iloadN X0 hx (hb hby d22_16) (q := 17) rfl rfl ?_
                    refine Go.s_bipush X0 hx (hb hby d22_17) (q := 19) rfl (z := 10) rfl ?_
                    refine Go.s_icmpYes X0 hx (hb hby d22_19) (q := 42) (by decide) (by decide) (flt (by decide : ¬ ((10 : Int32) < (10 : Int32)))).2.1 ?_
                    refine Go.s_bipush X0 hx (hb hby d22_42) (q := 44) rfl (z := 10) rfl ?_
                    refine Go.s_iloadN X0 hx (hb hby d22_44) (q := 45) rfl rfl ?_
                    refine Go.s_iadd X0 hx (hb hby d22_45) (q := 46) rfl ?_
                    rw [(by decide : ((10 : Int32) + (0 : Int32)) = (10 : Int32))]
                    refine Go.retI X0 hx hlk hret (hb hby d22_46) (by decide) (by decide) ?_
                    try rw [e0]
                    refine ⟨_, rfl, ⟨10, mm, rfl, hmm, by decide, by decide, ?_, ?_⟩, rfl, rfl⟩
                    · show 1000000000 ≤ mm
                      have := mt Int32.lt_iff_toInt_lt.mpr c24_1
                      have := mt Int32.lt_iff_toInt_lt.mpr c24_2
                      have := mt Int32.lt_iff_toInt_lt.mpr c24_3
                      have := mt Int32.lt_iff_toInt_lt.mpr c24_4
                      have := mt Int32.lt_iff_toInt_lt.mpr c24_5
                      have := mt Int32.lt_iff_toInt_lt.mpr c24_6
                      have := mt Int32.lt_iff_toInt_lt.mpr c24_7
                      have := mt Int32.lt_iff_toInt_lt.mpr c24_8
                      have := mt Int32.lt_iff_toInt_lt.mpr c24_9
                      have := (by decide : ((-10 : Int32)).toInt = -10)
                      have := rng32 x0
                      have := c_ineg x0
                      have := (by decide : ((-100 : Int32)).toInt = -100)
                      have := (by decide : ((-1000 : Int32)).toInt = -1000)
                      have := (by decide : ((-10000 : Int32)).toInt = -10000)
                      have := (by decide : ((-100000 : Int32)).toInt = -100000)
                      have := (by decide : ((-1000000 : Int32)).toInt = -1000000)
                      have := (by decide : ((-10000000 : Int32)).toInt = -10000000)
                      have := (by decide : ((-100000000 : Int32)).toInt = -100000000)
                      have := (by decide : ((-1000000000 : Int32)).toInt = -1000000000)
                      have := rng32 x0
                      have := rng32 (-x0)
                      omega
                    · show mm < 10000000000
                      have := mt Int32.lt_iff_toInt_lt.mpr c24_1
                      have := mt Int32.lt_iff_toInt_lt.mpr c24_2
                      have := mt Int32.lt_iff_toInt_lt.mpr c24_3
                      have := mt Int32.lt_iff_toInt_lt.mpr c24_4
                      have := mt Int32.lt_iff_toInt_lt.mpr c24_5
                      have := mt Int32.lt_iff_toInt_lt.mpr c24_6
                      have := mt Int32.lt_iff_toInt_lt.mpr c24_7
                      have := mt Int32.lt_iff_toInt_lt.mpr c24_8
                      have := mt Int32.lt_iff_toInt_lt.mpr c24_9
                      have := (by decide : ((-10 : Int32)).toInt = -10)
                      have := rng32 x0
                      have := c_ineg x0
                      have := (by decide : ((-100 : Int32)).toInt = -100)
                      have := (by decide : ((-1000 : Int32)).toInt = -1000)
                      have := (by decide : ((-10000 : Int32)).toInt = -10000)
                      have := (by decide : ((-100000 : Int32)).toInt = -100000)
                      have := (by decide : ((-1000000 : Int32)).toInt = -1000000)
                      have := (by decide : ((-10000000 : Int32)).toInt = -10000000)
                      have := (by decide : ((-100000000 : Int32)).toInt = -100000000)
                      have := (by decide : ((-1000000000 : Int32)).toInt = -1000000000)
                      have := rng32 x0
                      have := rng32 (-x0)
                      omega
set_option maxRecDepth 65536 in
set_option maxHeartbeats 40000000 in
theorem lp_gc {p : Program} {l : Launch} {e : Env} {R : Room} {s : State} {m : MethodId} {args : Array Value} {below : List Frame} {meth : Method} {c : Code} {Z : State} {a0 : Array Value} {h0 : Heap} (hw : ∀ d ∈ tables_1, d.before a0 Z = true) (hx : p.tables.exec = Jvm.exec) (hby : c.code = jdk_33_method_12_code) (hml : c.maxLocals = 7) (hown : s.vm.findClass "java/lang/Integer" = some m.cls) (hret : meth.sig.returnType = some .int) (hlk : meth.locks = false) (hZ : Z.Warmed39 s.vm) {t : Addr} {kb : ClassId} {z idx : Int32} {pf : List Int32} {n0 : Nat} (g_t : n0 ≤ t) {dO dT : Addr} {kO kT : ClassId} (SO : Sta Z Z.heap "java/lang/Integer" "DigitOnes" "[B" (.ref dO)) (VO : Arv Z Z.heap dO kO .byte (100 : Int32) (ones.map Value.int) (.int 0)) (SX : Sta Z Z.heap "java/lang/Integer" "DigitTens" "[B" (.ref dT)) (VT : Arv Z Z.heap dT kT .byte (100 : Int32) (tens.map Value.int) (.int 0)) (hpf : pf.length ≤ 100) {C S : Nat} (fu : Nat) :
    ∀ (ee mm : Nat) (hf : ee ≤ fu) (he : 1 ≤ ee) (hlo : 10 ^ (ee - 1) ≤ mm) (hhi : mm < 10 ^ ee) (hz : ((pf.length + ee : Nat) : Int) ≤ z.toInt) {T0 : State} {h : Heap} {locs : List Loc} (X0 : Stand p l e R s m args below meth c T0 locs 0 0) (e0 : T0.heap = h) (N0 : Fr n0 locs) (K0 : Keep h0 h [t]) (O0 : Old Z n0 h) {tl : List Int32} (V0 : Arv Z h t kb .byte z ((pf ++ List.replicate ee 0 ++ tl).map Value.int) (.int 0)) (i cp : Int32) (s3 s4 : Slot) (hs3 : One s3) (hs4 : One s4) (hi : i.toInt = -(mm : Int)) (hcp : cp.toInt = ((pf.length + ee : Nat) : Int)), Go p e below (FN s (fun v h L => ∃ r, v = some (.int r) ∧ Fr n0 L ∧ Keep h0 h [t] ∧ Arv Z h t kb .byte z ((pf ++ digs ee mm ++ tl).map Value.int) (.int 0)) C S) T0 (mkF m 22 #[.val (.int i), .val (.int idx), .val (.ref t), s3, s4, .val (.int cp), .val (.int (0 : Int32))] []) := by
  induction fu with
  | zero => intro ee mm hf he; exact absurd he (by omega)
  | succ fu ih =>
    intro ee mm hf he hlo hhi hz T0 h locs X0 e0 N0 K0 O0 tl V0 i cp s3 s4 hs3 hs4 hi hcp
    by_cases hm : 100 ≤ mm
    ·
      have h3 := ee3 hhi hm
      obtain ⟨e2, rfl⟩ : ∃ e2, ee = e2 + 2 := ⟨ee - 2, by omega⟩
      have h1e : 1 ≤ e2 := Nat.le_of_add_le_add_right (b := 2) h3
      obtain ⟨hlo2, hhi2⟩ := pow2 (e2 := e2) h1e hlo hhi
      have hle := le100 hi hm
      obtain ⟨hj1, hl1, hj2, hl2⟩ := cp_two (n := e2) hcp hz
      show Go p e below _ T0 (mkF m 22 #[.val (.int i), .val (.int idx), .val (.ref t), s3, s4, .val (.int cp), .val (.int (0 : Int32))] [])
      refine Go.s_iloadN X0 hx (hb hby d24_22) (q := 23) rfl rfl ?_
      refine Go.s_bipush X0 hx (hb hby d24_23) (q := 25) rfl (z := -100) rfl ?_
      refine Go.s_icmpNo X0 hx (hb hby d24_25) (q := 28) rfl (flt hle).2.2.1 ?_
      refine Go.s_iloadN X0 hx (hb hby d24_28) (q := 29) rfl rfl ?_
      refine Go.s_bipush X0 hx (hb hby d24_29) (q := 31) rfl (z := 100) rfl ?_
      refine Go.s_idiv X0 hx (hb hby d24_31) (q := 32) rfl (by decide) ?_
      refine Go.s_istoreNS X0 hx (hb hby d24_32) (q := 33) rfl (o := s3) rfl hs3 (l' := #[.val (.int i), .val (.int idx), .val (.ref t), .val (.int (i / (100 : Int32))), s4, .val (.int cp), .val (.int (0 : Int32))]) rfl ?_
      generalize hv1 : (i / (100 : Int32)) = v1
      refine Go.s_iloadN X0 hx (hb hby d24_33) (q := 34) rfl rfl ?_
      refine Go.s_bipush X0 hx (hb hby d24_34) (q := 36) rfl (z := 100) rfl ?_
      refine Go.s_imul X0 hx (hb hby d24_36) (q := 37) rfl ?_
      refine Go.s_iloadN X0 hx (hb hby d24_37) (q := 38) rfl rfl ?_
      refine Go.s_isub X0 hx (hb hby d24_38) (q := 39) rfl ?_
      refine Go.s_istoreS X0 hx (hb hby d24_39) (q := 41) rfl (o := s4) rfl hs4 (l' := #[.val (.int i), .val (.int idx), .val (.ref t), .val (.int v1), .val (.int ((v1 * (100 : Int32)) - i)), .val (.int cp), .val (.int (0 : Int32))]) rfl ?_
      generalize hv2 : ((v1 * (100 : Int32)) - i) = v2
      refine Go.s_iloadN X0 hx (hb hby d24_41) (q := 42) rfl rfl ?_
      refine Go.s_istoreN X0 hx (hb hby d24_42) (q := 43) rfl (l' := #[.val (.int v1), .val (.int idx), .val (.ref t), .val (.int v1), .val (.int v2), .val (.int cp), .val (.int (0 : Int32))]) rfl ?_
      have hqr := qr hi hm hv1 hv2
      refine Go.s_aloadN X0 hx (hb hby d24_43) (q := 44) rfl rfl rfl ?_
      refine Go.s_iinc X0 hx (hb hby d24_44) (q := 47) rfl rfl (l' := #[.val (.int v1), .val (.int idx), .val (.ref t), .val (.int v1), .val (.int v2), .val (.int (cp + (-1 : Int32))), .val (.int (0 : Int32))]) rfl ?_
      refine Go.s_iload X0 hx (hb hby d24_47) (q := 49) rfl rfl ?_
      refine Go.getS X0 hx hZ hown (w_ hw 147 rfl) Via.refl e0 (SO.ext O0.2) (hb hby d24_49) ?_
      intro T3 X3 e3
      show Go p e below _ T3 (mkF m 52 #[.val (.int v1), .val (.int idx), .val (.ref t), .val (.int v1), .val (.int v2), .val (.int (cp + (-1 : Int32))), .val (.int (0 : Int32))] [(.ref dO), (.int (cp + (-1 : Int32))), (.ref t)])
      refine Go.s_iload X3 hx (hb hby d24_52) (q := 54) rfl rfl ?_
      refine Go.ldB X3 hx hZ e3 (VO.ext O0.2) (in100 hqr.2) (w := (.int (Int32.ofNat (48 + mm % 10)))) (one_at hqr.2) (hb hby d24_54) ?_
      refine Go.stD X3 hx hZ e3 V0 hj1 hl1 (dig_b _) (hb hby d24_55) ?_
      intro T4 h4 X4 e4 W4 V4
      have N4 := Fr.snoc X4 N0 g_t
      have O4 := Old.wr O0 W4 g_t
      have K4 := Keep.wr K0 W4 (Or.inl (by simp))
      show Go p e below _ T4 (mkF m 56 #[.val (.int v1), .val (.int idx), .val (.ref t), .val (.int v1), .val (.int v2), .val (.int (cp + (-1 : Int32))), .val (.int (0 : Int32))] [])
      refine Go.s_aloadN X4 hx (hb hby d24_56) (q := 57) rfl rfl rfl ?_
      refine Go.s_iinc X4 hx (hb hby d24_57) (q := 60) rfl rfl (l' := #[.val (.int v1), .val (.int idx), .val (.ref t), .val (.int v1), .val (.int v2), .val (.int ((cp + (-1 : Int32)) + (-1 : Int32))), .val (.int (0 : Int32))]) rfl ?_
      refine Go.s_iload X4 hx (hb hby d24_60) (q := 62) rfl rfl ?_
      refine Go.getS X4 hx hZ hown (w_ hw 221 rfl) Via.refl e4 (SX.ext O4.2) (hb hby d24_62) ?_
      intro T5 X5 e5
      show Go p e below _ T5 (mkF m 65 #[.val (.int v1), .val (.int idx), .val (.ref t), .val (.int v1), .val (.int v2), .val (.int ((cp + (-1 : Int32)) + (-1 : Int32))), .val (.int (0 : Int32))] [(.ref dT), (.int ((cp + (-1 : Int32)) + (-1 : Int32))), (.ref t)])
      refine Go.s_iload X5 hx (hb hby d24_65) (q := 67) rfl rfl ?_
      refine Go.ldB X5 hx hZ e5 (VT.ext O4.2) (in100 hqr.2) (w := (.int (Int32.ofNat (48 + mm / 10 % 10)))) (ten_at hqr.2) (hb hby d24_67) ?_
      refine Go.stD X5 hx hZ e5 V4 hj2 hl2 (dig_b _) (hb hby d24_68) ?_
      intro T6 h6 X6 e6 W6 V6
      have N6 := Fr.snoc X6 N4 g_t
      have O6 := Old.wr O4 W6 g_t
      have K6 := Keep.wr K4 W6 (Or.inl (by simp))
      show Go p e below _ T6 (mkF m 69 #[.val (.int v1), .val (.int idx), .val (.ref t), .val (.int v1), .val (.int v2), .val (.int ((cp + (-1 : Int32)) + (-1 : Int32))), .val (.int (0 : Int32))] [])
      refine Go.s_goto X6 hx (hb hby d24_69) (q := 22) (by decide) (by decide) ?_
      have hq : pf ++ digs (e2 + 2) mm ++ tl = pf ++ digs e2 (mm / 100) ++ (Int32.ofNat (48 + mm / 10 % 10) :: Int32.ofNat (48 + mm % 10) :: tl) := by rw [digs2]; simp
      rw [hq]
      exact ih e2 (mm / 100) (Nat.le_trans (Nat.le_succ e2) (Nat.le_of_succ_le_succ hf)) h1e hlo2 hhi2 (by rw [← hj2]; exact Int.le_of_lt hl2) X6 e6 N6 K6 O6 V6 _ _ _ _ (One.val rfl) (One.val rfl) hqr.1 hj2
    ·
      obtain ⟨hgt, hni⟩ := lt100 hi hm
      have h2 := ee2 hlo (Nat.lt_of_not_le hm)
      by_cases h9 : 10 ≤ mm
      ·
        have h2' := ee2' hhi h9
        obtain rfl : ee = 2 := Nat.le_antisymm h2 h2'
        have h9i := nine hi h9
        have fq : pf ++ digs 2 mm ++ tl = pf ++ List.replicate 0 0 ++ (Int32.ofNat (48 + mm / 10 % 10) :: Int32.ofNat (48 + mm % 10) :: tl) := by rw [show digs 2 mm = digs 0 (mm / 100) ++ _ from digs2 0 mm]; simp [digs]
        obtain ⟨hj1, hl1, hj2, hl2⟩ := cp_two (n := 0) hcp hz
        show Go p e below _ T0 (mkF m 22 #[.val (.int i), .val (.int idx), .val (.ref t), s3, s4, .val (.int cp), .val (.int (0 : Int32))] [])
        refine Go.s_iloadN X0 hx (hb hby d24_22) (q := 23) rfl rfl ?_
        refine Go.s_bipush X0 hx (hb hby d24_23) (q := 25) rfl (z := -100) rfl ?_
        refine Go.s_icmpYes X0 hx (hb hby d24_25) (q := 72) (by decide) (by decide) (tlt hgt).2.2.1 ?_
        refine Go.s_aloadN X0 hx (hb hby d24_72) (q := 73) rfl rfl rfl ?_
        refine Go.s_iinc X0 hx (hb hby d24_73) (q := 76) rfl rfl (l' := #[.val (.int i), .val (.int idx), .val (.ref t), s3, s4, .val (.int (cp + (-1 : Int32))), .val (.int (0 : Int32))]) rfl ?_
        refine Go.s_iload X0 hx (hb hby d24_76) (q := 78) rfl rfl ?_
        refine Go.getS X0 hx hZ hown (w_ hw 147 rfl) Via.refl e0 (SO.ext O0.2) (hb hby d24_78) ?_
        intro T7 X7 e7
        show Go p e below _ T7 (mkF m 81 #[.val (.int i), .val (.int idx), .val (.ref t), s3, s4, .val (.int (cp + (-1 : Int32))), .val (.int (0 : Int32))] [(.ref dO), (.int (cp + (-1 : Int32))), (.ref t)])
        refine Go.s_iloadN X7 hx (hb hby d24_81) (q := 82) rfl rfl ?_
        refine Go.s_ineg X7 hx (hb hby d24_82) (q := 83) rfl ?_
        refine Go.ldB X7 hx hZ e7 (VO.ext O0.2) (in100 hni) (w := (.int (Int32.ofNat (48 + mm % 10)))) (one_at hni) (hb hby d24_83) ?_
        refine Go.stD X7 hx hZ e7 V0 hj1 hl1 (dig_b _) (hb hby d24_84) ?_
        intro T8 h8 X8 e8 W8 V8
        have N8 := Fr.snoc X8 N0 g_t
        have O8 := Old.wr O0 W8 g_t
        have K8 := Keep.wr K0 W8 (Or.inl (by simp))
        show Go p e below _ T8 (mkF m 85 #[.val (.int i), .val (.int idx), .val (.ref t), s3, s4, .val (.int (cp + (-1 : Int32))), .val (.int (0 : Int32))] [])
        refine Go.s_iloadN X8 hx (hb hby d24_85) (q := 86) rfl rfl ?_
        refine Go.s_bipush X8 hx (hb hby d24_86) (q := 88) rfl (z := -9) rfl ?_
        refine Go.s_icmpNo X8 hx (hb hby d24_88) (q := 91) rfl (tlt h9i).2.1 ?_
        refine Go.s_aloadN X8 hx (hb hby d24_91) (q := 92) rfl rfl rfl ?_
        refine Go.s_iinc X8 hx (hb hby d24_92) (q := 95) rfl rfl (l' := #[.val (.int i), .val (.int idx), .val (.ref t), s3, s4, .val (.int ((cp + (-1 : Int32)) + (-1 : Int32))), .val (.int (0 : Int32))]) rfl ?_
        refine Go.s_iload X8 hx (hb hby d24_95) (q := 97) rfl rfl ?_
        refine Go.getS X8 hx hZ hown (w_ hw 221 rfl) Via.refl e8 (SX.ext O8.2) (hb hby d24_97) ?_
        intro T9 X9 e9
        show Go p e below _ T9 (mkF m 100 #[.val (.int i), .val (.int idx), .val (.ref t), s3, s4, .val (.int ((cp + (-1 : Int32)) + (-1 : Int32))), .val (.int (0 : Int32))] [(.ref dT), (.int ((cp + (-1 : Int32)) + (-1 : Int32))), (.ref t)])
        refine Go.s_iloadN X9 hx (hb hby d24_100) (q := 101) rfl rfl ?_
        refine Go.s_ineg X9 hx (hb hby d24_101) (q := 102) rfl ?_
        refine Go.ldB X9 hx hZ e9 (VT.ext O8.2) (in100 hni) (w := (.int (Int32.ofNat (48 + mm / 10 % 10)))) (ten_at hni) (hb hby d24_102) ?_
        refine Go.stD X9 hx hZ e9 V8 hj2 hl2 (dig_b _) (hb hby d24_103) ?_
        intro T10 h10 X10 e10 W10 V10
        have N10 := Fr.snoc X10 N8 g_t
        have O10 := Old.wr O8 W10 g_t
        have K10 := Keep.wr K8 W10 (Or.inl (by simp))
        show Go p e below _ T10 (mkF m 104 #[.val (.int i), .val (.int idx), .val (.ref t), s3, s4, .val (.int ((cp + (-1 : Int32)) + (-1 : Int32))), .val (.int (0 : Int32))] [])
        refine Go.s_iload X10 hx (hb hby d24_104) (q := 106) rfl rfl ?_
        refine Go.s_ifYes X10 hx (hb hby d24_106) (q := 118) (by decide) (by decide) ((if0 _ _).trans (teq (by decide : (0 : Int32) = (0 : Int32))).1) ?_
        refine Go.s_iload X10 hx (hb hby d24_118) (q := 120) rfl rfl ?_
        refine Go.retI X10 hx hlk hret (hb hby d24_120) (Nat.zero_le _) (Nat.zero_le _) ?_
        try rw [e10]
        exact ⟨_, rfl, N10, K10, by rw [fq]; exact V10⟩
      ·
        have h1 := ee1 hlo (Nat.lt_of_not_le h9)
        obtain rfl : ee = 1 := Nat.le_antisymm h1 he
        have h9i := nine' hi h9
        have fq : pf ++ digs 1 mm ++ tl = pf ++ List.replicate 0 0 ++ (Int32.ofNat (48 + mm % 10) :: tl) := by simp [digs]
        obtain ⟨hj1, hl1⟩ := cp_ix (n := 0) hcp hz
        show Go p e below _ T0 (mkF m 22 #[.val (.int i), .val (.int idx), .val (.ref t), s3, s4, .val (.int cp), .val (.int (0 : Int32))] [])
        refine Go.s_iloadN X0 hx (hb hby d24_22) (q := 23) rfl rfl ?_
        refine Go.s_bipush X0 hx (hb hby d24_23) (q := 25) rfl (z := -100) rfl ?_
        refine Go.s_icmpYes X0 hx (hb hby d24_25) (q := 72) (by decide) (by decide) (tlt hgt).2.2.1 ?_
        refine Go.s_aloadN X0 hx (hb hby d24_72) (q := 73) rfl rfl rfl ?_
        refine Go.s_iinc X0 hx (hb hby d24_73) (q := 76) rfl rfl (l' := #[.val (.int i), .val (.int idx), .val (.ref t), s3, s4, .val (.int (cp + (-1 : Int32))), .val (.int (0 : Int32))]) rfl ?_
        refine Go.s_iload X0 hx (hb hby d24_76) (q := 78) rfl rfl ?_
        refine Go.getS X0 hx hZ hown (w_ hw 147 rfl) Via.refl e0 (SO.ext O0.2) (hb hby d24_78) ?_
        intro T11 X11 e11
        show Go p e below _ T11 (mkF m 81 #[.val (.int i), .val (.int idx), .val (.ref t), s3, s4, .val (.int (cp + (-1 : Int32))), .val (.int (0 : Int32))] [(.ref dO), (.int (cp + (-1 : Int32))), (.ref t)])
        refine Go.s_iloadN X11 hx (hb hby d24_81) (q := 82) rfl rfl ?_
        refine Go.s_ineg X11 hx (hb hby d24_82) (q := 83) rfl ?_
        refine Go.ldB X11 hx hZ e11 (VO.ext O0.2) (in100 hni) (w := (.int (Int32.ofNat (48 + mm % 10)))) (one_at hni) (hb hby d24_83) ?_
        refine Go.stD X11 hx hZ e11 V0 hj1 hl1 (dig_b _) (hb hby d24_84) ?_
        intro T12 h12 X12 e12 W12 V12
        have N12 := Fr.snoc X12 N0 g_t
        have O12 := Old.wr O0 W12 g_t
        have K12 := Keep.wr K0 W12 (Or.inl (by simp))
        show Go p e below _ T12 (mkF m 85 #[.val (.int i), .val (.int idx), .val (.ref t), s3, s4, .val (.int (cp + (-1 : Int32))), .val (.int (0 : Int32))] [])
        refine Go.s_iloadN X12 hx (hb hby d24_85) (q := 86) rfl rfl ?_
        refine Go.s_bipush X12 hx (hb hby d24_86) (q := 88) rfl (z := -9) rfl ?_
        refine Go.s_icmpYes X12 hx (hb hby d24_88) (q := 104) (by decide) (by decide) (flt h9i).2.1 ?_
        refine Go.s_iload X12 hx (hb hby d24_104) (q := 106) rfl rfl ?_
        refine Go.s_ifYes X12 hx (hb hby d24_106) (q := 118) (by decide) (by decide) ((if0 _ _).trans (teq (by decide : (0 : Int32) = (0 : Int32))).1) ?_
        refine Go.s_iload X12 hx (hb hby d24_118) (q := 120) rfl rfl ?_
        refine Go.retI X12 hx hlk hret (hb hby d24_120) (Nat.zero_le _) (Nat.zero_le _) ?_
        try rw [e12]
        exact ⟨_, rfl, N12, K12, by rw [fq]; exact V12⟩
theorem ef_gc (m : MethodId) (x0 : Int32) (x1 : Int32) (x2 : Addr) : entryFrame m #[(.int x0), (.int x1), (.ref x2)] 7 = mkF m 0 #[.val (.int x0), .val (.int x1), .val (.ref x2), .unset, .unset, .unset, .unset] [] := by first | (simp [entryFrame, mkF, argsToLocals, Value.category]; done) | rfl
set_option maxRecDepth 65536 in
set_option maxHeartbeats 40000000 in
theorem rm_gc (l : Launch) (Z : State) (a0 : Array Value) (hw : ∀ d ∈ tables_1, d.before a0 Z = true) (x0 : Int32) (x1 : Int32) (t : Addr) (h0 : Heap) (kb : ClassId) (z : Int32) (pf : List Int32) (n0 : Nat) (g_t : n0 ≤ t) (dO dT : Addr) (kO kT : ClassId) (SO : Sta Z Z.heap "java/lang/Integer" "DigitOnes" "[B" (.ref dO)) (VO : Arv Z Z.heap dO kO .byte (100 : Int32) (ones.map Value.int) (.int 0)) (SX : Sta Z Z.heap "java/lang/Integer" "DigitTens" "[B" (.ref dT)) (VT : Arv Z Z.heap dT kT .byte (100 : Int32) (tens.map Value.int) (.int 0)) (O : Old Z n0 h0) (V_t : Arv Z h0 t kb .byte z (pf.map Value.int) (.int 0)) (hpf : pf.length ≤ 100) (ee mm : Nat) (hmm : x0.toInt = (mm : Int)) (he : 1 ≤ ee) (hlo : 10 ^ (ee - 1) ≤ mm) (hhi : mm < 10 ^ ee) (hz : ((pf.length + ee : Nat) : Int) ≤ z.toInt) (hcp : x1.toInt = ((pf.length + ee : Nat) : Int)) :
    Ct l mn_24 jdk_33_method_12_code 7 (some .int) ({ frames := 0, cells := 0, slots := 0, locals := 0 } : Room) Z h0 #[(.int x0), (.int x1), (.ref t)] (fun v h L => ∃ r, v = some (.int r) ∧ Fr n0 L ∧ Keep h0 h [t] ∧ Arv Z h t kb .byte z ((pf ++ digs ee mm).map Value.int) (.int 0)) := by
  refine Ct.body (plainFor_of_name pn_java_lang_Integer) ?_
  intro p e s m below meth c T0 hx hby hml hown hnm hret hlk hZ X0 e0
  have hneg : ¬ (x0 < (0 : Int32)) := fun q => by have := Int32.lt_iff_toInt_lt.mp q; have e0 : (0 : Int32).toInt = 0 := (by decide); omega
  refine Go.cast (ef_gc m x0 x1 t) ?_
  show Go p e below _ T0 (mkF m 0 #[.val (.int x0), .val (.int x1), .val (.ref t), .unset, .unset, .unset, .unset] [])
  refine Go.s_iloadN X0 hx (hb hby d24_0) (q := 1) rfl rfl ?_
  refine Go.s_istore X0 hx (hb hby d24_1) (q := 3) rfl (l' := #[.val (.int x0), .val (.int x1), .val (.ref t), .unset, .unset, .val (.int x1), .unset]) rfl ?_
  refine Go.s_iloadN X0 hx (hb hby d24_3) (q := 4) rfl rfl ?_
  refine Go.s_ifYes X0 hx (hb hby d24_4) (q := 11) (by decide) (by decide) ((if0 _ _).trans (flt hneg).2.1) ?_
  refine Go.s_iconst X0 hx (hb hby d24_11) (q := 12) rfl (z := 0) rfl ?_
  refine Go.s_istore X0 hx (hb hby d24_12) (q := 14) rfl (l' := #[.val (.int x0), .val (.int x1), .val (.ref t), .unset, .unset, .val (.int x1), .val (.int (0 : Int32))]) rfl ?_
  refine Go.s_iload X0 hx (hb hby d24_14) (q := 16) rfl rfl ?_
  refine Go.s_ifNo X0 hx (hb hby d24_16) (q := 19) rfl ((if0 _ _).trans (teq (by decide : (0 : Int32) = (0 : Int32))).2) ?_
  refine Go.s_iloadN X0 hx (hb hby d24_19) (q := 20) rfl rfl ?_
  refine Go.s_ineg X0 hx (hb hby d24_20) (q := 21) rfl ?_
  refine Go.s_istoreN X0 hx (hb hby d24_21) (q := 22) rfl (l' := #[.val (.int (-x0)), .val (.int x1), .val (.ref t), .unset, .unset, .val (.int x1), .val (.int (0 : Int32))]) rfl ?_
  generalize hv1 : (-x0) = v1
  have cn := c_ineg x0
  have hv' := congrArg Int32.toInt hv1
  have bn := rng32 v1
  have bx := rng32 x0
  have hi : v1.toInt = -(mm : Int) := by clear hlo hhi; omega
  have V0 : Arv Z h0 t kb .byte z ((pf ++ List.replicate ee 0 ++ []).map Value.int) (.int 0) := V_t.pad (pad_z pf ee)
  have r := lp_gc hw hx hby hml hown hret hlk hZ g_t SO VO SX VT hpf (C := 0) (S := 0) (idx := x1) ee ee mm (Nat.le_refl _) he hlo hhi hz X0 e0 (Fr.nil n0) (Keep.refl h0 [t]) O V0 v1 x1 _ _ One.u One.u hi hcp
  rw [List.append_nil] at r
  exact r
theorem ef_ail (m : MethodId) (x0 : Addr) : entryFrame m #[(.ref x0)] 1 = mkF m 0 #[.val (.ref x0)] [] := by first | (simp [entryFrame, mkF, argsToLocals, Value.category]; done) | rfl
set_option maxRecDepth 65536 in
set_option maxHeartbeats 40000000 in
theorem rm_ail (l : Launch) (Z : State) (a0 : Array Value) (hw : ∀ d ∈ tables_1, d.before a0 Z = true) (a : Addr) (h0 : Heap) (zc : Int32) (CS : Sta Z h0 "java/lang/String" "COMPACT_STRINGS" "Z" (.int zc)) (hzc : ¬ zc = 0) (F_c : Fld Z h0 a "java/lang/AbstractStringBuilder" "coder" "B" (.int (0 : Int32))) :
    Ct l mn_23 jdk_68_method_68_code 1 (some .boolean) ({ frames := 0, cells := 0, slots := 0, locals := 0 } : Room) Z h0 #[(.ref a)] (fun v h L => v = some (.int 1) ∧ L = [] ∧ h = h0) := by
  refine Ct.body (plainFor_of_name pn_java_lang_AbstractStringBuilder) ?_
  intro p e s m below meth c T0 hx hby hml hown hnm hret hlk hZ X0 e0
  refine Go.cast (ef_ail m a) ?_
  show Go p e below _ T0 (mkF m 0 #[.val (.ref a)] [])
  refine Go.getS X0 hx hZ hown (w_ hw 40 rfl) Via.refl e0 CS (hb hby d23_0) ?_
  intro T1 X1 e1
  show Go p e below _ T1 (mkF m 3 #[.val (.ref a)] [(.int zc)])
  refine Go.s_ifNo X1 hx (hb hby d23_3) (q := 6) rfl ((if0 _ _).trans (feq hzc).1) ?_
  refine Go.s_aloadN X1 hx (hb hby d23_6) (q := 7) rfl rfl rfl ?_
  refine Go.getF X1 hx hZ hown (w_ hw 45 rfl) Via.refl e1 F_c (hb hby d23_7) ?_
  intro T2 X2 e2
  show Go p e below _ T2 (mkF m 10 #[.val (.ref a)] [(.int (0 : Int32))])
  refine Go.s_ifNo X2 hx (hb hby d23_10) (q := 13) rfl ((if0 _ _).trans (teq (by decide : (0 : Int32) = (0 : Int32))).2) ?_
  refine Go.s_iconst X2 hx (hb hby d23_13) (q := 14) rfl (z := 1) rfl ?_
  refine Go.s_goto X2 hx (hb hby d23_14) (q := 18) (by decide) (by decide) ?_
  refine Go.retN X2 hx hlk hret (by simp) (hb hby d23_18) (by decide) (by decide) ?_
  try rw [e2]
  exact ⟨by decide, rfl, rfl⟩
theorem ef_aai (m : MethodId) (x0 : Addr) (x1 : Int32) : entryFrame m #[(.ref x0), (.int x1)] 4 = mkF m 0 #[.val (.ref x0), .val (.int x1), .unset, .unset] [] := by first | (simp [entryFrame, mkF, argsToLocals, Value.category]; done) | rfl
set_option maxRecDepth 65536 in
set_option maxHeartbeats 40000000 in
theorem rm_aai (l : Launch) (Z : State) (a0 : Array Value) (hw : ∀ d ∈ tables_1, d.before a0 Z = true) (a : Addr) (x1 : Int32) (h0 : Heap) (zc : Int32) (CS : Sta Z h0 "java/lang/String" "COMPACT_STRINGS" "Z" (.int zc)) (hzc : ¬ zc = 0) (t : Addr) (kb : ClassId) (z : Int32) (bs : List Int32) (n0 : Nat) (E_a : Exa Z h0 a "java/lang/StringBuilder") (F_v : Fld Z h0 a "java/lang/AbstractStringBuilder" "value" "[B" (.ref t)) (F_c : Fld Z h0 a "java/lang/AbstractStringBuilder" "coder" "B" (.int (0 : Int32))) (F_n : Fld Z h0 a "java/lang/AbstractStringBuilder" "count" "I" (.int (Int32.ofNat bs.length))) (V_t : Arv Z h0 t kb .byte z (bs.map Value.int) (.int 0)) (g_a : n0 ≤ a) (g_t : n0 ≤ t) (Z0 : n0 ≤ h0.size) (bz0 : 0 ≤ z.toInt) (bz1 : z.toInt ≤ 200) (hbs : (bs.length : Int) ≤ z.toInt) (hb1 : bs.length ≤ 100) (dO dT : Addr) (kO kT : ClassId) (SO : Sta Z Z.heap "java/lang/Integer" "DigitOnes" "[B" (.ref dO)) (VO : Arv Z Z.heap dO kO .byte (100 : Int32) (ones.map Value.int) (.int 0)) (SX : Sta Z Z.heap "java/lang/Integer" "DigitTens" "[B" (.ref dT)) (VT : Arv Z Z.heap dT kT .byte (100 : Int32) (tens.map Value.int) (.int 0)) (O : Old Z n0 h0) (ee mm : Nat) (hmm : x1.toInt = (mm : Int)) (he : 1 ≤ ee) (he' : ee ≤ 10) (hlo : 10 ^ (ee - 1) ≤ mm) (hhi : mm < 10 ^ ee) :
    Ct l mn_21 jdk_68_method_32_code 4 (some (.object "java/lang/AbstractStringBuilder")) ({ frames := 5, cells := 1, slots := 402, locals := 130 } : Room) Z h0 #[(.ref a), (.int x1)] (fun v h L => v = some (.ref a) ∧ Fr n0 L ∧ Keep h0 h [a, t] ∧ ∃ t' kb' z', n0 ≤ t' ∧ (t' = t ∨ h0.size ≤ t') ∧ Exa Z h a "java/lang/StringBuilder" ∧ Fld Z h a "java/lang/AbstractStringBuilder" "value" "[B" (.ref t') ∧ Fld Z h a "java/lang/AbstractStringBuilder" "coder" "B" (.int (0 : Int32)) ∧ Fld Z h a "java/lang/AbstractStringBuilder" "count" "I" (.int (Int32.ofNat (bs ++ digs ee mm).length)) ∧ Arv Z h t' kb' .byte z' ((bs ++ digs ee mm).map Value.int) (.int 0) ∧ CapR z (bs.length + ee) z') := by
  refine Ct.body (plainFor_of_name pn_java_lang_AbstractStringBuilder) ?_
  intro p e s m below meth c T0 hx hby hml hown hnm hret hlk hZ X0 e0
  have ne_ta : t ≠ a := Ne.symm (Exa.neArv E_a V_t (w_ hw 28 rfl))
  have hpos := pos_of hlo
  refine Go.cast (ef_aai m a x1) ?_
  show Go p e below _ T0 (mkF m 0 #[.val (.ref a), .val (.int x1), .unset, .unset] [])
  refine Go.s_aloadN X0 hx (hb hby d21_0) (q := 1) rfl rfl rfl ?_
  refine Go.getF X0 hx hZ hown (w_ hw 76 rfl) Via.refl e0 F_n (hb hby d21_1) ?_
  intro T1 X1 e1
  show Go p e below _ T1 (mkF m 4 #[.val (.ref a), .val (.int x1), .unset, .unset] [(.int (Int32.ofNat bs.length))])
  refine Go.s_istoreN X1 hx (hb hby d21_4) (q := 5) rfl (l' := #[.val (.ref a), .val (.int x1), .val (.int (Int32.ofNat bs.length)), .unset]) rfl ?_
  refine Go.s_iloadN X1 hx (hb hby d21_5) (q := 6) rfl rfl ?_
  refine Go.s_iloadN X1 hx (hb hby d21_6) (q := 7) rfl rfl ?_
  refine Go.callS (y := mn_22) X1 hx hZ hown (w_ hw 135 rfl) (w_ hw 136 rfl) (w_ hw 137 rfl) (w_ hw 138 rfl) (by decide) e1 (argsL := [(.int x1)]) (rest := [(.int (Int32.ofNat bs.length))]) (rm_ssz l Z a0 hw x1 _ mm hmm hpos) (by rw [hml]; rfl) (lenOf pd_7 rfl) rfl (hb hby d21_7) (by first | decide | exact Nat.le_of_ble_eq_true rfl) (by first | decide | exact Nat.le_of_ble_eq_true rfl) (by first | decide | exact Nat.le_of_ble_eq_true rfl) (by first | decide | exact Nat.le_of_ble_eq_true rfl) ?_
  intro r2 T2 L2 q2 X2
  obtain ⟨w2, rfl, p2, rfl, e2⟩ := q2
  rw [List.append_nil] at X2
  have hr2 := dg_is p2 hmm he hlo hhi
  subst hr2
  show Go p e below _ T2 (mkF m 10 #[.val (.ref a), .val (.int x1), .val (.int (Int32.ofNat bs.length)), .unset] [(.int (Int32.ofNat ee)), (.int (Int32.ofNat bs.length))])
  refine Go.s_iadd X2 hx (hb hby d21_10) (q := 11) rfl ?_
  refine Go.s_istoreN X2 hx (hb hby d21_11) (q := 12) rfl (l' := #[.val (.ref a), .val (.int x1), .val (.int (Int32.ofNat bs.length)), .val (.int ((Int32.ofNat bs.length) + (Int32.ofNat ee)))]) rfl ?_
  refine Go.s_aloadN X2 hx (hb hby d21_12) (q := 13) rfl rfl rfl ?_
  refine Go.s_iloadN X2 hx (hb hby d21_13) (q := 14) rfl rfl ?_
  have hx1 := sum_n bs.length ee hb1 (by omega)
  refine Go.callPS (y := mn_11) X2 hx hZ hown (w_ hw 78 rfl) (w_ hw 79 rfl) (w_ hw 80 rfl) (w_ hw 81 rfl) (w_ hw 82 rfl) (w_ hw 37 rfl) (by decide) e2 E_a (argsL := [(.int ((Int32.ofNat bs.length) + (Int32.ofNat ee)))]) (rest := []) (rm_ens l Z a0 hw a (Int32.ofNat bs.length + Int32.ofNat ee) _ t kb z bs n0 E_a F_v F_c F_n V_t g_a g_t Z0 bz0 bz1 hx1.1 hx1.2.1 hbs) (by rw [hml]; rfl) (lenOf pd_10 rfl) rfl (hb hby d21_14) (by first | decide | exact Nat.le_of_ble_eq_true rfl) (by first | decide | exact Nat.le_of_ble_eq_true rfl) (by first | decide | exact Nat.le_of_ble_eq_true rfl) (by first | decide | exact Nat.le_of_ble_eq_true rfl) ?_
  intro r3 T3 L3 q3 X3
  obtain ⟨rfl, N3, K3, t1, kb1, z1, g_t1, ht1, E_a1, F_v1, F_c1, F_n1, V_t1, hR⟩ := q3
  have CS1 := Sta.keepN CS K3 (nsS (Exa.nostat E_a) ns0)
  have O1 := Old.keep O K3 (allS g_a all0)
  have K1 : Keep h0 T3.heap [a, t] := Keep.trans (Keep.refl h0 [a, t]) K3 (allS (Or.inl (by simp)) all0)
  have hcap := cap_of hR hx1
  show Go p e below _ T3 (mkF m 17 #[.val (.ref a), .val (.int x1), .val (.int (Int32.ofNat bs.length)), .val (.int ((Int32.ofNat bs.length) + (Int32.ofNat ee)))] [])
  refine Go.s_aloadN X3 hx (hb hby d21_17) (q := 18) rfl rfl rfl ?_
  refine Go.callV (y := mn_23) (z := mn_23) X3 hx hZ hown (w_ hw 139 rfl) (w_ hw 140 rfl) (notFace_of_selects (args := #[]) (mvT hZ (w_ hw 142 rfl))) (w_ hw 142 rfl) (w_ hw 141 rfl) (w_ hw 143 rfl) (w_ hw 37 rfl) (by decide) rfl E_a1 (argsL := []) (rest := []) (rm_ail l Z a0 hw a _ zc CS1 hzc F_c1) (by rw [hml]; rfl) (lenOf pd_4 rfl) rfl (hb hby d21_18) (by decide) (by decide) (by decide) (by decide) ?_
  intro r4 T4 L4 q4 X4
  obtain ⟨rfl, rfl, e4⟩ := q4
  rw [List.append_nil] at X4
  show Go p e below _ T4 (mkF m 21 #[.val (.ref a), .val (.int x1), .val (.int (Int32.ofNat bs.length)), .val (.int ((Int32.ofNat bs.length) + (Int32.ofNat ee)))] [(.int (1 : Int32))])
  refine Go.s_ifNo X4 hx (hb hby d21_21) (q := 24) rfl ((if0 _ _).trans (feq (by decide : ¬ ((1 : Int32) = (0 : Int32)))).1) ?_
  refine Go.s_iloadN X4 hx (hb hby d21_24) (q := 25) rfl rfl ?_
  refine Go.s_iloadN X4 hx (hb hby d21_25) (q := 26) rfl rfl ?_
  refine Go.s_aloadN X4 hx (hb hby d21_26) (q := 27) rfl rfl rfl ?_
  refine Go.getF X4 hx hZ hown (w_ hw 43 rfl) Via.refl e4 F_v1 (hb hby d21_27) ?_
  intro T5 X5 e5
  show Go p e below _ T5 (mkF m 30 #[.val (.ref a), .val (.int x1), .val (.int (Int32.ofNat bs.length)), .val (.int ((Int32.ofNat bs.length) + (Int32.ofNat ee)))] [(.ref t1), (.int ((Int32.ofNat bs.length) + (Int32.ofNat ee))), (.int x1)])
  refine Go.callS (y := mn_24) X5 hx hZ hown (w_ hw 144 rfl) (w_ hw 145 rfl) (w_ hw 137 rfl) (w_ hw 146 rfl) (by decide) e5 (argsL := [(.int x1), (.int ((Int32.ofNat bs.length) + (Int32.ofNat ee))), (.ref t1)]) (rest := []) (rm_gc l Z a0 hw x1 (Int32.ofNat bs.length + Int32.ofNat ee) t1 _ kb1 z1 bs n0 g_t1 dO dT kO kT SO VO SX VT O1 V_t1 hb1 ee mm hmm he hlo hhi (cap_le hcap) hx1.2.2) (by rw [hml]; rfl) (lenOf pd_15 rfl) rfl (hb hby d21_30) (by decide) (by decide) (by decide) (by decide) ?_
  intro r6 T6 L6 q6 X6
  obtain ⟨rr, rfl, N6, K6, V_t2⟩ := q6
  have ne2 : t1 ≠ a := Ne.symm (Exa.neArv E_a1 V_t1 (w_ hw 28 rfl))
  have K2 := Keep.trans K1 K6 (allS (ht1.imp (fun q => by rw [q]; simp) id) all0)
  have E_a2 := E_a1.keep K6
  have F_v2 := F_v1.keep K6 (ninS (Ne.symm ne2) nin0)
  have F_c2 := F_c1.keep K6 (ninS (Ne.symm ne2) nin0)
  have F_n2 := F_n1.keep K6 (ninS (Ne.symm ne2) nin0)
  show Go p e below _ T6 (mkF m 33 #[.val (.ref a), .val (.int x1), .val (.int (Int32.ofNat bs.length)), .val (.int ((Int32.ofNat bs.length) + (Int32.ofNat ee)))] [(.int rr)])
  refine Go.s_pop X6 hx (hb hby d21_33) (q := 34) rfl rfl ?_
  refine Go.s_goto X6 hx (hb hby d21_34) (q := 48) (by decide) (by decide) ?_
  refine Go.s_aloadN X6 hx (hb hby d21_48) (q := 49) rfl rfl rfl ?_
  refine Go.s_iloadN X6 hx (hb hby d21_49) (q := 50) rfl rfl ?_
  refine Go.putF X6 hx hZ hown (w_ hw 76 rfl) Via.refl rfl F_n2 E_a2 (Or.inl (w_ hw 77 rfl)) (w_ hw 28 rfl) (ty := .int) (by decide) rfl rfl (hb hby d21_50) ?_
  intro T7 h7 X7 e7 W7
  have N7 := Fr.snoc X7 (Fr.app (Fr.app (Fr.nil n0) N3) N6) g_a
  have E_a2_v8 := E_a2.wr W7
  have F_v9 := F_v2.other W7 (Or.inr (slot_ne (Or.inl (w_ hw 44 rfl)) (Or.inl (w_ hw 77 rfl)) (by decide) (t := (.array .byte)) (t' := .int) (by decide) (by decide)))
  have F_c2_v10 := F_c2.other W7 (Or.inr (slot_ne (Or.inl (w_ hw 46 rfl)) (Or.inl (w_ hw 77 rfl)) (by decide) (t := .byte) (t' := .int) (by decide) (by decide)))
  have V_t2_v11 := V_t2.other W7 ne2
  have K2_v12 := K2.wr W7 (Or.inl (by simp))
  have F_count_a_v13 := F_n2.same W7
  show Go p e below _ T7 (mkF m 53 #[.val (.ref a), .val (.int x1), .val (.int (Int32.ofNat bs.length)), .val (.int ((Int32.ofNat bs.length) + (Int32.ofNat ee)))] [])
  refine Go.s_aloadN X7 hx (hb hby d21_53) (q := 54) rfl rfl rfl ?_
  refine Go.retA X7 hx hlk hret rfl rfl (hb hby d21_54) (by decide) (by decide) ?_
  try rw [e7]
  exact ⟨rfl, N7, K2_v12, t1, kb1, z1, g_t1, ht1, E_a2_v8, F_v9, F_c2_v10, (len_dg bs ee mm ▸ F_count_a_v13), V_t2_v11, hcap⟩
theorem ef_sai (m : MethodId) (x0 : Addr) (x1 : Int32) : entryFrame m #[(.ref x0), (.int x1)] 2 = mkF m 0 #[.val (.ref x0), .val (.int x1)] [] := by first | (simp [entryFrame, mkF, argsToLocals, Value.category]; done) | rfl
set_option maxRecDepth 65536 in
set_option maxHeartbeats 40000000 in
theorem rm_sai (l : Launch) (Z : State) (a0 : Array Value) (hw : ∀ d ∈ tables_1, d.before a0 Z = true) (a : Addr) (x1 : Int32) (h0 : Heap) (zc : Int32) (CS : Sta Z h0 "java/lang/String" "COMPACT_STRINGS" "Z" (.int zc)) (hzc : ¬ zc = 0) (t : Addr) (kb : ClassId) (z : Int32) (bs : List Int32) (n0 : Nat) (E_a : Exa Z h0 a "java/lang/StringBuilder") (F_v : Fld Z h0 a "java/lang/AbstractStringBuilder" "value" "[B" (.ref t)) (F_c : Fld Z h0 a "java/lang/AbstractStringBuilder" "coder" "B" (.int (0 : Int32))) (F_n : Fld Z h0 a "java/lang/AbstractStringBuilder" "count" "I" (.int (Int32.ofNat bs.length))) (V_t : Arv Z h0 t kb .byte z (bs.map Value.int) (.int 0)) (g_a : n0 ≤ a) (g_t : n0 ≤ t) (Z0 : n0 ≤ h0.size) (bz0 : 0 ≤ z.toInt) (bz1 : z.toInt ≤ 200) (hbs : (bs.length : Int) ≤ z.toInt) (hb1 : bs.length ≤ 100) (dO dT : Addr) (kO kT : ClassId) (SO : Sta Z Z.heap "java/lang/Integer" "DigitOnes" "[B" (.ref dO)) (VO : Arv Z Z.heap dO kO .byte (100 : Int32) (ones.map Value.int) (.int 0)) (SX : Sta Z Z.heap "java/lang/Integer" "DigitTens" "[B" (.ref dT)) (VT : Arv Z Z.heap dT kT .byte (100 : Int32) (tens.map Value.int) (.int 0)) (O : Old Z n0 h0) (ee mm : Nat) (hmm : x1.toInt = (mm : Int)) (he : 1 ≤ ee) (he' : ee ≤ 10) (hlo : 10 ^ (ee - 1) ≤ mm) (hhi : mm < 10 ^ ee) :
    Ct l mn_20 jdk_67_method_15_code 2 (some (.object "java/lang/StringBuilder")) ({ frames := 6, cells := 1, slots := 402, locals := 146 } : Room) Z h0 #[(.ref a), (.int x1)] (fun v h L => v = some (.ref a) ∧ Fr n0 L ∧ Keep h0 h [a, t] ∧ ∃ t' kb' z', n0 ≤ t' ∧ (t' = t ∨ h0.size ≤ t') ∧ Exa Z h a "java/lang/StringBuilder" ∧ Fld Z h a "java/lang/AbstractStringBuilder" "value" "[B" (.ref t') ∧ Fld Z h a "java/lang/AbstractStringBuilder" "coder" "B" (.int (0 : Int32)) ∧ Fld Z h a "java/lang/AbstractStringBuilder" "count" "I" (.int (Int32.ofNat (bs ++ digs ee mm).length)) ∧ Arv Z h t' kb' .byte z' ((bs ++ digs ee mm).map Value.int) (.int 0) ∧ CapR z (bs.length + ee) z') := by
  refine Ct.body (plainFor_of_name pn_java_lang_StringBuilder) ?_
  intro p e s m below meth c T0 hx hby hml hown hnm hret hlk hZ X0 e0
  have ne_ta : t ≠ a := Ne.symm (Exa.neArv E_a V_t (w_ hw 28 rfl))
  refine Go.cast (ef_sai m a x1) ?_
  show Go p e below _ T0 (mkF m 0 #[.val (.ref a), .val (.int x1)] [])
  refine Go.s_aloadN X0 hx (hb hby d20_0) (q := 1) rfl rfl rfl ?_
  refine Go.s_iloadN X0 hx (hb hby d20_1) (q := 2) rfl rfl ?_
  refine Go.callSup (y := mn_21) X0 hx hZ hown (w_ hw 131 rfl) (same_of (w_ hw 142 rfl) rfl (w_ hw 132 rfl) (by decide)) (w_ hw 132 rfl) (w_ hw 60 rfl) (w_ hw 134 rfl) (w_ hw 37 rfl) (by decide) e0 E_a (argsL := [(.int x1)]) (rest := []) (rm_aai l Z a0 hw a x1 _ zc CS hzc t kb z bs n0 E_a F_v F_c F_n V_t g_a g_t Z0 bz0 bz1 hbs hb1 dO dT kO kT SO VO SX VT O ee mm hmm he he' hlo hhi) (by rw [hml]; rfl) (lenOf pd_8 rfl) rfl (hb hby d20_2) (by first | decide | exact Nat.le_of_ble_eq_true rfl) (by first | decide | exact Nat.le_of_ble_eq_true rfl) (by first | decide | exact Nat.le_of_ble_eq_true rfl) (by first | decide | exact Nat.le_of_ble_eq_true rfl) ?_
  intro r1 T1 L1 q1 X1
  obtain ⟨rfl, N1, R1⟩ := q1
  show Go p e below _ T1 (mkF m 5 #[.val (.ref a), .val (.int x1)] [(.ref a)])
  refine Go.s_pop X1 hx (hb hby d20_5) (q := 6) rfl rfl ?_
  refine Go.s_aloadN X1 hx (hb hby d20_6) (q := 7) rfl rfl rfl ?_
  refine Go.retA X1 hx hlk hret rfl rfl (hb hby d20_7) (by decide) (by decide) ?_
  exact ⟨rfl, Fr.app (Fr.nil _) N1, R1⟩
theorem ef_gv (m : MethodId) (x0 : Addr) : entryFrame m #[(.ref x0)] 1 = mkF m 0 #[.val (.ref x0)] [] := by first | (simp [entryFrame, mkF, argsToLocals, Value.category]; done) | rfl
set_option maxRecDepth 65536 in
set_option maxHeartbeats 40000000 in
theorem rm_gv (l : Launch) (Z : State) (a0 : Array Value) (hw : ∀ d ∈ tables_1, d.before a0 Z = true) (a : Addr) (h0 : Heap) (t : Addr) (F_v : Fld Z h0 a "java/lang/AbstractStringBuilder" "value" "[B" (.ref t)) :
    Ct l mn_28 jdk_68_method_64_code 1 (some (.array .byte)) ({ frames := 0, cells := 0, slots := 0, locals := 0 } : Room) Z h0 #[(.ref a)] (fun v h L => v = some (.ref t) ∧ L = [] ∧ h = h0) := by
  refine Ct.body (plainFor_of_name pn_java_lang_AbstractStringBuilder) ?_
  intro p e s m below meth c T0 hx hby hml hown hnm hret hlk hZ X0 e0
  refine Go.cast (ef_gv m a) ?_
  show Go p e below _ T0 (mkF m 0 #[.val (.ref a)] [])
  refine Go.s_aloadN X0 hx (hb hby d28_0) (q := 1) rfl rfl rfl ?_
  refine Go.getF X0 hx hZ hown (w_ hw 43 rfl) Via.refl e0 F_v (hb hby d28_1) ?_
  intro T1 X1 e1
  show Go p e below _ T1 (mkF m 4 #[.val (.ref a)] [(.ref t)])
  refine Go.retA X1 hx hlk hret rfl rfl (hb hby d28_4) (by decide) (by decide) ?_
  try rw [e1]
  exact ⟨rfl, rfl, rfl⟩
theorem ef_al (m : MethodId) (x0 : Addr) : entryFrame m #[(.ref x0)] 1 = mkF m 0 #[.val (.ref x0)] [] := by first | (simp [entryFrame, mkF, argsToLocals, Value.category]; done) | rfl
set_option maxRecDepth 65536 in
set_option maxHeartbeats 40000000 in
theorem rm_al (l : Launch) (Z : State) (a0 : Array Value) (hw : ∀ d ∈ tables_1, d.before a0 Z = true) (a : Addr) (h0 : Heap) (n : Int32) (F_n : Fld Z h0 a "java/lang/AbstractStringBuilder" "count" "I" (.int n)) :
    Ct l mn_30 jdk_68_method_6_code 1 (some .int) ({ frames := 0, cells := 0, slots := 0, locals := 0 } : Room) Z h0 #[(.ref a)] (fun v h L => v = some (.int n) ∧ L = [] ∧ h = h0) := by
  refine Ct.body (plainFor_of_name pn_java_lang_AbstractStringBuilder) ?_
  intro p e s m below meth c T0 hx hby hml hown hnm hret hlk hZ X0 e0
  refine Go.cast (ef_al m a) ?_
  show Go p e below _ T0 (mkF m 0 #[.val (.ref a)] [])
  refine Go.s_aloadN X0 hx (hb hby d30_0) (q := 1) rfl rfl rfl ?_
  refine Go.getF X0 hx hZ hown (w_ hw 76 rfl) Via.refl e0 F_n (hb hby d30_1) ?_
  intro T1 X1 e1
  show Go p e below _ T1 (mkF m 4 #[.val (.ref a)] [(.int n)])
  refine Go.retI X1 hx hlk hret (hb hby d30_4) (by decide) (by decide) ?_
  try rw [e1]
  exact ⟨rfl, rfl, rfl⟩
theorem ef_sl (m : MethodId) (x0 : Addr) : entryFrame m #[(.ref x0)] 1 = mkF m 0 #[.val (.ref x0)] [] := by first | (simp [entryFrame, mkF, argsToLocals, Value.category]; done) | rfl
set_option maxRecDepth 65536 in
set_option maxHeartbeats 40000000 in
theorem rm_sl (l : Launch) (Z : State) (a0 : Array Value) (hw : ∀ d ∈ tables_1, d.before a0 Z = true) (a : Addr) (h0 : Heap) (n : Int32) (E_a : Exa Z h0 a "java/lang/StringBuilder") (F_n : Fld Z h0 a "java/lang/AbstractStringBuilder" "count" "I" (.int n)) :
    Ct l mn_29 jdk_67_method_93_code 1 (some .int) ({ frames := 1, cells := 0, slots := 0, locals := 14 } : Room) Z h0 #[(.ref a)] (fun v h L => v = some (.int n) ∧ L = [] ∧ h = h0) := by
  refine Ct.body (plainFor_of_name pn_java_lang_StringBuilder) ?_
  intro p e s m below meth c T0 hx hby hml hown hnm hret hlk hZ X0 e0
  refine Go.cast (ef_sl m a) ?_
  show Go p e below _ T0 (mkF m 0 #[.val (.ref a)] [])
  refine Go.s_aloadN X0 hx (hb hby d29_0) (q := 1) rfl rfl rfl ?_
  refine Go.callSup (y := mn_30) X0 hx hZ hown (w_ hw 174 rfl) (same_of (w_ hw 142 rfl) rfl (w_ hw 170 rfl) (by decide)) (w_ hw 170 rfl) (w_ hw 60 rfl) (w_ hw 175 rfl) (w_ hw 37 rfl) (by decide) e0 E_a (argsL := []) (rest := []) (rm_al l Z a0 hw a _ n F_n) (by rw [hml]; rfl) (lenOf pd_1 rfl) rfl (hb hby d29_1) (by first | decide | exact Nat.le_of_ble_eq_true rfl) (by first | decide | exact Nat.le_of_ble_eq_true rfl) (by first | decide | exact Nat.le_of_ble_eq_true rfl) (by first | decide | exact Nat.le_of_ble_eq_true rfl) ?_
  intro r1 T1 L1 q1 X1
  obtain ⟨rfl, rfl, e1⟩ := q1
  rw [List.append_nil] at X1
  show Go p e below _ T1 (mkF m 4 #[.val (.ref a)] [(.int n)])
  refine Go.retI X1 hx hlk hret (hb hby d29_4) (by decide) (by decide) ?_
  try rw [e1]
  exact ⟨rfl, rfl, rfl⟩
theorem ef_ckl (m : MethodId) (x0 : Int32) (x1 : Int32) : entryFrame m #[(.int x0), (.int x1)] 2 = mkF m 0 #[.val (.int x0), .val (.int x1)] [] := by first | (simp [entryFrame, mkF, argsToLocals, Value.category]; done) | rfl
set_option maxRecDepth 65536 in
set_option maxHeartbeats 40000000 in
theorem rm_ckl (l : Launch) (Z : State) (a0 : Array Value) (hw : ∀ d ∈ tables_1, d.before a0 Z = true) (x1 : Int32) (h0 : Heap) (hge : ¬ (x1 < (0 : Int32))) :
    Ct l mn_33 jdk_65_method_131_code 2 none ({ frames := 0, cells := 0, slots := 0, locals := 0 } : Room) Z h0 #[(.int (0 : Int32)), (.int x1)] (fun v h L => v = none ∧ L = [] ∧ h = h0) := by
  refine Ct.body (plainFor_of_name pn_java_util_Arrays) ?_
  intro p e s m below meth c T0 hx hby hml hown hnm hret hlk hZ X0 e0
  refine Go.cast (ef_ckl m (0 : Int32) x1) ?_
  show Go p e below _ T0 (mkF m 0 #[.val (.int (0 : Int32)), .val (.int x1)] [])
  refine Go.s_iloadN X0 hx (hb hby d33_0) (q := 1) rfl rfl ?_
  refine Go.s_iloadN X0 hx (hb hby d33_1) (q := 2) rfl rfl ?_
  refine Go.s_icmpYes X0 hx (hb hby d33_2) (q := 37) (by decide) (by decide) (flt hge).2.1 ?_
  refine Go.retV X0 hx hlk hret (hb hby d33_37) (by decide) (by decide) ?_
  try rw [e0]
  exact ⟨rfl, rfl, rfl⟩
theorem ef_cob (m : MethodId) (x0 : Addr) (x1 : Int32) (x2 : Int32) : entryFrame m #[(.ref x0), (.int x1), (.int x2)] 5 = mkF m 0 #[.val (.ref x0), .val (.int x1), .val (.int x2), .unset, .unset] [] := by first | (simp [entryFrame, mkF, argsToLocals, Value.category]; done) | rfl
set_option maxRecDepth 65536 in
set_option maxHeartbeats 40000000 in
theorem rm_cob (l : Launch) (Z : State) (a0 : Array Value) (hw : ∀ d ∈ tables_1, d.before a0 Z = true) (t : Addr) (x2 : Int32) (h0 : Heap) (kb : ClassId) (z : Int32) (bs : List Int32) (n0 : Nat) (Z0 : n0 ≤ h0.size) (V_t : Arv Z h0 t kb .byte z (bs.map Value.int) (.int 0)) (hl0 : x2.toInt = (bs.length : Int)) (hlt : x2.toInt < z.toInt) (hl1 : bs.length ≤ 100) :
    Ct l mn_32 jdk_65_method_133_code 5 (some (.array .byte)) ({ frames := 1, cells := 1, slots := 100, locals := 40 } : Room) Z h0 #[(.ref t), (.int (0 : Int32)), (.int x2)] (fun v h L => ∃ r kc, v = some (.ref r) ∧ Fr n0 L ∧ Keep h0 h [] ∧ h0.size ≤ r ∧ Arv Z h r kc .byte x2 (bs.map Value.int) (.int 0)) := by
  refine Ct.body (plainFor_of_name pn_java_util_Arrays) ?_
  intro p e s m below meth c T0 hx hby hml hown hnm hret hlk hZ X0 e0
  have e0' : (0 : Int32).toInt = 0 := by decide
  have hge : ¬ x2 < 0 := fun q => by have := Int32.lt_iff_toInt_lt.mp q; omega
  have hcap : x2.toNatClampNeg ≤ 100 := by have := nat_of hge; omega
  have hfit : (0 : Int32).toInt + x2.toInt ≤ x2.toInt := by omega
  refine Go.cast (ef_cob m t (0 : Int32) x2) ?_
  show Go p e below _ T0 (mkF m 0 #[.val (.ref t), .val (.int (0 : Int32)), .val (.int x2), .unset, .unset] [])
  refine Go.s_iloadN X0 hx (hb hby d32_0) (q := 1) rfl rfl ?_
  refine Go.s_iloadN X0 hx (hb hby d32_1) (q := 2) rfl rfl ?_
  refine Go.callS (y := mn_33) X0 hx hZ hown (w_ hw 183 rfl) (w_ hw 184 rfl) (w_ hw 100 rfl) (w_ hw 185 rfl) (by decide) e0 (argsL := [(.int (0 : Int32)), (.int x2)]) (rest := []) (rm_ckl l Z a0 hw x2 _ hge) (by rw [hml]; rfl) (lenOf pd_12 rfl) rfl (hb hby d32_2) (by decide) (by decide) (by decide) (by decide) ?_
  intro r1 T1 L1 q1 X1
  obtain ⟨rfl, rfl, e1⟩ := q1
  rw [List.append_nil] at X1
  show Go p e below _ T1 (mkF m 5 #[.val (.ref t), .val (.int (0 : Int32)), .val (.int x2), .unset, .unset] [])
  refine Go.s_iloadN X1 hx (hb hby d32_5) (q := 6) rfl rfl ?_
  refine Go.s_iloadN X1 hx (hb hby d32_6) (q := 7) rfl rfl ?_
  refine Go.s_isub X1 hx (hb hby d32_7) (q := 8) rfl ?_
  rw [sub0 x2]
  refine Go.s_istoreN X1 hx (hb hby d32_8) (q := 9) rfl (l' := #[.val (.ref t), .val (.int (0 : Int32)), .val (.int x2), .val (.int x2), .unset]) rfl ?_
  refine Go.s_iloadN X1 hx (hb hby d32_9) (q := 10) rfl rfl ?_
  refine Go.newP X1 hx hZ (w_ hw 42 rfl) e1 (hb hby d32_10) hge (cap := 100) hcap (by decide) (by decide) (by decide) ?_
  intro T2 h2 b2 k2 g2 X2 e2 E2 V2
  have g_b : n0 ≤ b2 := g2 ▸ Z0
  have V_t1 := V_t.ext E2
  have hsz : h0.size ≤ b2 := Nat.le_of_eq g2.symm
  show Go p e below _ T2 (mkF m 12 #[.val (.ref t), .val (.int (0 : Int32)), .val (.int x2), .val (.int x2), .unset] [(.ref b2)])
  refine Go.s_astore X2 hx (hb hby d32_12) (q := 14) rfl rfl (l' := #[.val (.ref t), .val (.int (0 : Int32)), .val (.int x2), .val (.int x2), .val (.ref b2)]) rfl ?_
  refine Go.s_aloadN X2 hx (hb hby d32_14) (q := 15) rfl rfl rfl ?_
  refine Go.s_iloadN X2 hx (hb hby d32_15) (q := 16) rfl rfl ?_
  refine Go.s_aload X2 hx (hb hby d32_16) (q := 18) rfl rfl rfl ?_
  refine Go.s_iconst X2 hx (hb hby d32_18) (q := 19) rfl (z := 0) rfl ?_
  refine Go.s_aloadN X2 hx (hb hby d32_19) (q := 20) rfl rfl rfl ?_
  refine Go.len X2 hx hZ e2 V_t1 (hb hby d32_20) ?_
  show Go p e below _ T2 (mkF m 21 #[.val (.ref t), .val (.int (0 : Int32)), .val (.int x2), .val (.int x2), .val (.ref b2)] [(.int z), (.int (0 : Int32)), (.ref b2), (.int (0 : Int32)), (.ref t)])
  refine Go.s_iloadN X2 hx (hb hby d32_21) (q := 22) rfl rfl ?_
  refine Go.s_isub X2 hx (hb hby d32_22) (q := 23) rfl ?_
  rw [sub0 z]
  refine Go.s_iloadN X2 hx (hb hby d32_23) (q := 24) rfl rfl ?_
  refine Go.callS (y := mn_16) X2 hx hZ hown (w_ hw 102 rfl) (w_ hw 103 rfl) (w_ hw 94 rfl) (w_ hw 104 rfl) (by decide) e2 (argsL := [(.int z), (.int x2)]) (rest := [(.int (0 : Int32)), (.ref b2), (.int (0 : Int32)), (.ref t)]) (rm_mn l Z a0 hw z x2 _) (by rw [hml]; rfl) (lenOf pd_11 rfl) rfl (hb hby d32_24) (by first | decide | exact Nat.le_of_ble_eq_true rfl) (by first | decide | exact Nat.le_of_ble_eq_true rfl) (by first | decide | exact Nat.le_of_ble_eq_true rfl) (by first | decide | exact Nat.le_of_ble_eq_true rfl) ?_
  intro r3 T3 L3 q3 X3
  obtain ⟨w3, rfl, p3, rfl, e3⟩ := q3
  rw [List.append_nil] at X3
  rcases p3 with ⟨u3_0_0, z3⟩ | ⟨u3_1_0, z3⟩
  · -- x2
    subst w3
    refine Go.copy (bs := []) X3 hx hZ hown (w_ hw 105 rfl) (w_ hw 108 rfl) (w_ hw 106 rfl) (w_ hw 107 rfl) e3 V_t1 V2 (by decide) (Int.le_of_eq hl0.symm) (Int.le_of_lt hlt) hfit (Fr.nil n0) g_b (by rw [hml]; rfl) (hb hby d32_27) (by first | decide | exact Nat.le_of_ble_eq_true rfl) (by first | decide | exact Nat.le_of_ble_eq_true rfl) ?_
    intro T4 h4 L4 X4 e4 N4 K4 V4
    have Kc : Keep h0 h4 [] := (Keep.trans (Keep.ext (Keep.refl h0 []) E2) K4 (allS (Or.inr hsz) all0))
    show Go p e below _ T4 (mkF m 30 #[.val (.ref t), .val (.int (0 : Int32)), .val (.int x2), .val (.int x2), .val (.ref b2)] [])
    refine Go.s_aload X4 hx (hb hby d32_30) (q := 32) rfl rfl rfl ?_
    refine Go.retA X4 hx hlk hret rfl rfl (hb hby d32_32) (by decide) (by decide) ?_
    try rw [e4]
    exact ⟨_, _, rfl, N4, Kc, hsz, V4⟩
  · -- z
    subst w3
    exact absurd (Int32.lt_iff_toInt_lt.mpr hlt) u3_1_0
theorem ef_cor (m : MethodId) (x0 : Addr) (x1 : Int32) (x2 : Int32) : entryFrame m #[(.ref x0), (.int x1), (.int x2)] 3 = mkF m 0 #[.val (.ref x0), .val (.int x1), .val (.int x2)] [] := by first | (simp [entryFrame, mkF, argsToLocals, Value.category]; done) | rfl
set_option maxRecDepth 65536 in
set_option maxHeartbeats 40000000 in
theorem rm_cor (l : Launch) (Z : State) (a0 : Array Value) (hw : ∀ d ∈ tables_1, d.before a0 Z = true) (t : Addr) (x2 : Int32) (h0 : Heap) (kb : ClassId) (z : Int32) (bs : List Int32) (n0 : Nat) (Z0 : n0 ≤ h0.size) (V_t : Arv Z h0 t kb .byte z (bs.map Value.int) (.int 0)) (hl0 : x2.toInt = (bs.length : Int)) (hlt : x2.toInt < z.toInt) (hl1 : bs.length ≤ 100) :
    Ct l mn_31 jdk_65_method_132_code 3 (some (.array .byte)) ({ frames := 2, cells := 1, slots := 100, locals := 60 } : Room) Z h0 #[(.ref t), (.int (0 : Int32)), (.int x2)] (fun v h L => ∃ r kc, v = some (.ref r) ∧ Fr n0 L ∧ Keep h0 h [] ∧ h0.size ≤ r ∧ Arv Z h r kc .byte x2 (bs.map Value.int) (.int 0)) := by
  refine Ct.body (plainFor_of_name pn_java_util_Arrays) ?_
  intro p e s m below meth c T0 hx hby hml hown hnm hret hlk hZ X0 e0
  refine Go.cast (ef_cor m t (0 : Int32) x2) ?_
  show Go p e below _ T0 (mkF m 0 #[.val (.ref t), .val (.int (0 : Int32)), .val (.int x2)] [])
  refine Go.s_iloadN X0 hx (hb hby d31_0) (q := 1) rfl rfl ?_
  refine Go.s_ifNo X0 hx (hb hby d31_1) (q := 4) rfl ((if0 _ _).trans (teq (by decide : (0 : Int32) = (0 : Int32))).2) ?_
  refine Go.s_iloadN X0 hx (hb hby d31_4) (q := 5) rfl rfl ?_
  refine Go.s_aloadN X0 hx (hb hby d31_5) (q := 6) rfl rfl rfl ?_
  refine Go.len X0 hx hZ e0 V_t (hb hby d31_6) ?_
  show Go p e below _ T0 (mkF m 7 #[.val (.ref t), .val (.int (0 : Int32)), .val (.int x2)] [(.int z), (.int x2)])
  have hne : ¬ (x2 = z) := fun q => by rw [q] at hlt; omega
  refine Go.s_icmpNo X0 hx (hb hby d31_7) (q := 10) rfl (feq hne).1 ?_
  refine Go.s_aloadN X0 hx (hb hby d31_10) (q := 11) rfl rfl rfl ?_
  refine Go.s_iloadN X0 hx (hb hby d31_11) (q := 12) rfl rfl ?_
  refine Go.s_iloadN X0 hx (hb hby d31_12) (q := 13) rfl rfl ?_
  refine Go.callS (y := mn_32) X0 hx hZ hown (w_ hw 180 rfl) (w_ hw 181 rfl) (w_ hw 100 rfl) (w_ hw 182 rfl) (by decide) e0 (argsL := [(.ref t), (.int (0 : Int32)), (.int x2)]) (rest := []) (rm_cob l Z a0 hw t x2 _ kb z bs n0 Z0 V_t hl0 hlt hl1) (by rw [hml]; rfl) (lenOf pd_29 rfl) rfl (hb hby d31_13) (by decide) (by decide) (by decide) (by decide) ?_
  intro r1 T1 L1 q1 X1
  obtain ⟨r1a, k1a, rfl, N1, R1⟩ := q1
  show Go p e below _ T1 (mkF m 16 #[.val (.ref t), .val (.int (0 : Int32)), .val (.int x2)] [(.ref r1a)])
  refine Go.retA X1 hx hlk hret rfl rfl (hb hby d31_16) (by decide) (by decide) ?_
  exact ⟨_, _, rfl, Fr.app (Fr.nil _) N1, R1⟩
theorem ef_sia (m : MethodId) (x0 : Addr) (x1 : Addr) : entryFrame m #[(.ref x0), (.ref x1), .null] 5 = mkF m 0 #[.val (.ref x0), .val (.ref x1), .val .null, .unset, .unset] [] := by first | (simp [entryFrame, mkF, argsToLocals, Value.category]; done) | rfl
set_option maxRecDepth 65536 in
set_option maxHeartbeats 40000000 in
theorem rm_sia (l : Launch) (Z : State) (a0 : Array Value) (hw : ∀ d ∈ tables_1, d.before a0 Z = true) (x : Addr) (a : Addr) (h0 : Heap) (zc : Int32) (CS : Sta Z h0 "java/lang/String" "COMPACT_STRINGS" "Z" (.int zc)) (hzc : ¬ zc = 0) (t : Addr) (kb : ClassId) (z : Int32) (bs : List Int32) (n0 : Nat) (E_a : Exa Z h0 a "java/lang/StringBuilder") (F_v : Fld Z h0 a "java/lang/AbstractStringBuilder" "value" "[B" (.ref t)) (F_c : Fld Z h0 a "java/lang/AbstractStringBuilder" "coder" "B" (.int (0 : Int32))) (F_n : Fld Z h0 a "java/lang/AbstractStringBuilder" "count" "I" (.int (Int32.ofNat bs.length))) (V_t : Arv Z h0 t kb .byte z (bs.map Value.int) (.int 0)) (g_a : n0 ≤ a) (g_t : n0 ≤ t) (Z0 : n0 ≤ h0.size) (cs : List Int32) (hcs : bs = cs.map (fun c => c.toInt8.toInt32)) (hch : chs cs) (hb1 : bs.length ≤ 100) (hltz : (bs.length : Int) < z.toInt) (E_x : Exa Z h0 x "java/lang/String") (v0 c0 : Value) (F_xv : Fld Z h0 x "java/lang/String" "value" "[B" v0) (F_xc : Fld Z h0 x "java/lang/String" "coder" "B" c0) (g_x : n0 ≤ x) :
    Ct l mn_27 jdk_42_method_150_code 5 none ({ frames := 3, cells := 1, slots := 100, locals := 80 } : Room) Z h0 #[(.ref x), (.ref a), .null] (fun v h L => v = none ∧ Fr n0 L ∧ Keep h0 h [x] ∧ Str Z h h.size x cs) := by
  refine Ct.body (plainFor_of_name pn_java_lang_String) ?_
  intro p e s m below meth c T0 hx hby hml hown hnm hret hlk hZ X0 e0
  have ne_ta : t ≠ a := Ne.symm (Exa.neArv E_a V_t (w_ hw 28 rfl))
  have ne_ax : a ≠ x := Exa.ne E_a E_x (by decide)
  have ne_tx : t ≠ x := Ne.symm (Exa.neArv E_x V_t (w_ hw 48 rfl))
  refine Go.cast (ef_sia m x a) ?_
  show Go p e below _ T0 (mkF m 0 #[.val (.ref x), .val (.ref a), .val .null, .unset, .unset] [])
  refine Go.s_aloadN X0 hx (hb hby d27_0) (q := 1) rfl rfl rfl ?_
  refine Go.initO X0 hx hZ hown (w_ hw 162 rfl) (w_ hw 18 rfl) (w_ hw 19 rfl) e0 (by rw [hml]; rfl) (hb hby d27_1) (by decide) (by decide) ?_
  intro T1 X1 e1
  show Go p e below _ T1 (mkF m 4 #[.val (.ref x), .val (.ref a), .val .null, .unset, .unset] [])
  refine Go.s_aloadN X1 hx (hb hby d27_4) (q := 5) rfl rfl rfl ?_
  refine Go.callV (y := mn_28) (z := mn_28) X1 hx hZ hown (w_ hw 163 rfl) (w_ hw 164 rfl) (notFace_of_selects (args := #[]) (mvT hZ (w_ hw 166 rfl))) (w_ hw 166 rfl) (w_ hw 165 rfl) (w_ hw 167 rfl) (w_ hw 37 rfl) (by decide) e1 E_a (argsL := []) (rest := []) (rm_gv l Z a0 hw a _ t F_v) (by rw [hml]; rfl) (lenOf pd_5 rfl) rfl (hb hby d27_5) (by decide) (by decide) (by decide) (by decide) ?_
  intro r2 T2 L2 q2 X2
  obtain ⟨rfl, rfl, e2⟩ := q2
  rw [List.append_nil] at X2
  show Go p e below _ T2 (mkF m 8 #[.val (.ref x), .val (.ref a), .val .null, .unset, .unset] [(.ref t)])
  refine Go.s_astoreN X2 hx (hb hby d27_8) (q := 9) rfl rfl (l' := #[.val (.ref x), .val (.ref a), .val .null, .val (.ref t), .unset]) rfl ?_
  refine Go.s_aloadN X2 hx (hb hby d27_9) (q := 10) rfl rfl rfl ?_
  refine Go.callV (y := mn_30) (z := mn_29) X2 hx hZ hown (w_ hw 168 rfl) (w_ hw 169 rfl) (notFace_of (a0 := #[]) (mvT hZ (w_ hw 142 rfl)) rfl (mvT hZ (w_ hw 170 rfl)) (by decide)) (w_ hw 171 rfl) (w_ hw 172 rfl) (w_ hw 173 rfl) (w_ hw 29 rfl) (by decide) e2 E_a (argsL := []) (rest := []) (rm_sl l Z a0 hw a _ (Int32.ofNat bs.length) E_a F_n) (by rw [hml]; rfl) (lenOf pd_1 rfl) rfl (hb hby d27_10) (by decide) (by decide) (by decide) (by decide) ?_
  intro r3 T3 L3 q3 X3
  obtain ⟨rfl, rfl, e3⟩ := q3
  rw [List.append_nil] at X3
  show Go p e below _ T3 (mkF m 13 #[.val (.ref x), .val (.ref a), .val .null, .val (.ref t), .unset] [(.int (Int32.ofNat bs.length))])
  refine Go.s_istore X3 hx (hb hby d27_13) (q := 15) rfl (l' := #[.val (.ref x), .val (.ref a), .val .null, .val (.ref t), .val (.int (Int32.ofNat bs.length))]) rfl ?_
  refine Go.s_aloadN X3 hx (hb hby d27_15) (q := 16) rfl rfl rfl ?_
  refine Go.callV (y := mn_23) (z := mn_23) X3 hx hZ hown (w_ hw 176 rfl) (w_ hw 140 rfl) (notFace_of_selects (args := #[]) (mvT hZ (w_ hw 142 rfl))) (w_ hw 142 rfl) (w_ hw 141 rfl) (w_ hw 143 rfl) (w_ hw 37 rfl) (by decide) e3 E_a (argsL := []) (rest := []) (rm_ail l Z a0 hw a _ zc CS hzc F_c) (by rw [hml]; rfl) (lenOf pd_4 rfl) rfl (hb hby d27_16) (by decide) (by decide) (by decide) (by decide) ?_
  intro r4 T4 L4 q4 X4
  obtain ⟨rfl, rfl, e4⟩ := q4
  rw [List.append_nil] at X4
  show Go p e below _ T4 (mkF m 19 #[.val (.ref x), .val (.ref a), .val .null, .val (.ref t), .val (.int (Int32.ofNat bs.length))] [(.int (1 : Int32))])
  refine Go.s_ifNo X4 hx (hb hby d27_19) (q := 22) rfl ((if0 _ _).trans (feq (by decide : ¬ ((1 : Int32) = (0 : Int32)))).1) ?_
  refine Go.s_aloadN X4 hx (hb hby d27_22) (q := 23) rfl rfl rfl ?_
  refine Go.s_iconst X4 hx (hb hby d27_23) (q := 24) rfl (z := 0) rfl ?_
  refine Go.putF X4 hx hZ hown (w_ hw 75 rfl) Via.refl e4 F_xc E_x (Or.inr ⟨(w_ hw 50 rfl), rfl, hnm⟩) (w_ hw 48 rfl) (ty := .byte) (by decide) (by decide) (by decide) (hb hby d27_24) ?_
  intro T5 h5 X5 e5 W5
  have N5 := Fr.snoc X5 (Fr.nil n0) g_x
  have E_a_v6 := E_a.wr W5
  have F_v_v7 := F_v.other W5 (Or.inl ne_ax)
  have F_c_v8 := F_c.other W5 (Or.inl ne_ax)
  have F_n_v9 := F_n.other W5 (Or.inl ne_ax)
  have V_t_v10 := V_t.other W5 ne_tx
  have CS_v11 := CS.wr W5
  have E_x_v12 := E_x.wr W5
  have F_xv_v13 := F_xv.other W5 (Or.inr (slot_ne (Or.inr (w_ hw 49 rfl)) (Or.inr (w_ hw 50 rfl)) (by decide) (t := (.array .byte)) (t' := .byte) (by decide) (by decide)))
  have fact_K_v14 := (Keep.refl h0 [x]).wr W5 (Or.inl (by simp))
  have Z0_v15 := Nat.le_trans Z0 (Keep.of_wr W5).1
  have F_coder_5 := F_xc.same W5
  show Go p e below _ T5 (mkF m 27 #[.val (.ref x), .val (.ref a), .val .null, .val (.ref t), .val (.int (Int32.ofNat bs.length))] [])
  refine Go.s_aloadN X5 hx (hb hby d27_27) (q := 28) rfl rfl rfl ?_
  refine Go.s_aloadN X5 hx (hb hby d27_28) (q := 29) rfl rfl rfl ?_
  refine Go.s_iconst X5 hx (hb hby d27_29) (q := 30) rfl (z := 0) rfl ?_
  refine Go.s_iload X5 hx (hb hby d27_30) (q := 32) rfl rfl ?_
  refine Go.callS (y := mn_31) X5 hx hZ hown (w_ hw 177 rfl) (w_ hw 178 rfl) (w_ hw 100 rfl) (w_ hw 179 rfl) (by decide) e5 (argsL := [(.ref t), (.int (0 : Int32)), (.int (Int32.ofNat bs.length))]) (rest := [(.ref x)]) (rm_cor l Z a0 hw t (Int32.ofNat bs.length) _ kb z bs n0 Z0_v15 V_t_v10 (ofn_i (by omega)) (by rw [ofn_i (by omega)]; exact hltz) hb1) (by rw [hml]; rfl) (lenOf pd_29 rfl) rfl (hb hby d27_32) (by first | decide | exact Nat.le_of_ble_eq_true rfl) (by first | decide | exact Nat.le_of_ble_eq_true rfl) (by first | decide | exact Nat.le_of_ble_eq_true rfl) (by first | decide | exact Nat.le_of_ble_eq_true rfl) ?_
  intro r16 T16 L16 q16 X16
  obtain ⟨r16a, k16a, rfl, N16, K16, s16, V16⟩ := q16
  have E_x1 := E_x_v12.keep K16
  have F_xv1 := F_xv_v13.keep K16 nin0
  have F_xc1 := F_coder_5.keep K16 nin0
  have K1 := Keep.trans fact_K_v14 K16 all0
  have ne_r := Ne.symm (Exa.neArv E_x1 V16 (w_ hw 48 rfl))
  show Go p e below _ T16 (mkF m 35 #[.val (.ref x), .val (.ref a), .val .null, .val (.ref t), .val (.int (Int32.ofNat bs.length))] [(.ref r16a), (.ref x)])
  refine Go.putF X16 hx hZ hown (w_ hw 68 rfl) Via.refl rfl F_xv1 E_x1 (Or.inr ⟨(w_ hw 49 rfl), rfl, hnm⟩) (w_ hw 48 rfl) (ty := (.array .byte)) (by decide) rfl rfl (hb hby d27_35) ?_
  intro T17 h17 X17 e17 W17
  have N17 := Fr.snoc X17 (Fr.app N5 N16) g_x
  have E_x1_v18 := E_x1.wr W17
  have F_xc1_v19 := F_xc1.other W17 (Or.inr (slot_ne (Or.inr (w_ hw 50 rfl)) (Or.inr (w_ hw 49 rfl)) (by decide) (t := .byte) (t' := (.array .byte)) (by decide) (by decide)))
  have V16_v20 := V16.other W17 ne_r
  have K1_v21 := K1.wr W17 (Or.inl (by simp))
  have F_value_x_v22 := F_xv1.same W17
  show Go p e below _ T17 (mkF m 38 #[.val (.ref x), .val (.ref a), .val .null, .val (.ref t), .val (.int (Int32.ofNat bs.length))] [])
  refine Go.s_goto X17 hx (hb hby d27_38) (q := 97) (by decide) (by decide) ?_
  refine Go.retV X17 hx hlk hret (hb hby d27_97) (by decide) (by decide) ?_
  try rw [e17]
  have hV := V16_v20
  rw [hcs, List.length_map] at hV
  have hcl : cs.length ≤ 4000 := by have := congrArg List.length hcs; rw [List.length_map] at this; omega
  exact ⟨rfl, N17, K1_v21, ⟨r16a, _, E_x1_v18, F_value_x_v22, F_xc1_v19, hV, hch, hcl, E_x1_v18.lt, hV.lt⟩⟩
theorem ef_sis (m : MethodId) (x0 : Addr) (x1 : Addr) : entryFrame m #[(.ref x0), (.ref x1)] 2 = mkF m 0 #[.val (.ref x0), .val (.ref x1)] [] := by first | (simp [entryFrame, mkF, argsToLocals, Value.category]; done) | rfl
set_option maxRecDepth 65536 in
set_option maxHeartbeats 40000000 in
theorem rm_sis (l : Launch) (Z : State) (a0 : Array Value) (hw : ∀ d ∈ tables_1, d.before a0 Z = true) (x : Addr) (a : Addr) (h0 : Heap) (zc : Int32) (CS : Sta Z h0 "java/lang/String" "COMPACT_STRINGS" "Z" (.int zc)) (hzc : ¬ zc = 0) (t : Addr) (kb : ClassId) (z : Int32) (bs : List Int32) (n0 : Nat) (E_a : Exa Z h0 a "java/lang/StringBuilder") (F_v : Fld Z h0 a "java/lang/AbstractStringBuilder" "value" "[B" (.ref t)) (F_c : Fld Z h0 a "java/lang/AbstractStringBuilder" "coder" "B" (.int (0 : Int32))) (F_n : Fld Z h0 a "java/lang/AbstractStringBuilder" "count" "I" (.int (Int32.ofNat bs.length))) (V_t : Arv Z h0 t kb .byte z (bs.map Value.int) (.int 0)) (g_a : n0 ≤ a) (g_t : n0 ≤ t) (Z0 : n0 ≤ h0.size) (cs : List Int32) (hcs : bs = cs.map (fun c => c.toInt8.toInt32)) (hch : chs cs) (hb1 : bs.length ≤ 100) (hltz : (bs.length : Int) < z.toInt) (E_x : Exa Z h0 x "java/lang/String") (v0 c0 : Value) (F_xv : Fld Z h0 x "java/lang/String" "value" "[B" v0) (F_xc : Fld Z h0 x "java/lang/String" "coder" "B" c0) (g_x : n0 ≤ x) :
    Ct l mn_26 jdk_42_method_53_code 2 none ({ frames := 4, cells := 1, slots := 100, locals := 98 } : Room) Z h0 #[(.ref x), (.ref a)] (fun v h L => v = none ∧ Fr n0 L ∧ Keep h0 h [x] ∧ Str Z h h.size x cs) := by
  refine Ct.body (plainFor_of_name pn_java_lang_String) ?_
  intro p e s m below meth c T0 hx hby hml hown hnm hret hlk hZ X0 e0
  have ne_ta : t ≠ a := Ne.symm (Exa.neArv E_a V_t (w_ hw 28 rfl))
  have ne_ax : a ≠ x := Exa.ne E_a E_x (by decide)
  have ne_tx : t ≠ x := Ne.symm (Exa.neArv E_x V_t (w_ hw 48 rfl))
  refine Go.cast (ef_sis m x a) ?_
  show Go p e below _ T0 (mkF m 0 #[.val (.ref x), .val (.ref a)] [])
  refine Go.s_aloadN X0 hx (hb hby d26_0) (q := 1) rfl rfl rfl ?_
  refine Go.s_aloadN X0 hx (hb hby d26_1) (q := 2) rfl rfl rfl ?_
  refine Go.s_aconst_null X0 hx (hb hby d26_2) (q := 3) rfl ?_
  refine Go.callC (y := mn_27) X0 hx hZ rfl hown (w_ hw 159 rfl) (w_ hw 160 rfl) (w_ hw 161 rfl) (w_ hw 41 rfl) (by decide) e0 (b := x) (argsL := [(.ref a), .null]) (rest := []) (rm_sia l Z a0 hw x a _ zc CS hzc t kb z bs n0 E_a F_v F_c F_n V_t g_a g_t Z0 cs hcs hch hb1 hltz E_x v0 c0 F_xv F_xc g_x) (by rw [hml]; rfl) (lenOf pd_17 rfl) rfl (hb hby d26_3) (by decide) (by decide) (by decide) (by decide) ?_
  intro r1 T1 L1 q1 X1
  obtain ⟨rfl, N1, R1⟩ := q1
  show Go p e below _ T1 (mkF m 6 #[.val (.ref x), .val (.ref a)] [])
  refine Go.retV X1 hx hlk hret (hb hby d26_6) (by decide) (by decide) ?_
  exact ⟨rfl, Fr.app (Fr.nil _) N1, R1⟩
theorem ef_sts (m : MethodId) (x0 : Addr) : entryFrame m #[(.ref x0)] 1 = mkF m 0 #[.val (.ref x0)] [] := by first | (simp [entryFrame, mkF, argsToLocals, Value.category]; done) | rfl
set_option maxRecDepth 65536 in
set_option maxHeartbeats 40000000 in
theorem rm_sts (l : Launch) (Z : State) (a0 : Array Value) (hw : ∀ d ∈ tables_1, d.before a0 Z = true) (a : Addr) (h0 : Heap) (zc : Int32) (CS : Sta Z h0 "java/lang/String" "COMPACT_STRINGS" "Z" (.int zc)) (hzc : ¬ zc = 0) (t : Addr) (kb : ClassId) (z : Int32) (bs : List Int32) (n0 : Nat) (E_a : Exa Z h0 a "java/lang/StringBuilder") (F_v : Fld Z h0 a "java/lang/AbstractStringBuilder" "value" "[B" (.ref t)) (F_c : Fld Z h0 a "java/lang/AbstractStringBuilder" "coder" "B" (.int (0 : Int32))) (F_n : Fld Z h0 a "java/lang/AbstractStringBuilder" "count" "I" (.int (Int32.ofNat bs.length))) (V_t : Arv Z h0 t kb .byte z (bs.map Value.int) (.int 0)) (g_a : n0 ≤ a) (g_t : n0 ≤ t) (Z0 : n0 ≤ h0.size) (cs : List Int32) (hcs : bs = cs.map (fun c => c.toInt8.toInt32)) (hch : chs cs) (hb1 : bs.length ≤ 100) (hltz : (bs.length : Int) < z.toInt) :
    Ct l mn_25 jdk_67_method_42_code 1 (some (.object "java/lang/String")) ({ frames := 5, cells := 2, slots := 104, locals := 116 } : Room) Z h0 #[(.ref a)] (fun v h L => ∃ r, v = some (.ref r) ∧ Fr n0 L ∧ Keep h0 h [] ∧ h0.size ≤ r ∧ Str Z h h.size r cs) := by
  refine Ct.body (plainFor_of_name pn_java_lang_StringBuilder) ?_
  intro p e s m below meth c T0 hx hby hml hown hnm hret hlk hZ X0 e0
  have ne_ta : t ≠ a := Ne.symm (Exa.neArv E_a V_t (w_ hw 28 rfl))
  refine Go.cast (ef_sts m a) ?_
  show Go p e below _ T0 (mkF m 0 #[.val (.ref a)] [])
  refine Go.newO X0 hx hZ hown (w_ hw 154 rfl) (w_ hw 48 rfl) (w_ hw 41 rfl) e0 (hb hby d25_0) (by decide) (by decide) ?_
  intro T1 h1 b1 g1 X1 e1 E1 A1 D1
  have ne_a_b1 : a ≠ b1 := Nat.ne_of_lt (g1 ▸ E_a.lt)
  have ne_t_b1 : t ≠ b1 := Nat.ne_of_lt (g1 ▸ V_t.lt)
  have g_b1 : n0 ≤ b1 := g1 ▸ Z0
  have sz_b1 : h0.size ≤ b1 := g1 ▸ (Keep.refl h0 []).1
  have E_a_v2 := E_a.ext E1
  have F_v_v3 := F_v.ext E1
  have F_c_v4 := F_c.ext E1
  have F_n_v5 := F_n.ext E1
  have V_t_v6 := V_t.ext E1
  have CS_v7 := CS.ext E1
  have fact_K_v8 := (Keep.refl h0 []).ext E1
  have Z0_v9 := Nat.le_trans Z0 E1.1
  have F_value_b1 : Fld Z h1 b1 "java/lang/String" "value" "[B" .null := D1 (Or.inr (w_ hw 49 rfl)) (ty := (.array .byte)) (by decide)
  have F_coder_b1 : Fld Z h1 b1 "java/lang/String" "coder" "B" (.int (0 : Int32)) := D1 (Or.inr (w_ hw 50 rfl)) (ty := .byte) (by decide)
  show Go p e below _ T1 (mkF m 3 #[.val (.ref a)] [(.ref b1)])
  refine Go.s_dup X1 hx (hb hby d25_3) (q := 4) rfl rfl ?_
  refine Go.s_aloadN X1 hx (hb hby d25_4) (q := 5) rfl rfl rfl ?_
  refine Go.callC (y := mn_26) X1 hx hZ rfl hown (w_ hw 155 rfl) (w_ hw 156 rfl) (w_ hw 158 rfl) (w_ hw 41 rfl) (by decide) e1 (b := b1) (argsL := [(.ref a)]) (rest := [(.ref b1)]) (rm_sis l Z a0 hw b1 a _ zc CS_v7 hzc t kb z bs n0 E_a_v2 F_v_v3 F_c_v4 F_n_v5 V_t_v6 g_a g_t Z0_v9 cs hcs hch hb1 hltz A1 _ _ F_value_b1 F_coder_b1 g_b1) (by rw [hml]; rfl) (lenOf pd_25 rfl) rfl (hb hby d25_5) (by first | decide | exact Nat.le_of_ble_eq_true rfl) (by first | decide | exact Nat.le_of_ble_eq_true rfl) (by first | decide | exact Nat.le_of_ble_eq_true rfl) (by first | decide | exact Nat.le_of_ble_eq_true rfl) ?_
  intro r10 T10 L10 q10 X10
  obtain ⟨rfl, N10, K10, S10⟩ := q10
  have Kf := Keep.trans fact_K_v8 K10 (allS (Or.inr sz_b1) all0)
  show Go p e below _ T10 (mkF m 8 #[.val (.ref a)] [(.ref b1)])
  refine Go.retA X10 hx hlk hret rfl rfl (hb hby d25_8) (by decide) (by decide) ?_
  exact ⟨_, rfl, Fr.app (Fr.nil _) N10, Kf, sz_b1, S10⟩
theorem ef_pin (m : MethodId) (x0 : Addr) (x1 : Int32) : entryFrame m #[(.ref x0), (.int x1)] 2 = mkF m 0 #[.val (.ref x0), .val (.int x1)] [] := by first | (simp [entryFrame, mkF, argsToLocals, Value.category]; done) | rfl
set_option maxRecDepth 65536 in
set_option maxHeartbeats 40000000 in
theorem rm_pin (l : Launch) (Z : State) (a0 : Array Value) (hw : ∀ d ∈ tables_1, d.before a0 Z = true) (a : Addr) (x1 : Int32) (h0 : Heap) (n0 : Nat) (u : Value) (E_a : Exa Z h0 a "com/example/irama/irama/Prefilter") (F_a : Fld Z h0 a "com/example/irama/irama/Prefilter" "instances" "I" u) (g_a : n0 ≤ a) (hx1 : ¬ (x1 < (1 : Int32))) :
    Ct l mn_2 prog_4_method_1_code 2 none ({ frames := 1, cells := 0, slots := 0, locals := 12 } : Room) Z h0 #[(.ref a), (.int x1)] (fun v h L => v = none ∧ Fr n0 L ∧ Keep h0 h [a] ∧ Exa Z h a "com/example/irama/irama/Prefilter" ∧ Fld Z h a "com/example/irama/irama/Prefilter" "instances" "I" (.int x1)) := by
  refine Ct.body (plainFor_of_name pn_com_example_irama_irama_Prefilter) ?_
  intro p e s m below meth c T0 hx hby hml hown hnm hret hlk hZ X0 e0
  refine Go.cast (ef_pin m a x1) ?_
  show Go p e below _ T0 (mkF m 0 #[.val (.ref a), .val (.int x1)] [])
  refine Go.s_aloadN X0 hx (hb hby d2_0) (q := 1) rfl rfl rfl ?_
  refine Go.initO X0 hx hZ hown (w_ hw 17 rfl) (w_ hw 18 rfl) (w_ hw 19 rfl) e0 (by rw [hml]; rfl) (hb hby d2_1) (by decide) (by decide) ?_
  intro T1 X1 e1
  show Go p e below _ T1 (mkF m 4 #[.val (.ref a), .val (.int x1)] [])
  refine Go.s_iloadN X1 hx (hb hby d2_4) (q := 5) rfl rfl ?_
  refine Go.s_iconst X1 hx (hb hby d2_5) (q := 6) rfl (z := 1) rfl ?_
  refine Go.s_icmpYes X1 hx (hb hby d2_6) (q := 36) (by decide) (by decide) (flt hx1).2.1 ?_
  refine Go.s_aloadN X1 hx (hb hby d2_36) (q := 37) rfl rfl rfl ?_
  refine Go.s_iloadN X1 hx (hb hby d2_37) (q := 38) rfl rfl ?_
  refine Go.putF X1 hx hZ hown (w_ hw 20 rfl) Via.refl e1 F_a E_a (Or.inr ⟨(w_ hw 21 rfl), rfl, hnm⟩) (w_ hw 12 rfl) (ty := .int) (by decide) rfl rfl (hb hby d2_38) ?_
  intro T2 h2 X2 e2 W2
  have N2 := Fr.snoc X2 (Fr.nil n0) g_a
  have E_a_v3 := E_a.wr W2
  have fact_K_v4 := (Keep.refl h0 [a]).wr W2 (Or.inl (by simp))
  have F_instances_a_v5 := F_a.same W2
  show Go p e below _ T2 (mkF m 41 #[.val (.ref a), .val (.int x1)] [])
  refine Go.retV X2 hx hlk hret (hb hby d2_41) (by decide) (by decide) ?_
  try rw [e2]
  exact ⟨rfl, N2, fact_K_v4, E_a_v3, F_instances_a_v5⟩
theorem ef_tos (m : MethodId) (x0 : Addr) : entryFrame m #[(.ref x0)] 1 = mkF m 0 #[.val (.ref x0)] [] := by first | (simp [entryFrame, mkF, argsToLocals, Value.category]; done) | rfl
set_option maxRecDepth 65536 in
set_option maxHeartbeats 40000000 in
theorem rm_tos (l : Launch) (Z : State) (a0 : Array Value) (hw : ∀ d ∈ tables_1, d.before a0 Z = true) (pr : Addr) (h0 : Heap) (hEL : EW Z a0 consts_1) (n0 : Nat) (Z0 : n0 ≤ h0.size) (O0 : Old Z n0 h0) (zc : Int32) (CS : Sta Z Z.heap "java/lang/String" "COMPACT_STRINGS" "Z" (.int zc)) (hzc : ¬ zc = 0) (dO dT : Addr) (kO kT : ClassId) (SO : Sta Z Z.heap "java/lang/Integer" "DigitOnes" "[B" (.ref dO)) (VO : Arv Z Z.heap dO kO .byte (100 : Int32) (ones.map Value.int) (.int 0)) (SX : Sta Z Z.heap "java/lang/Integer" "DigitTens" "[B" (.ref dT)) (VT : Arv Z Z.heap dT kT .byte (100 : Int32) (tens.map Value.int) (.int 0)) (x : Int32) (E_pr : Exa Z h0 pr "com/example/irama/irama/Prefilter") (F_pr : Fld Z h0 pr "com/example/irama/irama/Prefilter" "instances" "I" (.int x)) (ee mm : Nat) (hmm : x.toInt = (mm : Int)) (he : 1 ≤ ee) (he' : ee ≤ 10) (hlo : 10 ^ (ee - 1) ≤ mm) (hhi : mm < 10 ^ ee) :
    CtW l mn_4 prog_4_method_6_code 1 (some (.object "java/lang/String")) ({ frames := 7, cells := 13, slots := 1700, locals := 164 } : Room) Z consts_1 [] h0 #[(.ref pr)] (fun v h L => ∃ r, v = some (.ref r) ∧ Fr n0 L ∧ Keep h0 h [] ∧ h0.size ≤ r ∧ Str Z h h.size r (tx0 ++ digs ee mm ++ sfx x)) := by
  refine CtW.body (plainFor_of_name pn_com_example_irama_irama_Prefilter) ?_
  intro p e s m below meth c T0 hx hby hml hown hnm hret hlk hZ hW hsf X0 e0
  refine Go.cast (ef_tos m pr) ?_
  show Go p e below _ T0 (mkF m 0 #[.val (.ref pr)] [])
  refine Go.newO X0 hx hZ hown (w_ hw 27 rfl) (w_ hw 28 rfl) (w_ hw 29 rfl) e0 (hb hby d4_0) (by decide) (by decide) ?_
  intro T1 h1 b1 g1 X1 e1 E1 A1 D1
  have ne_pr_b1 : pr ≠ b1 := Nat.ne_of_lt (g1 ▸ E_pr.lt)
  have g_b1 : n0 ≤ b1 := g1 ▸ Z0
  have sz_b1 : h0.size ≤ b1 := g1 ▸ (Keep.refl h0 []).1
  have E_pr_v2 := E_pr.ext E1
  have F_pr_v3 := F_pr.ext E1
  have hW_v4 := hW.ext E1
  have O0_v5 := Old.ext O0 E1
  have Z0_v6 := Nat.le_trans Z0 E1.1
  have fact_K_v7 := (Keep.refl h0 []).ext E1
  have F_value_b1 : Fld Z h1 b1 "java/lang/AbstractStringBuilder" "value" "[B" .null := D1 (Or.inl (w_ hw 44 rfl)) (ty := (.array .byte)) (by decide)
  have F_coder_b1 : Fld Z h1 b1 "java/lang/AbstractStringBuilder" "coder" "B" (.int (0 : Int32)) := D1 (Or.inl (w_ hw 46 rfl)) (ty := .byte) (by decide)
  have F_count_b1 : Fld Z h1 b1 "java/lang/AbstractStringBuilder" "count" "I" (.int (0 : Int32)) := D1 (Or.inl (w_ hw 77 rfl)) (ty := .int) (by decide)
  show Go p e below _ T1 (mkF m 3 #[.val (.ref pr)] [(.ref b1)])
  refine Go.s_dup X1 hx (hb hby d4_3) (q := 4) rfl rfl ?_
  refine Go.callC (y := mn_5) X1 hx hZ rfl hown (w_ hw 30 rfl) (w_ hw 31 rfl) (w_ hw 32 rfl) (w_ hw 29 rfl) (by decide) e1 (b := b1) (argsL := []) (rest := [(.ref b1)]) (rm_si l Z a0 hw b1 _ zc (CS.ext O0_v5.2) hzc n0 Z0_v6 A1 _ _ F_value_b1 F_coder_b1 F_count_b1 g_b1) (by rw [hml]; rfl) (lenOf pd_3 rfl) rfl (hb hby d4_4) (by first | decide | exact Nat.le_of_ble_eq_true rfl) (by first | decide | exact Nat.le_of_ble_eq_true rfl) (by first | decide | exact Nat.le_of_ble_eq_true rfl) (by first | decide | exact Nat.le_of_ble_eq_true rfl) ?_
  intro r8 T8 L8 q8 X8
  obtain ⟨rfl, Nq8, K8, t8, kb8, ht8, Eb8, Fv8, Fc8, Fn8, Vt8⟩ := q8
  have N8 := Fr.app (Fr.nil n0) Nq8
  have hW8k := hW_v4.keep K8 (sfS (Safe.exa hZ.alike A1 (by decide) (by decide)) sf0)
  have sf8 := Safe.keep K8 (sfS (Safe.exa hZ.alike A1 (by decide) (by decide)) sf0) hW_v4.2.1 (Safe.new ht8)
  have O8 := Old.keep O0_v5 K8 (allS g_b1 all0)
  have Kk8 := Keep.trans fact_K_v7 K8 (allS (Or.inr sz_b1) all0)
  have Zk8 := Nat.le_trans Z0_v6 K8.1
  have sz8 : h0.size ≤ t8 := Nat.le_trans fact_K_v7.1 ht8
  have g8t : n0 ≤ t8 := Nat.le_trans Z0 sz8
  have Fp8 := F_pr_v3.keep K8 (ninS (Exa.ne E_pr_v2 A1 (by decide)) nin0)
  have Ep8 := E_pr_v2.keep K8
  refine Go.ldcW (cs := tx0) X8 hx hZ hown (w_ hw 47 rfl) (w_str hw) rfl hEL (by decide) hW8k ht0 hc0 (by decide) (hb hby d4_7) (by decide) (by decide) ?_
  intro T9 h9 b9 X9 e9 E9 hZ hown S9 hW9 R9
  have sf9 := R9.safe Vt8.lt sf8
  have Ep8_v10 := Ep8.ext E9
  have Fp8_v11 := Fp8.ext E9
  have Eb8_v12 := Eb8.ext E9
  have Fv8_v13 := Fv8.ext E9
  have Fc8_v14 := Fc8.ext E9
  have Fn8_v15 := Fn8.ext E9
  have Vt8_v16 := Vt8.ext E9
  have O8_v17 := Old.ext O8 E9
  have Kk8_v18 := Kk8.ext E9
  have Zk8_v19 := Nat.le_trans Zk8 E9.1
  show Go p e below _ T9 (mkF m 9 #[.val (.ref pr)] [(.ref b9), (.ref b1)])
  refine Go.callV (y := mn_7) (z := mn_7) X9 hx hZ hown (w_ hw 53 rfl) (w_ hw 54 rfl) (notFace_of_selects (args := #[]) (mvT hZ (w_ hw 56 rfl))) (w_ hw 56 rfl) (w_ hw 55 rfl) (w_ hw 57 rfl) (w_ hw 29 rfl) (by decide) e9 Eb8_v12 (argsL := [(.ref b9)]) (rest := []) (rm_sas l Z a0 hw b1 b9 _ zc (CS.ext O8_v17.2) hzc t8 kb8 (16 : Int32) [] n0 Eb8_v12 Fv8_v13 Fc8_v14 Fn8_v15 Vt8_v16 g_b1 g8t Zk8_v19 (by decide) (by decide) (by decide) _ tx0 S9 (by decide) (by decide)) (by rw [hml]; rfl) (lenOf pd_20 rfl) rfl (hb hby d4_9) (by decide) (by decide) (by decide) (by decide) ?_
  intro r20 T20 L20 q20 X20
  obtain ⟨rfl, Nq20, K20, t20, kb20, z20, -, ht20, Eb20, Fv20, Fc20, Fn20, Vt20, cR20⟩ := q20
  have N20 := Fr.app N8 Nq20
  have hW20k := hW9.keep K20 (sfS (Safe.exa hZ.alike Eb8_v12 (by decide) (by decide)) (sfS sf9 sf0))
  have sf20 := Safe.grow K20 (sfS (Safe.exa hZ.alike Eb8_v12 (by decide) (by decide)) (sfS sf9 sf0)) hW9.2.1 sf9 ht20
  have O20 := Old.keep O8_v17 K20 (allS g_b1 (allS g8t all0))
  have Kk20 := Keep.trans Kk8_v18 K20 (allS (Or.inr sz_b1) (allS (Or.inr sz8) all0))
  have Zk20 := Nat.le_trans Zk8_v19 K20.1
  have sz20 : h0.size ≤ t20 := ht20.elim (fun q => by rw [q]; exact sz8) (fun q => Nat.le_trans Kk8_v18.1 q)
  have g20t : n0 ≤ t20 := Nat.le_trans Z0 sz20
  have Fp20 := Fp8_v11.keep K20 (ninS (Exa.ne Ep8_v10 Eb8_v12 (by decide)) (ninS (Exa.neArv Ep8_v10 Vt8_v16 (w_ hw 12 rfl)) nin0))
  have Ep20 := Ep8_v10.keep K20
  have cz1 := cap1 cR20
  show Go p e below _ T20 (mkF m 12 #[.val (.ref pr)] [(.ref b1)])
  refine Go.s_aloadN X20 hx (hb hby d4_12) (q := 13) rfl rfl rfl ?_
  refine Go.getF X20 hx hZ hown (w_ hw 20 rfl) Via.refl rfl Fp20 (hb hby d4_13) ?_
  intro T21 X21 e21
  show Go p e below _ T21 (mkF m 16 #[.val (.ref pr)] [(.int x), (.ref b1)])
  refine Go.callV (y := mn_20) (z := mn_20) X21 hx hZ hown (w_ hw 126 rfl) (w_ hw 127 rfl) (notFace_of_selects (args := #[]) (mvT hZ (w_ hw 129 rfl))) (w_ hw 129 rfl) (w_ hw 128 rfl) (w_ hw 130 rfl) (w_ hw 29 rfl) (by decide) e21 Eb20 (argsL := [(.int x)]) (rest := []) (rm_sai l Z a0 hw b1 x _ zc (CS.ext O20.2) hzc t20 kb20 z20 ([] ++ tx0.map (fun c => c.toInt8.toInt32)) n0 Eb20 Fv20 Fc20 Fn20 Vt20 g_b1 g20t Zk20 cz1.1 cz1.2.1 cz1.2.2.1 (by decide) dO dT kO kT SO VO SX VT O20 ee mm hmm he he' hlo hhi) (by rw [hml]; rfl) (lenOf pd_9 rfl) rfl (hb hby d4_16) (by decide) (by decide) (by decide) (by decide) ?_
  intro r22 T22 L22 q22 X22
  obtain ⟨rfl, Nq22, K22, t22, kb22, z22, -, ht22, Eb22, Fv22, Fc22, Fn22, Vt22, cR22⟩ := q22
  have N22 := Fr.app N20 Nq22
  have hW22k := hW20k.keep K22 (sfS (Safe.exa hZ.alike Eb20 (by decide) (by decide)) (sfS sf20 sf0))
  have sf22 := Safe.grow K22 (sfS (Safe.exa hZ.alike Eb20 (by decide) (by decide)) (sfS sf20 sf0)) hW20k.2.1 sf20 ht22
  have O22 := Old.keep O20 K22 (allS g_b1 (allS g20t all0))
  have Kk22 := Keep.trans Kk20 K22 (allS (Or.inr sz_b1) (allS (Or.inr sz20) all0))
  have Zk22 := Nat.le_trans Zk20 K22.1
  have sz22 : h0.size ≤ t22 := ht22.elim (fun q => by rw [q]; exact sz20) (fun q => Nat.le_trans Kk20.1 q)
  have g22t : n0 ≤ t22 := Nat.le_trans Z0 sz22
  have Fp22 := Fp20.keep K22 (ninS (Exa.ne Ep20 Eb20 (by decide)) (ninS (Exa.neArv Ep20 Vt20 (w_ hw 12 rfl)) nin0))
  have Ep22 := Ep20.keep K22
  have cz2 := cap2 (mm := mm) cz1 cR22 he'
  show Go p e below _ T22 (mkF m 19 #[.val (.ref pr)] [(.ref b1)])
  refine Go.s_aloadN X22 hx (hb hby d4_19) (q := 20) rfl rfl rfl ?_
  refine Go.getF X22 hx hZ hown (w_ hw 20 rfl) Via.refl rfl Fp22 (hb hby d4_20) ?_
  intro T23 X23 e23
  show Go p e below _ T23 (mkF m 23 #[.val (.ref pr)] [(.int x), (.ref b1)])
  refine Go.s_iconst X23 hx (hb hby d4_23) (q := 24) rfl (z := 1) rfl ?_
  by_cases c24_24 : x = (1 : Int32)
  · -- pc 24: x = (1 : Int32)
    refine Go.s_icmpNo X23 hx (hb hby d4_24) (q := 27) rfl (teq c24_24).2 ?_
    refine Go.ldcW (cs := tx1) X23 hx hZ hown (w_ hw 148 rfl) (w_str hw) e23 hEL (by decide) hW22k ht1 hc1 (by decide) (hb hby d4_27) (by decide) (by decide) ?_
    intro T25 h25 b25 X25 e25 E25 hZ hown S25 hW25 R25
    have sf25 := R25.safe Vt22.lt sf22
    have Ep22_v26 := Ep22.ext E25
    have Fp22_v27 := Fp22.ext E25
    have Eb22_v28 := Eb22.ext E25
    have Fv22_v29 := Fv22.ext E25
    have Fc22_v30 := Fc22.ext E25
    have Fn22_v31 := Fn22.ext E25
    have Vt22_v32 := Vt22.ext E25
    have O22_v33 := Old.ext O22 E25
    have Kk22_v34 := Kk22.ext E25
    have Zk22_v35 := Nat.le_trans Zk22 E25.1
    show Go p e below _ T25 (mkF m 29 #[.val (.ref pr)] [(.ref b25), (.ref b1)])
    refine Go.s_goto X25 hx (hb hby d4_29) (q := 34) (by decide) (by decide) ?_
    refine Go.callV (y := mn_7) (z := mn_7) X25 hx hZ hown (w_ hw 53 rfl) (w_ hw 54 rfl) (notFace_of_selects (args := #[]) (mvT hZ (w_ hw 56 rfl))) (w_ hw 56 rfl) (w_ hw 55 rfl) (w_ hw 57 rfl) (w_ hw 29 rfl) (by decide) e25 Eb22_v28 (argsL := [(.ref b25)]) (rest := []) (rm_sas l Z a0 hw b1 b25 _ zc (CS.ext O22_v33.2) hzc t22 kb22 z22 (([] ++ tx0.map (fun c => c.toInt8.toInt32)) ++ digs ee mm) n0 Eb22_v28 Fv22_v29 Fc22_v30 Fn22_v31 Vt22_v32 g_b1 g22t Zk22_v35 cz2.1 cz2.2.1 cz2.2.2.1 _ tx1 S25 (b2_le he') (by decide)) (by rw [hml]; rfl) (lenOf pd_20 rfl) rfl (hb hby d4_34) (by decide) (by decide) (by decide) (by decide) ?_
    intro r36 T36 L36 q36 X36
    obtain ⟨rfl, Nq36, K36, t36, kb36, z36, -, ht36, Eb36, Fv36, Fc36, Fn36, Vt36, cR36⟩ := q36
    have N36 := Fr.app N22 Nq36
    have hW36k := hW25.keep K36 (sfS (Safe.exa hZ.alike Eb22_v28 (by decide) (by decide)) (sfS sf25 sf0))
    have sf36 := Safe.grow K36 (sfS (Safe.exa hZ.alike Eb22_v28 (by decide) (by decide)) (sfS sf25 sf0)) hW25.2.1 sf25 ht36
    have O36 := Old.keep O22_v33 K36 (allS g_b1 (allS g22t all0))
    have Kk36 := Keep.trans Kk22_v34 K36 (allS (Or.inr sz_b1) (allS (Or.inr sz22) all0))
    have Zk36 := Nat.le_trans Zk22_v35 K36.1
    have sz36 : h0.size ≤ t36 := ht36.elim (fun q => by rw [q]; exact sz22) (fun q => Nat.le_trans Kk22_v34.1 q)
    have g36t : n0 ≤ t36 := Nat.le_trans Z0 sz36
    have Fp36 := Fp22_v27.keep K36 (ninS (Exa.ne Ep22_v26 Eb22_v28 (by decide)) (ninS (Exa.neArv Ep22_v26 Vt22_v32 (w_ hw 12 rfl)) nin0))
    have Ep36 := Ep22_v26.keep K36
    have cz3 := cap3 cz2 cR36 he he' lw1
    show Go p e below _ T36 (mkF m 37 #[.val (.ref pr)] [(.ref b1)])
    refine Go.callV (y := mn_25) (z := mn_25) X36 hx hZ hown (w_ hw 149 rfl) (w_ hw 150 rfl) (notFace_of_selects (args := #[]) (mvT hZ (w_ hw 152 rfl))) (w_ hw 152 rfl) (w_ hw 151 rfl) (w_ hw 153 rfl) (w_ hw 29 rfl) (by decide) rfl Eb36 (argsL := []) (rest := []) (rm_sts l Z a0 hw b1 _ zc (CS.ext O36.2) hzc t36 kb36 z36 ((([] ++ tx0.map (fun c => c.toInt8.toInt32)) ++ digs ee mm) ++ tx1.map (fun c => c.toInt8.toInt32)) n0 Eb36 Fv36 Fc36 Fn36 Vt36 g_b1 g36t Zk36 (tx0 ++ digs ee mm ++ tx1) (by_all ee mm tx1) (chs_all ee mm hc1) (b3_le he' lw1) cz3) (by rw [hml]; rfl) (lenOf pd_2 rfl) rfl (hb hby d4_37) (by decide) (by decide) (by decide) (by decide) ?_
    intro r37 T37 L37 q37 X37
    obtain ⟨r37a, rfl, Nq37, K37, sr37, Sr37⟩ := q37
    have N37 := Fr.app N36 Nq37
    have hW37k := hW36k.keep K37 sf0
    have Kk37 := Keep.trans Kk36 K37 all0
    show Go p e below _ T37 (mkF m 40 #[.val (.ref pr)] [(.ref r37a)])
    refine Go.retAW X37 hx hZ hEL rfl hW37k hlk hret rfl rfl (hb hby d4_40) (by decide) (by decide) ?_
    exact ⟨_, rfl, N37, Kk37, (Nat.le_trans Kk36.1 sr37), by rw [← sfx_one c24_24]; exact Sr37⟩
  · -- pc 24: not x = (1 : Int32)
    refine Go.s_icmpYes X23 hx (hb hby d4_24) (q := 32) (by decide) (by decide) (feq c24_24).2 ?_
    refine Go.ldcW (cs := tx2) X23 hx hZ hown (w_ hw 220 rfl) (w_str hw) e23 hEL (by decide) hW22k ht2 hc2 (by decide) (hb hby d4_32) (by decide) (by decide) ?_
    intro T38 h38 b38 X38 e38 E38 hZ hown S38 hW38 R38
    have sf38 := R38.safe Vt22.lt sf22
    have Ep22_v39 := Ep22.ext E38
    have Fp22_v40 := Fp22.ext E38
    have Eb22_v41 := Eb22.ext E38
    have Fv22_v42 := Fv22.ext E38
    have Fc22_v43 := Fc22.ext E38
    have Fn22_v44 := Fn22.ext E38
    have Vt22_v45 := Vt22.ext E38
    have O22_v46 := Old.ext O22 E38
    have Kk22_v47 := Kk22.ext E38
    have Zk22_v48 := Nat.le_trans Zk22 E38.1
    show Go p e below _ T38 (mkF m 34 #[.val (.ref pr)] [(.ref b38), (.ref b1)])
    refine Go.callV (y := mn_7) (z := mn_7) X38 hx hZ hown (w_ hw 53 rfl) (w_ hw 54 rfl) (notFace_of_selects (args := #[]) (mvT hZ (w_ hw 56 rfl))) (w_ hw 56 rfl) (w_ hw 55 rfl) (w_ hw 57 rfl) (w_ hw 29 rfl) (by decide) e38 Eb22_v41 (argsL := [(.ref b38)]) (rest := []) (rm_sas l Z a0 hw b1 b38 _ zc (CS.ext O22_v46.2) hzc t22 kb22 z22 (([] ++ tx0.map (fun c => c.toInt8.toInt32)) ++ digs ee mm) n0 Eb22_v41 Fv22_v42 Fc22_v43 Fn22_v44 Vt22_v45 g_b1 g22t Zk22_v48 cz2.1 cz2.2.1 cz2.2.2.1 _ tx2 S38 (b2_le he') (by decide)) (by rw [hml]; rfl) (lenOf pd_20 rfl) rfl (hb hby d4_34) (by decide) (by decide) (by decide) (by decide) ?_
    intro r49 T49 L49 q49 X49
    obtain ⟨rfl, Nq49, K49, t49, kb49, z49, -, ht49, Eb49, Fv49, Fc49, Fn49, Vt49, cR49⟩ := q49
    have N49 := Fr.app N22 Nq49
    have hW49k := hW38.keep K49 (sfS (Safe.exa hZ.alike Eb22_v41 (by decide) (by decide)) (sfS sf38 sf0))
    have sf49 := Safe.grow K49 (sfS (Safe.exa hZ.alike Eb22_v41 (by decide) (by decide)) (sfS sf38 sf0)) hW38.2.1 sf38 ht49
    have O49 := Old.keep O22_v46 K49 (allS g_b1 (allS g22t all0))
    have Kk49 := Keep.trans Kk22_v47 K49 (allS (Or.inr sz_b1) (allS (Or.inr sz22) all0))
    have Zk49 := Nat.le_trans Zk22_v48 K49.1
    have sz49 : h0.size ≤ t49 := ht49.elim (fun q => by rw [q]; exact sz22) (fun q => Nat.le_trans Kk22_v47.1 q)
    have g49t : n0 ≤ t49 := Nat.le_trans Z0 sz49
    have Fp49 := Fp22_v40.keep K49 (ninS (Exa.ne Ep22_v39 Eb22_v41 (by decide)) (ninS (Exa.neArv Ep22_v39 Vt22_v45 (w_ hw 12 rfl)) nin0))
    have Ep49 := Ep22_v39.keep K49
    have cz3 := cap3 cz2 cR49 he he' lw2
    show Go p e below _ T49 (mkF m 37 #[.val (.ref pr)] [(.ref b1)])
    refine Go.callV (y := mn_25) (z := mn_25) X49 hx hZ hown (w_ hw 149 rfl) (w_ hw 150 rfl) (notFace_of_selects (args := #[]) (mvT hZ (w_ hw 152 rfl))) (w_ hw 152 rfl) (w_ hw 151 rfl) (w_ hw 153 rfl) (w_ hw 29 rfl) (by decide) rfl Eb49 (argsL := []) (rest := []) (rm_sts l Z a0 hw b1 _ zc (CS.ext O49.2) hzc t49 kb49 z49 ((([] ++ tx0.map (fun c => c.toInt8.toInt32)) ++ digs ee mm) ++ tx2.map (fun c => c.toInt8.toInt32)) n0 Eb49 Fv49 Fc49 Fn49 Vt49 g_b1 g49t Zk49 (tx0 ++ digs ee mm ++ tx2) (by_all ee mm tx2) (chs_all ee mm hc2) (b3_le he' lw2) cz3) (by rw [hml]; rfl) (lenOf pd_2 rfl) rfl (hb hby d4_37) (by decide) (by decide) (by decide) (by decide) ?_
    intro r50 T50 L50 q50 X50
    obtain ⟨r50a, rfl, Nq50, K50, sr50, Sr50⟩ := q50
    have N50 := Fr.app N49 Nq50
    have hW50k := hW49k.keep K50 sf0
    have Kk50 := Keep.trans Kk49 K50 all0
    show Go p e below _ T50 (mkF m 40 #[.val (.ref pr)] [(.ref r50a)])
    refine Go.retAW X50 hx hZ hEL rfl hW50k hlk hret rfl rfl (hb hby d4_40) (by decide) (by decide) ?_
    exact ⟨_, rfl, N50, Kk50, (Nat.le_trans Kk49.1 sr50), by rw [← sfx_more c24_24]; exact Sr50⟩
theorem ef_dgt (m : MethodId) (x0 : Int32) : entryFrame m #[(.int x0)] 1 = mkF m 0 #[.val (.int x0)] [] := by first | (simp [entryFrame, mkF, argsToLocals, Value.category]; done) | rfl
set_option maxRecDepth 65536 in
set_option maxHeartbeats 40000000 in
theorem rm_dgt (l : Launch) (Z : State) (a0 : Array Value) (hw : ∀ d ∈ tables_1, d.before a0 Z = true) (x0 : Int32) (h0 : Heap) (mm : Nat) (hmm : x0.toInt = (mm : Int)) (hpos : 1 ≤ mm) :
    Ct l mn_1 method_6_code 1 (some .int) ({ frames := 0, cells := 0, slots := 0, locals := 0 } : Room) Z h0 #[(.int x0)] (fun v h L => ∃ r, v = some (.int r) ∧ DG x0 r ∧ L = [] ∧ h = h0) := by
  refine Ct.body (plainFor_of_name pn_com_example_irama_irama_PrefilterToStringPinLaw) ?_
  intro p e s m below meth c T0 hx hby hml hown hnm hret hlk hZ X0 e0
  refine Go.cast (ef_dgt m x0) ?_
  show Go p e below _ T0 (mkF m 0 #[.val (.int x0)] [])
  refine Go.s_iloadN X0 hx (hb hby d1_0) (q := 1) rfl rfl ?_
  refine Go.s_ldc X0 hx (hb hby d1_1) (q := 3) rfl hown (mvT hZ (w_ hw 6 rfl)) ?_
  by_cases c3_1 : x0 < (1000000000 : Int32)
  · -- pc 3: x0 < (1000000000 : Int32)
    refine Go.s_icmpYes X0 hx (hb hby d1_3) (q := 9) (by decide) (by decide) (tlt c3_1).1 ?_
    refine Go.s_iloadN X0 hx (hb hby d1_9) (q := 10) rfl rfl ?_
    refine Go.s_ldc X0 hx (hb hby d1_10) (q := 12) rfl hown (mvT hZ (w_ hw 5 rfl)) ?_
    by_cases c12_2 : x0 < (100000000 : Int32)
    · -- pc 12: x0 < (100000000 : Int32)
      refine Go.s_icmpYes X0 hx (hb hby d1_12) (q := 18) (by decide) (by decide) (tlt c12_2).1 ?_
      refine Go.s_iloadN X0 hx (hb hby d1_18) (q := 19) rfl rfl ?_
      refine Go.s_ldc X0 hx (hb hby d1_19) (q := 21) rfl hown (mvT hZ (w_ hw 4 rfl)) ?_
      by_cases c21_3 : x0 < (10000000 : Int32)
      · -- pc 21: x0 < (10000000 : Int32)
        refine Go.s_icmpYes X0 hx (hb hby d1_21) (q := 27) (by decide) (by decide) (tlt c21_3).1 ?_
        refine Go.s_iloadN X0 hx (hb hby d1_27) (q := 28) rfl rfl ?_
        refine Go.s_ldc X0 hx (hb hby d1_28) (q := 30) rfl hown (mvT hZ (w_ hw 3 rfl)) ?_
        by_cases c30_4 : x0 < (1000000 : Int32)
        · -- pc 30: x0 < (1000000 : Int32)
          refine Go.s_icmpYes X0 hx (hb hby d1_30) (q := 36) (by decide) (by decide) (tlt c30_4).1 ?_
          refine Go.s_iloadN X0 hx (hb hby d1_36) (q := 37) rfl rfl ?_
          refine Go.s_ldc X0 hx (hb hby d1_37) (q := 39) rfl hown (mvT hZ (w_ hw 2 rfl)) ?_
          by_cases c39_5 : x0 < (100000 : Int32)
          · -- pc 39: x0 < (100000 : Int32)
            refine Go.s_icmpYes X0 hx (hb hby d1_39) (q := 45) (by decide) (by decide) (tlt c39_5).1 ?_
            refine Go.s_iloadN X0 hx (hb hby d1_45) (q := 46) rfl rfl ?_
            refine Go.s_sipush X0 hx (hb hby d1_46) (q := 49) rfl (z := 10000) rfl ?_
            by_cases c49_6 : x0 < (10000 : Int32)
            · -- pc 49: x0 < (10000 : Int32)
              refine Go.s_icmpYes X0 hx (hb hby d1_49) (q := 54) (by decide) (by decide) (tlt c49_6).1 ?_
              refine Go.s_iloadN X0 hx (hb hby d1_54) (q := 55) rfl rfl ?_
              refine Go.s_sipush X0 hx (hb hby d1_55) (q := 58) rfl (z := 1000) rfl ?_
              by_cases c58_7 : x0 < (1000 : Int32)
              · -- pc 58: x0 < (1000 : Int32)
                refine Go.s_icmpYes X0 hx (hb hby d1_58) (q := 63) (by decide) (by decide) (tlt c58_7).1 ?_
                refine Go.s_iloadN X0 hx (hb hby d1_63) (q := 64) rfl rfl ?_
                refine Go.s_bipush X0 hx (hb hby d1_64) (q := 66) rfl (z := 100) rfl ?_
                by_cases c66_8 : x0 < (100 : Int32)
                · -- pc 66: x0 < (100 : Int32)
                  refine Go.s_icmpYes X0 hx (hb hby d1_66) (q := 71) (by decide) (by decide) (tlt c66_8).1 ?_
                  refine Go.s_iloadN X0 hx (hb hby d1_71) (q := 72) rfl rfl ?_
                  refine Go.s_bipush X0 hx (hb hby d1_72) (q := 74) rfl (z := 10) rfl ?_
                  by_cases c74_9 : x0 < (10 : Int32)
                  · -- pc 74: x0 < (10 : Int32)
                    refine Go.s_icmpYes X0 hx (hb hby d1_74) (q := 79) (by decide) (by decide) (tlt c74_9).1 ?_
                    refine Go.s_iconst X0 hx (hb hby d1_79) (q := 80) rfl (z := 1) rfl ?_
                    refine Go.retI X0 hx hlk hret (hb hby d1_80) (by decide) (by decide) ?_
                    try rw [e0]
                    refine ⟨_, rfl, ⟨1, mm, rfl, hmm, by decide, by decide, ?_, ?_⟩, rfl, rfl⟩
                    · show 1 ≤ mm
                      have := Int32.lt_iff_toInt_lt.mp c3_1
                      have := Int32.lt_iff_toInt_lt.mp c12_2
                      have := Int32.lt_iff_toInt_lt.mp c21_3
                      have := Int32.lt_iff_toInt_lt.mp c30_4
                      have := Int32.lt_iff_toInt_lt.mp c39_5
                      have := Int32.lt_iff_toInt_lt.mp c49_6
                      have := Int32.lt_iff_toInt_lt.mp c58_7
                      have := Int32.lt_iff_toInt_lt.mp c66_8
                      have := Int32.lt_iff_toInt_lt.mp c74_9
                      have := rng32 x0
                      have := (by decide : ((1000000000 : Int32)).toInt = 1000000000)
                      have := (by decide : ((100000000 : Int32)).toInt = 100000000)
                      have := (by decide : ((10000000 : Int32)).toInt = 10000000)
                      have := (by decide : ((1000000 : Int32)).toInt = 1000000)
                      have := (by decide : ((100000 : Int32)).toInt = 100000)
                      have := (by decide : ((10000 : Int32)).toInt = 10000)
                      have := (by decide : ((1000 : Int32)).toInt = 1000)
                      have := (by decide : ((100 : Int32)).toInt = 100)
                      have := (by decide : ((10 : Int32)).toInt = 10)
                      have := rng32 x0
                      omega
                    · show mm < 10
                      have := Int32.lt_iff_toInt_lt.mp c3_1
                      have := Int32.lt_iff_toInt_lt.mp c12_2
                      have := Int32.lt_iff_toInt_lt.mp c21_3
                      have := Int32.lt_iff_toInt_lt.mp c30_4
                      have := Int32.lt_iff_toInt_lt.mp c39_5
                      have := Int32.lt_iff_toInt_lt.mp c49_6
                      have := Int32.lt_iff_toInt_lt.mp c58_7
                      have := Int32.lt_iff_toInt_lt.mp c66_8
                      have := Int32.lt_iff_toInt_lt.mp c74_9
                      have := rng32 x0
                      have := (by decide : ((1000000000 : Int32)).toInt = 1000000000)
                      have := (by decide : ((100000000 : Int32)).toInt = 100000000)
                      have := (by decide : ((10000000 : Int32)).toInt = 10000000)
                      have := (by decide : ((1000000 : Int32)).toInt = 1000000)
                      have := (by decide : ((100000 : Int32)).toInt = 100000)
                      have := (by decide : ((10000 : Int32)).toInt = 10000)
                      have := (by decide : ((1000 : Int32)).toInt = 1000)
                      have := (by decide : ((100 : Int32)).toInt = 100)
                      have := (by decide : ((10 : Int32)).toInt = 10)
                      have := rng32 x0
                      omega
                  · -- pc 74: not x0 < (10 : Int32)
                    refine Go.s_icmpNo X0 hx (hb hby d1_74) (q := 77) rfl (flt c74_9).1 ?_
                    refine Go.s_iconst X0 hx (hb hby d1_77) (q := 78) rfl (z := 2) rfl ?_
                    refine Go.retI X0 hx hlk hret (hb hby d1_78) (by decide) (by decide) ?_
                    try rw [e0]
                    refine ⟨_, rfl, ⟨2, mm, rfl, hmm, by decide, by decide, ?_, ?_⟩, rfl, rfl⟩
                    · show 10 ≤ mm
                      have := Int32.lt_iff_toInt_lt.mp c3_1
                      have := Int32.lt_iff_toInt_lt.mp c12_2
                      have := Int32.lt_iff_toInt_lt.mp c21_3
                      have := Int32.lt_iff_toInt_lt.mp c30_4
                      have := Int32.lt_iff_toInt_lt.mp c39_5
                      have := Int32.lt_iff_toInt_lt.mp c49_6
                      have := Int32.lt_iff_toInt_lt.mp c58_7
                      have := Int32.lt_iff_toInt_lt.mp c66_8
                      have := mt Int32.lt_iff_toInt_lt.mpr c74_9
                      have := rng32 x0
                      have := (by decide : ((1000000000 : Int32)).toInt = 1000000000)
                      have := (by decide : ((100000000 : Int32)).toInt = 100000000)
                      have := (by decide : ((10000000 : Int32)).toInt = 10000000)
                      have := (by decide : ((1000000 : Int32)).toInt = 1000000)
                      have := (by decide : ((100000 : Int32)).toInt = 100000)
                      have := (by decide : ((10000 : Int32)).toInt = 10000)
                      have := (by decide : ((1000 : Int32)).toInt = 1000)
                      have := (by decide : ((100 : Int32)).toInt = 100)
                      have := (by decide : ((10 : Int32)).toInt = 10)
                      have := rng32 x0
                      omega
                    · show mm < 100
                      have := Int32.lt_iff_toInt_lt.mp c3_1
                      have := Int32.lt_iff_toInt_lt.mp c12_2
                      have := Int32.lt_iff_toInt_lt.mp c21_3
                      have := Int32.lt_iff_toInt_lt.mp c30_4
                      have := Int32.lt_iff_toInt_lt.mp c39_5
                      have := Int32.lt_iff_toInt_lt.mp c49_6
                      have := Int32.lt_iff_toInt_lt.mp c58_7
                      have := Int32.lt_iff_toInt_lt.mp c66_8
                      have := mt Int32.lt_iff_toInt_lt.mpr c74_9
                      have := rng32 x0
                      have := (by decide : ((1000000000 : Int32)).toInt = 1000000000)
                      have := (by decide : ((100000000 : Int32)).toInt = 100000000)
                      have := (by decide : ((10000000 : Int32)).toInt = 10000000)
                      have := (by decide : ((1000000 : Int32)).toInt = 1000000)
                      have := (by decide : ((100000 : Int32)).toInt = 100000)
                      have := (by decide : ((10000 : Int32)).toInt = 10000)
                      have := (by decide : ((1000 : Int32)).toInt = 1000)
                      have := (by decide : ((100 : Int32)).toInt = 100)
                      have := (by decide : ((10 : Int32)).toInt = 10)
                      have := rng32 x0
                      omega
                · -- pc 66: not x0 < (100 : Int32)
                  refine Go.s_icmpNo X0 hx (hb hby d1_66) (q := 69) rfl (flt c66_8).1 ?_
                  refine Go.s_iconst X0 hx (hb hby d1_69) (q := 70) rfl (z := 3) rfl ?_
                  refine Go.retI X0 hx hlk hret (hb hby d1_70) (by decide) (by decide) ?_
                  try rw [e0]
                  refine ⟨_, rfl, ⟨3, mm, rfl, hmm, by decide, by decide, ?_, ?_⟩, rfl, rfl⟩
                  · show 100 ≤ mm
                    have := Int32.lt_iff_toInt_lt.mp c3_1
                    have := Int32.lt_iff_toInt_lt.mp c12_2
                    have := Int32.lt_iff_toInt_lt.mp c21_3
                    have := Int32.lt_iff_toInt_lt.mp c30_4
                    have := Int32.lt_iff_toInt_lt.mp c39_5
                    have := Int32.lt_iff_toInt_lt.mp c49_6
                    have := Int32.lt_iff_toInt_lt.mp c58_7
                    have := mt Int32.lt_iff_toInt_lt.mpr c66_8
                    have := rng32 x0
                    have := (by decide : ((1000000000 : Int32)).toInt = 1000000000)
                    have := (by decide : ((100000000 : Int32)).toInt = 100000000)
                    have := (by decide : ((10000000 : Int32)).toInt = 10000000)
                    have := (by decide : ((1000000 : Int32)).toInt = 1000000)
                    have := (by decide : ((100000 : Int32)).toInt = 100000)
                    have := (by decide : ((10000 : Int32)).toInt = 10000)
                    have := (by decide : ((1000 : Int32)).toInt = 1000)
                    have := (by decide : ((100 : Int32)).toInt = 100)
                    have := rng32 x0
                    omega
                  · show mm < 1000
                    have := Int32.lt_iff_toInt_lt.mp c3_1
                    have := Int32.lt_iff_toInt_lt.mp c12_2
                    have := Int32.lt_iff_toInt_lt.mp c21_3
                    have := Int32.lt_iff_toInt_lt.mp c30_4
                    have := Int32.lt_iff_toInt_lt.mp c39_5
                    have := Int32.lt_iff_toInt_lt.mp c49_6
                    have := Int32.lt_iff_toInt_lt.mp c58_7
                    have := mt Int32.lt_iff_toInt_lt.mpr c66_8
                    have := rng32 x0
                    have := (by decide : ((1000000000 : Int32)).toInt = 1000000000)
                    have := (by decide : ((100000000 : Int32)).toInt = 100000000)
                    have := (by decide : ((10000000 : Int32)).toInt = 10000000)
                    have := (by decide : ((1000000 : Int32)).toInt = 1000000)
                    have := (by decide : ((100000 : Int32)).toInt = 100000)
                    have := (by decide : ((10000 : Int32)).toInt = 10000)
                    have := (by decide : ((1000 : Int32)).toInt = 1000)
                    have := (by decide : ((100 : Int32)).toInt = 100)
                    have := rng32 x0
                    omega
              · -- pc 58: not x0 < (1000 : Int32)
                refine Go.s_icmpNo X0 hx (hb hby d1_58) (q := 61) rfl (flt c58_7).1 ?_
                refine Go.s_iconst X0 hx (hb hby d1_61) (q := 62) rfl (z := 4) rfl ?_
                refine Go.retI X0 hx hlk hret (hb hby d1_62) (by decide) (by decide) ?_
                try rw [e0]
                refine ⟨_, rfl, ⟨4, mm, rfl, hmm, by decide, by decide, ?_, ?_⟩, rfl, rfl⟩
                · show 1000 ≤ mm
                  have := Int32.lt_iff_toInt_lt.mp c3_1
                  have := Int32.lt_iff_toInt_lt.mp c12_2
                  have := Int32.lt_iff_toInt_lt.mp c21_3
                  have := Int32.lt_iff_toInt_lt.mp c30_4
                  have := Int32.lt_iff_toInt_lt.mp c39_5
                  have := Int32.lt_iff_toInt_lt.mp c49_6
                  have := mt Int32.lt_iff_toInt_lt.mpr c58_7
                  have := rng32 x0
                  have := (by decide : ((1000000000 : Int32)).toInt = 1000000000)
                  have := (by decide : ((100000000 : Int32)).toInt = 100000000)
                  have := (by decide : ((10000000 : Int32)).toInt = 10000000)
                  have := (by decide : ((1000000 : Int32)).toInt = 1000000)
                  have := (by decide : ((100000 : Int32)).toInt = 100000)
                  have := (by decide : ((10000 : Int32)).toInt = 10000)
                  have := (by decide : ((1000 : Int32)).toInt = 1000)
                  have := rng32 x0
                  omega
                · show mm < 10000
                  have := Int32.lt_iff_toInt_lt.mp c3_1
                  have := Int32.lt_iff_toInt_lt.mp c12_2
                  have := Int32.lt_iff_toInt_lt.mp c21_3
                  have := Int32.lt_iff_toInt_lt.mp c30_4
                  have := Int32.lt_iff_toInt_lt.mp c39_5
                  have := Int32.lt_iff_toInt_lt.mp c49_6
                  have := mt Int32.lt_iff_toInt_lt.mpr c58_7
                  have := rng32 x0
                  have := (by decide : ((1000000000 : Int32)).toInt = 1000000000)
                  have := (by decide : ((100000000 : Int32)).toInt = 100000000)
                  have := (by decide : ((10000000 : Int32)).toInt = 10000000)
                  have := (by decide : ((1000000 : Int32)).toInt = 1000000)
                  have := (by decide : ((100000 : Int32)).toInt = 100000)
                  have := (by decide : ((10000 : Int32)).toInt = 10000)
                  have := (by decide : ((1000 : Int32)).toInt = 1000)
                  have := rng32 x0
                  omega
            · -- pc 49: not x0 < (10000 : Int32)
              refine Go.s_icmpNo X0 hx (hb hby d1_49) (q := 52) rfl (flt c49_6).1 ?_
              refine Go.s_iconst X0 hx (hb hby d1_52) (q := 53) rfl (z := 5) rfl ?_
              refine Go.retI X0 hx hlk hret (hb hby d1_53) (by decide) (by decide) ?_
              try rw [e0]
              refine ⟨_, rfl, ⟨5, mm, rfl, hmm, by decide, by decide, ?_, ?_⟩, rfl, rfl⟩
              · show 10000 ≤ mm
                have := Int32.lt_iff_toInt_lt.mp c3_1
                have := Int32.lt_iff_toInt_lt.mp c12_2
                have := Int32.lt_iff_toInt_lt.mp c21_3
                have := Int32.lt_iff_toInt_lt.mp c30_4
                have := Int32.lt_iff_toInt_lt.mp c39_5
                have := mt Int32.lt_iff_toInt_lt.mpr c49_6
                have := rng32 x0
                have := (by decide : ((1000000000 : Int32)).toInt = 1000000000)
                have := (by decide : ((100000000 : Int32)).toInt = 100000000)
                have := (by decide : ((10000000 : Int32)).toInt = 10000000)
                have := (by decide : ((1000000 : Int32)).toInt = 1000000)
                have := (by decide : ((100000 : Int32)).toInt = 100000)
                have := (by decide : ((10000 : Int32)).toInt = 10000)
                have := rng32 x0
                omega
              · show mm < 100000
                have := Int32.lt_iff_toInt_lt.mp c3_1
                have := Int32.lt_iff_toInt_lt.mp c12_2
                have := Int32.lt_iff_toInt_lt.mp c21_3
                have := Int32.lt_iff_toInt_lt.mp c30_4
                have := Int32.lt_iff_toInt_lt.mp c39_5
                have := mt Int32.lt_iff_toInt_lt.mpr c49_6
                have := rng32 x0
                have := (by decide : ((1000000000 : Int32)).toInt = 1000000000)
                have := (by decide : ((100000000 : Int32)).toInt = 100000000)
                have := (by decide : ((10000000 : Int32)).toInt = 10000000)
                have := (by decide : ((1000000 : Int32)).toInt = 1000000)
                have := (by decide : ((100000 : Int32)).toInt = 100000)
                have := (by decide : ((10000 : Int32)).toInt = 10000)
                have := rng32 x0
                omega
          · -- pc 39: not x0 < (100000 : Int32)
            refine Go.s_icmpNo X0 hx (hb hby d1_39) (q := 42) rfl (flt c39_5).1 ?_
            refine Go.s_bipush X0 hx (hb hby d1_42) (q := 44) rfl (z := 6) rfl ?_
            refine Go.retI X0 hx hlk hret (hb hby d1_44) (by decide) (by decide) ?_
            try rw [e0]
            refine ⟨_, rfl, ⟨6, mm, rfl, hmm, by decide, by decide, ?_, ?_⟩, rfl, rfl⟩
            · show 100000 ≤ mm
              have := Int32.lt_iff_toInt_lt.mp c3_1
              have := Int32.lt_iff_toInt_lt.mp c12_2
              have := Int32.lt_iff_toInt_lt.mp c21_3
              have := Int32.lt_iff_toInt_lt.mp c30_4
              have := mt Int32.lt_iff_toInt_lt.mpr c39_5
              have := rng32 x0
              have := (by decide : ((1000000000 : Int32)).toInt = 1000000000)
              have := (by decide : ((100000000 : Int32)).toInt = 100000000)
              have := (by decide : ((10000000 : Int32)).toInt = 10000000)
              have := (by decide : ((1000000 : Int32)).toInt = 1000000)
              have := (by decide : ((100000 : Int32)).toInt = 100000)
              have := rng32 x0
              omega
            · show mm < 1000000
              have := Int32.lt_iff_toInt_lt.mp c3_1
              have := Int32.lt_iff_toInt_lt.mp c12_2
              have := Int32.lt_iff_toInt_lt.mp c21_3
              have := Int32.lt_iff_toInt_lt.mp c30_4
              have := mt Int32.lt_iff_toInt_lt.mpr c39_5
              have := rng32 x0
              have := (by decide : ((1000000000 : Int32)).toInt = 1000000000)
              have := (by decide : ((100000000 : Int32)).toInt = 100000000)
              have := (by decide : ((10000000 : Int32)).toInt = 10000000)
              have := (by decide : ((1000000 : Int32)).toInt = 1000000)
              have := (by decide : ((100000 : Int32)).toInt = 100000)
              have := rng32 x0
              omega
        · -- pc 30: not x0 < (1000000 : Int32)
          refine Go.s_icmpNo X0 hx (hb hby d1_30) (q := 33) rfl (flt c30_4).1 ?_
          refine Go.s_bipush X0 hx (hb hby d1_33) (q := 35) rfl (z := 7) rfl ?_
          refine Go.retI X0 hx hlk hret (hb hby d1_35) (by decide) (by decide) ?_
          try rw [e0]
          refine ⟨_, rfl, ⟨7, mm, rfl, hmm, by decide, by decide, ?_, ?_⟩, rfl, rfl⟩
          · show 1000000 ≤ mm
            have := Int32.lt_iff_toInt_lt.mp c3_1
            have := Int32.lt_iff_toInt_lt.mp c12_2
            have := Int32.lt_iff_toInt_lt.mp c21_3
            have := mt Int32.lt_iff_toInt_lt.mpr c30_4
            have := rng32 x0
            have := (by decide : ((1000000000 : Int32)).toInt = 1000000000)
            have := (by decide : ((100000000 : Int32)).toInt = 100000000)
            have := (by decide : ((10000000 : Int32)).toInt = 10000000)
            have := (by decide : ((1000000 : Int32)).toInt = 1000000)
            have := rng32 x0
            omega
          · show mm < 10000000
            have := Int32.lt_iff_toInt_lt.mp c3_1
            have := Int32.lt_iff_toInt_lt.mp c12_2
            have := Int32.lt_iff_toInt_lt.mp c21_3
            have := mt Int32.lt_iff_toInt_lt.mpr c30_4
            have := rng32 x0
            have := (by decide : ((1000000000 : Int32)).toInt = 1000000000)
            have := (by decide : ((100000000 : Int32)).toInt = 100000000)
            have := (by decide : ((10000000 : Int32)).toInt = 10000000)
            have := (by decide : ((1000000 : Int32)).toInt = 1000000)
            have := rng32 x0
            omega
      · -- pc 21: not x0 < (10000000 : Int32)
        refine Go.s_icmpNo X0 hx (hb hby d1_21) (q := 24) rfl (flt c21_3).1 ?_
        refine Go.s_bipush X0 hx (hb hby d1_24) (q := 26) rfl (z := 8) rfl ?_
        refine Go.retI X0 hx hlk hret (hb hby d1_26) (by decide) (by decide) ?_
        try rw [e0]
        refine ⟨_, rfl, ⟨8, mm, rfl, hmm, by decide, by decide, ?_, ?_⟩, rfl, rfl⟩
        · show 10000000 ≤ mm
          have := Int32.lt_iff_toInt_lt.mp c3_1
          have := Int32.lt_iff_toInt_lt.mp c12_2
          have := mt Int32.lt_iff_toInt_lt.mpr c21_3
          have := rng32 x0
          have := (by decide : ((1000000000 : Int32)).toInt = 1000000000)
          have := (by decide : ((100000000 : Int32)).toInt = 100000000)
          have := (by decide : ((10000000 : Int32)).toInt = 10000000)
          have := rng32 x0
          omega
        · show mm < 100000000
          have := Int32.lt_iff_toInt_lt.mp c3_1
          have := Int32.lt_iff_toInt_lt.mp c12_2
          have := mt Int32.lt_iff_toInt_lt.mpr c21_3
          have := rng32 x0
          have := (by decide : ((1000000000 : Int32)).toInt = 1000000000)
          have := (by decide : ((100000000 : Int32)).toInt = 100000000)
          have := (by decide : ((10000000 : Int32)).toInt = 10000000)
          have := rng32 x0
          omega
    · -- pc 12: not x0 < (100000000 : Int32)
      refine Go.s_icmpNo X0 hx (hb hby d1_12) (q := 15) rfl (flt c12_2).1 ?_
      refine Go.s_bipush X0 hx (hb hby d1_15) (q := 17) rfl (z := 9) rfl ?_
      refine Go.retI X0 hx hlk hret (hb hby d1_17) (by decide) (by decide) ?_
      try rw [e0]
      refine ⟨_, rfl, ⟨9, mm, rfl, hmm, by decide, by decide, ?_, ?_⟩, rfl, rfl⟩
      · show 100000000 ≤ mm
        have := Int32.lt_iff_toInt_lt.mp c3_1
        have := mt Int32.lt_iff_toInt_lt.mpr c12_2
        have := rng32 x0
        have := (by decide : ((1000000000 : Int32)).toInt = 1000000000)
        have := (by decide : ((100000000 : Int32)).toInt = 100000000)
        have := rng32 x0
        omega
      · show mm < 1000000000
        have := Int32.lt_iff_toInt_lt.mp c3_1
        have := mt Int32.lt_iff_toInt_lt.mpr c12_2
        have := rng32 x0
        have := (by decide : ((1000000000 : Int32)).toInt = 1000000000)
        have := (by decide : ((100000000 : Int32)).toInt = 100000000)
        have := rng32 x0
        omega
  · -- pc 3: not x0 < (1000000000 : Int32)
    refine Go.s_icmpNo X0 hx (hb hby d1_3) (q := 6) rfl (flt c3_1).1 ?_
    refine Go.s_bipush X0 hx (hb hby d1_6) (q := 8) rfl (z := 10) rfl ?_
    refine Go.retI X0 hx hlk hret (hb hby d1_8) (by decide) (by decide) ?_
    try rw [e0]
    refine ⟨_, rfl, ⟨10, mm, rfl, hmm, by decide, by decide, ?_, ?_⟩, rfl, rfl⟩
    · show 1000000000 ≤ mm
      have := mt Int32.lt_iff_toInt_lt.mpr c3_1
      have := rng32 x0
      have := (by decide : ((1000000000 : Int32)).toInt = 1000000000)
      have := rng32 x0
      omega
    · show mm < 10000000000
      have := mt Int32.lt_iff_toInt_lt.mpr c3_1
      have := rng32 x0
      have := (by decide : ((1000000000 : Int32)).toInt = 1000000000)
      have := rng32 x0
      omega
theorem ef_lc (m : MethodId) (x0 : Addr) (x1 : Addr) (x2 : Int32) : entryFrame m #[(.ref x0), (.ref x1), (.int x2)] 3 = mkF m 0 #[.val (.ref x0), .val (.ref x1), .val (.int x2)] [] := by first | (simp [entryFrame, mkF, argsToLocals, Value.category]; done) | rfl
set_option maxRecDepth 65536 in
set_option maxHeartbeats 40000000 in
theorem rm_lc (l : Launch) (Z : State) (a0 : Array Value) (hw : ∀ d ∈ tables_1, d.before a0 Z = true) (sg : Addr) (sh : Addr) (x2 : Int32) (h0 : Heap) (zc : Int32) (CS : Sta Z h0 "java/lang/String" "COMPACT_STRINGS" "Z" (.int zc)) (hzc : ¬ zc = 0) (fm : Value) (SF : Sta Z h0 "jdk/internal/util/Preconditions" "SIOOBE_FORMATTER" "Ljava/util/function/BiFunction;" fm) (rf : fm.isRef = true) (ks : Nat) (cs : List Int32) (S_s : Str Z h0 ks sg cs) (kd : Nat) (ds : List Int32) (S_d : Str Z h0 kd sh ds) (hi0 : ¬ x2 < 0) (hi1 : x2 < Int32.ofNat cs.length) (hi2 : x2 < Int32.ofNat ds.length) (heq : cs.getD (x2).toNatClampNeg 0 = ds.getD (x2).toNatClampNeg 0) :
    Ct l mn_34 method_3_code 3 (some .boolean) ({ frames := 4, cells := 0, slots := 0, locals := 64 } : Room) Z h0 #[(.ref sg), (.ref sh), (.int x2)] (fun v h L => v = some (.int 1) ∧ L = [] ∧ h = h0) := by
  refine Ct.body (plainFor_of_name pn_com_example_irama_irama_PrefilterToStringPinLaw) ?_
  intro p e s m below meth c T0 hx hby hml hown hnm hret hlk hZ X0 e0
  have E_s := S_s.exa
  have E_d := S_d.exa
  refine Go.cast (ef_lc m sg sh x2) ?_
  show Go p e below _ T0 (mkF m 0 #[.val (.ref sg), .val (.ref sh), .val (.int x2)] [])
  refine Go.s_aloadN X0 hx (hb hby d34_0) (q := 1) rfl rfl rfl ?_
  refine Go.s_iloadN X0 hx (hb hby d34_1) (q := 2) rfl rfl ?_
  refine Go.callV (y := mn_35) (z := mn_35) X0 hx hZ hown (w_ hw 191 rfl) (w_ hw 192 rfl) (notFace_of_selects (args := #[]) (mvT hZ (w_ hw 194 rfl))) (w_ hw 194 rfl) (w_ hw 193 rfl) (w_ hw 195 rfl) (w_ hw 41 rfl) (by decide) e0 E_s (argsL := [(.int x2)]) (rest := []) (rm_sch l Z a0 hw sg x2 _ zc CS hzc fm SF rf ks cs S_s hi0 hi1) (by rw [hml]; rfl) (lenOf pd_6 rfl) rfl (hb hby d34_2) (by decide) (by decide) (by decide) (by decide) ?_
  intro r1 T1 L1 q1 X1
  obtain ⟨rfl, rfl, e1⟩ := q1
  rw [List.append_nil] at X1
  show Go p e below _ T1 (mkF m 5 #[.val (.ref sg), .val (.ref sh), .val (.int x2)] [(.int (cs.getD (x2).toNatClampNeg 0))])
  refine Go.s_aloadN X1 hx (hb hby d34_5) (q := 6) rfl rfl rfl ?_
  refine Go.s_iloadN X1 hx (hb hby d34_6) (q := 7) rfl rfl ?_
  refine Go.callV (y := mn_35) (z := mn_35) X1 hx hZ hown (w_ hw 191 rfl) (w_ hw 192 rfl) (notFace_of_selects (args := #[]) (mvT hZ (w_ hw 194 rfl))) (w_ hw 194 rfl) (w_ hw 193 rfl) (w_ hw 195 rfl) (w_ hw 41 rfl) (by decide) e1 E_d (argsL := [(.int x2)]) (rest := [(.int (cs.getD (x2).toNatClampNeg 0))]) (rm_sch l Z a0 hw sh x2 _ zc CS hzc fm SF rf kd ds S_d hi0 hi2) (by rw [hml]; rfl) (lenOf pd_6 rfl) rfl (hb hby d34_7) (by first | decide | exact Nat.le_of_ble_eq_true rfl) (by first | decide | exact Nat.le_of_ble_eq_true rfl) (by first | decide | exact Nat.le_of_ble_eq_true rfl) (by first | decide | exact Nat.le_of_ble_eq_true rfl) ?_
  intro r2 T2 L2 q2 X2
  obtain ⟨rfl, rfl, e2⟩ := q2
  rw [List.append_nil] at X2
  show Go p e below _ T2 (mkF m 10 #[.val (.ref sg), .val (.ref sh), .val (.int x2)] [(.int (ds.getD (x2).toNatClampNeg 0)), (.int (cs.getD (x2).toNatClampNeg 0))])
  refine Go.s_icmpNo X2 hx (hb hby d34_10) (q := 13) rfl (teq heq).2 ?_
  refine Go.s_iconst X2 hx (hb hby d34_13) (q := 14) rfl (z := 1) rfl ?_
  refine Go.s_goto X2 hx (hb hby d34_14) (q := 18) (by decide) (by decide) ?_
  refine Go.retN X2 hx hlk hret (by simp) (hb hby d34_18) (by decide) (by decide) ?_
  try rw [e2]
  exact ⟨by decide, rfl, rfl⟩
theorem ef_lsf (m : MethodId) (x0 : Addr) (x1 : Addr) (x2 : Int32) (x3 : Int32) : entryFrame m #[(.ref x0), (.ref x1), (.int x2), (.int x3)] 4 = mkF m 0 #[.val (.ref x0), .val (.ref x1), .val (.int x2), .val (.int x3)] [] := by first | (simp [entryFrame, mkF, argsToLocals, Value.category]; done) | rfl
set_option maxRecDepth 65536 in
set_option maxHeartbeats 40000000 in
theorem rm_lsf (l : Launch) (Z : State) (a0 : Array Value) (hw : ∀ d ∈ tables_1, d.before a0 Z = true) (sg : Addr) (sh : Addr) (x2 : Int32) (x3 : Int32) (h0 : Heap) (zc : Int32) (CS : Sta Z h0 "java/lang/String" "COMPACT_STRINGS" "Z" (.int zc)) (hzc : ¬ zc = 0) (fm : Value) (SF : Sta Z h0 "jdk/internal/util/Preconditions" "SIOOBE_FORMATTER" "Ljava/util/function/BiFunction;" fm) (rf : fm.isRef = true) (ks : Nat) (cs : List Int32) (S_s : Str Z h0 ks sg cs) (kd : Nat) (ds : List Int32) (S_d : Str Z h0 kd sh ds) (hi : ¬ (x2 + x3) < 0 ∧ (x2 + x3) < Int32.ofNat cs.length ∧ cs.getD ((x2 + x3)).toNatClampNeg 0 = ds.getD (x3).toNatClampNeg 0) (hj0 : ¬ x3 < 0) (hj1 : x3 < Int32.ofNat ds.length) :
    Ct l mn_41 method_5_code 4 (some .boolean) ({ frames := 4, cells := 0, slots := 0, locals := 64 } : Room) Z h0 #[(.ref sg), (.ref sh), (.int x2), (.int x3)] (fun v h L => v = some (.int 1) ∧ L = [] ∧ h = h0) := by
  refine Ct.body (plainFor_of_name pn_com_example_irama_irama_PrefilterToStringPinLaw) ?_
  intro p e s m below meth c T0 hx hby hml hown hnm hret hlk hZ X0 e0
  have E_s := S_s.exa
  have E_d := S_d.exa
  have heq := hi.2.2
  refine Go.cast (ef_lsf m sg sh x2 x3) ?_
  show Go p e below _ T0 (mkF m 0 #[.val (.ref sg), .val (.ref sh), .val (.int x2), .val (.int x3)] [])
  refine Go.s_aloadN X0 hx (hb hby d41_0) (q := 1) rfl rfl rfl ?_
  refine Go.s_iloadN X0 hx (hb hby d41_1) (q := 2) rfl rfl ?_
  refine Go.s_iloadN X0 hx (hb hby d41_2) (q := 3) rfl rfl ?_
  refine Go.s_iadd X0 hx (hb hby d41_3) (q := 4) rfl ?_
  refine Go.callV (y := mn_35) (z := mn_35) X0 hx hZ hown (w_ hw 191 rfl) (w_ hw 192 rfl) (notFace_of_selects (args := #[]) (mvT hZ (w_ hw 194 rfl))) (w_ hw 194 rfl) (w_ hw 193 rfl) (w_ hw 195 rfl) (w_ hw 41 rfl) (by decide) e0 E_s (argsL := [(.int (x2 + x3))]) (rest := []) (rm_sch l Z a0 hw sg (x2 + x3) _ zc CS hzc fm SF rf ks cs S_s hi.1 hi.2.1) (by rw [hml]; rfl) (lenOf pd_6 rfl) rfl (hb hby d41_4) (by decide) (by decide) (by decide) (by decide) ?_
  intro r1 T1 L1 q1 X1
  obtain ⟨rfl, rfl, e1⟩ := q1
  rw [List.append_nil] at X1
  show Go p e below _ T1 (mkF m 7 #[.val (.ref sg), .val (.ref sh), .val (.int x2), .val (.int x3)] [(.int (cs.getD ((x2 + x3)).toNatClampNeg 0))])
  refine Go.s_aloadN X1 hx (hb hby d41_7) (q := 8) rfl rfl rfl ?_
  refine Go.s_iloadN X1 hx (hb hby d41_8) (q := 9) rfl rfl ?_
  refine Go.callV (y := mn_35) (z := mn_35) X1 hx hZ hown (w_ hw 191 rfl) (w_ hw 192 rfl) (notFace_of_selects (args := #[]) (mvT hZ (w_ hw 194 rfl))) (w_ hw 194 rfl) (w_ hw 193 rfl) (w_ hw 195 rfl) (w_ hw 41 rfl) (by decide) e1 E_d (argsL := [(.int x3)]) (rest := [(.int (cs.getD ((x2 + x3)).toNatClampNeg 0))]) (rm_sch l Z a0 hw sh x3 _ zc CS hzc fm SF rf kd ds S_d hj0 hj1) (by rw [hml]; rfl) (lenOf pd_6 rfl) rfl (hb hby d41_9) (by first | decide | exact Nat.le_of_ble_eq_true rfl) (by first | decide | exact Nat.le_of_ble_eq_true rfl) (by first | decide | exact Nat.le_of_ble_eq_true rfl) (by first | decide | exact Nat.le_of_ble_eq_true rfl) ?_
  intro r2 T2 L2 q2 X2
  obtain ⟨rfl, rfl, e2⟩ := q2
  rw [List.append_nil] at X2
  show Go p e below _ T2 (mkF m 12 #[.val (.ref sg), .val (.ref sh), .val (.int x2), .val (.int x3)] [(.int (ds.getD (x3).toNatClampNeg 0)), (.int (cs.getD ((x2 + x3)).toNatClampNeg 0))])
  refine Go.s_icmpNo X2 hx (hb hby d41_12) (q := 15) rfl (teq heq).2 ?_
  refine Go.s_iconst X2 hx (hb hby d41_15) (q := 16) rfl (z := 1) rfl ?_
  refine Go.s_goto X2 hx (hb hby d41_16) (q := 20) (by decide) (by decide) ?_
  refine Go.retN X2 hx hlk hret (by simp) (hb hby d41_20) (by decide) (by decide) ?_
  try rw [e2]
  exact ⟨by decide, rfl, rfl⟩
theorem ef_ldg (m : MethodId) (x0 : Addr) (x1 : Int32) (x2 : Int32) (x3 : Addr) (x4 : Int32) : entryFrame m #[(.ref x0), (.int x1), (.int x2), (.ref x3), (.int x4)] 6 = mkF m 0 #[.val (.ref x0), .val (.int x1), .val (.int x2), .val (.ref x3), .val (.int x4), .unset] [] := by first | (simp [entryFrame, mkF, argsToLocals, Value.category]; done) | rfl
set_option maxRecDepth 65536 in
set_option maxHeartbeats 40000000 in
theorem rm_ldg (l : Launch) (Z : State) (a0 : Array Value) (hw : ∀ d ∈ tables_1, d.before a0 Z = true) (sg : Addr) (x1 : Int32) (x2 : Int32) (t : Addr) (x4 : Int32) (h0 : Heap) (zc : Int32) (CS : Sta Z h0 "java/lang/String" "COMPACT_STRINGS" "Z" (.int zc)) (hzc : ¬ zc = 0) (fm : Value) (SF : Sta Z h0 "jdk/internal/util/Preconditions" "SIOOBE_FORMATTER" "Ljava/util/function/BiFunction;" fm) (rf : fm.isRef = true) (ks : Nat) (cs : List Int32) (S_s : Str Z h0 ks sg cs) (kp : ClassId) (V_p : Arv Z h0 t kp .int (10 : Int32) (p10.map Value.int) (.int 0)) (ee mm kk : Nat) (hmm : x1.toInt = (mm : Int)) (hd : x2 = Int32.ofNat ee) (he' : ee ≤ 10) (hk : x4.toInt = (kk : Int)) (hlen : 26 + ee ≤ cs.length) (hln : cs.length ≤ 100) (hat : ∀ k, k < ee → cs.getD (26 + k) 0 = Int32.ofNat (48 + mm / 10 ^ (ee - 1 - k) % 10)) :
    Ct l mn_40 method_4_code 6 (some .boolean) ({ frames := 4, cells := 0, slots := 0, locals := 66 } : Room) Z h0 #[(.ref sg), (.int x1), (.int x2), (.ref t), (.int x4)] (fun v h L => v = some (.int 1) ∧ L = [] ∧ h = h0) := by
  refine Ct.body (plainFor_of_name pn_com_example_irama_irama_PrefilterToStringPinLaw) ?_
  intro p e s m below meth c T0 hx hby hml hown hnm hret hlk hZ X0 e0
  have E_s := S_s.exa
  refine Go.cast (ef_ldg m sg x1 x2 t x4) ?_
  show Go p e below _ T0 (mkF m 0 #[.val (.ref sg), .val (.int x1), .val (.int x2), .val (.ref t), .val (.int x4), .unset] [])
  refine Go.s_iload X0 hx (hb hby d40_0) (q := 2) rfl rfl ?_
  refine Go.s_iloadN X0 hx (hb hby d40_2) (q := 3) rfl rfl ?_
  by_cases c3_1 : x4 < x2
  · -- pc 3: x4 < x2
    refine Go.s_icmpYes X0 hx (hb hby d40_3) (q := 8) (by decide) (by decide) (tlt c3_1).1 ?_
    refine Go.s_iloadN X0 hx (hb hby d40_8) (q := 9) rfl rfl ?_
    refine Go.s_aloadN X0 hx (hb hby d40_9) (q := 10) rfl rfl rfl ?_
    refine Go.s_iloadN X0 hx (hb hby d40_10) (q := 11) rfl rfl ?_
    refine Go.s_iconst X0 hx (hb hby d40_11) (q := 12) rfl (z := 1) rfl ?_
    refine Go.s_isub X0 hx (hb hby d40_12) (q := 13) rfl ?_
    refine Go.s_iload X0 hx (hb hby d40_13) (q := 15) rfl rfl ?_
    refine Go.s_isub X0 hx (hb hby d40_15) (q := 16) rfl ?_
    have hkl := dg_lt c3_1 hd he' hk
    have hjx := dg_ix hkl hd he' hk
    have hpw := pw_i (show ee - 1 - kk ≤ 9 by omega)
    refine Go.ldI X0 hx hZ e0 V_p (dg_in hjx) (w := (.int (Int32.ofNat (10 ^ (ee - 1 - kk))))) (p10_at (show ee - 1 - kk ≤ 9 by omega) hjx) (hb hby d40_16) ?_
    show Go p e below _ T0 (mkF m 17 #[.val (.ref sg), .val (.int x1), .val (.int x2), .val (.ref t), .val (.int x4), .unset] [(.int (Int32.ofNat (10 ^ (ee - 1 - kk)))), (.int x1)])
    refine Go.s_idiv X0 hx (hb hby d40_17) (q := 18) rfl (pw_ne hpw) ?_
    refine Go.s_bipush X0 hx (hb hby d40_18) (q := 20) rfl (z := 10) rfl ?_
    refine Go.s_irem X0 hx (hb hby d40_20) (q := 21) rfl (by decide) ?_
    refine Go.s_istore X0 hx (hb hby d40_21) (q := 23) rfl (l' := #[.val (.ref sg), .val (.int x1), .val (.int x2), .val (.ref t), .val (.int x4), .val (.int ((x1 / (Int32.ofNat (10 ^ (ee - 1 - kk)))) % (10 : Int32)))]) rfl ?_
    generalize hv2 : ((x1 / (Int32.ofNat (10 ^ (ee - 1 - kk)))) % (10 : Int32)) = v2
    refine Go.s_aloadN X0 hx (hb hby d40_23) (q := 24) rfl rfl rfl ?_
    refine Go.s_bipush X0 hx (hb hby d40_24) (q := 26) rfl (z := 26) rfl ?_
    refine Go.s_iload X0 hx (hb hby d40_26) (q := 28) rfl rfl ?_
    refine Go.s_iadd X0 hx (hb hby d40_28) (q := 29) rfl ?_
    have hq := c26 hk (show kk ≤ 9 by omega)
    refine Go.callV (y := mn_35) (z := mn_35) X0 hx hZ hown (w_ hw 191 rfl) (w_ hw 192 rfl) (notFace_of_selects (args := #[]) (mvT hZ (w_ hw 194 rfl))) (w_ hw 194 rfl) (w_ hw 193 rfl) (w_ hw 195 rfl) (w_ hw 41 rfl) (by decide) e0 E_s (argsL := [(.int ((26 : Int32) + x4))]) (rest := []) (rm_sch l Z a0 hw sg ((26 : Int32) + x4) _ zc CS hzc fm SF rf ks cs S_s hq.1 (lt_n hq.2 (by omega) hln)) (by rw [hml]; rfl) (lenOf pd_6 rfl) rfl (hb hby d40_29) (by decide) (by decide) (by decide) (by decide) ?_
    intro r3 T3 L3 q3 X3
    obtain ⟨rfl, rfl, e3⟩ := q3
    rw [List.append_nil] at X3
    show Go p e below _ T3 (mkF m 32 #[.val (.ref sg), .val (.int x1), .val (.int x2), .val (.ref t), .val (.int x4), .val (.int v2)] [(.int (cs.getD (((26 : Int32) + x4)).toNatClampNeg 0))])
    refine Go.s_bipush X3 hx (hb hby d40_32) (q := 34) rfl (z := 48) rfl ?_
    refine Go.s_iload X3 hx (hb hby d40_34) (q := 36) rfl rfl ?_
    refine Go.s_iadd X3 hx (hb hby d40_36) (q := 37) rfl ?_
    refine Go.s_i2c X3 hx (hb hby d40_37) (q := 38) rfl ?_
    have heq : cs.getD ((26 : Int32) + x4).toNatClampNeg 0 = ((48 : Int32) + v2).toUInt32.toUInt16.toUInt32.toInt32 := dg_eq hmm hpw hv2 hk (by omega) (hat kk hkl)
    refine Go.s_icmpNo X3 hx (hb hby d40_38) (q := 41) rfl (teq heq).2 ?_
    refine Go.s_iconst X3 hx (hb hby d40_41) (q := 42) rfl (z := 1) rfl ?_
    refine Go.s_goto X3 hx (hb hby d40_42) (q := 46) (by decide) (by decide) ?_
    refine Go.retN X3 hx hlk hret (by simp) (hb hby d40_46) (by decide) (by decide) ?_
    try rw [e3]
    exact ⟨by decide, rfl, rfl⟩
  · -- pc 3: not x4 < x2
    refine Go.s_icmpNo X0 hx (hb hby d40_3) (q := 6) rfl (flt c3_1).1 ?_
    refine Go.s_iconst X0 hx (hb hby d40_6) (q := 7) rfl (z := 1) rfl ?_
    refine Go.retN X0 hx hlk hret (by simp) (hb hby d40_7) (by decide) (by decide) ?_
    try rw [e0]
    exact ⟨by decide, rfl, rfl⟩
set_option maxRecDepth 65536 in
set_option maxHeartbeats 40000000 in
theorem law_n {p : Program} {l : Launch} {e : Env} {s : State} {m : MethodId} {args : Array Value} {below : List Frame} {meth : Method} {c : Code} {Z : State} {a0 : Array Value} {h0 : Heap} (hw : ∀ d ∈ tables_1, d.before a0 Z = true) (hx : p.tables.exec = Jvm.exec) (hby : c.code = code) (hml : c.maxLocals = maxLocals) (hown : (s.setVm s.vm).vm.findClass "com/example/irama/irama/PrefilterToStringPinLaw" = some m.cls) (hret : meth.sig.returnType = ret) (hlk : meth.locks = false) (hZ : Z.Warmed39 (s.setVm s.vm).vm) (hEL : EW Z a0 consts_1) (hW : Wd Z consts_1 s s.vm h0) (n0 : Nat) (Z0 : n0 ≤ h0.size) (O0 : Old Z n0 h0) (zc : Int32) (CS : Sta Z Z.heap "java/lang/String" "COMPACT_STRINGS" "Z" (.int zc)) (hzc : ¬ zc = 0) (fm : Value) (SF : Sta Z Z.heap "jdk/internal/util/Preconditions" "SIOOBE_FORMATTER" "Ljava/util/function/BiFunction;" fm) (rf : fm.isRef = true) (dO dT : Addr) (kO kT : ClassId) (SO : Sta Z Z.heap "java/lang/Integer" "DigitOnes" "[B" (.ref dO)) (VO : Arv Z Z.heap dO kO .byte (100 : Int32) (ones.map Value.int) (.int 0)) (SX : Sta Z Z.heap "java/lang/Integer" "DigitTens" "[B" (.ref dT)) (VT : Arv Z Z.heap dT kT .byte (100 : Int32) (tens.map Value.int) (.int 0)) (x0 n : Int32) (hn : 1 ≤ n.toInt) {T0 : State} (X0 : Stand p l e room_1 (s.setVm s.vm) m args below meth c T0 [] 0 0) (e0 : T0.heap = h0) :
    Go p e below (FNW Z consts_1 s (fun v h L => v = some (.int 1) ∧ Fr n0 L) room_1.cells room_1.slots) T0 (mkF m 11 #[.val (.int x0), .val (.int n), .unset, .unset, .unset, .unset, .unset, .unset, .unset, .unset, .unset] []) := by
  obtain ⟨mm, hmm⟩ : ∃ mm : Nat, n.toInt = (mm : Int) := ⟨n.toInt.toNat, by omega⟩
  have hpos : 1 ≤ mm := by omega
  have hn1 : ¬ (n < (1 : Int32)) := fun q => by have := Int32.lt_iff_toInt_lt.mp q; have e1 : (1 : Int32).toInt = 1 := (by decide); omega
  refine Go.s_bipush X0 hx (hb hby at_11) (q := 13) rfl (z := 10) rfl ?_
  refine Go.newP X0 hx hZ (w_ hw 1 rfl) e0 (hb hby at_13) (by decide) (cap := 10) (by decide) (by decide) (by decide) (by decide) ?_
  intro T1 h1 b1 k1 g1 X1 e1 E1 V1
  have g_b1 : n0 ≤ b1 := g1 ▸ Z0
  have hW_v2 := hW.ext E1
  have O0_v3 := Old.ext O0 E1
  have Z0_v4 := Nat.le_trans Z0 E1.1
  have V1_5 : Arv Z h1 b1 k1 .int (10 : Int32) [(.int (0 : Int32)), (.int (0 : Int32)), (.int (0 : Int32)), (.int (0 : Int32)), (.int (0 : Int32)), (.int (0 : Int32)), (.int (0 : Int32)), (.int (0 : Int32)), (.int (0 : Int32)), (.int (0 : Int32))] (.int (0 : Int32)) := V1.pad (pad_rep [] (.int (0 : Int32)) 10)
  show Go p e below _ T1 (mkF m 15 #[.val (.int x0), .val (.int n), .unset, .unset, .unset, .unset, .unset, .unset, .unset, .unset, .unset] [(.ref b1)])
  refine Go.s_dup X1 hx (hb hby at_15) (q := 16) rfl rfl ?_
  refine Go.s_iconst X1 hx (hb hby at_16) (q := 17) rfl (z := 0) rfl ?_
  refine Go.s_iconst X1 hx (hb hby at_17) (q := 18) rfl (z := 1) rfl ?_
  refine Go.stI X1 hx hZ e1 V1_5 ⟨by decide, by decide⟩ 0 rfl (by first | decide | exact Nat.le_of_ble_eq_true rfl) (hb hby at_18) ?_
  intro T6 h6 X6 e6 W6 V6
  have N6 := Fr.snoc X6 (Fr.nil n0) g_b1
  have Z0_v7 := Nat.le_trans Z0_v4 (Keep.of_wr W6).1
  have hWw6 := hW_v2.wr W6 (Safe.arv hZ.alike V1_5 (by decide))
  have Ow6 := Old.wr O0_v3 W6 g_b1
  have V6_8 : Arv Z h6 b1 k1 .int (10 : Int32) [(.int (1 : Int32)), (.int (0 : Int32)), (.int (0 : Int32)), (.int (0 : Int32)), (.int (0 : Int32)), (.int (0 : Int32)), (.int (0 : Int32)), (.int (0 : Int32)), (.int (0 : Int32)), (.int (0 : Int32))] (.int (0 : Int32)) := V6
  show Go p e below _ T6 (mkF m 19 #[.val (.int x0), .val (.int n), .unset, .unset, .unset, .unset, .unset, .unset, .unset, .unset, .unset] [(.ref b1)])
  refine Go.s_dup X6 hx (hb hby at_19) (q := 20) rfl rfl ?_
  refine Go.s_iconst X6 hx (hb hby at_20) (q := 21) rfl (z := 1) rfl ?_
  refine Go.s_bipush X6 hx (hb hby at_21) (q := 23) rfl (z := 10) rfl ?_
  refine Go.stI X6 hx hZ e6 V6_8 ⟨by decide, by decide⟩ 1 rfl (by first | decide | exact Nat.le_of_ble_eq_true rfl) (hb hby at_23) ?_
  intro T9 h9 X9 e9 W9 V9
  have N9 := Fr.snoc X9 N6 g_b1
  have Z0_v10 := Nat.le_trans Z0_v7 (Keep.of_wr W9).1
  have hWw9 := hWw6.wr W9 (Safe.arv hZ.alike V6_8 (by decide))
  have Ow9 := Old.wr Ow6 W9 g_b1
  have V9_11 : Arv Z h9 b1 k1 .int (10 : Int32) [(.int (1 : Int32)), (.int (10 : Int32)), (.int (0 : Int32)), (.int (0 : Int32)), (.int (0 : Int32)), (.int (0 : Int32)), (.int (0 : Int32)), (.int (0 : Int32)), (.int (0 : Int32)), (.int (0 : Int32))] (.int (0 : Int32)) := V9
  show Go p e below _ T9 (mkF m 24 #[.val (.int x0), .val (.int n), .unset, .unset, .unset, .unset, .unset, .unset, .unset, .unset, .unset] [(.ref b1)])
  refine Go.s_dup X9 hx (hb hby at_24) (q := 25) rfl rfl ?_
  refine Go.s_iconst X9 hx (hb hby at_25) (q := 26) rfl (z := 2) rfl ?_
  refine Go.s_bipush X9 hx (hb hby at_26) (q := 28) rfl (z := 100) rfl ?_
  refine Go.stI X9 hx hZ e9 V9_11 ⟨by decide, by decide⟩ 2 rfl (by first | decide | exact Nat.le_of_ble_eq_true rfl) (hb hby at_28) ?_
  intro T12 h12 X12 e12 W12 V12
  have N12 := Fr.snoc X12 N9 g_b1
  have Z0_v13 := Nat.le_trans Z0_v10 (Keep.of_wr W12).1
  have hWw12 := hWw9.wr W12 (Safe.arv hZ.alike V9_11 (by decide))
  have Ow12 := Old.wr Ow9 W12 g_b1
  have V12_14 : Arv Z h12 b1 k1 .int (10 : Int32) [(.int (1 : Int32)), (.int (10 : Int32)), (.int (100 : Int32)), (.int (0 : Int32)), (.int (0 : Int32)), (.int (0 : Int32)), (.int (0 : Int32)), (.int (0 : Int32)), (.int (0 : Int32)), (.int (0 : Int32))] (.int (0 : Int32)) := V12
  show Go p e below _ T12 (mkF m 29 #[.val (.int x0), .val (.int n), .unset, .unset, .unset, .unset, .unset, .unset, .unset, .unset, .unset] [(.ref b1)])
  refine Go.s_dup X12 hx (hb hby at_29) (q := 30) rfl rfl ?_
  refine Go.s_iconst X12 hx (hb hby at_30) (q := 31) rfl (z := 3) rfl ?_
  refine Go.s_sipush X12 hx (hb hby at_31) (q := 34) rfl (z := 1000) rfl ?_
  refine Go.stI X12 hx hZ e12 V12_14 ⟨by decide, by decide⟩ 3 rfl (by first | decide | exact Nat.le_of_ble_eq_true rfl) (hb hby at_34) ?_
  intro T15 h15 X15 e15 W15 V15
  have N15 := Fr.snoc X15 N12 g_b1
  have Z0_v16 := Nat.le_trans Z0_v13 (Keep.of_wr W15).1
  have hWw15 := hWw12.wr W15 (Safe.arv hZ.alike V12_14 (by decide))
  have Ow15 := Old.wr Ow12 W15 g_b1
  have V15_17 : Arv Z h15 b1 k1 .int (10 : Int32) [(.int (1 : Int32)), (.int (10 : Int32)), (.int (100 : Int32)), (.int (1000 : Int32)), (.int (0 : Int32)), (.int (0 : Int32)), (.int (0 : Int32)), (.int (0 : Int32)), (.int (0 : Int32)), (.int (0 : Int32))] (.int (0 : Int32)) := V15
  show Go p e below _ T15 (mkF m 35 #[.val (.int x0), .val (.int n), .unset, .unset, .unset, .unset, .unset, .unset, .unset, .unset, .unset] [(.ref b1)])
  refine Go.s_dup X15 hx (hb hby at_35) (q := 36) rfl rfl ?_
  refine Go.s_iconst X15 hx (hb hby at_36) (q := 37) rfl (z := 4) rfl ?_
  refine Go.s_sipush X15 hx (hb hby at_37) (q := 40) rfl (z := 10000) rfl ?_
  refine Go.stI X15 hx hZ e15 V15_17 ⟨by decide, by decide⟩ 4 rfl (by first | decide | exact Nat.le_of_ble_eq_true rfl) (hb hby at_40) ?_
  intro T18 h18 X18 e18 W18 V18
  have N18 := Fr.snoc X18 N15 g_b1
  have Z0_v19 := Nat.le_trans Z0_v16 (Keep.of_wr W18).1
  have hWw18 := hWw15.wr W18 (Safe.arv hZ.alike V15_17 (by decide))
  have Ow18 := Old.wr Ow15 W18 g_b1
  have V18_20 : Arv Z h18 b1 k1 .int (10 : Int32) [(.int (1 : Int32)), (.int (10 : Int32)), (.int (100 : Int32)), (.int (1000 : Int32)), (.int (10000 : Int32)), (.int (0 : Int32)), (.int (0 : Int32)), (.int (0 : Int32)), (.int (0 : Int32)), (.int (0 : Int32))] (.int (0 : Int32)) := V18
  show Go p e below _ T18 (mkF m 41 #[.val (.int x0), .val (.int n), .unset, .unset, .unset, .unset, .unset, .unset, .unset, .unset, .unset] [(.ref b1)])
  refine Go.s_dup X18 hx (hb hby at_41) (q := 42) rfl rfl ?_
  refine Go.s_iconst X18 hx (hb hby at_42) (q := 43) rfl (z := 5) rfl ?_
  refine Go.s_ldc X18 hx (hb hby at_43) (q := 45) rfl hown (mvT hZ (w_ hw 2 rfl)) ?_
  refine Go.stI X18 hx hZ e18 V18_20 ⟨by decide, by decide⟩ 5 rfl (by first | decide | exact Nat.le_of_ble_eq_true rfl) (hb hby at_45) ?_
  intro T21 h21 X21 e21 W21 V21
  have N21 := Fr.snoc X21 N18 g_b1
  have Z0_v22 := Nat.le_trans Z0_v19 (Keep.of_wr W21).1
  have hWw21 := hWw18.wr W21 (Safe.arv hZ.alike V18_20 (by decide))
  have Ow21 := Old.wr Ow18 W21 g_b1
  have V21_23 : Arv Z h21 b1 k1 .int (10 : Int32) [(.int (1 : Int32)), (.int (10 : Int32)), (.int (100 : Int32)), (.int (1000 : Int32)), (.int (10000 : Int32)), (.int (100000 : Int32)), (.int (0 : Int32)), (.int (0 : Int32)), (.int (0 : Int32)), (.int (0 : Int32))] (.int (0 : Int32)) := V21
  show Go p e below _ T21 (mkF m 46 #[.val (.int x0), .val (.int n), .unset, .unset, .unset, .unset, .unset, .unset, .unset, .unset, .unset] [(.ref b1)])
  refine Go.s_dup X21 hx (hb hby at_46) (q := 47) rfl rfl ?_
  refine Go.s_bipush X21 hx (hb hby at_47) (q := 49) rfl (z := 6) rfl ?_
  refine Go.s_ldc X21 hx (hb hby at_49) (q := 51) rfl hown (mvT hZ (w_ hw 3 rfl)) ?_
  refine Go.stI X21 hx hZ e21 V21_23 ⟨by decide, by decide⟩ 6 rfl (by first | decide | exact Nat.le_of_ble_eq_true rfl) (hb hby at_51) ?_
  intro T24 h24 X24 e24 W24 V24
  have N24 := Fr.snoc X24 N21 g_b1
  have Z0_v25 := Nat.le_trans Z0_v22 (Keep.of_wr W24).1
  have hWw24 := hWw21.wr W24 (Safe.arv hZ.alike V21_23 (by decide))
  have Ow24 := Old.wr Ow21 W24 g_b1
  have V24_26 : Arv Z h24 b1 k1 .int (10 : Int32) [(.int (1 : Int32)), (.int (10 : Int32)), (.int (100 : Int32)), (.int (1000 : Int32)), (.int (10000 : Int32)), (.int (100000 : Int32)), (.int (1000000 : Int32)), (.int (0 : Int32)), (.int (0 : Int32)), (.int (0 : Int32))] (.int (0 : Int32)) := V24
  show Go p e below _ T24 (mkF m 52 #[.val (.int x0), .val (.int n), .unset, .unset, .unset, .unset, .unset, .unset, .unset, .unset, .unset] [(.ref b1)])
  refine Go.s_dup X24 hx (hb hby at_52) (q := 53) rfl rfl ?_
  refine Go.s_bipush X24 hx (hb hby at_53) (q := 55) rfl (z := 7) rfl ?_
  refine Go.s_ldc X24 hx (hb hby at_55) (q := 57) rfl hown (mvT hZ (w_ hw 4 rfl)) ?_
  refine Go.stI X24 hx hZ e24 V24_26 ⟨by decide, by decide⟩ 7 rfl (by first | decide | exact Nat.le_of_ble_eq_true rfl) (hb hby at_57) ?_
  intro T27 h27 X27 e27 W27 V27
  have N27 := Fr.snoc X27 N24 g_b1
  have Z0_v28 := Nat.le_trans Z0_v25 (Keep.of_wr W27).1
  have hWw27 := hWw24.wr W27 (Safe.arv hZ.alike V24_26 (by decide))
  have Ow27 := Old.wr Ow24 W27 g_b1
  have V27_29 : Arv Z h27 b1 k1 .int (10 : Int32) [(.int (1 : Int32)), (.int (10 : Int32)), (.int (100 : Int32)), (.int (1000 : Int32)), (.int (10000 : Int32)), (.int (100000 : Int32)), (.int (1000000 : Int32)), (.int (10000000 : Int32)), (.int (0 : Int32)), (.int (0 : Int32))] (.int (0 : Int32)) := V27
  show Go p e below _ T27 (mkF m 58 #[.val (.int x0), .val (.int n), .unset, .unset, .unset, .unset, .unset, .unset, .unset, .unset, .unset] [(.ref b1)])
  refine Go.s_dup X27 hx (hb hby at_58) (q := 59) rfl rfl ?_
  refine Go.s_bipush X27 hx (hb hby at_59) (q := 61) rfl (z := 8) rfl ?_
  refine Go.s_ldc X27 hx (hb hby at_61) (q := 63) rfl hown (mvT hZ (w_ hw 5 rfl)) ?_
  refine Go.stI X27 hx hZ e27 V27_29 ⟨by decide, by decide⟩ 8 rfl (by first | decide | exact Nat.le_of_ble_eq_true rfl) (hb hby at_63) ?_
  intro T30 h30 X30 e30 W30 V30
  have N30 := Fr.snoc X30 N27 g_b1
  have Z0_v31 := Nat.le_trans Z0_v28 (Keep.of_wr W30).1
  have hWw30 := hWw27.wr W30 (Safe.arv hZ.alike V27_29 (by decide))
  have Ow30 := Old.wr Ow27 W30 g_b1
  have V30_32 : Arv Z h30 b1 k1 .int (10 : Int32) [(.int (1 : Int32)), (.int (10 : Int32)), (.int (100 : Int32)), (.int (1000 : Int32)), (.int (10000 : Int32)), (.int (100000 : Int32)), (.int (1000000 : Int32)), (.int (10000000 : Int32)), (.int (100000000 : Int32)), (.int (0 : Int32))] (.int (0 : Int32)) := V30
  show Go p e below _ T30 (mkF m 64 #[.val (.int x0), .val (.int n), .unset, .unset, .unset, .unset, .unset, .unset, .unset, .unset, .unset] [(.ref b1)])
  refine Go.s_dup X30 hx (hb hby at_64) (q := 65) rfl rfl ?_
  refine Go.s_bipush X30 hx (hb hby at_65) (q := 67) rfl (z := 9) rfl ?_
  refine Go.s_ldc X30 hx (hb hby at_67) (q := 69) rfl hown (mvT hZ (w_ hw 6 rfl)) ?_
  refine Go.stI X30 hx hZ e30 V30_32 ⟨by decide, by decide⟩ 9 rfl (by first | decide | exact Nat.le_of_ble_eq_true rfl) (hb hby at_69) ?_
  intro T33 h33 X33 e33 W33 V33
  have N33 := Fr.snoc X33 N30 g_b1
  have Z0_v34 := Nat.le_trans Z0_v31 (Keep.of_wr W33).1
  have hWw33 := hWw30.wr W33 (Safe.arv hZ.alike V30_32 (by decide))
  have Ow33 := Old.wr Ow30 W33 g_b1
  have V33_35 : Arv Z h33 b1 k1 .int (10 : Int32) [(.int (1 : Int32)), (.int (10 : Int32)), (.int (100 : Int32)), (.int (1000 : Int32)), (.int (10000 : Int32)), (.int (100000 : Int32)), (.int (1000000 : Int32)), (.int (10000000 : Int32)), (.int (100000000 : Int32)), (.int (1000000000 : Int32))] (.int (0 : Int32)) := V33
  show Go p e below _ T33 (mkF m 70 #[.val (.int x0), .val (.int n), .unset, .unset, .unset, .unset, .unset, .unset, .unset, .unset, .unset] [(.ref b1)])
  refine Go.s_astoreN X33 hx (hb hby at_70) (q := 71) rfl rfl (l' := #[.val (.int x0), .val (.int n), .val (.ref b1), .unset, .unset, .unset, .unset, .unset, .unset, .unset, .unset]) rfl ?_
  refine Go.s_iloadN X33 hx (hb hby at_71) (q := 72) rfl rfl ?_
  refine Go.callS (y := mn_1) X33 hx hZ hown (w_ hw 7 rfl) (w_ hw 8 rfl) (w_ hw 9 rfl) (w_ hw 10 rfl) (by decide) e33 (argsL := [(.int n)]) (rest := []) (rm_dgt l Z a0 hw n _ mm hmm hpos) (by rw [hml]; rfl) (lenOf pd_7 rfl) rfl (hb hby at_72) (by decide) (by decide) (by decide) (by decide) ?_
  intro r36 T36 L36 q36 X36
  obtain ⟨w36, rfl, p36, rfl, e36⟩ := q36
  rw [List.append_nil] at X36
  obtain ⟨ee, m1, hr, hm1, he, he', hlo, hhi⟩ := p36
  have hq1 : m1 = mm := by omega
  rw [hq1] at hlo hhi
  subst hr
  show Go p e below _ T36 (mkF m 75 #[.val (.int x0), .val (.int n), .val (.ref b1), .unset, .unset, .unset, .unset, .unset, .unset, .unset, .unset] [(.int (Int32.ofNat ee))])
  refine Go.s_istoreN X36 hx (hb hby at_75) (q := 76) rfl (l' := #[.val (.int x0), .val (.int n), .val (.ref b1), .val (.int (Int32.ofNat ee)), .unset, .unset, .unset, .unset, .unset, .unset, .unset]) rfl ?_
  refine Go.s_iloadN X36 hx (hb hby at_76) (q := 77) rfl rfl ?_
  refine Go.s_iconst X36 hx (hb hby at_77) (q := 78) rfl (z := 1) rfl ?_
  by_cases c78_37 : n = (1 : Int32)
  · -- pc 78: n = (1 : Int32)
    refine Go.s_icmpYes X36 hx (hb hby at_78) (q := 85) (by decide) (by decide) (teq c78_37).1 ?_
    refine Go.s_iconst X36 hx (hb hby at_85) (q := 86) rfl (z := 0) rfl ?_
    refine Go.s_istore X36 hx (hb hby at_86) (q := 88) rfl (l' := #[.val (.int x0), .val (.int n), .val (.ref b1), .val (.int (Int32.ofNat ee)), .val (.int (0 : Int32)), .unset, .unset, .unset, .unset, .unset, .unset]) rfl ?_
    refine Go.newO X36 hx hZ hown (w_ hw 11 rfl) (w_ hw 12 rfl) (w_ hw 13 rfl) e36 (hb hby at_88) (by decide) (by decide) ?_
    intro T38 h38 b38 g38 X38 e38 E38 A38 D38
    have ne_b1_b38 : b1 ≠ b38 := Nat.ne_of_lt (g38 ▸ V33_35.lt)
    have g_b38 : n0 ≤ b38 := g38 ▸ Z0_v34
    have Z0_v39 := Nat.le_trans Z0_v34 E38.1
    have hWw33_v40 := hWw33.ext E38
    have Ow33_v41 := Old.ext Ow33 E38
    have V33_35_v42 := V33_35.ext E38
    have F_instances_b38 : Fld Z h38 b38 "com/example/irama/irama/Prefilter" "instances" "I" (.int (0 : Int32)) := D38 (Or.inr (w_ hw 21 rfl)) (ty := .int) (by decide)
    show Go p e below _ T38 (mkF m 91 #[.val (.int x0), .val (.int n), .val (.ref b1), .val (.int (Int32.ofNat ee)), .val (.int (0 : Int32)), .unset, .unset, .unset, .unset, .unset, .unset] [(.ref b38)])
    refine Go.s_dup X38 hx (hb hby at_91) (q := 92) rfl rfl ?_
    refine Go.s_iloadN X38 hx (hb hby at_92) (q := 93) rfl rfl ?_
    refine Go.callC (y := mn_2) X38 hx hZ rfl hown (w_ hw 14 rfl) (w_ hw 15 rfl) (w_ hw 16 rfl) (w_ hw 13 rfl) (by decide) e38 (b := b38) (argsL := [(.int n)]) (rest := [(.ref b38)]) (rm_pin l Z a0 hw b38 n _ n0 _ A38 F_instances_b38 g_b38 hn1) (by rw [hml]; rfl) (lenOf pd_10 rfl) rfl (hb hby at_93) (by first | decide | exact Nat.le_of_ble_eq_true rfl) (by first | decide | exact Nat.le_of_ble_eq_true rfl) (by first | decide | exact Nat.le_of_ble_eq_true rfl) (by first | decide | exact Nat.le_of_ble_eq_true rfl) ?_
    intro r43 T43 L43 q43 X43
    obtain ⟨rfl, Nq43, K43, E43p, F43p⟩ := q43
    have N43 := Fr.app N33 Nq43
    have hW43k := hWw33_v40.keep K43 (sfS (Safe.exa hZ.alike A38 (by decide) (by decide)) sf0)
    have O43 := Old.keep Ow33_v41 K43 (allS g_b38 all0)
    have Zk43 := Nat.le_trans Z0_v39 K43.1
    have Va43 := V33_35_v42.keep K43 (ninS ne_b1_b38 nin0)
    show Go p e below _ T43 (mkF m 96 #[.val (.int x0), .val (.int n), .val (.ref b1), .val (.int (Int32.ofNat ee)), .val (.int (0 : Int32)), .unset, .unset, .unset, .unset, .unset, .unset] [(.ref b38)])
    refine Go.callVW (y := mn_4) (z := mn_4) X43 hx hZ hown (w_ hw 22 rfl) (w_ hw 23 rfl) (notFace_of_selects (args := #[]) (mvT hZ (w_ hw 25 rfl))) (w_ hw 25 rfl) (w_ hw 24 rfl) (w_ hw 26 rfl) (w_ hw 13 rfl) (by decide) rfl hEL hW43k (sf := []) all0 E43p (argsL := []) (rest := []) (rm_tos l Z a0 hw b38 _ hEL n0 Zk43 O43 zc CS hzc dO dT kO kT SO VO SX VT n E43p F43p ee mm hmm he he' hlo hhi) (by rw [hml]; rfl) (lenOf pd_2 rfl) rfl (hb hby at_96) (by decide) (by decide) (by decide) (by decide) ?_
    intro r44 T44 L44 q44 X44 hZ hown hW44
    obtain ⟨sr, rfl, Nq44, K44, szr, Sr⟩ := q44
    rw [← sfx_one c78_37] at Sr
    have N44 := Fr.app N43 Nq44
    have O44 := Old.keep O43 K44 all0
    have Va44 := Va43.keep K44 nin0
    have hln := all_len ee mm tx1
    have hl9 : 26 + ee ≤ (tx0 ++ digs ee mm ++ tx1).length := by rw [hln]; omega
    have hl100 : (tx0 ++ digs ee mm ++ tx1).length ≤ 100 := by have := lw1.2; rw [hln]; omega
    have Er := Sr.exa
    show Go p e below _ T44 (mkF m 99 #[.val (.int x0), .val (.int n), .val (.ref b1), .val (.int (Int32.ofNat ee)), .val (.int (0 : Int32)), .unset, .unset, .unset, .unset, .unset, .unset] [(.ref sr)])
    refine Go.s_astore X44 hx (hb hby at_99) (q := 101) rfl rfl (l' := #[.val (.int x0), .val (.int n), .val (.ref b1), .val (.int (Int32.ofNat ee)), .val (.int (0 : Int32)), .val (.ref sr), .unset, .unset, .unset, .unset, .unset]) rfl ?_
    refine Go.s_bipush X44 hx (hb hby at_101) (q := 103) rfl (z := 26) rfl ?_
    refine Go.s_iloadN X44 hx (hb hby at_103) (q := 104) rfl rfl ?_
    refine Go.s_iadd X44 hx (hb hby at_104) (q := 105) rfl ?_
    refine Go.s_iload X44 hx (hb hby at_105) (q := 107) rfl rfl ?_
    refine Go.s_ifYes X44 hx (hb hby at_107) (q := 115) (by decide) (by decide) ((if0 _ _).trans (teq (by decide : (0 : Int32) = (0 : Int32))).1) ?_
    refine Go.s_bipush X44 hx (hb hby at_115) (q := 117) rfl (z := 9) rfl ?_
    refine Go.s_iadd X44 hx (hb hby at_117) (q := 118) rfl ?_
    refine Go.s_istore X44 hx (hb hby at_118) (q := 120) rfl (l' := #[.val (.int x0), .val (.int n), .val (.ref b1), .val (.int (Int32.ofNat ee)), .val (.int (0 : Int32)), .val (.ref sr), .val (.int (((26 : Int32) + (Int32.ofNat ee)) + (9 : Int32))), .unset, .unset, .unset, .unset]) rfl ?_
    refine Go.s_aload X44 hx (hb hby at_120) (q := 122) rfl rfl rfl ?_
    refine Go.s_ifnullNo X44 hx (hb hby at_122) (q := 125) rfl ?_
    refine Go.s_aload X44 hx (hb hby at_125) (q := 127) rfl rfl rfl ?_
    refine Go.callV (y := mn_9) (z := mn_9) X44 hx hZ hown (w_ hw 186 rfl) (w_ hw 64 rfl) (notFace_of_selects (args := #[]) (mvT hZ (w_ hw 66 rfl))) (w_ hw 66 rfl) (w_ hw 65 rfl) (w_ hw 67 rfl) (w_ hw 41 rfl) (by decide) rfl Er (argsL := []) (rest := []) (rm_sln l Z a0 hw sr _ zc (CS.ext O44.2) hzc _ (tx0 ++ digs ee mm ++ tx1) Sr) (by rw [hml]; rfl) (lenOf pd_1 rfl) rfl (hb hby at_127) (by decide) (by decide) (by decide) (by decide) ?_
    intro r45 T45 L45 q45 X45
    obtain ⟨rfl, rfl, e45⟩ := q45
    rw [List.append_nil] at X45
    show Go p e below _ T45 (mkF m 130 #[.val (.int x0), .val (.int n), .val (.ref b1), .val (.int (Int32.ofNat ee)), .val (.int (0 : Int32)), .val (.ref sr), .val (.int (((26 : Int32) + (Int32.ofNat ee)) + (9 : Int32))), .unset, .unset, .unset, .unset] [(.int (Int32.ofNat (tx0 ++ digs ee mm ++ tx1).length))])
    refine Go.s_iload X45 hx (hb hby at_130) (q := 132) rfl rfl ?_
    have hlq : (Int32.ofNat (tx0 ++ digs ee mm ++ tx1).length) = (((26 : Int32) + (Int32.ofNat ee)) + (9 : Int32)) := len_q hln he' lw1.1 (by decide)
    refine Go.s_icmpYes X45 hx (hb hby at_132) (q := 137) (by decide) (by decide) (teq hlq).1 ?_
    refine Go.ldcW (cs := tx0) X45 hx hZ hown (w_ hw 187 rfl) (w_str hw) e45 hEL (by decide) hW44 ht0 hc0 (by decide) (hb hby at_137) (by decide) (by decide) ?_
    intro T46 h46 b46 X46 e46 E46 hZ hown S46 hW46 R46
    have O44_v47 := Old.ext O44 E46
    have Va44_v48 := Va44.ext E46
    have Sr_v49 := Sr.ext E46
    have Er_v50 := Er.ext E46
    show Go p e below _ T46 (mkF m 139 #[.val (.int x0), .val (.int n), .val (.ref b1), .val (.int (Int32.ofNat ee)), .val (.int (0 : Int32)), .val (.ref sr), .val (.int (((26 : Int32) + (Int32.ofNat ee)) + (9 : Int32))), .unset, .unset, .unset, .unset] [(.ref b46)])
    refine Go.s_astore X46 hx (hb hby at_139) (q := 141) rfl rfl (l' := #[.val (.int x0), .val (.int n), .val (.ref b1), .val (.int (Int32.ofNat ee)), .val (.int (0 : Int32)), .val (.ref sr), .val (.int (((26 : Int32) + (Int32.ofNat ee)) + (9 : Int32))), .val (.ref b46), .unset, .unset, .unset]) rfl ?_
    refine Go.s_aload X46 hx (hb hby at_141) (q := 143) rfl rfl rfl ?_
    refine Go.s_aload X46 hx (hb hby at_143) (q := 145) rfl rfl rfl ?_
    refine Go.s_iconst X46 hx (hb hby at_145) (q := 146) rfl (z := 0) rfl ?_
    refine Go.callS (y := mn_34) X46 hx hZ hown (w_ hw 188 rfl) (w_ hw 189 rfl) (w_ hw 9 rfl) (w_ hw 190 rfl) (by decide) e46 (argsL := [(.ref sr), (.ref b46), (.int (0 : Int32))]) (rest := []) (rm_lc l Z a0 hw sr b46 (0 : Int32) _ zc (CS.ext O44_v47.2) hzc fm (SF.ext O44_v47.2) rf _ (tx0 ++ digs ee mm ++ tx1) Sr_v49 _ tx0 S46 (by decide) (lt_26 (by decide) hl9 hl100) (by decide) (pre_at (by decide))) (by rw [hml]; rfl) (lenOf pd_23 rfl) rfl (hb hby at_146) (by decide) (by decide) (by decide) (by decide) ?_
    intro r51 T51 L51 q51 X51
    obtain ⟨rfl, rfl, e51⟩ := q51
    rw [List.append_nil] at X51
    show Go p e below _ T51 (mkF m 149 #[.val (.int x0), .val (.int n), .val (.ref b1), .val (.int (Int32.ofNat ee)), .val (.int (0 : Int32)), .val (.ref sr), .val (.int (((26 : Int32) + (Int32.ofNat ee)) + (9 : Int32))), .val (.ref b46), .unset, .unset, .unset] [(.int (1 : Int32))])
    refine Go.s_ifNo X51 hx (hb hby at_149) (q := 152) rfl ((if0 _ _).trans (feq (by decide : ¬ ((1 : Int32) = (0 : Int32)))).1) ?_
    refine Go.s_aload X51 hx (hb hby at_152) (q := 154) rfl rfl rfl ?_
    refine Go.s_aload X51 hx (hb hby at_154) (q := 156) rfl rfl rfl ?_
    refine Go.s_iconst X51 hx (hb hby at_156) (q := 157) rfl (z := 1) rfl ?_
    refine Go.callS (y := mn_34) X51 hx hZ hown (w_ hw 188 rfl) (w_ hw 189 rfl) (w_ hw 9 rfl) (w_ hw 190 rfl) (by decide) e51 (argsL := [(.ref sr), (.ref b46), (.int (1 : Int32))]) (rest := []) (rm_lc l Z a0 hw sr b46 (1 : Int32) _ zc (CS.ext O44_v47.2) hzc fm (SF.ext O44_v47.2) rf _ (tx0 ++ digs ee mm ++ tx1) Sr_v49 _ tx0 S46 (by decide) (lt_26 (by decide) hl9 hl100) (by decide) (pre_at (by decide))) (by rw [hml]; rfl) (lenOf pd_23 rfl) rfl (hb hby at_157) (by decide) (by decide) (by decide) (by decide) ?_
    intro r52 T52 L52 q52 X52
    obtain ⟨rfl, rfl, e52⟩ := q52
    rw [List.append_nil] at X52
    show Go p e below _ T52 (mkF m 160 #[.val (.int x0), .val (.int n), .val (.ref b1), .val (.int (Int32.ofNat ee)), .val (.int (0 : Int32)), .val (.ref sr), .val (.int (((26 : Int32) + (Int32.ofNat ee)) + (9 : Int32))), .val (.ref b46), .unset, .unset, .unset] [(.int (1 : Int32))])
    refine Go.s_ifNo X52 hx (hb hby at_160) (q := 163) rfl ((if0 _ _).trans (feq (by decide : ¬ ((1 : Int32) = (0 : Int32)))).1) ?_
    refine Go.s_aload X52 hx (hb hby at_163) (q := 165) rfl rfl rfl ?_
    refine Go.s_aload X52 hx (hb hby at_165) (q := 167) rfl rfl rfl ?_
    refine Go.s_iconst X52 hx (hb hby at_167) (q := 168) rfl (z := 2) rfl ?_
    refine Go.callS (y := mn_34) X52 hx hZ hown (w_ hw 188 rfl) (w_ hw 189 rfl) (w_ hw 9 rfl) (w_ hw 190 rfl) (by decide) e52 (argsL := [(.ref sr), (.ref b46), (.int (2 : Int32))]) (rest := []) (rm_lc l Z a0 hw sr b46 (2 : Int32) _ zc (CS.ext O44_v47.2) hzc fm (SF.ext O44_v47.2) rf _ (tx0 ++ digs ee mm ++ tx1) Sr_v49 _ tx0 S46 (by decide) (lt_26 (by decide) hl9 hl100) (by decide) (pre_at (by decide))) (by rw [hml]; rfl) (lenOf pd_23 rfl) rfl (hb hby at_168) (by decide) (by decide) (by decide) (by decide) ?_
    intro r53 T53 L53 q53 X53
    obtain ⟨rfl, rfl, e53⟩ := q53
    rw [List.append_nil] at X53
    show Go p e below _ T53 (mkF m 171 #[.val (.int x0), .val (.int n), .val (.ref b1), .val (.int (Int32.ofNat ee)), .val (.int (0 : Int32)), .val (.ref sr), .val (.int (((26 : Int32) + (Int32.ofNat ee)) + (9 : Int32))), .val (.ref b46), .unset, .unset, .unset] [(.int (1 : Int32))])
    refine Go.s_ifNo X53 hx (hb hby at_171) (q := 174) rfl ((if0 _ _).trans (feq (by decide : ¬ ((1 : Int32) = (0 : Int32)))).1) ?_
    refine Go.s_aload X53 hx (hb hby at_174) (q := 176) rfl rfl rfl ?_
    refine Go.s_aload X53 hx (hb hby at_176) (q := 178) rfl rfl rfl ?_
    refine Go.s_iconst X53 hx (hb hby at_178) (q := 179) rfl (z := 3) rfl ?_
    refine Go.callS (y := mn_34) X53 hx hZ hown (w_ hw 188 rfl) (w_ hw 189 rfl) (w_ hw 9 rfl) (w_ hw 190 rfl) (by decide) e53 (argsL := [(.ref sr), (.ref b46), (.int (3 : Int32))]) (rest := []) (rm_lc l Z a0 hw sr b46 (3 : Int32) _ zc (CS.ext O44_v47.2) hzc fm (SF.ext O44_v47.2) rf _ (tx0 ++ digs ee mm ++ tx1) Sr_v49 _ tx0 S46 (by decide) (lt_26 (by decide) hl9 hl100) (by decide) (pre_at (by decide))) (by rw [hml]; rfl) (lenOf pd_23 rfl) rfl (hb hby at_179) (by decide) (by decide) (by decide) (by decide) ?_
    intro r54 T54 L54 q54 X54
    obtain ⟨rfl, rfl, e54⟩ := q54
    rw [List.append_nil] at X54
    show Go p e below _ T54 (mkF m 182 #[.val (.int x0), .val (.int n), .val (.ref b1), .val (.int (Int32.ofNat ee)), .val (.int (0 : Int32)), .val (.ref sr), .val (.int (((26 : Int32) + (Int32.ofNat ee)) + (9 : Int32))), .val (.ref b46), .unset, .unset, .unset] [(.int (1 : Int32))])
    refine Go.s_ifNo X54 hx (hb hby at_182) (q := 185) rfl ((if0 _ _).trans (feq (by decide : ¬ ((1 : Int32) = (0 : Int32)))).1) ?_
    refine Go.s_aload X54 hx (hb hby at_185) (q := 187) rfl rfl rfl ?_
    refine Go.s_aload X54 hx (hb hby at_187) (q := 189) rfl rfl rfl ?_
    refine Go.s_iconst X54 hx (hb hby at_189) (q := 190) rfl (z := 4) rfl ?_
    refine Go.callS (y := mn_34) X54 hx hZ hown (w_ hw 188 rfl) (w_ hw 189 rfl) (w_ hw 9 rfl) (w_ hw 190 rfl) (by decide) e54 (argsL := [(.ref sr), (.ref b46), (.int (4 : Int32))]) (rest := []) (rm_lc l Z a0 hw sr b46 (4 : Int32) _ zc (CS.ext O44_v47.2) hzc fm (SF.ext O44_v47.2) rf _ (tx0 ++ digs ee mm ++ tx1) Sr_v49 _ tx0 S46 (by decide) (lt_26 (by decide) hl9 hl100) (by decide) (pre_at (by decide))) (by rw [hml]; rfl) (lenOf pd_23 rfl) rfl (hb hby at_190) (by decide) (by decide) (by decide) (by decide) ?_
    intro r55 T55 L55 q55 X55
    obtain ⟨rfl, rfl, e55⟩ := q55
    rw [List.append_nil] at X55
    show Go p e below _ T55 (mkF m 193 #[.val (.int x0), .val (.int n), .val (.ref b1), .val (.int (Int32.ofNat ee)), .val (.int (0 : Int32)), .val (.ref sr), .val (.int (((26 : Int32) + (Int32.ofNat ee)) + (9 : Int32))), .val (.ref b46), .unset, .unset, .unset] [(.int (1 : Int32))])
    refine Go.s_ifNo X55 hx (hb hby at_193) (q := 196) rfl ((if0 _ _).trans (feq (by decide : ¬ ((1 : Int32) = (0 : Int32)))).1) ?_
    refine Go.s_aload X55 hx (hb hby at_196) (q := 198) rfl rfl rfl ?_
    refine Go.s_aload X55 hx (hb hby at_198) (q := 200) rfl rfl rfl ?_
    refine Go.s_iconst X55 hx (hb hby at_200) (q := 201) rfl (z := 5) rfl ?_
    refine Go.callS (y := mn_34) X55 hx hZ hown (w_ hw 188 rfl) (w_ hw 189 rfl) (w_ hw 9 rfl) (w_ hw 190 rfl) (by decide) e55 (argsL := [(.ref sr), (.ref b46), (.int (5 : Int32))]) (rest := []) (rm_lc l Z a0 hw sr b46 (5 : Int32) _ zc (CS.ext O44_v47.2) hzc fm (SF.ext O44_v47.2) rf _ (tx0 ++ digs ee mm ++ tx1) Sr_v49 _ tx0 S46 (by decide) (lt_26 (by decide) hl9 hl100) (by decide) (pre_at (by decide))) (by rw [hml]; rfl) (lenOf pd_23 rfl) rfl (hb hby at_201) (by decide) (by decide) (by decide) (by decide) ?_
    intro r56 T56 L56 q56 X56
    obtain ⟨rfl, rfl, e56⟩ := q56
    rw [List.append_nil] at X56
    show Go p e below _ T56 (mkF m 204 #[.val (.int x0), .val (.int n), .val (.ref b1), .val (.int (Int32.ofNat ee)), .val (.int (0 : Int32)), .val (.ref sr), .val (.int (((26 : Int32) + (Int32.ofNat ee)) + (9 : Int32))), .val (.ref b46), .unset, .unset, .unset] [(.int (1 : Int32))])
    refine Go.s_ifNo X56 hx (hb hby at_204) (q := 207) rfl ((if0 _ _).trans (feq (by decide : ¬ ((1 : Int32) = (0 : Int32)))).1) ?_
    refine Go.s_aload X56 hx (hb hby at_207) (q := 209) rfl rfl rfl ?_
    refine Go.s_aload X56 hx (hb hby at_209) (q := 211) rfl rfl rfl ?_
    refine Go.s_bipush X56 hx (hb hby at_211) (q := 213) rfl (z := 6) rfl ?_
    refine Go.callS (y := mn_34) X56 hx hZ hown (w_ hw 188 rfl) (w_ hw 189 rfl) (w_ hw 9 rfl) (w_ hw 190 rfl) (by decide) e56 (argsL := [(.ref sr), (.ref b46), (.int (6 : Int32))]) (rest := []) (rm_lc l Z a0 hw sr b46 (6 : Int32) _ zc (CS.ext O44_v47.2) hzc fm (SF.ext O44_v47.2) rf _ (tx0 ++ digs ee mm ++ tx1) Sr_v49 _ tx0 S46 (by decide) (lt_26 (by decide) hl9 hl100) (by decide) (pre_at (by decide))) (by rw [hml]; rfl) (lenOf pd_23 rfl) rfl (hb hby at_213) (by decide) (by decide) (by decide) (by decide) ?_
    intro r57 T57 L57 q57 X57
    obtain ⟨rfl, rfl, e57⟩ := q57
    rw [List.append_nil] at X57
    show Go p e below _ T57 (mkF m 216 #[.val (.int x0), .val (.int n), .val (.ref b1), .val (.int (Int32.ofNat ee)), .val (.int (0 : Int32)), .val (.ref sr), .val (.int (((26 : Int32) + (Int32.ofNat ee)) + (9 : Int32))), .val (.ref b46), .unset, .unset, .unset] [(.int (1 : Int32))])
    refine Go.s_ifNo X57 hx (hb hby at_216) (q := 219) rfl ((if0 _ _).trans (feq (by decide : ¬ ((1 : Int32) = (0 : Int32)))).1) ?_
    refine Go.s_aload X57 hx (hb hby at_219) (q := 221) rfl rfl rfl ?_
    refine Go.s_aload X57 hx (hb hby at_221) (q := 223) rfl rfl rfl ?_
    refine Go.s_bipush X57 hx (hb hby at_223) (q := 225) rfl (z := 7) rfl ?_
    refine Go.callS (y := mn_34) X57 hx hZ hown (w_ hw 188 rfl) (w_ hw 189 rfl) (w_ hw 9 rfl) (w_ hw 190 rfl) (by decide) e57 (argsL := [(.ref sr), (.ref b46), (.int (7 : Int32))]) (rest := []) (rm_lc l Z a0 hw sr b46 (7 : Int32) _ zc (CS.ext O44_v47.2) hzc fm (SF.ext O44_v47.2) rf _ (tx0 ++ digs ee mm ++ tx1) Sr_v49 _ tx0 S46 (by decide) (lt_26 (by decide) hl9 hl100) (by decide) (pre_at (by decide))) (by rw [hml]; rfl) (lenOf pd_23 rfl) rfl (hb hby at_225) (by decide) (by decide) (by decide) (by decide) ?_
    intro r58 T58 L58 q58 X58
    obtain ⟨rfl, rfl, e58⟩ := q58
    rw [List.append_nil] at X58
    show Go p e below _ T58 (mkF m 228 #[.val (.int x0), .val (.int n), .val (.ref b1), .val (.int (Int32.ofNat ee)), .val (.int (0 : Int32)), .val (.ref sr), .val (.int (((26 : Int32) + (Int32.ofNat ee)) + (9 : Int32))), .val (.ref b46), .unset, .unset, .unset] [(.int (1 : Int32))])
    refine Go.s_ifNo X58 hx (hb hby at_228) (q := 231) rfl ((if0 _ _).trans (feq (by decide : ¬ ((1 : Int32) = (0 : Int32)))).1) ?_
    refine Go.s_aload X58 hx (hb hby at_231) (q := 233) rfl rfl rfl ?_
    refine Go.s_aload X58 hx (hb hby at_233) (q := 235) rfl rfl rfl ?_
    refine Go.s_bipush X58 hx (hb hby at_235) (q := 237) rfl (z := 8) rfl ?_
    refine Go.callS (y := mn_34) X58 hx hZ hown (w_ hw 188 rfl) (w_ hw 189 rfl) (w_ hw 9 rfl) (w_ hw 190 rfl) (by decide) e58 (argsL := [(.ref sr), (.ref b46), (.int (8 : Int32))]) (rest := []) (rm_lc l Z a0 hw sr b46 (8 : Int32) _ zc (CS.ext O44_v47.2) hzc fm (SF.ext O44_v47.2) rf _ (tx0 ++ digs ee mm ++ tx1) Sr_v49 _ tx0 S46 (by decide) (lt_26 (by decide) hl9 hl100) (by decide) (pre_at (by decide))) (by rw [hml]; rfl) (lenOf pd_23 rfl) rfl (hb hby at_237) (by decide) (by decide) (by decide) (by decide) ?_
    intro r59 T59 L59 q59 X59
    obtain ⟨rfl, rfl, e59⟩ := q59
    rw [List.append_nil] at X59
    show Go p e below _ T59 (mkF m 240 #[.val (.int x0), .val (.int n), .val (.ref b1), .val (.int (Int32.ofNat ee)), .val (.int (0 : Int32)), .val (.ref sr), .val (.int (((26 : Int32) + (Int32.ofNat ee)) + (9 : Int32))), .val (.ref b46), .unset, .unset, .unset] [(.int (1 : Int32))])
    refine Go.s_ifNo X59 hx (hb hby at_240) (q := 243) rfl ((if0 _ _).trans (feq (by decide : ¬ ((1 : Int32) = (0 : Int32)))).1) ?_
    refine Go.s_aload X59 hx (hb hby at_243) (q := 245) rfl rfl rfl ?_
    refine Go.s_aload X59 hx (hb hby at_245) (q := 247) rfl rfl rfl ?_
    refine Go.s_bipush X59 hx (hb hby at_247) (q := 249) rfl (z := 9) rfl ?_
    refine Go.callS (y := mn_34) X59 hx hZ hown (w_ hw 188 rfl) (w_ hw 189 rfl) (w_ hw 9 rfl) (w_ hw 190 rfl) (by decide) e59 (argsL := [(.ref sr), (.ref b46), (.int (9 : Int32))]) (rest := []) (rm_lc l Z a0 hw sr b46 (9 : Int32) _ zc (CS.ext O44_v47.2) hzc fm (SF.ext O44_v47.2) rf _ (tx0 ++ digs ee mm ++ tx1) Sr_v49 _ tx0 S46 (by decide) (lt_26 (by decide) hl9 hl100) (by decide) (pre_at (by decide))) (by rw [hml]; rfl) (lenOf pd_23 rfl) rfl (hb hby at_249) (by decide) (by decide) (by decide) (by decide) ?_
    intro r60 T60 L60 q60 X60
    obtain ⟨rfl, rfl, e60⟩ := q60
    rw [List.append_nil] at X60
    show Go p e below _ T60 (mkF m 252 #[.val (.int x0), .val (.int n), .val (.ref b1), .val (.int (Int32.ofNat ee)), .val (.int (0 : Int32)), .val (.ref sr), .val (.int (((26 : Int32) + (Int32.ofNat ee)) + (9 : Int32))), .val (.ref b46), .unset, .unset, .unset] [(.int (1 : Int32))])
    refine Go.s_ifNo X60 hx (hb hby at_252) (q := 255) rfl ((if0 _ _).trans (feq (by decide : ¬ ((1 : Int32) = (0 : Int32)))).1) ?_
    refine Go.s_aload X60 hx (hb hby at_255) (q := 257) rfl rfl rfl ?_
    refine Go.s_aload X60 hx (hb hby at_257) (q := 259) rfl rfl rfl ?_
    refine Go.s_bipush X60 hx (hb hby at_259) (q := 261) rfl (z := 10) rfl ?_
    refine Go.callS (y := mn_34) X60 hx hZ hown (w_ hw 188 rfl) (w_ hw 189 rfl) (w_ hw 9 rfl) (w_ hw 190 rfl) (by decide) e60 (argsL := [(.ref sr), (.ref b46), (.int (10 : Int32))]) (rest := []) (rm_lc l Z a0 hw sr b46 (10 : Int32) _ zc (CS.ext O44_v47.2) hzc fm (SF.ext O44_v47.2) rf _ (tx0 ++ digs ee mm ++ tx1) Sr_v49 _ tx0 S46 (by decide) (lt_26 (by decide) hl9 hl100) (by decide) (pre_at (by decide))) (by rw [hml]; rfl) (lenOf pd_23 rfl) rfl (hb hby at_261) (by decide) (by decide) (by decide) (by decide) ?_
    intro r61 T61 L61 q61 X61
    obtain ⟨rfl, rfl, e61⟩ := q61
    rw [List.append_nil] at X61
    show Go p e below _ T61 (mkF m 264 #[.val (.int x0), .val (.int n), .val (.ref b1), .val (.int (Int32.ofNat ee)), .val (.int (0 : Int32)), .val (.ref sr), .val (.int (((26 : Int32) + (Int32.ofNat ee)) + (9 : Int32))), .val (.ref b46), .unset, .unset, .unset] [(.int (1 : Int32))])
    refine Go.s_ifNo X61 hx (hb hby at_264) (q := 267) rfl ((if0 _ _).trans (feq (by decide : ¬ ((1 : Int32) = (0 : Int32)))).1) ?_
    refine Go.s_aload X61 hx (hb hby at_267) (q := 269) rfl rfl rfl ?_
    refine Go.s_aload X61 hx (hb hby at_269) (q := 271) rfl rfl rfl ?_
    refine Go.s_bipush X61 hx (hb hby at_271) (q := 273) rfl (z := 11) rfl ?_
    refine Go.callS (y := mn_34) X61 hx hZ hown (w_ hw 188 rfl) (w_ hw 189 rfl) (w_ hw 9 rfl) (w_ hw 190 rfl) (by decide) e61 (argsL := [(.ref sr), (.ref b46), (.int (11 : Int32))]) (rest := []) (rm_lc l Z a0 hw sr b46 (11 : Int32) _ zc (CS.ext O44_v47.2) hzc fm (SF.ext O44_v47.2) rf _ (tx0 ++ digs ee mm ++ tx1) Sr_v49 _ tx0 S46 (by decide) (lt_26 (by decide) hl9 hl100) (by decide) (pre_at (by decide))) (by rw [hml]; rfl) (lenOf pd_23 rfl) rfl (hb hby at_273) (by decide) (by decide) (by decide) (by decide) ?_
    intro r62 T62 L62 q62 X62
    obtain ⟨rfl, rfl, e62⟩ := q62
    rw [List.append_nil] at X62
    show Go p e below _ T62 (mkF m 276 #[.val (.int x0), .val (.int n), .val (.ref b1), .val (.int (Int32.ofNat ee)), .val (.int (0 : Int32)), .val (.ref sr), .val (.int (((26 : Int32) + (Int32.ofNat ee)) + (9 : Int32))), .val (.ref b46), .unset, .unset, .unset] [(.int (1 : Int32))])
    refine Go.s_ifNo X62 hx (hb hby at_276) (q := 279) rfl ((if0 _ _).trans (feq (by decide : ¬ ((1 : Int32) = (0 : Int32)))).1) ?_
    refine Go.s_aload X62 hx (hb hby at_279) (q := 281) rfl rfl rfl ?_
    refine Go.s_aload X62 hx (hb hby at_281) (q := 283) rfl rfl rfl ?_
    refine Go.s_bipush X62 hx (hb hby at_283) (q := 285) rfl (z := 12) rfl ?_
    refine Go.callS (y := mn_34) X62 hx hZ hown (w_ hw 188 rfl) (w_ hw 189 rfl) (w_ hw 9 rfl) (w_ hw 190 rfl) (by decide) e62 (argsL := [(.ref sr), (.ref b46), (.int (12 : Int32))]) (rest := []) (rm_lc l Z a0 hw sr b46 (12 : Int32) _ zc (CS.ext O44_v47.2) hzc fm (SF.ext O44_v47.2) rf _ (tx0 ++ digs ee mm ++ tx1) Sr_v49 _ tx0 S46 (by decide) (lt_26 (by decide) hl9 hl100) (by decide) (pre_at (by decide))) (by rw [hml]; rfl) (lenOf pd_23 rfl) rfl (hb hby at_285) (by decide) (by decide) (by decide) (by decide) ?_
    intro r63 T63 L63 q63 X63
    obtain ⟨rfl, rfl, e63⟩ := q63
    rw [List.append_nil] at X63
    show Go p e below _ T63 (mkF m 288 #[.val (.int x0), .val (.int n), .val (.ref b1), .val (.int (Int32.ofNat ee)), .val (.int (0 : Int32)), .val (.ref sr), .val (.int (((26 : Int32) + (Int32.ofNat ee)) + (9 : Int32))), .val (.ref b46), .unset, .unset, .unset] [(.int (1 : Int32))])
    refine Go.s_ifNo X63 hx (hb hby at_288) (q := 291) rfl ((if0 _ _).trans (feq (by decide : ¬ ((1 : Int32) = (0 : Int32)))).1) ?_
    refine Go.s_aload X63 hx (hb hby at_291) (q := 293) rfl rfl rfl ?_
    refine Go.s_aload X63 hx (hb hby at_293) (q := 295) rfl rfl rfl ?_
    refine Go.s_bipush X63 hx (hb hby at_295) (q := 297) rfl (z := 13) rfl ?_
    refine Go.callS (y := mn_34) X63 hx hZ hown (w_ hw 188 rfl) (w_ hw 189 rfl) (w_ hw 9 rfl) (w_ hw 190 rfl) (by decide) e63 (argsL := [(.ref sr), (.ref b46), (.int (13 : Int32))]) (rest := []) (rm_lc l Z a0 hw sr b46 (13 : Int32) _ zc (CS.ext O44_v47.2) hzc fm (SF.ext O44_v47.2) rf _ (tx0 ++ digs ee mm ++ tx1) Sr_v49 _ tx0 S46 (by decide) (lt_26 (by decide) hl9 hl100) (by decide) (pre_at (by decide))) (by rw [hml]; rfl) (lenOf pd_23 rfl) rfl (hb hby at_297) (by decide) (by decide) (by decide) (by decide) ?_
    intro r64 T64 L64 q64 X64
    obtain ⟨rfl, rfl, e64⟩ := q64
    rw [List.append_nil] at X64
    show Go p e below _ T64 (mkF m 300 #[.val (.int x0), .val (.int n), .val (.ref b1), .val (.int (Int32.ofNat ee)), .val (.int (0 : Int32)), .val (.ref sr), .val (.int (((26 : Int32) + (Int32.ofNat ee)) + (9 : Int32))), .val (.ref b46), .unset, .unset, .unset] [(.int (1 : Int32))])
    refine Go.s_ifNo X64 hx (hb hby at_300) (q := 303) rfl ((if0 _ _).trans (feq (by decide : ¬ ((1 : Int32) = (0 : Int32)))).1) ?_
    refine Go.s_aload X64 hx (hb hby at_303) (q := 305) rfl rfl rfl ?_
    refine Go.s_aload X64 hx (hb hby at_305) (q := 307) rfl rfl rfl ?_
    refine Go.s_bipush X64 hx (hb hby at_307) (q := 309) rfl (z := 14) rfl ?_
    refine Go.callS (y := mn_34) X64 hx hZ hown (w_ hw 188 rfl) (w_ hw 189 rfl) (w_ hw 9 rfl) (w_ hw 190 rfl) (by decide) e64 (argsL := [(.ref sr), (.ref b46), (.int (14 : Int32))]) (rest := []) (rm_lc l Z a0 hw sr b46 (14 : Int32) _ zc (CS.ext O44_v47.2) hzc fm (SF.ext O44_v47.2) rf _ (tx0 ++ digs ee mm ++ tx1) Sr_v49 _ tx0 S46 (by decide) (lt_26 (by decide) hl9 hl100) (by decide) (pre_at (by decide))) (by rw [hml]; rfl) (lenOf pd_23 rfl) rfl (hb hby at_309) (by decide) (by decide) (by decide) (by decide) ?_
    intro r65 T65 L65 q65 X65
    obtain ⟨rfl, rfl, e65⟩ := q65
    rw [List.append_nil] at X65
    show Go p e below _ T65 (mkF m 312 #[.val (.int x0), .val (.int n), .val (.ref b1), .val (.int (Int32.ofNat ee)), .val (.int (0 : Int32)), .val (.ref sr), .val (.int (((26 : Int32) + (Int32.ofNat ee)) + (9 : Int32))), .val (.ref b46), .unset, .unset, .unset] [(.int (1 : Int32))])
    refine Go.s_ifNo X65 hx (hb hby at_312) (q := 315) rfl ((if0 _ _).trans (feq (by decide : ¬ ((1 : Int32) = (0 : Int32)))).1) ?_
    refine Go.s_aload X65 hx (hb hby at_315) (q := 317) rfl rfl rfl ?_
    refine Go.s_aload X65 hx (hb hby at_317) (q := 319) rfl rfl rfl ?_
    refine Go.s_bipush X65 hx (hb hby at_319) (q := 321) rfl (z := 15) rfl ?_
    refine Go.callS (y := mn_34) X65 hx hZ hown (w_ hw 188 rfl) (w_ hw 189 rfl) (w_ hw 9 rfl) (w_ hw 190 rfl) (by decide) e65 (argsL := [(.ref sr), (.ref b46), (.int (15 : Int32))]) (rest := []) (rm_lc l Z a0 hw sr b46 (15 : Int32) _ zc (CS.ext O44_v47.2) hzc fm (SF.ext O44_v47.2) rf _ (tx0 ++ digs ee mm ++ tx1) Sr_v49 _ tx0 S46 (by decide) (lt_26 (by decide) hl9 hl100) (by decide) (pre_at (by decide))) (by rw [hml]; rfl) (lenOf pd_23 rfl) rfl (hb hby at_321) (by decide) (by decide) (by decide) (by decide) ?_
    intro r66 T66 L66 q66 X66
    obtain ⟨rfl, rfl, e66⟩ := q66
    rw [List.append_nil] at X66
    show Go p e below _ T66 (mkF m 324 #[.val (.int x0), .val (.int n), .val (.ref b1), .val (.int (Int32.ofNat ee)), .val (.int (0 : Int32)), .val (.ref sr), .val (.int (((26 : Int32) + (Int32.ofNat ee)) + (9 : Int32))), .val (.ref b46), .unset, .unset, .unset] [(.int (1 : Int32))])
    refine Go.s_ifNo X66 hx (hb hby at_324) (q := 327) rfl ((if0 _ _).trans (feq (by decide : ¬ ((1 : Int32) = (0 : Int32)))).1) ?_
    refine Go.s_aload X66 hx (hb hby at_327) (q := 329) rfl rfl rfl ?_
    refine Go.s_aload X66 hx (hb hby at_329) (q := 331) rfl rfl rfl ?_
    refine Go.s_bipush X66 hx (hb hby at_331) (q := 333) rfl (z := 16) rfl ?_
    refine Go.callS (y := mn_34) X66 hx hZ hown (w_ hw 188 rfl) (w_ hw 189 rfl) (w_ hw 9 rfl) (w_ hw 190 rfl) (by decide) e66 (argsL := [(.ref sr), (.ref b46), (.int (16 : Int32))]) (rest := []) (rm_lc l Z a0 hw sr b46 (16 : Int32) _ zc (CS.ext O44_v47.2) hzc fm (SF.ext O44_v47.2) rf _ (tx0 ++ digs ee mm ++ tx1) Sr_v49 _ tx0 S46 (by decide) (lt_26 (by decide) hl9 hl100) (by decide) (pre_at (by decide))) (by rw [hml]; rfl) (lenOf pd_23 rfl) rfl (hb hby at_333) (by decide) (by decide) (by decide) (by decide) ?_
    intro r67 T67 L67 q67 X67
    obtain ⟨rfl, rfl, e67⟩ := q67
    rw [List.append_nil] at X67
    show Go p e below _ T67 (mkF m 336 #[.val (.int x0), .val (.int n), .val (.ref b1), .val (.int (Int32.ofNat ee)), .val (.int (0 : Int32)), .val (.ref sr), .val (.int (((26 : Int32) + (Int32.ofNat ee)) + (9 : Int32))), .val (.ref b46), .unset, .unset, .unset] [(.int (1 : Int32))])
    refine Go.s_ifNo X67 hx (hb hby at_336) (q := 339) rfl ((if0 _ _).trans (feq (by decide : ¬ ((1 : Int32) = (0 : Int32)))).1) ?_
    refine Go.s_aload X67 hx (hb hby at_339) (q := 341) rfl rfl rfl ?_
    refine Go.s_aload X67 hx (hb hby at_341) (q := 343) rfl rfl rfl ?_
    refine Go.s_bipush X67 hx (hb hby at_343) (q := 345) rfl (z := 17) rfl ?_
    refine Go.callS (y := mn_34) X67 hx hZ hown (w_ hw 188 rfl) (w_ hw 189 rfl) (w_ hw 9 rfl) (w_ hw 190 rfl) (by decide) e67 (argsL := [(.ref sr), (.ref b46), (.int (17 : Int32))]) (rest := []) (rm_lc l Z a0 hw sr b46 (17 : Int32) _ zc (CS.ext O44_v47.2) hzc fm (SF.ext O44_v47.2) rf _ (tx0 ++ digs ee mm ++ tx1) Sr_v49 _ tx0 S46 (by decide) (lt_26 (by decide) hl9 hl100) (by decide) (pre_at (by decide))) (by rw [hml]; rfl) (lenOf pd_23 rfl) rfl (hb hby at_345) (by decide) (by decide) (by decide) (by decide) ?_
    intro r68 T68 L68 q68 X68
    obtain ⟨rfl, rfl, e68⟩ := q68
    rw [List.append_nil] at X68
    show Go p e below _ T68 (mkF m 348 #[.val (.int x0), .val (.int n), .val (.ref b1), .val (.int (Int32.ofNat ee)), .val (.int (0 : Int32)), .val (.ref sr), .val (.int (((26 : Int32) + (Int32.ofNat ee)) + (9 : Int32))), .val (.ref b46), .unset, .unset, .unset] [(.int (1 : Int32))])
    refine Go.s_ifNo X68 hx (hb hby at_348) (q := 351) rfl ((if0 _ _).trans (feq (by decide : ¬ ((1 : Int32) = (0 : Int32)))).1) ?_
    refine Go.s_aload X68 hx (hb hby at_351) (q := 353) rfl rfl rfl ?_
    refine Go.s_aload X68 hx (hb hby at_353) (q := 355) rfl rfl rfl ?_
    refine Go.s_bipush X68 hx (hb hby at_355) (q := 357) rfl (z := 18) rfl ?_
    refine Go.callS (y := mn_34) X68 hx hZ hown (w_ hw 188 rfl) (w_ hw 189 rfl) (w_ hw 9 rfl) (w_ hw 190 rfl) (by decide) e68 (argsL := [(.ref sr), (.ref b46), (.int (18 : Int32))]) (rest := []) (rm_lc l Z a0 hw sr b46 (18 : Int32) _ zc (CS.ext O44_v47.2) hzc fm (SF.ext O44_v47.2) rf _ (tx0 ++ digs ee mm ++ tx1) Sr_v49 _ tx0 S46 (by decide) (lt_26 (by decide) hl9 hl100) (by decide) (pre_at (by decide))) (by rw [hml]; rfl) (lenOf pd_23 rfl) rfl (hb hby at_357) (by decide) (by decide) (by decide) (by decide) ?_
    intro r69 T69 L69 q69 X69
    obtain ⟨rfl, rfl, e69⟩ := q69
    rw [List.append_nil] at X69
    show Go p e below _ T69 (mkF m 360 #[.val (.int x0), .val (.int n), .val (.ref b1), .val (.int (Int32.ofNat ee)), .val (.int (0 : Int32)), .val (.ref sr), .val (.int (((26 : Int32) + (Int32.ofNat ee)) + (9 : Int32))), .val (.ref b46), .unset, .unset, .unset] [(.int (1 : Int32))])
    refine Go.s_ifNo X69 hx (hb hby at_360) (q := 363) rfl ((if0 _ _).trans (feq (by decide : ¬ ((1 : Int32) = (0 : Int32)))).1) ?_
    refine Go.s_aload X69 hx (hb hby at_363) (q := 365) rfl rfl rfl ?_
    refine Go.s_aload X69 hx (hb hby at_365) (q := 367) rfl rfl rfl ?_
    refine Go.s_bipush X69 hx (hb hby at_367) (q := 369) rfl (z := 19) rfl ?_
    refine Go.callS (y := mn_34) X69 hx hZ hown (w_ hw 188 rfl) (w_ hw 189 rfl) (w_ hw 9 rfl) (w_ hw 190 rfl) (by decide) e69 (argsL := [(.ref sr), (.ref b46), (.int (19 : Int32))]) (rest := []) (rm_lc l Z a0 hw sr b46 (19 : Int32) _ zc (CS.ext O44_v47.2) hzc fm (SF.ext O44_v47.2) rf _ (tx0 ++ digs ee mm ++ tx1) Sr_v49 _ tx0 S46 (by decide) (lt_26 (by decide) hl9 hl100) (by decide) (pre_at (by decide))) (by rw [hml]; rfl) (lenOf pd_23 rfl) rfl (hb hby at_369) (by decide) (by decide) (by decide) (by decide) ?_
    intro r70 T70 L70 q70 X70
    obtain ⟨rfl, rfl, e70⟩ := q70
    rw [List.append_nil] at X70
    show Go p e below _ T70 (mkF m 372 #[.val (.int x0), .val (.int n), .val (.ref b1), .val (.int (Int32.ofNat ee)), .val (.int (0 : Int32)), .val (.ref sr), .val (.int (((26 : Int32) + (Int32.ofNat ee)) + (9 : Int32))), .val (.ref b46), .unset, .unset, .unset] [(.int (1 : Int32))])
    refine Go.s_ifNo X70 hx (hb hby at_372) (q := 375) rfl ((if0 _ _).trans (feq (by decide : ¬ ((1 : Int32) = (0 : Int32)))).1) ?_
    refine Go.s_aload X70 hx (hb hby at_375) (q := 377) rfl rfl rfl ?_
    refine Go.s_aload X70 hx (hb hby at_377) (q := 379) rfl rfl rfl ?_
    refine Go.s_bipush X70 hx (hb hby at_379) (q := 381) rfl (z := 20) rfl ?_
    refine Go.callS (y := mn_34) X70 hx hZ hown (w_ hw 188 rfl) (w_ hw 189 rfl) (w_ hw 9 rfl) (w_ hw 190 rfl) (by decide) e70 (argsL := [(.ref sr), (.ref b46), (.int (20 : Int32))]) (rest := []) (rm_lc l Z a0 hw sr b46 (20 : Int32) _ zc (CS.ext O44_v47.2) hzc fm (SF.ext O44_v47.2) rf _ (tx0 ++ digs ee mm ++ tx1) Sr_v49 _ tx0 S46 (by decide) (lt_26 (by decide) hl9 hl100) (by decide) (pre_at (by decide))) (by rw [hml]; rfl) (lenOf pd_23 rfl) rfl (hb hby at_381) (by decide) (by decide) (by decide) (by decide) ?_
    intro r71 T71 L71 q71 X71
    obtain ⟨rfl, rfl, e71⟩ := q71
    rw [List.append_nil] at X71
    show Go p e below _ T71 (mkF m 384 #[.val (.int x0), .val (.int n), .val (.ref b1), .val (.int (Int32.ofNat ee)), .val (.int (0 : Int32)), .val (.ref sr), .val (.int (((26 : Int32) + (Int32.ofNat ee)) + (9 : Int32))), .val (.ref b46), .unset, .unset, .unset] [(.int (1 : Int32))])
    refine Go.s_ifNo X71 hx (hb hby at_384) (q := 387) rfl ((if0 _ _).trans (feq (by decide : ¬ ((1 : Int32) = (0 : Int32)))).1) ?_
    refine Go.s_aload X71 hx (hb hby at_387) (q := 389) rfl rfl rfl ?_
    refine Go.s_aload X71 hx (hb hby at_389) (q := 391) rfl rfl rfl ?_
    refine Go.s_bipush X71 hx (hb hby at_391) (q := 393) rfl (z := 21) rfl ?_
    refine Go.callS (y := mn_34) X71 hx hZ hown (w_ hw 188 rfl) (w_ hw 189 rfl) (w_ hw 9 rfl) (w_ hw 190 rfl) (by decide) e71 (argsL := [(.ref sr), (.ref b46), (.int (21 : Int32))]) (rest := []) (rm_lc l Z a0 hw sr b46 (21 : Int32) _ zc (CS.ext O44_v47.2) hzc fm (SF.ext O44_v47.2) rf _ (tx0 ++ digs ee mm ++ tx1) Sr_v49 _ tx0 S46 (by decide) (lt_26 (by decide) hl9 hl100) (by decide) (pre_at (by decide))) (by rw [hml]; rfl) (lenOf pd_23 rfl) rfl (hb hby at_393) (by decide) (by decide) (by decide) (by decide) ?_
    intro r72 T72 L72 q72 X72
    obtain ⟨rfl, rfl, e72⟩ := q72
    rw [List.append_nil] at X72
    show Go p e below _ T72 (mkF m 396 #[.val (.int x0), .val (.int n), .val (.ref b1), .val (.int (Int32.ofNat ee)), .val (.int (0 : Int32)), .val (.ref sr), .val (.int (((26 : Int32) + (Int32.ofNat ee)) + (9 : Int32))), .val (.ref b46), .unset, .unset, .unset] [(.int (1 : Int32))])
    refine Go.s_ifNo X72 hx (hb hby at_396) (q := 399) rfl ((if0 _ _).trans (feq (by decide : ¬ ((1 : Int32) = (0 : Int32)))).1) ?_
    refine Go.s_aload X72 hx (hb hby at_399) (q := 401) rfl rfl rfl ?_
    refine Go.s_aload X72 hx (hb hby at_401) (q := 403) rfl rfl rfl ?_
    refine Go.s_bipush X72 hx (hb hby at_403) (q := 405) rfl (z := 22) rfl ?_
    refine Go.callS (y := mn_34) X72 hx hZ hown (w_ hw 188 rfl) (w_ hw 189 rfl) (w_ hw 9 rfl) (w_ hw 190 rfl) (by decide) e72 (argsL := [(.ref sr), (.ref b46), (.int (22 : Int32))]) (rest := []) (rm_lc l Z a0 hw sr b46 (22 : Int32) _ zc (CS.ext O44_v47.2) hzc fm (SF.ext O44_v47.2) rf _ (tx0 ++ digs ee mm ++ tx1) Sr_v49 _ tx0 S46 (by decide) (lt_26 (by decide) hl9 hl100) (by decide) (pre_at (by decide))) (by rw [hml]; rfl) (lenOf pd_23 rfl) rfl (hb hby at_405) (by decide) (by decide) (by decide) (by decide) ?_
    intro r73 T73 L73 q73 X73
    obtain ⟨rfl, rfl, e73⟩ := q73
    rw [List.append_nil] at X73
    show Go p e below _ T73 (mkF m 408 #[.val (.int x0), .val (.int n), .val (.ref b1), .val (.int (Int32.ofNat ee)), .val (.int (0 : Int32)), .val (.ref sr), .val (.int (((26 : Int32) + (Int32.ofNat ee)) + (9 : Int32))), .val (.ref b46), .unset, .unset, .unset] [(.int (1 : Int32))])
    refine Go.s_ifNo X73 hx (hb hby at_408) (q := 411) rfl ((if0 _ _).trans (feq (by decide : ¬ ((1 : Int32) = (0 : Int32)))).1) ?_
    refine Go.s_aload X73 hx (hb hby at_411) (q := 413) rfl rfl rfl ?_
    refine Go.s_aload X73 hx (hb hby at_413) (q := 415) rfl rfl rfl ?_
    refine Go.s_bipush X73 hx (hb hby at_415) (q := 417) rfl (z := 23) rfl ?_
    refine Go.callS (y := mn_34) X73 hx hZ hown (w_ hw 188 rfl) (w_ hw 189 rfl) (w_ hw 9 rfl) (w_ hw 190 rfl) (by decide) e73 (argsL := [(.ref sr), (.ref b46), (.int (23 : Int32))]) (rest := []) (rm_lc l Z a0 hw sr b46 (23 : Int32) _ zc (CS.ext O44_v47.2) hzc fm (SF.ext O44_v47.2) rf _ (tx0 ++ digs ee mm ++ tx1) Sr_v49 _ tx0 S46 (by decide) (lt_26 (by decide) hl9 hl100) (by decide) (pre_at (by decide))) (by rw [hml]; rfl) (lenOf pd_23 rfl) rfl (hb hby at_417) (by decide) (by decide) (by decide) (by decide) ?_
    intro r74 T74 L74 q74 X74
    obtain ⟨rfl, rfl, e74⟩ := q74
    rw [List.append_nil] at X74
    show Go p e below _ T74 (mkF m 420 #[.val (.int x0), .val (.int n), .val (.ref b1), .val (.int (Int32.ofNat ee)), .val (.int (0 : Int32)), .val (.ref sr), .val (.int (((26 : Int32) + (Int32.ofNat ee)) + (9 : Int32))), .val (.ref b46), .unset, .unset, .unset] [(.int (1 : Int32))])
    refine Go.s_ifNo X74 hx (hb hby at_420) (q := 423) rfl ((if0 _ _).trans (feq (by decide : ¬ ((1 : Int32) = (0 : Int32)))).1) ?_
    refine Go.s_aload X74 hx (hb hby at_423) (q := 425) rfl rfl rfl ?_
    refine Go.s_aload X74 hx (hb hby at_425) (q := 427) rfl rfl rfl ?_
    refine Go.s_bipush X74 hx (hb hby at_427) (q := 429) rfl (z := 24) rfl ?_
    refine Go.callS (y := mn_34) X74 hx hZ hown (w_ hw 188 rfl) (w_ hw 189 rfl) (w_ hw 9 rfl) (w_ hw 190 rfl) (by decide) e74 (argsL := [(.ref sr), (.ref b46), (.int (24 : Int32))]) (rest := []) (rm_lc l Z a0 hw sr b46 (24 : Int32) _ zc (CS.ext O44_v47.2) hzc fm (SF.ext O44_v47.2) rf _ (tx0 ++ digs ee mm ++ tx1) Sr_v49 _ tx0 S46 (by decide) (lt_26 (by decide) hl9 hl100) (by decide) (pre_at (by decide))) (by rw [hml]; rfl) (lenOf pd_23 rfl) rfl (hb hby at_429) (by decide) (by decide) (by decide) (by decide) ?_
    intro r75 T75 L75 q75 X75
    obtain ⟨rfl, rfl, e75⟩ := q75
    rw [List.append_nil] at X75
    show Go p e below _ T75 (mkF m 432 #[.val (.int x0), .val (.int n), .val (.ref b1), .val (.int (Int32.ofNat ee)), .val (.int (0 : Int32)), .val (.ref sr), .val (.int (((26 : Int32) + (Int32.ofNat ee)) + (9 : Int32))), .val (.ref b46), .unset, .unset, .unset] [(.int (1 : Int32))])
    refine Go.s_ifNo X75 hx (hb hby at_432) (q := 435) rfl ((if0 _ _).trans (feq (by decide : ¬ ((1 : Int32) = (0 : Int32)))).1) ?_
    refine Go.s_aload X75 hx (hb hby at_435) (q := 437) rfl rfl rfl ?_
    refine Go.s_aload X75 hx (hb hby at_437) (q := 439) rfl rfl rfl ?_
    refine Go.s_bipush X75 hx (hb hby at_439) (q := 441) rfl (z := 25) rfl ?_
    refine Go.callS (y := mn_34) X75 hx hZ hown (w_ hw 188 rfl) (w_ hw 189 rfl) (w_ hw 9 rfl) (w_ hw 190 rfl) (by decide) e75 (argsL := [(.ref sr), (.ref b46), (.int (25 : Int32))]) (rest := []) (rm_lc l Z a0 hw sr b46 (25 : Int32) _ zc (CS.ext O44_v47.2) hzc fm (SF.ext O44_v47.2) rf _ (tx0 ++ digs ee mm ++ tx1) Sr_v49 _ tx0 S46 (by decide) (lt_26 (by decide) hl9 hl100) (by decide) (pre_at (by decide))) (by rw [hml]; rfl) (lenOf pd_23 rfl) rfl (hb hby at_441) (by decide) (by decide) (by decide) (by decide) ?_
    intro r76 T76 L76 q76 X76
    obtain ⟨rfl, rfl, e76⟩ := q76
    rw [List.append_nil] at X76
    show Go p e below _ T76 (mkF m 444 #[.val (.int x0), .val (.int n), .val (.ref b1), .val (.int (Int32.ofNat ee)), .val (.int (0 : Int32)), .val (.ref sr), .val (.int (((26 : Int32) + (Int32.ofNat ee)) + (9 : Int32))), .val (.ref b46), .unset, .unset, .unset] [(.int (1 : Int32))])
    refine Go.s_ifNo X76 hx (hb hby at_444) (q := 447) rfl ((if0 _ _).trans (feq (by decide : ¬ ((1 : Int32) = (0 : Int32)))).1) ?_
    refine Go.s_iconst X76 hx (hb hby at_447) (q := 448) rfl (z := 1) rfl ?_
    refine Go.s_goto X76 hx (hb hby at_448) (q := 452) (by decide) (by decide) ?_
    refine Go.s_istore X76 hx (hb hby at_452) (q := 454) rfl (l' := #[.val (.int x0), .val (.int n), .val (.ref b1), .val (.int (Int32.ofNat ee)), .val (.int (0 : Int32)), .val (.ref sr), .val (.int (((26 : Int32) + (Int32.ofNat ee)) + (9 : Int32))), .val (.ref b46), .val (.int (1 : Int32)), .unset, .unset]) rfl ?_
    refine Go.s_iload X76 hx (hb hby at_454) (q := 456) rfl rfl ?_
    refine Go.s_ifNo X76 hx (hb hby at_456) (q := 459) rfl ((if0 _ _).trans (feq (by decide : ¬ ((1 : Int32) = (0 : Int32)))).1) ?_
    refine Go.s_aload X76 hx (hb hby at_459) (q := 461) rfl rfl rfl ?_
    refine Go.s_iloadN X76 hx (hb hby at_461) (q := 462) rfl rfl ?_
    refine Go.s_iloadN X76 hx (hb hby at_462) (q := 463) rfl rfl ?_
    refine Go.s_aloadN X76 hx (hb hby at_463) (q := 464) rfl rfl rfl ?_
    refine Go.s_iconst X76 hx (hb hby at_464) (q := 465) rfl (z := 0) rfl ?_
    refine Go.callS (y := mn_40) X76 hx hZ hown (w_ hw 213 rfl) (w_ hw 214 rfl) (w_ hw 9 rfl) (w_ hw 215 rfl) (by decide) e76 (argsL := [(.ref sr), (.int n), (.int (Int32.ofNat ee)), (.ref b1), (.int (0 : Int32))]) (rest := []) (rm_ldg l Z a0 hw sr n (Int32.ofNat ee) b1 (0 : Int32) _ zc (CS.ext O44_v47.2) hzc fm (SF.ext O44_v47.2) rf _ (tx0 ++ digs ee mm ++ tx1) Sr_v49 _ Va44_v48 ee mm 0 hmm rfl he' (by decide) hl9 hl100 (fun k hk => dig_at hk)) (by rw [hml]; rfl) (lenOf pd_22 rfl) rfl (hb hby at_465) (by decide) (by decide) (by decide) (by decide) ?_
    intro r77 T77 L77 q77 X77
    obtain ⟨rfl, rfl, e77⟩ := q77
    rw [List.append_nil] at X77
    show Go p e below _ T77 (mkF m 468 #[.val (.int x0), .val (.int n), .val (.ref b1), .val (.int (Int32.ofNat ee)), .val (.int (0 : Int32)), .val (.ref sr), .val (.int (((26 : Int32) + (Int32.ofNat ee)) + (9 : Int32))), .val (.ref b46), .val (.int (1 : Int32)), .unset, .unset] [(.int (1 : Int32))])
    refine Go.s_ifNo X77 hx (hb hby at_468) (q := 471) rfl ((if0 _ _).trans (feq (by decide : ¬ ((1 : Int32) = (0 : Int32)))).1) ?_
    refine Go.s_aload X77 hx (hb hby at_471) (q := 473) rfl rfl rfl ?_
    refine Go.s_iloadN X77 hx (hb hby at_473) (q := 474) rfl rfl ?_
    refine Go.s_iloadN X77 hx (hb hby at_474) (q := 475) rfl rfl ?_
    refine Go.s_aloadN X77 hx (hb hby at_475) (q := 476) rfl rfl rfl ?_
    refine Go.s_iconst X77 hx (hb hby at_476) (q := 477) rfl (z := 1) rfl ?_
    refine Go.callS (y := mn_40) X77 hx hZ hown (w_ hw 213 rfl) (w_ hw 214 rfl) (w_ hw 9 rfl) (w_ hw 215 rfl) (by decide) e77 (argsL := [(.ref sr), (.int n), (.int (Int32.ofNat ee)), (.ref b1), (.int (1 : Int32))]) (rest := []) (rm_ldg l Z a0 hw sr n (Int32.ofNat ee) b1 (1 : Int32) _ zc (CS.ext O44_v47.2) hzc fm (SF.ext O44_v47.2) rf _ (tx0 ++ digs ee mm ++ tx1) Sr_v49 _ Va44_v48 ee mm 1 hmm rfl he' (by decide) hl9 hl100 (fun k hk => dig_at hk)) (by rw [hml]; rfl) (lenOf pd_22 rfl) rfl (hb hby at_477) (by decide) (by decide) (by decide) (by decide) ?_
    intro r78 T78 L78 q78 X78
    obtain ⟨rfl, rfl, e78⟩ := q78
    rw [List.append_nil] at X78
    show Go p e below _ T78 (mkF m 480 #[.val (.int x0), .val (.int n), .val (.ref b1), .val (.int (Int32.ofNat ee)), .val (.int (0 : Int32)), .val (.ref sr), .val (.int (((26 : Int32) + (Int32.ofNat ee)) + (9 : Int32))), .val (.ref b46), .val (.int (1 : Int32)), .unset, .unset] [(.int (1 : Int32))])
    refine Go.s_ifNo X78 hx (hb hby at_480) (q := 483) rfl ((if0 _ _).trans (feq (by decide : ¬ ((1 : Int32) = (0 : Int32)))).1) ?_
    refine Go.s_aload X78 hx (hb hby at_483) (q := 485) rfl rfl rfl ?_
    refine Go.s_iloadN X78 hx (hb hby at_485) (q := 486) rfl rfl ?_
    refine Go.s_iloadN X78 hx (hb hby at_486) (q := 487) rfl rfl ?_
    refine Go.s_aloadN X78 hx (hb hby at_487) (q := 488) rfl rfl rfl ?_
    refine Go.s_iconst X78 hx (hb hby at_488) (q := 489) rfl (z := 2) rfl ?_
    refine Go.callS (y := mn_40) X78 hx hZ hown (w_ hw 213 rfl) (w_ hw 214 rfl) (w_ hw 9 rfl) (w_ hw 215 rfl) (by decide) e78 (argsL := [(.ref sr), (.int n), (.int (Int32.ofNat ee)), (.ref b1), (.int (2 : Int32))]) (rest := []) (rm_ldg l Z a0 hw sr n (Int32.ofNat ee) b1 (2 : Int32) _ zc (CS.ext O44_v47.2) hzc fm (SF.ext O44_v47.2) rf _ (tx0 ++ digs ee mm ++ tx1) Sr_v49 _ Va44_v48 ee mm 2 hmm rfl he' (by decide) hl9 hl100 (fun k hk => dig_at hk)) (by rw [hml]; rfl) (lenOf pd_22 rfl) rfl (hb hby at_489) (by decide) (by decide) (by decide) (by decide) ?_
    intro r79 T79 L79 q79 X79
    obtain ⟨rfl, rfl, e79⟩ := q79
    rw [List.append_nil] at X79
    show Go p e below _ T79 (mkF m 492 #[.val (.int x0), .val (.int n), .val (.ref b1), .val (.int (Int32.ofNat ee)), .val (.int (0 : Int32)), .val (.ref sr), .val (.int (((26 : Int32) + (Int32.ofNat ee)) + (9 : Int32))), .val (.ref b46), .val (.int (1 : Int32)), .unset, .unset] [(.int (1 : Int32))])
    refine Go.s_ifNo X79 hx (hb hby at_492) (q := 495) rfl ((if0 _ _).trans (feq (by decide : ¬ ((1 : Int32) = (0 : Int32)))).1) ?_
    refine Go.s_aload X79 hx (hb hby at_495) (q := 497) rfl rfl rfl ?_
    refine Go.s_iloadN X79 hx (hb hby at_497) (q := 498) rfl rfl ?_
    refine Go.s_iloadN X79 hx (hb hby at_498) (q := 499) rfl rfl ?_
    refine Go.s_aloadN X79 hx (hb hby at_499) (q := 500) rfl rfl rfl ?_
    refine Go.s_iconst X79 hx (hb hby at_500) (q := 501) rfl (z := 3) rfl ?_
    refine Go.callS (y := mn_40) X79 hx hZ hown (w_ hw 213 rfl) (w_ hw 214 rfl) (w_ hw 9 rfl) (w_ hw 215 rfl) (by decide) e79 (argsL := [(.ref sr), (.int n), (.int (Int32.ofNat ee)), (.ref b1), (.int (3 : Int32))]) (rest := []) (rm_ldg l Z a0 hw sr n (Int32.ofNat ee) b1 (3 : Int32) _ zc (CS.ext O44_v47.2) hzc fm (SF.ext O44_v47.2) rf _ (tx0 ++ digs ee mm ++ tx1) Sr_v49 _ Va44_v48 ee mm 3 hmm rfl he' (by decide) hl9 hl100 (fun k hk => dig_at hk)) (by rw [hml]; rfl) (lenOf pd_22 rfl) rfl (hb hby at_501) (by decide) (by decide) (by decide) (by decide) ?_
    intro r80 T80 L80 q80 X80
    obtain ⟨rfl, rfl, e80⟩ := q80
    rw [List.append_nil] at X80
    show Go p e below _ T80 (mkF m 504 #[.val (.int x0), .val (.int n), .val (.ref b1), .val (.int (Int32.ofNat ee)), .val (.int (0 : Int32)), .val (.ref sr), .val (.int (((26 : Int32) + (Int32.ofNat ee)) + (9 : Int32))), .val (.ref b46), .val (.int (1 : Int32)), .unset, .unset] [(.int (1 : Int32))])
    refine Go.s_ifNo X80 hx (hb hby at_504) (q := 507) rfl ((if0 _ _).trans (feq (by decide : ¬ ((1 : Int32) = (0 : Int32)))).1) ?_
    refine Go.s_aload X80 hx (hb hby at_507) (q := 509) rfl rfl rfl ?_
    refine Go.s_iloadN X80 hx (hb hby at_509) (q := 510) rfl rfl ?_
    refine Go.s_iloadN X80 hx (hb hby at_510) (q := 511) rfl rfl ?_
    refine Go.s_aloadN X80 hx (hb hby at_511) (q := 512) rfl rfl rfl ?_
    refine Go.s_iconst X80 hx (hb hby at_512) (q := 513) rfl (z := 4) rfl ?_
    refine Go.callS (y := mn_40) X80 hx hZ hown (w_ hw 213 rfl) (w_ hw 214 rfl) (w_ hw 9 rfl) (w_ hw 215 rfl) (by decide) e80 (argsL := [(.ref sr), (.int n), (.int (Int32.ofNat ee)), (.ref b1), (.int (4 : Int32))]) (rest := []) (rm_ldg l Z a0 hw sr n (Int32.ofNat ee) b1 (4 : Int32) _ zc (CS.ext O44_v47.2) hzc fm (SF.ext O44_v47.2) rf _ (tx0 ++ digs ee mm ++ tx1) Sr_v49 _ Va44_v48 ee mm 4 hmm rfl he' (by decide) hl9 hl100 (fun k hk => dig_at hk)) (by rw [hml]; rfl) (lenOf pd_22 rfl) rfl (hb hby at_513) (by decide) (by decide) (by decide) (by decide) ?_
    intro r81 T81 L81 q81 X81
    obtain ⟨rfl, rfl, e81⟩ := q81
    rw [List.append_nil] at X81
    show Go p e below _ T81 (mkF m 516 #[.val (.int x0), .val (.int n), .val (.ref b1), .val (.int (Int32.ofNat ee)), .val (.int (0 : Int32)), .val (.ref sr), .val (.int (((26 : Int32) + (Int32.ofNat ee)) + (9 : Int32))), .val (.ref b46), .val (.int (1 : Int32)), .unset, .unset] [(.int (1 : Int32))])
    refine Go.s_ifNo X81 hx (hb hby at_516) (q := 519) rfl ((if0 _ _).trans (feq (by decide : ¬ ((1 : Int32) = (0 : Int32)))).1) ?_
    refine Go.s_aload X81 hx (hb hby at_519) (q := 521) rfl rfl rfl ?_
    refine Go.s_iloadN X81 hx (hb hby at_521) (q := 522) rfl rfl ?_
    refine Go.s_iloadN X81 hx (hb hby at_522) (q := 523) rfl rfl ?_
    refine Go.s_aloadN X81 hx (hb hby at_523) (q := 524) rfl rfl rfl ?_
    refine Go.s_iconst X81 hx (hb hby at_524) (q := 525) rfl (z := 5) rfl ?_
    refine Go.callS (y := mn_40) X81 hx hZ hown (w_ hw 213 rfl) (w_ hw 214 rfl) (w_ hw 9 rfl) (w_ hw 215 rfl) (by decide) e81 (argsL := [(.ref sr), (.int n), (.int (Int32.ofNat ee)), (.ref b1), (.int (5 : Int32))]) (rest := []) (rm_ldg l Z a0 hw sr n (Int32.ofNat ee) b1 (5 : Int32) _ zc (CS.ext O44_v47.2) hzc fm (SF.ext O44_v47.2) rf _ (tx0 ++ digs ee mm ++ tx1) Sr_v49 _ Va44_v48 ee mm 5 hmm rfl he' (by decide) hl9 hl100 (fun k hk => dig_at hk)) (by rw [hml]; rfl) (lenOf pd_22 rfl) rfl (hb hby at_525) (by decide) (by decide) (by decide) (by decide) ?_
    intro r82 T82 L82 q82 X82
    obtain ⟨rfl, rfl, e82⟩ := q82
    rw [List.append_nil] at X82
    show Go p e below _ T82 (mkF m 528 #[.val (.int x0), .val (.int n), .val (.ref b1), .val (.int (Int32.ofNat ee)), .val (.int (0 : Int32)), .val (.ref sr), .val (.int (((26 : Int32) + (Int32.ofNat ee)) + (9 : Int32))), .val (.ref b46), .val (.int (1 : Int32)), .unset, .unset] [(.int (1 : Int32))])
    refine Go.s_ifNo X82 hx (hb hby at_528) (q := 531) rfl ((if0 _ _).trans (feq (by decide : ¬ ((1 : Int32) = (0 : Int32)))).1) ?_
    refine Go.s_aload X82 hx (hb hby at_531) (q := 533) rfl rfl rfl ?_
    refine Go.s_iloadN X82 hx (hb hby at_533) (q := 534) rfl rfl ?_
    refine Go.s_iloadN X82 hx (hb hby at_534) (q := 535) rfl rfl ?_
    refine Go.s_aloadN X82 hx (hb hby at_535) (q := 536) rfl rfl rfl ?_
    refine Go.s_bipush X82 hx (hb hby at_536) (q := 538) rfl (z := 6) rfl ?_
    refine Go.callS (y := mn_40) X82 hx hZ hown (w_ hw 213 rfl) (w_ hw 214 rfl) (w_ hw 9 rfl) (w_ hw 215 rfl) (by decide) e82 (argsL := [(.ref sr), (.int n), (.int (Int32.ofNat ee)), (.ref b1), (.int (6 : Int32))]) (rest := []) (rm_ldg l Z a0 hw sr n (Int32.ofNat ee) b1 (6 : Int32) _ zc (CS.ext O44_v47.2) hzc fm (SF.ext O44_v47.2) rf _ (tx0 ++ digs ee mm ++ tx1) Sr_v49 _ Va44_v48 ee mm 6 hmm rfl he' (by decide) hl9 hl100 (fun k hk => dig_at hk)) (by rw [hml]; rfl) (lenOf pd_22 rfl) rfl (hb hby at_538) (by decide) (by decide) (by decide) (by decide) ?_
    intro r83 T83 L83 q83 X83
    obtain ⟨rfl, rfl, e83⟩ := q83
    rw [List.append_nil] at X83
    show Go p e below _ T83 (mkF m 541 #[.val (.int x0), .val (.int n), .val (.ref b1), .val (.int (Int32.ofNat ee)), .val (.int (0 : Int32)), .val (.ref sr), .val (.int (((26 : Int32) + (Int32.ofNat ee)) + (9 : Int32))), .val (.ref b46), .val (.int (1 : Int32)), .unset, .unset] [(.int (1 : Int32))])
    refine Go.s_ifNo X83 hx (hb hby at_541) (q := 544) rfl ((if0 _ _).trans (feq (by decide : ¬ ((1 : Int32) = (0 : Int32)))).1) ?_
    refine Go.s_aload X83 hx (hb hby at_544) (q := 546) rfl rfl rfl ?_
    refine Go.s_iloadN X83 hx (hb hby at_546) (q := 547) rfl rfl ?_
    refine Go.s_iloadN X83 hx (hb hby at_547) (q := 548) rfl rfl ?_
    refine Go.s_aloadN X83 hx (hb hby at_548) (q := 549) rfl rfl rfl ?_
    refine Go.s_bipush X83 hx (hb hby at_549) (q := 551) rfl (z := 7) rfl ?_
    refine Go.callS (y := mn_40) X83 hx hZ hown (w_ hw 213 rfl) (w_ hw 214 rfl) (w_ hw 9 rfl) (w_ hw 215 rfl) (by decide) e83 (argsL := [(.ref sr), (.int n), (.int (Int32.ofNat ee)), (.ref b1), (.int (7 : Int32))]) (rest := []) (rm_ldg l Z a0 hw sr n (Int32.ofNat ee) b1 (7 : Int32) _ zc (CS.ext O44_v47.2) hzc fm (SF.ext O44_v47.2) rf _ (tx0 ++ digs ee mm ++ tx1) Sr_v49 _ Va44_v48 ee mm 7 hmm rfl he' (by decide) hl9 hl100 (fun k hk => dig_at hk)) (by rw [hml]; rfl) (lenOf pd_22 rfl) rfl (hb hby at_551) (by decide) (by decide) (by decide) (by decide) ?_
    intro r84 T84 L84 q84 X84
    obtain ⟨rfl, rfl, e84⟩ := q84
    rw [List.append_nil] at X84
    show Go p e below _ T84 (mkF m 554 #[.val (.int x0), .val (.int n), .val (.ref b1), .val (.int (Int32.ofNat ee)), .val (.int (0 : Int32)), .val (.ref sr), .val (.int (((26 : Int32) + (Int32.ofNat ee)) + (9 : Int32))), .val (.ref b46), .val (.int (1 : Int32)), .unset, .unset] [(.int (1 : Int32))])
    refine Go.s_ifNo X84 hx (hb hby at_554) (q := 557) rfl ((if0 _ _).trans (feq (by decide : ¬ ((1 : Int32) = (0 : Int32)))).1) ?_
    refine Go.s_aload X84 hx (hb hby at_557) (q := 559) rfl rfl rfl ?_
    refine Go.s_iloadN X84 hx (hb hby at_559) (q := 560) rfl rfl ?_
    refine Go.s_iloadN X84 hx (hb hby at_560) (q := 561) rfl rfl ?_
    refine Go.s_aloadN X84 hx (hb hby at_561) (q := 562) rfl rfl rfl ?_
    refine Go.s_bipush X84 hx (hb hby at_562) (q := 564) rfl (z := 8) rfl ?_
    refine Go.callS (y := mn_40) X84 hx hZ hown (w_ hw 213 rfl) (w_ hw 214 rfl) (w_ hw 9 rfl) (w_ hw 215 rfl) (by decide) e84 (argsL := [(.ref sr), (.int n), (.int (Int32.ofNat ee)), (.ref b1), (.int (8 : Int32))]) (rest := []) (rm_ldg l Z a0 hw sr n (Int32.ofNat ee) b1 (8 : Int32) _ zc (CS.ext O44_v47.2) hzc fm (SF.ext O44_v47.2) rf _ (tx0 ++ digs ee mm ++ tx1) Sr_v49 _ Va44_v48 ee mm 8 hmm rfl he' (by decide) hl9 hl100 (fun k hk => dig_at hk)) (by rw [hml]; rfl) (lenOf pd_22 rfl) rfl (hb hby at_564) (by decide) (by decide) (by decide) (by decide) ?_
    intro r85 T85 L85 q85 X85
    obtain ⟨rfl, rfl, e85⟩ := q85
    rw [List.append_nil] at X85
    show Go p e below _ T85 (mkF m 567 #[.val (.int x0), .val (.int n), .val (.ref b1), .val (.int (Int32.ofNat ee)), .val (.int (0 : Int32)), .val (.ref sr), .val (.int (((26 : Int32) + (Int32.ofNat ee)) + (9 : Int32))), .val (.ref b46), .val (.int (1 : Int32)), .unset, .unset] [(.int (1 : Int32))])
    refine Go.s_ifNo X85 hx (hb hby at_567) (q := 570) rfl ((if0 _ _).trans (feq (by decide : ¬ ((1 : Int32) = (0 : Int32)))).1) ?_
    refine Go.s_aload X85 hx (hb hby at_570) (q := 572) rfl rfl rfl ?_
    refine Go.s_iloadN X85 hx (hb hby at_572) (q := 573) rfl rfl ?_
    refine Go.s_iloadN X85 hx (hb hby at_573) (q := 574) rfl rfl ?_
    refine Go.s_aloadN X85 hx (hb hby at_574) (q := 575) rfl rfl rfl ?_
    refine Go.s_bipush X85 hx (hb hby at_575) (q := 577) rfl (z := 9) rfl ?_
    refine Go.callS (y := mn_40) X85 hx hZ hown (w_ hw 213 rfl) (w_ hw 214 rfl) (w_ hw 9 rfl) (w_ hw 215 rfl) (by decide) e85 (argsL := [(.ref sr), (.int n), (.int (Int32.ofNat ee)), (.ref b1), (.int (9 : Int32))]) (rest := []) (rm_ldg l Z a0 hw sr n (Int32.ofNat ee) b1 (9 : Int32) _ zc (CS.ext O44_v47.2) hzc fm (SF.ext O44_v47.2) rf _ (tx0 ++ digs ee mm ++ tx1) Sr_v49 _ Va44_v48 ee mm 9 hmm rfl he' (by decide) hl9 hl100 (fun k hk => dig_at hk)) (by rw [hml]; rfl) (lenOf pd_22 rfl) rfl (hb hby at_577) (by decide) (by decide) (by decide) (by decide) ?_
    intro r86 T86 L86 q86 X86
    obtain ⟨rfl, rfl, e86⟩ := q86
    rw [List.append_nil] at X86
    show Go p e below _ T86 (mkF m 580 #[.val (.int x0), .val (.int n), .val (.ref b1), .val (.int (Int32.ofNat ee)), .val (.int (0 : Int32)), .val (.ref sr), .val (.int (((26 : Int32) + (Int32.ofNat ee)) + (9 : Int32))), .val (.ref b46), .val (.int (1 : Int32)), .unset, .unset] [(.int (1 : Int32))])
    refine Go.s_ifNo X86 hx (hb hby at_580) (q := 583) rfl ((if0 _ _).trans (feq (by decide : ¬ ((1 : Int32) = (0 : Int32)))).1) ?_
    refine Go.s_iconst X86 hx (hb hby at_583) (q := 584) rfl (z := 1) rfl ?_
    refine Go.s_goto X86 hx (hb hby at_584) (q := 588) (by decide) (by decide) ?_
    refine Go.s_istore X86 hx (hb hby at_588) (q := 590) rfl (l' := #[.val (.int x0), .val (.int n), .val (.ref b1), .val (.int (Int32.ofNat ee)), .val (.int (0 : Int32)), .val (.ref sr), .val (.int (((26 : Int32) + (Int32.ofNat ee)) + (9 : Int32))), .val (.ref b46), .val (.int (1 : Int32)), .unset, .unset]) rfl ?_
    refine Go.ldcW (cs := tx2) X86 hx hZ hown (w_ hw 216 rfl) (w_str hw) e86 hEL (by decide) hW46 ht2 hc2 (by decide) (hb hby at_590) (by decide) (by decide) ?_
    intro T87 h87 b87 X87 e87 E87 hZ hown S87 hW87 R87
    have O44_v88 := Old.ext O44_v47 E87
    have Va44_v89 := Va44_v48.ext E87
    have Sr_v90 := Sr_v49.ext E87
    have Er_v91 := Er_v50.ext E87
    have S46_v92 := S46.ext E87
    show Go p e below _ T87 (mkF m 592 #[.val (.int x0), .val (.int n), .val (.ref b1), .val (.int (Int32.ofNat ee)), .val (.int (0 : Int32)), .val (.ref sr), .val (.int (((26 : Int32) + (Int32.ofNat ee)) + (9 : Int32))), .val (.ref b46), .val (.int (1 : Int32)), .unset, .unset] [(.ref b87)])
    refine Go.s_astore X87 hx (hb hby at_592) (q := 594) rfl rfl (l' := #[.val (.int x0), .val (.int n), .val (.ref b1), .val (.int (Int32.ofNat ee)), .val (.int (0 : Int32)), .val (.ref sr), .val (.int (((26 : Int32) + (Int32.ofNat ee)) + (9 : Int32))), .val (.ref b46), .val (.int (1 : Int32)), .val (.ref b87), .unset]) rfl ?_
    refine Go.s_bipush X87 hx (hb hby at_594) (q := 596) rfl (z := 26) rfl ?_
    refine Go.s_iloadN X87 hx (hb hby at_596) (q := 597) rfl rfl ?_
    refine Go.s_iadd X87 hx (hb hby at_597) (q := 598) rfl ?_
    refine Go.s_istore X87 hx (hb hby at_598) (q := 600) rfl (l' := #[.val (.int x0), .val (.int n), .val (.ref b1), .val (.int (Int32.ofNat ee)), .val (.int (0 : Int32)), .val (.ref sr), .val (.int (((26 : Int32) + (Int32.ofNat ee)) + (9 : Int32))), .val (.ref b46), .val (.int (1 : Int32)), .val (.ref b87), .val (.int ((26 : Int32) + (Int32.ofNat ee)))]) rfl ?_
    refine Go.s_iload X87 hx (hb hby at_600) (q := 602) rfl rfl ?_
    refine Go.s_ifNo X87 hx (hb hby at_602) (q := 605) rfl ((if0 _ _).trans (feq (by decide : ¬ ((1 : Int32) = (0 : Int32)))).1) ?_
    refine Go.s_aload X87 hx (hb hby at_605) (q := 607) rfl rfl rfl ?_
    refine Go.s_aload X87 hx (hb hby at_607) (q := 609) rfl rfl rfl ?_
    refine Go.s_iload X87 hx (hb hby at_609) (q := 611) rfl rfl ?_
    refine Go.s_iconst X87 hx (hb hby at_611) (q := 612) rfl (z := 0) rfl ?_
    refine Go.callS (y := mn_41) X87 hx hZ hown (w_ hw 217 rfl) (w_ hw 218 rfl) (w_ hw 9 rfl) (w_ hw 219 rfl) (by decide) e87 (argsL := [(.ref sr), (.ref b87), (.int ((26 : Int32) + (Int32.ofNat ee))), (.int (0 : Int32))]) (rest := []) (rm_lsf l Z a0 hw sr b87 ((26 : Int32) + (Int32.ofNat ee)) (0 : Int32) _ zc (CS.ext O44_v88.2) hzc fm (SF.ext O44_v88.2) rf _ (tx0 ++ digs ee mm ++ tx1) Sr_v90 _ tx2 S87 (suf_ok he' (by decide) (by decide) (by decide) (by decide) (by decide)) (by decide) (by decide)) (by rw [hml]; rfl) (lenOf pd_24 rfl) rfl (hb hby at_612) (by decide) (by decide) (by decide) (by decide) ?_
    intro r93 T93 L93 q93 X93
    obtain ⟨rfl, rfl, e93⟩ := q93
    rw [List.append_nil] at X93
    show Go p e below _ T93 (mkF m 615 #[.val (.int x0), .val (.int n), .val (.ref b1), .val (.int (Int32.ofNat ee)), .val (.int (0 : Int32)), .val (.ref sr), .val (.int (((26 : Int32) + (Int32.ofNat ee)) + (9 : Int32))), .val (.ref b46), .val (.int (1 : Int32)), .val (.ref b87), .val (.int ((26 : Int32) + (Int32.ofNat ee)))] [(.int (1 : Int32))])
    refine Go.s_ifNo X93 hx (hb hby at_615) (q := 618) rfl ((if0 _ _).trans (feq (by decide : ¬ ((1 : Int32) = (0 : Int32)))).1) ?_
    refine Go.s_aload X93 hx (hb hby at_618) (q := 620) rfl rfl rfl ?_
    refine Go.s_aload X93 hx (hb hby at_620) (q := 622) rfl rfl rfl ?_
    refine Go.s_iload X93 hx (hb hby at_622) (q := 624) rfl rfl ?_
    refine Go.s_iconst X93 hx (hb hby at_624) (q := 625) rfl (z := 1) rfl ?_
    refine Go.callS (y := mn_41) X93 hx hZ hown (w_ hw 217 rfl) (w_ hw 218 rfl) (w_ hw 9 rfl) (w_ hw 219 rfl) (by decide) e93 (argsL := [(.ref sr), (.ref b87), (.int ((26 : Int32) + (Int32.ofNat ee))), (.int (1 : Int32))]) (rest := []) (rm_lsf l Z a0 hw sr b87 ((26 : Int32) + (Int32.ofNat ee)) (1 : Int32) _ zc (CS.ext O44_v88.2) hzc fm (SF.ext O44_v88.2) rf _ (tx0 ++ digs ee mm ++ tx1) Sr_v90 _ tx2 S87 (suf_ok he' (by decide) (by decide) (by decide) (by decide) (by decide)) (by decide) (by decide)) (by rw [hml]; rfl) (lenOf pd_24 rfl) rfl (hb hby at_625) (by decide) (by decide) (by decide) (by decide) ?_
    intro r94 T94 L94 q94 X94
    obtain ⟨rfl, rfl, e94⟩ := q94
    rw [List.append_nil] at X94
    show Go p e below _ T94 (mkF m 628 #[.val (.int x0), .val (.int n), .val (.ref b1), .val (.int (Int32.ofNat ee)), .val (.int (0 : Int32)), .val (.ref sr), .val (.int (((26 : Int32) + (Int32.ofNat ee)) + (9 : Int32))), .val (.ref b46), .val (.int (1 : Int32)), .val (.ref b87), .val (.int ((26 : Int32) + (Int32.ofNat ee)))] [(.int (1 : Int32))])
    refine Go.s_ifNo X94 hx (hb hby at_628) (q := 631) rfl ((if0 _ _).trans (feq (by decide : ¬ ((1 : Int32) = (0 : Int32)))).1) ?_
    refine Go.s_aload X94 hx (hb hby at_631) (q := 633) rfl rfl rfl ?_
    refine Go.s_aload X94 hx (hb hby at_633) (q := 635) rfl rfl rfl ?_
    refine Go.s_iload X94 hx (hb hby at_635) (q := 637) rfl rfl ?_
    refine Go.s_iconst X94 hx (hb hby at_637) (q := 638) rfl (z := 2) rfl ?_
    refine Go.callS (y := mn_41) X94 hx hZ hown (w_ hw 217 rfl) (w_ hw 218 rfl) (w_ hw 9 rfl) (w_ hw 219 rfl) (by decide) e94 (argsL := [(.ref sr), (.ref b87), (.int ((26 : Int32) + (Int32.ofNat ee))), (.int (2 : Int32))]) (rest := []) (rm_lsf l Z a0 hw sr b87 ((26 : Int32) + (Int32.ofNat ee)) (2 : Int32) _ zc (CS.ext O44_v88.2) hzc fm (SF.ext O44_v88.2) rf _ (tx0 ++ digs ee mm ++ tx1) Sr_v90 _ tx2 S87 (suf_ok he' (by decide) (by decide) (by decide) (by decide) (by decide)) (by decide) (by decide)) (by rw [hml]; rfl) (lenOf pd_24 rfl) rfl (hb hby at_638) (by decide) (by decide) (by decide) (by decide) ?_
    intro r95 T95 L95 q95 X95
    obtain ⟨rfl, rfl, e95⟩ := q95
    rw [List.append_nil] at X95
    show Go p e below _ T95 (mkF m 641 #[.val (.int x0), .val (.int n), .val (.ref b1), .val (.int (Int32.ofNat ee)), .val (.int (0 : Int32)), .val (.ref sr), .val (.int (((26 : Int32) + (Int32.ofNat ee)) + (9 : Int32))), .val (.ref b46), .val (.int (1 : Int32)), .val (.ref b87), .val (.int ((26 : Int32) + (Int32.ofNat ee)))] [(.int (1 : Int32))])
    refine Go.s_ifNo X95 hx (hb hby at_641) (q := 644) rfl ((if0 _ _).trans (feq (by decide : ¬ ((1 : Int32) = (0 : Int32)))).1) ?_
    refine Go.s_aload X95 hx (hb hby at_644) (q := 646) rfl rfl rfl ?_
    refine Go.s_aload X95 hx (hb hby at_646) (q := 648) rfl rfl rfl ?_
    refine Go.s_iload X95 hx (hb hby at_648) (q := 650) rfl rfl ?_
    refine Go.s_iconst X95 hx (hb hby at_650) (q := 651) rfl (z := 3) rfl ?_
    refine Go.callS (y := mn_41) X95 hx hZ hown (w_ hw 217 rfl) (w_ hw 218 rfl) (w_ hw 9 rfl) (w_ hw 219 rfl) (by decide) e95 (argsL := [(.ref sr), (.ref b87), (.int ((26 : Int32) + (Int32.ofNat ee))), (.int (3 : Int32))]) (rest := []) (rm_lsf l Z a0 hw sr b87 ((26 : Int32) + (Int32.ofNat ee)) (3 : Int32) _ zc (CS.ext O44_v88.2) hzc fm (SF.ext O44_v88.2) rf _ (tx0 ++ digs ee mm ++ tx1) Sr_v90 _ tx2 S87 (suf_ok he' (by decide) (by decide) (by decide) (by decide) (by decide)) (by decide) (by decide)) (by rw [hml]; rfl) (lenOf pd_24 rfl) rfl (hb hby at_651) (by decide) (by decide) (by decide) (by decide) ?_
    intro r96 T96 L96 q96 X96
    obtain ⟨rfl, rfl, e96⟩ := q96
    rw [List.append_nil] at X96
    show Go p e below _ T96 (mkF m 654 #[.val (.int x0), .val (.int n), .val (.ref b1), .val (.int (Int32.ofNat ee)), .val (.int (0 : Int32)), .val (.ref sr), .val (.int (((26 : Int32) + (Int32.ofNat ee)) + (9 : Int32))), .val (.ref b46), .val (.int (1 : Int32)), .val (.ref b87), .val (.int ((26 : Int32) + (Int32.ofNat ee)))] [(.int (1 : Int32))])
    refine Go.s_ifNo X96 hx (hb hby at_654) (q := 657) rfl ((if0 _ _).trans (feq (by decide : ¬ ((1 : Int32) = (0 : Int32)))).1) ?_
    refine Go.s_aload X96 hx (hb hby at_657) (q := 659) rfl rfl rfl ?_
    refine Go.s_aload X96 hx (hb hby at_659) (q := 661) rfl rfl rfl ?_
    refine Go.s_iload X96 hx (hb hby at_661) (q := 663) rfl rfl ?_
    refine Go.s_iconst X96 hx (hb hby at_663) (q := 664) rfl (z := 4) rfl ?_
    refine Go.callS (y := mn_41) X96 hx hZ hown (w_ hw 217 rfl) (w_ hw 218 rfl) (w_ hw 9 rfl) (w_ hw 219 rfl) (by decide) e96 (argsL := [(.ref sr), (.ref b87), (.int ((26 : Int32) + (Int32.ofNat ee))), (.int (4 : Int32))]) (rest := []) (rm_lsf l Z a0 hw sr b87 ((26 : Int32) + (Int32.ofNat ee)) (4 : Int32) _ zc (CS.ext O44_v88.2) hzc fm (SF.ext O44_v88.2) rf _ (tx0 ++ digs ee mm ++ tx1) Sr_v90 _ tx2 S87 (suf_ok he' (by decide) (by decide) (by decide) (by decide) (by decide)) (by decide) (by decide)) (by rw [hml]; rfl) (lenOf pd_24 rfl) rfl (hb hby at_664) (by decide) (by decide) (by decide) (by decide) ?_
    intro r97 T97 L97 q97 X97
    obtain ⟨rfl, rfl, e97⟩ := q97
    rw [List.append_nil] at X97
    show Go p e below _ T97 (mkF m 667 #[.val (.int x0), .val (.int n), .val (.ref b1), .val (.int (Int32.ofNat ee)), .val (.int (0 : Int32)), .val (.ref sr), .val (.int (((26 : Int32) + (Int32.ofNat ee)) + (9 : Int32))), .val (.ref b46), .val (.int (1 : Int32)), .val (.ref b87), .val (.int ((26 : Int32) + (Int32.ofNat ee)))] [(.int (1 : Int32))])
    refine Go.s_ifNo X97 hx (hb hby at_667) (q := 670) rfl ((if0 _ _).trans (feq (by decide : ¬ ((1 : Int32) = (0 : Int32)))).1) ?_
    refine Go.s_aload X97 hx (hb hby at_670) (q := 672) rfl rfl rfl ?_
    refine Go.s_aload X97 hx (hb hby at_672) (q := 674) rfl rfl rfl ?_
    refine Go.s_iload X97 hx (hb hby at_674) (q := 676) rfl rfl ?_
    refine Go.s_iconst X97 hx (hb hby at_676) (q := 677) rfl (z := 5) rfl ?_
    refine Go.callS (y := mn_41) X97 hx hZ hown (w_ hw 217 rfl) (w_ hw 218 rfl) (w_ hw 9 rfl) (w_ hw 219 rfl) (by decide) e97 (argsL := [(.ref sr), (.ref b87), (.int ((26 : Int32) + (Int32.ofNat ee))), (.int (5 : Int32))]) (rest := []) (rm_lsf l Z a0 hw sr b87 ((26 : Int32) + (Int32.ofNat ee)) (5 : Int32) _ zc (CS.ext O44_v88.2) hzc fm (SF.ext O44_v88.2) rf _ (tx0 ++ digs ee mm ++ tx1) Sr_v90 _ tx2 S87 (suf_ok he' (by decide) (by decide) (by decide) (by decide) (by decide)) (by decide) (by decide)) (by rw [hml]; rfl) (lenOf pd_24 rfl) rfl (hb hby at_677) (by decide) (by decide) (by decide) (by decide) ?_
    intro r98 T98 L98 q98 X98
    obtain ⟨rfl, rfl, e98⟩ := q98
    rw [List.append_nil] at X98
    show Go p e below _ T98 (mkF m 680 #[.val (.int x0), .val (.int n), .val (.ref b1), .val (.int (Int32.ofNat ee)), .val (.int (0 : Int32)), .val (.ref sr), .val (.int (((26 : Int32) + (Int32.ofNat ee)) + (9 : Int32))), .val (.ref b46), .val (.int (1 : Int32)), .val (.ref b87), .val (.int ((26 : Int32) + (Int32.ofNat ee)))] [(.int (1 : Int32))])
    refine Go.s_ifNo X98 hx (hb hby at_680) (q := 683) rfl ((if0 _ _).trans (feq (by decide : ¬ ((1 : Int32) = (0 : Int32)))).1) ?_
    refine Go.s_aload X98 hx (hb hby at_683) (q := 685) rfl rfl rfl ?_
    refine Go.s_aload X98 hx (hb hby at_685) (q := 687) rfl rfl rfl ?_
    refine Go.s_iload X98 hx (hb hby at_687) (q := 689) rfl rfl ?_
    refine Go.s_bipush X98 hx (hb hby at_689) (q := 691) rfl (z := 6) rfl ?_
    refine Go.callS (y := mn_41) X98 hx hZ hown (w_ hw 217 rfl) (w_ hw 218 rfl) (w_ hw 9 rfl) (w_ hw 219 rfl) (by decide) e98 (argsL := [(.ref sr), (.ref b87), (.int ((26 : Int32) + (Int32.ofNat ee))), (.int (6 : Int32))]) (rest := []) (rm_lsf l Z a0 hw sr b87 ((26 : Int32) + (Int32.ofNat ee)) (6 : Int32) _ zc (CS.ext O44_v88.2) hzc fm (SF.ext O44_v88.2) rf _ (tx0 ++ digs ee mm ++ tx1) Sr_v90 _ tx2 S87 (suf_ok he' (by decide) (by decide) (by decide) (by decide) (by decide)) (by decide) (by decide)) (by rw [hml]; rfl) (lenOf pd_24 rfl) rfl (hb hby at_691) (by decide) (by decide) (by decide) (by decide) ?_
    intro r99 T99 L99 q99 X99
    obtain ⟨rfl, rfl, e99⟩ := q99
    rw [List.append_nil] at X99
    show Go p e below _ T99 (mkF m 694 #[.val (.int x0), .val (.int n), .val (.ref b1), .val (.int (Int32.ofNat ee)), .val (.int (0 : Int32)), .val (.ref sr), .val (.int (((26 : Int32) + (Int32.ofNat ee)) + (9 : Int32))), .val (.ref b46), .val (.int (1 : Int32)), .val (.ref b87), .val (.int ((26 : Int32) + (Int32.ofNat ee)))] [(.int (1 : Int32))])
    refine Go.s_ifNo X99 hx (hb hby at_694) (q := 697) rfl ((if0 _ _).trans (feq (by decide : ¬ ((1 : Int32) = (0 : Int32)))).1) ?_
    refine Go.s_aload X99 hx (hb hby at_697) (q := 699) rfl rfl rfl ?_
    refine Go.s_aload X99 hx (hb hby at_699) (q := 701) rfl rfl rfl ?_
    refine Go.s_iload X99 hx (hb hby at_701) (q := 703) rfl rfl ?_
    refine Go.s_bipush X99 hx (hb hby at_703) (q := 705) rfl (z := 7) rfl ?_
    refine Go.callS (y := mn_41) X99 hx hZ hown (w_ hw 217 rfl) (w_ hw 218 rfl) (w_ hw 9 rfl) (w_ hw 219 rfl) (by decide) e99 (argsL := [(.ref sr), (.ref b87), (.int ((26 : Int32) + (Int32.ofNat ee))), (.int (7 : Int32))]) (rest := []) (rm_lsf l Z a0 hw sr b87 ((26 : Int32) + (Int32.ofNat ee)) (7 : Int32) _ zc (CS.ext O44_v88.2) hzc fm (SF.ext O44_v88.2) rf _ (tx0 ++ digs ee mm ++ tx1) Sr_v90 _ tx2 S87 (suf_ok he' (by decide) (by decide) (by decide) (by decide) (by decide)) (by decide) (by decide)) (by rw [hml]; rfl) (lenOf pd_24 rfl) rfl (hb hby at_705) (by decide) (by decide) (by decide) (by decide) ?_
    intro r100 T100 L100 q100 X100
    obtain ⟨rfl, rfl, e100⟩ := q100
    rw [List.append_nil] at X100
    show Go p e below _ T100 (mkF m 708 #[.val (.int x0), .val (.int n), .val (.ref b1), .val (.int (Int32.ofNat ee)), .val (.int (0 : Int32)), .val (.ref sr), .val (.int (((26 : Int32) + (Int32.ofNat ee)) + (9 : Int32))), .val (.ref b46), .val (.int (1 : Int32)), .val (.ref b87), .val (.int ((26 : Int32) + (Int32.ofNat ee)))] [(.int (1 : Int32))])
    refine Go.s_ifNo X100 hx (hb hby at_708) (q := 711) rfl ((if0 _ _).trans (feq (by decide : ¬ ((1 : Int32) = (0 : Int32)))).1) ?_
    refine Go.s_aload X100 hx (hb hby at_711) (q := 713) rfl rfl rfl ?_
    refine Go.s_aload X100 hx (hb hby at_713) (q := 715) rfl rfl rfl ?_
    refine Go.s_iload X100 hx (hb hby at_715) (q := 717) rfl rfl ?_
    refine Go.s_bipush X100 hx (hb hby at_717) (q := 719) rfl (z := 8) rfl ?_
    refine Go.callS (y := mn_41) X100 hx hZ hown (w_ hw 217 rfl) (w_ hw 218 rfl) (w_ hw 9 rfl) (w_ hw 219 rfl) (by decide) e100 (argsL := [(.ref sr), (.ref b87), (.int ((26 : Int32) + (Int32.ofNat ee))), (.int (8 : Int32))]) (rest := []) (rm_lsf l Z a0 hw sr b87 ((26 : Int32) + (Int32.ofNat ee)) (8 : Int32) _ zc (CS.ext O44_v88.2) hzc fm (SF.ext O44_v88.2) rf _ (tx0 ++ digs ee mm ++ tx1) Sr_v90 _ tx2 S87 (suf_ok he' (by decide) (by decide) (by decide) (by decide) (by decide)) (by decide) (by decide)) (by rw [hml]; rfl) (lenOf pd_24 rfl) rfl (hb hby at_719) (by decide) (by decide) (by decide) (by decide) ?_
    intro r101 T101 L101 q101 X101
    obtain ⟨rfl, rfl, e101⟩ := q101
    rw [List.append_nil] at X101
    show Go p e below _ T101 (mkF m 722 #[.val (.int x0), .val (.int n), .val (.ref b1), .val (.int (Int32.ofNat ee)), .val (.int (0 : Int32)), .val (.ref sr), .val (.int (((26 : Int32) + (Int32.ofNat ee)) + (9 : Int32))), .val (.ref b46), .val (.int (1 : Int32)), .val (.ref b87), .val (.int ((26 : Int32) + (Int32.ofNat ee)))] [(.int (1 : Int32))])
    refine Go.s_ifNo X101 hx (hb hby at_722) (q := 725) rfl ((if0 _ _).trans (feq (by decide : ¬ ((1 : Int32) = (0 : Int32)))).1) ?_
    refine Go.s_iconst X101 hx (hb hby at_725) (q := 726) rfl (z := 1) rfl ?_
    refine Go.s_goto X101 hx (hb hby at_726) (q := 730) (by decide) (by decide) ?_
    refine Go.s_istore X101 hx (hb hby at_730) (q := 732) rfl (l' := #[.val (.int x0), .val (.int n), .val (.ref b1), .val (.int (Int32.ofNat ee)), .val (.int (0 : Int32)), .val (.ref sr), .val (.int (((26 : Int32) + (Int32.ofNat ee)) + (9 : Int32))), .val (.ref b46), .val (.int (1 : Int32)), .val (.ref b87), .val (.int ((26 : Int32) + (Int32.ofNat ee)))]) rfl ?_
    refine Go.s_iload X101 hx (hb hby at_732) (q := 734) rfl rfl ?_
    refine Go.s_ifYes X101 hx (hb hby at_734) (q := 763) (by decide) (by decide) ((if0 _ _).trans (teq (by decide : (0 : Int32) = (0 : Int32))).1) ?_
    refine Go.s_iload X101 hx (hb hby at_763) (q := 765) rfl rfl ?_
    refine Go.retNW X101 hx hZ hEL e101 hW87 hlk hret (by simp) (hb hby at_765) (by decide) (by decide) ?_
    exact ⟨by decide, N44⟩
  · -- pc 78: not n = (1 : Int32)
    refine Go.s_icmpNo X36 hx (hb hby at_78) (q := 81) rfl (feq c78_37).1 ?_
    refine Go.s_iconst X36 hx (hb hby at_81) (q := 82) rfl (z := 1) rfl ?_
    refine Go.s_goto X36 hx (hb hby at_82) (q := 86) (by decide) (by decide) ?_
    refine Go.s_istore X36 hx (hb hby at_86) (q := 88) rfl (l' := #[.val (.int x0), .val (.int n), .val (.ref b1), .val (.int (Int32.ofNat ee)), .val (.int (1 : Int32)), .unset, .unset, .unset, .unset, .unset, .unset]) rfl ?_
    refine Go.newO X36 hx hZ hown (w_ hw 11 rfl) (w_ hw 12 rfl) (w_ hw 13 rfl) e36 (hb hby at_88) (by decide) (by decide) ?_
    intro T102 h102 b102 g102 X102 e102 E102 A102 D102
    have ne_b1_b102 : b1 ≠ b102 := Nat.ne_of_lt (g102 ▸ V33_35.lt)
    have g_b102 : n0 ≤ b102 := g102 ▸ Z0_v34
    have Z0_v103 := Nat.le_trans Z0_v34 E102.1
    have hWw33_v104 := hWw33.ext E102
    have Ow33_v105 := Old.ext Ow33 E102
    have V33_35_v106 := V33_35.ext E102
    have F_instances_b102 : Fld Z h102 b102 "com/example/irama/irama/Prefilter" "instances" "I" (.int (0 : Int32)) := D102 (Or.inr (w_ hw 21 rfl)) (ty := .int) (by decide)
    show Go p e below _ T102 (mkF m 91 #[.val (.int x0), .val (.int n), .val (.ref b1), .val (.int (Int32.ofNat ee)), .val (.int (1 : Int32)), .unset, .unset, .unset, .unset, .unset, .unset] [(.ref b102)])
    refine Go.s_dup X102 hx (hb hby at_91) (q := 92) rfl rfl ?_
    refine Go.s_iloadN X102 hx (hb hby at_92) (q := 93) rfl rfl ?_
    refine Go.callC (y := mn_2) X102 hx hZ rfl hown (w_ hw 14 rfl) (w_ hw 15 rfl) (w_ hw 16 rfl) (w_ hw 13 rfl) (by decide) e102 (b := b102) (argsL := [(.int n)]) (rest := [(.ref b102)]) (rm_pin l Z a0 hw b102 n _ n0 _ A102 F_instances_b102 g_b102 hn1) (by rw [hml]; rfl) (lenOf pd_10 rfl) rfl (hb hby at_93) (by first | decide | exact Nat.le_of_ble_eq_true rfl) (by first | decide | exact Nat.le_of_ble_eq_true rfl) (by first | decide | exact Nat.le_of_ble_eq_true rfl) (by first | decide | exact Nat.le_of_ble_eq_true rfl) ?_
    intro r107 T107 L107 q107 X107
    obtain ⟨rfl, Nq107, K107, E107p, F107p⟩ := q107
    have N107 := Fr.app N33 Nq107
    have hW107k := hWw33_v104.keep K107 (sfS (Safe.exa hZ.alike A102 (by decide) (by decide)) sf0)
    have O107 := Old.keep Ow33_v105 K107 (allS g_b102 all0)
    have Zk107 := Nat.le_trans Z0_v103 K107.1
    have Va107 := V33_35_v106.keep K107 (ninS ne_b1_b102 nin0)
    show Go p e below _ T107 (mkF m 96 #[.val (.int x0), .val (.int n), .val (.ref b1), .val (.int (Int32.ofNat ee)), .val (.int (1 : Int32)), .unset, .unset, .unset, .unset, .unset, .unset] [(.ref b102)])
    refine Go.callVW (y := mn_4) (z := mn_4) X107 hx hZ hown (w_ hw 22 rfl) (w_ hw 23 rfl) (notFace_of_selects (args := #[]) (mvT hZ (w_ hw 25 rfl))) (w_ hw 25 rfl) (w_ hw 24 rfl) (w_ hw 26 rfl) (w_ hw 13 rfl) (by decide) rfl hEL hW107k (sf := []) all0 E107p (argsL := []) (rest := []) (rm_tos l Z a0 hw b102 _ hEL n0 Zk107 O107 zc CS hzc dO dT kO kT SO VO SX VT n E107p F107p ee mm hmm he he' hlo hhi) (by rw [hml]; rfl) (lenOf pd_2 rfl) rfl (hb hby at_96) (by decide) (by decide) (by decide) (by decide) ?_
    intro r108 T108 L108 q108 X108 hZ hown hW108
    obtain ⟨sr, rfl, Nq108, K108, szr, Sr⟩ := q108
    rw [← sfx_more c78_37] at Sr
    have N108 := Fr.app N107 Nq108
    have O108 := Old.keep O107 K108 all0
    have Va108 := Va107.keep K108 nin0
    have hln := all_len ee mm tx2
    have hl9 : 26 + ee ≤ (tx0 ++ digs ee mm ++ tx2).length := by rw [hln]; omega
    have hl100 : (tx0 ++ digs ee mm ++ tx2).length ≤ 100 := by have := lw2.2; rw [hln]; omega
    have Er := Sr.exa
    show Go p e below _ T108 (mkF m 99 #[.val (.int x0), .val (.int n), .val (.ref b1), .val (.int (Int32.ofNat ee)), .val (.int (1 : Int32)), .unset, .unset, .unset, .unset, .unset, .unset] [(.ref sr)])
    refine Go.s_astore X108 hx (hb hby at_99) (q := 101) rfl rfl (l' := #[.val (.int x0), .val (.int n), .val (.ref b1), .val (.int (Int32.ofNat ee)), .val (.int (1 : Int32)), .val (.ref sr), .unset, .unset, .unset, .unset, .unset]) rfl ?_
    refine Go.s_bipush X108 hx (hb hby at_101) (q := 103) rfl (z := 26) rfl ?_
    refine Go.s_iloadN X108 hx (hb hby at_103) (q := 104) rfl rfl ?_
    refine Go.s_iadd X108 hx (hb hby at_104) (q := 105) rfl ?_
    refine Go.s_iload X108 hx (hb hby at_105) (q := 107) rfl rfl ?_
    refine Go.s_ifNo X108 hx (hb hby at_107) (q := 110) rfl ((if0 _ _).trans (feq (by decide : ¬ ((1 : Int32) = (0 : Int32)))).1) ?_
    refine Go.s_bipush X108 hx (hb hby at_110) (q := 112) rfl (z := 10) rfl ?_
    refine Go.s_goto X108 hx (hb hby at_112) (q := 117) (by decide) (by decide) ?_
    refine Go.s_iadd X108 hx (hb hby at_117) (q := 118) rfl ?_
    refine Go.s_istore X108 hx (hb hby at_118) (q := 120) rfl (l' := #[.val (.int x0), .val (.int n), .val (.ref b1), .val (.int (Int32.ofNat ee)), .val (.int (1 : Int32)), .val (.ref sr), .val (.int (((26 : Int32) + (Int32.ofNat ee)) + (10 : Int32))), .unset, .unset, .unset, .unset]) rfl ?_
    refine Go.s_aload X108 hx (hb hby at_120) (q := 122) rfl rfl rfl ?_
    refine Go.s_ifnullNo X108 hx (hb hby at_122) (q := 125) rfl ?_
    refine Go.s_aload X108 hx (hb hby at_125) (q := 127) rfl rfl rfl ?_
    refine Go.callV (y := mn_9) (z := mn_9) X108 hx hZ hown (w_ hw 186 rfl) (w_ hw 64 rfl) (notFace_of_selects (args := #[]) (mvT hZ (w_ hw 66 rfl))) (w_ hw 66 rfl) (w_ hw 65 rfl) (w_ hw 67 rfl) (w_ hw 41 rfl) (by decide) rfl Er (argsL := []) (rest := []) (rm_sln l Z a0 hw sr _ zc (CS.ext O108.2) hzc _ (tx0 ++ digs ee mm ++ tx2) Sr) (by rw [hml]; rfl) (lenOf pd_1 rfl) rfl (hb hby at_127) (by decide) (by decide) (by decide) (by decide) ?_
    intro r109 T109 L109 q109 X109
    obtain ⟨rfl, rfl, e109⟩ := q109
    rw [List.append_nil] at X109
    show Go p e below _ T109 (mkF m 130 #[.val (.int x0), .val (.int n), .val (.ref b1), .val (.int (Int32.ofNat ee)), .val (.int (1 : Int32)), .val (.ref sr), .val (.int (((26 : Int32) + (Int32.ofNat ee)) + (10 : Int32))), .unset, .unset, .unset, .unset] [(.int (Int32.ofNat (tx0 ++ digs ee mm ++ tx2).length))])
    refine Go.s_iload X109 hx (hb hby at_130) (q := 132) rfl rfl ?_
    have hlq : (Int32.ofNat (tx0 ++ digs ee mm ++ tx2).length) = (((26 : Int32) + (Int32.ofNat ee)) + (10 : Int32)) := len_q hln he' lw2.1 (by decide)
    refine Go.s_icmpYes X109 hx (hb hby at_132) (q := 137) (by decide) (by decide) (teq hlq).1 ?_
    refine Go.ldcW (cs := tx0) X109 hx hZ hown (w_ hw 187 rfl) (w_str hw) e109 hEL (by decide) hW108 ht0 hc0 (by decide) (hb hby at_137) (by decide) (by decide) ?_
    intro T110 h110 b110 X110 e110 E110 hZ hown S110 hW110 R110
    have O108_v111 := Old.ext O108 E110
    have Va108_v112 := Va108.ext E110
    have Sr_v113 := Sr.ext E110
    have Er_v114 := Er.ext E110
    show Go p e below _ T110 (mkF m 139 #[.val (.int x0), .val (.int n), .val (.ref b1), .val (.int (Int32.ofNat ee)), .val (.int (1 : Int32)), .val (.ref sr), .val (.int (((26 : Int32) + (Int32.ofNat ee)) + (10 : Int32))), .unset, .unset, .unset, .unset] [(.ref b110)])
    refine Go.s_astore X110 hx (hb hby at_139) (q := 141) rfl rfl (l' := #[.val (.int x0), .val (.int n), .val (.ref b1), .val (.int (Int32.ofNat ee)), .val (.int (1 : Int32)), .val (.ref sr), .val (.int (((26 : Int32) + (Int32.ofNat ee)) + (10 : Int32))), .val (.ref b110), .unset, .unset, .unset]) rfl ?_
    refine Go.s_aload X110 hx (hb hby at_141) (q := 143) rfl rfl rfl ?_
    refine Go.s_aload X110 hx (hb hby at_143) (q := 145) rfl rfl rfl ?_
    refine Go.s_iconst X110 hx (hb hby at_145) (q := 146) rfl (z := 0) rfl ?_
    refine Go.callS (y := mn_34) X110 hx hZ hown (w_ hw 188 rfl) (w_ hw 189 rfl) (w_ hw 9 rfl) (w_ hw 190 rfl) (by decide) e110 (argsL := [(.ref sr), (.ref b110), (.int (0 : Int32))]) (rest := []) (rm_lc l Z a0 hw sr b110 (0 : Int32) _ zc (CS.ext O108_v111.2) hzc fm (SF.ext O108_v111.2) rf _ (tx0 ++ digs ee mm ++ tx2) Sr_v113 _ tx0 S110 (by decide) (lt_26 (by decide) hl9 hl100) (by decide) (pre_at (by decide))) (by rw [hml]; rfl) (lenOf pd_23 rfl) rfl (hb hby at_146) (by decide) (by decide) (by decide) (by decide) ?_
    intro r115 T115 L115 q115 X115
    obtain ⟨rfl, rfl, e115⟩ := q115
    rw [List.append_nil] at X115
    show Go p e below _ T115 (mkF m 149 #[.val (.int x0), .val (.int n), .val (.ref b1), .val (.int (Int32.ofNat ee)), .val (.int (1 : Int32)), .val (.ref sr), .val (.int (((26 : Int32) + (Int32.ofNat ee)) + (10 : Int32))), .val (.ref b110), .unset, .unset, .unset] [(.int (1 : Int32))])
    refine Go.s_ifNo X115 hx (hb hby at_149) (q := 152) rfl ((if0 _ _).trans (feq (by decide : ¬ ((1 : Int32) = (0 : Int32)))).1) ?_
    refine Go.s_aload X115 hx (hb hby at_152) (q := 154) rfl rfl rfl ?_
    refine Go.s_aload X115 hx (hb hby at_154) (q := 156) rfl rfl rfl ?_
    refine Go.s_iconst X115 hx (hb hby at_156) (q := 157) rfl (z := 1) rfl ?_
    refine Go.callS (y := mn_34) X115 hx hZ hown (w_ hw 188 rfl) (w_ hw 189 rfl) (w_ hw 9 rfl) (w_ hw 190 rfl) (by decide) e115 (argsL := [(.ref sr), (.ref b110), (.int (1 : Int32))]) (rest := []) (rm_lc l Z a0 hw sr b110 (1 : Int32) _ zc (CS.ext O108_v111.2) hzc fm (SF.ext O108_v111.2) rf _ (tx0 ++ digs ee mm ++ tx2) Sr_v113 _ tx0 S110 (by decide) (lt_26 (by decide) hl9 hl100) (by decide) (pre_at (by decide))) (by rw [hml]; rfl) (lenOf pd_23 rfl) rfl (hb hby at_157) (by decide) (by decide) (by decide) (by decide) ?_
    intro r116 T116 L116 q116 X116
    obtain ⟨rfl, rfl, e116⟩ := q116
    rw [List.append_nil] at X116
    show Go p e below _ T116 (mkF m 160 #[.val (.int x0), .val (.int n), .val (.ref b1), .val (.int (Int32.ofNat ee)), .val (.int (1 : Int32)), .val (.ref sr), .val (.int (((26 : Int32) + (Int32.ofNat ee)) + (10 : Int32))), .val (.ref b110), .unset, .unset, .unset] [(.int (1 : Int32))])
    refine Go.s_ifNo X116 hx (hb hby at_160) (q := 163) rfl ((if0 _ _).trans (feq (by decide : ¬ ((1 : Int32) = (0 : Int32)))).1) ?_
    refine Go.s_aload X116 hx (hb hby at_163) (q := 165) rfl rfl rfl ?_
    refine Go.s_aload X116 hx (hb hby at_165) (q := 167) rfl rfl rfl ?_
    refine Go.s_iconst X116 hx (hb hby at_167) (q := 168) rfl (z := 2) rfl ?_
    refine Go.callS (y := mn_34) X116 hx hZ hown (w_ hw 188 rfl) (w_ hw 189 rfl) (w_ hw 9 rfl) (w_ hw 190 rfl) (by decide) e116 (argsL := [(.ref sr), (.ref b110), (.int (2 : Int32))]) (rest := []) (rm_lc l Z a0 hw sr b110 (2 : Int32) _ zc (CS.ext O108_v111.2) hzc fm (SF.ext O108_v111.2) rf _ (tx0 ++ digs ee mm ++ tx2) Sr_v113 _ tx0 S110 (by decide) (lt_26 (by decide) hl9 hl100) (by decide) (pre_at (by decide))) (by rw [hml]; rfl) (lenOf pd_23 rfl) rfl (hb hby at_168) (by decide) (by decide) (by decide) (by decide) ?_
    intro r117 T117 L117 q117 X117
    obtain ⟨rfl, rfl, e117⟩ := q117
    rw [List.append_nil] at X117
    show Go p e below _ T117 (mkF m 171 #[.val (.int x0), .val (.int n), .val (.ref b1), .val (.int (Int32.ofNat ee)), .val (.int (1 : Int32)), .val (.ref sr), .val (.int (((26 : Int32) + (Int32.ofNat ee)) + (10 : Int32))), .val (.ref b110), .unset, .unset, .unset] [(.int (1 : Int32))])
    refine Go.s_ifNo X117 hx (hb hby at_171) (q := 174) rfl ((if0 _ _).trans (feq (by decide : ¬ ((1 : Int32) = (0 : Int32)))).1) ?_
    refine Go.s_aload X117 hx (hb hby at_174) (q := 176) rfl rfl rfl ?_
    refine Go.s_aload X117 hx (hb hby at_176) (q := 178) rfl rfl rfl ?_
    refine Go.s_iconst X117 hx (hb hby at_178) (q := 179) rfl (z := 3) rfl ?_
    refine Go.callS (y := mn_34) X117 hx hZ hown (w_ hw 188 rfl) (w_ hw 189 rfl) (w_ hw 9 rfl) (w_ hw 190 rfl) (by decide) e117 (argsL := [(.ref sr), (.ref b110), (.int (3 : Int32))]) (rest := []) (rm_lc l Z a0 hw sr b110 (3 : Int32) _ zc (CS.ext O108_v111.2) hzc fm (SF.ext O108_v111.2) rf _ (tx0 ++ digs ee mm ++ tx2) Sr_v113 _ tx0 S110 (by decide) (lt_26 (by decide) hl9 hl100) (by decide) (pre_at (by decide))) (by rw [hml]; rfl) (lenOf pd_23 rfl) rfl (hb hby at_179) (by decide) (by decide) (by decide) (by decide) ?_
    intro r118 T118 L118 q118 X118
    obtain ⟨rfl, rfl, e118⟩ := q118
    rw [List.append_nil] at X118
    show Go p e below _ T118 (mkF m 182 #[.val (.int x0), .val (.int n), .val (.ref b1), .val (.int (Int32.ofNat ee)), .val (.int (1 : Int32)), .val (.ref sr), .val (.int (((26 : Int32) + (Int32.ofNat ee)) + (10 : Int32))), .val (.ref b110), .unset, .unset, .unset] [(.int (1 : Int32))])
    refine Go.s_ifNo X118 hx (hb hby at_182) (q := 185) rfl ((if0 _ _).trans (feq (by decide : ¬ ((1 : Int32) = (0 : Int32)))).1) ?_
    refine Go.s_aload X118 hx (hb hby at_185) (q := 187) rfl rfl rfl ?_
    refine Go.s_aload X118 hx (hb hby at_187) (q := 189) rfl rfl rfl ?_
    refine Go.s_iconst X118 hx (hb hby at_189) (q := 190) rfl (z := 4) rfl ?_
    refine Go.callS (y := mn_34) X118 hx hZ hown (w_ hw 188 rfl) (w_ hw 189 rfl) (w_ hw 9 rfl) (w_ hw 190 rfl) (by decide) e118 (argsL := [(.ref sr), (.ref b110), (.int (4 : Int32))]) (rest := []) (rm_lc l Z a0 hw sr b110 (4 : Int32) _ zc (CS.ext O108_v111.2) hzc fm (SF.ext O108_v111.2) rf _ (tx0 ++ digs ee mm ++ tx2) Sr_v113 _ tx0 S110 (by decide) (lt_26 (by decide) hl9 hl100) (by decide) (pre_at (by decide))) (by rw [hml]; rfl) (lenOf pd_23 rfl) rfl (hb hby at_190) (by decide) (by decide) (by decide) (by decide) ?_
    intro r119 T119 L119 q119 X119
    obtain ⟨rfl, rfl, e119⟩ := q119
    rw [List.append_nil] at X119
    show Go p e below _ T119 (mkF m 193 #[.val (.int x0), .val (.int n), .val (.ref b1), .val (.int (Int32.ofNat ee)), .val (.int (1 : Int32)), .val (.ref sr), .val (.int (((26 : Int32) + (Int32.ofNat ee)) + (10 : Int32))), .val (.ref b110), .unset, .unset, .unset] [(.int (1 : Int32))])
    refine Go.s_ifNo X119 hx (hb hby at_193) (q := 196) rfl ((if0 _ _).trans (feq (by decide : ¬ ((1 : Int32) = (0 : Int32)))).1) ?_
    refine Go.s_aload X119 hx (hb hby at_196) (q := 198) rfl rfl rfl ?_
    refine Go.s_aload X119 hx (hb hby at_198) (q := 200) rfl rfl rfl ?_
    refine Go.s_iconst X119 hx (hb hby at_200) (q := 201) rfl (z := 5) rfl ?_
    refine Go.callS (y := mn_34) X119 hx hZ hown (w_ hw 188 rfl) (w_ hw 189 rfl) (w_ hw 9 rfl) (w_ hw 190 rfl) (by decide) e119 (argsL := [(.ref sr), (.ref b110), (.int (5 : Int32))]) (rest := []) (rm_lc l Z a0 hw sr b110 (5 : Int32) _ zc (CS.ext O108_v111.2) hzc fm (SF.ext O108_v111.2) rf _ (tx0 ++ digs ee mm ++ tx2) Sr_v113 _ tx0 S110 (by decide) (lt_26 (by decide) hl9 hl100) (by decide) (pre_at (by decide))) (by rw [hml]; rfl) (lenOf pd_23 rfl) rfl (hb hby at_201) (by decide) (by decide) (by decide) (by decide) ?_
    intro r120 T120 L120 q120 X120
    obtain ⟨rfl, rfl, e120⟩ := q120
    rw [List.append_nil] at X120
    show Go p e below _ T120 (mkF m 204 #[.val (.int x0), .val (.int n), .val (.ref b1), .val (.int (Int32.ofNat ee)), .val (.int (1 : Int32)), .val (.ref sr), .val (.int (((26 : Int32) + (Int32.ofNat ee)) + (10 : Int32))), .val (.ref b110), .unset, .unset, .unset] [(.int (1 : Int32))])
    refine Go.s_ifNo X120 hx (hb hby at_204) (q := 207) rfl ((if0 _ _).trans (feq (by decide : ¬ ((1 : Int32) = (0 : Int32)))).1) ?_
    refine Go.s_aload X120 hx (hb hby at_207) (q := 209) rfl rfl rfl ?_
    refine Go.s_aload X120 hx (hb hby at_209) (q := 211) rfl rfl rfl ?_
    refine Go.s_bipush X120 hx (hb hby at_211) (q := 213) rfl (z := 6) rfl ?_
    refine Go.callS (y := mn_34) X120 hx hZ hown (w_ hw 188 rfl) (w_ hw 189 rfl) (w_ hw 9 rfl) (w_ hw 190 rfl) (by decide) e120 (argsL := [(.ref sr), (.ref b110), (.int (6 : Int32))]) (rest := []) (rm_lc l Z a0 hw sr b110 (6 : Int32) _ zc (CS.ext O108_v111.2) hzc fm (SF.ext O108_v111.2) rf _ (tx0 ++ digs ee mm ++ tx2) Sr_v113 _ tx0 S110 (by decide) (lt_26 (by decide) hl9 hl100) (by decide) (pre_at (by decide))) (by rw [hml]; rfl) (lenOf pd_23 rfl) rfl (hb hby at_213) (by decide) (by decide) (by decide) (by decide) ?_
    intro r121 T121 L121 q121 X121
    obtain ⟨rfl, rfl, e121⟩ := q121
    rw [List.append_nil] at X121
    show Go p e below _ T121 (mkF m 216 #[.val (.int x0), .val (.int n), .val (.ref b1), .val (.int (Int32.ofNat ee)), .val (.int (1 : Int32)), .val (.ref sr), .val (.int (((26 : Int32) + (Int32.ofNat ee)) + (10 : Int32))), .val (.ref b110), .unset, .unset, .unset] [(.int (1 : Int32))])
    refine Go.s_ifNo X121 hx (hb hby at_216) (q := 219) rfl ((if0 _ _).trans (feq (by decide : ¬ ((1 : Int32) = (0 : Int32)))).1) ?_
    refine Go.s_aload X121 hx (hb hby at_219) (q := 221) rfl rfl rfl ?_
    refine Go.s_aload X121 hx (hb hby at_221) (q := 223) rfl rfl rfl ?_
    refine Go.s_bipush X121 hx (hb hby at_223) (q := 225) rfl (z := 7) rfl ?_
    refine Go.callS (y := mn_34) X121 hx hZ hown (w_ hw 188 rfl) (w_ hw 189 rfl) (w_ hw 9 rfl) (w_ hw 190 rfl) (by decide) e121 (argsL := [(.ref sr), (.ref b110), (.int (7 : Int32))]) (rest := []) (rm_lc l Z a0 hw sr b110 (7 : Int32) _ zc (CS.ext O108_v111.2) hzc fm (SF.ext O108_v111.2) rf _ (tx0 ++ digs ee mm ++ tx2) Sr_v113 _ tx0 S110 (by decide) (lt_26 (by decide) hl9 hl100) (by decide) (pre_at (by decide))) (by rw [hml]; rfl) (lenOf pd_23 rfl) rfl (hb hby at_225) (by decide) (by decide) (by decide) (by decide) ?_
    intro r122 T122 L122 q122 X122
    obtain ⟨rfl, rfl, e122⟩ := q122
    rw [List.append_nil] at X122
    show Go p e below _ T122 (mkF m 228 #[.val (.int x0), .val (.int n), .val (.ref b1), .val (.int (Int32.ofNat ee)), .val (.int (1 : Int32)), .val (.ref sr), .val (.int (((26 : Int32) + (Int32.ofNat ee)) + (10 : Int32))), .val (.ref b110), .unset, .unset, .unset] [(.int (1 : Int32))])
    refine Go.s_ifNo X122 hx (hb hby at_228) (q := 231) rfl ((if0 _ _).trans (feq (by decide : ¬ ((1 : Int32) = (0 : Int32)))).1) ?_
    refine Go.s_aload X122 hx (hb hby at_231) (q := 233) rfl rfl rfl ?_
    refine Go.s_aload X122 hx (hb hby at_233) (q := 235) rfl rfl rfl ?_
    refine Go.s_bipush X122 hx (hb hby at_235) (q := 237) rfl (z := 8) rfl ?_
    refine Go.callS (y := mn_34) X122 hx hZ hown (w_ hw 188 rfl) (w_ hw 189 rfl) (w_ hw 9 rfl) (w_ hw 190 rfl) (by decide) e122 (argsL := [(.ref sr), (.ref b110), (.int (8 : Int32))]) (rest := []) (rm_lc l Z a0 hw sr b110 (8 : Int32) _ zc (CS.ext O108_v111.2) hzc fm (SF.ext O108_v111.2) rf _ (tx0 ++ digs ee mm ++ tx2) Sr_v113 _ tx0 S110 (by decide) (lt_26 (by decide) hl9 hl100) (by decide) (pre_at (by decide))) (by rw [hml]; rfl) (lenOf pd_23 rfl) rfl (hb hby at_237) (by decide) (by decide) (by decide) (by decide) ?_
    intro r123 T123 L123 q123 X123
    obtain ⟨rfl, rfl, e123⟩ := q123
    rw [List.append_nil] at X123
    show Go p e below _ T123 (mkF m 240 #[.val (.int x0), .val (.int n), .val (.ref b1), .val (.int (Int32.ofNat ee)), .val (.int (1 : Int32)), .val (.ref sr), .val (.int (((26 : Int32) + (Int32.ofNat ee)) + (10 : Int32))), .val (.ref b110), .unset, .unset, .unset] [(.int (1 : Int32))])
    refine Go.s_ifNo X123 hx (hb hby at_240) (q := 243) rfl ((if0 _ _).trans (feq (by decide : ¬ ((1 : Int32) = (0 : Int32)))).1) ?_
    refine Go.s_aload X123 hx (hb hby at_243) (q := 245) rfl rfl rfl ?_
    refine Go.s_aload X123 hx (hb hby at_245) (q := 247) rfl rfl rfl ?_
    refine Go.s_bipush X123 hx (hb hby at_247) (q := 249) rfl (z := 9) rfl ?_
    refine Go.callS (y := mn_34) X123 hx hZ hown (w_ hw 188 rfl) (w_ hw 189 rfl) (w_ hw 9 rfl) (w_ hw 190 rfl) (by decide) e123 (argsL := [(.ref sr), (.ref b110), (.int (9 : Int32))]) (rest := []) (rm_lc l Z a0 hw sr b110 (9 : Int32) _ zc (CS.ext O108_v111.2) hzc fm (SF.ext O108_v111.2) rf _ (tx0 ++ digs ee mm ++ tx2) Sr_v113 _ tx0 S110 (by decide) (lt_26 (by decide) hl9 hl100) (by decide) (pre_at (by decide))) (by rw [hml]; rfl) (lenOf pd_23 rfl) rfl (hb hby at_249) (by decide) (by decide) (by decide) (by decide) ?_
    intro r124 T124 L124 q124 X124
    obtain ⟨rfl, rfl, e124⟩ := q124
    rw [List.append_nil] at X124
    show Go p e below _ T124 (mkF m 252 #[.val (.int x0), .val (.int n), .val (.ref b1), .val (.int (Int32.ofNat ee)), .val (.int (1 : Int32)), .val (.ref sr), .val (.int (((26 : Int32) + (Int32.ofNat ee)) + (10 : Int32))), .val (.ref b110), .unset, .unset, .unset] [(.int (1 : Int32))])
    refine Go.s_ifNo X124 hx (hb hby at_252) (q := 255) rfl ((if0 _ _).trans (feq (by decide : ¬ ((1 : Int32) = (0 : Int32)))).1) ?_
    refine Go.s_aload X124 hx (hb hby at_255) (q := 257) rfl rfl rfl ?_
    refine Go.s_aload X124 hx (hb hby at_257) (q := 259) rfl rfl rfl ?_
    refine Go.s_bipush X124 hx (hb hby at_259) (q := 261) rfl (z := 10) rfl ?_
    refine Go.callS (y := mn_34) X124 hx hZ hown (w_ hw 188 rfl) (w_ hw 189 rfl) (w_ hw 9 rfl) (w_ hw 190 rfl) (by decide) e124 (argsL := [(.ref sr), (.ref b110), (.int (10 : Int32))]) (rest := []) (rm_lc l Z a0 hw sr b110 (10 : Int32) _ zc (CS.ext O108_v111.2) hzc fm (SF.ext O108_v111.2) rf _ (tx0 ++ digs ee mm ++ tx2) Sr_v113 _ tx0 S110 (by decide) (lt_26 (by decide) hl9 hl100) (by decide) (pre_at (by decide))) (by rw [hml]; rfl) (lenOf pd_23 rfl) rfl (hb hby at_261) (by decide) (by decide) (by decide) (by decide) ?_
    intro r125 T125 L125 q125 X125
    obtain ⟨rfl, rfl, e125⟩ := q125
    rw [List.append_nil] at X125
    show Go p e below _ T125 (mkF m 264 #[.val (.int x0), .val (.int n), .val (.ref b1), .val (.int (Int32.ofNat ee)), .val (.int (1 : Int32)), .val (.ref sr), .val (.int (((26 : Int32) + (Int32.ofNat ee)) + (10 : Int32))), .val (.ref b110), .unset, .unset, .unset] [(.int (1 : Int32))])
    refine Go.s_ifNo X125 hx (hb hby at_264) (q := 267) rfl ((if0 _ _).trans (feq (by decide : ¬ ((1 : Int32) = (0 : Int32)))).1) ?_
    refine Go.s_aload X125 hx (hb hby at_267) (q := 269) rfl rfl rfl ?_
    refine Go.s_aload X125 hx (hb hby at_269) (q := 271) rfl rfl rfl ?_
    refine Go.s_bipush X125 hx (hb hby at_271) (q := 273) rfl (z := 11) rfl ?_
    refine Go.callS (y := mn_34) X125 hx hZ hown (w_ hw 188 rfl) (w_ hw 189 rfl) (w_ hw 9 rfl) (w_ hw 190 rfl) (by decide) e125 (argsL := [(.ref sr), (.ref b110), (.int (11 : Int32))]) (rest := []) (rm_lc l Z a0 hw sr b110 (11 : Int32) _ zc (CS.ext O108_v111.2) hzc fm (SF.ext O108_v111.2) rf _ (tx0 ++ digs ee mm ++ tx2) Sr_v113 _ tx0 S110 (by decide) (lt_26 (by decide) hl9 hl100) (by decide) (pre_at (by decide))) (by rw [hml]; rfl) (lenOf pd_23 rfl) rfl (hb hby at_273) (by decide) (by decide) (by decide) (by decide) ?_
    intro r126 T126 L126 q126 X126
    obtain ⟨rfl, rfl, e126⟩ := q126
    rw [List.append_nil] at X126
    show Go p e below _ T126 (mkF m 276 #[.val (.int x0), .val (.int n), .val (.ref b1), .val (.int (Int32.ofNat ee)), .val (.int (1 : Int32)), .val (.ref sr), .val (.int (((26 : Int32) + (Int32.ofNat ee)) + (10 : Int32))), .val (.ref b110), .unset, .unset, .unset] [(.int (1 : Int32))])
    refine Go.s_ifNo X126 hx (hb hby at_276) (q := 279) rfl ((if0 _ _).trans (feq (by decide : ¬ ((1 : Int32) = (0 : Int32)))).1) ?_
    refine Go.s_aload X126 hx (hb hby at_279) (q := 281) rfl rfl rfl ?_
    refine Go.s_aload X126 hx (hb hby at_281) (q := 283) rfl rfl rfl ?_
    refine Go.s_bipush X126 hx (hb hby at_283) (q := 285) rfl (z := 12) rfl ?_
    refine Go.callS (y := mn_34) X126 hx hZ hown (w_ hw 188 rfl) (w_ hw 189 rfl) (w_ hw 9 rfl) (w_ hw 190 rfl) (by decide) e126 (argsL := [(.ref sr), (.ref b110), (.int (12 : Int32))]) (rest := []) (rm_lc l Z a0 hw sr b110 (12 : Int32) _ zc (CS.ext O108_v111.2) hzc fm (SF.ext O108_v111.2) rf _ (tx0 ++ digs ee mm ++ tx2) Sr_v113 _ tx0 S110 (by decide) (lt_26 (by decide) hl9 hl100) (by decide) (pre_at (by decide))) (by rw [hml]; rfl) (lenOf pd_23 rfl) rfl (hb hby at_285) (by decide) (by decide) (by decide) (by decide) ?_
    intro r127 T127 L127 q127 X127
    obtain ⟨rfl, rfl, e127⟩ := q127
    rw [List.append_nil] at X127
    show Go p e below _ T127 (mkF m 288 #[.val (.int x0), .val (.int n), .val (.ref b1), .val (.int (Int32.ofNat ee)), .val (.int (1 : Int32)), .val (.ref sr), .val (.int (((26 : Int32) + (Int32.ofNat ee)) + (10 : Int32))), .val (.ref b110), .unset, .unset, .unset] [(.int (1 : Int32))])
    refine Go.s_ifNo X127 hx (hb hby at_288) (q := 291) rfl ((if0 _ _).trans (feq (by decide : ¬ ((1 : Int32) = (0 : Int32)))).1) ?_
    refine Go.s_aload X127 hx (hb hby at_291) (q := 293) rfl rfl rfl ?_
    refine Go.s_aload X127 hx (hb hby at_293) (q := 295) rfl rfl rfl ?_
    refine Go.s_bipush X127 hx (hb hby at_295) (q := 297) rfl (z := 13) rfl ?_
    refine Go.callS (y := mn_34) X127 hx hZ hown (w_ hw 188 rfl) (w_ hw 189 rfl) (w_ hw 9 rfl) (w_ hw 190 rfl) (by decide) e127 (argsL := [(.ref sr), (.ref b110), (.int (13 : Int32))]) (rest := []) (rm_lc l Z a0 hw sr b110 (13 : Int32) _ zc (CS.ext O108_v111.2) hzc fm (SF.ext O108_v111.2) rf _ (tx0 ++ digs ee mm ++ tx2) Sr_v113 _ tx0 S110 (by decide) (lt_26 (by decide) hl9 hl100) (by decide) (pre_at (by decide))) (by rw [hml]; rfl) (lenOf pd_23 rfl) rfl (hb hby at_297) (by decide) (by decide) (by decide) (by decide) ?_
    intro r128 T128 L128 q128 X128
    obtain ⟨rfl, rfl, e128⟩ := q128
    rw [List.append_nil] at X128
    show Go p e below _ T128 (mkF m 300 #[.val (.int x0), .val (.int n), .val (.ref b1), .val (.int (Int32.ofNat ee)), .val (.int (1 : Int32)), .val (.ref sr), .val (.int (((26 : Int32) + (Int32.ofNat ee)) + (10 : Int32))), .val (.ref b110), .unset, .unset, .unset] [(.int (1 : Int32))])
    refine Go.s_ifNo X128 hx (hb hby at_300) (q := 303) rfl ((if0 _ _).trans (feq (by decide : ¬ ((1 : Int32) = (0 : Int32)))).1) ?_
    refine Go.s_aload X128 hx (hb hby at_303) (q := 305) rfl rfl rfl ?_
    refine Go.s_aload X128 hx (hb hby at_305) (q := 307) rfl rfl rfl ?_
    refine Go.s_bipush X128 hx (hb hby at_307) (q := 309) rfl (z := 14) rfl ?_
    refine Go.callS (y := mn_34) X128 hx hZ hown (w_ hw 188 rfl) (w_ hw 189 rfl) (w_ hw 9 rfl) (w_ hw 190 rfl) (by decide) e128 (argsL := [(.ref sr), (.ref b110), (.int (14 : Int32))]) (rest := []) (rm_lc l Z a0 hw sr b110 (14 : Int32) _ zc (CS.ext O108_v111.2) hzc fm (SF.ext O108_v111.2) rf _ (tx0 ++ digs ee mm ++ tx2) Sr_v113 _ tx0 S110 (by decide) (lt_26 (by decide) hl9 hl100) (by decide) (pre_at (by decide))) (by rw [hml]; rfl) (lenOf pd_23 rfl) rfl (hb hby at_309) (by decide) (by decide) (by decide) (by decide) ?_
    intro r129 T129 L129 q129 X129
    obtain ⟨rfl, rfl, e129⟩ := q129
    rw [List.append_nil] at X129
    show Go p e below _ T129 (mkF m 312 #[.val (.int x0), .val (.int n), .val (.ref b1), .val (.int (Int32.ofNat ee)), .val (.int (1 : Int32)), .val (.ref sr), .val (.int (((26 : Int32) + (Int32.ofNat ee)) + (10 : Int32))), .val (.ref b110), .unset, .unset, .unset] [(.int (1 : Int32))])
    refine Go.s_ifNo X129 hx (hb hby at_312) (q := 315) rfl ((if0 _ _).trans (feq (by decide : ¬ ((1 : Int32) = (0 : Int32)))).1) ?_
    refine Go.s_aload X129 hx (hb hby at_315) (q := 317) rfl rfl rfl ?_
    refine Go.s_aload X129 hx (hb hby at_317) (q := 319) rfl rfl rfl ?_
    refine Go.s_bipush X129 hx (hb hby at_319) (q := 321) rfl (z := 15) rfl ?_
    refine Go.callS (y := mn_34) X129 hx hZ hown (w_ hw 188 rfl) (w_ hw 189 rfl) (w_ hw 9 rfl) (w_ hw 190 rfl) (by decide) e129 (argsL := [(.ref sr), (.ref b110), (.int (15 : Int32))]) (rest := []) (rm_lc l Z a0 hw sr b110 (15 : Int32) _ zc (CS.ext O108_v111.2) hzc fm (SF.ext O108_v111.2) rf _ (tx0 ++ digs ee mm ++ tx2) Sr_v113 _ tx0 S110 (by decide) (lt_26 (by decide) hl9 hl100) (by decide) (pre_at (by decide))) (by rw [hml]; rfl) (lenOf pd_23 rfl) rfl (hb hby at_321) (by decide) (by decide) (by decide) (by decide) ?_
    intro r130 T130 L130 q130 X130
    obtain ⟨rfl, rfl, e130⟩ := q130
    rw [List.append_nil] at X130
    show Go p e below _ T130 (mkF m 324 #[.val (.int x0), .val (.int n), .val (.ref b1), .val (.int (Int32.ofNat ee)), .val (.int (1 : Int32)), .val (.ref sr), .val (.int (((26 : Int32) + (Int32.ofNat ee)) + (10 : Int32))), .val (.ref b110), .unset, .unset, .unset] [(.int (1 : Int32))])
    refine Go.s_ifNo X130 hx (hb hby at_324) (q := 327) rfl ((if0 _ _).trans (feq (by decide : ¬ ((1 : Int32) = (0 : Int32)))).1) ?_
    refine Go.s_aload X130 hx (hb hby at_327) (q := 329) rfl rfl rfl ?_
    refine Go.s_aload X130 hx (hb hby at_329) (q := 331) rfl rfl rfl ?_
    refine Go.s_bipush X130 hx (hb hby at_331) (q := 333) rfl (z := 16) rfl ?_
    refine Go.callS (y := mn_34) X130 hx hZ hown (w_ hw 188 rfl) (w_ hw 189 rfl) (w_ hw 9 rfl) (w_ hw 190 rfl) (by decide) e130 (argsL := [(.ref sr), (.ref b110), (.int (16 : Int32))]) (rest := []) (rm_lc l Z a0 hw sr b110 (16 : Int32) _ zc (CS.ext O108_v111.2) hzc fm (SF.ext O108_v111.2) rf _ (tx0 ++ digs ee mm ++ tx2) Sr_v113 _ tx0 S110 (by decide) (lt_26 (by decide) hl9 hl100) (by decide) (pre_at (by decide))) (by rw [hml]; rfl) (lenOf pd_23 rfl) rfl (hb hby at_333) (by decide) (by decide) (by decide) (by decide) ?_
    intro r131 T131 L131 q131 X131
    obtain ⟨rfl, rfl, e131⟩ := q131
    rw [List.append_nil] at X131
    show Go p e below _ T131 (mkF m 336 #[.val (.int x0), .val (.int n), .val (.ref b1), .val (.int (Int32.ofNat ee)), .val (.int (1 : Int32)), .val (.ref sr), .val (.int (((26 : Int32) + (Int32.ofNat ee)) + (10 : Int32))), .val (.ref b110), .unset, .unset, .unset] [(.int (1 : Int32))])
    refine Go.s_ifNo X131 hx (hb hby at_336) (q := 339) rfl ((if0 _ _).trans (feq (by decide : ¬ ((1 : Int32) = (0 : Int32)))).1) ?_
    refine Go.s_aload X131 hx (hb hby at_339) (q := 341) rfl rfl rfl ?_
    refine Go.s_aload X131 hx (hb hby at_341) (q := 343) rfl rfl rfl ?_
    refine Go.s_bipush X131 hx (hb hby at_343) (q := 345) rfl (z := 17) rfl ?_
    refine Go.callS (y := mn_34) X131 hx hZ hown (w_ hw 188 rfl) (w_ hw 189 rfl) (w_ hw 9 rfl) (w_ hw 190 rfl) (by decide) e131 (argsL := [(.ref sr), (.ref b110), (.int (17 : Int32))]) (rest := []) (rm_lc l Z a0 hw sr b110 (17 : Int32) _ zc (CS.ext O108_v111.2) hzc fm (SF.ext O108_v111.2) rf _ (tx0 ++ digs ee mm ++ tx2) Sr_v113 _ tx0 S110 (by decide) (lt_26 (by decide) hl9 hl100) (by decide) (pre_at (by decide))) (by rw [hml]; rfl) (lenOf pd_23 rfl) rfl (hb hby at_345) (by decide) (by decide) (by decide) (by decide) ?_
    intro r132 T132 L132 q132 X132
    obtain ⟨rfl, rfl, e132⟩ := q132
    rw [List.append_nil] at X132
    show Go p e below _ T132 (mkF m 348 #[.val (.int x0), .val (.int n), .val (.ref b1), .val (.int (Int32.ofNat ee)), .val (.int (1 : Int32)), .val (.ref sr), .val (.int (((26 : Int32) + (Int32.ofNat ee)) + (10 : Int32))), .val (.ref b110), .unset, .unset, .unset] [(.int (1 : Int32))])
    refine Go.s_ifNo X132 hx (hb hby at_348) (q := 351) rfl ((if0 _ _).trans (feq (by decide : ¬ ((1 : Int32) = (0 : Int32)))).1) ?_
    refine Go.s_aload X132 hx (hb hby at_351) (q := 353) rfl rfl rfl ?_
    refine Go.s_aload X132 hx (hb hby at_353) (q := 355) rfl rfl rfl ?_
    refine Go.s_bipush X132 hx (hb hby at_355) (q := 357) rfl (z := 18) rfl ?_
    refine Go.callS (y := mn_34) X132 hx hZ hown (w_ hw 188 rfl) (w_ hw 189 rfl) (w_ hw 9 rfl) (w_ hw 190 rfl) (by decide) e132 (argsL := [(.ref sr), (.ref b110), (.int (18 : Int32))]) (rest := []) (rm_lc l Z a0 hw sr b110 (18 : Int32) _ zc (CS.ext O108_v111.2) hzc fm (SF.ext O108_v111.2) rf _ (tx0 ++ digs ee mm ++ tx2) Sr_v113 _ tx0 S110 (by decide) (lt_26 (by decide) hl9 hl100) (by decide) (pre_at (by decide))) (by rw [hml]; rfl) (lenOf pd_23 rfl) rfl (hb hby at_357) (by decide) (by decide) (by decide) (by decide) ?_
    intro r133 T133 L133 q133 X133
    obtain ⟨rfl, rfl, e133⟩ := q133
    rw [List.append_nil] at X133
    show Go p e below _ T133 (mkF m 360 #[.val (.int x0), .val (.int n), .val (.ref b1), .val (.int (Int32.ofNat ee)), .val (.int (1 : Int32)), .val (.ref sr), .val (.int (((26 : Int32) + (Int32.ofNat ee)) + (10 : Int32))), .val (.ref b110), .unset, .unset, .unset] [(.int (1 : Int32))])
    refine Go.s_ifNo X133 hx (hb hby at_360) (q := 363) rfl ((if0 _ _).trans (feq (by decide : ¬ ((1 : Int32) = (0 : Int32)))).1) ?_
    refine Go.s_aload X133 hx (hb hby at_363) (q := 365) rfl rfl rfl ?_
    refine Go.s_aload X133 hx (hb hby at_365) (q := 367) rfl rfl rfl ?_
    refine Go.s_bipush X133 hx (hb hby at_367) (q := 369) rfl (z := 19) rfl ?_
    refine Go.callS (y := mn_34) X133 hx hZ hown (w_ hw 188 rfl) (w_ hw 189 rfl) (w_ hw 9 rfl) (w_ hw 190 rfl) (by decide) e133 (argsL := [(.ref sr), (.ref b110), (.int (19 : Int32))]) (rest := []) (rm_lc l Z a0 hw sr b110 (19 : Int32) _ zc (CS.ext O108_v111.2) hzc fm (SF.ext O108_v111.2) rf _ (tx0 ++ digs ee mm ++ tx2) Sr_v113 _ tx0 S110 (by decide) (lt_26 (by decide) hl9 hl100) (by decide) (pre_at (by decide))) (by rw [hml]; rfl) (lenOf pd_23 rfl) rfl (hb hby at_369) (by decide) (by decide) (by decide) (by decide) ?_
    intro r134 T134 L134 q134 X134
    obtain ⟨rfl, rfl, e134⟩ := q134
    rw [List.append_nil] at X134
    show Go p e below _ T134 (mkF m 372 #[.val (.int x0), .val (.int n), .val (.ref b1), .val (.int (Int32.ofNat ee)), .val (.int (1 : Int32)), .val (.ref sr), .val (.int (((26 : Int32) + (Int32.ofNat ee)) + (10 : Int32))), .val (.ref b110), .unset, .unset, .unset] [(.int (1 : Int32))])
    refine Go.s_ifNo X134 hx (hb hby at_372) (q := 375) rfl ((if0 _ _).trans (feq (by decide : ¬ ((1 : Int32) = (0 : Int32)))).1) ?_
    refine Go.s_aload X134 hx (hb hby at_375) (q := 377) rfl rfl rfl ?_
    refine Go.s_aload X134 hx (hb hby at_377) (q := 379) rfl rfl rfl ?_
    refine Go.s_bipush X134 hx (hb hby at_379) (q := 381) rfl (z := 20) rfl ?_
    refine Go.callS (y := mn_34) X134 hx hZ hown (w_ hw 188 rfl) (w_ hw 189 rfl) (w_ hw 9 rfl) (w_ hw 190 rfl) (by decide) e134 (argsL := [(.ref sr), (.ref b110), (.int (20 : Int32))]) (rest := []) (rm_lc l Z a0 hw sr b110 (20 : Int32) _ zc (CS.ext O108_v111.2) hzc fm (SF.ext O108_v111.2) rf _ (tx0 ++ digs ee mm ++ tx2) Sr_v113 _ tx0 S110 (by decide) (lt_26 (by decide) hl9 hl100) (by decide) (pre_at (by decide))) (by rw [hml]; rfl) (lenOf pd_23 rfl) rfl (hb hby at_381) (by decide) (by decide) (by decide) (by decide) ?_
    intro r135 T135 L135 q135 X135
    obtain ⟨rfl, rfl, e135⟩ := q135
    rw [List.append_nil] at X135
    show Go p e below _ T135 (mkF m 384 #[.val (.int x0), .val (.int n), .val (.ref b1), .val (.int (Int32.ofNat ee)), .val (.int (1 : Int32)), .val (.ref sr), .val (.int (((26 : Int32) + (Int32.ofNat ee)) + (10 : Int32))), .val (.ref b110), .unset, .unset, .unset] [(.int (1 : Int32))])
    refine Go.s_ifNo X135 hx (hb hby at_384) (q := 387) rfl ((if0 _ _).trans (feq (by decide : ¬ ((1 : Int32) = (0 : Int32)))).1) ?_
    refine Go.s_aload X135 hx (hb hby at_387) (q := 389) rfl rfl rfl ?_
    refine Go.s_aload X135 hx (hb hby at_389) (q := 391) rfl rfl rfl ?_
    refine Go.s_bipush X135 hx (hb hby at_391) (q := 393) rfl (z := 21) rfl ?_
    refine Go.callS (y := mn_34) X135 hx hZ hown (w_ hw 188 rfl) (w_ hw 189 rfl) (w_ hw 9 rfl) (w_ hw 190 rfl) (by decide) e135 (argsL := [(.ref sr), (.ref b110), (.int (21 : Int32))]) (rest := []) (rm_lc l Z a0 hw sr b110 (21 : Int32) _ zc (CS.ext O108_v111.2) hzc fm (SF.ext O108_v111.2) rf _ (tx0 ++ digs ee mm ++ tx2) Sr_v113 _ tx0 S110 (by decide) (lt_26 (by decide) hl9 hl100) (by decide) (pre_at (by decide))) (by rw [hml]; rfl) (lenOf pd_23 rfl) rfl (hb hby at_393) (by decide) (by decide) (by decide) (by decide) ?_
    intro r136 T136 L136 q136 X136
    obtain ⟨rfl, rfl, e136⟩ := q136
    rw [List.append_nil] at X136
    show Go p e below _ T136 (mkF m 396 #[.val (.int x0), .val (.int n), .val (.ref b1), .val (.int (Int32.ofNat ee)), .val (.int (1 : Int32)), .val (.ref sr), .val (.int (((26 : Int32) + (Int32.ofNat ee)) + (10 : Int32))), .val (.ref b110), .unset, .unset, .unset] [(.int (1 : Int32))])
    refine Go.s_ifNo X136 hx (hb hby at_396) (q := 399) rfl ((if0 _ _).trans (feq (by decide : ¬ ((1 : Int32) = (0 : Int32)))).1) ?_
    refine Go.s_aload X136 hx (hb hby at_399) (q := 401) rfl rfl rfl ?_
    refine Go.s_aload X136 hx (hb hby at_401) (q := 403) rfl rfl rfl ?_
    refine Go.s_bipush X136 hx (hb hby at_403) (q := 405) rfl (z := 22) rfl ?_
    refine Go.callS (y := mn_34) X136 hx hZ hown (w_ hw 188 rfl) (w_ hw 189 rfl) (w_ hw 9 rfl) (w_ hw 190 rfl) (by decide) e136 (argsL := [(.ref sr), (.ref b110), (.int (22 : Int32))]) (rest := []) (rm_lc l Z a0 hw sr b110 (22 : Int32) _ zc (CS.ext O108_v111.2) hzc fm (SF.ext O108_v111.2) rf _ (tx0 ++ digs ee mm ++ tx2) Sr_v113 _ tx0 S110 (by decide) (lt_26 (by decide) hl9 hl100) (by decide) (pre_at (by decide))) (by rw [hml]; rfl) (lenOf pd_23 rfl) rfl (hb hby at_405) (by decide) (by decide) (by decide) (by decide) ?_
    intro r137 T137 L137 q137 X137
    obtain ⟨rfl, rfl, e137⟩ := q137
    rw [List.append_nil] at X137
    show Go p e below _ T137 (mkF m 408 #[.val (.int x0), .val (.int n), .val (.ref b1), .val (.int (Int32.ofNat ee)), .val (.int (1 : Int32)), .val (.ref sr), .val (.int (((26 : Int32) + (Int32.ofNat ee)) + (10 : Int32))), .val (.ref b110), .unset, .unset, .unset] [(.int (1 : Int32))])
    refine Go.s_ifNo X137 hx (hb hby at_408) (q := 411) rfl ((if0 _ _).trans (feq (by decide : ¬ ((1 : Int32) = (0 : Int32)))).1) ?_
    refine Go.s_aload X137 hx (hb hby at_411) (q := 413) rfl rfl rfl ?_
    refine Go.s_aload X137 hx (hb hby at_413) (q := 415) rfl rfl rfl ?_
    refine Go.s_bipush X137 hx (hb hby at_415) (q := 417) rfl (z := 23) rfl ?_
    refine Go.callS (y := mn_34) X137 hx hZ hown (w_ hw 188 rfl) (w_ hw 189 rfl) (w_ hw 9 rfl) (w_ hw 190 rfl) (by decide) e137 (argsL := [(.ref sr), (.ref b110), (.int (23 : Int32))]) (rest := []) (rm_lc l Z a0 hw sr b110 (23 : Int32) _ zc (CS.ext O108_v111.2) hzc fm (SF.ext O108_v111.2) rf _ (tx0 ++ digs ee mm ++ tx2) Sr_v113 _ tx0 S110 (by decide) (lt_26 (by decide) hl9 hl100) (by decide) (pre_at (by decide))) (by rw [hml]; rfl) (lenOf pd_23 rfl) rfl (hb hby at_417) (by decide) (by decide) (by decide) (by decide) ?_
    intro r138 T138 L138 q138 X138
    obtain ⟨rfl, rfl, e138⟩ := q138
    rw [List.append_nil] at X138
    show Go p e below _ T138 (mkF m 420 #[.val (.int x0), .val (.int n), .val (.ref b1), .val (.int (Int32.ofNat ee)), .val (.int (1 : Int32)), .val (.ref sr), .val (.int (((26 : Int32) + (Int32.ofNat ee)) + (10 : Int32))), .val (.ref b110), .unset, .unset, .unset] [(.int (1 : Int32))])
    refine Go.s_ifNo X138 hx (hb hby at_420) (q := 423) rfl ((if0 _ _).trans (feq (by decide : ¬ ((1 : Int32) = (0 : Int32)))).1) ?_
    refine Go.s_aload X138 hx (hb hby at_423) (q := 425) rfl rfl rfl ?_
    refine Go.s_aload X138 hx (hb hby at_425) (q := 427) rfl rfl rfl ?_
    refine Go.s_bipush X138 hx (hb hby at_427) (q := 429) rfl (z := 24) rfl ?_
    refine Go.callS (y := mn_34) X138 hx hZ hown (w_ hw 188 rfl) (w_ hw 189 rfl) (w_ hw 9 rfl) (w_ hw 190 rfl) (by decide) e138 (argsL := [(.ref sr), (.ref b110), (.int (24 : Int32))]) (rest := []) (rm_lc l Z a0 hw sr b110 (24 : Int32) _ zc (CS.ext O108_v111.2) hzc fm (SF.ext O108_v111.2) rf _ (tx0 ++ digs ee mm ++ tx2) Sr_v113 _ tx0 S110 (by decide) (lt_26 (by decide) hl9 hl100) (by decide) (pre_at (by decide))) (by rw [hml]; rfl) (lenOf pd_23 rfl) rfl (hb hby at_429) (by decide) (by decide) (by decide) (by decide) ?_
    intro r139 T139 L139 q139 X139
    obtain ⟨rfl, rfl, e139⟩ := q139
    rw [List.append_nil] at X139
    show Go p e below _ T139 (mkF m 432 #[.val (.int x0), .val (.int n), .val (.ref b1), .val (.int (Int32.ofNat ee)), .val (.int (1 : Int32)), .val (.ref sr), .val (.int (((26 : Int32) + (Int32.ofNat ee)) + (10 : Int32))), .val (.ref b110), .unset, .unset, .unset] [(.int (1 : Int32))])
    refine Go.s_ifNo X139 hx (hb hby at_432) (q := 435) rfl ((if0 _ _).trans (feq (by decide : ¬ ((1 : Int32) = (0 : Int32)))).1) ?_
    refine Go.s_aload X139 hx (hb hby at_435) (q := 437) rfl rfl rfl ?_
    refine Go.s_aload X139 hx (hb hby at_437) (q := 439) rfl rfl rfl ?_
    refine Go.s_bipush X139 hx (hb hby at_439) (q := 441) rfl (z := 25) rfl ?_
    refine Go.callS (y := mn_34) X139 hx hZ hown (w_ hw 188 rfl) (w_ hw 189 rfl) (w_ hw 9 rfl) (w_ hw 190 rfl) (by decide) e139 (argsL := [(.ref sr), (.ref b110), (.int (25 : Int32))]) (rest := []) (rm_lc l Z a0 hw sr b110 (25 : Int32) _ zc (CS.ext O108_v111.2) hzc fm (SF.ext O108_v111.2) rf _ (tx0 ++ digs ee mm ++ tx2) Sr_v113 _ tx0 S110 (by decide) (lt_26 (by decide) hl9 hl100) (by decide) (pre_at (by decide))) (by rw [hml]; rfl) (lenOf pd_23 rfl) rfl (hb hby at_441) (by decide) (by decide) (by decide) (by decide) ?_
    intro r140 T140 L140 q140 X140
    obtain ⟨rfl, rfl, e140⟩ := q140
    rw [List.append_nil] at X140
    show Go p e below _ T140 (mkF m 444 #[.val (.int x0), .val (.int n), .val (.ref b1), .val (.int (Int32.ofNat ee)), .val (.int (1 : Int32)), .val (.ref sr), .val (.int (((26 : Int32) + (Int32.ofNat ee)) + (10 : Int32))), .val (.ref b110), .unset, .unset, .unset] [(.int (1 : Int32))])
    refine Go.s_ifNo X140 hx (hb hby at_444) (q := 447) rfl ((if0 _ _).trans (feq (by decide : ¬ ((1 : Int32) = (0 : Int32)))).1) ?_
    refine Go.s_iconst X140 hx (hb hby at_447) (q := 448) rfl (z := 1) rfl ?_
    refine Go.s_goto X140 hx (hb hby at_448) (q := 452) (by decide) (by decide) ?_
    refine Go.s_istore X140 hx (hb hby at_452) (q := 454) rfl (l' := #[.val (.int x0), .val (.int n), .val (.ref b1), .val (.int (Int32.ofNat ee)), .val (.int (1 : Int32)), .val (.ref sr), .val (.int (((26 : Int32) + (Int32.ofNat ee)) + (10 : Int32))), .val (.ref b110), .val (.int (1 : Int32)), .unset, .unset]) rfl ?_
    refine Go.s_iload X140 hx (hb hby at_454) (q := 456) rfl rfl ?_
    refine Go.s_ifNo X140 hx (hb hby at_456) (q := 459) rfl ((if0 _ _).trans (feq (by decide : ¬ ((1 : Int32) = (0 : Int32)))).1) ?_
    refine Go.s_aload X140 hx (hb hby at_459) (q := 461) rfl rfl rfl ?_
    refine Go.s_iloadN X140 hx (hb hby at_461) (q := 462) rfl rfl ?_
    refine Go.s_iloadN X140 hx (hb hby at_462) (q := 463) rfl rfl ?_
    refine Go.s_aloadN X140 hx (hb hby at_463) (q := 464) rfl rfl rfl ?_
    refine Go.s_iconst X140 hx (hb hby at_464) (q := 465) rfl (z := 0) rfl ?_
    refine Go.callS (y := mn_40) X140 hx hZ hown (w_ hw 213 rfl) (w_ hw 214 rfl) (w_ hw 9 rfl) (w_ hw 215 rfl) (by decide) e140 (argsL := [(.ref sr), (.int n), (.int (Int32.ofNat ee)), (.ref b1), (.int (0 : Int32))]) (rest := []) (rm_ldg l Z a0 hw sr n (Int32.ofNat ee) b1 (0 : Int32) _ zc (CS.ext O108_v111.2) hzc fm (SF.ext O108_v111.2) rf _ (tx0 ++ digs ee mm ++ tx2) Sr_v113 _ Va108_v112 ee mm 0 hmm rfl he' (by decide) hl9 hl100 (fun k hk => dig_at hk)) (by rw [hml]; rfl) (lenOf pd_22 rfl) rfl (hb hby at_465) (by decide) (by decide) (by decide) (by decide) ?_
    intro r141 T141 L141 q141 X141
    obtain ⟨rfl, rfl, e141⟩ := q141
    rw [List.append_nil] at X141
    show Go p e below _ T141 (mkF m 468 #[.val (.int x0), .val (.int n), .val (.ref b1), .val (.int (Int32.ofNat ee)), .val (.int (1 : Int32)), .val (.ref sr), .val (.int (((26 : Int32) + (Int32.ofNat ee)) + (10 : Int32))), .val (.ref b110), .val (.int (1 : Int32)), .unset, .unset] [(.int (1 : Int32))])
    refine Go.s_ifNo X141 hx (hb hby at_468) (q := 471) rfl ((if0 _ _).trans (feq (by decide : ¬ ((1 : Int32) = (0 : Int32)))).1) ?_
    refine Go.s_aload X141 hx (hb hby at_471) (q := 473) rfl rfl rfl ?_
    refine Go.s_iloadN X141 hx (hb hby at_473) (q := 474) rfl rfl ?_
    refine Go.s_iloadN X141 hx (hb hby at_474) (q := 475) rfl rfl ?_
    refine Go.s_aloadN X141 hx (hb hby at_475) (q := 476) rfl rfl rfl ?_
    refine Go.s_iconst X141 hx (hb hby at_476) (q := 477) rfl (z := 1) rfl ?_
    refine Go.callS (y := mn_40) X141 hx hZ hown (w_ hw 213 rfl) (w_ hw 214 rfl) (w_ hw 9 rfl) (w_ hw 215 rfl) (by decide) e141 (argsL := [(.ref sr), (.int n), (.int (Int32.ofNat ee)), (.ref b1), (.int (1 : Int32))]) (rest := []) (rm_ldg l Z a0 hw sr n (Int32.ofNat ee) b1 (1 : Int32) _ zc (CS.ext O108_v111.2) hzc fm (SF.ext O108_v111.2) rf _ (tx0 ++ digs ee mm ++ tx2) Sr_v113 _ Va108_v112 ee mm 1 hmm rfl he' (by decide) hl9 hl100 (fun k hk => dig_at hk)) (by rw [hml]; rfl) (lenOf pd_22 rfl) rfl (hb hby at_477) (by decide) (by decide) (by decide) (by decide) ?_
    intro r142 T142 L142 q142 X142
    obtain ⟨rfl, rfl, e142⟩ := q142
    rw [List.append_nil] at X142
    show Go p e below _ T142 (mkF m 480 #[.val (.int x0), .val (.int n), .val (.ref b1), .val (.int (Int32.ofNat ee)), .val (.int (1 : Int32)), .val (.ref sr), .val (.int (((26 : Int32) + (Int32.ofNat ee)) + (10 : Int32))), .val (.ref b110), .val (.int (1 : Int32)), .unset, .unset] [(.int (1 : Int32))])
    refine Go.s_ifNo X142 hx (hb hby at_480) (q := 483) rfl ((if0 _ _).trans (feq (by decide : ¬ ((1 : Int32) = (0 : Int32)))).1) ?_
    refine Go.s_aload X142 hx (hb hby at_483) (q := 485) rfl rfl rfl ?_
    refine Go.s_iloadN X142 hx (hb hby at_485) (q := 486) rfl rfl ?_
    refine Go.s_iloadN X142 hx (hb hby at_486) (q := 487) rfl rfl ?_
    refine Go.s_aloadN X142 hx (hb hby at_487) (q := 488) rfl rfl rfl ?_
    refine Go.s_iconst X142 hx (hb hby at_488) (q := 489) rfl (z := 2) rfl ?_
    refine Go.callS (y := mn_40) X142 hx hZ hown (w_ hw 213 rfl) (w_ hw 214 rfl) (w_ hw 9 rfl) (w_ hw 215 rfl) (by decide) e142 (argsL := [(.ref sr), (.int n), (.int (Int32.ofNat ee)), (.ref b1), (.int (2 : Int32))]) (rest := []) (rm_ldg l Z a0 hw sr n (Int32.ofNat ee) b1 (2 : Int32) _ zc (CS.ext O108_v111.2) hzc fm (SF.ext O108_v111.2) rf _ (tx0 ++ digs ee mm ++ tx2) Sr_v113 _ Va108_v112 ee mm 2 hmm rfl he' (by decide) hl9 hl100 (fun k hk => dig_at hk)) (by rw [hml]; rfl) (lenOf pd_22 rfl) rfl (hb hby at_489) (by decide) (by decide) (by decide) (by decide) ?_
    intro r143 T143 L143 q143 X143
    obtain ⟨rfl, rfl, e143⟩ := q143
    rw [List.append_nil] at X143
    show Go p e below _ T143 (mkF m 492 #[.val (.int x0), .val (.int n), .val (.ref b1), .val (.int (Int32.ofNat ee)), .val (.int (1 : Int32)), .val (.ref sr), .val (.int (((26 : Int32) + (Int32.ofNat ee)) + (10 : Int32))), .val (.ref b110), .val (.int (1 : Int32)), .unset, .unset] [(.int (1 : Int32))])
    refine Go.s_ifNo X143 hx (hb hby at_492) (q := 495) rfl ((if0 _ _).trans (feq (by decide : ¬ ((1 : Int32) = (0 : Int32)))).1) ?_
    refine Go.s_aload X143 hx (hb hby at_495) (q := 497) rfl rfl rfl ?_
    refine Go.s_iloadN X143 hx (hb hby at_497) (q := 498) rfl rfl ?_
    refine Go.s_iloadN X143 hx (hb hby at_498) (q := 499) rfl rfl ?_
    refine Go.s_aloadN X143 hx (hb hby at_499) (q := 500) rfl rfl rfl ?_
    refine Go.s_iconst X143 hx (hb hby at_500) (q := 501) rfl (z := 3) rfl ?_
    refine Go.callS (y := mn_40) X143 hx hZ hown (w_ hw 213 rfl) (w_ hw 214 rfl) (w_ hw 9 rfl) (w_ hw 215 rfl) (by decide) e143 (argsL := [(.ref sr), (.int n), (.int (Int32.ofNat ee)), (.ref b1), (.int (3 : Int32))]) (rest := []) (rm_ldg l Z a0 hw sr n (Int32.ofNat ee) b1 (3 : Int32) _ zc (CS.ext O108_v111.2) hzc fm (SF.ext O108_v111.2) rf _ (tx0 ++ digs ee mm ++ tx2) Sr_v113 _ Va108_v112 ee mm 3 hmm rfl he' (by decide) hl9 hl100 (fun k hk => dig_at hk)) (by rw [hml]; rfl) (lenOf pd_22 rfl) rfl (hb hby at_501) (by decide) (by decide) (by decide) (by decide) ?_
    intro r144 T144 L144 q144 X144
    obtain ⟨rfl, rfl, e144⟩ := q144
    rw [List.append_nil] at X144
    show Go p e below _ T144 (mkF m 504 #[.val (.int x0), .val (.int n), .val (.ref b1), .val (.int (Int32.ofNat ee)), .val (.int (1 : Int32)), .val (.ref sr), .val (.int (((26 : Int32) + (Int32.ofNat ee)) + (10 : Int32))), .val (.ref b110), .val (.int (1 : Int32)), .unset, .unset] [(.int (1 : Int32))])
    refine Go.s_ifNo X144 hx (hb hby at_504) (q := 507) rfl ((if0 _ _).trans (feq (by decide : ¬ ((1 : Int32) = (0 : Int32)))).1) ?_
    refine Go.s_aload X144 hx (hb hby at_507) (q := 509) rfl rfl rfl ?_
    refine Go.s_iloadN X144 hx (hb hby at_509) (q := 510) rfl rfl ?_
    refine Go.s_iloadN X144 hx (hb hby at_510) (q := 511) rfl rfl ?_
    refine Go.s_aloadN X144 hx (hb hby at_511) (q := 512) rfl rfl rfl ?_
    refine Go.s_iconst X144 hx (hb hby at_512) (q := 513) rfl (z := 4) rfl ?_
    refine Go.callS (y := mn_40) X144 hx hZ hown (w_ hw 213 rfl) (w_ hw 214 rfl) (w_ hw 9 rfl) (w_ hw 215 rfl) (by decide) e144 (argsL := [(.ref sr), (.int n), (.int (Int32.ofNat ee)), (.ref b1), (.int (4 : Int32))]) (rest := []) (rm_ldg l Z a0 hw sr n (Int32.ofNat ee) b1 (4 : Int32) _ zc (CS.ext O108_v111.2) hzc fm (SF.ext O108_v111.2) rf _ (tx0 ++ digs ee mm ++ tx2) Sr_v113 _ Va108_v112 ee mm 4 hmm rfl he' (by decide) hl9 hl100 (fun k hk => dig_at hk)) (by rw [hml]; rfl) (lenOf pd_22 rfl) rfl (hb hby at_513) (by decide) (by decide) (by decide) (by decide) ?_
    intro r145 T145 L145 q145 X145
    obtain ⟨rfl, rfl, e145⟩ := q145
    rw [List.append_nil] at X145
    show Go p e below _ T145 (mkF m 516 #[.val (.int x0), .val (.int n), .val (.ref b1), .val (.int (Int32.ofNat ee)), .val (.int (1 : Int32)), .val (.ref sr), .val (.int (((26 : Int32) + (Int32.ofNat ee)) + (10 : Int32))), .val (.ref b110), .val (.int (1 : Int32)), .unset, .unset] [(.int (1 : Int32))])
    refine Go.s_ifNo X145 hx (hb hby at_516) (q := 519) rfl ((if0 _ _).trans (feq (by decide : ¬ ((1 : Int32) = (0 : Int32)))).1) ?_
    refine Go.s_aload X145 hx (hb hby at_519) (q := 521) rfl rfl rfl ?_
    refine Go.s_iloadN X145 hx (hb hby at_521) (q := 522) rfl rfl ?_
    refine Go.s_iloadN X145 hx (hb hby at_522) (q := 523) rfl rfl ?_
    refine Go.s_aloadN X145 hx (hb hby at_523) (q := 524) rfl rfl rfl ?_
    refine Go.s_iconst X145 hx (hb hby at_524) (q := 525) rfl (z := 5) rfl ?_
    refine Go.callS (y := mn_40) X145 hx hZ hown (w_ hw 213 rfl) (w_ hw 214 rfl) (w_ hw 9 rfl) (w_ hw 215 rfl) (by decide) e145 (argsL := [(.ref sr), (.int n), (.int (Int32.ofNat ee)), (.ref b1), (.int (5 : Int32))]) (rest := []) (rm_ldg l Z a0 hw sr n (Int32.ofNat ee) b1 (5 : Int32) _ zc (CS.ext O108_v111.2) hzc fm (SF.ext O108_v111.2) rf _ (tx0 ++ digs ee mm ++ tx2) Sr_v113 _ Va108_v112 ee mm 5 hmm rfl he' (by decide) hl9 hl100 (fun k hk => dig_at hk)) (by rw [hml]; rfl) (lenOf pd_22 rfl) rfl (hb hby at_525) (by decide) (by decide) (by decide) (by decide) ?_
    intro r146 T146 L146 q146 X146
    obtain ⟨rfl, rfl, e146⟩ := q146
    rw [List.append_nil] at X146
    show Go p e below _ T146 (mkF m 528 #[.val (.int x0), .val (.int n), .val (.ref b1), .val (.int (Int32.ofNat ee)), .val (.int (1 : Int32)), .val (.ref sr), .val (.int (((26 : Int32) + (Int32.ofNat ee)) + (10 : Int32))), .val (.ref b110), .val (.int (1 : Int32)), .unset, .unset] [(.int (1 : Int32))])
    refine Go.s_ifNo X146 hx (hb hby at_528) (q := 531) rfl ((if0 _ _).trans (feq (by decide : ¬ ((1 : Int32) = (0 : Int32)))).1) ?_
    refine Go.s_aload X146 hx (hb hby at_531) (q := 533) rfl rfl rfl ?_
    refine Go.s_iloadN X146 hx (hb hby at_533) (q := 534) rfl rfl ?_
    refine Go.s_iloadN X146 hx (hb hby at_534) (q := 535) rfl rfl ?_
    refine Go.s_aloadN X146 hx (hb hby at_535) (q := 536) rfl rfl rfl ?_
    refine Go.s_bipush X146 hx (hb hby at_536) (q := 538) rfl (z := 6) rfl ?_
    refine Go.callS (y := mn_40) X146 hx hZ hown (w_ hw 213 rfl) (w_ hw 214 rfl) (w_ hw 9 rfl) (w_ hw 215 rfl) (by decide) e146 (argsL := [(.ref sr), (.int n), (.int (Int32.ofNat ee)), (.ref b1), (.int (6 : Int32))]) (rest := []) (rm_ldg l Z a0 hw sr n (Int32.ofNat ee) b1 (6 : Int32) _ zc (CS.ext O108_v111.2) hzc fm (SF.ext O108_v111.2) rf _ (tx0 ++ digs ee mm ++ tx2) Sr_v113 _ Va108_v112 ee mm 6 hmm rfl he' (by decide) hl9 hl100 (fun k hk => dig_at hk)) (by rw [hml]; rfl) (lenOf pd_22 rfl) rfl (hb hby at_538) (by decide) (by decide) (by decide) (by decide) ?_
    intro r147 T147 L147 q147 X147
    obtain ⟨rfl, rfl, e147⟩ := q147
    rw [List.append_nil] at X147
    show Go p e below _ T147 (mkF m 541 #[.val (.int x0), .val (.int n), .val (.ref b1), .val (.int (Int32.ofNat ee)), .val (.int (1 : Int32)), .val (.ref sr), .val (.int (((26 : Int32) + (Int32.ofNat ee)) + (10 : Int32))), .val (.ref b110), .val (.int (1 : Int32)), .unset, .unset] [(.int (1 : Int32))])
    refine Go.s_ifNo X147 hx (hb hby at_541) (q := 544) rfl ((if0 _ _).trans (feq (by decide : ¬ ((1 : Int32) = (0 : Int32)))).1) ?_
    refine Go.s_aload X147 hx (hb hby at_544) (q := 546) rfl rfl rfl ?_
    refine Go.s_iloadN X147 hx (hb hby at_546) (q := 547) rfl rfl ?_
    refine Go.s_iloadN X147 hx (hb hby at_547) (q := 548) rfl rfl ?_
    refine Go.s_aloadN X147 hx (hb hby at_548) (q := 549) rfl rfl rfl ?_
    refine Go.s_bipush X147 hx (hb hby at_549) (q := 551) rfl (z := 7) rfl ?_
    refine Go.callS (y := mn_40) X147 hx hZ hown (w_ hw 213 rfl) (w_ hw 214 rfl) (w_ hw 9 rfl) (w_ hw 215 rfl) (by decide) e147 (argsL := [(.ref sr), (.int n), (.int (Int32.ofNat ee)), (.ref b1), (.int (7 : Int32))]) (rest := []) (rm_ldg l Z a0 hw sr n (Int32.ofNat ee) b1 (7 : Int32) _ zc (CS.ext O108_v111.2) hzc fm (SF.ext O108_v111.2) rf _ (tx0 ++ digs ee mm ++ tx2) Sr_v113 _ Va108_v112 ee mm 7 hmm rfl he' (by decide) hl9 hl100 (fun k hk => dig_at hk)) (by rw [hml]; rfl) (lenOf pd_22 rfl) rfl (hb hby at_551) (by decide) (by decide) (by decide) (by decide) ?_
    intro r148 T148 L148 q148 X148
    obtain ⟨rfl, rfl, e148⟩ := q148
    rw [List.append_nil] at X148
    show Go p e below _ T148 (mkF m 554 #[.val (.int x0), .val (.int n), .val (.ref b1), .val (.int (Int32.ofNat ee)), .val (.int (1 : Int32)), .val (.ref sr), .val (.int (((26 : Int32) + (Int32.ofNat ee)) + (10 : Int32))), .val (.ref b110), .val (.int (1 : Int32)), .unset, .unset] [(.int (1 : Int32))])
    refine Go.s_ifNo X148 hx (hb hby at_554) (q := 557) rfl ((if0 _ _).trans (feq (by decide : ¬ ((1 : Int32) = (0 : Int32)))).1) ?_
    refine Go.s_aload X148 hx (hb hby at_557) (q := 559) rfl rfl rfl ?_
    refine Go.s_iloadN X148 hx (hb hby at_559) (q := 560) rfl rfl ?_
    refine Go.s_iloadN X148 hx (hb hby at_560) (q := 561) rfl rfl ?_
    refine Go.s_aloadN X148 hx (hb hby at_561) (q := 562) rfl rfl rfl ?_
    refine Go.s_bipush X148 hx (hb hby at_562) (q := 564) rfl (z := 8) rfl ?_
    refine Go.callS (y := mn_40) X148 hx hZ hown (w_ hw 213 rfl) (w_ hw 214 rfl) (w_ hw 9 rfl) (w_ hw 215 rfl) (by decide) e148 (argsL := [(.ref sr), (.int n), (.int (Int32.ofNat ee)), (.ref b1), (.int (8 : Int32))]) (rest := []) (rm_ldg l Z a0 hw sr n (Int32.ofNat ee) b1 (8 : Int32) _ zc (CS.ext O108_v111.2) hzc fm (SF.ext O108_v111.2) rf _ (tx0 ++ digs ee mm ++ tx2) Sr_v113 _ Va108_v112 ee mm 8 hmm rfl he' (by decide) hl9 hl100 (fun k hk => dig_at hk)) (by rw [hml]; rfl) (lenOf pd_22 rfl) rfl (hb hby at_564) (by decide) (by decide) (by decide) (by decide) ?_
    intro r149 T149 L149 q149 X149
    obtain ⟨rfl, rfl, e149⟩ := q149
    rw [List.append_nil] at X149
    show Go p e below _ T149 (mkF m 567 #[.val (.int x0), .val (.int n), .val (.ref b1), .val (.int (Int32.ofNat ee)), .val (.int (1 : Int32)), .val (.ref sr), .val (.int (((26 : Int32) + (Int32.ofNat ee)) + (10 : Int32))), .val (.ref b110), .val (.int (1 : Int32)), .unset, .unset] [(.int (1 : Int32))])
    refine Go.s_ifNo X149 hx (hb hby at_567) (q := 570) rfl ((if0 _ _).trans (feq (by decide : ¬ ((1 : Int32) = (0 : Int32)))).1) ?_
    refine Go.s_aload X149 hx (hb hby at_570) (q := 572) rfl rfl rfl ?_
    refine Go.s_iloadN X149 hx (hb hby at_572) (q := 573) rfl rfl ?_
    refine Go.s_iloadN X149 hx (hb hby at_573) (q := 574) rfl rfl ?_
    refine Go.s_aloadN X149 hx (hb hby at_574) (q := 575) rfl rfl rfl ?_
    refine Go.s_bipush X149 hx (hb hby at_575) (q := 577) rfl (z := 9) rfl ?_
    refine Go.callS (y := mn_40) X149 hx hZ hown (w_ hw 213 rfl) (w_ hw 214 rfl) (w_ hw 9 rfl) (w_ hw 215 rfl) (by decide) e149 (argsL := [(.ref sr), (.int n), (.int (Int32.ofNat ee)), (.ref b1), (.int (9 : Int32))]) (rest := []) (rm_ldg l Z a0 hw sr n (Int32.ofNat ee) b1 (9 : Int32) _ zc (CS.ext O108_v111.2) hzc fm (SF.ext O108_v111.2) rf _ (tx0 ++ digs ee mm ++ tx2) Sr_v113 _ Va108_v112 ee mm 9 hmm rfl he' (by decide) hl9 hl100 (fun k hk => dig_at hk)) (by rw [hml]; rfl) (lenOf pd_22 rfl) rfl (hb hby at_577) (by decide) (by decide) (by decide) (by decide) ?_
    intro r150 T150 L150 q150 X150
    obtain ⟨rfl, rfl, e150⟩ := q150
    rw [List.append_nil] at X150
    show Go p e below _ T150 (mkF m 580 #[.val (.int x0), .val (.int n), .val (.ref b1), .val (.int (Int32.ofNat ee)), .val (.int (1 : Int32)), .val (.ref sr), .val (.int (((26 : Int32) + (Int32.ofNat ee)) + (10 : Int32))), .val (.ref b110), .val (.int (1 : Int32)), .unset, .unset] [(.int (1 : Int32))])
    refine Go.s_ifNo X150 hx (hb hby at_580) (q := 583) rfl ((if0 _ _).trans (feq (by decide : ¬ ((1 : Int32) = (0 : Int32)))).1) ?_
    refine Go.s_iconst X150 hx (hb hby at_583) (q := 584) rfl (z := 1) rfl ?_
    refine Go.s_goto X150 hx (hb hby at_584) (q := 588) (by decide) (by decide) ?_
    refine Go.s_istore X150 hx (hb hby at_588) (q := 590) rfl (l' := #[.val (.int x0), .val (.int n), .val (.ref b1), .val (.int (Int32.ofNat ee)), .val (.int (1 : Int32)), .val (.ref sr), .val (.int (((26 : Int32) + (Int32.ofNat ee)) + (10 : Int32))), .val (.ref b110), .val (.int (1 : Int32)), .unset, .unset]) rfl ?_
    refine Go.ldcW (cs := tx2) X150 hx hZ hown (w_ hw 216 rfl) (w_str hw) e150 hEL (by decide) hW110 ht2 hc2 (by decide) (hb hby at_590) (by decide) (by decide) ?_
    intro T151 h151 b151 X151 e151 E151 hZ hown S151 hW151 R151
    have O108_v152 := Old.ext O108_v111 E151
    have Va108_v153 := Va108_v112.ext E151
    have Sr_v154 := Sr_v113.ext E151
    have Er_v155 := Er_v114.ext E151
    have S110_v156 := S110.ext E151
    show Go p e below _ T151 (mkF m 592 #[.val (.int x0), .val (.int n), .val (.ref b1), .val (.int (Int32.ofNat ee)), .val (.int (1 : Int32)), .val (.ref sr), .val (.int (((26 : Int32) + (Int32.ofNat ee)) + (10 : Int32))), .val (.ref b110), .val (.int (1 : Int32)), .unset, .unset] [(.ref b151)])
    refine Go.s_astore X151 hx (hb hby at_592) (q := 594) rfl rfl (l' := #[.val (.int x0), .val (.int n), .val (.ref b1), .val (.int (Int32.ofNat ee)), .val (.int (1 : Int32)), .val (.ref sr), .val (.int (((26 : Int32) + (Int32.ofNat ee)) + (10 : Int32))), .val (.ref b110), .val (.int (1 : Int32)), .val (.ref b151), .unset]) rfl ?_
    refine Go.s_bipush X151 hx (hb hby at_594) (q := 596) rfl (z := 26) rfl ?_
    refine Go.s_iloadN X151 hx (hb hby at_596) (q := 597) rfl rfl ?_
    refine Go.s_iadd X151 hx (hb hby at_597) (q := 598) rfl ?_
    refine Go.s_istore X151 hx (hb hby at_598) (q := 600) rfl (l' := #[.val (.int x0), .val (.int n), .val (.ref b1), .val (.int (Int32.ofNat ee)), .val (.int (1 : Int32)), .val (.ref sr), .val (.int (((26 : Int32) + (Int32.ofNat ee)) + (10 : Int32))), .val (.ref b110), .val (.int (1 : Int32)), .val (.ref b151), .val (.int ((26 : Int32) + (Int32.ofNat ee)))]) rfl ?_
    refine Go.s_iload X151 hx (hb hby at_600) (q := 602) rfl rfl ?_
    refine Go.s_ifNo X151 hx (hb hby at_602) (q := 605) rfl ((if0 _ _).trans (feq (by decide : ¬ ((1 : Int32) = (0 : Int32)))).1) ?_
    refine Go.s_aload X151 hx (hb hby at_605) (q := 607) rfl rfl rfl ?_
    refine Go.s_aload X151 hx (hb hby at_607) (q := 609) rfl rfl rfl ?_
    refine Go.s_iload X151 hx (hb hby at_609) (q := 611) rfl rfl ?_
    refine Go.s_iconst X151 hx (hb hby at_611) (q := 612) rfl (z := 0) rfl ?_
    refine Go.callS (y := mn_41) X151 hx hZ hown (w_ hw 217 rfl) (w_ hw 218 rfl) (w_ hw 9 rfl) (w_ hw 219 rfl) (by decide) e151 (argsL := [(.ref sr), (.ref b151), (.int ((26 : Int32) + (Int32.ofNat ee))), (.int (0 : Int32))]) (rest := []) (rm_lsf l Z a0 hw sr b151 ((26 : Int32) + (Int32.ofNat ee)) (0 : Int32) _ zc (CS.ext O108_v152.2) hzc fm (SF.ext O108_v152.2) rf _ (tx0 ++ digs ee mm ++ tx2) Sr_v154 _ tx2 S151 (suf_ok he' (by decide) (by decide) (by decide) (by decide) (by decide)) (by decide) (by decide)) (by rw [hml]; rfl) (lenOf pd_24 rfl) rfl (hb hby at_612) (by decide) (by decide) (by decide) (by decide) ?_
    intro r157 T157 L157 q157 X157
    obtain ⟨rfl, rfl, e157⟩ := q157
    rw [List.append_nil] at X157
    show Go p e below _ T157 (mkF m 615 #[.val (.int x0), .val (.int n), .val (.ref b1), .val (.int (Int32.ofNat ee)), .val (.int (1 : Int32)), .val (.ref sr), .val (.int (((26 : Int32) + (Int32.ofNat ee)) + (10 : Int32))), .val (.ref b110), .val (.int (1 : Int32)), .val (.ref b151), .val (.int ((26 : Int32) + (Int32.ofNat ee)))] [(.int (1 : Int32))])
    refine Go.s_ifNo X157 hx (hb hby at_615) (q := 618) rfl ((if0 _ _).trans (feq (by decide : ¬ ((1 : Int32) = (0 : Int32)))).1) ?_
    refine Go.s_aload X157 hx (hb hby at_618) (q := 620) rfl rfl rfl ?_
    refine Go.s_aload X157 hx (hb hby at_620) (q := 622) rfl rfl rfl ?_
    refine Go.s_iload X157 hx (hb hby at_622) (q := 624) rfl rfl ?_
    refine Go.s_iconst X157 hx (hb hby at_624) (q := 625) rfl (z := 1) rfl ?_
    refine Go.callS (y := mn_41) X157 hx hZ hown (w_ hw 217 rfl) (w_ hw 218 rfl) (w_ hw 9 rfl) (w_ hw 219 rfl) (by decide) e157 (argsL := [(.ref sr), (.ref b151), (.int ((26 : Int32) + (Int32.ofNat ee))), (.int (1 : Int32))]) (rest := []) (rm_lsf l Z a0 hw sr b151 ((26 : Int32) + (Int32.ofNat ee)) (1 : Int32) _ zc (CS.ext O108_v152.2) hzc fm (SF.ext O108_v152.2) rf _ (tx0 ++ digs ee mm ++ tx2) Sr_v154 _ tx2 S151 (suf_ok he' (by decide) (by decide) (by decide) (by decide) (by decide)) (by decide) (by decide)) (by rw [hml]; rfl) (lenOf pd_24 rfl) rfl (hb hby at_625) (by decide) (by decide) (by decide) (by decide) ?_
    intro r158 T158 L158 q158 X158
    obtain ⟨rfl, rfl, e158⟩ := q158
    rw [List.append_nil] at X158
    show Go p e below _ T158 (mkF m 628 #[.val (.int x0), .val (.int n), .val (.ref b1), .val (.int (Int32.ofNat ee)), .val (.int (1 : Int32)), .val (.ref sr), .val (.int (((26 : Int32) + (Int32.ofNat ee)) + (10 : Int32))), .val (.ref b110), .val (.int (1 : Int32)), .val (.ref b151), .val (.int ((26 : Int32) + (Int32.ofNat ee)))] [(.int (1 : Int32))])
    refine Go.s_ifNo X158 hx (hb hby at_628) (q := 631) rfl ((if0 _ _).trans (feq (by decide : ¬ ((1 : Int32) = (0 : Int32)))).1) ?_
    refine Go.s_aload X158 hx (hb hby at_631) (q := 633) rfl rfl rfl ?_
    refine Go.s_aload X158 hx (hb hby at_633) (q := 635) rfl rfl rfl ?_
    refine Go.s_iload X158 hx (hb hby at_635) (q := 637) rfl rfl ?_
    refine Go.s_iconst X158 hx (hb hby at_637) (q := 638) rfl (z := 2) rfl ?_
    refine Go.callS (y := mn_41) X158 hx hZ hown (w_ hw 217 rfl) (w_ hw 218 rfl) (w_ hw 9 rfl) (w_ hw 219 rfl) (by decide) e158 (argsL := [(.ref sr), (.ref b151), (.int ((26 : Int32) + (Int32.ofNat ee))), (.int (2 : Int32))]) (rest := []) (rm_lsf l Z a0 hw sr b151 ((26 : Int32) + (Int32.ofNat ee)) (2 : Int32) _ zc (CS.ext O108_v152.2) hzc fm (SF.ext O108_v152.2) rf _ (tx0 ++ digs ee mm ++ tx2) Sr_v154 _ tx2 S151 (suf_ok he' (by decide) (by decide) (by decide) (by decide) (by decide)) (by decide) (by decide)) (by rw [hml]; rfl) (lenOf pd_24 rfl) rfl (hb hby at_638) (by decide) (by decide) (by decide) (by decide) ?_
    intro r159 T159 L159 q159 X159
    obtain ⟨rfl, rfl, e159⟩ := q159
    rw [List.append_nil] at X159
    show Go p e below _ T159 (mkF m 641 #[.val (.int x0), .val (.int n), .val (.ref b1), .val (.int (Int32.ofNat ee)), .val (.int (1 : Int32)), .val (.ref sr), .val (.int (((26 : Int32) + (Int32.ofNat ee)) + (10 : Int32))), .val (.ref b110), .val (.int (1 : Int32)), .val (.ref b151), .val (.int ((26 : Int32) + (Int32.ofNat ee)))] [(.int (1 : Int32))])
    refine Go.s_ifNo X159 hx (hb hby at_641) (q := 644) rfl ((if0 _ _).trans (feq (by decide : ¬ ((1 : Int32) = (0 : Int32)))).1) ?_
    refine Go.s_aload X159 hx (hb hby at_644) (q := 646) rfl rfl rfl ?_
    refine Go.s_aload X159 hx (hb hby at_646) (q := 648) rfl rfl rfl ?_
    refine Go.s_iload X159 hx (hb hby at_648) (q := 650) rfl rfl ?_
    refine Go.s_iconst X159 hx (hb hby at_650) (q := 651) rfl (z := 3) rfl ?_
    refine Go.callS (y := mn_41) X159 hx hZ hown (w_ hw 217 rfl) (w_ hw 218 rfl) (w_ hw 9 rfl) (w_ hw 219 rfl) (by decide) e159 (argsL := [(.ref sr), (.ref b151), (.int ((26 : Int32) + (Int32.ofNat ee))), (.int (3 : Int32))]) (rest := []) (rm_lsf l Z a0 hw sr b151 ((26 : Int32) + (Int32.ofNat ee)) (3 : Int32) _ zc (CS.ext O108_v152.2) hzc fm (SF.ext O108_v152.2) rf _ (tx0 ++ digs ee mm ++ tx2) Sr_v154 _ tx2 S151 (suf_ok he' (by decide) (by decide) (by decide) (by decide) (by decide)) (by decide) (by decide)) (by rw [hml]; rfl) (lenOf pd_24 rfl) rfl (hb hby at_651) (by decide) (by decide) (by decide) (by decide) ?_
    intro r160 T160 L160 q160 X160
    obtain ⟨rfl, rfl, e160⟩ := q160
    rw [List.append_nil] at X160
    show Go p e below _ T160 (mkF m 654 #[.val (.int x0), .val (.int n), .val (.ref b1), .val (.int (Int32.ofNat ee)), .val (.int (1 : Int32)), .val (.ref sr), .val (.int (((26 : Int32) + (Int32.ofNat ee)) + (10 : Int32))), .val (.ref b110), .val (.int (1 : Int32)), .val (.ref b151), .val (.int ((26 : Int32) + (Int32.ofNat ee)))] [(.int (1 : Int32))])
    refine Go.s_ifNo X160 hx (hb hby at_654) (q := 657) rfl ((if0 _ _).trans (feq (by decide : ¬ ((1 : Int32) = (0 : Int32)))).1) ?_
    refine Go.s_aload X160 hx (hb hby at_657) (q := 659) rfl rfl rfl ?_
    refine Go.s_aload X160 hx (hb hby at_659) (q := 661) rfl rfl rfl ?_
    refine Go.s_iload X160 hx (hb hby at_661) (q := 663) rfl rfl ?_
    refine Go.s_iconst X160 hx (hb hby at_663) (q := 664) rfl (z := 4) rfl ?_
    refine Go.callS (y := mn_41) X160 hx hZ hown (w_ hw 217 rfl) (w_ hw 218 rfl) (w_ hw 9 rfl) (w_ hw 219 rfl) (by decide) e160 (argsL := [(.ref sr), (.ref b151), (.int ((26 : Int32) + (Int32.ofNat ee))), (.int (4 : Int32))]) (rest := []) (rm_lsf l Z a0 hw sr b151 ((26 : Int32) + (Int32.ofNat ee)) (4 : Int32) _ zc (CS.ext O108_v152.2) hzc fm (SF.ext O108_v152.2) rf _ (tx0 ++ digs ee mm ++ tx2) Sr_v154 _ tx2 S151 (suf_ok he' (by decide) (by decide) (by decide) (by decide) (by decide)) (by decide) (by decide)) (by rw [hml]; rfl) (lenOf pd_24 rfl) rfl (hb hby at_664) (by decide) (by decide) (by decide) (by decide) ?_
    intro r161 T161 L161 q161 X161
    obtain ⟨rfl, rfl, e161⟩ := q161
    rw [List.append_nil] at X161
    show Go p e below _ T161 (mkF m 667 #[.val (.int x0), .val (.int n), .val (.ref b1), .val (.int (Int32.ofNat ee)), .val (.int (1 : Int32)), .val (.ref sr), .val (.int (((26 : Int32) + (Int32.ofNat ee)) + (10 : Int32))), .val (.ref b110), .val (.int (1 : Int32)), .val (.ref b151), .val (.int ((26 : Int32) + (Int32.ofNat ee)))] [(.int (1 : Int32))])
    refine Go.s_ifNo X161 hx (hb hby at_667) (q := 670) rfl ((if0 _ _).trans (feq (by decide : ¬ ((1 : Int32) = (0 : Int32)))).1) ?_
    refine Go.s_aload X161 hx (hb hby at_670) (q := 672) rfl rfl rfl ?_
    refine Go.s_aload X161 hx (hb hby at_672) (q := 674) rfl rfl rfl ?_
    refine Go.s_iload X161 hx (hb hby at_674) (q := 676) rfl rfl ?_
    refine Go.s_iconst X161 hx (hb hby at_676) (q := 677) rfl (z := 5) rfl ?_
    refine Go.callS (y := mn_41) X161 hx hZ hown (w_ hw 217 rfl) (w_ hw 218 rfl) (w_ hw 9 rfl) (w_ hw 219 rfl) (by decide) e161 (argsL := [(.ref sr), (.ref b151), (.int ((26 : Int32) + (Int32.ofNat ee))), (.int (5 : Int32))]) (rest := []) (rm_lsf l Z a0 hw sr b151 ((26 : Int32) + (Int32.ofNat ee)) (5 : Int32) _ zc (CS.ext O108_v152.2) hzc fm (SF.ext O108_v152.2) rf _ (tx0 ++ digs ee mm ++ tx2) Sr_v154 _ tx2 S151 (suf_ok he' (by decide) (by decide) (by decide) (by decide) (by decide)) (by decide) (by decide)) (by rw [hml]; rfl) (lenOf pd_24 rfl) rfl (hb hby at_677) (by decide) (by decide) (by decide) (by decide) ?_
    intro r162 T162 L162 q162 X162
    obtain ⟨rfl, rfl, e162⟩ := q162
    rw [List.append_nil] at X162
    show Go p e below _ T162 (mkF m 680 #[.val (.int x0), .val (.int n), .val (.ref b1), .val (.int (Int32.ofNat ee)), .val (.int (1 : Int32)), .val (.ref sr), .val (.int (((26 : Int32) + (Int32.ofNat ee)) + (10 : Int32))), .val (.ref b110), .val (.int (1 : Int32)), .val (.ref b151), .val (.int ((26 : Int32) + (Int32.ofNat ee)))] [(.int (1 : Int32))])
    refine Go.s_ifNo X162 hx (hb hby at_680) (q := 683) rfl ((if0 _ _).trans (feq (by decide : ¬ ((1 : Int32) = (0 : Int32)))).1) ?_
    refine Go.s_aload X162 hx (hb hby at_683) (q := 685) rfl rfl rfl ?_
    refine Go.s_aload X162 hx (hb hby at_685) (q := 687) rfl rfl rfl ?_
    refine Go.s_iload X162 hx (hb hby at_687) (q := 689) rfl rfl ?_
    refine Go.s_bipush X162 hx (hb hby at_689) (q := 691) rfl (z := 6) rfl ?_
    refine Go.callS (y := mn_41) X162 hx hZ hown (w_ hw 217 rfl) (w_ hw 218 rfl) (w_ hw 9 rfl) (w_ hw 219 rfl) (by decide) e162 (argsL := [(.ref sr), (.ref b151), (.int ((26 : Int32) + (Int32.ofNat ee))), (.int (6 : Int32))]) (rest := []) (rm_lsf l Z a0 hw sr b151 ((26 : Int32) + (Int32.ofNat ee)) (6 : Int32) _ zc (CS.ext O108_v152.2) hzc fm (SF.ext O108_v152.2) rf _ (tx0 ++ digs ee mm ++ tx2) Sr_v154 _ tx2 S151 (suf_ok he' (by decide) (by decide) (by decide) (by decide) (by decide)) (by decide) (by decide)) (by rw [hml]; rfl) (lenOf pd_24 rfl) rfl (hb hby at_691) (by decide) (by decide) (by decide) (by decide) ?_
    intro r163 T163 L163 q163 X163
    obtain ⟨rfl, rfl, e163⟩ := q163
    rw [List.append_nil] at X163
    show Go p e below _ T163 (mkF m 694 #[.val (.int x0), .val (.int n), .val (.ref b1), .val (.int (Int32.ofNat ee)), .val (.int (1 : Int32)), .val (.ref sr), .val (.int (((26 : Int32) + (Int32.ofNat ee)) + (10 : Int32))), .val (.ref b110), .val (.int (1 : Int32)), .val (.ref b151), .val (.int ((26 : Int32) + (Int32.ofNat ee)))] [(.int (1 : Int32))])
    refine Go.s_ifNo X163 hx (hb hby at_694) (q := 697) rfl ((if0 _ _).trans (feq (by decide : ¬ ((1 : Int32) = (0 : Int32)))).1) ?_
    refine Go.s_aload X163 hx (hb hby at_697) (q := 699) rfl rfl rfl ?_
    refine Go.s_aload X163 hx (hb hby at_699) (q := 701) rfl rfl rfl ?_
    refine Go.s_iload X163 hx (hb hby at_701) (q := 703) rfl rfl ?_
    refine Go.s_bipush X163 hx (hb hby at_703) (q := 705) rfl (z := 7) rfl ?_
    refine Go.callS (y := mn_41) X163 hx hZ hown (w_ hw 217 rfl) (w_ hw 218 rfl) (w_ hw 9 rfl) (w_ hw 219 rfl) (by decide) e163 (argsL := [(.ref sr), (.ref b151), (.int ((26 : Int32) + (Int32.ofNat ee))), (.int (7 : Int32))]) (rest := []) (rm_lsf l Z a0 hw sr b151 ((26 : Int32) + (Int32.ofNat ee)) (7 : Int32) _ zc (CS.ext O108_v152.2) hzc fm (SF.ext O108_v152.2) rf _ (tx0 ++ digs ee mm ++ tx2) Sr_v154 _ tx2 S151 (suf_ok he' (by decide) (by decide) (by decide) (by decide) (by decide)) (by decide) (by decide)) (by rw [hml]; rfl) (lenOf pd_24 rfl) rfl (hb hby at_705) (by decide) (by decide) (by decide) (by decide) ?_
    intro r164 T164 L164 q164 X164
    obtain ⟨rfl, rfl, e164⟩ := q164
    rw [List.append_nil] at X164
    show Go p e below _ T164 (mkF m 708 #[.val (.int x0), .val (.int n), .val (.ref b1), .val (.int (Int32.ofNat ee)), .val (.int (1 : Int32)), .val (.ref sr), .val (.int (((26 : Int32) + (Int32.ofNat ee)) + (10 : Int32))), .val (.ref b110), .val (.int (1 : Int32)), .val (.ref b151), .val (.int ((26 : Int32) + (Int32.ofNat ee)))] [(.int (1 : Int32))])
    refine Go.s_ifNo X164 hx (hb hby at_708) (q := 711) rfl ((if0 _ _).trans (feq (by decide : ¬ ((1 : Int32) = (0 : Int32)))).1) ?_
    refine Go.s_aload X164 hx (hb hby at_711) (q := 713) rfl rfl rfl ?_
    refine Go.s_aload X164 hx (hb hby at_713) (q := 715) rfl rfl rfl ?_
    refine Go.s_iload X164 hx (hb hby at_715) (q := 717) rfl rfl ?_
    refine Go.s_bipush X164 hx (hb hby at_717) (q := 719) rfl (z := 8) rfl ?_
    refine Go.callS (y := mn_41) X164 hx hZ hown (w_ hw 217 rfl) (w_ hw 218 rfl) (w_ hw 9 rfl) (w_ hw 219 rfl) (by decide) e164 (argsL := [(.ref sr), (.ref b151), (.int ((26 : Int32) + (Int32.ofNat ee))), (.int (8 : Int32))]) (rest := []) (rm_lsf l Z a0 hw sr b151 ((26 : Int32) + (Int32.ofNat ee)) (8 : Int32) _ zc (CS.ext O108_v152.2) hzc fm (SF.ext O108_v152.2) rf _ (tx0 ++ digs ee mm ++ tx2) Sr_v154 _ tx2 S151 (suf_ok he' (by decide) (by decide) (by decide) (by decide) (by decide)) (by decide) (by decide)) (by rw [hml]; rfl) (lenOf pd_24 rfl) rfl (hb hby at_719) (by decide) (by decide) (by decide) (by decide) ?_
    intro r165 T165 L165 q165 X165
    obtain ⟨rfl, rfl, e165⟩ := q165
    rw [List.append_nil] at X165
    show Go p e below _ T165 (mkF m 722 #[.val (.int x0), .val (.int n), .val (.ref b1), .val (.int (Int32.ofNat ee)), .val (.int (1 : Int32)), .val (.ref sr), .val (.int (((26 : Int32) + (Int32.ofNat ee)) + (10 : Int32))), .val (.ref b110), .val (.int (1 : Int32)), .val (.ref b151), .val (.int ((26 : Int32) + (Int32.ofNat ee)))] [(.int (1 : Int32))])
    refine Go.s_ifNo X165 hx (hb hby at_722) (q := 725) rfl ((if0 _ _).trans (feq (by decide : ¬ ((1 : Int32) = (0 : Int32)))).1) ?_
    refine Go.s_iconst X165 hx (hb hby at_725) (q := 726) rfl (z := 1) rfl ?_
    refine Go.s_goto X165 hx (hb hby at_726) (q := 730) (by decide) (by decide) ?_
    refine Go.s_istore X165 hx (hb hby at_730) (q := 732) rfl (l' := #[.val (.int x0), .val (.int n), .val (.ref b1), .val (.int (Int32.ofNat ee)), .val (.int (1 : Int32)), .val (.ref sr), .val (.int (((26 : Int32) + (Int32.ofNat ee)) + (10 : Int32))), .val (.ref b110), .val (.int (1 : Int32)), .val (.ref b151), .val (.int ((26 : Int32) + (Int32.ofNat ee)))]) rfl ?_
    refine Go.s_iload X165 hx (hb hby at_732) (q := 734) rfl rfl ?_
    refine Go.s_ifNo X165 hx (hb hby at_734) (q := 737) rfl ((if0 _ _).trans (feq (by decide : ¬ ((1 : Int32) = (0 : Int32)))).1) ?_
    refine Go.s_iload X165 hx (hb hby at_737) (q := 739) rfl rfl ?_
    refine Go.s_ifNo X165 hx (hb hby at_739) (q := 742) rfl ((if0 _ _).trans (feq (by decide : ¬ ((1 : Int32) = (0 : Int32)))).1) ?_
    refine Go.s_aload X165 hx (hb hby at_742) (q := 744) rfl rfl rfl ?_
    refine Go.s_aload X165 hx (hb hby at_744) (q := 746) rfl rfl rfl ?_
    refine Go.s_iload X165 hx (hb hby at_746) (q := 748) rfl rfl ?_
    refine Go.s_bipush X165 hx (hb hby at_748) (q := 750) rfl (z := 9) rfl ?_
    refine Go.callS (y := mn_41) X165 hx hZ hown (w_ hw 217 rfl) (w_ hw 218 rfl) (w_ hw 9 rfl) (w_ hw 219 rfl) (by decide) e165 (argsL := [(.ref sr), (.ref b151), (.int ((26 : Int32) + (Int32.ofNat ee))), (.int (9 : Int32))]) (rest := []) (rm_lsf l Z a0 hw sr b151 ((26 : Int32) + (Int32.ofNat ee)) (9 : Int32) _ zc (CS.ext O108_v152.2) hzc fm (SF.ext O108_v152.2) rf _ (tx0 ++ digs ee mm ++ tx2) Sr_v154 _ tx2 S151 (suf_ok he' (by decide) (by decide) (by decide) (by decide) (by decide)) (by decide) (by decide)) (by rw [hml]; rfl) (lenOf pd_24 rfl) rfl (hb hby at_750) (by decide) (by decide) (by decide) (by decide) ?_
    intro r166 T166 L166 q166 X166
    obtain ⟨rfl, rfl, e166⟩ := q166
    rw [List.append_nil] at X166
    show Go p e below _ T166 (mkF m 753 #[.val (.int x0), .val (.int n), .val (.ref b1), .val (.int (Int32.ofNat ee)), .val (.int (1 : Int32)), .val (.ref sr), .val (.int (((26 : Int32) + (Int32.ofNat ee)) + (10 : Int32))), .val (.ref b110), .val (.int (1 : Int32)), .val (.ref b151), .val (.int ((26 : Int32) + (Int32.ofNat ee)))] [(.int (1 : Int32))])
    refine Go.s_ifNo X166 hx (hb hby at_753) (q := 756) rfl ((if0 _ _).trans (feq (by decide : ¬ ((1 : Int32) = (0 : Int32)))).1) ?_
    refine Go.s_iconst X166 hx (hb hby at_756) (q := 757) rfl (z := 1) rfl ?_
    refine Go.s_goto X166 hx (hb hby at_757) (q := 761) (by decide) (by decide) ?_
    refine Go.s_istore X166 hx (hb hby at_761) (q := 763) rfl (l' := #[.val (.int x0), .val (.int n), .val (.ref b1), .val (.int (Int32.ofNat ee)), .val (.int (1 : Int32)), .val (.ref sr), .val (.int (((26 : Int32) + (Int32.ofNat ee)) + (10 : Int32))), .val (.ref b110), .val (.int (1 : Int32)), .val (.ref b151), .val (.int ((26 : Int32) + (Int32.ofNat ee)))]) rfl ?_
    refine Go.s_iload X166 hx (hb hby at_763) (q := 765) rfl rfl ?_
    refine Go.retNW X166 hx hZ hEL e166 hW151 hlk hret (by simp) (hb hby at_765) (by decide) (by decide) ?_
    exact ⟨by decide, N108⟩
theorem ef_law (m : MethodId) (x0 : Int32) : entryFrame m #[(.int x0)] maxLocals = mkF m 0 #[.val (.int x0), .unset, .unset, .unset, .unset, .unset, .unset, .unset, .unset, .unset, .unset] [] := by first | (simp [entryFrame, mkF, argsToLocals, Value.category, maxLocals]; done) | rfl
set_option maxRecDepth 65536 in
set_option maxHeartbeats 40000000 in
theorem rm_law (l : Launch) (Z : State) (a0 : Array Value) (hw : ∀ d ∈ tables_1, d.before a0 Z = true) (x0 : Int32) (h0 : Heap) (hEL : EW Z a0 consts_1) (n0 : Nat) (Z0 : n0 ≤ h0.size) (O0 : Old Z n0 h0) (zc : Int32) (CS : Sta Z Z.heap "java/lang/String" "COMPACT_STRINGS" "Z" (.int zc)) (hzc : ¬ zc = 0) (fm : Value) (SF : Sta Z Z.heap "jdk/internal/util/Preconditions" "SIOOBE_FORMATTER" "Ljava/util/function/BiFunction;" fm) (rf : fm.isRef = true) (dO dT : Addr) (kO kT : ClassId) (SO : Sta Z Z.heap "java/lang/Integer" "DigitOnes" "[B" (.ref dO)) (VO : Arv Z Z.heap dO kO .byte (100 : Int32) (ones.map Value.int) (.int 0)) (SX : Sta Z Z.heap "java/lang/Integer" "DigitTens" "[B" (.ref dT)) (VT : Arv Z Z.heap dT kT .byte (100 : Int32) (tens.map Value.int) (.int 0)) :
    CtW l x code maxLocals ret room_1 Z consts_1 [] h0 #[(.int x0)] (fun v h L => v = some (.int 1) ∧ Fr n0 L) := by
  refine CtW.body (plainFor_of_name pn_com_example_irama_irama_PrefilterToStringPinLaw) ?_
  intro p e s m below meth c T0 hx hby hml hown hnm hret hlk hZ hW hsf X0 e0
  refine Go.cast (ef_law m x0) ?_
  show Go p e below _ T0 (mkF m 0 #[.val (.int x0), .unset, .unset, .unset, .unset, .unset, .unset, .unset, .unset, .unset, .unset] [])
  refine Go.s_iloadN X0 hx (hb hby at_0) (q := 1) rfl rfl ?_
  refine Go.s_ldc X0 hx (hb hby at_1) (q := 3) rfl hown (mvT hZ (w_ hw 0 rfl)) ?_
  refine Go.s_iand X0 hx (hb hby at_3) (q := 4) rfl ?_
  refine Go.s_istoreN X0 hx (hb hby at_4) (q := 5) rfl (l' := #[.val (.int x0), .val (.int (x0 &&& (2147483647 : Int32))), .unset, .unset, .unset, .unset, .unset, .unset, .unset, .unset, .unset]) rfl ?_
  generalize hv1 : (x0 &&& (2147483647 : Int32)) = v1
  refine Go.s_iloadN X0 hx (hb hby at_5) (q := 6) rfl rfl ?_
  by_cases c6_2 : v1 = (0 : Int32)
  · -- pc 6: v1 = (0 : Int32)
    refine Go.s_ifNo X0 hx (hb hby at_6) (q := 9) rfl ((if0 _ _).trans (teq c6_2).2) ?_
    refine Go.s_iconst X0 hx (hb hby at_9) (q := 10) rfl (z := 1) rfl ?_
    refine Go.s_istoreN X0 hx (hb hby at_10) (q := 11) rfl (l' := #[.val (.int x0), .val (.int (1 : Int32)), .unset, .unset, .unset, .unset, .unset, .unset, .unset, .unset, .unset]) rfl ?_
    have hn : 1 ≤ ((1 : Int32)).toInt := by decide
    exact law_n hw hx hby hml hown hret hlk hZ hEL hW n0 Z0 O0 zc CS hzc fm SF rf dO dT kO kT SO VO SX VT x0 (1 : Int32) hn X0 e0
  · -- pc 6: not v1 = (0 : Int32)
    refine Go.s_ifYes X0 hx (hb hby at_6) (q := 11) (by decide) (by decide) ((if0 _ _).trans (feq c6_2).2) ?_
    have hn := mask_pos hv1 c6_2
    exact law_n hw hx hby hml hown hret hlk hZ hEL hW n0 Z0 O0 zc CS hzc fm SF rf dO dT kO kT SO VO SX VT x0 v1 hn X0 e0
set_option maxRecDepth 65536 in
set_option maxHeartbeats 40000000 in
theorem comes_1 {Post : Tables → Env → Array Value → State → Outcome → State → Prop} (hpost : ∀ tb e args s v u, (limb_1_1.after args s (.returned v) u = true ∧ limb_1_2.after args s (.returned v) u = true ∧ True) → ReturnedEndW s (.returned v) u (Jvm.fieldLocs frame_1_writes args s ++ Jvm.arrayLocs frame_1_arrays args s ++ Jvm.staticLocs frame_1_statics s) 40 5632 → Post tb e args s (.returned v) u) :
    ArmFor flags0 classFile x code maxLocals ret World_1 tables_1 room_1 Calls_1 rest_1 Pre_1 Post := by
  intro l hfl _ _ p e ha hc hk s m args below hf hA hF happ hP
  obtain ⟨hcalls, hrest, hpre⟩ := hP
  obtain ⟨-, -, -, hnamed, -, -, -, hat⟩ := (Spec.applies_iff hf).mp happ
  obtain ⟨hg, hn⟩ := and_e (Cond.before_iff.mp (show (Jvm.Cond.and given_1 narrow_1).before args s = true from hpre))
  obtain ⟨hgl, hgr⟩ := and_e hg
  obtain ⟨w0, rfl⟩ : ∃ w0 : Value, args = #[w0] := by
    have hs : args.size = 1 := by simpa [Cond.value, given_1] using hgl
    obtain ⟨L⟩ := args
    match L, hs with
    | [w0], _ => exact ⟨w0, rfl⟩
  have hw := fun d (hd : d ∈ tables_1) => atoms_spec (ws := Jvm.Cond.code x code maxLocals ret :: tables_1) hat d (List.mem_cons_of_mem _ hd)
  obtain ⟨i0, ev0⟩ := is_v hgr
  obtain rfl : w0 = (.int i0) := Option.some.inj ev0
  have hrs := Cond.before_iff.mp (show rest_1_c.before _ s = true from hrest)
  obtain ⟨q0, hrs⟩ := and_e hrs
  obtain ⟨q1, hrs⟩ := and_e hrs
  obtain ⟨q2, hrs⟩ := and_e hrs
  obtain ⟨q3, hrs⟩ := and_e hrs
  obtain ⟨q4, hrs⟩ := and_e hrs
  obtain ⟨q5, hrs⟩ := and_e hrs
  obtain ⟨q6, hrs⟩ := and_e hrs
  obtain ⟨q7, hrs⟩ := and_e hrs
  obtain ⟨q8, hrs⟩ := and_e hrs
  obtain ⟨q9, hrs⟩ := and_e hrs
  obtain ⟨q10, hrs⟩ := and_e hrs
  obtain ⟨q11, hrs⟩ := and_e hrs
  obtain ⟨q12, hrs⟩ := and_e hrs
  obtain ⟨q13, hrs⟩ := and_e hrs
  obtain ⟨q14, hrs⟩ := and_e hrs
  obtain ⟨q15, hrs⟩ := and_e hrs
  obtain ⟨q16, hrs⟩ := and_e hrs
  obtain ⟨q17, hrs⟩ := and_e hrs
  obtain ⟨q18, hrs⟩ := and_e hrs
  obtain ⟨q19, hrs⟩ := and_e hrs
  obtain ⟨zc, ez⟩ := is_v q1
  have CS := Sta.start ez (Or.inl (Cond.before_iff.mpr q0))
  have hzc := ne_of_not ez q2
  obtain ⟨fm, ef, rf⟩ := isR_v q8
  have SF := Sta.start ef (Or.inl (Cond.before_iff.mpr q7))
  obtain ⟨dO, eO⟩ := exa_v q12
  have SO := Sta.start eO (Or.inl (Cond.before_iff.mpr q11))
  obtain ⟨kO, VO⟩ := tbl_arv (vs := ones) (fun _ => eO) q12 (w_ hw 42 rfl) q13 q14 (fun r hr => by rw [← (ones_num r hr).1]; rfl) (fun r hr => (ones_num r hr).2)
  obtain ⟨dT, eT⟩ := exa_v q17
  have SX := Sta.start eT (Or.inl (Cond.before_iff.mpr q16))
  obtain ⟨kT, VT⟩ := tbl_arv (vs := tens) (fun _ => eT) q17 (w_ hw 42 rfl) q18 q19 (fun r hr => by rw [← (tens_num r hr).1]; rfl) (fun r hr => (tens_num r hr).2)
  have hEL : EW s _ consts_1 := (EW.cons (w_ hw 47 rfl) ht0.1 (EW.cons (w_ hw 148 rfl) ht1.1 (EW.cons (w_ hw 220 rfl) ht2.1 (EW.cons (w_ hw 187 rfl) ht0.1 (EW.cons (w_ hw 216 rfl) ht2.1 EW.nil)))))
  have hH : CHv s consts_1 s.vm s.heap := CHv.start hEL (fun p hp => hcalls.1 p hp) (Cond.before_iff.mpr q2) (w_ hw 42 rfl) (w_ hw 48 rfl)
  obtain ⟨n, o, h1, h2, h3, _, L, rfl, ⟨rfl, N⟩, -, hq⟩ := rm_law l s _ hw i0 s.heap hEL s.heap.size (Nat.le_refl _) (Old.start s) zc CS hzc fm SF rf dO dT kO kT SO VO SX VT tables_1 p e ha hc hk s m _ below hf ((Spec.applies_iff_loose hf).mp happ).1 ⟨rfl, State.Warmed39.refl s, rfl, hH, all0⟩ trivial
  refine ⟨n, _, h1, h2, h3, hpost _ _ _ _ _ _ ⟨Cond.after_iff.mpr rfl, Cond.after_iff.mpr (eq_i res_at (Term.int_eval (1)) rfl), trivial⟩ ⟨hq.1, hq.2.1, hq.2.2.1, (hq.2.2.2.sift fun y hy => Or.inr (N y hy)).mono (by decide) (by decide)⟩⟩
theorem main_1_1 : Claimed_1_1 := comes_1 fun _ _ _ _ _ _ h hF => ⟨h.1, hF⟩
theorem main_1_2 : Claimed_1_2 := comes_1 fun _ _ _ _ _ _ h hF => ⟨h.2.1, hF⟩
end Jvm.Pilot.@@N@@
namespace Jvm.Pilot.@@N@@
open Jvm Jvm.ClassFile Sem Op Lib Jvm.Free Jvm.Stand Jvm.Pilot.@@N@@.Jvm.D
/-! MADE BY PROGRAM (witnessworld.py) out of the Statement's table words and the real class files: 25 classes; the members and pool entries that the words name. The judged class is class 1, her method 1. -/
namespace start1
open Jvm.ClassFile
def u (s : String) : CpInfo := .utf8 (stringToUtf16 s)
/-- a pool by its gaps: so many unusable entries, then the entry; so many at the end -/
def gap : Nat → List CpInfo → List CpInfo
  | 0, r => r
  | n + 1, r => .unusable :: gap n r
def poolList (es : List (Nat × CpInfo)) (last : Nat) : List CpInfo := es.foldr (fun e r => gap e.1 (e.2 :: r)) (gap last [])
def pool (es : List (Nat × CpInfo)) (last : Nat) : Array CpInfo := ⟨poolList es last⟩
def fileOf (pool : Array CpInfo) (this : Nat) (attrs : Array Attribute := #[]) (ms : Array MethodInfo := #[]) (fl : Nat := 33) (sup : Nat := 0) (ifs : Array Nat := #[]) (fds : Array FieldInfo := #[]) : ClassFile where
  minorVersion := 0
  majorVersion := 65
  constantPool := pool
  accessFlags := fl
  thisClass := this
  superClass := sup
  interfaces := ifs
  fields := fds
  methods := ms
  attributes := attrs
def plain (name : String) (sup : Option ClassId) : Class where
  name := name
  kind := .ordinary
  loader := none
  accessFlags := 33
  super := sup
  interfaces := #[]
  cf := none
  fields := #[]
  methods := #[]
  instanceTypes := #[]
  staticTypes := #[]
  resolved := #[]
  callSites := []
  init := .initialized
  statics := none
  mirror := none

def pool0 : Array CpInfo := pool [(5, u "<init>"), (0, u "()V"), (1, .class_ 10), (1, u "java/lang/Object")] 113

def k0c0 : Code := { maxStack := 0, maxLocals := 1, code := object_method_1_code, exceptionTable := #[], attributes := #[] }
def k0m0 : Method := { name := "<init>", desc := "()V", sig := { parameters := [], returnType := none }, accessFlags := 1, code := some k0c0 }
/-- java/lang/Object -/
def k0 : Class := { plain "java/lang/Object" none with
  accessFlags := 33
  interfaces := #[]
  cf := some (fileOf pool0 8 #[] #[{ accessFlags := 1, nameIndex := 5, descriptorIndex := 6, attributes := #[] }] 33 0 #[] #[])
  fields := #[]
  methods := #[k0m0]
  instanceTypes := #[]
  staticTypes := #[]
  resolved := Array.replicate 124 none
  statics := none }

def pool1 : Array CpInfo := pool [(2, .class_ 4), (1, u "java/lang/Object"), (0, u "<init>"), (0, u "()V"), (0, .integer 2147483647), (0, .integer 100000), (0, .integer 1000000), (0, .integer 10000000), (0, .integer 100000000), (0, .integer 1000000000), (0, .methodref 14 15), (0, .class_ 16), (0, .nameAndType 17 18), (0, u "com/example/irama/irama/PrefilterToStringPinLaw"), (0, u "digits"), (0, u "(I)I"), (0, .class_ 20), (0, u "com/example/irama/irama/Prefilter"), (0, .methodref 19 22), (0, .nameAndType 5 23), (0, u "(I)V"), (0, .methodref 19 25), (0, .nameAndType 26 27), (0, u "toString"), (0, u "()Ljava/lang/String;"), (0, .methodref 29 30), (0, .class_ 31), (0, .nameAndType 32 33), (0, u "java/lang/String"), (0, u "length"), (0, u "()I"), (0, .string 35), (0, u "pre-filtered as shared by "), (0, .methodref 14 37), (0, .nameAndType 38 39), (0, u "c"), (0, u "(Ljava/lang/String;Ljava/lang/String;I)Z"), (0, .methodref 14 41), (0, .nameAndType 42 43), (0, u "dg"), (0, u "(Ljava/lang/String;II[II)Z"), (0, .string 45), (0, u " instances"), (0, .methodref 14 47), (0, .nameAndType 48 49), (0, u "sf"), (0, u "(Ljava/lang/String;Ljava/lang/String;II)Z"), (0, .methodref 29 51), (0, .nameAndType 52 53), (0, u "charAt"), (0, u "(I)C"), (2, u "law"), (0, u "(I)Z")] 5

def k1m0 : Method := { name := "<init>", desc := "()V", sig := { parameters := [], returnType := none }, accessFlags := 1, code := none }
def k1c1 : Code := { maxStack := 5, maxLocals := 11, code := code, exceptionTable := #[], attributes := #[] }
def k1m1 : Method := { name := "law", desc := "(I)Z", sig := { parameters := [.int], returnType := some .boolean }, accessFlags := 9, code := some k1c1 }
def k1c2 : Code := { maxStack := 3, maxLocals := 3, code := method_3_code, exceptionTable := #[], attributes := #[] }
def k1m2 : Method := { name := "c", desc := "(Ljava/lang/String;Ljava/lang/String;I)Z", sig := { parameters := [(.object "java/lang/String"), (.object "java/lang/String"), .int], returnType := some .boolean }, accessFlags := 10, code := some k1c2 }
def k1c3 : Code := { maxStack := 4, maxLocals := 6, code := method_4_code, exceptionTable := #[], attributes := #[] }
def k1m3 : Method := { name := "dg", desc := "(Ljava/lang/String;II[II)Z", sig := { parameters := [(.object "java/lang/String"), .int, .int, (.array .int), .int], returnType := some .boolean }, accessFlags := 10, code := some k1c3 }
def k1c4 : Code := { maxStack := 3, maxLocals := 4, code := method_5_code, exceptionTable := #[], attributes := #[] }
def k1m4 : Method := { name := "sf", desc := "(Ljava/lang/String;Ljava/lang/String;II)Z", sig := { parameters := [(.object "java/lang/String"), (.object "java/lang/String"), .int, .int], returnType := some .boolean }, accessFlags := 10, code := some k1c4 }
def k1c5 : Code := { maxStack := 2, maxLocals := 1, code := method_6_code, exceptionTable := #[], attributes := #[] }
def k1m5 : Method := { name := "digits", desc := "(I)I", sig := { parameters := [.int], returnType := some .int }, accessFlags := 10, code := some k1c5 }
/-- com/example/irama/irama/PrefilterToStringPinLaw -/
def k1 : Class := { plain "com/example/irama/irama/PrefilterToStringPinLaw" (some 0) with
  accessFlags := 49
  interfaces := #[]
  cf := some (fileOf pool1 14 #[] #[{ accessFlags := 1, nameIndex := 5, descriptorIndex := 6, attributes := #[] }, { accessFlags := 9, nameIndex := 56, descriptorIndex := 57, attributes := #[] }, { accessFlags := 10, nameIndex := 38, descriptorIndex := 39, attributes := #[] }, { accessFlags := 10, nameIndex := 42, descriptorIndex := 43, attributes := #[] }, { accessFlags := 10, nameIndex := 48, descriptorIndex := 49, attributes := #[] }, { accessFlags := 10, nameIndex := 17, descriptorIndex := 18, attributes := #[] }] 49 2 #[] #[])
  fields := #[]
  methods := #[k1m0, k1m1, k1m2, k1m3, k1m4, k1m5]
  instanceTypes := #[]
  staticTypes := #[]
  resolved := Array.replicate 63 none
  statics := none }

def pool2 : Array CpInfo := pool [(1, .methodref 2 3), (0, .class_ 4), (0, .nameAndType 5 6), (0, u "java/lang/Object"), (0, u "<init>"), (0, u "()V"), (2, .class_ 10), (0, u "java/lang/StringBuilder"), (0, .methodref 9 3), (2, .methodref 9 15), (0, .nameAndType 16 17), (0, u "append"), (0, u "(Ljava/lang/String;)Ljava/lang/StringBuilder;"), (0, .methodref 9 19), (0, .nameAndType 16 20), (0, u "(I)Ljava/lang/StringBuilder;"), (0, .methodref 9 22), (0, .nameAndType 23 24), (0, u "toString"), (0, u "()Ljava/lang/String;"), (3, .fieldref 29 30), (0, .class_ 31), (0, .nameAndType 32 33), (0, u "com/example/irama/irama/Prefilter"), (0, u "instances"), (0, u "I"), (6, .string 41), (0, u "pre-filtered as shared by "), (0, .string 43), (0, u " instance"), (0, .string 45), (0, u " instances"), (0, u "(I)V")] 11

def k2c0 : Code := { maxStack := 4, maxLocals := 2, code := prog_4_method_1_code, exceptionTable := #[], attributes := #[] }
def k2m0 : Method := { name := "<init>", desc := "(I)V", sig := { parameters := [.int], returnType := none }, accessFlags := 1, code := some k2c0 }
def k2c1 : Code := { maxStack := 3, maxLocals := 1, code := prog_4_method_6_code, exceptionTable := #[], attributes := #[] }
def k2m1 : Method := { name := "toString", desc := "()Ljava/lang/String;", sig := { parameters := [], returnType := some (.object "java/lang/String") }, accessFlags := 1, code := some k2c1 }
/-- com/example/irama/irama/Prefilter -/
def k2 : Class := { plain "com/example/irama/irama/Prefilter" (some 0) with
  accessFlags := 49
  interfaces := #[]
  cf := some (fileOf pool2 29 #[] #[{ accessFlags := 1, nameIndex := 5, descriptorIndex := 46, attributes := #[] }, { accessFlags := 1, nameIndex := 23, descriptorIndex := 24, attributes := #[] }] 49 2 #[] #[{ accessFlags := 18, nameIndex := 32, descriptorIndex := 33, attributes := #[] }])
  fields := #[{ name := "instances", type := .int, accessFlags := 18, slot := 0, constantValue := 0 }]
  methods := #[k2m0, k2m1]
  instanceTypes := #[.int]
  staticTypes := #[]
  resolved := Array.replicate 58 none
  statics := none }

def pool3 : Array CpInfo := pool [(1, .class_ 2), (0, u "java/lang/Appendable"), (0, .class_ 4), (0, u "java/lang/Object")] 9

/-- java/lang/Appendable -/
def k3 : Class := { plain "java/lang/Appendable" (some 0) with
  accessFlags := 1537
  interfaces := #[]
  cf := some (fileOf pool3 1 #[] #[] 1537 3 #[] #[])
  fields := #[]
  methods := #[]
  instanceTypes := #[]
  staticTypes := #[]
  resolved := Array.replicate 14 none
  statics := none }

def pool4 : Array CpInfo := pool [(2, .class_ 4), (1, u "java/lang/CharSequence"), (42, .class_ 48), (0, u "java/lang/CharSequence$1CodePointIterator"), (10, .class_ 60), (0, u "java/lang/CharSequence$1CharIterator"), (5, .class_ 67), (0, u "java/lang/Object")] 63

/-- java/lang/CharSequence -/
def k4 : Class := { plain "java/lang/CharSequence" (some 0) with
  accessFlags := 1537
  interfaces := #[]
  cf := some (fileOf pool4 2 #[.nestMembers #[47, 59]] #[] 1537 66 #[] #[])
  fields := #[]
  methods := #[]
  instanceTypes := #[]
  staticTypes := #[]
  resolved := Array.replicate 131 none
  statics := none }

def pool5 : Array CpInfo := pool [(1, .class_ 2), (0, u "java/lang/String"), (0, .methodref 4 5), (0, .class_ 6), (0, .nameAndType 7 8), (0, u "java/lang/Object"), (0, u "<init>"), (0, u "()V"), (1, .class_ 12), (1, u "java/lang/AbstractStringBuilder"), (0, u "EMPTYVALUE"), (0, u "[B"), (0, .fieldref 10 16), (0, .nameAndType 17 14), (0, u "value"), (0, .fieldref 1 19), (0, .nameAndType 20 21), (0, u "COMPACT_STRINGS"), (0, u "Z"), (0, .fieldref 10 23), (0, .nameAndType 24 25), (0, u "coder"), (0, u "B"), (6, .methodref 1 33), (0, .nameAndType 34 35), (0, u "length"), (0, u "()I"), (0, .class_ 37), (0, u "java/lang/Integer"), (1, .integer 2147483647), (0, .methodref 1 41), (0, .nameAndType 24 42), (0, u "()B"), (2, u "append"), (0, u "(Ljava/lang/String;)Ljava/lang/AbstractStringBuilder;"), (1, .class_ 49), (0, u "java/lang/CharSequence"), (19, u "(Ljava/lang/String;)V"), (5, u "maybeLatin1"), (3, .fieldref 10 80), (0, .nameAndType 81 82), (0, u "count"), (0, u "I"), (0, .methodref 10 84), (0, .nameAndType 85 86), (0, u "isLatin1"), (0, u "()Z"), (13, .methodref 10 101), (0, .nameAndType 102 103), (0, u "ensureCapacityInternal"), (0, u "(I)V"), (0, .methodref 10 105), (0, .nameAndType 106 107), (0, u "newCapacity"), (0, u "(I)I"), (0, .methodref 109 110), (0, .class_ 111), (0, .nameAndType 112 113), (0, u "java/util/Arrays"), (0, u "copyOf"), (0, u "([BI)[B"), (0, .methodref 115 116), (0, .class_ 117), (0, .nameAndType 118 119), (0, u "jdk/internal/util/ArraysSupport"), (0, u "newLength"), (0, u "(III)I"), (68, u "getChars"), (19, .methodref 10 209), (0, .nameAndType 210 211), (0, u "putStringAt"), (0, u "(ILjava/lang/String;)V"), (5, u "inflateIfNeededFor"), (2, .nameAndType 221 222), (0, u "getBytes"), (0, u "([BIB)V"), (22, .methodref 36 246), (0, .nameAndType 247 107), (0, u "stringSize"), (0, .methodref 36 249), (0, .nameAndType 188 250), (0, u "(II[B)I"), (146, .methodref 10 398), (0, .nameAndType 217 69), (0, .methodref 1 220), (3, u "()[B"), (40, .class_ 445), (0, u "java/lang/Appendable"), (65, u "(I)Ljava/lang/AbstractStringBuilder;"), (40, u "getValue")] 56

def k5m0 : Method := { name := "<init>", desc := "()V", sig := { parameters := [], returnType := none }, accessFlags := 0, code := none }
def k5c1 : Code := { maxStack := 2, maxLocals := 2, code := jdk_68_method_2_code, exceptionTable := #[], attributes := #[] }
def k5m1 : Method := { name := "<init>", desc := "(I)V", sig := { parameters := [.int], returnType := none }, accessFlags := 0, code := some k5c1 }
def k5c2 : Code := { maxStack := 1, maxLocals := 1, code := jdk_68_method_6_code, exceptionTable := #[], attributes := #[] }
def k5m2 : Method := { name := "length", desc := "()I", sig := { parameters := [], returnType := some .int }, accessFlags := 1, code := some k5c2 }
def k5c3 : Code := { maxStack := 4, maxLocals := 3, code := jdk_68_method_9_code, exceptionTable := #[], attributes := #[] }
def k5m3 : Method := { name := "ensureCapacityInternal", desc := "(I)V", sig := { parameters := [.int], returnType := none }, accessFlags := 2, code := some k5c3 }
def k5c4 : Code := { maxStack := 5, maxLocals := 6, code := jdk_68_method_10_code, exceptionTable := #[], attributes := #[] }
def k5m4 : Method := { name := "newCapacity", desc := "(I)I", sig := { parameters := [.int], returnType := some .int }, accessFlags := 2, code := some k5c4 }
def k5c5 : Code := { maxStack := 3, maxLocals := 3, code := jdk_68_method_22_code, exceptionTable := #[], attributes := #[] }
def k5m5 : Method := { name := "append", desc := "(Ljava/lang/String;)Ljava/lang/AbstractStringBuilder;", sig := { parameters := [(.object "java/lang/String")], returnType := some (.object "java/lang/AbstractStringBuilder") }, accessFlags := 1, code := some k5c5 }
def k5c6 : Code := { maxStack := 4, maxLocals := 4, code := jdk_68_method_32_code, exceptionTable := #[], attributes := #[] }
def k5m6 : Method := { name := "append", desc := "(I)Ljava/lang/AbstractStringBuilder;", sig := { parameters := [.int], returnType := some (.object "java/lang/AbstractStringBuilder") }, accessFlags := 1, code := some k5c6 }
def k5c7 : Code := { maxStack := 1, maxLocals := 1, code := jdk_68_method_64_code, exceptionTable := #[], attributes := #[] }
def k5m7 : Method := { name := "getValue", desc := "()[B", sig := { parameters := [], returnType := some (.array .byte) }, accessFlags := 16, code := some k5c7 }
def k5c8 : Code := { maxStack := 1, maxLocals := 1, code := jdk_68_method_68_code, exceptionTable := #[], attributes := #[] }
def k5m8 : Method := { name := "isLatin1", desc := "()Z", sig := { parameters := [], returnType := some .boolean }, accessFlags := 16, code := some k5c8 }
def k5c9 : Code := { maxStack := 2, maxLocals := 2, code := jdk_68_method_71_code, exceptionTable := #[], attributes := #[] }
def k5m9 : Method := { name := "inflateIfNeededFor", desc := "(Ljava/lang/String;)V", sig := { parameters := [(.object "java/lang/String")], returnType := none }, accessFlags := 2, code := some k5c9 }
def k5c10 : Code := { maxStack := 4, maxLocals := 3, code := jdk_68_method_73_code, exceptionTable := #[], attributes := #[] }
def k5m10 : Method := { name := "putStringAt", desc := "(ILjava/lang/String;)V", sig := { parameters := [.int, (.object "java/lang/String")], returnType := none }, accessFlags := 2, code := some k5c10 }
/-- java/lang/AbstractStringBuilder -/
def k5 : Class := { plain "java/lang/AbstractStringBuilder" (some 0) with
  accessFlags := 1056
  interfaces := #[3, 4]
  cf := some (fileOf pool5 10 #[] #[{ accessFlags := 0, nameIndex := 7, descriptorIndex := 8, attributes := #[] }, { accessFlags := 0, nameIndex := 7, descriptorIndex := 103, attributes := #[] }, { accessFlags := 1, nameIndex := 34, descriptorIndex := 35, attributes := #[] }, { accessFlags := 2, nameIndex := 102, descriptorIndex := 103, attributes := #[] }, { accessFlags := 2, nameIndex := 106, descriptorIndex := 107, attributes := #[] }, { accessFlags := 1, nameIndex := 45, descriptorIndex := 46, attributes := #[] }, { accessFlags := 1, nameIndex := 45, descriptorIndex := 511, attributes := #[] }, { accessFlags := 16, nameIndex := 552, descriptorIndex := 403, attributes := #[] }, { accessFlags := 16, nameIndex := 85, descriptorIndex := 86, attributes := #[] }, { accessFlags := 2, nameIndex := 217, descriptorIndex := 69, attributes := #[] }, { accessFlags := 2, nameIndex := 210, descriptorIndex := 211, attributes := #[] }] 1056 4 #[444, 48] #[{ accessFlags := 0, nameIndex := 17, descriptorIndex := 14, attributes := #[] }, { accessFlags := 0, nameIndex := 24, descriptorIndex := 25, attributes := #[] }, { accessFlags := 0, nameIndex := 75, descriptorIndex := 21, attributes := #[] }, { accessFlags := 0, nameIndex := 81, descriptorIndex := 82, attributes := #[] }, { accessFlags := 26, nameIndex := 13, descriptorIndex := 14, attributes := #[] }])
  fields := #[{ name := "value", type := (.array .byte), accessFlags := 0, slot := 0, constantValue := 0 }, { name := "coder", type := .byte, accessFlags := 0, slot := 1, constantValue := 0 }, { name := "maybeLatin1", type := .boolean, accessFlags := 0, slot := 2, constantValue := 0 }, { name := "count", type := .int, accessFlags := 0, slot := 3, constantValue := 0 }, { name := "EMPTYVALUE", type := (.array .byte), accessFlags := 26, slot := 0, constantValue := 0 }]
  methods := #[k5m0, k5m1, k5m2, k5m3, k5m4, k5m5, k5m6, k5m7, k5m8, k5m9, k5m10]
  instanceTypes := #[(.array .byte), .byte, .boolean, .int]
  staticTypes := #[(.array .byte)]
  resolved := Array.replicate 609 none
  statics := none }

def pool6 : Array CpInfo := pool [(1, .class_ 2), (0, u "java/io/Serializable"), (0, .class_ 4), (0, u "java/lang/Object")] 2

/-- java/io/Serializable -/
def k6 : Class := { plain "java/io/Serializable" (some 0) with
  accessFlags := 1537
  interfaces := #[]
  cf := some (fileOf pool6 1 #[] #[] 1537 3 #[] #[])
  fields := #[]
  methods := #[]
  instanceTypes := #[]
  staticTypes := #[]
  resolved := Array.replicate 7 none
  statics := none }

def pool7 : Array CpInfo := pool [(1, .class_ 2), (0, u "java/lang/Comparable"), (0, .class_ 4), (0, u "java/lang/Object")] 7

/-- java/lang/Comparable -/
def k7 : Class := { plain "java/lang/Comparable" (some 0) with
  accessFlags := 1537
  interfaces := #[]
  cf := some (fileOf pool7 1 #[] #[] 1537 3 #[] #[])
  fields := #[]
  methods := #[]
  instanceTypes := #[]
  staticTypes := #[]
  resolved := Array.replicate 12 none
  statics := none }

def pool8 : Array CpInfo := pool [(1, .methodref 2 3), (0, .class_ 4), (0, .nameAndType 5 6), (0, u "java/lang/AbstractStringBuilder"), (0, u "<init>"), (0, u "(I)V"), (11, .class_ 20), (1, u "java/lang/String"), (3, .class_ 26), (1, u "java/lang/StringBuilder"), (0, u "append"), (0, u "(Ljava/lang/String;)Ljava/lang/StringBuilder;"), (0, .methodref 2 30), (0, .nameAndType 27 31), (0, u "(Ljava/lang/String;)Ljava/lang/AbstractStringBuilder;"), (21, .methodref 2 54), (0, .nameAndType 27 55), (0, u "(I)Ljava/lang/AbstractStringBuilder;"), (81, .methodref 18 138), (0, .nameAndType 5 139), (0, u "(Ljava/lang/StringBuilder;)V"), (5, u "()V"), (10, u "()I"), (111, u "(I)Ljava/lang/StringBuilder;"), (74, .methodref 2 344), (0, .nameAndType 345 156), (0, u "length"), (3, .class_ 350), (0, u "java/lang/Appendable"), (0, .class_ 352), (0, u "java/io/Serializable"), (0, .class_ 354), (0, u "java/lang/Comparable"), (0, .class_ 356), (0, u "java/lang/CharSequence"), (0, u "serialVersionUID"), (0, u "J"), (40, u "toString"), (0, u "()Ljava/lang/String;")] 21

def k8c0 : Code := { maxStack := 2, maxLocals := 1, code := jdk_67_method_1_code, exceptionTable := #[], attributes := #[] }
def k8m0 : Method := { name := "<init>", desc := "()V", sig := { parameters := [], returnType := none }, accessFlags := 1, code := some k8c0 }
def k8c1 : Code := { maxStack := 2, maxLocals := 2, code := jdk_67_method_7_code, exceptionTable := #[], attributes := #[] }
def k8m1 : Method := { name := "append", desc := "(Ljava/lang/String;)Ljava/lang/StringBuilder;", sig := { parameters := [(.object "java/lang/String")], returnType := some (.object "java/lang/StringBuilder") }, accessFlags := 1, code := some k8c1 }
def k8c2 : Code := { maxStack := 2, maxLocals := 2, code := jdk_67_method_15_code, exceptionTable := #[], attributes := #[] }
def k8m2 : Method := { name := "append", desc := "(I)Ljava/lang/StringBuilder;", sig := { parameters := [.int], returnType := some (.object "java/lang/StringBuilder") }, accessFlags := 1, code := some k8c2 }
def k8c3 : Code := { maxStack := 3, maxLocals := 1, code := jdk_67_method_42_code, exceptionTable := #[], attributes := #[] }
def k8m3 : Method := { name := "toString", desc := "()Ljava/lang/String;", sig := { parameters := [], returnType := some (.object "java/lang/String") }, accessFlags := 1, code := some k8c3 }
def k8c4 : Code := { maxStack := 1, maxLocals := 1, code := jdk_67_method_93_code, exceptionTable := #[], attributes := #[] }
def k8m4 : Method := { name := "length", desc := "()I", sig := { parameters := [], returnType := some .int }, accessFlags := 4161, code := some k8c4 }
/-- java/lang/StringBuilder -/
def k8 : Class := { plain "java/lang/StringBuilder" (some 5) with
  accessFlags := 49
  interfaces := #[3, 6, 7, 4]
  cf := some (fileOf pool8 24 #[] #[{ accessFlags := 1, nameIndex := 5, descriptorIndex := 145, attributes := #[] }, { accessFlags := 1, nameIndex := 27, descriptorIndex := 28, attributes := #[] }, { accessFlags := 1, nameIndex := 27, descriptorIndex := 268, attributes := #[] }, { accessFlags := 1, nameIndex := 399, descriptorIndex := 400, attributes := #[] }, { accessFlags := 4161, nameIndex := 345, descriptorIndex := 156, attributes := #[] }] 49 2 #[349, 351, 353, 355] #[{ accessFlags := 24, nameIndex := 357, descriptorIndex := 358, attributes := #[] }])
  fields := #[{ name := "serialVersionUID", type := .long, accessFlags := 24, slot := 0, constantValue := 0 }]
  methods := #[k8m0, k8m1, k8m2, k8m3, k8m4]
  instanceTypes := #[(.array .byte), .byte, .boolean, .int]
  staticTypes := #[.long]
  resolved := Array.replicate 422 none
  statics := none }

def pool9 : Array CpInfo := pool [(1, .class_ 2), (0, u "java/lang/constant/Constable"), (0, .class_ 4), (0, u "java/lang/Object")] 6

/-- java/lang/constant/Constable -/
def k9 : Class := { plain "java/lang/constant/Constable" (some 0) with
  accessFlags := 1537
  interfaces := #[]
  cf := some (fileOf pool9 1 #[] #[] 1537 3 #[] #[])
  fields := #[]
  methods := #[]
  instanceTypes := #[]
  staticTypes := #[]
  resolved := Array.replicate 11 none
  statics := none }

def pool10 : Array CpInfo := pool [(1, .class_ 2), (0, u "java/lang/constant/ConstantDesc"), (0, .class_ 4), (0, u "java/lang/Object")] 32

/-- java/lang/constant/ConstantDesc -/
def k10 : Class := { plain "java/lang/constant/ConstantDesc" (some 0) with
  accessFlags := 1537
  interfaces := #[]
  cf := some (fileOf pool10 1 #[] #[] 1537 3 #[] #[])
  fields := #[]
  methods := #[]
  instanceTypes := #[]
  staticTypes := #[]
  resolved := Array.replicate 37 none
  statics := none }

def pool11 : Array CpInfo := pool [(1, .methodref 2 3), (0, .class_ 4), (0, .nameAndType 5 6), (0, u "java/lang/Object"), (0, u "<init>"), (0, u "()V"), (2, .fieldref 10 11), (0, .class_ 12), (0, .nameAndType 13 14), (0, u "java/lang/String"), (0, u "value"), (0, u "[B"), (0, .fieldref 10 16), (0, .nameAndType 17 18), (0, u "coder"), (0, u "B"), (2, u "hash"), (0, u "I"), (2, u "hashIsZero"), (0, u "Z"), (11, .fieldref 10 39), (0, .nameAndType 40 26), (0, u "COMPACT_STRINGS"), (13, .methodref 55 56), (0, .class_ 57), (0, .nameAndType 58 59), (0, u "java/util/Arrays"), (0, u "copyOfRange"), (0, u "([BII)[B"), (47, .class_ 109), (1, u "java/lang/StringLatin1"), (32, u "()Z"), (50, .class_ 195), (1, u "java/lang/System"), (16, .methodref 193 213), (0, .nameAndType 214 215), (0, u "arraycopy"), (0, u "(Ljava/lang/Object;ILjava/lang/Object;II)V"), (118, u "()I"), (0, .methodref 10 336), (0, .nameAndType 17 337), (0, u "()B"), (2, u "()[B"), (22, u "([BI)C"), (27, u "(II)V"), (35, u "(I)C"), (61, .methodref 10 490), (0, .nameAndType 5 491), (0, u "(Ljava/lang/AbstractStringBuilder;Ljava/lang/Void;)V"), (0, .methodref 10 493), (0, .nameAndType 494 142), (0, u "isLatin1"), (0, .methodref 107 496), (0, .nameAndType 497 363), (0, u "charAt"), (3, u "checkIndex"), (4, .nameAndType 507 334), (0, u "length"), (24, u "getBytes"), (16, .methodref 550 506), (0, .class_ 551), (0, u "java/lang/AbstractStringBuilder"), (0, .methodref 550 553), (0, .nameAndType 554 340), (0, u "getValue"), (20, .class_ 576), (0, u "java/lang/CharSequence"), (22, u "CASE_INSENSITIVE_ORDER"), (0, u "Ljava/util/Comparator;"), (220, u "([BIB)V"), (225, .methodref 550 493), (5, .fieldref 1054 1055), (0, .class_ 1056), (0, .nameAndType 1057 1058), (0, u "jdk/internal/util/Preconditions"), (0, u "SIOOBE_FORMATTER"), (0, u "Ljava/util/function/BiFunction;"), (0, .methodref 1054 1060), (0, .nameAndType 501 1061), (0, u "(IILjava/util/function/BiFunction;)I"), (39, u "serialPersistentFields"), (0, u "[Ljava/io/ObjectStreamField;"), (0, .class_ 1104), (0, u "java/lang/String$CaseInsensitiveComparator"), (1, .class_ 1107), (0, u "java/io/Serializable"), (0, .class_ 1109), (0, u "java/lang/Comparable"), (0, .class_ 1111), (0, u "java/lang/constant/Constable"), (0, .class_ 1113), (0, u "java/lang/constant/ConstantDesc"), (2, u "serialVersionUID"), (0, u "J"), (3, u "REPL"), (0, u "C"), (2, u "LATIN1"), (1, u "UTF16"), (105, u "(Ljava/lang/StringBuilder;)V")] 217

def k11m0 : Method := { name := "<init>", desc := "()V", sig := { parameters := [], returnType := none }, accessFlags := 1, code := none }
def k11c1 : Code := { maxStack := 3, maxLocals := 2, code := jdk_42_method_53_code, exceptionTable := #[], attributes := #[] }
def k11m1 : Method := { name := "<init>", desc := "(Ljava/lang/StringBuilder;)V", sig := { parameters := [(.object "java/lang/StringBuilder")], returnType := none }, accessFlags := 1, code := some k11c1 }
def k11c2 : Code := { maxStack := 2, maxLocals := 1, code := jdk_42_method_54_code, exceptionTable := #[], attributes := #[] }
def k11m2 : Method := { name := "length", desc := "()I", sig := { parameters := [], returnType := some .int }, accessFlags := 1, code := some k11c2 }
def k11c3 : Code := { maxStack := 2, maxLocals := 2, code := jdk_42_method_56_code, exceptionTable := #[], attributes := #[] }
def k11m3 : Method := { name := "charAt", desc := "(I)C", sig := { parameters := [.int], returnType := some .char }, accessFlags := 1, code := some k11c3 }
def k11c4 : Code := { maxStack := 5, maxLocals := 4, code := jdk_42_method_147_code, exceptionTable := #[], attributes := #[] }
def k11m4 : Method := { name := "getBytes", desc := "([BIB)V", sig := { parameters := [(.array .byte), .int, .byte], returnType := none }, accessFlags := 0, code := some k11c4 }
def k11c5 : Code := { maxStack := 5, maxLocals := 5, code := jdk_42_method_150_code, exceptionTable := #[], attributes := #[] }
def k11m5 : Method := { name := "<init>", desc := "(Ljava/lang/AbstractStringBuilder;Ljava/lang/Void;)V", sig := { parameters := [(.object "java/lang/AbstractStringBuilder"), (.object "java/lang/Void")], returnType := none }, accessFlags := 0, code := some k11c5 }
def k11c6 : Code := { maxStack := 1, maxLocals := 1, code := jdk_42_method_152_code, exceptionTable := #[], attributes := #[] }
def k11m6 : Method := { name := "coder", desc := "()B", sig := { parameters := [], returnType := some .byte }, accessFlags := 0, code := some k11c6 }
def k11c7 : Code := { maxStack := 1, maxLocals := 1, code := jdk_42_method_154_code, exceptionTable := #[], attributes := #[] }
def k11m7 : Method := { name := "isLatin1", desc := "()Z", sig := { parameters := [], returnType := some .boolean }, accessFlags := 0, code := some k11c7 }
def k11c8 : Code := { maxStack := 3, maxLocals := 2, code := jdk_42_method_155_code, exceptionTable := #[], attributes := #[] }
def k11m8 : Method := { name := "checkIndex", desc := "(II)V", sig := { parameters := [.int, .int], returnType := none }, accessFlags := 8, code := some k11c8 }
/-- java/lang/String -/
def k11 : Class := { plain "java/lang/String" (some 0) with
  accessFlags := 49
  interfaces := #[6, 7, 4, 9, 10]
  cf := some (fileOf pool11 10 #[.nestMembers #[1103]] #[{ accessFlags := 1, nameIndex := 5, descriptorIndex := 6, attributes := #[] }, { accessFlags := 1, nameIndex := 5, descriptorIndex := 1233, attributes := #[] }, { accessFlags := 1, nameIndex := 507, descriptorIndex := 334, attributes := #[] }, { accessFlags := 1, nameIndex := 497, descriptorIndex := 427, attributes := #[] }, { accessFlags := 0, nameIndex := 532, descriptorIndex := 821, attributes := #[] }, { accessFlags := 0, nameIndex := 5, descriptorIndex := 491, attributes := #[] }, { accessFlags := 0, nameIndex := 17, descriptorIndex := 337, attributes := #[] }, { accessFlags := 0, nameIndex := 494, descriptorIndex := 142, attributes := #[] }, { accessFlags := 8, nameIndex := 501, descriptorIndex := 391, attributes := #[] }] 49 2 #[1106, 1108, 575, 1110, 1112] #[{ accessFlags := 18, nameIndex := 13, descriptorIndex := 14, attributes := #[] }, { accessFlags := 18, nameIndex := 17, descriptorIndex := 18, attributes := #[] }, { accessFlags := 2, nameIndex := 21, descriptorIndex := 22, attributes := #[] }, { accessFlags := 2, nameIndex := 25, descriptorIndex := 26, attributes := #[] }, { accessFlags := 26, nameIndex := 1116, descriptorIndex := 1117, attributes := #[] }, { accessFlags := 24, nameIndex := 40, descriptorIndex := 26, attributes := #[] }, { accessFlags := 26, nameIndex := 1101, descriptorIndex := 1102, attributes := #[] }, { accessFlags := 26, nameIndex := 1121, descriptorIndex := 1122, attributes := #[] }, { accessFlags := 25, nameIndex := 599, descriptorIndex := 600, attributes := #[] }, { accessFlags := 24, nameIndex := 1125, descriptorIndex := 18, attributes := #[] }, { accessFlags := 24, nameIndex := 1127, descriptorIndex := 18, attributes := #[] }])
  fields := #[{ name := "value", type := (.array .byte), accessFlags := 18, slot := 0, constantValue := 0 }, { name := "coder", type := .byte, accessFlags := 18, slot := 1, constantValue := 0 }, { name := "hash", type := .int, accessFlags := 2, slot := 2, constantValue := 0 }, { name := "hashIsZero", type := .boolean, accessFlags := 2, slot := 3, constantValue := 0 }, { name := "serialVersionUID", type := .long, accessFlags := 26, slot := 0, constantValue := 0 }, { name := "COMPACT_STRINGS", type := .boolean, accessFlags := 24, slot := 1, constantValue := 0 }, { name := "serialPersistentFields", type := (.array (.object "java/io/ObjectStreamField")), accessFlags := 26, slot := 2, constantValue := 0 }, { name := "REPL", type := .char, accessFlags := 26, slot := 3, constantValue := 0 }, { name := "CASE_INSENSITIVE_ORDER", type := (.object "java/util/Comparator"), accessFlags := 25, slot := 4, constantValue := 0 }, { name := "LATIN1", type := .byte, accessFlags := 24, slot := 5, constantValue := 0 }, { name := "UTF16", type := .byte, accessFlags := 24, slot := 6, constantValue := 0 }]
  methods := #[k11m0, k11m1, k11m2, k11m3, k11m4, k11m5, k11m6, k11m7, k11m8]
  instanceTypes := #[(.array .byte), .byte, .int, .boolean]
  staticTypes := #[.long, .boolean, (.array (.object "java/io/ObjectStreamField")), .char, (.object "java/util/Comparator"), .byte, .byte]
  resolved := Array.replicate 1451 none
  statics := some 0 }

def pool12 : Array CpInfo := pool [(9, u "<init>"), (6, .class_ 18), (1, u "java/lang/Object"), (0, u "()V"), (1, .class_ 23), (1, u "jdk/internal/util/ArraysSupport"), (0, u "LOG2_ARRAY_LONG_INDEX_SCALE"), (0, u "I"), (2, u "U"), (0, u "Ljdk/internal/misc/Unsafe;"), (8, u "BIG_ENDIAN"), (0, u "Z"), (8, u "LOG2_BYTE_BIT_SIZE"), (4, u "LOG2_ARRAY_INT_INDEX_SCALE"), (54, u "JLA"), (0, u "Ljdk/internal/access/JavaLangAccess;"), (11, u "LOG2_ARRAY_BOOLEAN_INDEX_SCALE"), (9, u "LOG2_ARRAY_BYTE_INDEX_SCALE"), (5, u "LOG2_ARRAY_CHAR_INDEX_SCALE"), (5, u "LOG2_ARRAY_SHORT_INDEX_SCALE"), (18, u "LOG2_ARRAY_FLOAT_INDEX_SCALE"), (24, u "LOG2_ARRAY_DOUBLE_INDEX_SCALE"), (6, .methodref 195 196), (0, .class_ 197), (0, .nameAndType 198 199), (0, u "java/lang/Math"), (0, u "max"), (0, u "(II)I"), (0, .integer 2147483639), (76, u "T_BOOLEAN"), (2, u "T_CHAR"), (1, u "T_FLOAT"), (1, u "T_DOUBLE"), (1, u "T_BYTE"), (1, u "T_SHORT"), (1, u "T_INT"), (1, u "T_LONG"), (1, u "SOFT_MAX_ARRAY_LENGTH"), (56, u "newLength"), (0, u "(III)I")] 25

def k12m0 : Method := { name := "<init>", desc := "()V", sig := { parameters := [], returnType := none }, accessFlags := 2, code := none }
def k12c1 : Code := { maxStack := 3, maxLocals := 4, code := jdk_48_method_27_code, exceptionTable := #[], attributes := #[] }
def k12m1 : Method := { name := "newLength", desc := "(III)I", sig := { parameters := [.int, .int, .int], returnType := some .int }, accessFlags := 9, code := some k12c1 }
/-- jdk/internal/util/ArraysSupport -/
def k12 : Class := { plain "jdk/internal/util/ArraysSupport" (some 0) with
  accessFlags := 33
  interfaces := #[]
  cf := some (fileOf pool12 21 #[] #[{ accessFlags := 2, nameIndex := 9, descriptorIndex := 19, attributes := #[] }, { accessFlags := 9, nameIndex := 351, descriptorIndex := 352, attributes := #[] }] 33 16 #[] #[{ accessFlags := 24, nameIndex := 28, descriptorIndex := 29, attributes := #[] }, { accessFlags := 26, nameIndex := 38, descriptorIndex := 39, attributes := #[] }, { accessFlags := 25, nameIndex := 121, descriptorIndex := 25, attributes := #[] }, { accessFlags := 25, nameIndex := 131, descriptorIndex := 25, attributes := #[] }, { accessFlags := 25, nameIndex := 137, descriptorIndex := 25, attributes := #[] }, { accessFlags := 25, nameIndex := 143, descriptorIndex := 25, attributes := #[] }, { accessFlags := 25, nameIndex := 53, descriptorIndex := 25, attributes := #[] }, { accessFlags := 25, nameIndex := 24, descriptorIndex := 25, attributes := #[] }, { accessFlags := 25, nameIndex := 162, descriptorIndex := 25, attributes := #[] }, { accessFlags := 25, nameIndex := 187, descriptorIndex := 25, attributes := #[] }, { accessFlags := 26, nameIndex := 48, descriptorIndex := 25, attributes := #[] }, { accessFlags := 25, nameIndex := 277, descriptorIndex := 25, attributes := #[] }, { accessFlags := 25, nameIndex := 280, descriptorIndex := 25, attributes := #[] }, { accessFlags := 25, nameIndex := 282, descriptorIndex := 25, attributes := #[] }, { accessFlags := 25, nameIndex := 284, descriptorIndex := 25, attributes := #[] }, { accessFlags := 25, nameIndex := 286, descriptorIndex := 25, attributes := #[] }, { accessFlags := 25, nameIndex := 288, descriptorIndex := 25, attributes := #[] }, { accessFlags := 25, nameIndex := 290, descriptorIndex := 25, attributes := #[] }, { accessFlags := 25, nameIndex := 292, descriptorIndex := 25, attributes := #[] }, { accessFlags := 26, nameIndex := 108, descriptorIndex := 109, attributes := #[] }, { accessFlags := 25, nameIndex := 294, descriptorIndex := 25, attributes := #[] }])
  fields := #[{ name := "U", type := (.object "jdk/internal/misc/Unsafe"), accessFlags := 24, slot := 0, constantValue := 0 }, { name := "BIG_ENDIAN", type := .boolean, accessFlags := 26, slot := 1, constantValue := 0 }, { name := "LOG2_ARRAY_BOOLEAN_INDEX_SCALE", type := .int, accessFlags := 25, slot := 2, constantValue := 0 }, { name := "LOG2_ARRAY_BYTE_INDEX_SCALE", type := .int, accessFlags := 25, slot := 3, constantValue := 0 }, { name := "LOG2_ARRAY_CHAR_INDEX_SCALE", type := .int, accessFlags := 25, slot := 4, constantValue := 0 }, { name := "LOG2_ARRAY_SHORT_INDEX_SCALE", type := .int, accessFlags := 25, slot := 5, constantValue := 0 }, { name := "LOG2_ARRAY_INT_INDEX_SCALE", type := .int, accessFlags := 25, slot := 6, constantValue := 0 }, { name := "LOG2_ARRAY_LONG_INDEX_SCALE", type := .int, accessFlags := 25, slot := 7, constantValue := 0 }, { name := "LOG2_ARRAY_FLOAT_INDEX_SCALE", type := .int, accessFlags := 25, slot := 8, constantValue := 0 }, { name := "LOG2_ARRAY_DOUBLE_INDEX_SCALE", type := .int, accessFlags := 25, slot := 9, constantValue := 0 }, { name := "LOG2_BYTE_BIT_SIZE", type := .int, accessFlags := 26, slot := 10, constantValue := 0 }, { name := "T_BOOLEAN", type := .int, accessFlags := 25, slot := 11, constantValue := 0 }, { name := "T_CHAR", type := .int, accessFlags := 25, slot := 12, constantValue := 0 }, { name := "T_FLOAT", type := .int, accessFlags := 25, slot := 13, constantValue := 0 }, { name := "T_DOUBLE", type := .int, accessFlags := 25, slot := 14, constantValue := 0 }, { name := "T_BYTE", type := .int, accessFlags := 25, slot := 15, constantValue := 0 }, { name := "T_SHORT", type := .int, accessFlags := 25, slot := 16, constantValue := 0 }, { name := "T_INT", type := .int, accessFlags := 25, slot := 17, constantValue := 0 }, { name := "T_LONG", type := .int, accessFlags := 25, slot := 18, constantValue := 0 }, { name := "JLA", type := (.object "jdk/internal/access/JavaLangAccess"), accessFlags := 26, slot := 19, constantValue := 0 }, { name := "SOFT_MAX_ARRAY_LENGTH", type := .int, accessFlags := 25, slot := 20, constantValue := 0 }]
  methods := #[k12m0, k12m1]
  instanceTypes := #[]
  staticTypes := #[(.object "jdk/internal/misc/Unsafe"), .boolean, .int, .int, .int, .int, .int, .int, .int, .int, .int, .int, .int, .int, .int, .int, .int, .int, .int, (.object "jdk/internal/access/JavaLangAccess"), .int]
  resolved := Array.replicate 378 none
  statics := none }

def pool13 : Array CpInfo := pool [(1, .class_ 2), (0, u "java/lang/Math"), (1, .class_ 6), (1, u "java/lang/Object"), (0, u "<init>"), (0, u "()V"), (89, .class_ 100), (1, u "java/lang/Math$RandomNumberGeneratorHolder"), (71, u "negativeZeroFloatBits"), (0, u "J"), (2, u "negativeZeroDoubleBits"), (21, u "max"), (2, u "min"), (43, u "$assertionsDisabled"), (0, u "Z"), (88, u "(II)I"), (2, u "twoToTheDoubleScaleDown"), (0, u "D"), (4, u "twoToTheDoubleScaleUp"), (9, u "E"), (3, u "PI"), (2, u "TAU"), (2, u "DEGREES_TO_RADIANS"), (0, u "RADIANS_TO_DEGREES")] 94

def k13m0 : Method := { name := "<init>", desc := "()V", sig := { parameters := [], returnType := none }, accessFlags := 2, code := none }
def k13c1 : Code := { maxStack := 2, maxLocals := 2, code := jdk_29_method_65_code, exceptionTable := #[], attributes := #[] }
def k13m1 : Method := { name := "max", desc := "(II)I", sig := { parameters := [.int, .int], returnType := some .int }, accessFlags := 9, code := some k13c1 }
def k13c2 : Code := { maxStack := 2, maxLocals := 2, code := jdk_29_method_69_code, exceptionTable := #[], attributes := #[] }
def k13m2 : Method := { name := "min", desc := "(II)I", sig := { parameters := [.int, .int], returnType := some .int }, accessFlags := 9, code := some k13c2 }
/-- java/lang/Math -/
def k13 : Class := { plain "java/lang/Math" (some 0) with
  accessFlags := 49
  interfaces := #[]
  cf := some (fileOf pool13 1 #[.nestMembers #[98]] #[{ accessFlags := 2, nameIndex := 7, descriptorIndex := 8, attributes := #[] }, { accessFlags := 9, nameIndex := 198, descriptorIndex := 335, attributes := #[] }, { accessFlags := 9, nameIndex := 201, descriptorIndex := 335, attributes := #[] }] 49 4 #[] #[{ accessFlags := 25, nameIndex := 354, descriptorIndex := 339, attributes := #[] }, { accessFlags := 25, nameIndex := 358, descriptorIndex := 339, attributes := #[] }, { accessFlags := 25, nameIndex := 361, descriptorIndex := 339, attributes := #[] }, { accessFlags := 26, nameIndex := 364, descriptorIndex := 339, attributes := #[] }, { accessFlags := 26, nameIndex := 365, descriptorIndex := 339, attributes := #[] }, { accessFlags := 26, nameIndex := 172, descriptorIndex := 173, attributes := #[] }, { accessFlags := 26, nameIndex := 176, descriptorIndex := 173, attributes := #[] }, { accessFlags := 8, nameIndex := 344, descriptorIndex := 339, attributes := #[] }, { accessFlags := 8, nameIndex := 338, descriptorIndex := 339, attributes := #[] }, { accessFlags := 4120, nameIndex := 245, descriptorIndex := 246, attributes := #[] }])
  fields := #[{ name := "E", type := .double, accessFlags := 25, slot := 0, constantValue := 0 }, { name := "PI", type := .double, accessFlags := 25, slot := 1, constantValue := 0 }, { name := "TAU", type := .double, accessFlags := 25, slot := 2, constantValue := 0 }, { name := "DEGREES_TO_RADIANS", type := .double, accessFlags := 26, slot := 3, constantValue := 0 }, { name := "RADIANS_TO_DEGREES", type := .double, accessFlags := 26, slot := 4, constantValue := 0 }, { name := "negativeZeroFloatBits", type := .long, accessFlags := 26, slot := 5, constantValue := 0 }, { name := "negativeZeroDoubleBits", type := .long, accessFlags := 26, slot := 6, constantValue := 0 }, { name := "twoToTheDoubleScaleUp", type := .double, accessFlags := 8, slot := 7, constantValue := 0 }, { name := "twoToTheDoubleScaleDown", type := .double, accessFlags := 8, slot := 8, constantValue := 0 }, { name := "$assertionsDisabled", type := .boolean, accessFlags := 4120, slot := 9, constantValue := 0 }]
  methods := #[k13m0, k13m1, k13m2]
  instanceTypes := #[]
  staticTypes := #[.double, .double, .double, .double, .double, .long, .long, .double, .double, .boolean]
  resolved := Array.replicate 460 none
  statics := none }

def pool14 : Array CpInfo := pool [(2, .class_ 4), (1, u "java/lang/Object"), (0, u "<init>"), (0, u "()V"), (7, .class_ 16), (1, u "java/util/Arrays"), (57, .class_ 76), (1, u "java/util/Arrays$NaturalOrder"), (36, .class_ 115), (1, u "java/util/Arrays$LegacyMergeSort"), (1, u "Z"), (21, u "copyOfRange"), (10, .methodref 151 152), (0, .class_ 153), (0, .nameAndType 154 155), (0, u "java/lang/System"), (0, u "arraycopy"), (0, u "(Ljava/lang/Object;ILjava/lang/Object;II)V"), (146, u "copyOf"), (1, .methodref 305 306), (0, .class_ 307), (0, .nameAndType 308 309), (0, u "java/lang/Math"), (0, u "min"), (0, u "(II)I"), (29, .methodref 14 340), (0, .nameAndType 341 342), (0, u "copyOfRangeByte"), (0, u "([BII)[B"), (0, .methodref 14 344), (0, .nameAndType 345 346), (0, u "checkLength"), (0, u "(II)V"), (28, .class_ 376), (0, u "java/util/Arrays$ArrayList"), (68, u "$assertionsDisabled"), (269, u "MIN_ARRAY_SORT_GRAN"), (0, u "I"), (2, u "INSERTIONSORT_THRESHOLD"), (149, u "([BI)[B"), (105, .class_ 976), (0, u "java/util/Arrays$ArrayItr")] 52

def k14m0 : Method := { name := "<init>", desc := "()V", sig := { parameters := [], returnType := none }, accessFlags := 2, code := none }
def k14c1 : Code := { maxStack := 6, maxLocals := 3, code := jdk_65_method_121_code, exceptionTable := #[], attributes := #[] }
def k14m1 : Method := { name := "copyOf", desc := "([BI)[B", sig := { parameters := [(.array .byte), .int], returnType := some (.array .byte) }, accessFlags := 9, code := some k14c1 }
def k14c2 : Code := { maxStack := 4, maxLocals := 2, code := jdk_65_method_131_code, exceptionTable := #[], attributes := #[] }
def k14m2 : Method := { name := "checkLength", desc := "(II)V", sig := { parameters := [.int, .int], returnType := none }, accessFlags := 10, code := some k14c2 }
def k14c3 : Code := { maxStack := 3, maxLocals := 3, code := jdk_65_method_132_code, exceptionTable := #[], attributes := #[] }
def k14m3 : Method := { name := "copyOfRange", desc := "([BII)[B", sig := { parameters := [(.array .byte), .int, .int], returnType := some (.array .byte) }, accessFlags := 9, code := some k14c3 }
def k14c4 : Code := { maxStack := 6, maxLocals := 5, code := jdk_65_method_133_code, exceptionTable := #[], attributes := #[] }
def k14m4 : Method := { name := "copyOfRangeByte", desc := "([BII)[B", sig := { parameters := [(.array .byte), .int, .int], returnType := some (.array .byte) }, accessFlags := 10, code := some k14c4 }
/-- java/util/Arrays -/
def k14 : Class := { plain "java/util/Arrays" (some 0) with
  accessFlags := 49
  interfaces := #[]
  cf := some (fileOf pool14 14 #[.nestMembers #[975, 375, 113, 74]] #[{ accessFlags := 2, nameIndex := 5, descriptorIndex := 6, attributes := #[] }, { accessFlags := 9, nameIndex := 302, descriptorIndex := 869, attributes := #[] }, { accessFlags := 10, nameIndex := 345, descriptorIndex := 346, attributes := #[] }, { accessFlags := 9, nameIndex := 139, descriptorIndex := 342, attributes := #[] }, { accessFlags := 10, nameIndex := 341, descriptorIndex := 342, attributes := #[] }] 49 2 #[] #[{ accessFlags := 26, nameIndex := 715, descriptorIndex := 716, attributes := #[] }, { accessFlags := 26, nameIndex := 719, descriptorIndex := 716, attributes := #[] }, { accessFlags := 4120, nameIndex := 445, descriptorIndex := 117, attributes := #[] }])
  fields := #[{ name := "MIN_ARRAY_SORT_GRAN", type := .int, accessFlags := 26, slot := 0, constantValue := 0 }, { name := "INSERTIONSORT_THRESHOLD", type := .int, accessFlags := 26, slot := 1, constantValue := 0 }, { name := "$assertionsDisabled", type := .boolean, accessFlags := 4120, slot := 2, constantValue := 0 }]
  methods := #[k14m0, k14m1, k14m2, k14m3, k14m4]
  instanceTypes := #[]
  staticTypes := #[.int, .int, .boolean]
  resolved := Array.replicate 1029 none
  statics := none }

def pool15 : Array CpInfo := pool [(2, .class_ 4), (1, u "java/lang/Object"), (0, u "<init>"), (0, u "()V"), (1, .class_ 10), (1, u "java/lang/System"), (0, u "allowSecurityManager"), (0, u "I"), (16, u "cons"), (0, u "Ljava/io/Console;"), (77, .class_ 110), (1, u "java/lang/System$CallersHolder"), (43, u "initialErrStream"), (0, u "Ljava/io/PrintStream;"), (19, u "security"), (0, u "Ljava/lang/SecurityManager;"), (31, .class_ 209), (0, u "java/lang/System$1"), (7, u "props"), (0, u "Ljava/util/Properties;"), (2, u "lineSeparator"), (0, u "Ljava/lang/String;"), (96, .class_ 321), (1, u "java/lang/System$LoggerFinder"), (5, .class_ 328), (0, u "java/lang/System$Logger"), (67, u "err"), (2, u "out"), (91, u "notSupportedJnuEncoding"), (15, u "in"), (17, u "initialIn"), (0, u "Ljava/io/InputStream;"), (35, u "bootLayer"), (0, u "Ljava/lang/ModuleLayer;"), (99, .class_ 664), (0, u "java/lang/System$2"), (9, u "NEVER"), (2, u "MAYBE"), (49, u "arraycopy"), (0, u "(Ljava/lang/Object;ILjava/lang/Object;II)V"), (72, .class_ 802), (0, u "java/lang/System$Logger$Level")] 31

def k15m0 : Method := { name := "<init>", desc := "()V", sig := { parameters := [], returnType := none }, accessFlags := 2, code := none }
def k15m1 : Method := { name := "arraycopy", desc := "(Ljava/lang/Object;ILjava/lang/Object;II)V", sig := { parameters := [(.object "java/lang/Object"), .int, (.object "java/lang/Object"), .int, .int], returnType := none }, accessFlags := 265, code := none }
/-- java/lang/System -/
def k15 : Class := { plain "java/lang/System" (some 0) with
  accessFlags := 49
  interfaces := #[]
  cf := some (fileOf pool15 8 #[.nestMembers #[319, 327, 801, 108, 663, 208]] #[{ accessFlags := 2, nameIndex := 5, descriptorIndex := 6, attributes := #[] }, { accessFlags := 265, nameIndex := 727, descriptorIndex := 728, attributes := #[] }] 49 2 #[] #[{ accessFlags := 25, nameIndex := 507, descriptorIndex := 526, attributes := #[] }, { accessFlags := 25, nameIndex := 399, descriptorIndex := 155, attributes := #[] }, { accessFlags := 25, nameIndex := 396, descriptorIndex := 155, attributes := #[] }, { accessFlags := 10, nameIndex := 525, descriptorIndex := 526, attributes := #[] }, { accessFlags := 26, nameIndex := 674, descriptorIndex := 12, attributes := #[] }, { accessFlags := 26, nameIndex := 677, descriptorIndex := 12, attributes := #[] }, { accessFlags := 10, nameIndex := 11, descriptorIndex := 12, attributes := #[] }, { accessFlags := 74, nameIndex := 175, descriptorIndex := 176, attributes := #[] }, { accessFlags := 10, nameIndex := 491, descriptorIndex := 222, attributes := #[] }, { accessFlags := 74, nameIndex := 29, descriptorIndex := 30, attributes := #[] }, { accessFlags := 74, nameIndex := 154, descriptorIndex := 155, attributes := #[] }, { accessFlags := 10, nameIndex := 217, descriptorIndex := 218, attributes := #[] }, { accessFlags := 10, nameIndex := 221, descriptorIndex := 222, attributes := #[] }, { accessFlags := 8, nameIndex := 562, descriptorIndex := 563, attributes := #[] }])
  fields := #[{ name := "in", type := (.object "java/io/InputStream"), accessFlags := 25, slot := 0, constantValue := 0 }, { name := "out", type := (.object "java/io/PrintStream"), accessFlags := 25, slot := 1, constantValue := 0 }, { name := "err", type := (.object "java/io/PrintStream"), accessFlags := 25, slot := 2, constantValue := 0 }, { name := "initialIn", type := (.object "java/io/InputStream"), accessFlags := 10, slot := 3, constantValue := 0 }, { name := "NEVER", type := .int, accessFlags := 26, slot := 4, constantValue := 0 }, { name := "MAYBE", type := .int, accessFlags := 26, slot := 5, constantValue := 0 }, { name := "allowSecurityManager", type := .int, accessFlags := 10, slot := 6, constantValue := 0 }, { name := "security", type := (.object "java/lang/SecurityManager"), accessFlags := 74, slot := 7, constantValue := 0 }, { name := "notSupportedJnuEncoding", type := (.object "java/lang/String"), accessFlags := 10, slot := 8, constantValue := 0 }, { name := "cons", type := (.object "java/io/Console"), accessFlags := 74, slot := 9, constantValue := 0 }, { name := "initialErrStream", type := (.object "java/io/PrintStream"), accessFlags := 74, slot := 10, constantValue := 0 }, { name := "props", type := (.object "java/util/Properties"), accessFlags := 10, slot := 11, constantValue := 0 }, { name := "lineSeparator", type := (.object "java/lang/String"), accessFlags := 10, slot := 12, constantValue := 0 }, { name := "bootLayer", type := (.object "java/lang/ModuleLayer"), accessFlags := 8, slot := 13, constantValue := 0 }]
  methods := #[k15m0, k15m1]
  instanceTypes := #[]
  staticTypes := #[(.object "java/io/InputStream"), (.object "java/io/PrintStream"), (.object "java/io/PrintStream"), (.object "java/io/InputStream"), .int, .int, .int, (.object "java/lang/SecurityManager"), (.object "java/lang/String"), (.object "java/io/Console"), (.object "java/io/PrintStream"), (.object "java/util/Properties"), (.object "java/lang/String"), (.object "java/lang/ModuleLayer")]
  resolved := Array.replicate 834 none
  statics := none }

def pool16 : Array CpInfo := pool [(2, .class_ 4), (1, u "java/lang/Object"), (0, u "<init>"), (0, u "()V"), (1, .class_ 10), (1, u "java/lang/Number"), (2, .class_ 14), (0, u "java/io/Serializable"), (0, u "serialVersionUID"), (0, u "J")] 20

def k16m0 : Method := { name := "<init>", desc := "()V", sig := { parameters := [], returnType := none }, accessFlags := 1, code := none }
/-- java/lang/Number -/
def k16 : Class := { plain "java/lang/Number" (some 0) with
  accessFlags := 1057
  interfaces := #[6]
  cf := some (fileOf pool16 8 #[] #[{ accessFlags := 1, nameIndex := 5, descriptorIndex := 6, attributes := #[] }] 1057 2 #[13] #[{ accessFlags := 26, nameIndex := 15, descriptorIndex := 16, attributes := #[] }])
  fields := #[{ name := "serialVersionUID", type := .long, accessFlags := 26, slot := 0, constantValue := 0 }]
  methods := #[k16m0]
  instanceTypes := #[]
  staticTypes := #[.long]
  resolved := Array.replicate 37 none
  statics := none }

def pool17 : Array CpInfo := pool [(1, .class_ 2), (0, u "java/lang/Integer"), (16, u "digits"), (0, u "[C"), (33, u "(I)I"), (19, u "stringSize"), (2, u "getChars"), (0, u "(II[B)I"), (4, .fieldref 1 84), (0, .nameAndType 85 86), (0, u "DigitOnes"), (0, u "[B"), (0, .fieldref 1 88), (0, .nameAndType 89 86), (0, u "DigitTens"), (99, .class_ 190), (0, u "java/lang/Integer$IntegerCache"), (3, u "I"), (8, .class_ 204), (0, u "java/lang/Number"), (2, u "value"), (94, u "TYPE"), (0, u "Ljava/lang/Class;"), (0, .class_ 305), (0, u "java/lang/Comparable"), (0, .class_ 307), (0, u "java/lang/constant/Constable"), (0, .class_ 309), (0, u "java/lang/constant/ConstantDesc"), (0, u "MIN_VALUE"), (1, u "MAX_VALUE"), (3, u "SIZE"), (1, u "BYTES"), (1, u "serialVersionUID"), (0, u "J")] 131

def k17c0 : Code := { maxStack := 4, maxLocals := 7, code := jdk_33_method_12_code, exceptionTable := #[], attributes := #[] }
def k17m0 : Method := { name := "getChars", desc := "(II[B)I", sig := { parameters := [.int, .int, (.array .byte)], returnType := some .int }, accessFlags := 8, code := some k17c0 }
def k17c1 : Code := { maxStack := 2, maxLocals := 4, code := jdk_33_method_13_code, exceptionTable := #[], attributes := #[] }
def k17m1 : Method := { name := "stringSize", desc := "(I)I", sig := { parameters := [.int], returnType := some .int }, accessFlags := 8, code := some k17c1 }
/-- java/lang/Integer -/
def k17 : Class := { plain "java/lang/Integer" (some 16) with
  accessFlags := 49
  interfaces := #[7, 9, 10]
  cf := some (fileOf pool17 1 #[.nestMembers #[189]] #[{ accessFlags := 8, nameIndex := 77, descriptorIndex := 78, attributes := #[] }, { accessFlags := 8, nameIndex := 74, descriptorIndex := 54, attributes := #[] }] 49 203 #[304, 306, 308] #[{ accessFlags := 25, nameIndex := 310, descriptorIndex := 194, attributes := #[] }, { accessFlags := 25, nameIndex := 312, descriptorIndex := 194, attributes := #[] }, { accessFlags := 25, nameIndex := 302, descriptorIndex := 303, attributes := #[] }, { accessFlags := 24, nameIndex := 19, descriptorIndex := 20, attributes := #[] }, { accessFlags := 24, nameIndex := 89, descriptorIndex := 86, attributes := #[] }, { accessFlags := 24, nameIndex := 85, descriptorIndex := 86, attributes := #[] }, { accessFlags := 18, nameIndex := 207, descriptorIndex := 194, attributes := #[] }, { accessFlags := 25, nameIndex := 316, descriptorIndex := 194, attributes := #[] }, { accessFlags := 25, nameIndex := 318, descriptorIndex := 194, attributes := #[] }, { accessFlags := 26, nameIndex := 320, descriptorIndex := 321, attributes := #[] }])
  fields := #[{ name := "MIN_VALUE", type := .int, accessFlags := 25, slot := 0, constantValue := 0 }, { name := "MAX_VALUE", type := .int, accessFlags := 25, slot := 1, constantValue := 0 }, { name := "TYPE", type := (.object "java/lang/Class"), accessFlags := 25, slot := 2, constantValue := 0 }, { name := "digits", type := (.array .char), accessFlags := 24, slot := 3, constantValue := 0 }, { name := "DigitTens", type := (.array .byte), accessFlags := 24, slot := 4, constantValue := 0 }, { name := "DigitOnes", type := (.array .byte), accessFlags := 24, slot := 5, constantValue := 0 }, { name := "value", type := .int, accessFlags := 18, slot := 0, constantValue := 0 }, { name := "SIZE", type := .int, accessFlags := 25, slot := 6, constantValue := 0 }, { name := "BYTES", type := .int, accessFlags := 25, slot := 7, constantValue := 0 }, { name := "serialVersionUID", type := .long, accessFlags := 26, slot := 8, constantValue := 0 }]
  methods := #[k17m0, k17m1]
  instanceTypes := #[.int]
  staticTypes := #[.int, .int, (.object "java/lang/Class"), (.array .char), (.array .byte), (.array .byte), .int, .int, .long]
  resolved := Array.replicate 453 none
  statics := some 1 }

def pool18 : Array CpInfo := pool [(1, .class_ 2), (0, u "java/lang/String"), (1, .class_ 6), (1, u "java/lang/Object"), (0, u "<init>"), (0, u "()V"), (0, .methodref 1 10), (0, .nameAndType 11 12), (0, u "checkIndex"), (0, u "(II)V"), (1, .class_ 16), (1, u "java/lang/StringLatin1"), (36, u "([BI)C"), (67, u "$assertionsDisabled"), (0, u "Z"), (98, .class_ 223), (1, u "java/lang/StringLatin1$LinesSpliterator"), (28, u "charAt"), (137, .class_ 391), (0, u "java/lang/StringLatin1$CharsSpliterator")] 3

def k18m0 : Method := { name := "<init>", desc := "()V", sig := { parameters := [], returnType := none }, accessFlags := 0, code := none }
def k18c1 : Code := { maxStack := 2, maxLocals := 2, code := jdk_43_method_2_code, exceptionTable := #[], attributes := #[] }
def k18m1 : Method := { name := "charAt", desc := "([BI)C", sig := { parameters := [(.array .byte), .int], returnType := some .char }, accessFlags := 9, code := some k18c1 }
/-- java/lang/StringLatin1 -/
def k18 : Class := { plain "java/lang/StringLatin1" (some 0) with
  accessFlags := 48
  interfaces := #[]
  cf := some (fileOf pool18 14 #[.nestMembers #[390, 221]] #[{ accessFlags := 0, nameIndex := 7, descriptorIndex := 8, attributes := #[] }, { accessFlags := 9, nameIndex := 252, descriptorIndex := 53, attributes := #[] }] 48 4 #[] #[{ accessFlags := 4120, nameIndex := 121, descriptorIndex := 122, attributes := #[] }])
  fields := #[{ name := "$assertionsDisabled", type := .boolean, accessFlags := 4120, slot := 0, constantValue := 0 }]
  methods := #[k18m0, k18m1]
  instanceTypes := #[]
  staticTypes := #[.boolean]
  resolved := Array.replicate 395 none
  statics := none }

def pool19 : Array CpInfo := pool [(2, .class_ 4), (1, u "java/lang/Object"), (0, u "<init>"), (0, u "()V"), (17, .class_ 26), (1, u "jdk/internal/util/Preconditions"), (6, u "checkIndex"), (21, .class_ 56), (0, u "jdk/internal/util/Preconditions$4"), (57, .class_ 115), (0, u "jdk/internal/util/Preconditions$1"), (7, u "SIOOBE_FORMATTER"), (0, u "Ljava/util/function/BiFunction;"), (0, .class_ 126), (0, u "jdk/internal/util/Preconditions$2"), (3, u "AIOOBE_FORMATTER"), (0, .class_ 132), (0, u "jdk/internal/util/Preconditions$3"), (3, u "IOOBE_FORMATTER"), (41, u "(IILjava/util/function/BiFunction;)I")] 15

def k19m0 : Method := { name := "<init>", desc := "()V", sig := { parameters := [], returnType := none }, accessFlags := 1, code := none }
def k19c1 : Code := { maxStack := 3, maxLocals := 3, code := jdk_41_method_11_code, exceptionTable := #[], attributes := #[] }
def k19m1 : Method := { name := "checkIndex", desc := "(IILjava/util/function/BiFunction;)I", sig := { parameters := [.int, .int, (.object "java/util/function/BiFunction")], returnType := some .int }, accessFlags := 9, code := some k19c1 }
/-- jdk/internal/util/Preconditions -/
def k19 : Class := { plain "jdk/internal/util/Preconditions" (some 0) with
  accessFlags := 33
  interfaces := #[]
  cf := some (fileOf pool19 24 #[.nestMembers #[55, 131, 125, 114]] #[{ accessFlags := 1, nameIndex := 5, descriptorIndex := 6, attributes := #[] }, { accessFlags := 9, nameIndex := 33, descriptorIndex := 178, attributes := #[] }] 33 2 #[] #[{ accessFlags := 25, nameIndex := 123, descriptorIndex := 124, attributes := #[] }, { accessFlags := 25, nameIndex := 130, descriptorIndex := 124, attributes := #[] }, { accessFlags := 25, nameIndex := 136, descriptorIndex := 124, attributes := #[] }])
  fields := #[{ name := "SIOOBE_FORMATTER", type := (.object "java/util/function/BiFunction"), accessFlags := 25, slot := 0, constantValue := 0 }, { name := "AIOOBE_FORMATTER", type := (.object "java/util/function/BiFunction"), accessFlags := 25, slot := 1, constantValue := 0 }, { name := "IOOBE_FORMATTER", type := (.object "java/util/function/BiFunction"), accessFlags := 25, slot := 2, constantValue := 0 }]
  methods := #[k19m0, k19m1]
  instanceTypes := #[]
  staticTypes := #[(.object "java/util/function/BiFunction"), (.object "java/util/function/BiFunction"), (.object "java/util/function/BiFunction")]
  resolved := Array.replicate 194 none
  statics := some 2 }

def pool20 : Array CpInfo := pool [(1, u "java/lang/Cloneable"), (0, .class_ 1), (0, u "java/lang/Object"), (0, .class_ 3)] 3

/-- java/lang/Cloneable -/
def k20 : Class := { plain "java/lang/Cloneable" (some 0) with
  accessFlags := 1537
  interfaces := #[]
  cf := some (fileOf pool20 2 #[] #[] 1537 4 #[] #[])
  fields := #[]
  methods := #[]
  instanceTypes := #[]
  staticTypes := #[]
  resolved := Array.replicate 8 none
  statics := none }

/-- the primitive byte -/
def k21 : Class := { plain "byte" none with kind := .primitive 'B', accessFlags := 0x411 }
/-- [B -/
def k22 : Class := { plain "[B" (some 0) with kind := .array 21 .byte, interfaces := #[20, 6], accessFlags := 1041 }

/-- the primitive int -/
def k23 : Class := { plain "int" none with kind := .primitive 'I', accessFlags := 0x411 }
/-- [I -/
def k24 : Class := { plain "[I" (some 0) with kind := .array 23 .int, interfaces := #[20, 6], accessFlags := 1041 }

def heap : Heap := #[{ cls := 11, slots := #[.long 0, .int 1, .null, .int 0, .null, .int 0, .int 0], vm := .statics 11 },
  { cls := 17, slots := #[.int 0, .int 0, .null, .null, .ref 4, .ref 3, .int 0, .int 0, .long 0], vm := .statics 17 },
  { cls := 19, slots := #[.null, .null, .null], vm := .statics 19 },
  { cls := 22, slots := #[.int 48, .int 49, .int 50, .int 51, .int 52, .int 53, .int 54, .int 55, .int 56, .int 57, .int 48, .int 49, .int 50, .int 51, .int 52, .int 53, .int 54, .int 55, .int 56, .int 57, .int 48, .int 49, .int 50, .int 51, .int 52, .int 53, .int 54, .int 55, .int 56, .int 57, .int 48, .int 49, .int 50, .int 51, .int 52, .int 53, .int 54, .int 55, .int 56, .int 57, .int 48, .int 49, .int 50, .int 51, .int 52, .int 53, .int 54, .int 55, .int 56, .int 57, .int 48, .int 49, .int 50, .int 51, .int 52, .int 53, .int 54, .int 55, .int 56, .int 57, .int 48, .int 49, .int 50, .int 51, .int 52, .int 53, .int 54, .int 55, .int 56, .int 57, .int 48, .int 49, .int 50, .int 51, .int 52, .int 53, .int 54, .int 55, .int 56, .int 57, .int 48, .int 49, .int 50, .int 51, .int 52, .int 53, .int 54, .int 55, .int 56, .int 57, .int 48, .int 49, .int 50, .int 51, .int 52, .int 53, .int 54, .int 55, .int 56, .int 57], vm := .none },
  { cls := 22, slots := #[.int 48, .int 48, .int 48, .int 48, .int 48, .int 48, .int 48, .int 48, .int 48, .int 48, .int 49, .int 49, .int 49, .int 49, .int 49, .int 49, .int 49, .int 49, .int 49, .int 49, .int 50, .int 50, .int 50, .int 50, .int 50, .int 50, .int 50, .int 50, .int 50, .int 50, .int 51, .int 51, .int 51, .int 51, .int 51, .int 51, .int 51, .int 51, .int 51, .int 51, .int 52, .int 52, .int 52, .int 52, .int 52, .int 52, .int 52, .int 52, .int 52, .int 52, .int 53, .int 53, .int 53, .int 53, .int 53, .int 53, .int 53, .int 53, .int 53, .int 53, .int 54, .int 54, .int 54, .int 54, .int 54, .int 54, .int 54, .int 54, .int 54, .int 54, .int 55, .int 55, .int 55, .int 55, .int 55, .int 55, .int 55, .int 55, .int 55, .int 55, .int 56, .int 56, .int 56, .int 56, .int 56, .int 56, .int 56, .int 56, .int 56, .int 56, .int 57, .int 57, .int 57, .int 57, .int 57, .int 57, .int 57, .int 57, .int 57, .int 57], vm := .none }]
def classes : Array Class := #[k0, k1, k2, k3, k4, k5, k6, k7, k8, k9, k10, k11, k12, k13, k14, k15, k16, k17, k18, k19, k20, k21, k22, k23, k24]
def interned : List (Array UInt16 × Addr) := []
def slotsUsed : Nat := 219
def theMethod : MethodId := ⟨1, 1⟩
def args0 : Array Value := #[.int 5]
def aboutOver (below : List Frame) : State where
  vm := { classes := classes, interned := interned.toArray }
  heap := heap
  slotsUsed := slotsUsed
  threads := #[{ frames := .invoking theMethod args0 :: below }]
def below0 : List Frame := [.native { method := ⟨0, 0⟩, args := #[] }]
def about1 : State := aboutOver below0
def p0 : Program := .bare "" "" ""
def e0 : Env := launch0.env 0 0 0
theorem w_frames : about1.frames = Frame.invoking theMethod args0 :: below0 := rfl
set_option maxRecDepth 65536 in
theorem w_args : argsFit about1.vm theMethod args0 = true := by decide +kernel
set_option maxRecDepth 65536 in
theorem w_heap : heapFits about1 = true := by decide +kernel
set_option maxRecDepth 65536 in
theorem w_runnable : about1.curStatus? = some .runnable := by decide +kernel
set_option maxRecDepth 65536 in
theorem w_alone : about1.alone = true := by decide +kernel
set_option maxRecDepth 65536 in
theorem w_named : about1.methodNamed? x = some theMethod := by decide +kernel
set_option maxRecDepth 65536 in
theorem w_hears : about1.hears theMethod below0 = true := by decide +kernel
set_option maxRecDepth 65536 in
theorem w_ripe : about1.ripe theMethod args0 below0 = true := by decide +kernel
theorem w_running : about1.status = .running := rfl
set_option maxRecDepth 65536 in
theorem w_room : about1.hasRoom e0.platform room_1 = true :=
  launch0.hasRoom_least _ room_1 (by decide +kernel) (by decide +kernel) (by decide +kernel) (by decide +kernel) (by decide +kernel) (by decide +kernel)
theorem allAtoms_all (ts : List Jvm.Cond) (a : Array Jvm.Value) (st : Jvm.State) : (allAtoms ts).before a st = ts.all (fun c => c.before a st) := by
  induction ts with
  | nil => rfl
  | cons c t ih =>
    show (Jvm.Cond.and c (allAtoms t)).before a st = _
    rw [Jvm.Cond.before_and, ih, List.all_cons]
def words1 : List Jvm.Cond := Jvm.Cond.code x code maxLocals ret :: tables_1
/-- a 'code' word, met by the world's own term for the bytes: nothing is compared byte by byte -/
theorem code_word {y : MethodName} {bytes : ByteArray} {mx : Nat} {rt : Option FieldType} {a : Array Value} {s : State} {m : MethodId} {meth : Method} {c : Code} (h1 : s.methodNamed? y = some m) (h2 : s.vm.method? m = some meth) (h3 : meth.code = some c) (h4 : c.code = bytes)
    (h5 : (c.maxLocals == mx && c.exceptionTable.isEmpty && decide (c.maxStack ≤ mostOperands) && decide (meth.sig.returnType = rt) && !meth.locks && decide (parseMethodDescriptor y.desc = some meth.sig)) = true) : (Jvm.Cond.code y bytes mx rt).before a s = true := by
  simp only [Bool.and_eq_true, beq_iff_eq, Bool.not_eq_true', decide_eq_true_eq] at h5
  obtain ⟨⟨⟨⟨⟨g1, g2⟩, g3⟩, g4⟩, g5⟩, g6⟩ := h5
  simp [Cond.before, Cond.holds, Cond.value, h1, h2, h3, h4, g1, g2, g3, g4, g5, g6]
def isCode : Jvm.Cond → Bool
  | .code _ _ _ _ => true
  | _ => false
theorem all_split {L : List Jvm.Cond} {P : Jvm.Cond → Bool} (h1 : L.all (fun c => isCode c || P c) = true) (h2 : ∀ c ∈ L.filter isCode, P c = true) : L.all P = true := by
  refine List.all_eq_true.mpr fun c hc => ?_
  have h := List.all_eq_true.mp h1 c hc
  rcases Bool.eq_false_or_eq_true (isCode c) with hi | hi
  · exact h2 c (List.mem_filter.mpr ⟨hc, hi⟩)
  · simpa [hi] using h
set_option maxRecDepth 65536 in
theorem w_c0 : (Jvm.Cond.code x code maxLocals ret).before args0 about1 = true := code_word (m := ⟨1, 1⟩) (meth := k1m1) (c := k1c1) (by decide +kernel) rfl rfl rfl (by decide +kernel)
set_option maxRecDepth 65536 in
theorem w_c1 : (Jvm.Cond.code ({ cls := "com/example/irama/irama/PrefilterToStringPinLaw", name := "digits", desc := "(I)I" } : Jvm.MethodName) method_6_code (1 : Nat) (Option.some Jvm.ClassFile.FieldType.int)).before args0 about1 = true := code_word (m := ⟨1, 5⟩) (meth := k1m5) (c := k1c5) (by decide +kernel) rfl rfl rfl (by decide +kernel)
set_option maxRecDepth 65536 in
theorem w_c2 : (Jvm.Cond.code ({ cls := "com/example/irama/irama/Prefilter", name := "<init>", desc := "(I)V" } : Jvm.MethodName) prog_4_method_1_code (2 : Nat) (Option.none : Option Jvm.ClassFile.FieldType)).before args0 about1 = true := code_word (m := ⟨2, 0⟩) (meth := k2m0) (c := k2c0) (by decide +kernel) rfl rfl rfl (by decide +kernel)
set_option maxRecDepth 65536 in
theorem w_c3 : (Jvm.Cond.code ({ cls := "java/lang/Object", name := "<init>", desc := "()V" } : Jvm.MethodName) object_method_1_code (1 : Nat) (Option.none : Option Jvm.ClassFile.FieldType)).before args0 about1 = true := code_word (m := ⟨0, 0⟩) (meth := k0m0) (c := k0c0) (by decide +kernel) rfl rfl rfl (by decide +kernel)
set_option maxRecDepth 65536 in
theorem w_c4 : (Jvm.Cond.code ({ cls := "com/example/irama/irama/Prefilter", name := "toString", desc := "()Ljava/lang/String;" } : Jvm.MethodName) prog_4_method_6_code (1 : Nat) (Option.some (Jvm.ClassFile.FieldType.object "java/lang/String"))).before args0 about1 = true := code_word (m := ⟨2, 1⟩) (meth := k2m1) (c := k2c1) (by decide +kernel) rfl rfl rfl (by decide +kernel)
set_option maxRecDepth 65536 in
theorem w_c5 : (Jvm.Cond.code ({ cls := "java/lang/StringBuilder", name := "<init>", desc := "()V" } : Jvm.MethodName) jdk_67_method_1_code (1 : Nat) (Option.none : Option Jvm.ClassFile.FieldType)).before args0 about1 = true := code_word (m := ⟨8, 0⟩) (meth := k8m0) (c := k8c0) (by decide +kernel) rfl rfl rfl (by decide +kernel)
set_option maxRecDepth 65536 in
theorem w_c6 : (Jvm.Cond.code ({ cls := "java/lang/AbstractStringBuilder", name := "<init>", desc := "(I)V" } : Jvm.MethodName) jdk_68_method_2_code (2 : Nat) (Option.none : Option Jvm.ClassFile.FieldType)).before args0 about1 = true := code_word (m := ⟨5, 1⟩) (meth := k5m1) (c := k5c1) (by decide +kernel) rfl rfl rfl (by decide +kernel)
set_option maxRecDepth 65536 in
theorem w_c7 : (Jvm.Cond.code ({ cls := "java/lang/StringBuilder", name := "append", desc := "(Ljava/lang/String;)Ljava/lang/StringBuilder;" } : Jvm.MethodName) jdk_67_method_7_code (2 : Nat) (Option.some (Jvm.ClassFile.FieldType.object "java/lang/StringBuilder"))).before args0 about1 = true := code_word (m := ⟨8, 1⟩) (meth := k8m1) (c := k8c1) (by decide +kernel) rfl rfl rfl (by decide +kernel)
set_option maxRecDepth 65536 in
theorem w_c8 : (Jvm.Cond.code ({ cls := "java/lang/AbstractStringBuilder", name := "append", desc := "(Ljava/lang/String;)Ljava/lang/AbstractStringBuilder;" } : Jvm.MethodName) jdk_68_method_22_code (3 : Nat) (Option.some (Jvm.ClassFile.FieldType.object "java/lang/AbstractStringBuilder"))).before args0 about1 = true := code_word (m := ⟨5, 5⟩) (meth := k5m5) (c := k5c5) (by decide +kernel) rfl rfl rfl (by decide +kernel)
set_option maxRecDepth 65536 in
theorem w_c9 : (Jvm.Cond.code ({ cls := "java/lang/String", name := "length", desc := "()I" } : Jvm.MethodName) jdk_42_method_54_code (1 : Nat) (Option.some Jvm.ClassFile.FieldType.int)).before args0 about1 = true := code_word (m := ⟨11, 2⟩) (meth := k11m2) (c := k11c2) (by decide +kernel) rfl rfl rfl (by decide +kernel)
set_option maxRecDepth 65536 in
theorem w_c10 : (Jvm.Cond.code ({ cls := "java/lang/String", name := "coder", desc := "()B" } : Jvm.MethodName) jdk_42_method_152_code (1 : Nat) (Option.some Jvm.ClassFile.FieldType.byte)).before args0 about1 = true := code_word (m := ⟨11, 6⟩) (meth := k11m6) (c := k11c6) (by decide +kernel) rfl rfl rfl (by decide +kernel)
set_option maxRecDepth 65536 in
theorem w_c11 : (Jvm.Cond.code ({ cls := "java/lang/AbstractStringBuilder", name := "ensureCapacityInternal", desc := "(I)V" } : Jvm.MethodName) jdk_68_method_9_code (3 : Nat) (Option.none : Option Jvm.ClassFile.FieldType)).before args0 about1 = true := code_word (m := ⟨5, 3⟩) (meth := k5m3) (c := k5c3) (by decide +kernel) rfl rfl rfl (by decide +kernel)
set_option maxRecDepth 65536 in
theorem w_c12 : (Jvm.Cond.code ({ cls := "java/lang/AbstractStringBuilder", name := "newCapacity", desc := "(I)I" } : Jvm.MethodName) jdk_68_method_10_code (6 : Nat) (Option.some Jvm.ClassFile.FieldType.int)).before args0 about1 = true := code_word (m := ⟨5, 4⟩) (meth := k5m4) (c := k5c4) (by decide +kernel) rfl rfl rfl (by decide +kernel)
set_option maxRecDepth 65536 in
theorem w_c13 : (Jvm.Cond.code ({ cls := "jdk/internal/util/ArraysSupport", name := "newLength", desc := "(III)I" } : Jvm.MethodName) jdk_48_method_27_code (4 : Nat) (Option.some Jvm.ClassFile.FieldType.int)).before args0 about1 = true := code_word (m := ⟨12, 1⟩) (meth := k12m1) (c := k12c1) (by decide +kernel) rfl rfl rfl (by decide +kernel)
set_option maxRecDepth 65536 in
theorem w_c14 : (Jvm.Cond.code ({ cls := "java/lang/Math", name := "max", desc := "(II)I" } : Jvm.MethodName) jdk_29_method_65_code (2 : Nat) (Option.some Jvm.ClassFile.FieldType.int)).before args0 about1 = true := code_word (m := ⟨13, 1⟩) (meth := k13m1) (c := k13c1) (by decide +kernel) rfl rfl rfl (by decide +kernel)
set_option maxRecDepth 65536 in
theorem w_c15 : (Jvm.Cond.code ({ cls := "java/util/Arrays", name := "copyOf", desc := "([BI)[B" } : Jvm.MethodName) jdk_65_method_121_code (3 : Nat) (Option.some (Jvm.ClassFile.FieldType.array Jvm.ClassFile.FieldType.byte))).before args0 about1 = true := code_word (m := ⟨14, 1⟩) (meth := k14m1) (c := k14c1) (by decide +kernel) rfl rfl rfl (by decide +kernel)
set_option maxRecDepth 65536 in
theorem w_c16 : (Jvm.Cond.code ({ cls := "java/lang/Math", name := "min", desc := "(II)I" } : Jvm.MethodName) jdk_29_method_69_code (2 : Nat) (Option.some Jvm.ClassFile.FieldType.int)).before args0 about1 = true := code_word (m := ⟨13, 2⟩) (meth := k13m2) (c := k13c2) (by decide +kernel) rfl rfl rfl (by decide +kernel)
set_option maxRecDepth 65536 in
theorem w_c17 : (Jvm.Cond.code ({ cls := "java/lang/AbstractStringBuilder", name := "putStringAt", desc := "(ILjava/lang/String;)V" } : Jvm.MethodName) jdk_68_method_73_code (3 : Nat) (Option.none : Option Jvm.ClassFile.FieldType)).before args0 about1 = true := code_word (m := ⟨5, 10⟩) (meth := k5m10) (c := k5c10) (by decide +kernel) rfl rfl rfl (by decide +kernel)
set_option maxRecDepth 65536 in
theorem w_c18 : (Jvm.Cond.code ({ cls := "java/lang/AbstractStringBuilder", name := "inflateIfNeededFor", desc := "(Ljava/lang/String;)V" } : Jvm.MethodName) jdk_68_method_71_code (2 : Nat) (Option.none : Option Jvm.ClassFile.FieldType)).before args0 about1 = true := code_word (m := ⟨5, 9⟩) (meth := k5m9) (c := k5c9) (by decide +kernel) rfl rfl rfl (by decide +kernel)
set_option maxRecDepth 65536 in
theorem w_c19 : (Jvm.Cond.code ({ cls := "java/lang/String", name := "getBytes", desc := "([BIB)V" } : Jvm.MethodName) jdk_42_method_147_code (4 : Nat) (Option.none : Option Jvm.ClassFile.FieldType)).before args0 about1 = true := code_word (m := ⟨11, 4⟩) (meth := k11m4) (c := k11c4) (by decide +kernel) rfl rfl rfl (by decide +kernel)
set_option maxRecDepth 65536 in
theorem w_c20 : (Jvm.Cond.code ({ cls := "java/lang/StringBuilder", name := "append", desc := "(I)Ljava/lang/StringBuilder;" } : Jvm.MethodName) jdk_67_method_15_code (2 : Nat) (Option.some (Jvm.ClassFile.FieldType.object "java/lang/StringBuilder"))).before args0 about1 = true := code_word (m := ⟨8, 2⟩) (meth := k8m2) (c := k8c2) (by decide +kernel) rfl rfl rfl (by decide +kernel)
set_option maxRecDepth 65536 in
theorem w_c21 : (Jvm.Cond.code ({ cls := "java/lang/AbstractStringBuilder", name := "append", desc := "(I)Ljava/lang/AbstractStringBuilder;" } : Jvm.MethodName) jdk_68_method_32_code (4 : Nat) (Option.some (Jvm.ClassFile.FieldType.object "java/lang/AbstractStringBuilder"))).before args0 about1 = true := code_word (m := ⟨5, 6⟩) (meth := k5m6) (c := k5c6) (by decide +kernel) rfl rfl rfl (by decide +kernel)
set_option maxRecDepth 65536 in
theorem w_c22 : (Jvm.Cond.code ({ cls := "java/lang/Integer", name := "stringSize", desc := "(I)I" } : Jvm.MethodName) jdk_33_method_13_code (4 : Nat) (Option.some Jvm.ClassFile.FieldType.int)).before args0 about1 = true := code_word (m := ⟨17, 1⟩) (meth := k17m1) (c := k17c1) (by decide +kernel) rfl rfl rfl (by decide +kernel)
set_option maxRecDepth 65536 in
theorem w_c23 : (Jvm.Cond.code ({ cls := "java/lang/AbstractStringBuilder", name := "isLatin1", desc := "()Z" } : Jvm.MethodName) jdk_68_method_68_code (1 : Nat) (Option.some Jvm.ClassFile.FieldType.boolean)).before args0 about1 = true := code_word (m := ⟨5, 8⟩) (meth := k5m8) (c := k5c8) (by decide +kernel) rfl rfl rfl (by decide +kernel)
set_option maxRecDepth 65536 in
theorem w_c24 : (Jvm.Cond.code ({ cls := "java/lang/Integer", name := "getChars", desc := "(II[B)I" } : Jvm.MethodName) jdk_33_method_12_code (7 : Nat) (Option.some Jvm.ClassFile.FieldType.int)).before args0 about1 = true := code_word (m := ⟨17, 0⟩) (meth := k17m0) (c := k17c0) (by decide +kernel) rfl rfl rfl (by decide +kernel)
set_option maxRecDepth 65536 in
theorem w_c25 : (Jvm.Cond.code ({ cls := "java/lang/StringBuilder", name := "toString", desc := "()Ljava/lang/String;" } : Jvm.MethodName) jdk_67_method_42_code (1 : Nat) (Option.some (Jvm.ClassFile.FieldType.object "java/lang/String"))).before args0 about1 = true := code_word (m := ⟨8, 3⟩) (meth := k8m3) (c := k8c3) (by decide +kernel) rfl rfl rfl (by decide +kernel)
set_option maxRecDepth 65536 in
theorem w_c26 : (Jvm.Cond.code ({ cls := "java/lang/String", name := "<init>", desc := "(Ljava/lang/StringBuilder;)V" } : Jvm.MethodName) jdk_42_method_53_code (2 : Nat) (Option.none : Option Jvm.ClassFile.FieldType)).before args0 about1 = true := code_word (m := ⟨11, 1⟩) (meth := k11m1) (c := k11c1) (by decide +kernel) rfl rfl rfl (by decide +kernel)
set_option maxRecDepth 65536 in
theorem w_c27 : (Jvm.Cond.code ({ cls := "java/lang/String", name := "<init>", desc := "(Ljava/lang/AbstractStringBuilder;Ljava/lang/Void;)V" } : Jvm.MethodName) jdk_42_method_150_code (5 : Nat) (Option.none : Option Jvm.ClassFile.FieldType)).before args0 about1 = true := code_word (m := ⟨11, 5⟩) (meth := k11m5) (c := k11c5) (by decide +kernel) rfl rfl rfl (by decide +kernel)
set_option maxRecDepth 65536 in
theorem w_c28 : (Jvm.Cond.code ({ cls := "java/lang/AbstractStringBuilder", name := "getValue", desc := "()[B" } : Jvm.MethodName) jdk_68_method_64_code (1 : Nat) (Option.some (Jvm.ClassFile.FieldType.array Jvm.ClassFile.FieldType.byte))).before args0 about1 = true := code_word (m := ⟨5, 7⟩) (meth := k5m7) (c := k5c7) (by decide +kernel) rfl rfl rfl (by decide +kernel)
set_option maxRecDepth 65536 in
theorem w_c29 : (Jvm.Cond.code ({ cls := "java/lang/StringBuilder", name := "length", desc := "()I" } : Jvm.MethodName) jdk_67_method_93_code (1 : Nat) (Option.some Jvm.ClassFile.FieldType.int)).before args0 about1 = true := code_word (m := ⟨8, 4⟩) (meth := k8m4) (c := k8c4) (by decide +kernel) rfl rfl rfl (by decide +kernel)
set_option maxRecDepth 65536 in
theorem w_c30 : (Jvm.Cond.code ({ cls := "java/lang/AbstractStringBuilder", name := "length", desc := "()I" } : Jvm.MethodName) jdk_68_method_6_code (1 : Nat) (Option.some Jvm.ClassFile.FieldType.int)).before args0 about1 = true := code_word (m := ⟨5, 2⟩) (meth := k5m2) (c := k5c2) (by decide +kernel) rfl rfl rfl (by decide +kernel)
set_option maxRecDepth 65536 in
theorem w_c31 : (Jvm.Cond.code ({ cls := "java/util/Arrays", name := "copyOfRange", desc := "([BII)[B" } : Jvm.MethodName) jdk_65_method_132_code (3 : Nat) (Option.some (Jvm.ClassFile.FieldType.array Jvm.ClassFile.FieldType.byte))).before args0 about1 = true := code_word (m := ⟨14, 3⟩) (meth := k14m3) (c := k14c3) (by decide +kernel) rfl rfl rfl (by decide +kernel)
set_option maxRecDepth 65536 in
theorem w_c32 : (Jvm.Cond.code ({ cls := "java/util/Arrays", name := "copyOfRangeByte", desc := "([BII)[B" } : Jvm.MethodName) jdk_65_method_133_code (5 : Nat) (Option.some (Jvm.ClassFile.FieldType.array Jvm.ClassFile.FieldType.byte))).before args0 about1 = true := code_word (m := ⟨14, 4⟩) (meth := k14m4) (c := k14c4) (by decide +kernel) rfl rfl rfl (by decide +kernel)
set_option maxRecDepth 65536 in
theorem w_c33 : (Jvm.Cond.code ({ cls := "java/util/Arrays", name := "checkLength", desc := "(II)V" } : Jvm.MethodName) jdk_65_method_131_code (2 : Nat) (Option.none : Option Jvm.ClassFile.FieldType)).before args0 about1 = true := code_word (m := ⟨14, 2⟩) (meth := k14m2) (c := k14c2) (by decide +kernel) rfl rfl rfl (by decide +kernel)
set_option maxRecDepth 65536 in
theorem w_c34 : (Jvm.Cond.code ({ cls := "com/example/irama/irama/PrefilterToStringPinLaw", name := "c", desc := "(Ljava/lang/String;Ljava/lang/String;I)Z" } : Jvm.MethodName) method_3_code (3 : Nat) (Option.some Jvm.ClassFile.FieldType.boolean)).before args0 about1 = true := code_word (m := ⟨1, 2⟩) (meth := k1m2) (c := k1c2) (by decide +kernel) rfl rfl rfl (by decide +kernel)
set_option maxRecDepth 65536 in
theorem w_c35 : (Jvm.Cond.code ({ cls := "java/lang/String", name := "charAt", desc := "(I)C" } : Jvm.MethodName) jdk_42_method_56_code (2 : Nat) (Option.some Jvm.ClassFile.FieldType.char)).before args0 about1 = true := code_word (m := ⟨11, 3⟩) (meth := k11m3) (c := k11c3) (by decide +kernel) rfl rfl rfl (by decide +kernel)
set_option maxRecDepth 65536 in
theorem w_c36 : (Jvm.Cond.code ({ cls := "java/lang/String", name := "isLatin1", desc := "()Z" } : Jvm.MethodName) jdk_42_method_154_code (1 : Nat) (Option.some Jvm.ClassFile.FieldType.boolean)).before args0 about1 = true := code_word (m := ⟨11, 7⟩) (meth := k11m7) (c := k11c7) (by decide +kernel) rfl rfl rfl (by decide +kernel)
set_option maxRecDepth 65536 in
theorem w_c37 : (Jvm.Cond.code ({ cls := "java/lang/StringLatin1", name := "charAt", desc := "([BI)C" } : Jvm.MethodName) jdk_43_method_2_code (2 : Nat) (Option.some Jvm.ClassFile.FieldType.char)).before args0 about1 = true := code_word (m := ⟨18, 1⟩) (meth := k18m1) (c := k18c1) (by decide +kernel) rfl rfl rfl (by decide +kernel)
set_option maxRecDepth 65536 in
theorem w_c38 : (Jvm.Cond.code ({ cls := "java/lang/String", name := "checkIndex", desc := "(II)V" } : Jvm.MethodName) jdk_42_method_155_code (2 : Nat) (Option.none : Option Jvm.ClassFile.FieldType)).before args0 about1 = true := code_word (m := ⟨11, 8⟩) (meth := k11m8) (c := k11c8) (by decide +kernel) rfl rfl rfl (by decide +kernel)
set_option maxRecDepth 65536 in
theorem w_c39 : (Jvm.Cond.code ({ cls := "jdk/internal/util/Preconditions", name := "checkIndex", desc := "(IILjava/util/function/BiFunction;)I" } : Jvm.MethodName) jdk_41_method_11_code (3 : Nat) (Option.some Jvm.ClassFile.FieldType.int)).before args0 about1 = true := code_word (m := ⟨19, 1⟩) (meth := k19m1) (c := k19c1) (by decide +kernel) rfl rfl rfl (by decide +kernel)
set_option maxRecDepth 65536 in
theorem w_c40 : (Jvm.Cond.code ({ cls := "com/example/irama/irama/PrefilterToStringPinLaw", name := "dg", desc := "(Ljava/lang/String;II[II)Z" } : Jvm.MethodName) method_4_code (6 : Nat) (Option.some Jvm.ClassFile.FieldType.boolean)).before args0 about1 = true := code_word (m := ⟨1, 3⟩) (meth := k1m3) (c := k1c3) (by decide +kernel) rfl rfl rfl (by decide +kernel)
set_option maxRecDepth 65536 in
theorem w_c41 : (Jvm.Cond.code ({ cls := "com/example/irama/irama/PrefilterToStringPinLaw", name := "sf", desc := "(Ljava/lang/String;Ljava/lang/String;II)Z" } : Jvm.MethodName) method_5_code (4 : Nat) (Option.some Jvm.ClassFile.FieldType.boolean)).before args0 about1 = true := code_word (m := ⟨1, 4⟩) (meth := k1m4) (c := k1c4) (by decide +kernel) rfl rfl rfl (by decide +kernel)
def codes1 : List Jvm.Cond := [Jvm.Cond.code x code maxLocals ret, Jvm.Cond.code ({ cls := "com/example/irama/irama/PrefilterToStringPinLaw", name := "digits", desc := "(I)I" } : Jvm.MethodName) method_6_code (1 : Nat) (Option.some Jvm.ClassFile.FieldType.int), Jvm.Cond.code ({ cls := "com/example/irama/irama/Prefilter", name := "<init>", desc := "(I)V" } : Jvm.MethodName) prog_4_method_1_code (2 : Nat) (Option.none : Option Jvm.ClassFile.FieldType), Jvm.Cond.code ({ cls := "java/lang/Object", name := "<init>", desc := "()V" } : Jvm.MethodName) object_method_1_code (1 : Nat) (Option.none : Option Jvm.ClassFile.FieldType), Jvm.Cond.code ({ cls := "com/example/irama/irama/Prefilter", name := "toString", desc := "()Ljava/lang/String;" } : Jvm.MethodName) prog_4_method_6_code (1 : Nat) (Option.some (Jvm.ClassFile.FieldType.object "java/lang/String")), Jvm.Cond.code ({ cls := "java/lang/StringBuilder", name := "<init>", desc := "()V" } : Jvm.MethodName) jdk_67_method_1_code (1 : Nat) (Option.none : Option Jvm.ClassFile.FieldType), Jvm.Cond.code ({ cls := "java/lang/AbstractStringBuilder", name := "<init>", desc := "(I)V" } : Jvm.MethodName) jdk_68_method_2_code (2 : Nat) (Option.none : Option Jvm.ClassFile.FieldType), Jvm.Cond.code ({ cls := "java/lang/StringBuilder", name := "append", desc := "(Ljava/lang/String;)Ljava/lang/StringBuilder;" } : Jvm.MethodName) jdk_67_method_7_code (2 : Nat) (Option.some (Jvm.ClassFile.FieldType.object "java/lang/StringBuilder")), Jvm.Cond.code ({ cls := "java/lang/AbstractStringBuilder", name := "append", desc := "(Ljava/lang/String;)Ljava/lang/AbstractStringBuilder;" } : Jvm.MethodName) jdk_68_method_22_code (3 : Nat) (Option.some (Jvm.ClassFile.FieldType.object "java/lang/AbstractStringBuilder")), Jvm.Cond.code ({ cls := "java/lang/String", name := "length", desc := "()I" } : Jvm.MethodName) jdk_42_method_54_code (1 : Nat) (Option.some Jvm.ClassFile.FieldType.int), Jvm.Cond.code ({ cls := "java/lang/String", name := "coder", desc := "()B" } : Jvm.MethodName) jdk_42_method_152_code (1 : Nat) (Option.some Jvm.ClassFile.FieldType.byte), Jvm.Cond.code ({ cls := "java/lang/AbstractStringBuilder", name := "ensureCapacityInternal", desc := "(I)V" } : Jvm.MethodName) jdk_68_method_9_code (3 : Nat) (Option.none : Option Jvm.ClassFile.FieldType), Jvm.Cond.code ({ cls := "java/lang/AbstractStringBuilder", name := "newCapacity", desc := "(I)I" } : Jvm.MethodName) jdk_68_method_10_code (6 : Nat) (Option.some Jvm.ClassFile.FieldType.int), Jvm.Cond.code ({ cls := "jdk/internal/util/ArraysSupport", name := "newLength", desc := "(III)I" } : Jvm.MethodName) jdk_48_method_27_code (4 : Nat) (Option.some Jvm.ClassFile.FieldType.int), Jvm.Cond.code ({ cls := "java/lang/Math", name := "max", desc := "(II)I" } : Jvm.MethodName) jdk_29_method_65_code (2 : Nat) (Option.some Jvm.ClassFile.FieldType.int), Jvm.Cond.code ({ cls := "java/util/Arrays", name := "copyOf", desc := "([BI)[B" } : Jvm.MethodName) jdk_65_method_121_code (3 : Nat) (Option.some (Jvm.ClassFile.FieldType.array Jvm.ClassFile.FieldType.byte)), Jvm.Cond.code ({ cls := "java/lang/Math", name := "min", desc := "(II)I" } : Jvm.MethodName) jdk_29_method_69_code (2 : Nat) (Option.some Jvm.ClassFile.FieldType.int), Jvm.Cond.code ({ cls := "java/lang/AbstractStringBuilder", name := "putStringAt", desc := "(ILjava/lang/String;)V" } : Jvm.MethodName) jdk_68_method_73_code (3 : Nat) (Option.none : Option Jvm.ClassFile.FieldType), Jvm.Cond.code ({ cls := "java/lang/AbstractStringBuilder", name := "inflateIfNeededFor", desc := "(Ljava/lang/String;)V" } : Jvm.MethodName) jdk_68_method_71_code (2 : Nat) (Option.none : Option Jvm.ClassFile.FieldType), Jvm.Cond.code ({ cls := "java/lang/String", name := "getBytes", desc := "([BIB)V" } : Jvm.MethodName) jdk_42_method_147_code (4 : Nat) (Option.none : Option Jvm.ClassFile.FieldType), Jvm.Cond.code ({ cls := "java/lang/StringBuilder", name := "append", desc := "(I)Ljava/lang/StringBuilder;" } : Jvm.MethodName) jdk_67_method_15_code (2 : Nat) (Option.some (Jvm.ClassFile.FieldType.object "java/lang/StringBuilder")), Jvm.Cond.code ({ cls := "java/lang/AbstractStringBuilder", name := "append", desc := "(I)Ljava/lang/AbstractStringBuilder;" } : Jvm.MethodName) jdk_68_method_32_code (4 : Nat) (Option.some (Jvm.ClassFile.FieldType.object "java/lang/AbstractStringBuilder")), Jvm.Cond.code ({ cls := "java/lang/Integer", name := "stringSize", desc := "(I)I" } : Jvm.MethodName) jdk_33_method_13_code (4 : Nat) (Option.some Jvm.ClassFile.FieldType.int), Jvm.Cond.code ({ cls := "java/lang/AbstractStringBuilder", name := "isLatin1", desc := "()Z" } : Jvm.MethodName) jdk_68_method_68_code (1 : Nat) (Option.some Jvm.ClassFile.FieldType.boolean), Jvm.Cond.code ({ cls := "java/lang/Integer", name := "getChars", desc := "(II[B)I" } : Jvm.MethodName) jdk_33_method_12_code (7 : Nat) (Option.some Jvm.ClassFile.FieldType.int), Jvm.Cond.code ({ cls := "java/lang/StringBuilder", name := "toString", desc := "()Ljava/lang/String;" } : Jvm.MethodName) jdk_67_method_42_code (1 : Nat) (Option.some (Jvm.ClassFile.FieldType.object "java/lang/String")), Jvm.Cond.code ({ cls := "java/lang/String", name := "<init>", desc := "(Ljava/lang/StringBuilder;)V" } : Jvm.MethodName) jdk_42_method_53_code (2 : Nat) (Option.none : Option Jvm.ClassFile.FieldType), Jvm.Cond.code ({ cls := "java/lang/String", name := "<init>", desc := "(Ljava/lang/AbstractStringBuilder;Ljava/lang/Void;)V" } : Jvm.MethodName) jdk_42_method_150_code (5 : Nat) (Option.none : Option Jvm.ClassFile.FieldType), Jvm.Cond.code ({ cls := "java/lang/AbstractStringBuilder", name := "getValue", desc := "()[B" } : Jvm.MethodName) jdk_68_method_64_code (1 : Nat) (Option.some (Jvm.ClassFile.FieldType.array Jvm.ClassFile.FieldType.byte)), Jvm.Cond.code ({ cls := "java/lang/StringBuilder", name := "length", desc := "()I" } : Jvm.MethodName) jdk_67_method_93_code (1 : Nat) (Option.some Jvm.ClassFile.FieldType.int), Jvm.Cond.code ({ cls := "java/lang/AbstractStringBuilder", name := "length", desc := "()I" } : Jvm.MethodName) jdk_68_method_6_code (1 : Nat) (Option.some Jvm.ClassFile.FieldType.int), Jvm.Cond.code ({ cls := "java/util/Arrays", name := "copyOfRange", desc := "([BII)[B" } : Jvm.MethodName) jdk_65_method_132_code (3 : Nat) (Option.some (Jvm.ClassFile.FieldType.array Jvm.ClassFile.FieldType.byte)), Jvm.Cond.code ({ cls := "java/util/Arrays", name := "copyOfRangeByte", desc := "([BII)[B" } : Jvm.MethodName) jdk_65_method_133_code (5 : Nat) (Option.some (Jvm.ClassFile.FieldType.array Jvm.ClassFile.FieldType.byte)), Jvm.Cond.code ({ cls := "java/util/Arrays", name := "checkLength", desc := "(II)V" } : Jvm.MethodName) jdk_65_method_131_code (2 : Nat) (Option.none : Option Jvm.ClassFile.FieldType), Jvm.Cond.code ({ cls := "com/example/irama/irama/PrefilterToStringPinLaw", name := "c", desc := "(Ljava/lang/String;Ljava/lang/String;I)Z" } : Jvm.MethodName) method_3_code (3 : Nat) (Option.some Jvm.ClassFile.FieldType.boolean), Jvm.Cond.code ({ cls := "java/lang/String", name := "charAt", desc := "(I)C" } : Jvm.MethodName) jdk_42_method_56_code (2 : Nat) (Option.some Jvm.ClassFile.FieldType.char), Jvm.Cond.code ({ cls := "java/lang/String", name := "isLatin1", desc := "()Z" } : Jvm.MethodName) jdk_42_method_154_code (1 : Nat) (Option.some Jvm.ClassFile.FieldType.boolean), Jvm.Cond.code ({ cls := "java/lang/StringLatin1", name := "charAt", desc := "([BI)C" } : Jvm.MethodName) jdk_43_method_2_code (2 : Nat) (Option.some Jvm.ClassFile.FieldType.char), Jvm.Cond.code ({ cls := "java/lang/String", name := "checkIndex", desc := "(II)V" } : Jvm.MethodName) jdk_42_method_155_code (2 : Nat) (Option.none : Option Jvm.ClassFile.FieldType), Jvm.Cond.code ({ cls := "jdk/internal/util/Preconditions", name := "checkIndex", desc := "(IILjava/util/function/BiFunction;)I" } : Jvm.MethodName) jdk_41_method_11_code (3 : Nat) (Option.some Jvm.ClassFile.FieldType.int), Jvm.Cond.code ({ cls := "com/example/irama/irama/PrefilterToStringPinLaw", name := "dg", desc := "(Ljava/lang/String;II[II)Z" } : Jvm.MethodName) method_4_code (6 : Nat) (Option.some Jvm.ClassFile.FieldType.boolean), Jvm.Cond.code ({ cls := "com/example/irama/irama/PrefilterToStringPinLaw", name := "sf", desc := "(Ljava/lang/String;Ljava/lang/String;II)Z" } : Jvm.MethodName) method_5_code (4 : Nat) (Option.some Jvm.ClassFile.FieldType.boolean)]
set_option maxRecDepth 65536 in
theorem codes_eq : words1.filter isCode = codes1 := rfl
theorem w_codes : ∀ c ∈ words1.filter isCode, c.before args0 about1 = true := by
  rw [codes_eq]
  intro c hc
  simp only [codes1, List.mem_cons, List.not_mem_nil, or_false] at hc
  rcases hc with rfl | rfl | rfl | rfl | rfl | rfl | rfl | rfl | rfl | rfl | rfl | rfl | rfl | rfl | rfl | rfl | rfl | rfl | rfl | rfl | rfl | rfl | rfl | rfl | rfl | rfl | rfl | rfl | rfl | rfl | rfl | rfl | rfl | rfl | rfl | rfl | rfl | rfl | rfl | rfl | rfl | rfl
  · exact w_c0
  · exact w_c1
  · exact w_c2
  · exact w_c3
  · exact w_c4
  · exact w_c5
  · exact w_c6
  · exact w_c7
  · exact w_c8
  · exact w_c9
  · exact w_c10
  · exact w_c11
  · exact w_c12
  · exact w_c13
  · exact w_c14
  · exact w_c15
  · exact w_c16
  · exact w_c17
  · exact w_c18
  · exact w_c19
  · exact w_c20
  · exact w_c21
  · exact w_c22
  · exact w_c23
  · exact w_c24
  · exact w_c25
  · exact w_c26
  · exact w_c27
  · exact w_c28
  · exact w_c29
  · exact w_c30
  · exact w_c31
  · exact w_c32
  · exact w_c33
  · exact w_c34
  · exact w_c35
  · exact w_c36
  · exact w_c37
  · exact w_c38
  · exact w_c39
  · exact w_c40
  · exact w_c41
set_option maxRecDepth 65536 in
theorem w_t1 : (words1.take 24).all (fun c => isCode c || c.before args0 about1) = true := by decide +kernel
set_option maxRecDepth 65536 in
theorem w_t2 : ((words1.drop 24).take 24).all (fun c => isCode c || c.before args0 about1) = true := by decide +kernel
set_option maxRecDepth 65536 in
theorem w_t3 : (((words1.drop 24).drop 24).take 24).all (fun c => isCode c || c.before args0 about1) = true := by decide +kernel
set_option maxRecDepth 65536 in
theorem w_t4 : ((((words1.drop 24).drop 24).drop 24).take 24).all (fun c => isCode c || c.before args0 about1) = true := by decide +kernel
set_option maxRecDepth 65536 in
theorem w_t5 : (((((words1.drop 24).drop 24).drop 24).drop 24).take 24).all (fun c => isCode c || c.before args0 about1) = true := by decide +kernel
set_option maxRecDepth 65536 in
theorem w_t6 : ((((((words1.drop 24).drop 24).drop 24).drop 24).drop 24).take 24).all (fun c => isCode c || c.before args0 about1) = true := by decide +kernel
set_option maxRecDepth 65536 in
theorem w_t7 : (((((((words1.drop 24).drop 24).drop 24).drop 24).drop 24).drop 24).take 24).all (fun c => isCode c || c.before args0 about1) = true := by decide +kernel
set_option maxRecDepth 65536 in
theorem w_t8 : ((((((((words1.drop 24).drop 24).drop 24).drop 24).drop 24).drop 24).drop 24).take 24).all (fun c => isCode c || c.before args0 about1) = true := by decide +kernel
set_option maxRecDepth 65536 in
theorem w_t9 : (((((((((words1.drop 24).drop 24).drop 24).drop 24).drop 24).drop 24).drop 24).drop 24).take 24).all (fun c => isCode c || c.before args0 about1) = true := by decide +kernel
set_option maxRecDepth 65536 in
theorem w_t10 : (((((((((words1.drop 24).drop 24).drop 24).drop 24).drop 24).drop 24).drop 24).drop 24).drop 24).all (fun c => isCode c || c.before args0 about1) = true := by decide +kernel
theorem w_tables : (allAtoms (Jvm.Cond.code x code maxLocals ret :: tables_1)).before args0 about1 = true := by
  rw [allAtoms_all]
  show words1.all (fun c => c.before args0 about1) = true
  refine all_split ?_ w_codes
  rw [← List.take_append_drop 24 words1, List.all_append, w_t1, ← List.take_append_drop 24 (words1.drop 24), List.all_append, w_t2, ← List.take_append_drop 24 ((words1.drop 24).drop 24), List.all_append, w_t3, ← List.take_append_drop 24 (((words1.drop 24).drop 24).drop 24), List.all_append, w_t4, ← List.take_append_drop 24 ((((words1.drop 24).drop 24).drop 24).drop 24), List.all_append, w_t5, ← List.take_append_drop 24 (((((words1.drop 24).drop 24).drop 24).drop 24).drop 24), List.all_append, w_t6, ← List.take_append_drop 24 ((((((words1.drop 24).drop 24).drop 24).drop 24).drop 24).drop 24), List.all_append, w_t7, ← List.take_append_drop 24 (((((((words1.drop 24).drop 24).drop 24).drop 24).drop 24).drop 24).drop 24), List.all_append, w_t8, ← List.take_append_drop 24 ((((((((words1.drop 24).drop 24).drop 24).drop 24).drop 24).drop 24).drop 24).drop 24), List.all_append, w_t9, w_t10]
  rfl
set_option maxRecDepth 65536 in
theorem w_rest : rest_1_c.before args0 about1 = true := by decide +kernel
set_option maxRecDepth 65536 in
theorem w_case : (Jvm.Cond.and given_1 narrow_1).before args0 about1 = true := by decide +kernel
set_option maxRecDepth 65536 in
theorem w_consts : constsHeld consts_1 about1 := Jvm.Lit.constsHeldB_iff.mp (by decide +kernel)
theorem w_applies : (headSpec (Jvm.Cond.code x code maxLocals ret :: tables_1) room_1).applies x e0.platform about1 = true :=
  (Spec.applies_iff w_frames).mpr ⟨w_running, w_runnable, w_alone, w_named, w_hears, w_ripe, w_room, w_tables⟩
theorem atStart : AtStart classFile x code maxLocals ret World_1 tables_1 room_1 Calls_1 rest_1 Pre_1 launch0 p0 e0 about1 theMethod args0 below0 :=
  ⟨lists_1, trivial, launch0.admits_env _ _ _, launch0.least_env, fairChoices_fair.cas, fairChoices_fair.clock, w_frames, w_args, w_heap, w_applies, ⟨w_consts, trivial⟩, w_rest, w_case⟩
end start1
theorem witness_1 : WitnessClaimed_1 := ⟨start1.p0, start1.e0, start1.about1, start1.theMethod, start1.args0, start1.below0, start1.atStart⟩
end Jvm.Pilot.@@N@@
