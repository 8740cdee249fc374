import JvmDerived
import JvmDerived.Pilot.@@N@@Statement
import JvmDerived.Pilot.@@N@@Code
set_option linter.unusedVariables false
set_option linter.unusedSimpArgs false
namespace Jvm.Pilot.@@N@@
open Jvm Jvm.ClassFile Sem Op Lib Jvm.Free Jvm.Stand Jvm.LawKit Jvm.RoadKit Bundle Jvm.Pilot.@@N@@.Jvm.D
section OwnKit
variable {p : Program} {l : Launch} {e : Env} {R : Room} {s : State} {m : MethodId} {args : Array Value} {below : List Frame} {meth : Method} {c : Code} {T : State} {locs : List Loc} {cells slots : Nat} {Z : State} {a0 : Array Value} {h : Heap} {Q : Option Value → Heap → List Loc → Prop} {C S : Nat} {F : State → Outcome → Prop}
/-- what is left of a walk: from T with the top frame g the invocation comes to its end, and F holds there -/
def Go (p : Program) (e : Env) (below : List Frame) (F : State → Outcome → Prop) (T : State) (g : JFrame) : Prop :=
  ∃ t o, Steps p.tables e below (T.setTop g) t ∧ t.status = .running ∧ Ended t below o ∧ F t o
/-- it returned, Q holds, and no more has changed than the frame says -/
def FN (s : State) (Q : Option Value → Heap → List Loc → Prop) (C S : Nat) (t : State) (o : Outcome) : Prop := ∃ v L, o = .returned v ∧ Q v t.heap L ∧ FrameEnd s o t L C S
theorem Go.of {T' : State} {g g' : JFrame} (h : ∀ t, Steps p.tables e below (T'.setTop g') t → Steps p.tables e below (T.setTop g) t) (k : Go p e below F T' g') : Go p e below F T g := by
  obtain ⟨t, o, h1, h2⟩ := k
  exact ⟨t, o, h _ h1, h2⟩
theorem Go.cast {g g' : JFrame} (q : g = g') (k : Go p e below F T g') : Go p e below F T g := q ▸ k
theorem Go.ret (X : Stand p l e R s m args below meth c T locs cells slots) {v : Option Value} {g : JFrame} (hlk : meth.locks = false) (hv : meth.sig.returnType = none → v = none)
    (st : ∀ fs, (∀ (f : JFrame) (acts : List Action), f.method = m → f.locked = none → f.entered = [] → (doReturn e (T.setTop f) acts v).1 = T.setFrames fs) → Steps p.tables e below (T.setTop g) (T.setFrames fs))
    (hc : cells ≤ C) (hs : slots ≤ S) (hQ : Q v T.heap locs) : Go p e below (FN s Q C S) T g := by
  obtain ⟨fs, hr, hrun, hended, hW, hsame⟩ := X.leave (v := v) hv hlk
  exact ⟨_, _, st fs hr, hrun, hended, _, _, rfl, hQ, ⟨_, rfl⟩, hW, hsame.mono hc hs⟩
theorem Go.retI (X : Stand p l e R s m args below meth c T locs cells slots) (hx : p.tables.exec = Jvm.exec) (hlk : meth.locks = false) {pc : Nat} {Ls : Array Slot} {z : Int32} {rest : List Value} (hret : meth.sig.returnType = some .int) (hd : decode c.code pc = .ok (.ireturn, 1))
    (hc : cells ≤ C) (hs : slots ≤ S) (hQ : Q (some (.int z)) T.heap locs) : Go p e below (FN s Q C S) T (mkF m pc Ls (.int z :: rest)) :=
  Go.ret X hlk (fun h => by rw [hret] at h; cases h) (fun _ hr => retOut X hx hret rfl (Or.inl ⟨rfl, Or.inl rfl, _, rfl⟩) hd hr) hc hs hQ
theorem Go.retN (X : Stand p l e R s m args below meth c T locs cells slots) (hx : p.tables.exec = Jvm.exec) (hlk : meth.locks = false) {pc : Nat} {Ls : Array Slot} {z : Int32} {rest : List Value} {t : FieldType} (hret : meth.sig.returnType = some t) (ht : t = .boolean ∨ t = .byte ∨ t = .char ∨ t = .short) (hd : decode c.code pc = .ok (.ireturn, 1))
    (hc : cells ≤ C) (hs : slots ≤ S) (hQ : Q (some (.int (nar t z))) T.heap locs) : Go p e below (FN s Q C S) T (mkF m pc Ls (.int z :: rest)) :=
  Go.ret X hlk (fun h => by rw [hret] at h; cases h) (fun _ hr => Jvm.RoadKit.retN X hx hret ht hd hr) hc hs hQ
theorem Go.retV (X : Stand p l e R s m args below meth c T locs cells slots) (hx : p.tables.exec = Jvm.exec) (hlk : meth.locks = false) {pc : Nat} {Ls : Array Slot} (hret : meth.sig.returnType = none) (hd : decode c.code pc = .ok (.return_, 1))
    (hc : cells ≤ C) (hs : slots ≤ S) (hQ : Q none T.heap locs) : Go p e below (FN s Q C S) T (mkF m pc Ls []) :=
  Go.ret X hlk (fun _ => rfl) (fun _ hr => X.returnOut hx hret hd hr) hc hs hQ
/-- a body's contract at given arguments and a given heap -/
def Ct (l : Launch) (y : MethodName) (bytes : ByteArray) (maxL : Nat) (ret : Option FieldType) (rm : Room) (Z : State) (h0 : Heap) (as' : Array Value) (Q : Option Value → Heap → List Loc → Prop) : Prop :=
  ∀ ws, MetFree l y (head1 (Jvm.Cond.code y bytes maxL ret :: ws) rm) (fun a U => a = as' ∧ Z.Warmed39 U.vm ∧ U.heap = h0) (fun _ _ _ _ _ => True) (fun _ U o U' => ∃ v L, o = .returned v ∧ Q v U'.heap L ∧ FrameEnd U o U' L rm.cells rm.slots)
theorem Ct.body {y : MethodName} {bytes : ByteArray} {maxL : Nat} {ret : Option FieldType} {rm : Room} {as' : Array Value} (hpl : plainFor y = true)
    (k : ∀ (p : Program) (e : Env) (s : State) (m : MethodId) (below : List Frame) (meth : Method) (c : Code) (T : State), p.tables.exec = Jvm.exec → c.code = bytes → c.maxLocals = maxL → s.vm.findClass y.cls = some m.cls → meth.name = y.name → meth.sig.returnType = ret → meth.locks = false → Z.Warmed39 s.vm →
      Stand p l e rm s m as' below meth c T [] 0 0 → T.heap = h → Go p e below (FN s Q rm.cells rm.slots) T (entryFrame m as' maxL)) : Ct l y bytes maxL ret rm Z h as' Q := fun ws => by
  refine MetFree.of_bodySF hpl hisR ?_
  intro p e s m args below meth c s₁ Bd hml0 hP hK
  obtain ⟨rfl, hZ, hh⟩ := hP
  exact k p e s m below meth c s₁ Bd.exec Bd.bytes hml0 (findClass_of_methodNamed Bd.named) (name_of_methodNamed Bd.named Bd.method).1 Bd.returns Bd.notSynchronized hZ (Stand.of_body Bd) (by rw [← hh, Bd.state]; rfl)
theorem Go.callS (X : Stand p l e R s m args below meth c T locs cells slots) (hx : p.tables.exec = Jvm.exec) (hZ : Z.Warmed39 s.vm) {own : String} {index : Nat} {y : MethodName} {bytes : ByteArray} {maxL : Nat} {ret : Option FieldType} (hown : s.vm.findClass own = some m.cls)
    (wl : (Jvm.Cond.methodLink own index y).before a0 Z = true) (wst : (Jvm.Cond.static y).before a0 Z = true) (wz : (Jvm.Cond.initialized y.cls).before a0 Z = true) (wc : (Jvm.Cond.code y bytes maxL ret).before a0 Z = true) (hy : y.cls ≠ "java/lang/invoke/MethodHandle" ∧ y.cls ≠ "java/lang/invoke/VarHandle")
    (eT : T.heap = h) {rm : Room} {argsL rest : List Value} {Q' : Option Value → Heap → List Loc → Prop} (hC : Ct l y bytes maxL ret rm Z h argsL.toArray Q') {pc : Nat} {Ls : Array Slot} {st : List Value} (hsz : Ls.size = c.maxLocals)
    (hlen : ∀ sig, parseMethodDescriptor y.desc = some sig → argsL.length = sig.parameters.length) (hst : st = argsL.reverse ++ rest) (hd : decode c.code pc = .ok (.invokestatic index, 3)) (hf : rm.frames + 1 ≤ R.frames) (hl : (rest.map fun v => v.category).sum + (maxL + 11) + rm.locals ≤ R.locals) (hc : cells + rm.cells ≤ R.cells) (hs : slots + rm.slots ≤ R.slots)
    (k : ∀ v T' L, Q' v T'.heap L → Stand p l e R s m args below meth c T' (locs ++ L) (cells + rm.cells) (slots + rm.slots) → Go p e below F T' (mkF m (pc + 3) Ls (v.toList ++ rest))) :
    Go p e below F T (mkF m pc Ls st) := by
  obtain ⟨v, _, ⟨T', L', k', n'⟩, -, X', ⟨L, hQ, l1, y1, z1⟩, stp⟩ := Jvm.LawKit.callS X hx (y := y) hown (mvT hZ wl) (mvT hZ wst) (mvT hZ wz) (mvT hZ wc) hy (backOf (W := (rest.map fun v => v.category).sum) (hC []) hZ wc wz hf hl) (g := mkF m pc Ls st) rfl hsz (argsL := argsL) (rest := rest) hlen hst (by show 2 * 0 + _ ≤ _; exact Nat.le_of_eq (Nat.zero_add _)) hd (fun _ _ => ⟨rfl, eT, hc, hs⟩)
  dsimp only [Pt.U, Pt.locs, Pt.cells, Pt.slots] at X' l1 y1 z1 stp hQ
  subst l1 y1 z1
  exact Go.of stp (k _ _ _ hQ X')
theorem Go.callV (X : Stand p l e R s m args below meth c T locs cells slots) (hx : p.tables.exec = Jvm.exec) (hZ : Z.Warmed39 s.vm) {own K : String} {index : Nat} {y z : MethodName} {bytes : ByteArray} {maxL : Nat} {ret : Option FieldType} (hown : s.vm.findClass own = some m.cls)
    (wl : (Jvm.Cond.methodLink own index y).before a0 Z = true) (wd : (Jvm.Cond.declares y).before a0 Z = true) (nf : NotFace s y) (wsel : (Jvm.Cond.selects K y z).before a0 Z = true) (wim : (Jvm.Cond.instanceMethod z).before a0 Z = true) (wc : (Jvm.Cond.code z bytes maxL ret).before a0 Z = true) (wz : (Jvm.Cond.initialized z.cls).before a0 Z = true) (hy : y.cls ≠ "java/lang/invoke/MethodHandle" ∧ y.cls ≠ "java/lang/invoke/VarHandle")
    (eT : T.heap = h) {b : Addr} (E : Exa Z h b K) {rm : Room} {argsL rest : List Value} {Q' : Option Value → Heap → List Loc → Prop} (hC : Ct l z bytes maxL ret rm Z h (.ref b :: argsL).toArray Q') {pc : Nat} {Ls : Array Slot} {st : List Value} (hsz : Ls.size = c.maxLocals)
    (hlen : ∀ sig, parseMethodDescriptor y.desc = some sig → argsL.length = sig.parameters.length) (hst : st = argsL.reverse ++ .ref b :: rest) (hd : decode c.code pc = .ok (.invokevirtual index, 3)) (hf : rm.frames + 1 ≤ R.frames) (hl : (rest.map fun v => v.category).sum + (maxL + 11) + rm.locals ≤ R.locals) (hc : cells + rm.cells ≤ R.cells) (hs : slots + rm.slots ≤ R.slots)
    (k : ∀ v T' L, Q' v T'.heap L → Stand p l e R s m args below meth c T' (locs ++ L) (cells + rm.cells) (slots + rm.slots) → Go p e below F T' (mkF m (pc + 3) Ls (v.toList ++ rest))) :
    Go p e below F T (mkF m pc Ls st) := by
  obtain ⟨cq, kq, qa, qb, qc⟩ := isOf hZ eT E
  obtain ⟨v, _, ⟨T', L', k', n'⟩, -, X', ⟨L, hQ, l1, y1, z1⟩, stp⟩ := X.virtualBack hx (y := y) (z := z) hown (mvT hZ wl) (mvT hZ wd) nf (mvT hZ wsel) (mvT hZ wim) hy (backOf (W := (rest.map fun v => v.category).sum) (hC []) hZ wc wz hf hl) qa qc (g := mkF m pc Ls st) rfl hsz (Steps.refl _) (argsL := argsL) (rest := rest) hlen hst (by show 2 * 0 + _ ≤ _; exact Nat.le_of_eq (Nat.zero_add _)) hd (fun _ _ => ⟨rfl, eT, hc, hs⟩)
  dsimp only [Pt.U, Pt.locs, Pt.cells, Pt.slots] at X' l1 y1 z1 stp hQ
  subst l1 y1 z1
  exact Go.of (fun t q => stp.trans q) (k _ _ _ hQ X')
theorem Go.callP (X : Stand p l e R s m args below meth c T locs cells slots) (hx : p.tables.exec = Jvm.exec) (hZ : Z.Warmed39 s.vm) {own : String} {index kk : Nat} {y : MethodName} {bytes : ByteArray} {maxL : Nat} {ret : Option FieldType} (hown : s.vm.findClass own = some m.cls)
    (wl : (Jvm.Cond.methodLink own index y).before a0 Z = true) (wim : (Jvm.Cond.instanceMethod y).before a0 Z = true) (wp : (Jvm.Cond.privateMethod y).before a0 Z = true) (wi : (Jvm.Cond.instantiable y.cls kk).before a0 Z = true) (wc : (Jvm.Cond.code y bytes maxL ret).before a0 Z = true) (wz : (Jvm.Cond.initialized y.cls).before a0 Z = true) (hy : y.cls ≠ "java/lang/invoke/MethodHandle" ∧ y.cls ≠ "java/lang/invoke/VarHandle")
    (eT : T.heap = h) {b : Addr} {K : String} (E : Exa Z h b K) {rm : Room} {argsL rest : List Value} {Q' : Option Value → Heap → List Loc → Prop} (hC : Ct l y bytes maxL ret rm Z h (.ref b :: argsL).toArray Q') {pc : Nat} {Ls : Array Slot} {st : List Value} (hsz : Ls.size = c.maxLocals)
    (hlen : ∀ sig, parseMethodDescriptor y.desc = some sig → argsL.length = sig.parameters.length) (hst : st = argsL.reverse ++ .ref b :: rest) (hd : decode c.code pc = .ok (.invokevirtual index, 3)) (hf : rm.frames + 1 ≤ R.frames) (hl : (rest.map fun v => v.category).sum + (maxL + 11) + rm.locals ≤ R.locals) (hc : cells + rm.cells ≤ R.cells) (hs : slots + rm.slots ≤ R.slots)
    (k : ∀ v T' L, Q' v T'.heap L → Stand p l e R s m args below meth c T' (locs ++ L) (cells + rm.cells) (slots + rm.slots) → Go p e below F T' (mkF m (pc + 3) Ls (v.toList ++ rest))) :
    Go p e below F T (mkF m pc Ls st) := by
  have wi' : (Jvm.Cond.instantiable y.cls kk).before args s = true := mvT hZ wi
  obtain ⟨c0, k0, f1, f2, -, f4, -, -⟩ := Jvm.Cond.instantiable_spec wi'
  have hpr := Jvm.Cond.privateMethod_at (mvP (args := #[]) hZ wp)
  have hsel : (Jvm.Cond.selects y.cls y y).before args s = true := selects_self_of_private f1 f2 (Bool.or_eq_false_iff.mp f4).1 hpr (mvT hZ wim) hy
  obtain ⟨cq, hq, hq'⟩ := E.cell
  obtain ⟨v, _, ⟨T', L', k', n'⟩, -, X', ⟨L, hQ, l1, y1, z1⟩, stp⟩ := X.privateBack hx (y := y) hown (mvT hZ wl) (mvT hZ wim) hsel hpr (mvT hZ wc) hy (backOf (W := (rest.map fun v => v.category).sum) (hC []) hZ wc wz hf hl) (g := mkF m pc Ls st) rfl hsz (Steps.refl _) (a := b) (by rw [eT]; exact hq) hq' (argsL := argsL) (rest := rest) hlen hst (by show 2 * 0 + _ ≤ _; exact Nat.le_of_eq (Nat.zero_add _)) hd (fun _ _ => ⟨rfl, eT, hc, hs⟩)
  dsimp only [Pt.U, Pt.locs, Pt.cells, Pt.slots] at X' l1 y1 z1 stp hQ
  subst l1 y1 z1
  exact Go.of (fun t q => stp.trans q) (k _ _ _ hQ X')
theorem Go.callC (X : Stand p l e R s m args below meth c T locs cells slots) (hx : p.tables.exec = Jvm.exec) (hZ : Z.Warmed39 s.vm) {own : String} {index : Nat} {y : MethodName} {bytes : ByteArray} {maxL : Nat} (hy1 : y.name = "<init>") (hown : s.vm.findClass own = some m.cls)
    (wl : (Jvm.Cond.methodLink own index y).before a0 Z = true) (wim : (Jvm.Cond.instanceMethod y).before a0 Z = true) (wc : (Jvm.Cond.code y bytes maxL none).before a0 Z = true) (wz : (Jvm.Cond.initialized y.cls).before a0 Z = true) (hy : y.cls ≠ "java/lang/invoke/MethodHandle" ∧ y.cls ≠ "java/lang/invoke/VarHandle")
    (eT : T.heap = h) {b : Addr} {rm : Room} {argsL rest : List Value} {Q' : Option Value → Heap → List Loc → Prop} (hC : Ct l y bytes maxL none rm Z h (.ref b :: argsL).toArray Q') {pc : Nat} {Ls : Array Slot} {st : List Value} (hsz : Ls.size = c.maxLocals)
    (hlen : ∀ sig, parseMethodDescriptor y.desc = some sig → argsL.length = sig.parameters.length) (hst : st = argsL.reverse ++ .ref b :: rest) (hd : decode c.code pc = .ok (.invokespecial index, 3)) (hf : rm.frames + 1 ≤ R.frames) (hl : (rest.map fun v => v.category).sum + (maxL + 11) + rm.locals ≤ R.locals) (hc : cells + rm.cells ≤ R.cells) (hs : slots + rm.slots ≤ R.slots)
    (k : ∀ v T' L, Q' v T'.heap L → Stand p l e R s m args below meth c T' (locs ++ L) (cells + rm.cells) (slots + rm.slots) → Go p e below F T' (mkF m (pc + 3) Ls (v.toList ++ rest))) :
    Go p e below F T (mkF m pc Ls st) := by
  obtain ⟨v, _, ⟨T', L', k', n'⟩, -, X', ⟨L, hQ, l1, y1, z1⟩, stp⟩ := X.specialBack hx (y := y) hy1 hown (mvT hZ wl) (mvT hZ wim) (mvT hZ wc) hy (backOf (W := (rest.map fun v => v.category).sum) (hC []) hZ wc wz hf hl) (g := mkF m pc Ls st) rfl hsz (Steps.refl _) (a := b) (argsL := argsL) (rest := rest) hlen hst (by show 2 * 0 + _ ≤ _; exact Nat.le_of_eq (Nat.zero_add _)) hd (fun _ _ => ⟨rfl, eT, hc, hs⟩)
  dsimp only [Pt.U, Pt.locs, Pt.cells, Pt.slots] at X' l1 y1 z1 stp hQ
  subst l1 y1 z1
  exact Go.of (fun t q => stp.trans q) (k _ _ _ hQ X')
theorem Go.getF (X : Stand p l e R s m args below meth c T locs cells slots) (hx : p.tables.exec = Jvm.exec) (hZ : Z.Warmed39 s.vm) {own R0 O n d : String} {index : Nat} (hown : s.vm.findClass own = some m.cls) (w : (Jvm.Cond.fieldLink own index R0 n d).before a0 Z = true) (via : Via Z R0 O n d)
    (eT : T.heap = h) {a : Addr} {v : Value} (fF : Fld Z h a O n d v) {pc : Nat} {Ls : Array Slot} {rest : List Value} (hd : decode c.code pc = .ok (.getfield index, 3))
    (k : ∀ T', Stand p l e R s m args below meth c T' locs cells slots → T'.heap = h → Go p e below F T' (mkF m (pc + 3) Ls (v :: rest))) : Go p e below F T (mkF m pc Ls (.ref a :: rest)) := by
  obtain ⟨T', X', e', st⟩ := Jvm.RoadKit.getF X hx hZ hown (host := "") (Or.inl w) via eT fF (g := mkF m pc Ls (.ref a :: rest)) rfl rfl hd
  exact Go.of st (k _ X' e')
theorem Go.putF (X : Stand p l e R s m args below meth c T locs cells slots) (hx : p.tables.exec = Jvm.exec) (hZ : Z.Warmed39 s.vm) {own R0 O n d K : String} {index kk : Nat} {ty : FieldType} (hown : s.vm.findClass own = some m.cls) (w : (Jvm.Cond.fieldLink own index R0 n d).before a0 Z = true) (via : Via Z R0 O n d)
    (eT : T.heap = h) {a : Addr} {v old : Value} (fF : Fld Z h a O n d old) (E : Exa Z h a K) (L : (Jvm.Cond.lays K O n d).before a0 Z = true ∨ ((Jvm.Cond.laysFinal K O n d).before a0 Z = true ∧ own = O ∧ meth.name = "<init>")) (wi : (Jvm.Cond.instantiable K kk).before a0 Z = true)
    (hty : parseFieldDescriptor d = some ty) (hn : narrow ty v = v) (hf : fits ty v = true) {pc : Nat} {Ls : Array Slot} {rest : List Value} (hd : decode c.code pc = .ok (.putfield index, 3))
    (k : ∀ T' h', Stand p l e R s m args below meth c T' (locs ++ [⟨a, Jvm.RoadKit.slotOf Z O n d⟩]) cells slots → T'.heap = h' → Wr h h' a (Jvm.RoadKit.slotOf Z O n d) v → Go p e below F T' (mkF m (pc + 3) Ls rest)) : Go p e below F T (mkF m pc Ls (v :: .ref a :: rest)) := by
  obtain ⟨T', h', X', e', W', st⟩ := Jvm.RoadKit.putF X hx hZ hown (host := "") (Or.inl w) via eT fF E L wi hty hn hf (g := mkF m pc Ls (v :: .ref a :: rest)) rfl rfl hd
  exact Go.of st (k _ _ X' e' W')
theorem Go.newO (X : Stand p l e R s m args below meth c T locs cells slots) (hx : p.tables.exec = Jvm.exec) (hZ : Z.Warmed39 s.vm) {own K : String} {index n : Nat} (hown : s.vm.findClass own = some m.cls) (w : (Jvm.Cond.classLink own index K).before a0 Z = true) (wi : (Jvm.Cond.instantiable K n).before a0 Z = true) (wz : (Jvm.Cond.initialized K).before a0 Z = true) (eT : T.heap = h)
    {pc : Nat} {Ls : Array Slot} {rest : List Value} (hd : decode c.code pc = .ok (.new index, 3)) (hc : cells + 1 ≤ R.cells) (hl : slots + n ≤ R.slots)
    (k : ∀ T' h' a, a = h.size → Stand p l e R s m args below meth c T' locs (cells + 1) (slots + n) → T'.heap = h' → Ext h h' → Exa Z h' a K → (∀ {O nm d : String} {ty : FieldType}, Laid Z a0 K O nm d → parseFieldDescriptor d = some ty → Fld Z h' a O nm d (defaultValue ty)) → Go p e below F T' (mkF m (pc + 3) Ls (.ref a :: rest))) : Go p e below F T (mkF m pc Ls rest) := by
  obtain ⟨T', h', X', e', E', A', D', -, st⟩ := Jvm.RoadKit.newO X hx hZ hown w wi wz eT (g := mkF m pc Ls rest) rfl hd hc hl
  exact Go.of st (k _ _ _ rfl X' e' E' A' D')
theorem Go.initO (X : Stand p l e R s m args below meth c T locs cells slots) (hx : p.tables.exec = Jvm.exec) (hZ : Z.Warmed39 s.vm) {own : String} {idx : Nat} (hown : s.vm.findClass own = some m.cls) (w1 : (Jvm.Cond.methodLink own idx Lib.objectInit).before a0 Z = true) (w2 : (Jvm.Cond.instanceMethod Lib.objectInit).before a0 Z = true)
    (w3 : (Jvm.Cond.code Lib.objectInit ⟨#[0xb1]⟩ 1 none).before a0 Z = true) (eT : T.heap = h) {a : Addr} {pc : Nat} {Ls : Array Slot} {rest : List Value} (hsz : Ls.size = c.maxLocals) (hd : decode c.code pc = .ok (.invokespecial idx, 3)) (hf : 1 ≤ R.frames) (hl : (rest.map fun v => v.category).sum + 12 ≤ R.locals)
    (k : ∀ T', Stand p l e R s m args below meth c T' locs cells slots → T'.heap = h → Go p e below F T' (mkF m (pc + 3) Ls rest)) : Go p e below F T (mkF m pc Ls (.ref a :: rest)) := by
  obtain ⟨T', X', e', st⟩ := Jvm.RoadKit.initO X hx hZ hown w1 w2 w3 eT (g := mkF m pc Ls (.ref a :: rest)) rfl hsz rfl hd hf (W := (rest.map fun v => v.category).sum) (by show 2 * 0 + _ ≤ _; exact Nat.le_of_eq (Nat.zero_add _)) hl
  exact Go.of st (k _ X' e')
end OwnKit
section OwnSteps
variable {p : Program} {l : Launch} {e : Env} {R : Room} {s : State} {m : MethodId} {args : Array Value} {below : List Frame} {meth : Method} {c : Code} {T : State} {locs : List Loc} {cells slots : Nat} {Z : State} {a0 : Array Value} {h : Heap} {F : State → Outcome → Prop}
theorem w_ {Z : State} {a0 : Array Value} {ts : List Jvm.Cond} (hw : ∀ d ∈ ts, d.before a0 Z = true) {d : Jvm.Cond} (i : Nat) (h : ts[i]? = some d) : d.before a0 Z = true := hw _ (List.mem_of_getElem? h)
theorem Go.s_iloadN (X : Stand p l e R s m args below meth c T locs cells slots) (hx : p.tables.exec = Jvm.exec) {pc q : Nat} {Ls : Array Slot} {st : List Value} {k : Fin 4} {v : Int32} (hd : decode c.code pc = .ok (.iload_n k, 1)) (hq : pc + 1 = q) (hl : Ls[k.val]? = some (.val (.int v))) (K : Go p e below F T (mkF m q Ls (.int v :: st))) : Go p e below F T (mkF m pc Ls (st)) := by
  subst hq
  exact Go.of (fun t k => XS.iloadN X.here hx rfl hd hl k) K
theorem Go.s_iload (X : Stand p l e R s m args below meth c T locs cells slots) (hx : p.tables.exec = Jvm.exec) {pc q : Nat} {Ls : Array Slot} {st : List Value} {k : Nat} {v : Int32} (hd : decode c.code pc = .ok (.iload k, 2)) (hq : pc + 2 = q) (hl : Ls[k]? = some (.val (.int v))) (K : Go p e below F T (mkF m q Ls (.int v :: st))) : Go p e below F T (mkF m pc Ls (st)) := by
  subst hq
  exact Go.of (fun t k => XS.iload X.here hx rfl hd hl k) K
theorem Go.s_lloadN (X : Stand p l e R s m args below meth c T locs cells slots) (hx : p.tables.exec = Jvm.exec) {pc q : Nat} {Ls : Array Slot} {st : List Value} {k : Fin 4} {v : Int64} (hd : decode c.code pc = .ok (.lload_n k, 1)) (hq : pc + 1 = q) (hl : Ls[k.val]? = some (.val (.long v))) (K : Go p e below F T (mkF m q Ls (.long v :: st))) : Go p e below F T (mkF m pc Ls (st)) := by
  subst hq
  exact Go.of (fun t k => XS.lloadN X.here hx rfl hd hl k) K
theorem Go.s_aloadN (X : Stand p l e R s m args below meth c T locs cells slots) (hx : p.tables.exec = Jvm.exec) {pc q : Nat} {Ls : Array Slot} {st : List Value} {k : Fin 4} {v : Value} (hd : decode c.code pc = .ok (.aload_n k, 1)) (hq : pc + 1 = q) (hl : Ls[k.val]? = some (.val v)) (hv : v.isRef = true) (K : Go p e below F T (mkF m q Ls (v :: st))) : Go p e below F T (mkF m pc Ls (st)) := by
  subst hq
  exact Go.of (fun t k => XS.aloadN X.here hx rfl hd hl hv k) K
theorem Go.s_aload (X : Stand p l e R s m args below meth c T locs cells slots) (hx : p.tables.exec = Jvm.exec) {pc q : Nat} {Ls : Array Slot} {st : List Value} {k : Nat} {v : Value} (hd : decode c.code pc = .ok (.aload k, 2)) (hq : pc + 2 = q) (hl : Ls[k]? = some (.val v)) (hv : v.isRef = true) (K : Go p e below F T (mkF m q Ls (v :: st))) : Go p e below F T (mkF m pc Ls (st)) := by
  subst hq
  exact Go.of (fun t k => XS.aload X.here hx rfl hd hl hv k) K
theorem Go.s_istoreN (X : Stand p l e R s m args below meth c T locs cells slots) (hx : p.tables.exec = Jvm.exec) {pc q : Nat} {Ls : Array Slot} {st : List Value} {k : Fin 4} {x : Int32} {l' : Array Slot} (hd : decode c.code pc = .ok (.istore_n k, 1)) (hq : pc + 1 = q) (hl : storeLocals Ls k.val (.int x) = some l') (K : Go p e below F T (mkF m q l' (st))) : Go p e below F T (mkF m pc Ls (.int x :: st)) := by
  subst hq
  exact Go.of (fun t k => XS.istoreN X.here hx rfl hd rfl hl k) K
theorem Go.s_istore (X : Stand p l e R s m args below meth c T locs cells slots) (hx : p.tables.exec = Jvm.exec) {pc q : Nat} {Ls : Array Slot} {st : List Value} {k : Nat} {x : Int32} {l' : Array Slot} (hd : decode c.code pc = .ok (.istore k, 2)) (hq : pc + 2 = q) (hl : storeLocals Ls k (.int x) = some l') (K : Go p e below F T (mkF m q l' (st))) : Go p e below F T (mkF m pc Ls (.int x :: st)) := by
  subst hq
  exact Go.of (fun t k => XS.istore X.here hx rfl hd rfl hl k) K
theorem Go.s_astoreN (X : Stand p l e R s m args below meth c T locs cells slots) (hx : p.tables.exec = Jvm.exec) {pc q : Nat} {Ls : Array Slot} {st : List Value} {k : Fin 4} {x : Value} {l' : Array Slot} (hd : decode c.code pc = .ok (.astore_n k, 1)) (hq : pc + 1 = q) (hv : x.isRef = true) (hl : storeLocals Ls k.val x = some l') (K : Go p e below F T (mkF m q l' (st))) : Go p e below F T (mkF m pc Ls (x :: st)) := by
  subst hq
  exact Go.of (fun t k => XS.astoreN X.here hx rfl hd rfl hv hl k) K
theorem Go.s_astore (X : Stand p l e R s m args below meth c T locs cells slots) (hx : p.tables.exec = Jvm.exec) {pc q : Nat} {Ls : Array Slot} {st : List Value} {k : Nat} {x : Value} {l' : Array Slot} (hd : decode c.code pc = .ok (.astore k, 2)) (hq : pc + 2 = q) (hv : x.isRef = true) (hl : storeLocals Ls k x = some l') (K : Go p e below F T (mkF m q l' (st))) : Go p e below F T (mkF m pc Ls (x :: st)) := by
  subst hq
  exact Go.of (fun t k => XS.astore X.here hx rfl hd rfl hv hl k) K
theorem Go.s_iconst (X : Stand p l e R s m args below meth c T locs cells slots) (hx : p.tables.exec = Jvm.exec) {pc q : Nat} {Ls : Array Slot} {st : List Value} {i : Int} {z : Int32} (hd : decode c.code pc = .ok (.iconst i, 1)) (hq : pc + 1 = q) (hz : Int32.ofInt i = z) (K : Go p e below F T (mkF m q Ls (.int z :: st))) : Go p e below F T (mkF m pc Ls (st)) := by
  subst hq
  exact Go.of (fun t k => XS.iconst X.here hx rfl hd (hz ▸ k)) K
theorem Go.s_bipush (X : Stand p l e R s m args below meth c T locs cells slots) (hx : p.tables.exec = Jvm.exec) {pc q : Nat} {Ls : Array Slot} {st : List Value} {i : Int} {z : Int32} (hd : decode c.code pc = .ok (.bipush i, 2)) (hq : pc + 2 = q) (hz : (Int8.ofInt i).toInt32 = z) (K : Go p e below F T (mkF m q Ls (.int z :: st))) : Go p e below F T (mkF m pc Ls (st)) := by
  subst hq
  exact Go.of (fun t k => XS.bipush X.here hx rfl hd (hz ▸ k)) K
theorem Go.s_lconst (X : Stand p l e R s m args below meth c T locs cells slots) (hx : p.tables.exec = Jvm.exec) {pc q : Nat} {Ls : Array Slot} {st : List Value} {i : Fin 2} {z : Int64} (hd : decode c.code pc = .ok (.lconst i, 1)) (hq : pc + 1 = q) (hz : Int64.ofNat i = z) (K : Go p e below F T (mkF m q Ls (.long z :: st))) : Go p e below F T (mkF m pc Ls (st)) := by
  subst hq
  exact Go.of (fun t k => XS.lconst X.here hx rfl hd (hz ▸ k)) K
theorem Go.s_aconst_null (X : Stand p l e R s m args below meth c T locs cells slots) (hx : p.tables.exec = Jvm.exec) {pc q : Nat} {Ls : Array Slot} {st : List Value}  (hd : decode c.code pc = .ok (.aconst_null, 1)) (hq : pc + 1 = q)  (K : Go p e below F T (mkF m q Ls (.null :: st))) : Go p e below F T (mkF m pc Ls (st)) := by
  subst hq
  exact Go.of (fun t k => XS.aconstNull X.here hx rfl hd k) K
theorem Go.s_iadd (X : Stand p l e R s m args below meth c T locs cells slots) (hx : p.tables.exec = Jvm.exec) {pc q : Nat} {Ls : Array Slot} {st : List Value} {x y : Int32} (hd : decode c.code pc = .ok (.iadd, 1)) (hq : pc + 1 = q)  (K : Go p e below F T (mkF m q Ls (.int (x + y) :: st))) : Go p e below F T (mkF m pc Ls (.int y :: .int x :: st)) := by
  subst hq
  exact Go.of (fun t k => XS.iadd X.here hx rfl hd rfl k) K
theorem Go.s_ladd (X : Stand p l e R s m args below meth c T locs cells slots) (hx : p.tables.exec = Jvm.exec) {pc q : Nat} {Ls : Array Slot} {st : List Value} {x y : Int64} (hd : decode c.code pc = .ok (.ladd, 1)) (hq : pc + 1 = q)  (K : Go p e below F T (mkF m q Ls (.long (x + y) :: st))) : Go p e below F T (mkF m pc Ls (.long y :: .long x :: st)) := by
  subst hq
  exact Go.of (fun t k => XS.ladd X.here hx rfl hd rfl k) K
theorem Go.s_isub (X : Stand p l e R s m args below meth c T locs cells slots) (hx : p.tables.exec = Jvm.exec) {pc q : Nat} {Ls : Array Slot} {st : List Value} {x y : Int32} (hd : decode c.code pc = .ok (.isub, 1)) (hq : pc + 1 = q)  (K : Go p e below F T (mkF m q Ls (.int (x - y) :: st))) : Go p e below F T (mkF m pc Ls (.int y :: .int x :: st)) := by
  subst hq
  exact Go.of (fun t k => XS.isub X.here hx rfl hd rfl k) K
theorem Go.s_lsub (X : Stand p l e R s m args below meth c T locs cells slots) (hx : p.tables.exec = Jvm.exec) {pc q : Nat} {Ls : Array Slot} {st : List Value} {x y : Int64} (hd : decode c.code pc = .ok (.lsub, 1)) (hq : pc + 1 = q)  (K : Go p e below F T (mkF m q Ls (.long (x - y) :: st))) : Go p e below F T (mkF m pc Ls (.long y :: .long x :: st)) := by
  subst hq
  exact Go.of (fun t k => XS.lsub X.here hx rfl hd rfl k) K
theorem Go.s_imul (X : Stand p l e R s m args below meth c T locs cells slots) (hx : p.tables.exec = Jvm.exec) {pc q : Nat} {Ls : Array Slot} {st : List Value} {x y : Int32} (hd : decode c.code pc = .ok (.imul, 1)) (hq : pc + 1 = q)  (K : Go p e below F T (mkF m q Ls (.int (x * y) :: st))) : Go p e below F T (mkF m pc Ls (.int y :: .int x :: st)) := by
  subst hq
  exact Go.of (fun t k => XS.imul X.here hx rfl hd rfl k) K
theorem Go.s_iand (X : Stand p l e R s m args below meth c T locs cells slots) (hx : p.tables.exec = Jvm.exec) {pc q : Nat} {Ls : Array Slot} {st : List Value} {x y : Int32} (hd : decode c.code pc = .ok (.iand, 1)) (hq : pc + 1 = q)  (K : Go p e below F T (mkF m q Ls (.int (x &&& y) :: st))) : Go p e below F T (mkF m pc Ls (.int y :: .int x :: st)) := by
  subst hq
  exact Go.of (fun t k => XS.iand X.here hx rfl hd rfl k) K
theorem Go.s_ishl (X : Stand p l e R s m args below meth c T locs cells slots) (hx : p.tables.exec = Jvm.exec) {pc q : Nat} {Ls : Array Slot} {st : List Value} {x y : Int32} (hd : decode c.code pc = .ok (.ishl, 1)) (hq : pc + 1 = q)  (K : Go p e below F T (mkF m q Ls (.int (x <<< (y &&& 31)) :: st))) : Go p e below F T (mkF m pc Ls (.int y :: .int x :: st)) := by
  subst hq
  exact Go.of (fun t k => XS.ishl X.here hx rfl hd rfl k) K
theorem Go.s_ishr (X : Stand p l e R s m args below meth c T locs cells slots) (hx : p.tables.exec = Jvm.exec) {pc q : Nat} {Ls : Array Slot} {st : List Value} {x y : Int32} (hd : decode c.code pc = .ok (.ishr, 1)) (hq : pc + 1 = q)  (K : Go p e below F T (mkF m q Ls (.int (x >>> (y &&& 31)) :: st))) : Go p e below F T (mkF m pc Ls (.int y :: .int x :: st)) := by
  subst hq
  exact Go.of (fun t k => XS.ishr X.here hx rfl hd rfl k) K
theorem Go.s_i2l (X : Stand p l e R s m args below meth c T locs cells slots) (hx : p.tables.exec = Jvm.exec) {pc q : Nat} {Ls : Array Slot} {st : List Value} {x : Int32} (hd : decode c.code pc = .ok (.i2l, 1)) (hq : pc + 1 = q)  (K : Go p e below F T (mkF m q Ls (.long (x.toInt64) :: st))) : Go p e below F T (mkF m pc Ls (.int x :: st)) := by
  subst hq
  exact Go.of (fun t k => XS.i2l X.here hx rfl hd rfl k) K
theorem Go.s_idiv (X : Stand p l e R s m args below meth c T locs cells slots) (hx : p.tables.exec = Jvm.exec) {pc q : Nat} {Ls : Array Slot} {st : List Value} {x y : Int32} (hd : decode c.code pc = .ok (.idiv, 1)) (hq : pc + 1 = q) (hy : y ≠ 0) (K : Go p e below F T (mkF m q Ls (.int (x / y) :: st))) : Go p e below F T (mkF m pc Ls (.int y :: .int x :: st)) := by
  subst hq
  exact Go.of (fun t k => XS.idiv X.here hx rfl hd rfl hy k) K
theorem Go.s_irem (X : Stand p l e R s m args below meth c T locs cells slots) (hx : p.tables.exec = Jvm.exec) {pc q : Nat} {Ls : Array Slot} {st : List Value} {x y : Int32} (hd : decode c.code pc = .ok (.irem, 1)) (hq : pc + 1 = q) (hy : y ≠ 0) (K : Go p e below F T (mkF m q Ls (.int (x % y) :: st))) : Go p e below F T (mkF m pc Ls (.int y :: .int x :: st)) := by
  subst hq
  exact Go.of (fun t k => iremM X hx rfl hd rfl hy k) K
theorem Go.s_iinc (X : Stand p l e R s m args below meth c T locs cells slots) (hx : p.tables.exec = Jvm.exec) {pc q : Nat} {Ls : Array Slot} {st : List Value} {k : Nat} {cst : Int} {x : Int32} {l' : Array Slot} (hd : decode c.code pc = .ok (.iinc k cst, 3)) (hq : pc + 3 = q) (hl : Ls[k]? = some (.val (.int x))) (hl' : storeLocals Ls k (.int (x + Int32.ofInt cst)) = some l') (K : Go p e below F T (mkF m q l' (st))) : Go p e below F T (mkF m pc Ls (st)) := by
  subst hq
  exact Go.of (fun t k => XS.iinc X.here hx rfl hd hl hl' k) K
theorem Go.s_dup (X : Stand p l e R s m args below meth c T locs cells slots) (hx : p.tables.exec = Jvm.exec) {pc q : Nat} {Ls : Array Slot} {st : List Value} {x : Value} (hd : decode c.code pc = .ok (.dup, 1)) (hq : pc + 1 = q) (hc : x.category = 1) (K : Go p e below F T (mkF m q Ls (x :: x :: st))) : Go p e below F T (mkF m pc Ls (x :: st)) := by
  subst hq
  exact Go.of (fun t k => XS.dup X.here hx rfl hd rfl hc k) K
theorem Go.s_dup_x1 (X : Stand p l e R s m args below meth c T locs cells slots) (hx : p.tables.exec = Jvm.exec) {pc q : Nat} {Ls : Array Slot} {st : List Value} {x y : Value} (hd : decode c.code pc = .ok (.dup_x1, 1)) (hq : pc + 1 = q) (hc : x.category = 1) (hc' : y.category = 1) (K : Go p e below F T (mkF m q Ls (x :: y :: x :: st))) : Go p e below F T (mkF m pc Ls (x :: y :: st)) := by
  subst hq
  exact Go.of (fun t k => XS.dupX1 X.here hx rfl hd rfl hc hc' k) K
theorem Go.s_goto (X : Stand p l e R s m args below meth c T locs cells slots) (hx : p.tables.exec = Jvm.exec) {pc q : Nat} {Ls : Array Slot} {st : List Value}  {o : Int} (hd : decode c.code pc = .ok (.goto o, 3)) (ho : 0 ≤ (pc : Int) + o) (hp : ((pc : Int) + o).toNat = q)  (K : Go p e below F T (mkF m q Ls st)) : Go p e below F T (mkF m pc Ls (st)) :=
  Go.of (fun t k => XS.goto X.here hx rfl rfl hd ho hp k) K
theorem Go.s_ifYes (X : Stand p l e R s m args below meth c T locs cells slots) (hx : p.tables.exec = Jvm.exec) {pc q : Nat} {Ls : Array Slot} {st : List Value} {cd : ClassFile.Cond} {x : Int32} {o : Int} (hd : decode c.code pc = .ok (.ifCond cd o, 3)) (ho : 0 ≤ (pc : Int) + o) (hp : ((pc : Int) + o).toNat = q) (hc : ifCond.holds cd x = true) (K : Go p e below F T (mkF m q Ls st)) : Go p e below F T (mkF m pc Ls (.int x :: st)) :=
  Go.of (fun t k => XS.ifYes X.here hx rfl rfl hd rfl hc ho hp k) K
theorem Go.s_icmpYes (X : Stand p l e R s m args below meth c T locs cells slots) (hx : p.tables.exec = Jvm.exec) {pc q : Nat} {Ls : Array Slot} {st : List Value} {cd : ClassFile.Cond} {x y : Int32} {o : Int} (hd : decode c.code pc = .ok (.if_icmp cd o, 3)) (ho : 0 ≤ (pc : Int) + o) (hp : ((pc : Int) + o).toNat = q) (hc : if_icmp.holds cd x y = true) (K : Go p e below F T (mkF m q Ls st)) : Go p e below F T (mkF m pc Ls (.int y :: .int x :: st)) :=
  Go.of (fun t k => XS.icmpYes X.here hx rfl rfl hd rfl hc ho hp k) K
theorem Go.s_ifNo (X : Stand p l e R s m args below meth c T locs cells slots) (hx : p.tables.exec = Jvm.exec) {pc q : Nat} {Ls : Array Slot} {st : List Value} {cd : ClassFile.Cond} {o : Int} {x : Int32} (hd : decode c.code pc = .ok (.ifCond cd o, 3)) (hq : pc + 3 = q) (hc : ifCond.holds cd x = false) (K : Go p e below F T (mkF m q Ls (st))) : Go p e below F T (mkF m pc Ls (.int x :: st)) := by
  subst hq
  exact Go.of (fun t k => XS.ifNo X.here hx rfl hd rfl hc k) K
theorem Go.s_icmpNo (X : Stand p l e R s m args below meth c T locs cells slots) (hx : p.tables.exec = Jvm.exec) {pc q : Nat} {Ls : Array Slot} {st : List Value} {cd : ClassFile.Cond} {o : Int} {x y : Int32} (hd : decode c.code pc = .ok (.if_icmp cd o, 3)) (hq : pc + 3 = q) (hc : if_icmp.holds cd x y = false) (K : Go p e below F T (mkF m q Ls (st))) : Go p e below F T (mkF m pc Ls (.int y :: .int x :: st)) := by
  subst hq
  exact Go.of (fun t k => XS.icmpNo X.here hx rfl hd rfl hc k) K
theorem Go.s_ifnonnullYes (X : Stand p l e R s m args below meth c T locs cells slots) (hx : p.tables.exec = Jvm.exec) {pc q : Nat} {Ls : Array Slot} {st : List Value} {b : Addr} {o : Int} (hd : decode c.code pc = .ok (.ifnonnull o, 3)) (ho : 0 ≤ (pc : Int) + o) (hp : ((pc : Int) + o).toNat = q)  (K : Go p e below F T (mkF m q Ls st)) : Go p e below F T (mkF m pc Ls (.ref b :: st)) :=
  Go.of (fun t k => XS.ifnonnullYes X.here hx rfl rfl hd rfl ho hp k) K
theorem Go.s_ifnonnullNo (X : Stand p l e R s m args below meth c T locs cells slots) (hx : p.tables.exec = Jvm.exec) {pc q : Nat} {Ls : Array Slot} {st : List Value} {o : Int} (hd : decode c.code pc = .ok (.ifnonnull o, 3)) (hq : pc + 3 = q)  (K : Go p e below F T (mkF m q Ls (st))) : Go p e below F T (mkF m pc Ls (.null :: st)) := by
  subst hq
  exact Go.of (fun t k => XS.ifnonnullNo X.here hx rfl hd rfl k) K
theorem Go.s_acmp (X : Stand p l e R s m args below meth c T locs cells slots) (hx : p.tables.exec = Jvm.exec) {pc q : Nat} {Ls : Array Slot} {st : List Value} {cd : ACond} {x y : Value} {o : Int} {same : Bool} (hd : decode c.code pc = .ok (.if_acmp cd o, 3)) (h1 : x.isRef = true) (h2 : y.isRef = true) (hq : decide (x = y) = same) (ho : 0 ≤ (pc : Int) + o) (hp : q = if acV cd same = true then ((pc : Int) + o).toNat else pc + 3) (K : Go p e below F T (mkF m q Ls st)) : Go p e below F T (mkF m pc Ls (y :: x :: st)) :=
  Go.of (fun t k => Jvm.RoadKit.acmp (g := mkF m pc Ls (y :: x :: st)) X hx rfl h1 h2 rfl hd rfl hq ho hp k) K
theorem Go.s_ldc (X : Stand p l e R s m args below meth c T locs cells slots) (hx : p.tables.exec = Jvm.exec) {pc q : Nat} {Ls : Array Slot} {st : List Value} {own : String} {index : Nat} {v : Int32} (hd : decode c.code pc = .ok (.ldc index, 2)) (hq : pc + 2 = q) (hown : s.vm.findClass own = some m.cls) (w : (Jvm.Cond.constant own index v).before args s = true) (K : Go p e below F T (mkF m q Ls (.int v :: st))) : Go p e below F T (mkF m pc Ls st) := by
  subst hq
  exact Go.of (X.ldcInt hx hown w (g := mkF m pc Ls st) rfl hd) K
theorem Go.s_ldc2 (X : Stand p l e R s m args below meth c T locs cells slots) (hx : p.tables.exec = Jvm.exec) {pc q : Nat} {Ls : Array Slot} {st : List Value} {own : String} {index : Nat} {v : Int64} (hd : decode c.code pc = .ok (.ldc2_w index, 3)) (hq : pc + 3 = q) (hown : s.vm.findClass own = some m.cls) (w : (Jvm.Cond.constantLong own index v).before args s = true) (K : Go p e below F T (mkF m q Ls (.long v :: st))) : Go p e below F T (mkF m pc Ls st) := by
  subst hq
  exact Go.of (X.ldc2Long hx hown w (g := mkF m pc Ls st) rfl hd) K
end OwnSteps
section OwnArr
variable {p : Program} {l : Launch} {e : Env} {R : Room} {s : State} {m : MethodId} {args : Array Value} {below : List Frame} {meth : Method} {c : Code} {T : State} {locs : List Loc} {cells slots : Nat} {Z : State} {a0 : Array Value} {h : Heap} {F : State → Outcome → Prop}
theorem Go.newP (X : Stand p l e R s m args below meth c T locs cells slots) (hx : p.tables.exec = Jvm.exec) (hZ : Z.Warmed39 s.vm) {aty : ArrayType} (w : (Jvm.Cond.arrayClass (newarray.typeOf aty)).before a0 Z = true) (eT : T.heap = h) {pc : Nat} {Ls : Array Slot} {n : Int32} {rest : List Value} (hd : decode c.code pc = .ok (.newarray aty, 2))
    (hn : ¬ n < 0) {cap : Nat} (hcap : n.toNatClampNeg ≤ cap) (hb : cap * 8 ≤ 536870912) (hc : cells + 1 ≤ R.cells) (hl : slots + cap ≤ R.slots)
    (k : ∀ T' h' a kc, a = h.size → Stand p l e R s m args below meth c T' locs (cells + 1) (slots + cap) → T'.heap = h' → Ext h h' → Arv Z h' a kc (newarray.typeOf aty) n [] (defaultValue (newarray.typeOf aty)) → Go p e below F T' (mkF m (pc + 2) Ls (.ref a :: rest))) : Go p e below F T (mkF m pc Ls (.int n :: rest)) := by
  obtain ⟨T', h', kc, X', e', E', A', st⟩ := Jvm.RoadKit.newP X hx hZ w eT (g := mkF m pc Ls (.int n :: rest)) rfl hd rfl hn hcap hb hc hl
  exact Go.of st (k _ _ _ kc rfl X' e' E' (Arv.new A' hn))
theorem Go.newR (X : Stand p l e R s m args below meth c T locs cells slots) (hx : p.tables.exec = Jvm.exec) (hZ : Z.Warmed39 s.vm) {own K : String} {index : Nat} (hown : s.vm.findClass own = some m.cls) (w1 : (Jvm.Cond.classLink own index K).before a0 Z = true) (w2 : (Jvm.Cond.arrayOver (.object K)).before a0 Z = true) (eT : T.heap = h) {pc : Nat} {Ls : Array Slot} {n : Int32} {rest : List Value} (hd : decode c.code pc = .ok (.anewarray index, 3))
    (hn : ¬ n < 0) {cap : Nat} (hcap : n.toNatClampNeg ≤ cap) (hb : cap * 8 ≤ 536870912) (hc : cells + 1 ≤ R.cells) (hl : slots + cap ≤ R.slots)
    (k : ∀ T' h' a kc, a = h.size → Stand p l e R s m args below meth c T' locs (cells + 1) (slots + cap) → T'.heap = h' → Ext h h' → Arv Z h' a kc (.object K) n [] .null → Ovr Z kc K → Go p e below F T' (mkF m (pc + 3) Ls (.ref a :: rest))) : Go p e below F T (mkF m pc Ls (.int n :: rest)) := by
  obtain ⟨T', h', kc, X', e', E', A', O', st⟩ := Jvm.RoadKit.newR X hx hZ hown w1 w2 eT (g := mkF m pc Ls (.int n :: rest)) rfl hd rfl hn hcap hb hc hl
  exact Go.of st (k _ _ _ kc rfl X' e' E' (Arv.new A' hn) O')
theorem Go.stR (X : Stand p l e R s m args below meth c T locs cells slots) (hx : p.tables.exec = Jvm.exec) (hZ : Z.Warmed39 s.vm) (eT : T.heap = h) {a : Addr} {kc : ClassId} {K : String} {z j : Int32} {v : Value} {vs : List Value} {dv : Value} (V : Arv Z h a kc (.object K) z vs dv) (hj : ¬ j < 0 ∧ j < z) (G : Sto Z h a v) (hv : v.isRef = true) (i : Nat) (hji : j.toNatClampNeg = i) (hi : i < vs.length) {pc : Nat} {Ls : Array Slot} {rest : List Value} (hd : decode c.code pc = .ok (.aastore, 1))
    (k : ∀ T' h', Stand p l e R s m args below meth c T' (locs ++ [⟨a, j.toNatClampNeg⟩]) cells slots → T'.heap = h' → Wr h h' a j.toNatClampNeg v → Arv Z h' a kc (.object K) z (vs.set i v) dv → Go p e below F T' (mkF m (pc + 1) Ls rest)) : Go p e below F T (mkF m pc Ls (v :: .int j :: .ref a :: rest)) := by
  have G' := G
  obtain ⟨cl, A, q1, S1, q3, H, G⟩ := V
  obtain ⟨T', h', X', e', W', st⟩ := Jvm.RoadKit.stR X hx hZ eT A (inb_of S1 hj) rfl G' (g := mkF m pc Ls (v :: .int j :: .ref a :: rest)) rfl rfl hd
  exact Go.of st (k _ _ X' e' W' (Arv.set A q1 S1 q3 H G (by cases v <;> simp_all [Value.isRef, fits]) W' i hji hi))
theorem Go.ldR (X : Stand p l e R s m args below meth c T locs cells slots) (hx : p.tables.exec = Jvm.exec) (hZ : Z.Warmed39 s.vm) (eT : T.heap = h) {a : Addr} {kc : ClassId} {K : String} {z j : Int32} {vs : List Value} {dv w : Value} (V : Arv Z h a kc (.object K) z vs dv) (hj : ¬ j < 0 ∧ j < z) (hw : vs.getD j.toNatClampNeg dv = w) {pc : Nat} {Ls : Array Slot} {rest : List Value} (hd : decode c.code pc = .ok (.aaload, 1))
    (k : Go p e below F T (mkF m (pc + 1) Ls (w :: rest))) : Go p e below F T (mkF m pc Ls (.int j :: .ref a :: rest)) := by
  obtain ⟨cl, A, q1, S1, q3, H, G⟩ := V
  exact Go.of (fun t q => X.aaload hx (by rw [eT]; exact A.1) (State.isArrayOf_alike hZ.alike A.2.1) rfl A.2.2 (inb_of S1 hj) (H.at (inb_of S1 hj) hw) (g := mkF m pc Ls (.int j :: .ref a :: rest)) rfl rfl hd t q) k
theorem Go.len (X : Stand p l e R s m args below meth c T locs cells slots) (hx : p.tables.exec = Jvm.exec) (hZ : Z.Warmed39 s.vm) (eT : T.heap = h) {a : Addr} {kc : ClassId} {ty : FieldType} {z : Int32} {vs : List Value} {dv : Value} (V : Arv Z h a kc ty z vs dv) {pc : Nat} {Ls : Array Slot} {rest : List Value} (hd : decode c.code pc = .ok (.arraylength, 1))
    (k : Go p e below F T (mkF m (pc + 1) Ls (.int z :: rest))) : Go p e below F T (mkF m pc Ls (.ref a :: rest)) := by
  obtain ⟨cl, A, q1, S1, q3, H, G⟩ := V
  refine Go.of (fun t q => X.arraylength hx (by rw [eT]; exact A.1) (State.isArrayOf_alike hZ.alike A.2.1) (g := mkF m pc Ls (.ref a :: rest)) rfl rfl hd t q) ?_
  rw [len_of S1 q3]
  exact k
theorem sto_of {a y : Addr} {kc : ClassId} {K : String} {ty : FieldType} {z : Int32} {vs : List Value} {dv : Value} (V : Arv Z h a kc ty z vs dv) (O : Ovr Z kc K) (I : Ins Z h y K true) : Sto Z h a (.ref y) := by
  obtain ⟨cl, A, q, -⟩ := V
  exact Sto.ofV A q O I
/-- an int array of that length, whatever it holds -/
def UA (Z : State) (h : Heap) (a : Addr) (n : Nat) : Prop := ∃ cl : Cell, Arr Z h a cl .int ∧ cl.slots.size = n ∧ ∀ i, i < n → ∃ x : Int32, cl.slots[i]? = some (.int x)
theorem UA.lt {a : Addr} {n : Nat} (G : UA Z h a n) : a < h.size := by obtain ⟨c, A, -⟩ := G; exact A.lt
theorem UA.ext {h' : Heap} {a : Addr} {n : Nat} (G : UA Z h a n) (E : Ext h h') : UA Z h' a n := by obtain ⟨c, A, r⟩ := G; exact ⟨c, A.ext E, r⟩
theorem UA.other {h' : Heap} {a b : Addr} {n sl : Nat} {v : Value} (G : UA Z h b n) (W : Wr h h' a sl v) (q : b ≠ a) : UA Z h' b n := by obtain ⟨c, A, r⟩ := G; exact ⟨c, A.other W q, r⟩
theorem UA.keep {h' : Heap} {a : Addr} {n : Nat} {ws : List Addr} (G : UA Z h a n) (K : Keep h h' ws) (q : a ∉ ws) : UA Z h' a n := by obtain ⟨c, A, r⟩ := G; exact ⟨c, ⟨K.2.1 a c A.1 q, A.2⟩, r⟩
theorem UA.of_arv {a : Addr} {kc : ClassId} {z : Int32} {vs : List Value} {dv : Value} {n : Nat} (V : Arv Z h a kc .int z vs dv) (e : z.toNatClampNeg = n) : UA Z h a n := by
  obtain ⟨cl, A, q1, S1, q3, H, G⟩ := V
  refine ⟨cl, A, S1.trans e, fun i hi => ?_⟩
  have hi' : i < cl.slots.size := by rw [S1, e]; exact hi
  have h1 := H i hi'
  have h2 := G i hi'
  cases hv : vs.getD i dv with
  | int x => exact ⟨x, by rw [h1, hv]⟩
  | _ => rw [hv] at h2; simp [fits] at h2
theorem Go.ldU (X : Stand p l e R s m args below meth c T locs cells slots) (hx : p.tables.exec = Jvm.exec) (hZ : Z.Warmed39 s.vm) (eT : T.heap = h) {a : Addr} {n : Nat} {j : Int32} (V : UA Z h a n) (hj : ¬ j < 0) (hn : j.toNatClampNeg < n) {pc : Nat} {Ls : Array Slot} {rest : List Value} (hd : decode c.code pc = .ok (.iaload, 1))
    (k : ∀ x : Int32, Go p e below F T (mkF m (pc + 1) Ls (.int x :: rest))) : Go p e below F T (mkF m pc Ls (.int j :: .ref a :: rest)) := by
  obtain ⟨cl, A, S1, H⟩ := V
  obtain ⟨x, hx1⟩ := H _ hn
  exact Go.of (fun t q => X.iaload hx (by rw [eT]; exact A.1) (State.isArrayOf_alike hZ.alike A.2.1) A.2.2 (fun q => q.elim hj (fun q => absurd hn (Nat.not_lt.mpr (S1 ▸ q)))) hx1 (g := mkF m pc Ls (.int j :: .ref a :: rest)) rfl rfl hd t q) (k x)
theorem Go.stU (X : Stand p l e R s m args below meth c T locs cells slots) (hx : p.tables.exec = Jvm.exec) (hZ : Z.Warmed39 s.vm) (eT : T.heap = h) {a : Addr} {n : Nat} {j x : Int32} (V : UA Z h a n) (hj : ¬ j < 0) (hn : j.toNatClampNeg < n) {pc : Nat} {Ls : Array Slot} {rest : List Value} (hd : decode c.code pc = .ok (.iastore, 1))
    (k : ∀ T' h', Stand p l e R s m args below meth c T' (locs ++ [⟨a, j.toNatClampNeg⟩]) cells slots → T'.heap = h' → Wr h h' a j.toNatClampNeg (.int x) → UA Z h' a n → Go p e below F T' (mkF m (pc + 1) Ls rest)) : Go p e below F T (mkF m pc Ls (.int x :: .int j :: .ref a :: rest)) := by
  obtain ⟨cl, A, S1, H⟩ := V
  obtain ⟨T', h', X', e', W', st⟩ := Jvm.RoadKit.stI X hx hZ eT A (x := x) (fun q => q.elim hj (fun q => absurd hn (Nat.not_lt.mpr (S1 ▸ q)))) (g := mkF m pc Ls (.int x :: .int j :: .ref a :: rest)) rfl rfl hd
  refine Go.of st (k _ _ X' e' W' ⟨_, A.same W', by simp [Cell.setSlot, S1], fun i hi => ?_⟩)
  by_cases q : i = j.toNatClampNeg
  · subst q
    exact ⟨x, by simp [Cell.setSlot, S1, hi]⟩
  · obtain ⟨y, hy⟩ := H i hi
    exact ⟨y, by simp [Cell.setSlot, Ne.symm q, hy]⟩
end OwnArr
theorem sub_self (x : Int32) : (x - x) = (0 : Int32) := Int32.sub_self x
theorem sub_zero {x y : Int32} (h : (x - y) = (0 : Int32)) : y = x := by
  have t1 := c_isub x y
  have t2 := congrArg Int32.toInt h
  have t3 : (0 : Int32).toInt = 0 := by decide
  have t4 := rng32 x
  have t5 := rng32 y
  exact Int32.toInt_inj.mp (by omega)
theorem size_nz {x r : Int32} (h : r = ((x &&& (2147483647 : Int32)) % (1000000 : Int32)) + (1 : Int32)) : r ≠ 0 := by
  subst h
  have t1 := c_mask x (2147483647 : Int32) 31 (by decide) (by decide)
  have t2 := c_irem (x &&& (2147483647 : Int32)) (1000000 : Int32) 1000000 (by decide)
  have t3 := c_iadd ((x &&& (2147483647 : Int32)) % (1000000 : Int32)) (1 : Int32)
  have t4 : (1 : Int32).toInt = 1 := by decide
  have t5 : (0 : Int32).toInt = 0 := by decide
  intro q
  have t6 := congrArg Int32.toInt q
  omega
abbrev mn_10 : MethodName := ⟨"com/example/pennybreak/pennybreak/simplebook/OrderQueue", "take", "(Lcom/example/pennybreak/pennybreak/simplebook/RestingOrder;I)V"⟩
abbrev mn_11 : MethodName := ⟨"com/example/pennybreak/pennybreak/simplebook/OrderQueue", "largestIn", "(I)I"⟩
abbrev mn_9 : MethodName := ⟨"com/example/pennybreak/pennybreak/simplebook/OrderQueue", "set", "(II)V"⟩
abbrev mn_7 : MethodName := ⟨"com/example/pennybreak/pennybreak/simplebook/OrderQueue", "reslot", "()V"⟩
abbrev mn_6 : MethodName := ⟨"com/example/pennybreak/pennybreak/simplebook/OrderQueue", "add", "(Lcom/example/pennybreak/pennybreak/simplebook/RestingOrder;)V"⟩
abbrev mn_5 : MethodName := ⟨"com/example/pennybreak/pennybreak/simplebook/OrderQueue", "holds", "(Lcom/example/pennybreak/pennybreak/simplebook/RestingOrder;)Z"⟩
abbrev mn_4 : MethodName := ⟨"com/example/pennybreak/pennybreak/simplebook/RestingOrder", "<init>", "(Lcom/example/pennybreak/pennybreak/simplebook/Order;JI)V"⟩
abbrev mn_2 : MethodName := ⟨"com/example/pennybreak/pennybreak/simplebook/OrderQueue", "<init>", "()V"⟩
abbrev mn_1 : MethodName := ⟨"com/example/pennybreak/pennybreak/simplebook/OrderQueueHoldsPinLaw", "size", "(I)I"⟩
abbrev mn_12 : MethodName := ⟨"java/lang/Math", "min", "(II)I"⟩
abbrev mn_8 : MethodName := ⟨"java/lang/Math", "max", "(II)I"⟩
theorem d8_0 : decode jdk_29_method_65_code 0 = .ok (.iload_n 0, 1) := by decide +kernel
theorem d8_1 : decode jdk_29_method_65_code 1 = .ok (.iload_n 1, 1) := by decide +kernel
theorem d8_2 : decode jdk_29_method_65_code 2 = .ok (.if_icmp .lt 7, 3) := by decide +kernel
theorem d8_9 : decode jdk_29_method_65_code 9 = .ok (.iload_n 1, 1) := by decide +kernel
theorem d8_10 : decode jdk_29_method_65_code 10 = .ok (.ireturn, 1) := by decide +kernel
theorem d8_5 : decode jdk_29_method_65_code 5 = .ok (.iload_n 0, 1) := by decide +kernel
theorem d8_6 : decode jdk_29_method_65_code 6 = .ok (.goto 4, 3) := by decide +kernel
theorem d12_0 : decode jdk_29_method_69_code 0 = .ok (.iload_n 0, 1) := by decide +kernel
theorem d12_1 : decode jdk_29_method_69_code 1 = .ok (.iload_n 1, 1) := by decide +kernel
theorem d12_2 : decode jdk_29_method_69_code 2 = .ok (.if_icmp .gt 7, 3) := by decide +kernel
theorem d12_9 : decode jdk_29_method_69_code 9 = .ok (.iload_n 1, 1) := by decide +kernel
theorem d12_10 : decode jdk_29_method_69_code 10 = .ok (.ireturn, 1) := by decide +kernel
theorem d12_5 : decode jdk_29_method_69_code 5 = .ok (.iload_n 0, 1) := by decide +kernel
theorem d12_6 : decode jdk_29_method_69_code 6 = .ok (.goto 4, 3) := by decide +kernel
theorem pn_com_example_pennybreak_pennybreak_simplebook_OrderQueueHoldsPinLaw : plainName "com/example/pennybreak/pennybreak/simplebook/OrderQueueHoldsPinLaw" = true := by first | (simp [plainName, overriddenIn]; done) | decide +kernel
theorem d1_0 : decode method_2_code 0 = .ok (.iload_n 0, 1) := by decide +kernel
theorem d1_1 : decode method_2_code 1 = .ok (.ldc 7, 2) := by decide +kernel
theorem d1_3 : decode method_2_code 3 = .ok (.iand, 1) := by decide +kernel
theorem d1_4 : decode method_2_code 4 = .ok (.ldc 8, 2) := by decide +kernel
theorem d1_6 : decode method_2_code 6 = .ok (.irem, 1) := by decide +kernel
theorem d1_7 : decode method_2_code 7 = .ok (.iconst 1, 1) := by decide +kernel
theorem d1_8 : decode method_2_code 8 = .ok (.iadd, 1) := by decide +kernel
theorem d1_9 : decode method_2_code 9 = .ok (.ireturn, 1) := by decide +kernel
theorem pd_1 : parseMethodDescriptor "(I)I" = some ⟨[.int], some .int⟩ := by decide +kernel
theorem pn_com_example_pennybreak_pennybreak_simplebook_OrderQueue : plainName "com/example/pennybreak/pennybreak/simplebook/OrderQueue" = true := by first | (simp [plainName, overriddenIn]; done) | decide +kernel
theorem d2_0 : decode prog_98_method_1_code 0 = .ok (.aload_n 0, 1) := by decide +kernel
theorem d2_1 : decode prog_98_method_1_code 1 = .ok (.invokespecial 1, 3) := by decide +kernel
theorem d2_4 : decode prog_98_method_1_code 4 = .ok (.aload_n 0, 1) := by decide +kernel
theorem d2_5 : decode prog_98_method_1_code 5 = .ok (.iconst 0, 1) := by decide +kernel
theorem d2_6 : decode prog_98_method_1_code 6 = .ok (.anewarray 7, 3) := by decide +kernel
theorem d2_9 : decode prog_98_method_1_code 9 = .ok (.putfield 9, 3) := by decide +kernel
theorem d2_12 : decode prog_98_method_1_code 12 = .ok (.aload_n 0, 1) := by decide +kernel
theorem d2_13 : decode prog_98_method_1_code 13 = .ok (.iconst 0, 1) := by decide +kernel
theorem d2_14 : decode prog_98_method_1_code 14 = .ok (.newarray .int, 2) := by decide +kernel
theorem d2_16 : decode prog_98_method_1_code 16 = .ok (.putfield 15, 3) := by decide +kernel
theorem d2_19 : decode prog_98_method_1_code 19 = .ok (.aload_n 0, 1) := by decide +kernel
theorem d2_20 : decode prog_98_method_1_code 20 = .ok (.iconst 1, 1) := by decide +kernel
theorem d2_21 : decode prog_98_method_1_code 21 = .ok (.putfield 19, 3) := by decide +kernel
theorem d2_24 : decode prog_98_method_1_code 24 = .ok (.aload_n 0, 1) := by decide +kernel
theorem d2_25 : decode prog_98_method_1_code 25 = .ok (.iconst 0, 1) := by decide +kernel
theorem d2_26 : decode prog_98_method_1_code 26 = .ok (.newarray .int, 2) := by decide +kernel
theorem d2_28 : decode prog_98_method_1_code 28 = .ok (.putfield 23, 3) := by decide +kernel
theorem d2_31 : decode prog_98_method_1_code 31 = .ok (.return_, 1) := by decide +kernel
theorem pd_0 : parseMethodDescriptor "()V" = some ⟨[], none⟩ := by decide +kernel
theorem pn_com_example_pennybreak_pennybreak_simplebook_RestingOrder : plainName "com/example/pennybreak/pennybreak/simplebook/RestingOrder" = true := by first | (simp [plainName, overriddenIn]; done) | decide +kernel
theorem d4_0 : decode prog_105_method_1_code 0 = .ok (.aload_n 0, 1) := by decide +kernel
theorem d4_1 : decode prog_105_method_1_code 1 = .ok (.invokespecial 1, 3) := by decide +kernel
theorem d4_4 : decode prog_105_method_1_code 4 = .ok (.aload_n 0, 1) := by decide +kernel
theorem d4_5 : decode prog_105_method_1_code 5 = .ok (.aload_n 1, 1) := by decide +kernel
theorem d4_6 : decode prog_105_method_1_code 6 = .ok (.putfield 7, 3) := by decide +kernel
theorem d4_9 : decode prog_105_method_1_code 9 = .ok (.aload_n 0, 1) := by decide +kernel
theorem d4_10 : decode prog_105_method_1_code 10 = .ok (.lload_n 2, 1) := by decide +kernel
theorem d4_11 : decode prog_105_method_1_code 11 = .ok (.putfield 13, 3) := by decide +kernel
theorem d4_14 : decode prog_105_method_1_code 14 = .ok (.aload_n 0, 1) := by decide +kernel
theorem d4_15 : decode prog_105_method_1_code 15 = .ok (.iload 4, 2) := by decide +kernel
theorem d4_17 : decode prog_105_method_1_code 17 = .ok (.putfield 17, 3) := by decide +kernel
theorem d4_20 : decode prog_105_method_1_code 20 = .ok (.return_, 1) := by decide +kernel
theorem pd_4 : parseMethodDescriptor "(Lcom/example/pennybreak/pennybreak/simplebook/Order;JI)V" = some ⟨[(.object "com/example/pennybreak/pennybreak/simplebook/Order"), .long, .int], none⟩ := by decide +kernel
theorem d5_0 : decode prog_98_method_3_code 0 = .ok (.aload_n 1, 1) := by decide +kernel
theorem d5_1 : decode prog_98_method_3_code 1 = .ok (.getfield 32, 3) := by decide +kernel
theorem d5_4 : decode prog_98_method_3_code 4 = .ok (.aload_n 0, 1) := by decide +kernel
theorem d5_5 : decode prog_98_method_3_code 5 = .ok (.getfield 26, 3) := by decide +kernel
theorem d5_8 : decode prog_98_method_3_code 8 = .ok (.if_icmp .ge 20, 3) := by decide +kernel
theorem d5_28 : decode prog_98_method_3_code 28 = .ok (.iconst 0, 1) := by decide +kernel
theorem d5_29 : decode prog_98_method_3_code 29 = .ok (.ireturn, 1) := by decide +kernel
theorem pd_6 : parseMethodDescriptor "(Lcom/example/pennybreak/pennybreak/simplebook/RestingOrder;)Z" = some ⟨[(.object "com/example/pennybreak/pennybreak/simplebook/RestingOrder")], some .boolean⟩ := by decide +kernel
theorem d6_0 : decode prog_98_method_2_code 0 = .ok (.aload_n 0, 1) := by decide +kernel
theorem d6_1 : decode prog_98_method_2_code 1 = .ok (.getfield 26, 3) := by decide +kernel
theorem d6_4 : decode prog_98_method_2_code 4 = .ok (.aload_n 0, 1) := by decide +kernel
theorem d6_5 : decode prog_98_method_2_code 5 = .ok (.getfield 9, 3) := by decide +kernel
theorem d6_8 : decode prog_98_method_2_code 8 = .ok (.arraylength, 1) := by decide +kernel
theorem d6_9 : decode prog_98_method_2_code 9 = .ok (.if_icmp .ne 7, 3) := by decide +kernel
theorem d6_12 : decode prog_98_method_2_code 12 = .ok (.aload_n 0, 1) := by decide +kernel
theorem d6_13 : decode prog_98_method_2_code 13 = .ok (.invokevirtual 29, 3) := by decide +kernel
theorem d7_0 : decode prog_98_method_12_code 0 = .ok (.iconst 4, 1) := by decide +kernel
theorem d7_1 : decode prog_98_method_12_code 1 = .ok (.istore_n 1, 1) := by decide +kernel
theorem d7_2 : decode prog_98_method_12_code 2 = .ok (.iload_n 1, 1) := by decide +kernel
theorem d7_3 : decode prog_98_method_12_code 3 = .ok (.iconst 2, 1) := by decide +kernel
theorem d7_4 : decode prog_98_method_12_code 4 = .ok (.aload_n 0, 1) := by decide +kernel
theorem d7_5 : decode prog_98_method_12_code 5 = .ok (.getfield 35, 3) := by decide +kernel
theorem d7_8 : decode prog_98_method_12_code 8 = .ok (.imul, 1) := by decide +kernel
theorem d7_9 : decode prog_98_method_12_code 9 = .ok (.if_icmp .ge 10, 3) := by decide +kernel
theorem d7_19 : decode prog_98_method_12_code 19 = .ok (.aload_n 0, 1) := by decide +kernel
theorem d7_20 : decode prog_98_method_12_code 20 = .ok (.iload_n 1, 1) := by decide +kernel
theorem d7_21 : decode prog_98_method_12_code 21 = .ok (.newarray .int, 2) := by decide +kernel
theorem d7_23 : decode prog_98_method_12_code 23 = .ok (.putfield 15, 3) := by decide +kernel
theorem d7_26 : decode prog_98_method_12_code 26 = .ok (.aload_n 0, 1) := by decide +kernel
theorem d7_27 : decode prog_98_method_12_code 27 = .ok (.iconst 1, 1) := by decide +kernel
theorem d7_28 : decode prog_98_method_12_code 28 = .ok (.iload_n 1, 1) := by decide +kernel
theorem d7_29 : decode prog_98_method_12_code 29 = .ok (.bipush 6, 2) := by decide +kernel
theorem d7_31 : decode prog_98_method_12_code 31 = .ok (.ishr, 1) := by decide +kernel
theorem d7_32 : decode prog_98_method_12_code 32 = .ok (.invokestatic 79, 3) := by decide +kernel
theorem pd_2 : parseMethodDescriptor "(II)I" = some ⟨[.int, .int], some .int⟩ := by decide +kernel
theorem d7_35 : decode prog_98_method_12_code 35 = .ok (.putfield 19, 3) := by decide +kernel
theorem d7_38 : decode prog_98_method_12_code 38 = .ok (.aload_n 0, 1) := by decide +kernel
theorem d7_39 : decode prog_98_method_12_code 39 = .ok (.iconst 2, 1) := by decide +kernel
theorem d7_40 : decode prog_98_method_12_code 40 = .ok (.aload_n 0, 1) := by decide +kernel
theorem d7_41 : decode prog_98_method_12_code 41 = .ok (.getfield 19, 3) := by decide +kernel
theorem d7_44 : decode prog_98_method_12_code 44 = .ok (.imul, 1) := by decide +kernel
theorem d7_45 : decode prog_98_method_12_code 45 = .ok (.newarray .int, 2) := by decide +kernel
theorem d7_47 : decode prog_98_method_12_code 47 = .ok (.putfield 23, 3) := by decide +kernel
theorem d7_50 : decode prog_98_method_12_code 50 = .ok (.aload_n 0, 1) := by decide +kernel
theorem d7_51 : decode prog_98_method_12_code 51 = .ok (.getfield 9, 3) := by decide +kernel
theorem d7_54 : decode prog_98_method_12_code 54 = .ok (.astore_n 2, 1) := by decide +kernel
theorem d7_55 : decode prog_98_method_12_code 55 = .ok (.aload_n 0, 1) := by decide +kernel
theorem d7_56 : decode prog_98_method_12_code 56 = .ok (.iload_n 1, 1) := by decide +kernel
theorem d7_57 : decode prog_98_method_12_code 57 = .ok (.anewarray 7, 3) := by decide +kernel
theorem d7_60 : decode prog_98_method_12_code 60 = .ok (.putfield 9, 3) := by decide +kernel
theorem d7_63 : decode prog_98_method_12_code 63 = .ok (.iconst 0, 1) := by decide +kernel
theorem d7_64 : decode prog_98_method_12_code 64 = .ok (.istore_n 3, 1) := by decide +kernel
theorem d7_65 : decode prog_98_method_12_code 65 = .ok (.iconst 0, 1) := by decide +kernel
theorem d7_66 : decode prog_98_method_12_code 66 = .ok (.istore 4, 2) := by decide +kernel
theorem d7_68 : decode prog_98_method_12_code 68 = .ok (.iload 4, 2) := by decide +kernel
theorem d7_70 : decode prog_98_method_12_code 70 = .ok (.aload_n 0, 1) := by decide +kernel
theorem d7_71 : decode prog_98_method_12_code 71 = .ok (.getfield 26, 3) := by decide +kernel
theorem d7_74 : decode prog_98_method_12_code 74 = .ok (.if_icmp .ge 81, 3) := by decide +kernel
theorem d7_155 : decode prog_98_method_12_code 155 = .ok (.aload_n 0, 1) := by decide +kernel
theorem d7_156 : decode prog_98_method_12_code 156 = .ok (.iload_n 3, 1) := by decide +kernel
theorem d7_157 : decode prog_98_method_12_code 157 = .ok (.putfield 26, 3) := by decide +kernel
theorem d7_160 : decode prog_98_method_12_code 160 = .ok (.aload_n 0, 1) := by decide +kernel
theorem d7_161 : decode prog_98_method_12_code 161 = .ok (.iconst 0, 1) := by decide +kernel
theorem d7_162 : decode prog_98_method_12_code 162 = .ok (.putfield 49, 3) := by decide +kernel
theorem d7_165 : decode prog_98_method_12_code 165 = .ok (.aload_n 0, 1) := by decide +kernel
theorem d7_166 : decode prog_98_method_12_code 166 = .ok (.getfield 19, 3) := by decide +kernel
theorem d7_169 : decode prog_98_method_12_code 169 = .ok (.iconst 1, 1) := by decide +kernel
theorem d7_170 : decode prog_98_method_12_code 170 = .ok (.isub, 1) := by decide +kernel
theorem d7_171 : decode prog_98_method_12_code 171 = .ok (.istore 4, 2) := by decide +kernel
theorem d7_173 : decode prog_98_method_12_code 173 = .ok (.iload 4, 2) := by decide +kernel
theorem d7_175 : decode prog_98_method_12_code 175 = .ok (.iconst 1, 1) := by decide +kernel
theorem d7_176 : decode prog_98_method_12_code 176 = .ok (.if_icmp .lt 39, 3) := by decide +kernel
theorem d7_215 : decode prog_98_method_12_code 215 = .ok (.return_, 1) := by decide +kernel
theorem d6_16 : decode prog_98_method_2_code 16 = .ok (.aload_n 1, 1) := by decide +kernel
theorem d6_17 : decode prog_98_method_2_code 17 = .ok (.aload_n 0, 1) := by decide +kernel
theorem d6_18 : decode prog_98_method_2_code 18 = .ok (.dup, 1) := by decide +kernel
theorem d6_19 : decode prog_98_method_2_code 19 = .ok (.getfield 26, 3) := by decide +kernel
theorem d6_22 : decode prog_98_method_2_code 22 = .ok (.dup_x1, 1) := by decide +kernel
theorem d6_23 : decode prog_98_method_2_code 23 = .ok (.iconst 1, 1) := by decide +kernel
theorem d6_24 : decode prog_98_method_2_code 24 = .ok (.iadd, 1) := by decide +kernel
theorem d6_25 : decode prog_98_method_2_code 25 = .ok (.putfield 26, 3) := by decide +kernel
theorem d6_28 : decode prog_98_method_2_code 28 = .ok (.putfield 32, 3) := by decide +kernel
theorem d6_31 : decode prog_98_method_2_code 31 = .ok (.aload_n 0, 1) := by decide +kernel
theorem d6_32 : decode prog_98_method_2_code 32 = .ok (.getfield 9, 3) := by decide +kernel
theorem d6_35 : decode prog_98_method_2_code 35 = .ok (.aload_n 1, 1) := by decide +kernel
theorem d6_36 : decode prog_98_method_2_code 36 = .ok (.getfield 32, 3) := by decide +kernel
theorem d6_39 : decode prog_98_method_2_code 39 = .ok (.aload_n 1, 1) := by decide +kernel
theorem d6_40 : decode prog_98_method_2_code 40 = .ok (.aastore, 1) := by decide +kernel
theorem d6_41 : decode prog_98_method_2_code 41 = .ok (.aload_n 0, 1) := by decide +kernel
theorem d6_42 : decode prog_98_method_2_code 42 = .ok (.dup, 1) := by decide +kernel
theorem d6_43 : decode prog_98_method_2_code 43 = .ok (.getfield 35, 3) := by decide +kernel
theorem d6_46 : decode prog_98_method_2_code 46 = .ok (.iconst 1, 1) := by decide +kernel
theorem d6_47 : decode prog_98_method_2_code 47 = .ok (.iadd, 1) := by decide +kernel
theorem d6_48 : decode prog_98_method_2_code 48 = .ok (.putfield 35, 3) := by decide +kernel
theorem d6_51 : decode prog_98_method_2_code 51 = .ok (.aload_n 0, 1) := by decide +kernel
theorem d6_52 : decode prog_98_method_2_code 52 = .ok (.dup, 1) := by decide +kernel
theorem d6_53 : decode prog_98_method_2_code 53 = .ok (.getfield 38, 3) := by decide +kernel
theorem d6_56 : decode prog_98_method_2_code 56 = .ok (.aload_n 1, 1) := by decide +kernel
theorem d6_57 : decode prog_98_method_2_code 57 = .ok (.getfield 42, 3) := by decide +kernel
theorem d6_60 : decode prog_98_method_2_code 60 = .ok (.i2l, 1) := by decide +kernel
theorem d6_61 : decode prog_98_method_2_code 61 = .ok (.ladd, 1) := by decide +kernel
theorem d6_62 : decode prog_98_method_2_code 62 = .ok (.putfield 38, 3) := by decide +kernel
theorem d6_65 : decode prog_98_method_2_code 65 = .ok (.aload_n 0, 1) := by decide +kernel
theorem d6_66 : decode prog_98_method_2_code 66 = .ok (.aload_n 1, 1) := by decide +kernel
theorem d6_67 : decode prog_98_method_2_code 67 = .ok (.getfield 32, 3) := by decide +kernel
theorem d6_70 : decode prog_98_method_2_code 70 = .ok (.aload_n 1, 1) := by decide +kernel
theorem d6_71 : decode prog_98_method_2_code 71 = .ok (.getfield 42, 3) := by decide +kernel
theorem d6_74 : decode prog_98_method_2_code 74 = .ok (.invokevirtual 45, 3) := by decide +kernel
theorem d9_0 : decode prog_98_method_10_code 0 = .ok (.aload_n 0, 1) := by decide +kernel
theorem d9_1 : decode prog_98_method_10_code 1 = .ok (.getfield 19, 3) := by decide +kernel
theorem d9_4 : decode prog_98_method_10_code 4 = .ok (.iload_n 1, 1) := by decide +kernel
theorem d9_5 : decode prog_98_method_10_code 5 = .ok (.bipush 6, 2) := by decide +kernel
theorem d9_7 : decode prog_98_method_10_code 7 = .ok (.ishr, 1) := by decide +kernel
theorem d9_8 : decode prog_98_method_10_code 8 = .ok (.iadd, 1) := by decide +kernel
theorem d9_9 : decode prog_98_method_10_code 9 = .ok (.istore_n 3, 1) := by decide +kernel
theorem d9_10 : decode prog_98_method_10_code 10 = .ok (.aload_n 0, 1) := by decide +kernel
theorem d9_11 : decode prog_98_method_10_code 11 = .ok (.getfield 23, 3) := by decide +kernel
theorem d9_14 : decode prog_98_method_10_code 14 = .ok (.iload_n 3, 1) := by decide +kernel
theorem d9_15 : decode prog_98_method_10_code 15 = .ok (.iaload, 1) := by decide +kernel
theorem d9_16 : decode prog_98_method_10_code 16 = .ok (.istore 4, 2) := by decide +kernel
theorem d9_18 : decode prog_98_method_10_code 18 = .ok (.aload_n 0, 1) := by decide +kernel
theorem d9_19 : decode prog_98_method_10_code 19 = .ok (.getfield 15, 3) := by decide +kernel
theorem d9_22 : decode prog_98_method_10_code 22 = .ok (.iload_n 1, 1) := by decide +kernel
theorem d9_23 : decode prog_98_method_10_code 23 = .ok (.iaload, 1) := by decide +kernel
theorem d9_24 : decode prog_98_method_10_code 24 = .ok (.iload 4, 2) := by decide +kernel
theorem d9_26 : decode prog_98_method_10_code 26 = .ok (.if_icmp .ne 13, 3) := by decide +kernel
theorem d9_29 : decode prog_98_method_10_code 29 = .ok (.iload_n 2, 1) := by decide +kernel
theorem d9_30 : decode prog_98_method_10_code 30 = .ok (.iload 4, 2) := by decide +kernel
theorem d9_32 : decode prog_98_method_10_code 32 = .ok (.if_icmp .ge 7, 3) := by decide +kernel
theorem d9_35 : decode prog_98_method_10_code 35 = .ok (.iconst 1, 1) := by decide +kernel
theorem d9_36 : decode prog_98_method_10_code 36 = .ok (.goto 4, 3) := by decide +kernel
theorem d9_40 : decode prog_98_method_10_code 40 = .ok (.istore 5, 2) := by decide +kernel
theorem d9_42 : decode prog_98_method_10_code 42 = .ok (.aload_n 0, 1) := by decide +kernel
theorem d9_43 : decode prog_98_method_10_code 43 = .ok (.getfield 15, 3) := by decide +kernel
theorem d9_46 : decode prog_98_method_10_code 46 = .ok (.iload_n 1, 1) := by decide +kernel
theorem d9_47 : decode prog_98_method_10_code 47 = .ok (.iload_n 2, 1) := by decide +kernel
theorem d9_48 : decode prog_98_method_10_code 48 = .ok (.iastore, 1) := by decide +kernel
theorem d9_49 : decode prog_98_method_10_code 49 = .ok (.iload_n 2, 1) := by decide +kernel
theorem d9_50 : decode prog_98_method_10_code 50 = .ok (.iload 4, 2) := by decide +kernel
theorem d9_52 : decode prog_98_method_10_code 52 = .ok (.if_icmp .le 9, 3) := by decide +kernel
theorem d9_55 : decode prog_98_method_10_code 55 = .ok (.iload_n 2, 1) := by decide +kernel
theorem d9_56 : decode prog_98_method_10_code 56 = .ok (.istore 4, 2) := by decide +kernel
theorem d9_58 : decode prog_98_method_10_code 58 = .ok (.goto 18, 3) := by decide +kernel
theorem d9_76 : decode prog_98_method_10_code 76 = .ok (.iload_n 3, 1) := by decide +kernel
theorem d9_77 : decode prog_98_method_10_code 77 = .ok (.iconst 1, 1) := by decide +kernel
theorem d9_78 : decode prog_98_method_10_code 78 = .ok (.if_icmp .lt 49, 3) := by decide +kernel
theorem d9_81 : decode prog_98_method_10_code 81 = .ok (.aload_n 0, 1) := by decide +kernel
theorem d9_82 : decode prog_98_method_10_code 82 = .ok (.getfield 23, 3) := by decide +kernel
theorem d9_85 : decode prog_98_method_10_code 85 = .ok (.iload_n 3, 1) := by decide +kernel
theorem d9_86 : decode prog_98_method_10_code 86 = .ok (.iaload, 1) := by decide +kernel
theorem d9_87 : decode prog_98_method_10_code 87 = .ok (.iload 4, 2) := by decide +kernel
theorem d9_89 : decode prog_98_method_10_code 89 = .ok (.if_icmp .eq 38, 3) := by decide +kernel
theorem d9_127 : decode prog_98_method_10_code 127 = .ok (.return_, 1) := by decide +kernel
theorem d9_92 : decode prog_98_method_10_code 92 = .ok (.aload_n 0, 1) := by decide +kernel
theorem d9_93 : decode prog_98_method_10_code 93 = .ok (.getfield 23, 3) := by decide +kernel
theorem d9_96 : decode prog_98_method_10_code 96 = .ok (.iload_n 3, 1) := by decide +kernel
theorem d9_97 : decode prog_98_method_10_code 97 = .ok (.iload 4, 2) := by decide +kernel
theorem d9_99 : decode prog_98_method_10_code 99 = .ok (.iastore, 1) := by decide +kernel
theorem d9_100 : decode prog_98_method_10_code 100 = .ok (.iload_n 3, 1) := by decide +kernel
theorem d9_101 : decode prog_98_method_10_code 101 = .ok (.iconst 1, 1) := by decide +kernel
theorem d9_102 : decode prog_98_method_10_code 102 = .ok (.if_icmp .le 18, 3) := by decide +kernel
theorem d9_120 : decode prog_98_method_10_code 120 = .ok (.iload_n 3, 1) := by decide +kernel
theorem d9_121 : decode prog_98_method_10_code 121 = .ok (.iconst 1, 1) := by decide +kernel
theorem d9_122 : decode prog_98_method_10_code 122 = .ok (.ishr, 1) := by decide +kernel
theorem d9_123 : decode prog_98_method_10_code 123 = .ok (.istore_n 3, 1) := by decide +kernel
theorem d9_124 : decode prog_98_method_10_code 124 = .ok (.goto (-48), 3) := by decide +kernel
theorem d9_61 : decode prog_98_method_10_code 61 = .ok (.iload 5, 2) := by decide +kernel
theorem d9_63 : decode prog_98_method_10_code 63 = .ok (.ifCond .eq 13, 3) := by decide +kernel
theorem d9_66 : decode prog_98_method_10_code 66 = .ok (.aload_n 0, 1) := by decide +kernel
theorem d9_67 : decode prog_98_method_10_code 67 = .ok (.iload_n 1, 1) := by decide +kernel
theorem d9_68 : decode prog_98_method_10_code 68 = .ok (.bipush 6, 2) := by decide +kernel
theorem d9_70 : decode prog_98_method_10_code 70 = .ok (.ishr, 1) := by decide +kernel
theorem d9_71 : decode prog_98_method_10_code 71 = .ok (.invokevirtual 88, 3) := by decide +kernel
theorem d11_0 : decode prog_98_method_11_code 0 = .ok (.iconst 0, 1) := by decide +kernel
theorem d11_1 : decode prog_98_method_11_code 1 = .ok (.istore_n 2, 1) := by decide +kernel
theorem d11_2 : decode prog_98_method_11_code 2 = .ok (.aload_n 0, 1) := by decide +kernel
theorem d11_3 : decode prog_98_method_11_code 3 = .ok (.getfield 26, 3) := by decide +kernel
theorem d11_6 : decode prog_98_method_11_code 6 = .ok (.iload_n 1, 1) := by decide +kernel
theorem d11_7 : decode prog_98_method_11_code 7 = .ok (.iconst 1, 1) := by decide +kernel
theorem d11_8 : decode prog_98_method_11_code 8 = .ok (.iadd, 1) := by decide +kernel
theorem d11_9 : decode prog_98_method_11_code 9 = .ok (.bipush 6, 2) := by decide +kernel
theorem d11_11 : decode prog_98_method_11_code 11 = .ok (.ishl, 1) := by decide +kernel
theorem d11_12 : decode prog_98_method_11_code 12 = .ok (.invokestatic 85, 3) := by decide +kernel
theorem d11_15 : decode prog_98_method_11_code 15 = .ok (.istore_n 3, 1) := by decide +kernel
theorem d11_16 : decode prog_98_method_11_code 16 = .ok (.iload_n 1, 1) := by decide +kernel
theorem d11_17 : decode prog_98_method_11_code 17 = .ok (.bipush 6, 2) := by decide +kernel
theorem d11_19 : decode prog_98_method_11_code 19 = .ok (.ishl, 1) := by decide +kernel
theorem d11_20 : decode prog_98_method_11_code 20 = .ok (.istore 4, 2) := by decide +kernel
theorem d11_22 : decode prog_98_method_11_code 22 = .ok (.iload 4, 2) := by decide +kernel
theorem d11_24 : decode prog_98_method_11_code 24 = .ok (.iload_n 3, 1) := by decide +kernel
theorem d11_25 : decode prog_98_method_11_code 25 = .ok (.if_icmp .ge 21, 3) := by decide +kernel
theorem d11_28 : decode prog_98_method_11_code 28 = .ok (.iload_n 2, 1) := by decide +kernel
theorem d11_29 : decode prog_98_method_11_code 29 = .ok (.aload_n 0, 1) := by decide +kernel
theorem d11_30 : decode prog_98_method_11_code 30 = .ok (.getfield 15, 3) := by decide +kernel
theorem d11_33 : decode prog_98_method_11_code 33 = .ok (.iload 4, 2) := by decide +kernel
theorem d11_35 : decode prog_98_method_11_code 35 = .ok (.iaload, 1) := by decide +kernel
theorem d11_36 : decode prog_98_method_11_code 36 = .ok (.invokestatic 79, 3) := by decide +kernel
theorem d11_39 : decode prog_98_method_11_code 39 = .ok (.istore_n 2, 1) := by decide +kernel
theorem d11_40 : decode prog_98_method_11_code 40 = .ok (.iinc 4 1, 3) := by decide +kernel
theorem d11_43 : decode prog_98_method_11_code 43 = .ok (.goto (-21), 3) := by decide +kernel
theorem d11_46 : decode prog_98_method_11_code 46 = .ok (.iload_n 2, 1) := by decide +kernel
theorem d11_47 : decode prog_98_method_11_code 47 = .ok (.ireturn, 1) := by decide +kernel
theorem d9_74 : decode prog_98_method_10_code 74 = .ok (.istore 4, 2) := by decide +kernel
theorem d9_39 : decode prog_98_method_10_code 39 = .ok (.iconst 0, 1) := by decide +kernel
theorem pd_3 : parseMethodDescriptor "(II)V" = some ⟨[.int, .int], none⟩ := by decide +kernel
theorem d6_77 : decode prog_98_method_2_code 77 = .ok (.return_, 1) := by decide +kernel
theorem pd_5 : parseMethodDescriptor "(Lcom/example/pennybreak/pennybreak/simplebook/RestingOrder;)V" = some ⟨[(.object "com/example/pennybreak/pennybreak/simplebook/RestingOrder")], none⟩ := by decide +kernel
theorem d5_11 : decode prog_98_method_3_code 11 = .ok (.aload_n 0, 1) := by decide +kernel
theorem d5_12 : decode prog_98_method_3_code 12 = .ok (.getfield 9, 3) := by decide +kernel
theorem d5_15 : decode prog_98_method_3_code 15 = .ok (.aload_n 1, 1) := by decide +kernel
theorem d5_16 : decode prog_98_method_3_code 16 = .ok (.getfield 32, 3) := by decide +kernel
theorem d5_19 : decode prog_98_method_3_code 19 = .ok (.aaload, 1) := by decide +kernel
theorem d5_20 : decode prog_98_method_3_code 20 = .ok (.aload_n 1, 1) := by decide +kernel
theorem d5_21 : decode prog_98_method_3_code 21 = .ok (.if_acmp .ne 7, 3) := by decide +kernel
theorem d5_24 : decode prog_98_method_3_code 24 = .ok (.iconst 1, 1) := by decide +kernel
theorem d5_25 : decode prog_98_method_3_code 25 = .ok (.goto 4, 3) := by decide +kernel
theorem d10_0 : decode prog_98_method_4_code 0 = .ok (.aload_n 1, 1) := by decide +kernel
theorem d10_1 : decode prog_98_method_4_code 1 = .ok (.dup, 1) := by decide +kernel
theorem d10_2 : decode prog_98_method_4_code 2 = .ok (.getfield 42, 3) := by decide +kernel
theorem d10_5 : decode prog_98_method_4_code 5 = .ok (.iload_n 2, 1) := by decide +kernel
theorem d10_6 : decode prog_98_method_4_code 6 = .ok (.isub, 1) := by decide +kernel
theorem d10_7 : decode prog_98_method_4_code 7 = .ok (.putfield 42, 3) := by decide +kernel
theorem d10_10 : decode prog_98_method_4_code 10 = .ok (.aload_n 0, 1) := by decide +kernel
theorem d10_11 : decode prog_98_method_4_code 11 = .ok (.dup, 1) := by decide +kernel
theorem d10_12 : decode prog_98_method_4_code 12 = .ok (.getfield 38, 3) := by decide +kernel
theorem d10_15 : decode prog_98_method_4_code 15 = .ok (.iload_n 2, 1) := by decide +kernel
theorem d10_16 : decode prog_98_method_4_code 16 = .ok (.i2l, 1) := by decide +kernel
theorem d10_17 : decode prog_98_method_4_code 17 = .ok (.lsub, 1) := by decide +kernel
theorem d10_18 : decode prog_98_method_4_code 18 = .ok (.putfield 38, 3) := by decide +kernel
theorem d10_21 : decode prog_98_method_4_code 21 = .ok (.aload_n 0, 1) := by decide +kernel
theorem d10_22 : decode prog_98_method_4_code 22 = .ok (.aload_n 1, 1) := by decide +kernel
theorem d10_23 : decode prog_98_method_4_code 23 = .ok (.getfield 32, 3) := by decide +kernel
theorem d10_26 : decode prog_98_method_4_code 26 = .ok (.aload_n 1, 1) := by decide +kernel
theorem d10_27 : decode prog_98_method_4_code 27 = .ok (.getfield 42, 3) := by decide +kernel
theorem d10_30 : decode prog_98_method_4_code 30 = .ok (.invokevirtual 45, 3) := by decide +kernel
theorem d10_33 : decode prog_98_method_4_code 33 = .ok (.aload_n 1, 1) := by decide +kernel
theorem d10_34 : decode prog_98_method_4_code 34 = .ok (.getfield 42, 3) := by decide +kernel
theorem d10_37 : decode prog_98_method_4_code 37 = .ok (.ifCond .ne 78, 3) := by decide +kernel
theorem d10_40 : decode prog_98_method_4_code 40 = .ok (.aload_n 0, 1) := by decide +kernel
theorem d10_41 : decode prog_98_method_4_code 41 = .ok (.getfield 9, 3) := by decide +kernel
theorem d10_44 : decode prog_98_method_4_code 44 = .ok (.aload_n 1, 1) := by decide +kernel
theorem d10_45 : decode prog_98_method_4_code 45 = .ok (.getfield 32, 3) := by decide +kernel
theorem d10_48 : decode prog_98_method_4_code 48 = .ok (.aconst_null, 1) := by decide +kernel
theorem d10_49 : decode prog_98_method_4_code 49 = .ok (.aastore, 1) := by decide +kernel
theorem d10_50 : decode prog_98_method_4_code 50 = .ok (.aload_n 0, 1) := by decide +kernel
theorem d10_51 : decode prog_98_method_4_code 51 = .ok (.dup, 1) := by decide +kernel
theorem d10_52 : decode prog_98_method_4_code 52 = .ok (.getfield 35, 3) := by decide +kernel
theorem d10_55 : decode prog_98_method_4_code 55 = .ok (.iconst 1, 1) := by decide +kernel
theorem d10_56 : decode prog_98_method_4_code 56 = .ok (.isub, 1) := by decide +kernel
theorem d10_57 : decode prog_98_method_4_code 57 = .ok (.putfield 35, 3) := by decide +kernel
theorem d10_60 : decode prog_98_method_4_code 60 = .ok (.aload_n 0, 1) := by decide +kernel
theorem d10_61 : decode prog_98_method_4_code 61 = .ok (.getfield 49, 3) := by decide +kernel
theorem d10_64 : decode prog_98_method_4_code 64 = .ok (.aload_n 0, 1) := by decide +kernel
theorem d10_65 : decode prog_98_method_4_code 65 = .ok (.getfield 26, 3) := by decide +kernel
theorem d10_68 : decode prog_98_method_4_code 68 = .ok (.if_icmp .ge 28, 3) := by decide +kernel
theorem d10_71 : decode prog_98_method_4_code 71 = .ok (.aload_n 0, 1) := by decide +kernel
theorem d10_72 : decode prog_98_method_4_code 72 = .ok (.getfield 9, 3) := by decide +kernel
theorem d10_75 : decode prog_98_method_4_code 75 = .ok (.aload_n 0, 1) := by decide +kernel
theorem d10_76 : decode prog_98_method_4_code 76 = .ok (.getfield 49, 3) := by decide +kernel
theorem d10_79 : decode prog_98_method_4_code 79 = .ok (.aaload, 1) := by decide +kernel
theorem d10_80 : decode prog_98_method_4_code 80 = .ok (.ifnonnull 16, 3) := by decide +kernel
theorem d10_83 : decode prog_98_method_4_code 83 = .ok (.aload_n 0, 1) := by decide +kernel
theorem d10_84 : decode prog_98_method_4_code 84 = .ok (.dup, 1) := by decide +kernel
theorem d10_85 : decode prog_98_method_4_code 85 = .ok (.getfield 49, 3) := by decide +kernel
theorem d10_88 : decode prog_98_method_4_code 88 = .ok (.iconst 1, 1) := by decide +kernel
theorem d10_89 : decode prog_98_method_4_code 89 = .ok (.iadd, 1) := by decide +kernel
theorem d10_90 : decode prog_98_method_4_code 90 = .ok (.putfield 49, 3) := by decide +kernel
theorem d10_93 : decode prog_98_method_4_code 93 = .ok (.goto (-33), 3) := by decide +kernel
theorem d10_96 : decode prog_98_method_4_code 96 = .ok (.aload_n 0, 1) := by decide +kernel
theorem d10_97 : decode prog_98_method_4_code 97 = .ok (.getfield 35, 3) := by decide +kernel
theorem d10_100 : decode prog_98_method_4_code 100 = .ok (.aload_n 0, 1) := by decide +kernel
theorem d10_101 : decode prog_98_method_4_code 101 = .ok (.getfield 9, 3) := by decide +kernel
theorem d10_104 : decode prog_98_method_4_code 104 = .ok (.arraylength, 1) := by decide +kernel
theorem d10_105 : decode prog_98_method_4_code 105 = .ok (.bipush 8, 2) := by decide +kernel
theorem d10_107 : decode prog_98_method_4_code 107 = .ok (.idiv, 1) := by decide +kernel
theorem d10_108 : decode prog_98_method_4_code 108 = .ok (.if_icmp .ge 7, 3) := by decide +kernel
theorem d10_115 : decode prog_98_method_4_code 115 = .ok (.return_, 1) := by decide +kernel
theorem pd_7 : parseMethodDescriptor "(Lcom/example/pennybreak/pennybreak/simplebook/RestingOrder;I)V" = some ⟨[(.object "com/example/pennybreak/pennybreak/simplebook/RestingOrder"), .int], none⟩ := by decide +kernel
theorem ef_mx (m : MethodId) (x0 : Int32) (x1 : Int32) : entryFrame m #[(.int x0), (.int x1)] 2 = mkF m 0 #[.val (.int x0), .val (.int x1)] [] := by first | (simp [entryFrame, mkF, argsToLocals, Value.category]; done) | rfl
set_option maxRecDepth 65536 in
set_option maxHeartbeats 40000000 in
theorem rm_mx (l : Launch) (Z : State) (a0 : Array Value) (hw : ∀ d ∈ tables_1, d.before a0 Z = true) (x0 : Int32) (x1 : Int32) (h0 : Heap)  :
    Ct l mn_8 jdk_29_method_65_code 2 (some .int) ({ frames := 0, cells := 0, slots := 0, locals := 0 } : Room) Z h0 #[(.int x0), (.int x1)] (fun v h L => ∃ r, v = some (.int r) ∧ ((x0 < x1 ∧ r = x1) ∨ (¬ (x0 < x1) ∧ r = x0)) ∧ L = [] ∧ h = h0) := by
  refine Ct.body (Jvm.Free.JP.mathPlain rfl (by decide +kernel)) ?_
  intro p e s m below meth c T0 hx hby hml hown hnm hret hlk hZ X0 e0
  refine Go.cast (ef_mx m x0 x1) ?_
  show Go p e below _ T0 (mkF m 0 #[.val (.int x0), .val (.int x1)] [])
  refine Go.s_iloadN X0 hx (hb hby d8_0) (q := 1) rfl rfl ?_
  refine Go.s_iloadN X0 hx (hb hby d8_1) (q := 2) rfl rfl ?_
  by_cases c2_1 : x0 < x1
  · -- pc 2: x0 < x1
    refine Go.s_icmpYes X0 hx (hb hby d8_2) (q := 9) (by decide) (by decide) (tlt c2_1).1 ?_
    refine Go.s_iloadN X0 hx (hb hby d8_9) (q := 10) rfl rfl ?_
    refine Go.retI X0 hx hlk hret (hb hby d8_10) (by decide) (by decide) ?_
    try rw [e0]
    exact ⟨_, rfl, Or.inl ⟨c2_1, rfl⟩, rfl, rfl⟩
  · -- pc 2: not x0 < x1
    refine Go.s_icmpNo X0 hx (hb hby d8_2) (q := 5) rfl (flt c2_1).1 ?_
    refine Go.s_iloadN X0 hx (hb hby d8_5) (q := 6) rfl rfl ?_
    refine Go.s_goto X0 hx (hb hby d8_6) (q := 10) (by decide) (by decide) ?_
    refine Go.retI X0 hx hlk hret (hb hby d8_10) (by decide) (by decide) ?_
    try rw [e0]
    exact ⟨_, rfl, Or.inr ⟨c2_1, rfl⟩, rfl, rfl⟩
theorem ef_mn (m : MethodId) (x0 : Int32) (x1 : Int32) : entryFrame m #[(.int x0), (.int x1)] 2 = mkF m 0 #[.val (.int x0), .val (.int x1)] [] := by first | (simp [entryFrame, mkF, argsToLocals, Value.category]; done) | rfl
set_option maxRecDepth 65536 in
set_option maxHeartbeats 40000000 in
theorem rm_mn (l : Launch) (Z : State) (a0 : Array Value) (hw : ∀ d ∈ tables_1, d.before a0 Z = true) (x0 : Int32) (x1 : Int32) (h0 : Heap)  :
    Ct l mn_12 jdk_29_method_69_code 2 (some .int) ({ frames := 0, cells := 0, slots := 0, locals := 0 } : Room) Z h0 #[(.int x0), (.int x1)] (fun v h L => ∃ r, v = some (.int r) ∧ ((x1 < x0 ∧ r = x1) ∨ (¬ (x1 < x0) ∧ r = x0)) ∧ L = [] ∧ h = h0) := by
  refine Ct.body (Jvm.Free.JP.mathPlain rfl (by decide +kernel)) ?_
  intro p e s m below meth c T0 hx hby hml hown hnm hret hlk hZ X0 e0
  refine Go.cast (ef_mn m x0 x1) ?_
  show Go p e below _ T0 (mkF m 0 #[.val (.int x0), .val (.int x1)] [])
  refine Go.s_iloadN X0 hx (hb hby d12_0) (q := 1) rfl rfl ?_
  refine Go.s_iloadN X0 hx (hb hby d12_1) (q := 2) rfl rfl ?_
  by_cases c2_1 : x1 < x0
  · -- pc 2: x1 < x0
    refine Go.s_icmpYes X0 hx (hb hby d12_2) (q := 9) (by decide) (by decide) (tlt c2_1).2.2.1 ?_
    refine Go.s_iloadN X0 hx (hb hby d12_9) (q := 10) rfl rfl ?_
    refine Go.retI X0 hx hlk hret (hb hby d12_10) (by decide) (by decide) ?_
    try rw [e0]
    exact ⟨_, rfl, Or.inl ⟨c2_1, rfl⟩, rfl, rfl⟩
  · -- pc 2: not x1 < x0
    refine Go.s_icmpNo X0 hx (hb hby d12_2) (q := 5) rfl (flt c2_1).2.2.1 ?_
    refine Go.s_iloadN X0 hx (hb hby d12_5) (q := 6) rfl rfl ?_
    refine Go.s_goto X0 hx (hb hby d12_6) (q := 10) (by decide) (by decide) ?_
    refine Go.retI X0 hx hlk hret (hb hby d12_10) (by decide) (by decide) ?_
    try rw [e0]
    exact ⟨_, rfl, Or.inr ⟨c2_1, rfl⟩, rfl, rfl⟩
theorem ef_size (m : MethodId) (x0 : Int32) : entryFrame m #[(.int x0)] 1 = mkF m 0 #[.val (.int x0)] [] := by first | (simp [entryFrame, mkF, argsToLocals, Value.category]; done) | rfl
set_option maxRecDepth 65536 in
set_option maxHeartbeats 40000000 in
theorem rm_size (l : Launch) (Z : State) (a0 : Array Value) (hw : ∀ d ∈ tables_1, d.before a0 Z = true) (x0 : Int32) (h0 : Heap)  :
    Ct l mn_1 method_2_code 1 (some .int) ({ frames := 0, cells := 0, slots := 0, locals := 0 } : Room) Z h0 #[(.int x0)] (fun v h L => ∃ r, v = some (.int r) ∧ r = ((x0 &&& (2147483647 : Int32)) % (1000000 : Int32)) + (1 : Int32) ∧ L = [] ∧ h = h0) := by
  refine Ct.body (plainFor_of_name pn_com_example_pennybreak_pennybreak_simplebook_OrderQueueHoldsPinLaw) ?_
  intro p e s m below meth c T0 hx hby hml hown hnm hret hlk hZ X0 e0
  refine Go.cast (ef_size m x0) ?_
  show Go p e below _ T0 (mkF m 0 #[.val (.int x0)] [])
  refine Go.s_iloadN X0 hx (hb hby d1_0) (q := 1) rfl rfl ?_
  refine Go.s_ldc X0 hx (hb hby d1_1) (q := 3) rfl hown (mvT hZ (w_ hw 4 rfl)) ?_
  refine Go.s_iand X0 hx (hb hby d1_3) (q := 4) rfl ?_
  refine Go.s_ldc X0 hx (hb hby d1_4) (q := 6) rfl hown (mvT hZ (w_ hw 5 rfl)) ?_
  refine Go.s_irem X0 hx (hb hby d1_6) (q := 7) rfl (by decide) ?_
  refine Go.s_iconst X0 hx (hb hby d1_7) (q := 8) rfl (z := 1) rfl ?_
  refine Go.s_iadd X0 hx (hb hby d1_8) (q := 9) rfl ?_
  refine Go.retI X0 hx hlk hret (hb hby d1_9) (by decide) (by decide) ?_
  try rw [e0]
  exact ⟨_, rfl, rfl, rfl, rfl⟩
theorem ef_init_1 (m : MethodId) (x0 : Addr) : entryFrame m #[(.ref x0)] 1 = mkF m 0 #[.val (.ref x0)] [] := by first | (simp [entryFrame, mkF, argsToLocals, Value.category]; done) | rfl
set_option maxRecDepth 65536 in
set_option maxHeartbeats 40000000 in
theorem rm_init_1 (l : Launch) (Z : State) (a0 : Array Value) (hw : ∀ d ∈ tables_1, d.before a0 Z = true)  (A0 : Addr) (h0 : Heap) (n0 : Nat) (Z0 : n0 ≤ h0.size) (P0 : Exa Z h0 A0 "com/example/pennybreak/pennybreak/simplebook/OrderQueue") (P1 : Fld Z h0 A0 "com/example/pennybreak/pennybreak/simplebook/OrderQueue" "blocks" "I" (.int (0 : Int32))) (P2 : Fld Z h0 A0 "com/example/pennybreak/pennybreak/simplebook/OrderQueue" "count" "I" (.int (0 : Int32))) (P3 : Fld Z h0 A0 "com/example/pennybreak/pennybreak/simplebook/OrderQueue" "front" "I" (.int (0 : Int32))) (P4 : Fld Z h0 A0 "com/example/pennybreak/pennybreak/simplebook/OrderQueue" "largest" "[I" .null) (P5 : Fld Z h0 A0 "com/example/pennybreak/pennybreak/simplebook/OrderQueue" "open" "J" (.long (0 : Int64))) (P6 : Fld Z h0 A0 "com/example/pennybreak/pennybreak/simplebook/OrderQueue" "sizes" "[I" .null) (P7 : Fld Z h0 A0 "com/example/pennybreak/pennybreak/simplebook/OrderQueue" "slots" "[Lcom/example/pennybreak/pennybreak/simplebook/RestingOrder;" .null) (P8 : Fld Z h0 A0 "com/example/pennybreak/pennybreak/simplebook/OrderQueue" "used" "I" (.int (0 : Int32))) (P9 : n0 ≤ A0) :
    Ct l mn_2 prog_98_method_1_code 1 none ({ frames := 1, cells := 3, slots := 0, locals := 12 } : Room) Z h0 #[(.ref A0)] (fun v h L => ∃ B0 : Addr, ∃ B1 : Addr, ∃ B2 : Addr, ∃ kk3 : ClassId, v = none ∧ Fr n0 L ∧ Keep h0 h [A0] ∧ h0.size ≤ B0 ∧ h0.size ≤ B1 ∧ h0.size ≤ B2 ∧ Exa Z h A0 "com/example/pennybreak/pennybreak/simplebook/OrderQueue" ∧ Fld Z h A0 "com/example/pennybreak/pennybreak/simplebook/OrderQueue" "blocks" "I" (.int (1 : Int32)) ∧ Fld Z h A0 "com/example/pennybreak/pennybreak/simplebook/OrderQueue" "count" "I" (.int (0 : Int32)) ∧ Fld Z h A0 "com/example/pennybreak/pennybreak/simplebook/OrderQueue" "front" "I" (.int (0 : Int32)) ∧ Fld Z h A0 "com/example/pennybreak/pennybreak/simplebook/OrderQueue" "largest" "[I" (.ref B2) ∧ Fld Z h A0 "com/example/pennybreak/pennybreak/simplebook/OrderQueue" "open" "J" (.long (0 : Int64)) ∧ Fld Z h A0 "com/example/pennybreak/pennybreak/simplebook/OrderQueue" "sizes" "[I" (.ref B1) ∧ Fld Z h A0 "com/example/pennybreak/pennybreak/simplebook/OrderQueue" "slots" "[Lcom/example/pennybreak/pennybreak/simplebook/RestingOrder;" (.ref B0) ∧ Fld Z h A0 "com/example/pennybreak/pennybreak/simplebook/OrderQueue" "used" "I" (.int (0 : Int32)) ∧ Arv Z h B0 kk3 (.object "com/example/pennybreak/pennybreak/simplebook/RestingOrder") (0 : Int32) [] .null ∧ UA Z h B1 0 ∧ UA Z h B2 0 ∧ Ovr Z kk3 "com/example/pennybreak/pennybreak/simplebook/RestingOrder" ∧ B0 ≠ B1 ∧ B0 ≠ B2 ∧ B1 ≠ B2) := by
  refine Ct.body (plainFor_of_name pn_com_example_pennybreak_pennybreak_simplebook_OrderQueue) ?_
  intro p e s m below meth c T0 hx hby hml hown hnm hret hlk hZ X0 e0
  refine Go.cast (ef_init_1 m A0) ?_
  show Go p e below _ T0 (mkF m 0 #[.val (.ref A0)] [])
  refine Go.s_aloadN X0 hx (hb hby d2_0) (q := 1) rfl rfl rfl ?_
  refine Go.initO X0 hx hZ hown (w_ hw 12 rfl) (w_ hw 13 rfl) (w_ hw 14 rfl) e0 (by rw [hml]; rfl) (hb hby d2_1) (by decide) (by decide) ?_
  intro T1 X1 e1
  show Go p e below _ T1 (mkF m 4 #[.val (.ref A0)] [])
  refine Go.s_aloadN X1 hx (hb hby d2_4) (q := 5) rfl rfl rfl ?_
  refine Go.s_iconst X1 hx (hb hby d2_5) (q := 6) rfl (z := 0) rfl ?_
  refine Go.newR X1 hx hZ hown (w_ hw 15 rfl) (w_ hw 16 rfl) e1 (hb hby d2_6) (by decide) (cap := 0) (by decide) (by decide) (by decide) (by decide) ?_
  intro T2 h2 b2 k2 g2 X2 e2 E2 V2 O2
  have ne_A0_b2 : A0 ≠ b2 := Nat.ne_of_lt (g2 ▸ P0.lt)
  have g_b2 : n0 ≤ b2 := g2 ▸ Z0
  have sz_b2 : h0.size ≤ b2 := g2 ▸ (Keep.refl h0 [A0]).1
  have Z0_v3 := Nat.le_trans Z0 E2.1
  have fact_K_v4 := (Keep.refl h0 [A0]).ext E2
  have P0_v5 := P0.ext E2
  have P1_v6 := P1.ext E2
  have P2_v7 := P2.ext E2
  have P3_v8 := P3.ext E2
  have P4_v9 := P4.ext E2
  have P5_v10 := P5.ext E2
  have P6_v11 := P6.ext E2
  have P7_v12 := P7.ext E2
  have P8_v13 := P8.ext E2
  have V2_14 : Arv Z h2 b2 k2 (.object "com/example/pennybreak/pennybreak/simplebook/RestingOrder") (0 : Int32) [] .null := V2.pad (pad_rep [] .null 0)
  show Go p e below _ T2 (mkF m 9 #[.val (.ref A0)] [(.ref b2), (.ref A0)])
  refine Go.putF X2 hx hZ hown (w_ hw 17 rfl) Via.refl e2 P7_v12 P0_v5 (Or.inl (w_ hw 18 rfl)) (w_ hw 7 rfl) (ty := (.array (.object "com/example/pennybreak/pennybreak/simplebook/RestingOrder"))) (by decide) rfl rfl (hb hby d2_9) ?_
  intro T15 h15 X15 e15 W15
  have N15 := Fr.snoc X15 (Fr.nil n0) P9
  have Z0_v16 := Nat.le_trans Z0_v3 (Keep.of_wr W15).1
  have fact_K_v17 := fact_K_v4.wr W15 (Or.inl (by simp))
  have P0_v18 := P0_v5.wr W15
  have P1_v19 := P1_v6.other W15 (Or.inr (slot_ne (Or.inl (w_ hw 23 rfl)) (Or.inl (w_ hw 18 rfl)) (by decide) (t := .int) (t' := (.array (.object "com/example/pennybreak/pennybreak/simplebook/RestingOrder"))) (by decide) (by decide)))
  have P2_v20 := P2_v7.other W15 (Or.inr (slot_ne (Or.inl (w_ hw 59 rfl)) (Or.inl (w_ hw 18 rfl)) (by decide) (t := .int) (t' := (.array (.object "com/example/pennybreak/pennybreak/simplebook/RestingOrder"))) (by decide) (by decide)))
  have P3_v21 := P3_v8.other W15 (Or.inr (slot_ne (Or.inl (w_ hw 65 rfl)) (Or.inl (w_ hw 18 rfl)) (by decide) (t := .int) (t' := (.array (.object "com/example/pennybreak/pennybreak/simplebook/RestingOrder"))) (by decide) (by decide)))
  have P4_v22 := P4_v9.other W15 (Or.inr (slot_ne (Or.inl (w_ hw 25 rfl)) (Or.inl (w_ hw 18 rfl)) (by decide) (t := (.array .int)) (t' := (.array (.object "com/example/pennybreak/pennybreak/simplebook/RestingOrder"))) (by decide) (by decide)))
  have P5_v23 := P5_v10.other W15 (Or.inr (slot_ne (Or.inl (w_ hw 68 rfl)) (Or.inl (w_ hw 18 rfl)) (by decide) (t := .long) (t' := (.array (.object "com/example/pennybreak/pennybreak/simplebook/RestingOrder"))) (by decide) (by decide)))
  have P6_v24 := P6_v11.other W15 (Or.inr (slot_ne (Or.inl (w_ hw 21 rfl)) (Or.inl (w_ hw 18 rfl)) (by decide) (t := (.array .int)) (t' := (.array (.object "com/example/pennybreak/pennybreak/simplebook/RestingOrder"))) (by decide) (by decide)))
  have P8_v25 := P8_v13.other W15 (Or.inr (slot_ne (Or.inl (w_ hw 48 rfl)) (Or.inl (w_ hw 18 rfl)) (by decide) (t := .int) (t' := (.array (.object "com/example/pennybreak/pennybreak/simplebook/RestingOrder"))) (by decide) (by decide)))
  have V2_14_v26 := V2_14.other W15 (Ne.symm ne_A0_b2)
  have F_slots_A0_v27 := P7_v12.same W15
  show Go p e below _ T15 (mkF m 12 #[.val (.ref A0)] [])
  refine Go.s_aloadN X15 hx (hb hby d2_12) (q := 13) rfl rfl rfl ?_
  refine Go.s_iconst X15 hx (hb hby d2_13) (q := 14) rfl (z := 0) rfl ?_
  refine Go.newP X15 hx hZ (w_ hw 19 rfl) e15 (hb hby d2_14) (by decide) (cap := 0) (by decide) (by decide) (by decide) (by decide) ?_
  intro T28 h28 b28 k28 g28 X28 e28 E28 V28
  have ne_A0_b28 : A0 ≠ b28 := Nat.ne_of_lt (g28 ▸ P0_v18.lt)
  have ne_b2_b28 : b2 ≠ b28 := Nat.ne_of_lt (g28 ▸ V2_14_v26.lt)
  have g_b28 : n0 ≤ b28 := g28 ▸ Z0_v16
  have sz_b28 : h0.size ≤ b28 := g28 ▸ fact_K_v17.1
  have Z0_v29 := Nat.le_trans Z0_v16 E28.1
  have fact_K_v30 := fact_K_v17.ext E28
  have P0_v31 := P0_v18.ext E28
  have P1_v32 := P1_v19.ext E28
  have P2_v33 := P2_v20.ext E28
  have P3_v34 := P3_v21.ext E28
  have P4_v35 := P4_v22.ext E28
  have P5_v36 := P5_v23.ext E28
  have P6_v37 := P6_v24.ext E28
  have P8_v38 := P8_v25.ext E28
  have V2_14_v39 := V2_14_v26.ext E28
  have F_slots_A0_v40 := F_slots_A0_v27.ext E28
  have V28_41 : Arv Z h28 b28 k28 .int (0 : Int32) [] (.int (0 : Int32)) := V28.pad (pad_rep [] (.int (0 : Int32)) 0)
  have U28 := UA.of_arv V28_41 (by decide : ((0 : Int32)).toNatClampNeg = 0)
  show Go p e below _ T28 (mkF m 16 #[.val (.ref A0)] [(.ref b28), (.ref A0)])
  refine Go.putF X28 hx hZ hown (w_ hw 20 rfl) Via.refl e28 P6_v37 P0_v31 (Or.inl (w_ hw 21 rfl)) (w_ hw 7 rfl) (ty := (.array .int)) (by decide) rfl rfl (hb hby d2_16) ?_
  intro T42 h42 X42 e42 W42
  have N42 := Fr.snoc X42 N15 P9
  have Z0_v43 := Nat.le_trans Z0_v29 (Keep.of_wr W42).1
  have fact_K_v44 := fact_K_v30.wr W42 (Or.inl (by simp))
  have P0_v45 := P0_v31.wr W42
  have P1_v46 := P1_v32.other W42 (Or.inr (slot_ne (Or.inl (w_ hw 23 rfl)) (Or.inl (w_ hw 21 rfl)) (by decide) (t := .int) (t' := (.array .int)) (by decide) (by decide)))
  have P2_v47 := P2_v33.other W42 (Or.inr (slot_ne (Or.inl (w_ hw 59 rfl)) (Or.inl (w_ hw 21 rfl)) (by decide) (t := .int) (t' := (.array .int)) (by decide) (by decide)))
  have P3_v48 := P3_v34.other W42 (Or.inr (slot_ne (Or.inl (w_ hw 65 rfl)) (Or.inl (w_ hw 21 rfl)) (by decide) (t := .int) (t' := (.array .int)) (by decide) (by decide)))
  have P4_v49 := P4_v35.other W42 (Or.inr (slot_ne (Or.inl (w_ hw 25 rfl)) (Or.inl (w_ hw 21 rfl)) (by decide) (t := (.array .int)) (t' := (.array .int)) (by decide) (by decide)))
  have P5_v50 := P5_v36.other W42 (Or.inr (slot_ne (Or.inl (w_ hw 68 rfl)) (Or.inl (w_ hw 21 rfl)) (by decide) (t := .long) (t' := (.array .int)) (by decide) (by decide)))
  have P8_v51 := P8_v38.other W42 (Or.inr (slot_ne (Or.inl (w_ hw 48 rfl)) (Or.inl (w_ hw 21 rfl)) (by decide) (t := .int) (t' := (.array .int)) (by decide) (by decide)))
  have V2_14_v52 := V2_14_v39.other W42 (Ne.symm ne_A0_b2)
  have F_slots_A0_v53 := F_slots_A0_v40.other W42 (Or.inr (slot_ne (Or.inl (w_ hw 18 rfl)) (Or.inl (w_ hw 21 rfl)) (by decide) (t := (.array (.object "com/example/pennybreak/pennybreak/simplebook/RestingOrder"))) (t' := (.array .int)) (by decide) (by decide)))
  have U28_v54 := U28.other W42 (Ne.symm ne_A0_b28)
  have F_sizes_A0_v55 := P6_v37.same W42
  show Go p e below _ T42 (mkF m 19 #[.val (.ref A0)] [])
  refine Go.s_aloadN X42 hx (hb hby d2_19) (q := 20) rfl rfl rfl ?_
  refine Go.s_iconst X42 hx (hb hby d2_20) (q := 21) rfl (z := 1) rfl ?_
  refine Go.putF X42 hx hZ hown (w_ hw 22 rfl) Via.refl e42 P1_v46 P0_v45 (Or.inl (w_ hw 23 rfl)) (w_ hw 7 rfl) (ty := .int) (by decide) rfl rfl (hb hby d2_21) ?_
  intro T56 h56 X56 e56 W56
  have N56 := Fr.snoc X56 N42 P9
  have Z0_v57 := Nat.le_trans Z0_v43 (Keep.of_wr W56).1
  have fact_K_v58 := fact_K_v44.wr W56 (Or.inl (by simp))
  have P0_v59 := P0_v45.wr W56
  have P2_v60 := P2_v47.other W56 (Or.inr (slot_ne (Or.inl (w_ hw 59 rfl)) (Or.inl (w_ hw 23 rfl)) (by decide) (t := .int) (t' := .int) (by decide) (by decide)))
  have P3_v61 := P3_v48.other W56 (Or.inr (slot_ne (Or.inl (w_ hw 65 rfl)) (Or.inl (w_ hw 23 rfl)) (by decide) (t := .int) (t' := .int) (by decide) (by decide)))
  have P4_v62 := P4_v49.other W56 (Or.inr (slot_ne (Or.inl (w_ hw 25 rfl)) (Or.inl (w_ hw 23 rfl)) (by decide) (t := (.array .int)) (t' := .int) (by decide) (by decide)))
  have P5_v63 := P5_v50.other W56 (Or.inr (slot_ne (Or.inl (w_ hw 68 rfl)) (Or.inl (w_ hw 23 rfl)) (by decide) (t := .long) (t' := .int) (by decide) (by decide)))
  have P8_v64 := P8_v51.other W56 (Or.inr (slot_ne (Or.inl (w_ hw 48 rfl)) (Or.inl (w_ hw 23 rfl)) (by decide) (t := .int) (t' := .int) (by decide) (by decide)))
  have V2_14_v65 := V2_14_v52.other W56 (Ne.symm ne_A0_b2)
  have F_slots_A0_v66 := F_slots_A0_v53.other W56 (Or.inr (slot_ne (Or.inl (w_ hw 18 rfl)) (Or.inl (w_ hw 23 rfl)) (by decide) (t := (.array (.object "com/example/pennybreak/pennybreak/simplebook/RestingOrder"))) (t' := .int) (by decide) (by decide)))
  have U28_v67 := U28_v54.other W56 (Ne.symm ne_A0_b28)
  have F_sizes_A0_v68 := F_sizes_A0_v55.other W56 (Or.inr (slot_ne (Or.inl (w_ hw 21 rfl)) (Or.inl (w_ hw 23 rfl)) (by decide) (t := (.array .int)) (t' := .int) (by decide) (by decide)))
  have F_blocks_A0_v69 := P1_v46.same W56
  show Go p e below _ T56 (mkF m 24 #[.val (.ref A0)] [])
  refine Go.s_aloadN X56 hx (hb hby d2_24) (q := 25) rfl rfl rfl ?_
  refine Go.s_iconst X56 hx (hb hby d2_25) (q := 26) rfl (z := 0) rfl ?_
  refine Go.newP X56 hx hZ (w_ hw 19 rfl) e56 (hb hby d2_26) (by decide) (cap := 0) (by decide) (by decide) (by decide) (by decide) ?_
  intro T70 h70 b70 k70 g70 X70 e70 E70 V70
  have ne_A0_b70 : A0 ≠ b70 := Nat.ne_of_lt (g70 ▸ P0_v59.lt)
  have ne_b2_b70 : b2 ≠ b70 := Nat.ne_of_lt (g70 ▸ V2_14_v65.lt)
  have ne_b28_b70 : b28 ≠ b70 := Nat.ne_of_lt (g70 ▸ U28_v67.lt)
  have g_b70 : n0 ≤ b70 := g70 ▸ Z0_v57
  have sz_b70 : h0.size ≤ b70 := g70 ▸ fact_K_v58.1
  have Z0_v71 := Nat.le_trans Z0_v57 E70.1
  have fact_K_v72 := fact_K_v58.ext E70
  have P0_v73 := P0_v59.ext E70
  have P2_v74 := P2_v60.ext E70
  have P3_v75 := P3_v61.ext E70
  have P4_v76 := P4_v62.ext E70
  have P5_v77 := P5_v63.ext E70
  have P8_v78 := P8_v64.ext E70
  have V2_14_v79 := V2_14_v65.ext E70
  have F_slots_A0_v80 := F_slots_A0_v66.ext E70
  have U28_v81 := U28_v67.ext E70
  have F_sizes_A0_v82 := F_sizes_A0_v68.ext E70
  have F_blocks_A0_v83 := F_blocks_A0_v69.ext E70
  have V70_84 : Arv Z h70 b70 k70 .int (0 : Int32) [] (.int (0 : Int32)) := V70.pad (pad_rep [] (.int (0 : Int32)) 0)
  have U70 := UA.of_arv V70_84 (by decide : ((0 : Int32)).toNatClampNeg = 0)
  show Go p e below _ T70 (mkF m 28 #[.val (.ref A0)] [(.ref b70), (.ref A0)])
  refine Go.putF X70 hx hZ hown (w_ hw 24 rfl) Via.refl e70 P4_v76 P0_v73 (Or.inl (w_ hw 25 rfl)) (w_ hw 7 rfl) (ty := (.array .int)) (by decide) rfl rfl (hb hby d2_28) ?_
  intro T85 h85 X85 e85 W85
  have N85 := Fr.snoc X85 N56 P9
  have Z0_v86 := Nat.le_trans Z0_v71 (Keep.of_wr W85).1
  have fact_K_v87 := fact_K_v72.wr W85 (Or.inl (by simp))
  have P0_v88 := P0_v73.wr W85
  have P2_v89 := P2_v74.other W85 (Or.inr (slot_ne (Or.inl (w_ hw 59 rfl)) (Or.inl (w_ hw 25 rfl)) (by decide) (t := .int) (t' := (.array .int)) (by decide) (by decide)))
  have P3_v90 := P3_v75.other W85 (Or.inr (slot_ne (Or.inl (w_ hw 65 rfl)) (Or.inl (w_ hw 25 rfl)) (by decide) (t := .int) (t' := (.array .int)) (by decide) (by decide)))
  have P5_v91 := P5_v77.other W85 (Or.inr (slot_ne (Or.inl (w_ hw 68 rfl)) (Or.inl (w_ hw 25 rfl)) (by decide) (t := .long) (t' := (.array .int)) (by decide) (by decide)))
  have P8_v92 := P8_v78.other W85 (Or.inr (slot_ne (Or.inl (w_ hw 48 rfl)) (Or.inl (w_ hw 25 rfl)) (by decide) (t := .int) (t' := (.array .int)) (by decide) (by decide)))
  have V2_14_v93 := V2_14_v79.other W85 (Ne.symm ne_A0_b2)
  have F_slots_A0_v94 := F_slots_A0_v80.other W85 (Or.inr (slot_ne (Or.inl (w_ hw 18 rfl)) (Or.inl (w_ hw 25 rfl)) (by decide) (t := (.array (.object "com/example/pennybreak/pennybreak/simplebook/RestingOrder"))) (t' := (.array .int)) (by decide) (by decide)))
  have U28_v95 := U28_v81.other W85 (Ne.symm ne_A0_b28)
  have F_sizes_A0_v96 := F_sizes_A0_v82.other W85 (Or.inr (slot_ne (Or.inl (w_ hw 21 rfl)) (Or.inl (w_ hw 25 rfl)) (by decide) (t := (.array .int)) (t' := (.array .int)) (by decide) (by decide)))
  have F_blocks_A0_v97 := F_blocks_A0_v83.other W85 (Or.inr (slot_ne (Or.inl (w_ hw 23 rfl)) (Or.inl (w_ hw 25 rfl)) (by decide) (t := .int) (t' := (.array .int)) (by decide) (by decide)))
  have U70_v98 := U70.other W85 (Ne.symm ne_A0_b70)
  have F_largest_A0_v99 := P4_v76.same W85
  show Go p e below _ T85 (mkF m 31 #[.val (.ref A0)] [])
  refine Go.retV X85 hx hlk hret (hb hby d2_31) (by decide) (by decide) ?_
  try rw [e85]
  exact ⟨b2, b28, b70, k2, rfl, N85, fact_K_v87, sz_b2, sz_b28, sz_b70, P0_v88, F_blocks_A0_v97, P2_v89, P3_v90, F_largest_A0_v99, P5_v91, F_sizes_A0_v96, F_slots_A0_v94, P8_v92, V2_14_v93, U28_v95, U70_v98, O2, ne_b2_b28, ne_b2_b70, ne_b28_b70⟩
theorem ef_init_2 (m : MethodId) (x0 : Addr) (x2 : Int64) (x3 : Int32) : entryFrame m #[(.ref x0), .null, (.long x2), (.int x3)] 5 = mkF m 0 #[.val (.ref x0), .val .null, .val (.long x2), .second, .val (.int x3)] [] := by first | (simp [entryFrame, mkF, argsToLocals, Value.category]; done) | rfl
set_option maxRecDepth 65536 in
set_option maxHeartbeats 40000000 in
theorem rm_init_2 (l : Launch) (Z : State) (a0 : Array Value) (hw : ∀ d ∈ tables_1, d.before a0 Z = true)  (A0 : Addr) (I1 : Int32) (h0 : Heap) (n0 : Nat) (Z0 : n0 ≤ h0.size) (P0 : Exa Z h0 A0 "com/example/pennybreak/pennybreak/simplebook/RestingOrder") (P1 : Fld Z h0 A0 "com/example/pennybreak/pennybreak/simplebook/RestingOrder" "entry" "J" (.long (0 : Int64))) (P2 : Fld Z h0 A0 "com/example/pennybreak/pennybreak/simplebook/RestingOrder" "openSize" "I" (.int (0 : Int32))) (P3 : Fld Z h0 A0 "com/example/pennybreak/pennybreak/simplebook/RestingOrder" "order" "Lcom/example/pennybreak/pennybreak/simplebook/Order;" .null) (P4 : Fld Z h0 A0 "com/example/pennybreak/pennybreak/simplebook/RestingOrder" "slot" "I" (.int (0 : Int32))) (P5 : n0 ≤ A0) :
    Ct l mn_4 prog_105_method_1_code 5 none ({ frames := 1, cells := 0, slots := 0, locals := 12 } : Room) Z h0 #[(.ref A0), .null, (.long (0 : Int64)), (.int I1)] (fun v h L => v = none ∧ Fr n0 L ∧ Keep h0 h [A0] ∧ Exa Z h A0 "com/example/pennybreak/pennybreak/simplebook/RestingOrder" ∧ Fld Z h A0 "com/example/pennybreak/pennybreak/simplebook/RestingOrder" "entry" "J" (.long (0 : Int64)) ∧ Fld Z h A0 "com/example/pennybreak/pennybreak/simplebook/RestingOrder" "openSize" "I" (.int I1) ∧ Fld Z h A0 "com/example/pennybreak/pennybreak/simplebook/RestingOrder" "order" "Lcom/example/pennybreak/pennybreak/simplebook/Order;" .null ∧ Fld Z h A0 "com/example/pennybreak/pennybreak/simplebook/RestingOrder" "slot" "I" (.int (0 : Int32))) := by
  refine Ct.body (plainFor_of_name pn_com_example_pennybreak_pennybreak_simplebook_RestingOrder) ?_
  intro p e s m below meth c T0 hx hby hml hown hnm hret hlk hZ X0 e0
  refine Go.cast (ef_init_2 m A0 (0 : Int64) I1) ?_
  show Go p e below _ T0 (mkF m 0 #[.val (.ref A0), .val .null, .val (.long (0 : Int64)), .second, .val (.int I1)] [])
  refine Go.s_aloadN X0 hx (hb hby d4_0) (q := 1) rfl rfl rfl ?_
  refine Go.initO X0 hx hZ hown (w_ hw 32 rfl) (w_ hw 13 rfl) (w_ hw 14 rfl) e0 (by rw [hml]; rfl) (hb hby d4_1) (by decide) (by decide) ?_
  intro T1 X1 e1
  show Go p e below _ T1 (mkF m 4 #[.val (.ref A0), .val .null, .val (.long (0 : Int64)), .second, .val (.int I1)] [])
  refine Go.s_aloadN X1 hx (hb hby d4_4) (q := 5) rfl rfl rfl ?_
  refine Go.s_aloadN X1 hx (hb hby d4_5) (q := 6) rfl rfl rfl ?_
  refine Go.putF X1 hx hZ hown (w_ hw 33 rfl) Via.refl e1 P3 P0 (Or.inr ⟨(w_ hw 34 rfl), rfl, hnm⟩) (w_ hw 27 rfl) (ty := (.object "com/example/pennybreak/pennybreak/simplebook/Order")) (by decide) rfl rfl (hb hby d4_6) ?_
  intro T2 h2 X2 e2 W2
  have N2 := Fr.snoc X2 (Fr.nil n0) P5
  have Z0_v3 := Nat.le_trans Z0 (Keep.of_wr W2).1
  have fact_K_v4 := (Keep.refl h0 [A0]).wr W2 (Or.inl (by simp))
  have P0_v5 := P0.wr W2
  have P1_v6 := P1.other W2 (Or.inr (slot_ne (Or.inr (w_ hw 36 rfl)) (Or.inr (w_ hw 34 rfl)) (by decide) (t := .long) (t' := (.object "com/example/pennybreak/pennybreak/simplebook/Order")) (by decide) (by decide)))
  have P2_v7 := P2.other W2 (Or.inr (slot_ne (Or.inl (w_ hw 38 rfl)) (Or.inr (w_ hw 34 rfl)) (by decide) (t := .int) (t' := (.object "com/example/pennybreak/pennybreak/simplebook/Order")) (by decide) (by decide)))
  have P4_v8 := P4.other W2 (Or.inr (slot_ne (Or.inl (w_ hw 46 rfl)) (Or.inr (w_ hw 34 rfl)) (by decide) (t := .int) (t' := (.object "com/example/pennybreak/pennybreak/simplebook/Order")) (by decide) (by decide)))
  have F_order_A0_v9 := P3.same W2
  show Go p e below _ T2 (mkF m 9 #[.val (.ref A0), .val .null, .val (.long (0 : Int64)), .second, .val (.int I1)] [])
  refine Go.s_aloadN X2 hx (hb hby d4_9) (q := 10) rfl rfl rfl ?_
  refine Go.s_lloadN X2 hx (hb hby d4_10) (q := 11) rfl rfl ?_
  refine Go.putF X2 hx hZ hown (w_ hw 35 rfl) Via.refl e2 P1_v6 P0_v5 (Or.inr ⟨(w_ hw 36 rfl), rfl, hnm⟩) (w_ hw 27 rfl) (ty := .long) (by decide) rfl rfl (hb hby d4_11) ?_
  intro T10 h10 X10 e10 W10
  have N10 := Fr.snoc X10 N2 P5
  have Z0_v11 := Nat.le_trans Z0_v3 (Keep.of_wr W10).1
  have fact_K_v12 := fact_K_v4.wr W10 (Or.inl (by simp))
  have P0_v13 := P0_v5.wr W10
  have P2_v14 := P2_v7.other W10 (Or.inr (slot_ne (Or.inl (w_ hw 38 rfl)) (Or.inr (w_ hw 36 rfl)) (by decide) (t := .int) (t' := .long) (by decide) (by decide)))
  have P4_v15 := P4_v8.other W10 (Or.inr (slot_ne (Or.inl (w_ hw 46 rfl)) (Or.inr (w_ hw 36 rfl)) (by decide) (t := .int) (t' := .long) (by decide) (by decide)))
  have F_order_A0_v16 := F_order_A0_v9.other W10 (Or.inr (slot_ne (Or.inr (w_ hw 34 rfl)) (Or.inr (w_ hw 36 rfl)) (by decide) (t := (.object "com/example/pennybreak/pennybreak/simplebook/Order")) (t' := .long) (by decide) (by decide)))
  have F_entry_A0_v17 := P1_v6.same W10
  show Go p e below _ T10 (mkF m 14 #[.val (.ref A0), .val .null, .val (.long (0 : Int64)), .second, .val (.int I1)] [])
  refine Go.s_aloadN X10 hx (hb hby d4_14) (q := 15) rfl rfl rfl ?_
  refine Go.s_iload X10 hx (hb hby d4_15) (q := 17) rfl rfl ?_
  refine Go.putF X10 hx hZ hown (w_ hw 37 rfl) Via.refl e10 P2_v14 P0_v13 (Or.inl (w_ hw 38 rfl)) (w_ hw 27 rfl) (ty := .int) (by decide) rfl rfl (hb hby d4_17) ?_
  intro T18 h18 X18 e18 W18
  have N18 := Fr.snoc X18 N10 P5
  have Z0_v19 := Nat.le_trans Z0_v11 (Keep.of_wr W18).1
  have fact_K_v20 := fact_K_v12.wr W18 (Or.inl (by simp))
  have P0_v21 := P0_v13.wr W18
  have P4_v22 := P4_v15.other W18 (Or.inr (slot_ne (Or.inl (w_ hw 46 rfl)) (Or.inl (w_ hw 38 rfl)) (by decide) (t := .int) (t' := .int) (by decide) (by decide)))
  have F_order_A0_v23 := F_order_A0_v16.other W18 (Or.inr (slot_ne (Or.inr (w_ hw 34 rfl)) (Or.inl (w_ hw 38 rfl)) (by decide) (t := (.object "com/example/pennybreak/pennybreak/simplebook/Order")) (t' := .int) (by decide) (by decide)))
  have F_entry_A0_v24 := F_entry_A0_v17.other W18 (Or.inr (slot_ne (Or.inr (w_ hw 36 rfl)) (Or.inl (w_ hw 38 rfl)) (by decide) (t := .long) (t' := .int) (by decide) (by decide)))
  have F_openSize_A0_v25 := P2_v14.same W18
  show Go p e below _ T18 (mkF m 20 #[.val (.ref A0), .val .null, .val (.long (0 : Int64)), .second, .val (.int I1)] [])
  refine Go.retV X18 hx hlk hret (hb hby d4_20) (by decide) (by decide) ?_
  try rw [e18]
  exact ⟨rfl, N18, fact_K_v20, P0_v21, F_entry_A0_v24, F_openSize_A0_v25, F_order_A0_v23, P4_v22⟩
theorem ef_init_3 (m : MethodId) (x0 : Addr) (x2 : Int64) (x3 : Int32) : entryFrame m #[(.ref x0), .null, (.long x2), (.int x3)] 5 = mkF m 0 #[.val (.ref x0), .val .null, .val (.long x2), .second, .val (.int x3)] [] := by first | (simp [entryFrame, mkF, argsToLocals, Value.category]; done) | rfl
set_option maxRecDepth 65536 in
set_option maxHeartbeats 40000000 in
theorem rm_init_3 (l : Launch) (Z : State) (a0 : Array Value) (hw : ∀ d ∈ tables_1, d.before a0 Z = true)  (A0 : Addr) (I1 : Int32) (h0 : Heap) (n0 : Nat) (Z0 : n0 ≤ h0.size) (P0 : Exa Z h0 A0 "com/example/pennybreak/pennybreak/simplebook/RestingOrder") (P1 : Fld Z h0 A0 "com/example/pennybreak/pennybreak/simplebook/RestingOrder" "entry" "J" (.long (0 : Int64))) (P2 : Fld Z h0 A0 "com/example/pennybreak/pennybreak/simplebook/RestingOrder" "openSize" "I" (.int (0 : Int32))) (P3 : Fld Z h0 A0 "com/example/pennybreak/pennybreak/simplebook/RestingOrder" "order" "Lcom/example/pennybreak/pennybreak/simplebook/Order;" .null) (P4 : Fld Z h0 A0 "com/example/pennybreak/pennybreak/simplebook/RestingOrder" "slot" "I" (.int (0 : Int32))) (P5 : n0 ≤ A0) :
    Ct l mn_4 prog_105_method_1_code 5 none ({ frames := 1, cells := 0, slots := 0, locals := 12 } : Room) Z h0 #[(.ref A0), .null, (.long (1 : Int64)), (.int I1)] (fun v h L => v = none ∧ Fr n0 L ∧ Keep h0 h [A0] ∧ Exa Z h A0 "com/example/pennybreak/pennybreak/simplebook/RestingOrder" ∧ Fld Z h A0 "com/example/pennybreak/pennybreak/simplebook/RestingOrder" "entry" "J" (.long (1 : Int64)) ∧ Fld Z h A0 "com/example/pennybreak/pennybreak/simplebook/RestingOrder" "openSize" "I" (.int I1) ∧ Fld Z h A0 "com/example/pennybreak/pennybreak/simplebook/RestingOrder" "order" "Lcom/example/pennybreak/pennybreak/simplebook/Order;" .null ∧ Fld Z h A0 "com/example/pennybreak/pennybreak/simplebook/RestingOrder" "slot" "I" (.int (0 : Int32))) := by
  refine Ct.body (plainFor_of_name pn_com_example_pennybreak_pennybreak_simplebook_RestingOrder) ?_
  intro p e s m below meth c T0 hx hby hml hown hnm hret hlk hZ X0 e0
  refine Go.cast (ef_init_3 m A0 (1 : Int64) I1) ?_
  show Go p e below _ T0 (mkF m 0 #[.val (.ref A0), .val .null, .val (.long (1 : Int64)), .second, .val (.int I1)] [])
  refine Go.s_aloadN X0 hx (hb hby d4_0) (q := 1) rfl rfl rfl ?_
  refine Go.initO X0 hx hZ hown (w_ hw 32 rfl) (w_ hw 13 rfl) (w_ hw 14 rfl) e0 (by rw [hml]; rfl) (hb hby d4_1) (by decide) (by decide) ?_
  intro T1 X1 e1
  show Go p e below _ T1 (mkF m 4 #[.val (.ref A0), .val .null, .val (.long (1 : Int64)), .second, .val (.int I1)] [])
  refine Go.s_aloadN X1 hx (hb hby d4_4) (q := 5) rfl rfl rfl ?_
  refine Go.s_aloadN X1 hx (hb hby d4_5) (q := 6) rfl rfl rfl ?_
  refine Go.putF X1 hx hZ hown (w_ hw 33 rfl) Via.refl e1 P3 P0 (Or.inr ⟨(w_ hw 34 rfl), rfl, hnm⟩) (w_ hw 27 rfl) (ty := (.object "com/example/pennybreak/pennybreak/simplebook/Order")) (by decide) rfl rfl (hb hby d4_6) ?_
  intro T2 h2 X2 e2 W2
  have N2 := Fr.snoc X2 (Fr.nil n0) P5
  have Z0_v3 := Nat.le_trans Z0 (Keep.of_wr W2).1
  have fact_K_v4 := (Keep.refl h0 [A0]).wr W2 (Or.inl (by simp))
  have P0_v5 := P0.wr W2
  have P1_v6 := P1.other W2 (Or.inr (slot_ne (Or.inr (w_ hw 36 rfl)) (Or.inr (w_ hw 34 rfl)) (by decide) (t := .long) (t' := (.object "com/example/pennybreak/pennybreak/simplebook/Order")) (by decide) (by decide)))
  have P2_v7 := P2.other W2 (Or.inr (slot_ne (Or.inl (w_ hw 38 rfl)) (Or.inr (w_ hw 34 rfl)) (by decide) (t := .int) (t' := (.object "com/example/pennybreak/pennybreak/simplebook/Order")) (by decide) (by decide)))
  have P4_v8 := P4.other W2 (Or.inr (slot_ne (Or.inl (w_ hw 46 rfl)) (Or.inr (w_ hw 34 rfl)) (by decide) (t := .int) (t' := (.object "com/example/pennybreak/pennybreak/simplebook/Order")) (by decide) (by decide)))
  have F_order_A0_v9 := P3.same W2
  show Go p e below _ T2 (mkF m 9 #[.val (.ref A0), .val .null, .val (.long (1 : Int64)), .second, .val (.int I1)] [])
  refine Go.s_aloadN X2 hx (hb hby d4_9) (q := 10) rfl rfl rfl ?_
  refine Go.s_lloadN X2 hx (hb hby d4_10) (q := 11) rfl rfl ?_
  refine Go.putF X2 hx hZ hown (w_ hw 35 rfl) Via.refl e2 P1_v6 P0_v5 (Or.inr ⟨(w_ hw 36 rfl), rfl, hnm⟩) (w_ hw 27 rfl) (ty := .long) (by decide) rfl rfl (hb hby d4_11) ?_
  intro T10 h10 X10 e10 W10
  have N10 := Fr.snoc X10 N2 P5
  have Z0_v11 := Nat.le_trans Z0_v3 (Keep.of_wr W10).1
  have fact_K_v12 := fact_K_v4.wr W10 (Or.inl (by simp))
  have P0_v13 := P0_v5.wr W10
  have P2_v14 := P2_v7.other W10 (Or.inr (slot_ne (Or.inl (w_ hw 38 rfl)) (Or.inr (w_ hw 36 rfl)) (by decide) (t := .int) (t' := .long) (by decide) (by decide)))
  have P4_v15 := P4_v8.other W10 (Or.inr (slot_ne (Or.inl (w_ hw 46 rfl)) (Or.inr (w_ hw 36 rfl)) (by decide) (t := .int) (t' := .long) (by decide) (by decide)))
  have F_order_A0_v16 := F_order_A0_v9.other W10 (Or.inr (slot_ne (Or.inr (w_ hw 34 rfl)) (Or.inr (w_ hw 36 rfl)) (by decide) (t := (.object "com/example/pennybreak/pennybreak/simplebook/Order")) (t' := .long) (by decide) (by decide)))
  have F_entry_A0_v17 := P1_v6.same W10
  show Go p e below _ T10 (mkF m 14 #[.val (.ref A0), .val .null, .val (.long (1 : Int64)), .second, .val (.int I1)] [])
  refine Go.s_aloadN X10 hx (hb hby d4_14) (q := 15) rfl rfl rfl ?_
  refine Go.s_iload X10 hx (hb hby d4_15) (q := 17) rfl rfl ?_
  refine Go.putF X10 hx hZ hown (w_ hw 37 rfl) Via.refl e10 P2_v14 P0_v13 (Or.inl (w_ hw 38 rfl)) (w_ hw 27 rfl) (ty := .int) (by decide) rfl rfl (hb hby d4_17) ?_
  intro T18 h18 X18 e18 W18
  have N18 := Fr.snoc X18 N10 P5
  have Z0_v19 := Nat.le_trans Z0_v11 (Keep.of_wr W18).1
  have fact_K_v20 := fact_K_v12.wr W18 (Or.inl (by simp))
  have P0_v21 := P0_v13.wr W18
  have P4_v22 := P4_v15.other W18 (Or.inr (slot_ne (Or.inl (w_ hw 46 rfl)) (Or.inl (w_ hw 38 rfl)) (by decide) (t := .int) (t' := .int) (by decide) (by decide)))
  have F_order_A0_v23 := F_order_A0_v16.other W18 (Or.inr (slot_ne (Or.inr (w_ hw 34 rfl)) (Or.inl (w_ hw 38 rfl)) (by decide) (t := (.object "com/example/pennybreak/pennybreak/simplebook/Order")) (t' := .int) (by decide) (by decide)))
  have F_entry_A0_v24 := F_entry_A0_v17.other W18 (Or.inr (slot_ne (Or.inr (w_ hw 36 rfl)) (Or.inl (w_ hw 38 rfl)) (by decide) (t := .long) (t' := .int) (by decide) (by decide)))
  have F_openSize_A0_v25 := P2_v14.same W18
  show Go p e below _ T18 (mkF m 20 #[.val (.ref A0), .val .null, .val (.long (1 : Int64)), .second, .val (.int I1)] [])
  refine Go.retV X18 hx hlk hret (hb hby d4_20) (by decide) (by decide) ?_
  try rw [e18]
  exact ⟨rfl, N18, fact_K_v20, P0_v21, F_entry_A0_v24, F_openSize_A0_v25, F_order_A0_v23, P4_v22⟩
theorem ef_init_4 (m : MethodId) (x0 : Addr) (x2 : Int64) (x3 : Int32) : entryFrame m #[(.ref x0), .null, (.long x2), (.int x3)] 5 = mkF m 0 #[.val (.ref x0), .val .null, .val (.long x2), .second, .val (.int x3)] [] := by first | (simp [entryFrame, mkF, argsToLocals, Value.category]; done) | rfl
set_option maxRecDepth 65536 in
set_option maxHeartbeats 40000000 in
theorem rm_init_4 (l : Launch) (Z : State) (a0 : Array Value) (hw : ∀ d ∈ tables_1, d.before a0 Z = true)  (A0 : Addr) (I1 : Int32) (h0 : Heap) (n0 : Nat) (Z0 : n0 ≤ h0.size) (P0 : Exa Z h0 A0 "com/example/pennybreak/pennybreak/simplebook/RestingOrder") (P1 : Fld Z h0 A0 "com/example/pennybreak/pennybreak/simplebook/RestingOrder" "entry" "J" (.long (0 : Int64))) (P2 : Fld Z h0 A0 "com/example/pennybreak/pennybreak/simplebook/RestingOrder" "openSize" "I" (.int (0 : Int32))) (P3 : Fld Z h0 A0 "com/example/pennybreak/pennybreak/simplebook/RestingOrder" "order" "Lcom/example/pennybreak/pennybreak/simplebook/Order;" .null) (P4 : Fld Z h0 A0 "com/example/pennybreak/pennybreak/simplebook/RestingOrder" "slot" "I" (.int (0 : Int32))) (P5 : n0 ≤ A0) :
    Ct l mn_4 prog_105_method_1_code 5 none ({ frames := 1, cells := 0, slots := 0, locals := 12 } : Room) Z h0 #[(.ref A0), .null, (.long (2 : Int64)), (.int I1)] (fun v h L => v = none ∧ Fr n0 L ∧ Keep h0 h [A0] ∧ Exa Z h A0 "com/example/pennybreak/pennybreak/simplebook/RestingOrder" ∧ Fld Z h A0 "com/example/pennybreak/pennybreak/simplebook/RestingOrder" "entry" "J" (.long (2 : Int64)) ∧ Fld Z h A0 "com/example/pennybreak/pennybreak/simplebook/RestingOrder" "openSize" "I" (.int I1) ∧ Fld Z h A0 "com/example/pennybreak/pennybreak/simplebook/RestingOrder" "order" "Lcom/example/pennybreak/pennybreak/simplebook/Order;" .null ∧ Fld Z h A0 "com/example/pennybreak/pennybreak/simplebook/RestingOrder" "slot" "I" (.int (0 : Int32))) := by
  refine Ct.body (plainFor_of_name pn_com_example_pennybreak_pennybreak_simplebook_RestingOrder) ?_
  intro p e s m below meth c T0 hx hby hml hown hnm hret hlk hZ X0 e0
  refine Go.cast (ef_init_4 m A0 (2 : Int64) I1) ?_
  show Go p e below _ T0 (mkF m 0 #[.val (.ref A0), .val .null, .val (.long (2 : Int64)), .second, .val (.int I1)] [])
  refine Go.s_aloadN X0 hx (hb hby d4_0) (q := 1) rfl rfl rfl ?_
  refine Go.initO X0 hx hZ hown (w_ hw 32 rfl) (w_ hw 13 rfl) (w_ hw 14 rfl) e0 (by rw [hml]; rfl) (hb hby d4_1) (by decide) (by decide) ?_
  intro T1 X1 e1
  show Go p e below _ T1 (mkF m 4 #[.val (.ref A0), .val .null, .val (.long (2 : Int64)), .second, .val (.int I1)] [])
  refine Go.s_aloadN X1 hx (hb hby d4_4) (q := 5) rfl rfl rfl ?_
  refine Go.s_aloadN X1 hx (hb hby d4_5) (q := 6) rfl rfl rfl ?_
  refine Go.putF X1 hx hZ hown (w_ hw 33 rfl) Via.refl e1 P3 P0 (Or.inr ⟨(w_ hw 34 rfl), rfl, hnm⟩) (w_ hw 27 rfl) (ty := (.object "com/example/pennybreak/pennybreak/simplebook/Order")) (by decide) rfl rfl (hb hby d4_6) ?_
  intro T2 h2 X2 e2 W2
  have N2 := Fr.snoc X2 (Fr.nil n0) P5
  have Z0_v3 := Nat.le_trans Z0 (Keep.of_wr W2).1
  have fact_K_v4 := (Keep.refl h0 [A0]).wr W2 (Or.inl (by simp))
  have P0_v5 := P0.wr W2
  have P1_v6 := P1.other W2 (Or.inr (slot_ne (Or.inr (w_ hw 36 rfl)) (Or.inr (w_ hw 34 rfl)) (by decide) (t := .long) (t' := (.object "com/example/pennybreak/pennybreak/simplebook/Order")) (by decide) (by decide)))
  have P2_v7 := P2.other W2 (Or.inr (slot_ne (Or.inl (w_ hw 38 rfl)) (Or.inr (w_ hw 34 rfl)) (by decide) (t := .int) (t' := (.object "com/example/pennybreak/pennybreak/simplebook/Order")) (by decide) (by decide)))
  have P4_v8 := P4.other W2 (Or.inr (slot_ne (Or.inl (w_ hw 46 rfl)) (Or.inr (w_ hw 34 rfl)) (by decide) (t := .int) (t' := (.object "com/example/pennybreak/pennybreak/simplebook/Order")) (by decide) (by decide)))
  have F_order_A0_v9 := P3.same W2
  show Go p e below _ T2 (mkF m 9 #[.val (.ref A0), .val .null, .val (.long (2 : Int64)), .second, .val (.int I1)] [])
  refine Go.s_aloadN X2 hx (hb hby d4_9) (q := 10) rfl rfl rfl ?_
  refine Go.s_lloadN X2 hx (hb hby d4_10) (q := 11) rfl rfl ?_
  refine Go.putF X2 hx hZ hown (w_ hw 35 rfl) Via.refl e2 P1_v6 P0_v5 (Or.inr ⟨(w_ hw 36 rfl), rfl, hnm⟩) (w_ hw 27 rfl) (ty := .long) (by decide) rfl rfl (hb hby d4_11) ?_
  intro T10 h10 X10 e10 W10
  have N10 := Fr.snoc X10 N2 P5
  have Z0_v11 := Nat.le_trans Z0_v3 (Keep.of_wr W10).1
  have fact_K_v12 := fact_K_v4.wr W10 (Or.inl (by simp))
  have P0_v13 := P0_v5.wr W10
  have P2_v14 := P2_v7.other W10 (Or.inr (slot_ne (Or.inl (w_ hw 38 rfl)) (Or.inr (w_ hw 36 rfl)) (by decide) (t := .int) (t' := .long) (by decide) (by decide)))
  have P4_v15 := P4_v8.other W10 (Or.inr (slot_ne (Or.inl (w_ hw 46 rfl)) (Or.inr (w_ hw 36 rfl)) (by decide) (t := .int) (t' := .long) (by decide) (by decide)))
  have F_order_A0_v16 := F_order_A0_v9.other W10 (Or.inr (slot_ne (Or.inr (w_ hw 34 rfl)) (Or.inr (w_ hw 36 rfl)) (by decide) (t := (.object "com/example/pennybreak/pennybreak/simplebook/Order")) (t' := .long) (by decide) (by decide)))
  have F_entry_A0_v17 := P1_v6.same W10
  show Go p e below _ T10 (mkF m 14 #[.val (.ref A0), .val .null, .val (.long (2 : Int64)), .second, .val (.int I1)] [])
  refine Go.s_aloadN X10 hx (hb hby d4_14) (q := 15) rfl rfl rfl ?_
  refine Go.s_iload X10 hx (hb hby d4_15) (q := 17) rfl rfl ?_
  refine Go.putF X10 hx hZ hown (w_ hw 37 rfl) Via.refl e10 P2_v14 P0_v13 (Or.inl (w_ hw 38 rfl)) (w_ hw 27 rfl) (ty := .int) (by decide) rfl rfl (hb hby d4_17) ?_
  intro T18 h18 X18 e18 W18
  have N18 := Fr.snoc X18 N10 P5
  have Z0_v19 := Nat.le_trans Z0_v11 (Keep.of_wr W18).1
  have fact_K_v20 := fact_K_v12.wr W18 (Or.inl (by simp))
  have P0_v21 := P0_v13.wr W18
  have P4_v22 := P4_v15.other W18 (Or.inr (slot_ne (Or.inl (w_ hw 46 rfl)) (Or.inl (w_ hw 38 rfl)) (by decide) (t := .int) (t' := .int) (by decide) (by decide)))
  have F_order_A0_v23 := F_order_A0_v16.other W18 (Or.inr (slot_ne (Or.inr (w_ hw 34 rfl)) (Or.inl (w_ hw 38 rfl)) (by decide) (t := (.object "com/example/pennybreak/pennybreak/simplebook/Order")) (t' := .int) (by decide) (by decide)))
  have F_entry_A0_v24 := F_entry_A0_v17.other W18 (Or.inr (slot_ne (Or.inr (w_ hw 36 rfl)) (Or.inl (w_ hw 38 rfl)) (by decide) (t := .long) (t' := .int) (by decide) (by decide)))
  have F_openSize_A0_v25 := P2_v14.same W18
  show Go p e below _ T18 (mkF m 20 #[.val (.ref A0), .val .null, .val (.long (2 : Int64)), .second, .val (.int I1)] [])
  refine Go.retV X18 hx hlk hret (hb hby d4_20) (by decide) (by decide) ?_
  try rw [e18]
  exact ⟨rfl, N18, fact_K_v20, P0_v21, F_entry_A0_v24, F_openSize_A0_v25, F_order_A0_v23, P4_v22⟩
set_option maxRecDepth 65536 in
set_option maxHeartbeats 40000000 in
theorem law_mid {p : Program} {l : Launch} {e : Env} {s : State} {m : MethodId} {args : Array Value} {below : List Frame} {meth : Method} {c : Code} {Z : State} {a0 : Array Value} {h0 : Heap} (hw : ∀ d ∈ tables_1, d.before a0 Z = true) (hx : p.tables.exec = Jvm.exec) (hby : c.code = code) (hml : c.maxLocals = maxLocals) (hown : s.vm.findClass "com/example/pennybreak/pennybreak/simplebook/OrderQueueHoldsPinLaw" = some m.cls) (hZ : Z.Warmed39 s.vm) {F : State → Outcome → Prop} {x0 x1 x2 x3 x4 f5 f6 f7 f8 f9 : Int32} {n0 : Nat} {T0 : State} (X0 : Stand p l e room_1 s m args below meth c T0 [] 0 0) (e0 : T0.heap = h0) (Z0 : n0 ≤ h0.size)
    (KK : ∀ (T' : State) (h' : Heap) (LL : List Loc) (w1 : Int32) (b2 : Addr) (b6 : Addr) (b35 : Addr) (b71 : Addr) (b2_4 : Addr) (b1_4 : Addr) (b0_4 : Addr) (kk3_4 : ClassId) (w20 : Int32) (w93 : Int32), Stand p l e room_1 s m args below meth c T' LL 7 20 → T'.heap = h' → Fr n0 LL → (w1 = ((x2 &&& (2147483647 : Int32)) % (1000000 : Int32)) + (1 : Int32)) → (w20 = ((x1 &&& (2147483647 : Int32)) % (1000000 : Int32)) + (1 : Int32)) → (w93 = ((x3 &&& (2147483647 : Int32)) % (1000000 : Int32)) + (1 : Int32)) → (Exa Z h' b2 "com/example/pennybreak/pennybreak/simplebook/OrderQueue") → (Fld Z h' b2 "com/example/pennybreak/pennybreak/simplebook/OrderQueue" "blocks" "I" (.int (1 : Int32))) → (Fld Z h' b2 "com/example/pennybreak/pennybreak/simplebook/OrderQueue" "count" "I" (.int (0 : Int32))) → (Fld Z h' b2 "com/example/pennybreak/pennybreak/simplebook/OrderQueue" "front" "I" (.int (0 : Int32))) → (Fld Z h' b2 "com/example/pennybreak/pennybreak/simplebook/OrderQueue" "largest" "[I" (.ref b2_4)) → (Fld Z h' b2 "com/example/pennybreak/pennybreak/simplebook/OrderQueue" "open" "J" (.long (0 : Int64))) → (Fld Z h' b2 "com/example/pennybreak/pennybreak/simplebook/OrderQueue" "sizes" "[I" (.ref b1_4)) → (Fld Z h' b2 "com/example/pennybreak/pennybreak/simplebook/OrderQueue" "slots" "[Lcom/example/pennybreak/pennybreak/simplebook/RestingOrder;" (.ref b0_4)) → (Fld Z h' b2 "com/example/pennybreak/pennybreak/simplebook/OrderQueue" "used" "I" (.int (0 : Int32))) → (Arv Z h' b0_4 kk3_4 (.object "com/example/pennybreak/pennybreak/simplebook/RestingOrder") (0 : Int32) [] .null) → (UA Z h' b1_4 0) → (UA Z h' b2_4 0) → (Exa Z h' b6 "com/example/pennybreak/pennybreak/simplebook/RestingOrder") → (Fld Z h' b6 "com/example/pennybreak/pennybreak/simplebook/RestingOrder" "openSize" "I" (.int w20)) → (Fld Z h' b6 "com/example/pennybreak/pennybreak/simplebook/RestingOrder" "slot" "I" (.int (0 : Int32))) → (Exa Z h' b35 "com/example/pennybreak/pennybreak/simplebook/RestingOrder") → (Fld Z h' b35 "com/example/pennybreak/pennybreak/simplebook/RestingOrder" "openSize" "I" (.int w1)) → (Fld Z h' b35 "com/example/pennybreak/pennybreak/simplebook/RestingOrder" "slot" "I" (.int (0 : Int32))) → (n0 ≤ b2) → (b2 ≠ b0_4) → (n0 ≤ b0_4) → (b2 ≠ b1_4) → (n0 ≤ b1_4) → (b2 ≠ b2_4) → (n0 ≤ b2_4) → (Ovr Z kk3_4 "com/example/pennybreak/pennybreak/simplebook/RestingOrder") → (b0_4 ≠ b1_4) → (b0_4 ≠ b2_4) → (b1_4 ≠ b2_4) → (b2 ≠ b6) → (b0_4 ≠ b6) → (b1_4 ≠ b6) → (b2_4 ≠ b6) → (n0 ≤ b6) → (b2 ≠ b35) → (b0_4 ≠ b35) → (b1_4 ≠ b35) → (b2_4 ≠ b35) → (b6 ≠ b35) → (n0 ≤ b35) → (b2 ≠ b71) → (b0_4 ≠ b71) → (b1_4 ≠ b71) → (b2_4 ≠ b71) → (b6 ≠ b71) → (b35 ≠ b71) → (n0 ≤ b71) → (Exa Z h' b71 "com/example/pennybreak/pennybreak/simplebook/RestingOrder") → (Fld Z h' b71 "com/example/pennybreak/pennybreak/simplebook/RestingOrder" "openSize" "I" (.int w93)) → (Fld Z h' b71 "com/example/pennybreak/pennybreak/simplebook/RestingOrder" "slot" "I" (.int (0 : Int32))) → (n0 ≤ h'.size) → Go p e below F T' (mkF m 132 #[.val (.int x0), .val (.int x1), .val (.int x2), .val (.int x3), .val (.int x4), .val (.int f5), .val (.int f6), .val (.int f7), .val (.int f8), .val (.int f9), .val (.int w1), .val (.ref b2), .val (.ref b6), .val (.ref b35), .val (.ref b71), .unset, .unset] [])) : Go p e below F T0 (mkF m 72 #[.val (.int x0), .val (.int x1), .val (.int x2), .val (.int x3), .val (.int x4), .val (.int f5), .val (.int f6), .val (.int f7), .val (.int f8), .val (.int f9), .unset, .unset, .unset, .unset, .unset, .unset, .unset] []) := by
  show Go p e below _ T0 (mkF m 72 #[.val (.int x0), .val (.int x1), .val (.int x2), .val (.int x3), .val (.int x4), .val (.int f5), .val (.int f6), .val (.int f7), .val (.int f8), .val (.int f9), .unset, .unset, .unset, .unset, .unset, .unset, .unset] [])
  refine Go.s_iloadN X0 hx (hb hby at_72) (q := 73) rfl rfl ?_
  refine Go.callS (y := mn_1) X0 hx hZ hown (w_ hw 0 rfl) (w_ hw 1 rfl) (w_ hw 2 rfl) (w_ hw 3 rfl) (by decide) e0 (argsL := [(.int x2)]) (rest := []) (rm_size l Z a0 hw x2 _) (by rw [hml]; rfl) (lenOf pd_1 rfl) rfl (hb hby at_73) (by decide) (by decide) (by decide) (by decide) ?_
  intro r1 T1 L1 q1 X1
  obtain ⟨w1, rfl, p1, rfl, e1⟩ := q1
  rw [List.append_nil] at X1
  show Go p e below _ T1 (mkF m 76 #[.val (.int x0), .val (.int x1), .val (.int x2), .val (.int x3), .val (.int x4), .val (.int f5), .val (.int f6), .val (.int f7), .val (.int f8), .val (.int f9), .unset, .unset, .unset, .unset, .unset, .unset, .unset] [(.int w1)])
  refine Go.s_istore X1 hx (hb hby at_76) (q := 78) rfl (l' := #[.val (.int x0), .val (.int x1), .val (.int x2), .val (.int x3), .val (.int x4), .val (.int f5), .val (.int f6), .val (.int f7), .val (.int f8), .val (.int f9), .val (.int w1), .unset, .unset, .unset, .unset, .unset, .unset]) rfl ?_
  refine Go.newO X1 hx hZ hown (w_ hw 6 rfl) (w_ hw 7 rfl) (w_ hw 8 rfl) e1 (hb hby at_78) (by decide) (by decide) ?_
  intro T2 h2 b2 g2 X2 e2 E2 A2 D2
  have g_b2 : n0 ≤ b2 := g2 ▸ Z0
  have Z0_v3 := Nat.le_trans Z0 E2.1
  have F_slots_b2 : Fld Z h2 b2 "com/example/pennybreak/pennybreak/simplebook/OrderQueue" "slots" "[Lcom/example/pennybreak/pennybreak/simplebook/RestingOrder;" .null := D2 (Or.inl (w_ hw 18 rfl)) (ty := (.array (.object "com/example/pennybreak/pennybreak/simplebook/RestingOrder"))) (by decide)
  have F_sizes_b2 : Fld Z h2 b2 "com/example/pennybreak/pennybreak/simplebook/OrderQueue" "sizes" "[I" .null := D2 (Or.inl (w_ hw 21 rfl)) (ty := (.array .int)) (by decide)
  have F_blocks_b2 : Fld Z h2 b2 "com/example/pennybreak/pennybreak/simplebook/OrderQueue" "blocks" "I" (.int (0 : Int32)) := D2 (Or.inl (w_ hw 23 rfl)) (ty := .int) (by decide)
  have F_largest_b2 : Fld Z h2 b2 "com/example/pennybreak/pennybreak/simplebook/OrderQueue" "largest" "[I" .null := D2 (Or.inl (w_ hw 25 rfl)) (ty := (.array .int)) (by decide)
  have F_used_b2 : Fld Z h2 b2 "com/example/pennybreak/pennybreak/simplebook/OrderQueue" "used" "I" (.int (0 : Int32)) := D2 (Or.inl (w_ hw 48 rfl)) (ty := .int) (by decide)
  have F_count_b2 : Fld Z h2 b2 "com/example/pennybreak/pennybreak/simplebook/OrderQueue" "count" "I" (.int (0 : Int32)) := D2 (Or.inl (w_ hw 59 rfl)) (ty := .int) (by decide)
  have F_front_b2 : Fld Z h2 b2 "com/example/pennybreak/pennybreak/simplebook/OrderQueue" "front" "I" (.int (0 : Int32)) := D2 (Or.inl (w_ hw 65 rfl)) (ty := .int) (by decide)
  have F_open_b2 : Fld Z h2 b2 "com/example/pennybreak/pennybreak/simplebook/OrderQueue" "open" "J" (.long (0 : Int64)) := D2 (Or.inl (w_ hw 68 rfl)) (ty := .long) (by decide)
  show Go p e below _ T2 (mkF m 81 #[.val (.int x0), .val (.int x1), .val (.int x2), .val (.int x3), .val (.int x4), .val (.int f5), .val (.int f6), .val (.int f7), .val (.int f8), .val (.int f9), .val (.int w1), .unset, .unset, .unset, .unset, .unset, .unset] [(.ref b2)])
  refine Go.s_dup X2 hx (hb hby at_81) (q := 82) rfl rfl ?_
  refine Go.callC (y := mn_2) X2 hx hZ rfl hown (w_ hw 9 rfl) (w_ hw 10 rfl) (w_ hw 11 rfl) (w_ hw 8 rfl) (by decide) e2 (b := b2) (argsL := []) (rest := [(.ref b2)]) (rm_init_1 l Z a0 hw b2 h2 n0 Z0_v3 A2 F_blocks_b2 F_count_b2 F_front_b2 F_largest_b2 F_open_b2 F_sizes_b2 F_slots_b2 F_used_b2 g_b2) (by rw [hml]; rfl) (lenOf pd_0 rfl) rfl (hb hby at_82) (by first | decide | exact Nat.le_of_ble_eq_true rfl) (by first | decide | exact Nat.le_of_ble_eq_true rfl) (by first | decide | exact Nat.le_of_ble_eq_true rfl) (by first | decide | exact Nat.le_of_ble_eq_true rfl) ?_
  intro r4 T4 L4 q4 X4
  obtain ⟨b0_4, b1_4, b2_4, kk3_4, rfl, N4q, K4, sz_b0_4, sz_b1_4, sz_b2_4, f4_0, f4_1, f4_2, f4_3, f4_4, f4_5, f4_6, f4_7, f4_8, f4_9, f4_10, f4_11, f4_12, f4_13, f4_14, f4_15⟩ := q4
  have N4 := Fr.app (Fr.nil n0) N4q
  have ne_b2_b0_4 : b2 ≠ b0_4 := Nat.ne_of_lt (Nat.lt_of_lt_of_le A2.lt sz_b0_4)
  have g_b0_4 : n0 ≤ b0_4 := Nat.le_trans Z0_v3 sz_b0_4
  have ne_b2_b1_4 : b2 ≠ b1_4 := Nat.ne_of_lt (Nat.lt_of_lt_of_le A2.lt sz_b1_4)
  have g_b1_4 : n0 ≤ b1_4 := Nat.le_trans Z0_v3 sz_b1_4
  have ne_b2_b2_4 : b2 ≠ b2_4 := Nat.ne_of_lt (Nat.lt_of_lt_of_le A2.lt sz_b2_4)
  have g_b2_4 : n0 ≤ b2_4 := Nat.le_trans Z0_v3 sz_b2_4
  have Z0_v5 := Nat.le_trans Z0_v3 K4.1
  show Go p e below _ T4 (mkF m 85 #[.val (.int x0), .val (.int x1), .val (.int x2), .val (.int x3), .val (.int x4), .val (.int f5), .val (.int f6), .val (.int f7), .val (.int f8), .val (.int f9), .val (.int w1), .unset, .unset, .unset, .unset, .unset, .unset] [(.ref b2)])
  refine Go.s_astore X4 hx (hb hby at_85) (q := 87) rfl rfl (l' := #[.val (.int x0), .val (.int x1), .val (.int x2), .val (.int x3), .val (.int x4), .val (.int f5), .val (.int f6), .val (.int f7), .val (.int f8), .val (.int f9), .val (.int w1), .val (.ref b2), .unset, .unset, .unset, .unset, .unset]) rfl ?_
  refine Go.newO X4 hx hZ hown (w_ hw 26 rfl) (w_ hw 27 rfl) (w_ hw 28 rfl) rfl (hb hby at_87) (by decide) (by decide) ?_
  intro T6 h6 b6 g6 X6 e6 E6 A6 D6
  have ne_b2_b6 : b2 ≠ b6 := Nat.ne_of_lt (g6 ▸ f4_0.lt)
  have ne_b0_4_b6 : b0_4 ≠ b6 := Nat.ne_of_lt (g6 ▸ f4_9.lt)
  have ne_b1_4_b6 : b1_4 ≠ b6 := Nat.ne_of_lt (g6 ▸ f4_10.lt)
  have ne_b2_4_b6 : b2_4 ≠ b6 := Nat.ne_of_lt (g6 ▸ f4_11.lt)
  have g_b6 : n0 ≤ b6 := g6 ▸ Z0_v5
  have Z0_v7 := Nat.le_trans Z0_v5 E6.1
  have f4_0_v8 := f4_0.ext E6
  have f4_1_v9 := f4_1.ext E6
  have f4_2_v10 := f4_2.ext E6
  have f4_3_v11 := f4_3.ext E6
  have f4_4_v12 := f4_4.ext E6
  have f4_5_v13 := f4_5.ext E6
  have f4_6_v14 := f4_6.ext E6
  have f4_7_v15 := f4_7.ext E6
  have f4_8_v16 := f4_8.ext E6
  have f4_9_v17 := f4_9.ext E6
  have f4_10_v18 := f4_10.ext E6
  have f4_11_v19 := f4_11.ext E6
  have F_order_b6 : Fld Z h6 b6 "com/example/pennybreak/pennybreak/simplebook/RestingOrder" "order" "Lcom/example/pennybreak/pennybreak/simplebook/Order;" .null := D6 (Or.inr (w_ hw 34 rfl)) (ty := (.object "com/example/pennybreak/pennybreak/simplebook/Order")) (by decide)
  have F_entry_b6 : Fld Z h6 b6 "com/example/pennybreak/pennybreak/simplebook/RestingOrder" "entry" "J" (.long (0 : Int64)) := D6 (Or.inr (w_ hw 36 rfl)) (ty := .long) (by decide)
  have F_openSize_b6 : Fld Z h6 b6 "com/example/pennybreak/pennybreak/simplebook/RestingOrder" "openSize" "I" (.int (0 : Int32)) := D6 (Or.inl (w_ hw 38 rfl)) (ty := .int) (by decide)
  have F_slot_b6 : Fld Z h6 b6 "com/example/pennybreak/pennybreak/simplebook/RestingOrder" "slot" "I" (.int (0 : Int32)) := D6 (Or.inl (w_ hw 46 rfl)) (ty := .int) (by decide)
  show Go p e below _ T6 (mkF m 90 #[.val (.int x0), .val (.int x1), .val (.int x2), .val (.int x3), .val (.int x4), .val (.int f5), .val (.int f6), .val (.int f7), .val (.int f8), .val (.int f9), .val (.int w1), .val (.ref b2), .unset, .unset, .unset, .unset, .unset] [(.ref b6)])
  refine Go.s_dup X6 hx (hb hby at_90) (q := 91) rfl rfl ?_
  refine Go.s_aconst_null X6 hx (hb hby at_91) (q := 92) rfl ?_
  refine Go.s_lconst X6 hx (hb hby at_92) (q := 93) rfl (z := 0) rfl ?_
  refine Go.s_iloadN X6 hx (hb hby at_93) (q := 94) rfl rfl ?_
  refine Go.callS (y := mn_1) X6 hx hZ hown (w_ hw 0 rfl) (w_ hw 1 rfl) (w_ hw 2 rfl) (w_ hw 3 rfl) (by decide) e6 (argsL := [(.int x1)]) (rest := [(.long (0 : Int64)), .null, (.ref b6), (.ref b6)]) (rm_size l Z a0 hw x1 _) (by rw [hml]; rfl) (lenOf pd_1 rfl) rfl (hb hby at_94) (by first | decide | exact Nat.le_of_ble_eq_true rfl) (by first | decide | exact Nat.le_of_ble_eq_true rfl) (by first | decide | exact Nat.le_of_ble_eq_true rfl) (by first | decide | exact Nat.le_of_ble_eq_true rfl) ?_
  intro r20 T20 L20 q20 X20
  obtain ⟨w20, rfl, p20, rfl, e20⟩ := q20
  rw [List.append_nil] at X20
  show Go p e below _ T20 (mkF m 97 #[.val (.int x0), .val (.int x1), .val (.int x2), .val (.int x3), .val (.int x4), .val (.int f5), .val (.int f6), .val (.int f7), .val (.int f8), .val (.int f9), .val (.int w1), .val (.ref b2), .unset, .unset, .unset, .unset, .unset] [(.int w20), (.long (0 : Int64)), .null, (.ref b6), (.ref b6)])
  refine Go.callC (y := mn_4) X20 hx hZ rfl hown (w_ hw 29 rfl) (w_ hw 30 rfl) (w_ hw 31 rfl) (w_ hw 28 rfl) (by decide) e20 (b := b6) (argsL := [.null, (.long (0 : Int64)), (.int w20)]) (rest := [(.ref b6)]) (rm_init_2 l Z a0 hw b6 w20 h6 n0 Z0_v7 A6 F_entry_b6 F_openSize_b6 F_order_b6 F_slot_b6 g_b6) (by rw [hml]; rfl) (lenOf pd_4 rfl) rfl (hb hby at_97) (by first | decide | exact Nat.le_of_ble_eq_true rfl) (by first | decide | exact Nat.le_of_ble_eq_true rfl) (by first | decide | exact Nat.le_of_ble_eq_true rfl) (by first | decide | exact Nat.le_of_ble_eq_true rfl) ?_
  intro r21 T21 L21 q21 X21
  obtain ⟨rfl, N21q, K21, f21_0, f21_1, f21_2, f21_3, f21_4⟩ := q21
  have N21 := Fr.app N4 N21q
  have Z0_v22 := Nat.le_trans Z0_v7 K21.1
  have f4_0_v23 := f4_0_v8.keep K21
  have f4_1_v24 := f4_1_v9.keep K21 (ninS ne_b2_b6 nin0)
  have f4_2_v25 := f4_2_v10.keep K21 (ninS ne_b2_b6 nin0)
  have f4_3_v26 := f4_3_v11.keep K21 (ninS ne_b2_b6 nin0)
  have f4_4_v27 := f4_4_v12.keep K21 (ninS ne_b2_b6 nin0)
  have f4_5_v28 := f4_5_v13.keep K21 (ninS ne_b2_b6 nin0)
  have f4_6_v29 := f4_6_v14.keep K21 (ninS ne_b2_b6 nin0)
  have f4_7_v30 := f4_7_v15.keep K21 (ninS ne_b2_b6 nin0)
  have f4_8_v31 := f4_8_v16.keep K21 (ninS ne_b2_b6 nin0)
  have f4_9_v32 := f4_9_v17.keep K21 (ninS ne_b0_4_b6 nin0)
  have f4_10_v33 := f4_10_v18.keep K21 (ninS ne_b1_4_b6 nin0)
  have f4_11_v34 := f4_11_v19.keep K21 (ninS ne_b2_4_b6 nin0)
  show Go p e below _ T21 (mkF m 100 #[.val (.int x0), .val (.int x1), .val (.int x2), .val (.int x3), .val (.int x4), .val (.int f5), .val (.int f6), .val (.int f7), .val (.int f8), .val (.int f9), .val (.int w1), .val (.ref b2), .unset, .unset, .unset, .unset, .unset] [(.ref b6)])
  refine Go.s_astore X21 hx (hb hby at_100) (q := 102) rfl rfl (l' := #[.val (.int x0), .val (.int x1), .val (.int x2), .val (.int x3), .val (.int x4), .val (.int f5), .val (.int f6), .val (.int f7), .val (.int f8), .val (.int f9), .val (.int w1), .val (.ref b2), .val (.ref b6), .unset, .unset, .unset, .unset]) rfl ?_
  refine Go.newO X21 hx hZ hown (w_ hw 26 rfl) (w_ hw 27 rfl) (w_ hw 28 rfl) rfl (hb hby at_102) (by decide) (by decide) ?_
  intro T35 h35 b35 g35 X35 e35 E35 A35 D35
  have ne_b2_b35 : b2 ≠ b35 := Nat.ne_of_lt (g35 ▸ f4_0_v23.lt)
  have ne_b0_4_b35 : b0_4 ≠ b35 := Nat.ne_of_lt (g35 ▸ f4_9_v32.lt)
  have ne_b1_4_b35 : b1_4 ≠ b35 := Nat.ne_of_lt (g35 ▸ f4_10_v33.lt)
  have ne_b2_4_b35 : b2_4 ≠ b35 := Nat.ne_of_lt (g35 ▸ f4_11_v34.lt)
  have ne_b6_b35 : b6 ≠ b35 := Nat.ne_of_lt (g35 ▸ f21_0.lt)
  have g_b35 : n0 ≤ b35 := g35 ▸ Z0_v22
  have Z0_v36 := Nat.le_trans Z0_v22 E35.1
  have f4_0_v37 := f4_0_v23.ext E35
  have f4_1_v38 := f4_1_v24.ext E35
  have f4_2_v39 := f4_2_v25.ext E35
  have f4_3_v40 := f4_3_v26.ext E35
  have f4_4_v41 := f4_4_v27.ext E35
  have f4_5_v42 := f4_5_v28.ext E35
  have f4_6_v43 := f4_6_v29.ext E35
  have f4_7_v44 := f4_7_v30.ext E35
  have f4_8_v45 := f4_8_v31.ext E35
  have f4_9_v46 := f4_9_v32.ext E35
  have f4_10_v47 := f4_10_v33.ext E35
  have f4_11_v48 := f4_11_v34.ext E35
  have f21_0_v49 := f21_0.ext E35
  have f21_1_v50 := f21_1.ext E35
  have f21_2_v51 := f21_2.ext E35
  have f21_3_v52 := f21_3.ext E35
  have f21_4_v53 := f21_4.ext E35
  have F_order_b35 : Fld Z h35 b35 "com/example/pennybreak/pennybreak/simplebook/RestingOrder" "order" "Lcom/example/pennybreak/pennybreak/simplebook/Order;" .null := D35 (Or.inr (w_ hw 34 rfl)) (ty := (.object "com/example/pennybreak/pennybreak/simplebook/Order")) (by decide)
  have F_entry_b35 : Fld Z h35 b35 "com/example/pennybreak/pennybreak/simplebook/RestingOrder" "entry" "J" (.long (0 : Int64)) := D35 (Or.inr (w_ hw 36 rfl)) (ty := .long) (by decide)
  have F_openSize_b35 : Fld Z h35 b35 "com/example/pennybreak/pennybreak/simplebook/RestingOrder" "openSize" "I" (.int (0 : Int32)) := D35 (Or.inl (w_ hw 38 rfl)) (ty := .int) (by decide)
  have F_slot_b35 : Fld Z h35 b35 "com/example/pennybreak/pennybreak/simplebook/RestingOrder" "slot" "I" (.int (0 : Int32)) := D35 (Or.inl (w_ hw 46 rfl)) (ty := .int) (by decide)
  show Go p e below _ T35 (mkF m 105 #[.val (.int x0), .val (.int x1), .val (.int x2), .val (.int x3), .val (.int x4), .val (.int f5), .val (.int f6), .val (.int f7), .val (.int f8), .val (.int f9), .val (.int w1), .val (.ref b2), .val (.ref b6), .unset, .unset, .unset, .unset] [(.ref b35)])
  refine Go.s_dup X35 hx (hb hby at_105) (q := 106) rfl rfl ?_
  refine Go.s_aconst_null X35 hx (hb hby at_106) (q := 107) rfl ?_
  refine Go.s_lconst X35 hx (hb hby at_107) (q := 108) rfl (z := 1) rfl ?_
  refine Go.s_iload X35 hx (hb hby at_108) (q := 110) rfl rfl ?_
  refine Go.callC (y := mn_4) X35 hx hZ rfl hown (w_ hw 29 rfl) (w_ hw 30 rfl) (w_ hw 31 rfl) (w_ hw 28 rfl) (by decide) e35 (b := b35) (argsL := [.null, (.long (1 : Int64)), (.int w1)]) (rest := [(.ref b35)]) (rm_init_3 l Z a0 hw b35 w1 h35 n0 Z0_v36 A35 F_entry_b35 F_openSize_b35 F_order_b35 F_slot_b35 g_b35) (by rw [hml]; rfl) (lenOf pd_4 rfl) rfl (hb hby at_110) (by first | decide | exact Nat.le_of_ble_eq_true rfl) (by first | decide | exact Nat.le_of_ble_eq_true rfl) (by first | decide | exact Nat.le_of_ble_eq_true rfl) (by first | decide | exact Nat.le_of_ble_eq_true rfl) ?_
  intro r54 T54 L54 q54 X54
  obtain ⟨rfl, N54q, K54, f54_0, f54_1, f54_2, f54_3, f54_4⟩ := q54
  have N54 := Fr.app N21 N54q
  have Z0_v55 := Nat.le_trans Z0_v36 K54.1
  have f4_0_v56 := f4_0_v37.keep K54
  have f4_1_v57 := f4_1_v38.keep K54 (ninS ne_b2_b35 nin0)
  have f4_2_v58 := f4_2_v39.keep K54 (ninS ne_b2_b35 nin0)
  have f4_3_v59 := f4_3_v40.keep K54 (ninS ne_b2_b35 nin0)
  have f4_4_v60 := f4_4_v41.keep K54 (ninS ne_b2_b35 nin0)
  have f4_5_v61 := f4_5_v42.keep K54 (ninS ne_b2_b35 nin0)
  have f4_6_v62 := f4_6_v43.keep K54 (ninS ne_b2_b35 nin0)
  have f4_7_v63 := f4_7_v44.keep K54 (ninS ne_b2_b35 nin0)
  have f4_8_v64 := f4_8_v45.keep K54 (ninS ne_b2_b35 nin0)
  have f4_9_v65 := f4_9_v46.keep K54 (ninS ne_b0_4_b35 nin0)
  have f4_10_v66 := f4_10_v47.keep K54 (ninS ne_b1_4_b35 nin0)
  have f4_11_v67 := f4_11_v48.keep K54 (ninS ne_b2_4_b35 nin0)
  have f21_0_v68 := f21_0_v49.keep K54
  have f21_2_v69 := f21_2_v51.keep K54 (ninS ne_b6_b35 nin0)
  have f21_4_v70 := f21_4_v53.keep K54 (ninS ne_b6_b35 nin0)
  show Go p e below _ T54 (mkF m 113 #[.val (.int x0), .val (.int x1), .val (.int x2), .val (.int x3), .val (.int x4), .val (.int f5), .val (.int f6), .val (.int f7), .val (.int f8), .val (.int f9), .val (.int w1), .val (.ref b2), .val (.ref b6), .unset, .unset, .unset, .unset] [(.ref b35)])
  refine Go.s_astore X54 hx (hb hby at_113) (q := 115) rfl rfl (l' := #[.val (.int x0), .val (.int x1), .val (.int x2), .val (.int x3), .val (.int x4), .val (.int f5), .val (.int f6), .val (.int f7), .val (.int f8), .val (.int f9), .val (.int w1), .val (.ref b2), .val (.ref b6), .val (.ref b35), .unset, .unset, .unset]) rfl ?_
  refine Go.newO X54 hx hZ hown (w_ hw 26 rfl) (w_ hw 27 rfl) (w_ hw 28 rfl) rfl (hb hby at_115) (by decide) (by decide) ?_
  intro T71 h71 b71 g71 X71 e71 E71 A71 D71
  have ne_b2_b71 : b2 ≠ b71 := Nat.ne_of_lt (g71 ▸ f4_0_v56.lt)
  have ne_b0_4_b71 : b0_4 ≠ b71 := Nat.ne_of_lt (g71 ▸ f4_9_v65.lt)
  have ne_b1_4_b71 : b1_4 ≠ b71 := Nat.ne_of_lt (g71 ▸ f4_10_v66.lt)
  have ne_b2_4_b71 : b2_4 ≠ b71 := Nat.ne_of_lt (g71 ▸ f4_11_v67.lt)
  have ne_b6_b71 : b6 ≠ b71 := Nat.ne_of_lt (g71 ▸ f21_0_v68.lt)
  have ne_b35_b71 : b35 ≠ b71 := Nat.ne_of_lt (g71 ▸ f54_0.lt)
  have g_b71 : n0 ≤ b71 := g71 ▸ Z0_v55
  have Z0_v72 := Nat.le_trans Z0_v55 E71.1
  have f4_0_v73 := f4_0_v56.ext E71
  have f4_1_v74 := f4_1_v57.ext E71
  have f4_2_v75 := f4_2_v58.ext E71
  have f4_3_v76 := f4_3_v59.ext E71
  have f4_4_v77 := f4_4_v60.ext E71
  have f4_5_v78 := f4_5_v61.ext E71
  have f4_6_v79 := f4_6_v62.ext E71
  have f4_7_v80 := f4_7_v63.ext E71
  have f4_8_v81 := f4_8_v64.ext E71
  have f4_9_v82 := f4_9_v65.ext E71
  have f4_10_v83 := f4_10_v66.ext E71
  have f4_11_v84 := f4_11_v67.ext E71
  have f21_0_v85 := f21_0_v68.ext E71
  have f21_2_v86 := f21_2_v69.ext E71
  have f21_4_v87 := f21_4_v70.ext E71
  have f54_0_v88 := f54_0.ext E71
  have f54_1_v89 := f54_1.ext E71
  have f54_2_v90 := f54_2.ext E71
  have f54_3_v91 := f54_3.ext E71
  have f54_4_v92 := f54_4.ext E71
  have F_order_b71 : Fld Z h71 b71 "com/example/pennybreak/pennybreak/simplebook/RestingOrder" "order" "Lcom/example/pennybreak/pennybreak/simplebook/Order;" .null := D71 (Or.inr (w_ hw 34 rfl)) (ty := (.object "com/example/pennybreak/pennybreak/simplebook/Order")) (by decide)
  have F_entry_b71 : Fld Z h71 b71 "com/example/pennybreak/pennybreak/simplebook/RestingOrder" "entry" "J" (.long (0 : Int64)) := D71 (Or.inr (w_ hw 36 rfl)) (ty := .long) (by decide)
  have F_openSize_b71 : Fld Z h71 b71 "com/example/pennybreak/pennybreak/simplebook/RestingOrder" "openSize" "I" (.int (0 : Int32)) := D71 (Or.inl (w_ hw 38 rfl)) (ty := .int) (by decide)
  have F_slot_b71 : Fld Z h71 b71 "com/example/pennybreak/pennybreak/simplebook/RestingOrder" "slot" "I" (.int (0 : Int32)) := D71 (Or.inl (w_ hw 46 rfl)) (ty := .int) (by decide)
  show Go p e below _ T71 (mkF m 118 #[.val (.int x0), .val (.int x1), .val (.int x2), .val (.int x3), .val (.int x4), .val (.int f5), .val (.int f6), .val (.int f7), .val (.int f8), .val (.int f9), .val (.int w1), .val (.ref b2), .val (.ref b6), .val (.ref b35), .unset, .unset, .unset] [(.ref b71)])
  refine Go.s_dup X71 hx (hb hby at_118) (q := 119) rfl rfl ?_
  refine Go.s_aconst_null X71 hx (hb hby at_119) (q := 120) rfl ?_
  refine Go.s_ldc2 X71 hx (hb hby at_120) (q := 123) rfl hown (mvT hZ (w_ hw 39 rfl)) ?_
  refine Go.s_iloadN X71 hx (hb hby at_123) (q := 124) rfl rfl ?_
  refine Go.callS (y := mn_1) X71 hx hZ hown (w_ hw 0 rfl) (w_ hw 1 rfl) (w_ hw 2 rfl) (w_ hw 3 rfl) (by decide) e71 (argsL := [(.int x3)]) (rest := [(.long (2 : Int64)), .null, (.ref b71), (.ref b71)]) (rm_size l Z a0 hw x3 _) (by rw [hml]; rfl) (lenOf pd_1 rfl) rfl (hb hby at_124) (by first | decide | exact Nat.le_of_ble_eq_true rfl) (by first | decide | exact Nat.le_of_ble_eq_true rfl) (by first | decide | exact Nat.le_of_ble_eq_true rfl) (by first | decide | exact Nat.le_of_ble_eq_true rfl) ?_
  intro r93 T93 L93 q93 X93
  obtain ⟨w93, rfl, p93, rfl, e93⟩ := q93
  rw [List.append_nil] at X93
  show Go p e below _ T93 (mkF m 127 #[.val (.int x0), .val (.int x1), .val (.int x2), .val (.int x3), .val (.int x4), .val (.int f5), .val (.int f6), .val (.int f7), .val (.int f8), .val (.int f9), .val (.int w1), .val (.ref b2), .val (.ref b6), .val (.ref b35), .unset, .unset, .unset] [(.int w93), (.long (2 : Int64)), .null, (.ref b71), (.ref b71)])
  refine Go.callC (y := mn_4) X93 hx hZ rfl hown (w_ hw 29 rfl) (w_ hw 30 rfl) (w_ hw 31 rfl) (w_ hw 28 rfl) (by decide) e93 (b := b71) (argsL := [.null, (.long (2 : Int64)), (.int w93)]) (rest := [(.ref b71)]) (rm_init_4 l Z a0 hw b71 w93 h71 n0 Z0_v72 A71 F_entry_b71 F_openSize_b71 F_order_b71 F_slot_b71 g_b71) (by rw [hml]; rfl) (lenOf pd_4 rfl) rfl (hb hby at_127) (by first | decide | exact Nat.le_of_ble_eq_true rfl) (by first | decide | exact Nat.le_of_ble_eq_true rfl) (by first | decide | exact Nat.le_of_ble_eq_true rfl) (by first | decide | exact Nat.le_of_ble_eq_true rfl) ?_
  intro r94 T94 L94 q94 X94
  obtain ⟨rfl, N94q, K94, f94_0, f94_1, f94_2, f94_3, f94_4⟩ := q94
  have N94 := Fr.app N54 N94q
  have Z0_v95 := Nat.le_trans Z0_v72 K94.1
  have f4_0_v96 := f4_0_v73.keep K94
  have f4_1_v97 := f4_1_v74.keep K94 (ninS ne_b2_b71 nin0)
  have f4_2_v98 := f4_2_v75.keep K94 (ninS ne_b2_b71 nin0)
  have f4_3_v99 := f4_3_v76.keep K94 (ninS ne_b2_b71 nin0)
  have f4_4_v100 := f4_4_v77.keep K94 (ninS ne_b2_b71 nin0)
  have f4_5_v101 := f4_5_v78.keep K94 (ninS ne_b2_b71 nin0)
  have f4_6_v102 := f4_6_v79.keep K94 (ninS ne_b2_b71 nin0)
  have f4_7_v103 := f4_7_v80.keep K94 (ninS ne_b2_b71 nin0)
  have f4_8_v104 := f4_8_v81.keep K94 (ninS ne_b2_b71 nin0)
  have f4_9_v105 := f4_9_v82.keep K94 (ninS ne_b0_4_b71 nin0)
  have f4_10_v106 := f4_10_v83.keep K94 (ninS ne_b1_4_b71 nin0)
  have f4_11_v107 := f4_11_v84.keep K94 (ninS ne_b2_4_b71 nin0)
  have f21_0_v108 := f21_0_v85.keep K94
  have f21_2_v109 := f21_2_v86.keep K94 (ninS ne_b6_b71 nin0)
  have f21_4_v110 := f21_4_v87.keep K94 (ninS ne_b6_b71 nin0)
  have f54_0_v111 := f54_0_v88.keep K94
  have f54_2_v112 := f54_2_v90.keep K94 (ninS ne_b35_b71 nin0)
  have f54_4_v113 := f54_4_v92.keep K94 (ninS ne_b35_b71 nin0)
  show Go p e below _ T94 (mkF m 130 #[.val (.int x0), .val (.int x1), .val (.int x2), .val (.int x3), .val (.int x4), .val (.int f5), .val (.int f6), .val (.int f7), .val (.int f8), .val (.int f9), .val (.int w1), .val (.ref b2), .val (.ref b6), .val (.ref b35), .unset, .unset, .unset] [(.ref b71)])
  refine Go.s_astore X94 hx (hb hby at_130) (q := 132) rfl rfl (l' := #[.val (.int x0), .val (.int x1), .val (.int x2), .val (.int x3), .val (.int x4), .val (.int f5), .val (.int f6), .val (.int f7), .val (.int f8), .val (.int f9), .val (.int w1), .val (.ref b2), .val (.ref b6), .val (.ref b35), .val (.ref b71), .unset, .unset]) rfl ?_
  exact KK _ _ _ w1 b2 b6 b35 b71 b2_4 b1_4 b0_4 kk3_4 w20 w93 X94 rfl N94 p1 p20 p93 f4_0_v96 f4_1_v97 f4_2_v98 f4_3_v99 f4_4_v100 f4_5_v101 f4_6_v102 f4_7_v103 f4_8_v104 f4_9_v105 f4_10_v106 f4_11_v107 f21_0_v108 f21_2_v109 f21_4_v110 f54_0_v111 f54_2_v112 f54_4_v113 g_b2 ne_b2_b0_4 g_b0_4 ne_b2_b1_4 g_b1_4 ne_b2_b2_4 g_b2_4 f4_12 f4_13 f4_14 f4_15 ne_b2_b6 ne_b0_4_b6 ne_b1_4_b6 ne_b2_4_b6 g_b6 ne_b2_b35 ne_b0_4_b35 ne_b1_4_b35 ne_b2_4_b35 ne_b6_b35 g_b35 ne_b2_b71 ne_b0_4_b71 ne_b1_4_b71 ne_b2_4_b71 ne_b6_b71 ne_b35_b71 g_b71 f94_0 f94_2 f94_4 Z0_v95
set_option maxRecDepth 65536 in
set_option maxHeartbeats 40000000 in
theorem law_f8 {p : Program} {l : Launch} {e : Env} {R : Room} {s : State} {m : MethodId} {args : Array Value} {below : List Frame} {meth : Method} {c : Code} {Z : State} {a0 : Array Value} (hw : ∀ d ∈ tables_1, d.before a0 Z = true) (hx : p.tables.exec = Jvm.exec) (hby : c.code = code) (hml : c.maxLocals = maxLocals) (hown : s.vm.findClass "com/example/pennybreak/pennybreak/simplebook/OrderQueueHoldsPinLaw" = some m.cls) (hZ : Z.Warmed39 s.vm) {F : State → Outcome → Prop} {locs : List Loc} {cells slots : Nat} {z0 : Int32} {z1 : Int32} {z2 : Int32} {z3 : Int32} {z4 : Int32} {z5 : Int32} {z6 : Int32} {z7 : Int32} {T0 : State} (X0 : Stand p l e R s m args below meth c T0 locs cells slots)  (KK : ∀ (y8 : Int32), Go p e below F T0 (mkF m 58 #[.val (.int z0), .val (.int z1), .val (.int z2), .val (.int z3), .val (.int z4), .val (.int z5), .val (.int z6), .val (.int z7), .val (.int y8), .unset, .unset, .unset, .unset, .unset, .unset, .unset, .unset] [])) : Go p e below F T0 (mkF m 44 #[.val (.int z0), .val (.int z1), .val (.int z2), .val (.int z3), .val (.int z4), .val (.int z5), .val (.int z6), .val (.int z7), .unset, .unset, .unset, .unset, .unset, .unset, .unset, .unset, .unset] []) := by
  show Go p e below _ T0 (mkF m 44 #[.val (.int z0), .val (.int z1), .val (.int z2), .val (.int z3), .val (.int z4), .val (.int z5), .val (.int z6), .val (.int z7), .unset, .unset, .unset, .unset, .unset, .unset, .unset, .unset, .unset] [])
  refine Go.s_iloadN X0 hx (hb hby at_44) (q := 45) rfl rfl ?_
  refine Go.s_bipush X0 hx (hb hby at_45) (q := 47) rfl (z := 8) rfl ?_
  refine Go.s_iand X0 hx (hb hby at_47) (q := 48) rfl ?_
  by_cases c48_1 : (z0 &&& (8 : Int32)) = (0 : Int32)
  · -- pc 48: (z0 &&& (8 : Int32)) = (0 : Int32)
    refine Go.s_ifYes X0 hx (hb hby at_48) (q := 55) (by decide) (by decide) ((if0 _ _).trans (teq c48_1).1) ?_
    refine Go.s_iconst X0 hx (hb hby at_55) (q := 56) rfl (z := 0) rfl ?_
    refine Go.s_istore X0 hx (hb hby at_56) (q := 58) rfl (l' := #[.val (.int z0), .val (.int z1), .val (.int z2), .val (.int z3), .val (.int z4), .val (.int z5), .val (.int z6), .val (.int z7), .val (.int (0 : Int32)), .unset, .unset, .unset, .unset, .unset, .unset, .unset, .unset]) rfl ?_
    exact KK (0 : Int32)
  · -- pc 48: not (z0 &&& (8 : Int32)) = (0 : Int32)
    refine Go.s_ifNo X0 hx (hb hby at_48) (q := 51) rfl ((if0 _ _).trans (feq c48_1).1) ?_
    refine Go.s_iconst X0 hx (hb hby at_51) (q := 52) rfl (z := 1) rfl ?_
    refine Go.s_goto X0 hx (hb hby at_52) (q := 56) (by decide) (by decide) ?_
    refine Go.s_istore X0 hx (hb hby at_56) (q := 58) rfl (l' := #[.val (.int z0), .val (.int z1), .val (.int z2), .val (.int z3), .val (.int z4), .val (.int z5), .val (.int z6), .val (.int z7), .val (.int (1 : Int32)), .unset, .unset, .unset, .unset, .unset, .unset, .unset, .unset]) rfl ?_
    exact KK (1 : Int32)
set_option maxRecDepth 65536 in
set_option maxHeartbeats 40000000 in
theorem law_k {p : Program} {l : Launch} {e : Env} {R : Room} {s : State} {m : MethodId} {args : Array Value} {below : List Frame} {meth : Method} {c : Code} {Z : State} {a0 : Array Value} (hw : ∀ d ∈ tables_1, d.before a0 Z = true) (hx : p.tables.exec = Jvm.exec) (hby : c.code = code) (hml : c.maxLocals = maxLocals) (hown : s.vm.findClass "com/example/pennybreak/pennybreak/simplebook/OrderQueueHoldsPinLaw" = some m.cls) (hZ : Z.Warmed39 s.vm) {F : State → Outcome → Prop} {locs : List Loc} {cells slots : Nat} {z0 : Int32} {z1 : Int32} {z2 : Int32} {z3 : Int32} {z4 : Int32} {z5 : Int32} {z6 : Int32} {z7 : Int32} {z8 : Int32} {z9 : Int32} {z10 : Int32} {z11 : Addr} {z12 : Addr} {z13 : Addr} {z14 : Addr} {T0 : State} (X0 : Stand p l e R s m args below meth c T0 locs cells slots) (hnz : z10 ≠ 0) (KK : ∀ (y15 : Int32), Go p e below F T0 (mkF m 178 #[.val (.int z0), .val (.int z1), .val (.int z2), .val (.int z3), .val (.int z4), .val (.int z5), .val (.int z6), .val (.int z7), .val (.int z8), .val (.int z9), .val (.int z10), .val (.ref z11), .val (.ref z12), .val (.ref z13), .val (.ref z14), .val (.int y15), .unset] [])) : Go p e below F T0 (mkF m 156 #[.val (.int z0), .val (.int z1), .val (.int z2), .val (.int z3), .val (.int z4), .val (.int z5), .val (.int z6), .val (.int z7), .val (.int z8), .val (.int z9), .val (.int z10), .val (.ref z11), .val (.ref z12), .val (.ref z13), .val (.ref z14), .unset, .unset] []) := by
  show Go p e below _ T0 (mkF m 156 #[.val (.int z0), .val (.int z1), .val (.int z2), .val (.int z3), .val (.int z4), .val (.int z5), .val (.int z6), .val (.int z7), .val (.int z8), .val (.int z9), .val (.int z10), .val (.ref z11), .val (.ref z12), .val (.ref z13), .val (.ref z14), .unset, .unset] [])
  refine Go.s_iload X0 hx (hb hby at_156) (q := 158) rfl rfl ?_
  by_cases c158_1 : z8 = (0 : Int32)
  · -- pc 158: z8 = (0 : Int32)
    refine Go.s_ifYes X0 hx (hb hby at_158) (q := 166) (by decide) (by decide) ((if0 _ _).trans (teq c158_1).1) ?_
    refine Go.s_iload X0 hx (hb hby at_166) (q := 168) rfl rfl ?_
    refine Go.s_ldc X0 hx (hb hby at_168) (q := 170) rfl hown (mvT hZ (w_ hw 4 rfl)) ?_
    refine Go.s_iand X0 hx (hb hby at_170) (q := 171) rfl ?_
    refine Go.s_iload X0 hx (hb hby at_171) (q := 173) rfl rfl ?_
    refine Go.s_irem X0 hx (hb hby at_173) (q := 174) rfl hnz ?_
    refine Go.s_iconst X0 hx (hb hby at_174) (q := 175) rfl (z := 1) rfl ?_
    refine Go.s_iadd X0 hx (hb hby at_175) (q := 176) rfl ?_
    refine Go.s_istore X0 hx (hb hby at_176) (q := 178) rfl (l' := #[.val (.int z0), .val (.int z1), .val (.int z2), .val (.int z3), .val (.int z4), .val (.int z5), .val (.int z6), .val (.int z7), .val (.int z8), .val (.int z9), .val (.int z10), .val (.ref z11), .val (.ref z12), .val (.ref z13), .val (.ref z14), .val (.int (((z4 &&& (2147483647 : Int32)) % z10) + (1 : Int32))), .unset]) rfl ?_
    exact KK (((z4 &&& (2147483647 : Int32)) % z10) + (1 : Int32))
  · -- pc 158: not z8 = (0 : Int32)
    refine Go.s_ifNo X0 hx (hb hby at_158) (q := 161) rfl ((if0 _ _).trans (feq c158_1).1) ?_
    refine Go.s_iload X0 hx (hb hby at_161) (q := 163) rfl rfl ?_
    refine Go.s_goto X0 hx (hb hby at_163) (q := 176) (by decide) (by decide) ?_
    refine Go.s_istore X0 hx (hb hby at_176) (q := 178) rfl (l' := #[.val (.int z0), .val (.int z1), .val (.int z2), .val (.int z3), .val (.int z4), .val (.int z5), .val (.int z6), .val (.int z7), .val (.int z8), .val (.int z9), .val (.int z10), .val (.ref z11), .val (.ref z12), .val (.ref z13), .val (.ref z14), .val (.int z10), .unset]) rfl ?_
    exact KK z10
theorem ef_holds_5 (m : MethodId) (x0 : Addr) (x1 : Addr) : entryFrame m #[(.ref x0), (.ref x1)] 2 = mkF m 0 #[.val (.ref x0), .val (.ref x1)] [] := by first | (simp [entryFrame, mkF, argsToLocals, Value.category]; done) | rfl
set_option maxRecDepth 65536 in
set_option maxHeartbeats 40000000 in
theorem rm_holds_5 (l : Launch) (Z : State) (a0 : Array Value) (hw : ∀ d ∈ tables_1, d.before a0 Z = true)  (A0 : Addr) (A1 : Addr) (A2 : Addr) (A3 : Addr) (A4 : Addr) (k5 : ClassId) (h0 : Heap) (n0 : Nat) (Z0 : n0 ≤ h0.size) (P0 : Fld Z h0 A0 "com/example/pennybreak/pennybreak/simplebook/OrderQueue" "slots" "[Lcom/example/pennybreak/pennybreak/simplebook/RestingOrder;" (.ref A1)) (P1 : Fld Z h0 A0 "com/example/pennybreak/pennybreak/simplebook/OrderQueue" "used" "I" (.int (0 : Int32))) (P2 : Fld Z h0 A4 "com/example/pennybreak/pennybreak/simplebook/RestingOrder" "slot" "I" (.int (0 : Int32))) (P3 : Arv Z h0 A1 k5 (.object "com/example/pennybreak/pennybreak/simplebook/RestingOrder") (0 : Int32) [] .null) (P4 : A0 ≠ A1) (P5 : A0 ≠ A2) (P6 : A0 ≠ A3) (P7 : A0 ≠ A4) (P8 : A1 ≠ A2) (P9 : A1 ≠ A3) (P10 : A1 ≠ A4) (P11 : A2 ≠ A3) (P12 : A2 ≠ A4) (P13 : A3 ≠ A4) :
    Ct l mn_5 prog_98_method_3_code 2 (some .boolean) ({ frames := 0, cells := 0, slots := 0, locals := 0 } : Room) Z h0 #[(.ref A0), (.ref A4)] (fun v h L => v = some (.int (0 : Int32)) ∧ L = [] ∧ h = h0) := by
  refine Ct.body (plainFor_of_name pn_com_example_pennybreak_pennybreak_simplebook_OrderQueue) ?_
  intro p e s m below meth c T0 hx hby hml hown hnm hret hlk hZ X0 e0
  refine Go.cast (ef_holds_5 m A0 A4) ?_
  show Go p e below _ T0 (mkF m 0 #[.val (.ref A0), .val (.ref A4)] [])
  refine Go.s_aloadN X0 hx (hb hby d5_0) (q := 1) rfl rfl rfl ?_
  refine Go.getF X0 hx hZ hown (w_ hw 45 rfl) Via.refl e0 P2 (hb hby d5_1) ?_
  intro T1 X1 e1
  show Go p e below _ T1 (mkF m 4 #[.val (.ref A0), .val (.ref A4)] [(.int (0 : Int32))])
  refine Go.s_aloadN X1 hx (hb hby d5_4) (q := 5) rfl rfl rfl ?_
  refine Go.getF X1 hx hZ hown (w_ hw 47 rfl) Via.refl e1 P1 (hb hby d5_5) ?_
  intro T2 X2 e2
  show Go p e below _ T2 (mkF m 8 #[.val (.ref A0), .val (.ref A4)] [(.int (0 : Int32)), (.int (0 : Int32))])
  refine Go.s_icmpYes X2 hx (hb hby d5_8) (q := 28) (by decide) (by decide) (flt (by decide : ¬ ((0 : Int32) < (0 : Int32)))).2.1 ?_
  refine Go.s_iconst X2 hx (hb hby d5_28) (q := 29) rfl (z := 0) rfl ?_
  refine Go.retN X2 hx hlk hret (by simp) (hb hby d5_29) (by decide) (by decide) ?_
  try rw [e2]
  exact ⟨(by decide), rfl, rfl⟩
theorem ef_reslot_11 (m : MethodId) (x0 : Addr) : entryFrame m #[(.ref x0)] 7 = mkF m 0 #[.val (.ref x0), .unset, .unset, .unset, .unset, .unset, .unset] [] := by first | (simp [entryFrame, mkF, argsToLocals, Value.category]; done) | rfl
set_option maxRecDepth 65536 in
set_option maxHeartbeats 40000000 in
theorem rm_reslot_11 (l : Launch) (Z : State) (a0 : Array Value) (hw : ∀ d ∈ tables_1, d.before a0 Z = true)  (A0 : Addr) (A1 : Addr) (A2 : Addr) (A3 : Addr) (k4 : ClassId) (h0 : Heap) (n0 : Nat) (Z0 : n0 ≤ h0.size) (P0 : Exa Z h0 A0 "com/example/pennybreak/pennybreak/simplebook/OrderQueue") (P1 : Fld Z h0 A0 "com/example/pennybreak/pennybreak/simplebook/OrderQueue" "blocks" "I" (.int (1 : Int32))) (P2 : Fld Z h0 A0 "com/example/pennybreak/pennybreak/simplebook/OrderQueue" "count" "I" (.int (0 : Int32))) (P3 : Fld Z h0 A0 "com/example/pennybreak/pennybreak/simplebook/OrderQueue" "front" "I" (.int (0 : Int32))) (P4 : Fld Z h0 A0 "com/example/pennybreak/pennybreak/simplebook/OrderQueue" "largest" "[I" (.ref A3)) (P5 : Fld Z h0 A0 "com/example/pennybreak/pennybreak/simplebook/OrderQueue" "open" "J" (.long (0 : Int64))) (P6 : Fld Z h0 A0 "com/example/pennybreak/pennybreak/simplebook/OrderQueue" "sizes" "[I" (.ref A2)) (P7 : Fld Z h0 A0 "com/example/pennybreak/pennybreak/simplebook/OrderQueue" "slots" "[Lcom/example/pennybreak/pennybreak/simplebook/RestingOrder;" (.ref A1)) (P8 : Fld Z h0 A0 "com/example/pennybreak/pennybreak/simplebook/OrderQueue" "used" "I" (.int (0 : Int32))) (P9 : Arv Z h0 A1 k4 (.object "com/example/pennybreak/pennybreak/simplebook/RestingOrder") (0 : Int32) [] .null) (P10 : UA Z h0 A2 0) (P11 : UA Z h0 A3 0) (P12 : Ovr Z k4 "com/example/pennybreak/pennybreak/simplebook/RestingOrder") (P13 : A0 ≠ A1) (P14 : A0 ≠ A2) (P15 : A0 ≠ A3) (P16 : A1 ≠ A2) (P17 : A1 ≠ A3) (P18 : A2 ≠ A3) (P19 : n0 ≤ A0) (P20 : n0 ≤ A1) (P21 : n0 ≤ A2) (P22 : n0 ≤ A3) :
    Ct l mn_7 prog_98_method_12_code 7 none ({ frames := 1, cells := 3, slots := 10, locals := 20 } : Room) Z h0 #[(.ref A0)] (fun v h L => ∃ B0 : Addr, ∃ B1 : Addr, ∃ B2 : Addr, ∃ kk3 : ClassId, v = none ∧ Fr n0 L ∧ Keep h0 h [A0] ∧ h0.size ≤ B0 ∧ h0.size ≤ B1 ∧ h0.size ≤ B2 ∧ Exa Z h A0 "com/example/pennybreak/pennybreak/simplebook/OrderQueue" ∧ Fld Z h A0 "com/example/pennybreak/pennybreak/simplebook/OrderQueue" "blocks" "I" (.int (1 : Int32)) ∧ Fld Z h A0 "com/example/pennybreak/pennybreak/simplebook/OrderQueue" "count" "I" (.int (0 : Int32)) ∧ Fld Z h A0 "com/example/pennybreak/pennybreak/simplebook/OrderQueue" "front" "I" (.int (0 : Int32)) ∧ Fld Z h A0 "com/example/pennybreak/pennybreak/simplebook/OrderQueue" "largest" "[I" (.ref B1) ∧ Fld Z h A0 "com/example/pennybreak/pennybreak/simplebook/OrderQueue" "open" "J" (.long (0 : Int64)) ∧ Fld Z h A0 "com/example/pennybreak/pennybreak/simplebook/OrderQueue" "sizes" "[I" (.ref B0) ∧ Fld Z h A0 "com/example/pennybreak/pennybreak/simplebook/OrderQueue" "slots" "[Lcom/example/pennybreak/pennybreak/simplebook/RestingOrder;" (.ref B2) ∧ Fld Z h A0 "com/example/pennybreak/pennybreak/simplebook/OrderQueue" "used" "I" (.int (0 : Int32)) ∧ Arv Z h B2 kk3 (.object "com/example/pennybreak/pennybreak/simplebook/RestingOrder") (4 : Int32) [.null, .null, .null, .null] .null ∧ UA Z h B0 4 ∧ UA Z h B1 2 ∧ Ovr Z kk3 "com/example/pennybreak/pennybreak/simplebook/RestingOrder" ∧ B0 ≠ B1 ∧ B0 ≠ B2 ∧ B1 ≠ B2) := by
  refine Ct.body (plainFor_of_name pn_com_example_pennybreak_pennybreak_simplebook_OrderQueue) ?_
  intro p e s m below meth c T0 hx hby hml hown hnm hret hlk hZ X0 e0
  refine Go.cast (ef_reslot_11 m A0) ?_
  show Go p e below _ T0 (mkF m 0 #[.val (.ref A0), .unset, .unset, .unset, .unset, .unset, .unset] [])
  refine Go.s_iconst X0 hx (hb hby d7_0) (q := 1) rfl (z := 4) rfl ?_
  refine Go.s_istoreN X0 hx (hb hby d7_1) (q := 2) rfl (l' := #[.val (.ref A0), .val (.int (4 : Int32)), .unset, .unset, .unset, .unset, .unset]) rfl ?_
  refine Go.s_iloadN X0 hx (hb hby d7_2) (q := 3) rfl rfl ?_
  refine Go.s_iconst X0 hx (hb hby d7_3) (q := 4) rfl (z := 2) rfl ?_
  refine Go.s_aloadN X0 hx (hb hby d7_4) (q := 5) rfl rfl rfl ?_
  refine Go.getF X0 hx hZ hown (w_ hw 58 rfl) Via.refl e0 P2 (hb hby d7_5) ?_
  intro T1 X1 e1
  show Go p e below _ T1 (mkF m 8 #[.val (.ref A0), .val (.int (4 : Int32)), .unset, .unset, .unset, .unset, .unset] [(.int (0 : Int32)), (.int (2 : Int32)), (.int (4 : Int32))])
  refine Go.s_imul X1 hx (hb hby d7_8) (q := 9) rfl ?_
  rw [(by decide : ((2 : Int32) * (0 : Int32)) = (0 : Int32))]
  refine Go.s_icmpYes X1 hx (hb hby d7_9) (q := 19) (by decide) (by decide) (flt (by decide : ¬ ((4 : Int32) < (0 : Int32)))).2.1 ?_
  refine Go.s_aloadN X1 hx (hb hby d7_19) (q := 20) rfl rfl rfl ?_
  refine Go.s_iloadN X1 hx (hb hby d7_20) (q := 21) rfl rfl ?_
  refine Go.newP X1 hx hZ (w_ hw 19 rfl) e1 (hb hby d7_21) (by decide) (cap := 4) (by decide) (by decide) (by decide) (by decide) ?_
  intro T2 h2 b2 k2 g2 X2 e2 E2 V2
  have ne_A0_b2 : A0 ≠ b2 := Nat.ne_of_lt (g2 ▸ P0.lt)
  have ne_A1_b2 : A1 ≠ b2 := Nat.ne_of_lt (g2 ▸ P9.lt)
  have ne_A2_b2 : A2 ≠ b2 := Nat.ne_of_lt (g2 ▸ P10.lt)
  have ne_A3_b2 : A3 ≠ b2 := Nat.ne_of_lt (g2 ▸ P11.lt)
  have g_b2 : n0 ≤ b2 := g2 ▸ Z0
  have sz_b2 : h0.size ≤ b2 := g2 ▸ (Keep.refl h0 [A0]).1
  have Z0_v3 := Nat.le_trans Z0 E2.1
  have fact_K_v4 := (Keep.refl h0 [A0]).ext E2
  have P0_v5 := P0.ext E2
  have P1_v6 := P1.ext E2
  have P2_v7 := P2.ext E2
  have P3_v8 := P3.ext E2
  have P4_v9 := P4.ext E2
  have P5_v10 := P5.ext E2
  have P6_v11 := P6.ext E2
  have P7_v12 := P7.ext E2
  have P8_v13 := P8.ext E2
  have P9_v14 := P9.ext E2
  have P10_v15 := P10.ext E2
  have P11_v16 := P11.ext E2
  have V2_17 : Arv Z h2 b2 k2 .int (4 : Int32) [(.int (0 : Int32)), (.int (0 : Int32)), (.int (0 : Int32)), (.int (0 : Int32))] (.int (0 : Int32)) := V2.pad (pad_rep [] (.int (0 : Int32)) 4)
  have U2 := UA.of_arv V2_17 (by decide : ((4 : Int32)).toNatClampNeg = 4)
  show Go p e below _ T2 (mkF m 23 #[.val (.ref A0), .val (.int (4 : Int32)), .unset, .unset, .unset, .unset, .unset] [(.ref b2), (.ref A0)])
  refine Go.putF X2 hx hZ hown (w_ hw 20 rfl) Via.refl e2 P6_v11 P0_v5 (Or.inl (w_ hw 21 rfl)) (w_ hw 7 rfl) (ty := (.array .int)) (by decide) rfl rfl (hb hby d7_23) ?_
  intro T18 h18 X18 e18 W18
  have N18 := Fr.snoc X18 (Fr.nil n0) P19
  have Z0_v19 := Nat.le_trans Z0_v3 (Keep.of_wr W18).1
  have fact_K_v20 := fact_K_v4.wr W18 (Or.inl (by simp))
  have P0_v21 := P0_v5.wr W18
  have P1_v22 := P1_v6.other W18 (Or.inr (slot_ne (Or.inl (w_ hw 23 rfl)) (Or.inl (w_ hw 21 rfl)) (by decide) (t := .int) (t' := (.array .int)) (by decide) (by decide)))
  have P2_v23 := P2_v7.other W18 (Or.inr (slot_ne (Or.inl (w_ hw 59 rfl)) (Or.inl (w_ hw 21 rfl)) (by decide) (t := .int) (t' := (.array .int)) (by decide) (by decide)))
  have P3_v24 := P3_v8.other W18 (Or.inr (slot_ne (Or.inl (w_ hw 65 rfl)) (Or.inl (w_ hw 21 rfl)) (by decide) (t := .int) (t' := (.array .int)) (by decide) (by decide)))
  have P4_v25 := P4_v9.other W18 (Or.inr (slot_ne (Or.inl (w_ hw 25 rfl)) (Or.inl (w_ hw 21 rfl)) (by decide) (t := (.array .int)) (t' := (.array .int)) (by decide) (by decide)))
  have P5_v26 := P5_v10.other W18 (Or.inr (slot_ne (Or.inl (w_ hw 68 rfl)) (Or.inl (w_ hw 21 rfl)) (by decide) (t := .long) (t' := (.array .int)) (by decide) (by decide)))
  have P7_v27 := P7_v12.other W18 (Or.inr (slot_ne (Or.inl (w_ hw 18 rfl)) (Or.inl (w_ hw 21 rfl)) (by decide) (t := (.array (.object "com/example/pennybreak/pennybreak/simplebook/RestingOrder"))) (t' := (.array .int)) (by decide) (by decide)))
  have P8_v28 := P8_v13.other W18 (Or.inr (slot_ne (Or.inl (w_ hw 48 rfl)) (Or.inl (w_ hw 21 rfl)) (by decide) (t := .int) (t' := (.array .int)) (by decide) (by decide)))
  have P9_v29 := P9_v14.other W18 (Ne.symm P13)
  have P10_v30 := P10_v15.other W18 (Ne.symm P14)
  have P11_v31 := P11_v16.other W18 (Ne.symm P15)
  have U2_v32 := U2.other W18 (Ne.symm ne_A0_b2)
  have F_sizes_A0_v33 := P6_v11.same W18
  show Go p e below _ T18 (mkF m 26 #[.val (.ref A0), .val (.int (4 : Int32)), .unset, .unset, .unset, .unset, .unset] [])
  refine Go.s_aloadN X18 hx (hb hby d7_26) (q := 27) rfl rfl rfl ?_
  refine Go.s_iconst X18 hx (hb hby d7_27) (q := 28) rfl (z := 1) rfl ?_
  refine Go.s_iloadN X18 hx (hb hby d7_28) (q := 29) rfl rfl ?_
  refine Go.s_bipush X18 hx (hb hby d7_29) (q := 31) rfl (z := 6) rfl ?_
  refine Go.s_ishr X18 hx (hb hby d7_31) (q := 32) rfl ?_
  rw [(by decide : ((4 : Int32) >>> ((6 : Int32) &&& 31)) = (0 : Int32))]
  refine Go.callS (y := mn_8) X18 hx hZ hown (w_ hw 60 rfl) (w_ hw 61 rfl) (w_ hw 62 rfl) (w_ hw 63 rfl) (by decide) e18 (argsL := [(.int (1 : Int32)), (.int (0 : Int32))]) (rest := [(.ref A0)]) (rm_mx l Z a0 hw (1 : Int32) (0 : Int32) _) (by rw [hml]; rfl) (lenOf pd_2 rfl) rfl (hb hby d7_32) (by first | decide | exact Nat.le_of_ble_eq_true rfl) (by first | decide | exact Nat.le_of_ble_eq_true rfl) (by first | decide | exact Nat.le_of_ble_eq_true rfl) (by first | decide | exact Nat.le_of_ble_eq_true rfl) ?_
  intro r34 T34 L34 q34 X34
  obtain ⟨w34, rfl, p34, rfl, e34⟩ := q34
  rw [List.append_nil] at X34
  obtain rfl : w34 = (1 : Int32) := by rcases p34 with ⟨h, rfl⟩ | ⟨h, rfl⟩ <;> first | rfl | exact absurd h (by decide)
  show Go p e below _ T34 (mkF m 35 #[.val (.ref A0), .val (.int (4 : Int32)), .unset, .unset, .unset, .unset, .unset] [(.int (1 : Int32)), (.ref A0)])
  refine Go.putF X34 hx hZ hown (w_ hw 22 rfl) Via.refl e34 P1_v22 P0_v21 (Or.inl (w_ hw 23 rfl)) (w_ hw 7 rfl) (ty := .int) (by decide) rfl rfl (hb hby d7_35) ?_
  intro T35 h35 X35 e35 W35
  have N35 := Fr.snoc X35 N18 P19
  have Z0_v36 := Nat.le_trans Z0_v19 (Keep.of_wr W35).1
  have fact_K_v37 := fact_K_v20.wr W35 (Or.inl (by simp))
  have P0_v38 := P0_v21.wr W35
  have P2_v39 := P2_v23.other W35 (Or.inr (slot_ne (Or.inl (w_ hw 59 rfl)) (Or.inl (w_ hw 23 rfl)) (by decide) (t := .int) (t' := .int) (by decide) (by decide)))
  have P3_v40 := P3_v24.other W35 (Or.inr (slot_ne (Or.inl (w_ hw 65 rfl)) (Or.inl (w_ hw 23 rfl)) (by decide) (t := .int) (t' := .int) (by decide) (by decide)))
  have P4_v41 := P4_v25.other W35 (Or.inr (slot_ne (Or.inl (w_ hw 25 rfl)) (Or.inl (w_ hw 23 rfl)) (by decide) (t := (.array .int)) (t' := .int) (by decide) (by decide)))
  have P5_v42 := P5_v26.other W35 (Or.inr (slot_ne (Or.inl (w_ hw 68 rfl)) (Or.inl (w_ hw 23 rfl)) (by decide) (t := .long) (t' := .int) (by decide) (by decide)))
  have P7_v43 := P7_v27.other W35 (Or.inr (slot_ne (Or.inl (w_ hw 18 rfl)) (Or.inl (w_ hw 23 rfl)) (by decide) (t := (.array (.object "com/example/pennybreak/pennybreak/simplebook/RestingOrder"))) (t' := .int) (by decide) (by decide)))
  have P8_v44 := P8_v28.other W35 (Or.inr (slot_ne (Or.inl (w_ hw 48 rfl)) (Or.inl (w_ hw 23 rfl)) (by decide) (t := .int) (t' := .int) (by decide) (by decide)))
  have P9_v45 := P9_v29.other W35 (Ne.symm P13)
  have P10_v46 := P10_v30.other W35 (Ne.symm P14)
  have P11_v47 := P11_v31.other W35 (Ne.symm P15)
  have U2_v48 := U2_v32.other W35 (Ne.symm ne_A0_b2)
  have F_sizes_A0_v49 := F_sizes_A0_v33.other W35 (Or.inr (slot_ne (Or.inl (w_ hw 21 rfl)) (Or.inl (w_ hw 23 rfl)) (by decide) (t := (.array .int)) (t' := .int) (by decide) (by decide)))
  have F_blocks_A0_v50 := P1_v22.same W35
  show Go p e below _ T35 (mkF m 38 #[.val (.ref A0), .val (.int (4 : Int32)), .unset, .unset, .unset, .unset, .unset] [])
  refine Go.s_aloadN X35 hx (hb hby d7_38) (q := 39) rfl rfl rfl ?_
  refine Go.s_iconst X35 hx (hb hby d7_39) (q := 40) rfl (z := 2) rfl ?_
  refine Go.s_aloadN X35 hx (hb hby d7_40) (q := 41) rfl rfl rfl ?_
  refine Go.getF X35 hx hZ hown (w_ hw 22 rfl) Via.refl e35 F_blocks_A0_v50 (hb hby d7_41) ?_
  intro T51 X51 e51
  show Go p e below _ T51 (mkF m 44 #[.val (.ref A0), .val (.int (4 : Int32)), .unset, .unset, .unset, .unset, .unset] [(.int (1 : Int32)), (.int (2 : Int32)), (.ref A0)])
  refine Go.s_imul X51 hx (hb hby d7_44) (q := 45) rfl ?_
  rw [(by decide : ((2 : Int32) * (1 : Int32)) = (2 : Int32))]
  refine Go.newP X51 hx hZ (w_ hw 19 rfl) e51 (hb hby d7_45) (by decide) (cap := 2) (by decide) (by decide) (by decide) (by decide) ?_
  intro T52 h52 b52 k52 g52 X52 e52 E52 V52
  have ne_A0_b52 : A0 ≠ b52 := Nat.ne_of_lt (g52 ▸ P0_v38.lt)
  have ne_A1_b52 : A1 ≠ b52 := Nat.ne_of_lt (g52 ▸ P9_v45.lt)
  have ne_A2_b52 : A2 ≠ b52 := Nat.ne_of_lt (g52 ▸ P10_v46.lt)
  have ne_A3_b52 : A3 ≠ b52 := Nat.ne_of_lt (g52 ▸ P11_v47.lt)
  have ne_b2_b52 : b2 ≠ b52 := Nat.ne_of_lt (g52 ▸ U2_v48.lt)
  have g_b52 : n0 ≤ b52 := g52 ▸ Z0_v36
  have sz_b52 : h0.size ≤ b52 := g52 ▸ fact_K_v37.1
  have Z0_v53 := Nat.le_trans Z0_v36 E52.1
  have fact_K_v54 := fact_K_v37.ext E52
  have P0_v55 := P0_v38.ext E52
  have P2_v56 := P2_v39.ext E52
  have P3_v57 := P3_v40.ext E52
  have P4_v58 := P4_v41.ext E52
  have P5_v59 := P5_v42.ext E52
  have P7_v60 := P7_v43.ext E52
  have P8_v61 := P8_v44.ext E52
  have P9_v62 := P9_v45.ext E52
  have P10_v63 := P10_v46.ext E52
  have P11_v64 := P11_v47.ext E52
  have U2_v65 := U2_v48.ext E52
  have F_sizes_A0_v66 := F_sizes_A0_v49.ext E52
  have F_blocks_A0_v67 := F_blocks_A0_v50.ext E52
  have V52_68 : Arv Z h52 b52 k52 .int (2 : Int32) [(.int (0 : Int32)), (.int (0 : Int32))] (.int (0 : Int32)) := V52.pad (pad_rep [] (.int (0 : Int32)) 2)
  have U52 := UA.of_arv V52_68 (by decide : ((2 : Int32)).toNatClampNeg = 2)
  show Go p e below _ T52 (mkF m 47 #[.val (.ref A0), .val (.int (4 : Int32)), .unset, .unset, .unset, .unset, .unset] [(.ref b52), (.ref A0)])
  refine Go.putF X52 hx hZ hown (w_ hw 24 rfl) Via.refl e52 P4_v58 P0_v55 (Or.inl (w_ hw 25 rfl)) (w_ hw 7 rfl) (ty := (.array .int)) (by decide) rfl rfl (hb hby d7_47) ?_
  intro T69 h69 X69 e69 W69
  have N69 := Fr.snoc X69 N35 P19
  have Z0_v70 := Nat.le_trans Z0_v53 (Keep.of_wr W69).1
  have fact_K_v71 := fact_K_v54.wr W69 (Or.inl (by simp))
  have P0_v72 := P0_v55.wr W69
  have P2_v73 := P2_v56.other W69 (Or.inr (slot_ne (Or.inl (w_ hw 59 rfl)) (Or.inl (w_ hw 25 rfl)) (by decide) (t := .int) (t' := (.array .int)) (by decide) (by decide)))
  have P3_v74 := P3_v57.other W69 (Or.inr (slot_ne (Or.inl (w_ hw 65 rfl)) (Or.inl (w_ hw 25 rfl)) (by decide) (t := .int) (t' := (.array .int)) (by decide) (by decide)))
  have P5_v75 := P5_v59.other W69 (Or.inr (slot_ne (Or.inl (w_ hw 68 rfl)) (Or.inl (w_ hw 25 rfl)) (by decide) (t := .long) (t' := (.array .int)) (by decide) (by decide)))
  have P7_v76 := P7_v60.other W69 (Or.inr (slot_ne (Or.inl (w_ hw 18 rfl)) (Or.inl (w_ hw 25 rfl)) (by decide) (t := (.array (.object "com/example/pennybreak/pennybreak/simplebook/RestingOrder"))) (t' := (.array .int)) (by decide) (by decide)))
  have P8_v77 := P8_v61.other W69 (Or.inr (slot_ne (Or.inl (w_ hw 48 rfl)) (Or.inl (w_ hw 25 rfl)) (by decide) (t := .int) (t' := (.array .int)) (by decide) (by decide)))
  have P9_v78 := P9_v62.other W69 (Ne.symm P13)
  have P10_v79 := P10_v63.other W69 (Ne.symm P14)
  have P11_v80 := P11_v64.other W69 (Ne.symm P15)
  have U2_v81 := U2_v65.other W69 (Ne.symm ne_A0_b2)
  have F_sizes_A0_v82 := F_sizes_A0_v66.other W69 (Or.inr (slot_ne (Or.inl (w_ hw 21 rfl)) (Or.inl (w_ hw 25 rfl)) (by decide) (t := (.array .int)) (t' := (.array .int)) (by decide) (by decide)))
  have F_blocks_A0_v83 := F_blocks_A0_v67.other W69 (Or.inr (slot_ne (Or.inl (w_ hw 23 rfl)) (Or.inl (w_ hw 25 rfl)) (by decide) (t := .int) (t' := (.array .int)) (by decide) (by decide)))
  have U52_v84 := U52.other W69 (Ne.symm ne_A0_b52)
  have F_largest_A0_v85 := P4_v58.same W69
  show Go p e below _ T69 (mkF m 50 #[.val (.ref A0), .val (.int (4 : Int32)), .unset, .unset, .unset, .unset, .unset] [])
  refine Go.s_aloadN X69 hx (hb hby d7_50) (q := 51) rfl rfl rfl ?_
  refine Go.getF X69 hx hZ hown (w_ hw 17 rfl) Via.refl e69 P7_v76 (hb hby d7_51) ?_
  intro T86 X86 e86
  show Go p e below _ T86 (mkF m 54 #[.val (.ref A0), .val (.int (4 : Int32)), .unset, .unset, .unset, .unset, .unset] [(.ref A1)])
  refine Go.s_astoreN X86 hx (hb hby d7_54) (q := 55) rfl rfl (l' := #[.val (.ref A0), .val (.int (4 : Int32)), .val (.ref A1), .unset, .unset, .unset, .unset]) rfl ?_
  refine Go.s_aloadN X86 hx (hb hby d7_55) (q := 56) rfl rfl rfl ?_
  refine Go.s_iloadN X86 hx (hb hby d7_56) (q := 57) rfl rfl ?_
  refine Go.newR X86 hx hZ hown (w_ hw 15 rfl) (w_ hw 16 rfl) e86 (hb hby d7_57) (by decide) (cap := 4) (by decide) (by decide) (by decide) (by decide) ?_
  intro T87 h87 b87 k87 g87 X87 e87 E87 V87 O87
  have ne_A0_b87 : A0 ≠ b87 := Nat.ne_of_lt (g87 ▸ P0_v72.lt)
  have ne_A1_b87 : A1 ≠ b87 := Nat.ne_of_lt (g87 ▸ P9_v78.lt)
  have ne_A2_b87 : A2 ≠ b87 := Nat.ne_of_lt (g87 ▸ P10_v79.lt)
  have ne_A3_b87 : A3 ≠ b87 := Nat.ne_of_lt (g87 ▸ P11_v80.lt)
  have ne_b2_b87 : b2 ≠ b87 := Nat.ne_of_lt (g87 ▸ U2_v81.lt)
  have ne_b52_b87 : b52 ≠ b87 := Nat.ne_of_lt (g87 ▸ U52_v84.lt)
  have g_b87 : n0 ≤ b87 := g87 ▸ Z0_v70
  have sz_b87 : h0.size ≤ b87 := g87 ▸ fact_K_v71.1
  have Z0_v88 := Nat.le_trans Z0_v70 E87.1
  have fact_K_v89 := fact_K_v71.ext E87
  have P0_v90 := P0_v72.ext E87
  have P2_v91 := P2_v73.ext E87
  have P3_v92 := P3_v74.ext E87
  have P5_v93 := P5_v75.ext E87
  have P7_v94 := P7_v76.ext E87
  have P8_v95 := P8_v77.ext E87
  have P9_v96 := P9_v78.ext E87
  have P10_v97 := P10_v79.ext E87
  have P11_v98 := P11_v80.ext E87
  have U2_v99 := U2_v81.ext E87
  have F_sizes_A0_v100 := F_sizes_A0_v82.ext E87
  have F_blocks_A0_v101 := F_blocks_A0_v83.ext E87
  have U52_v102 := U52_v84.ext E87
  have F_largest_A0_v103 := F_largest_A0_v85.ext E87
  have V87_104 : Arv Z h87 b87 k87 (.object "com/example/pennybreak/pennybreak/simplebook/RestingOrder") (4 : Int32) [.null, .null, .null, .null] .null := V87.pad (pad_rep [] .null 4)
  show Go p e below _ T87 (mkF m 60 #[.val (.ref A0), .val (.int (4 : Int32)), .val (.ref A1), .unset, .unset, .unset, .unset] [(.ref b87), (.ref A0)])
  refine Go.putF X87 hx hZ hown (w_ hw 17 rfl) Via.refl e87 P7_v94 P0_v90 (Or.inl (w_ hw 18 rfl)) (w_ hw 7 rfl) (ty := (.array (.object "com/example/pennybreak/pennybreak/simplebook/RestingOrder"))) (by decide) rfl rfl (hb hby d7_60) ?_
  intro T105 h105 X105 e105 W105
  have N105 := Fr.snoc X105 N69 P19
  have Z0_v106 := Nat.le_trans Z0_v88 (Keep.of_wr W105).1
  have fact_K_v107 := fact_K_v89.wr W105 (Or.inl (by simp))
  have P0_v108 := P0_v90.wr W105
  have P2_v109 := P2_v91.other W105 (Or.inr (slot_ne (Or.inl (w_ hw 59 rfl)) (Or.inl (w_ hw 18 rfl)) (by decide) (t := .int) (t' := (.array (.object "com/example/pennybreak/pennybreak/simplebook/RestingOrder"))) (by decide) (by decide)))
  have P3_v110 := P3_v92.other W105 (Or.inr (slot_ne (Or.inl (w_ hw 65 rfl)) (Or.inl (w_ hw 18 rfl)) (by decide) (t := .int) (t' := (.array (.object "com/example/pennybreak/pennybreak/simplebook/RestingOrder"))) (by decide) (by decide)))
  have P5_v111 := P5_v93.other W105 (Or.inr (slot_ne (Or.inl (w_ hw 68 rfl)) (Or.inl (w_ hw 18 rfl)) (by decide) (t := .long) (t' := (.array (.object "com/example/pennybreak/pennybreak/simplebook/RestingOrder"))) (by decide) (by decide)))
  have P8_v112 := P8_v95.other W105 (Or.inr (slot_ne (Or.inl (w_ hw 48 rfl)) (Or.inl (w_ hw 18 rfl)) (by decide) (t := .int) (t' := (.array (.object "com/example/pennybreak/pennybreak/simplebook/RestingOrder"))) (by decide) (by decide)))
  have P9_v113 := P9_v96.other W105 (Ne.symm P13)
  have P10_v114 := P10_v97.other W105 (Ne.symm P14)
  have P11_v115 := P11_v98.other W105 (Ne.symm P15)
  have U2_v116 := U2_v99.other W105 (Ne.symm ne_A0_b2)
  have F_sizes_A0_v117 := F_sizes_A0_v100.other W105 (Or.inr (slot_ne (Or.inl (w_ hw 21 rfl)) (Or.inl (w_ hw 18 rfl)) (by decide) (t := (.array .int)) (t' := (.array (.object "com/example/pennybreak/pennybreak/simplebook/RestingOrder"))) (by decide) (by decide)))
  have F_blocks_A0_v118 := F_blocks_A0_v101.other W105 (Or.inr (slot_ne (Or.inl (w_ hw 23 rfl)) (Or.inl (w_ hw 18 rfl)) (by decide) (t := .int) (t' := (.array (.object "com/example/pennybreak/pennybreak/simplebook/RestingOrder"))) (by decide) (by decide)))
  have U52_v119 := U52_v102.other W105 (Ne.symm ne_A0_b52)
  have F_largest_A0_v120 := F_largest_A0_v103.other W105 (Or.inr (slot_ne (Or.inl (w_ hw 25 rfl)) (Or.inl (w_ hw 18 rfl)) (by decide) (t := (.array .int)) (t' := (.array (.object "com/example/pennybreak/pennybreak/simplebook/RestingOrder"))) (by decide) (by decide)))
  have V87_104_v121 := V87_104.other W105 (Ne.symm ne_A0_b87)
  have F_slots_A0_v122 := P7_v94.same W105
  show Go p e below _ T105 (mkF m 63 #[.val (.ref A0), .val (.int (4 : Int32)), .val (.ref A1), .unset, .unset, .unset, .unset] [])
  refine Go.s_iconst X105 hx (hb hby d7_63) (q := 64) rfl (z := 0) rfl ?_
  refine Go.s_istoreN X105 hx (hb hby d7_64) (q := 65) rfl (l' := #[.val (.ref A0), .val (.int (4 : Int32)), .val (.ref A1), .val (.int (0 : Int32)), .unset, .unset, .unset]) rfl ?_
  refine Go.s_iconst X105 hx (hb hby d7_65) (q := 66) rfl (z := 0) rfl ?_
  refine Go.s_istore X105 hx (hb hby d7_66) (q := 68) rfl (l' := #[.val (.ref A0), .val (.int (4 : Int32)), .val (.ref A1), .val (.int (0 : Int32)), .val (.int (0 : Int32)), .unset, .unset]) rfl ?_
  refine Go.s_iload X105 hx (hb hby d7_68) (q := 70) rfl rfl ?_
  refine Go.s_aloadN X105 hx (hb hby d7_70) (q := 71) rfl rfl rfl ?_
  refine Go.getF X105 hx hZ hown (w_ hw 47 rfl) Via.refl e105 P8_v112 (hb hby d7_71) ?_
  intro T123 X123 e123
  show Go p e below _ T123 (mkF m 74 #[.val (.ref A0), .val (.int (4 : Int32)), .val (.ref A1), .val (.int (0 : Int32)), .val (.int (0 : Int32)), .unset, .unset] [(.int (0 : Int32)), (.int (0 : Int32))])
  refine Go.s_icmpYes X123 hx (hb hby d7_74) (q := 155) (by decide) (by decide) (flt (by decide : ¬ ((0 : Int32) < (0 : Int32)))).2.1 ?_
  refine Go.s_aloadN X123 hx (hb hby d7_155) (q := 156) rfl rfl rfl ?_
  refine Go.s_iloadN X123 hx (hb hby d7_156) (q := 157) rfl rfl ?_
  refine Go.putF X123 hx hZ hown (w_ hw 47 rfl) Via.refl e123 P8_v112 P0_v108 (Or.inl (w_ hw 48 rfl)) (w_ hw 7 rfl) (ty := .int) (by decide) rfl rfl (hb hby d7_157) ?_
  intro T124 h124 X124 e124 W124
  have N124 := Fr.snoc X124 N105 P19
  have Z0_v125 := Nat.le_trans Z0_v106 (Keep.of_wr W124).1
  have fact_K_v126 := fact_K_v107.wr W124 (Or.inl (by simp))
  have P0_v127 := P0_v108.wr W124
  have P2_v128 := P2_v109.other W124 (Or.inr (slot_ne (Or.inl (w_ hw 59 rfl)) (Or.inl (w_ hw 48 rfl)) (by decide) (t := .int) (t' := .int) (by decide) (by decide)))
  have P3_v129 := P3_v110.other W124 (Or.inr (slot_ne (Or.inl (w_ hw 65 rfl)) (Or.inl (w_ hw 48 rfl)) (by decide) (t := .int) (t' := .int) (by decide) (by decide)))
  have P5_v130 := P5_v111.other W124 (Or.inr (slot_ne (Or.inl (w_ hw 68 rfl)) (Or.inl (w_ hw 48 rfl)) (by decide) (t := .long) (t' := .int) (by decide) (by decide)))
  have P9_v131 := P9_v113.other W124 (Ne.symm P13)
  have P10_v132 := P10_v114.other W124 (Ne.symm P14)
  have P11_v133 := P11_v115.other W124 (Ne.symm P15)
  have U2_v134 := U2_v116.other W124 (Ne.symm ne_A0_b2)
  have F_sizes_A0_v135 := F_sizes_A0_v117.other W124 (Or.inr (slot_ne (Or.inl (w_ hw 21 rfl)) (Or.inl (w_ hw 48 rfl)) (by decide) (t := (.array .int)) (t' := .int) (by decide) (by decide)))
  have F_blocks_A0_v136 := F_blocks_A0_v118.other W124 (Or.inr (slot_ne (Or.inl (w_ hw 23 rfl)) (Or.inl (w_ hw 48 rfl)) (by decide) (t := .int) (t' := .int) (by decide) (by decide)))
  have U52_v137 := U52_v119.other W124 (Ne.symm ne_A0_b52)
  have F_largest_A0_v138 := F_largest_A0_v120.other W124 (Or.inr (slot_ne (Or.inl (w_ hw 25 rfl)) (Or.inl (w_ hw 48 rfl)) (by decide) (t := (.array .int)) (t' := .int) (by decide) (by decide)))
  have V87_104_v139 := V87_104_v121.other W124 (Ne.symm ne_A0_b87)
  have F_slots_A0_v140 := F_slots_A0_v122.other W124 (Or.inr (slot_ne (Or.inl (w_ hw 18 rfl)) (Or.inl (w_ hw 48 rfl)) (by decide) (t := (.array (.object "com/example/pennybreak/pennybreak/simplebook/RestingOrder"))) (t' := .int) (by decide) (by decide)))
  have F_used_A0_v141 := P8_v112.same W124
  show Go p e below _ T124 (mkF m 160 #[.val (.ref A0), .val (.int (4 : Int32)), .val (.ref A1), .val (.int (0 : Int32)), .val (.int (0 : Int32)), .unset, .unset] [])
  refine Go.s_aloadN X124 hx (hb hby d7_160) (q := 161) rfl rfl rfl ?_
  refine Go.s_iconst X124 hx (hb hby d7_161) (q := 162) rfl (z := 0) rfl ?_
  refine Go.putF X124 hx hZ hown (w_ hw 64 rfl) Via.refl e124 P3_v129 P0_v127 (Or.inl (w_ hw 65 rfl)) (w_ hw 7 rfl) (ty := .int) (by decide) rfl rfl (hb hby d7_162) ?_
  intro T142 h142 X142 e142 W142
  have N142 := Fr.snoc X142 N124 P19
  have Z0_v143 := Nat.le_trans Z0_v125 (Keep.of_wr W142).1
  have fact_K_v144 := fact_K_v126.wr W142 (Or.inl (by simp))
  have P0_v145 := P0_v127.wr W142
  have P2_v146 := P2_v128.other W142 (Or.inr (slot_ne (Or.inl (w_ hw 59 rfl)) (Or.inl (w_ hw 65 rfl)) (by decide) (t := .int) (t' := .int) (by decide) (by decide)))
  have P5_v147 := P5_v130.other W142 (Or.inr (slot_ne (Or.inl (w_ hw 68 rfl)) (Or.inl (w_ hw 65 rfl)) (by decide) (t := .long) (t' := .int) (by decide) (by decide)))
  have P9_v148 := P9_v131.other W142 (Ne.symm P13)
  have P10_v149 := P10_v132.other W142 (Ne.symm P14)
  have P11_v150 := P11_v133.other W142 (Ne.symm P15)
  have U2_v151 := U2_v134.other W142 (Ne.symm ne_A0_b2)
  have F_sizes_A0_v152 := F_sizes_A0_v135.other W142 (Or.inr (slot_ne (Or.inl (w_ hw 21 rfl)) (Or.inl (w_ hw 65 rfl)) (by decide) (t := (.array .int)) (t' := .int) (by decide) (by decide)))
  have F_blocks_A0_v153 := F_blocks_A0_v136.other W142 (Or.inr (slot_ne (Or.inl (w_ hw 23 rfl)) (Or.inl (w_ hw 65 rfl)) (by decide) (t := .int) (t' := .int) (by decide) (by decide)))
  have U52_v154 := U52_v137.other W142 (Ne.symm ne_A0_b52)
  have F_largest_A0_v155 := F_largest_A0_v138.other W142 (Or.inr (slot_ne (Or.inl (w_ hw 25 rfl)) (Or.inl (w_ hw 65 rfl)) (by decide) (t := (.array .int)) (t' := .int) (by decide) (by decide)))
  have V87_104_v156 := V87_104_v139.other W142 (Ne.symm ne_A0_b87)
  have F_slots_A0_v157 := F_slots_A0_v140.other W142 (Or.inr (slot_ne (Or.inl (w_ hw 18 rfl)) (Or.inl (w_ hw 65 rfl)) (by decide) (t := (.array (.object "com/example/pennybreak/pennybreak/simplebook/RestingOrder"))) (t' := .int) (by decide) (by decide)))
  have F_used_A0_v158 := F_used_A0_v141.other W142 (Or.inr (slot_ne (Or.inl (w_ hw 48 rfl)) (Or.inl (w_ hw 65 rfl)) (by decide) (t := .int) (t' := .int) (by decide) (by decide)))
  have F_front_A0_v159 := P3_v129.same W142
  show Go p e below _ T142 (mkF m 165 #[.val (.ref A0), .val (.int (4 : Int32)), .val (.ref A1), .val (.int (0 : Int32)), .val (.int (0 : Int32)), .unset, .unset] [])
  refine Go.s_aloadN X142 hx (hb hby d7_165) (q := 166) rfl rfl rfl ?_
  refine Go.getF X142 hx hZ hown (w_ hw 22 rfl) Via.refl e142 F_blocks_A0_v153 (hb hby d7_166) ?_
  intro T160 X160 e160
  show Go p e below _ T160 (mkF m 169 #[.val (.ref A0), .val (.int (4 : Int32)), .val (.ref A1), .val (.int (0 : Int32)), .val (.int (0 : Int32)), .unset, .unset] [(.int (1 : Int32))])
  refine Go.s_iconst X160 hx (hb hby d7_169) (q := 170) rfl (z := 1) rfl ?_
  refine Go.s_isub X160 hx (hb hby d7_170) (q := 171) rfl ?_
  rw [(by decide : ((1 : Int32) - (1 : Int32)) = (0 : Int32))]
  refine Go.s_istore X160 hx (hb hby d7_171) (q := 173) rfl (l' := #[.val (.ref A0), .val (.int (4 : Int32)), .val (.ref A1), .val (.int (0 : Int32)), .val (.int (0 : Int32)), .unset, .unset]) rfl ?_
  refine Go.s_iload X160 hx (hb hby d7_173) (q := 175) rfl rfl ?_
  refine Go.s_iconst X160 hx (hb hby d7_175) (q := 176) rfl (z := 1) rfl ?_
  refine Go.s_icmpYes X160 hx (hb hby d7_176) (q := 215) (by decide) (by decide) (tlt (by decide : (0 : Int32) < (1 : Int32))).1 ?_
  refine Go.retV X160 hx hlk hret (hb hby d7_215) (by decide) (by decide) ?_
  try rw [e160]
  exact ⟨b2, b52, b87, k87, rfl, N142, fact_K_v144, sz_b2, sz_b52, sz_b87, P0_v145, F_blocks_A0_v153, P2_v146, F_front_A0_v159, F_largest_A0_v155, P5_v147, F_sizes_A0_v152, F_slots_A0_v157, F_used_A0_v158, V87_104_v156, U2_v151, U52_v154, O87, ne_b2_b52, ne_b2_b87, ne_b52_b87⟩
theorem ef_largestIn_14 (m : MethodId) (x0 : Addr) (x1 : Int32) : entryFrame m #[(.ref x0), (.int x1)] 5 = mkF m 0 #[.val (.ref x0), .val (.int x1), .unset, .unset, .unset] [] := by first | (simp [entryFrame, mkF, argsToLocals, Value.category]; done) | rfl
set_option maxRecDepth 65536 in
set_option maxHeartbeats 40000000 in
theorem rm_largestIn_14 (l : Launch) (Z : State) (a0 : Array Value) (hw : ∀ d ∈ tables_1, d.before a0 Z = true)  (A0 : Addr) (A1 : Addr) (h0 : Heap) (n0 : Nat) (Z0 : n0 ≤ h0.size) (P0 : Fld Z h0 A0 "com/example/pennybreak/pennybreak/simplebook/OrderQueue" "sizes" "[I" (.ref A1)) (P1 : Fld Z h0 A0 "com/example/pennybreak/pennybreak/simplebook/OrderQueue" "used" "I" (.int (1 : Int32))) (P2 : UA Z h0 A1 4) (P3 : A0 ≠ A1) (P4 : n0 ≤ A0) (P5 : n0 ≤ A1) :
    Ct l mn_11 prog_98_method_11_code 5 (some .int) ({ frames := 1, cells := 0, slots := 0, locals := 16 } : Room) Z h0 #[(.ref A0), (.int (0 : Int32))] (fun v h L => ∃ w0 : Int32, v = some (.int w0) ∧ L = [] ∧ h = h0) := by
  refine Ct.body (plainFor_of_name pn_com_example_pennybreak_pennybreak_simplebook_OrderQueue) ?_
  intro p e s m below meth c T0 hx hby hml hown hnm hret hlk hZ X0 e0
  refine Go.cast (ef_largestIn_14 m A0 (0 : Int32)) ?_
  show Go p e below _ T0 (mkF m 0 #[.val (.ref A0), .val (.int (0 : Int32)), .unset, .unset, .unset] [])
  refine Go.s_iconst X0 hx (hb hby d11_0) (q := 1) rfl (z := 0) rfl ?_
  refine Go.s_istoreN X0 hx (hb hby d11_1) (q := 2) rfl (l' := #[.val (.ref A0), .val (.int (0 : Int32)), .val (.int (0 : Int32)), .unset, .unset]) rfl ?_
  refine Go.s_aloadN X0 hx (hb hby d11_2) (q := 3) rfl rfl rfl ?_
  refine Go.getF X0 hx hZ hown (w_ hw 47 rfl) Via.refl e0 P1 (hb hby d11_3) ?_
  intro T1 X1 e1
  show Go p e below _ T1 (mkF m 6 #[.val (.ref A0), .val (.int (0 : Int32)), .val (.int (0 : Int32)), .unset, .unset] [(.int (1 : Int32))])
  refine Go.s_iloadN X1 hx (hb hby d11_6) (q := 7) rfl rfl ?_
  refine Go.s_iconst X1 hx (hb hby d11_7) (q := 8) rfl (z := 1) rfl ?_
  refine Go.s_iadd X1 hx (hb hby d11_8) (q := 9) rfl ?_
  rw [(by decide : ((0 : Int32) + (1 : Int32)) = (1 : Int32))]
  refine Go.s_bipush X1 hx (hb hby d11_9) (q := 11) rfl (z := 6) rfl ?_
  refine Go.s_ishl X1 hx (hb hby d11_11) (q := 12) rfl ?_
  rw [(by decide : ((1 : Int32) <<< ((6 : Int32) &&& 31)) = (64 : Int32))]
  refine Go.callS (y := mn_12) X1 hx hZ hown (w_ hw 83 rfl) (w_ hw 84 rfl) (w_ hw 62 rfl) (w_ hw 85 rfl) (by decide) e1 (argsL := [(.int (1 : Int32)), (.int (64 : Int32))]) (rest := []) (rm_mn l Z a0 hw (1 : Int32) (64 : Int32) _) (by rw [hml]; rfl) (lenOf pd_2 rfl) rfl (hb hby d11_12) (by decide) (by decide) (by decide) (by decide) ?_
  intro r2 T2 L2 q2 X2
  obtain ⟨w2, rfl, p2, rfl, e2⟩ := q2
  rw [List.append_nil] at X2
  obtain rfl : w2 = (1 : Int32) := by rcases p2 with ⟨h, rfl⟩ | ⟨h, rfl⟩ <;> first | rfl | exact absurd h (by decide)
  show Go p e below _ T2 (mkF m 15 #[.val (.ref A0), .val (.int (0 : Int32)), .val (.int (0 : Int32)), .unset, .unset] [(.int (1 : Int32))])
  refine Go.s_istoreN X2 hx (hb hby d11_15) (q := 16) rfl (l' := #[.val (.ref A0), .val (.int (0 : Int32)), .val (.int (0 : Int32)), .val (.int (1 : Int32)), .unset]) rfl ?_
  refine Go.s_iloadN X2 hx (hb hby d11_16) (q := 17) rfl rfl ?_
  refine Go.s_bipush X2 hx (hb hby d11_17) (q := 19) rfl (z := 6) rfl ?_
  refine Go.s_ishl X2 hx (hb hby d11_19) (q := 20) rfl ?_
  rw [(by decide : ((0 : Int32) <<< ((6 : Int32) &&& 31)) = (0 : Int32))]
  refine Go.s_istore X2 hx (hb hby d11_20) (q := 22) rfl (l' := #[.val (.ref A0), .val (.int (0 : Int32)), .val (.int (0 : Int32)), .val (.int (1 : Int32)), .val (.int (0 : Int32))]) rfl ?_
  refine Go.s_iload X2 hx (hb hby d11_22) (q := 24) rfl rfl ?_
  refine Go.s_iloadN X2 hx (hb hby d11_24) (q := 25) rfl rfl ?_
  refine Go.s_icmpNo X2 hx (hb hby d11_25) (q := 28) rfl (tlt (by decide : (0 : Int32) < (1 : Int32))).2.1 ?_
  refine Go.s_iloadN X2 hx (hb hby d11_28) (q := 29) rfl rfl ?_
  refine Go.s_aloadN X2 hx (hb hby d11_29) (q := 30) rfl rfl rfl ?_
  refine Go.getF X2 hx hZ hown (w_ hw 20 rfl) Via.refl e2 P0 (hb hby d11_30) ?_
  intro T3 X3 e3
  show Go p e below _ T3 (mkF m 33 #[.val (.ref A0), .val (.int (0 : Int32)), .val (.int (0 : Int32)), .val (.int (1 : Int32)), .val (.int (0 : Int32))] [(.ref A1), (.int (0 : Int32))])
  refine Go.s_iload X3 hx (hb hby d11_33) (q := 35) rfl rfl ?_
  refine Go.ldU X3 hx hZ e3 P2 (by decide) (by decide) (hb hby d11_35) ?_
  intro y4
  show Go p e below _ T3 (mkF m 36 #[.val (.ref A0), .val (.int (0 : Int32)), .val (.int (0 : Int32)), .val (.int (1 : Int32)), .val (.int (0 : Int32))] [(.int y4), (.int (0 : Int32))])
  refine Go.callS (y := mn_8) X3 hx hZ hown (w_ hw 60 rfl) (w_ hw 61 rfl) (w_ hw 62 rfl) (w_ hw 63 rfl) (by decide) e3 (argsL := [(.int (0 : Int32)), (.int y4)]) (rest := []) (rm_mx l Z a0 hw (0 : Int32) y4 _) (by rw [hml]; rfl) (lenOf pd_2 rfl) rfl (hb hby d11_36) (by decide) (by decide) (by decide) (by decide) ?_
  intro r5 T5 L5 q5 X5
  obtain ⟨w5, rfl, p5, rfl, e5⟩ := q5
  rw [List.append_nil] at X5
  show Go p e below _ T5 (mkF m 39 #[.val (.ref A0), .val (.int (0 : Int32)), .val (.int (0 : Int32)), .val (.int (1 : Int32)), .val (.int (0 : Int32))] [(.int w5)])
  refine Go.s_istoreN X5 hx (hb hby d11_39) (q := 40) rfl (l' := #[.val (.ref A0), .val (.int (0 : Int32)), .val (.int w5), .val (.int (1 : Int32)), .val (.int (0 : Int32))]) rfl ?_
  refine Go.s_iinc X5 hx (hb hby d11_40) (q := 43) rfl rfl (l' := #[.val (.ref A0), .val (.int (0 : Int32)), .val (.int w5), .val (.int (1 : Int32)), .val (.int ((0 : Int32) + (1 : Int32)))]) rfl ?_
  rw [(by decide : ((0 : Int32) + (1 : Int32)) = (1 : Int32))]
  refine Go.s_goto X5 hx (hb hby d11_43) (q := 22) (by decide) (by decide) ?_
  refine Go.s_iload X5 hx (hb hby d11_22) (q := 24) rfl rfl ?_
  refine Go.s_iloadN X5 hx (hb hby d11_24) (q := 25) rfl rfl ?_
  refine Go.s_icmpYes X5 hx (hb hby d11_25) (q := 46) (by decide) (by decide) (flt (by decide : ¬ ((1 : Int32) < (1 : Int32)))).2.1 ?_
  refine Go.s_iloadN X5 hx (hb hby d11_46) (q := 47) rfl rfl ?_
  refine Go.retI X5 hx hlk hret (hb hby d11_47) (by decide) (by decide) ?_
  try rw [e5]
  exact ⟨w5, rfl, rfl, rfl⟩
theorem ef_set_13 (m : MethodId) (x0 : Addr) (x1 : Int32) (x2 : Int32) : entryFrame m #[(.ref x0), (.int x1), (.int x2)] 6 = mkF m 0 #[.val (.ref x0), .val (.int x1), .val (.int x2), .unset, .unset, .unset] [] := by first | (simp [entryFrame, mkF, argsToLocals, Value.category]; done) | rfl
set_option maxRecDepth 65536 in
set_option maxHeartbeats 40000000 in
theorem rm_set_13 (l : Launch) (Z : State) (a0 : Array Value) (hw : ∀ d ∈ tables_1, d.before a0 Z = true)  (A0 : Addr) (A1 : Addr) (A2 : Addr) (I3 : Int32) (h0 : Heap) (n0 : Nat) (Z0 : n0 ≤ h0.size) (P0 : Exa Z h0 A0 "com/example/pennybreak/pennybreak/simplebook/OrderQueue") (P1 : Fld Z h0 A0 "com/example/pennybreak/pennybreak/simplebook/OrderQueue" "blocks" "I" (.int (1 : Int32))) (P2 : Fld Z h0 A0 "com/example/pennybreak/pennybreak/simplebook/OrderQueue" "largest" "[I" (.ref A2)) (P3 : Fld Z h0 A0 "com/example/pennybreak/pennybreak/simplebook/OrderQueue" "sizes" "[I" (.ref A1)) (P4 : Fld Z h0 A0 "com/example/pennybreak/pennybreak/simplebook/OrderQueue" "used" "I" (.int (1 : Int32))) (P5 : UA Z h0 A1 4) (P6 : UA Z h0 A2 2) (P7 : A0 ≠ A1) (P8 : A0 ≠ A2) (P9 : A1 ≠ A2) (P10 : n0 ≤ A0) (P11 : n0 ≤ A1) (P12 : n0 ≤ A2) :
    Ct l mn_9 prog_98_method_10_code 6 none ({ frames := 2, cells := 0, slots := 0, locals := 40 } : Room) Z h0 #[(.ref A0), (.int (0 : Int32)), (.int I3)] (fun v h L => v = none ∧ Fr n0 L ∧ Keep h0 h [A1, A2] ∧ UA Z h A1 4 ∧ UA Z h A2 2) := by
  refine Ct.body (plainFor_of_name pn_com_example_pennybreak_pennybreak_simplebook_OrderQueue) ?_
  intro p e s m below meth c T0 hx hby hml hown hnm hret hlk hZ X0 e0
  refine Go.cast (ef_set_13 m A0 (0 : Int32) I3) ?_
  show Go p e below _ T0 (mkF m 0 #[.val (.ref A0), .val (.int (0 : Int32)), .val (.int I3), .unset, .unset, .unset] [])
  refine Go.s_aloadN X0 hx (hb hby d9_0) (q := 1) rfl rfl rfl ?_
  refine Go.getF X0 hx hZ hown (w_ hw 22 rfl) Via.refl e0 P1 (hb hby d9_1) ?_
  intro T1 X1 e1
  show Go p e below _ T1 (mkF m 4 #[.val (.ref A0), .val (.int (0 : Int32)), .val (.int I3), .unset, .unset, .unset] [(.int (1 : Int32))])
  refine Go.s_iloadN X1 hx (hb hby d9_4) (q := 5) rfl rfl ?_
  refine Go.s_bipush X1 hx (hb hby d9_5) (q := 7) rfl (z := 6) rfl ?_
  refine Go.s_ishr X1 hx (hb hby d9_7) (q := 8) rfl ?_
  rw [(by decide : ((0 : Int32) >>> ((6 : Int32) &&& 31)) = (0 : Int32))]
  refine Go.s_iadd X1 hx (hb hby d9_8) (q := 9) rfl ?_
  rw [(by decide : ((1 : Int32) + (0 : Int32)) = (1 : Int32))]
  refine Go.s_istoreN X1 hx (hb hby d9_9) (q := 10) rfl (l' := #[.val (.ref A0), .val (.int (0 : Int32)), .val (.int I3), .val (.int (1 : Int32)), .unset, .unset]) rfl ?_
  refine Go.s_aloadN X1 hx (hb hby d9_10) (q := 11) rfl rfl rfl ?_
  refine Go.getF X1 hx hZ hown (w_ hw 24 rfl) Via.refl e1 P2 (hb hby d9_11) ?_
  intro T2 X2 e2
  show Go p e below _ T2 (mkF m 14 #[.val (.ref A0), .val (.int (0 : Int32)), .val (.int I3), .val (.int (1 : Int32)), .unset, .unset] [(.ref A2)])
  refine Go.s_iloadN X2 hx (hb hby d9_14) (q := 15) rfl rfl ?_
  refine Go.ldU X2 hx hZ e2 P6 (by decide) (by decide) (hb hby d9_15) ?_
  intro y3
  show Go p e below _ T2 (mkF m 16 #[.val (.ref A0), .val (.int (0 : Int32)), .val (.int I3), .val (.int (1 : Int32)), .unset, .unset] [(.int y3)])
  refine Go.s_istore X2 hx (hb hby d9_16) (q := 18) rfl (l' := #[.val (.ref A0), .val (.int (0 : Int32)), .val (.int I3), .val (.int (1 : Int32)), .val (.int y3), .unset]) rfl ?_
  refine Go.s_aloadN X2 hx (hb hby d9_18) (q := 19) rfl rfl rfl ?_
  refine Go.getF X2 hx hZ hown (w_ hw 20 rfl) Via.refl e2 P3 (hb hby d9_19) ?_
  intro T4 X4 e4
  show Go p e below _ T4 (mkF m 22 #[.val (.ref A0), .val (.int (0 : Int32)), .val (.int I3), .val (.int (1 : Int32)), .val (.int y3), .unset] [(.ref A1)])
  refine Go.s_iloadN X4 hx (hb hby d9_22) (q := 23) rfl rfl ?_
  refine Go.ldU X4 hx hZ e4 P5 (by decide) (by decide) (hb hby d9_23) ?_
  intro y5
  show Go p e below _ T4 (mkF m 24 #[.val (.ref A0), .val (.int (0 : Int32)), .val (.int I3), .val (.int (1 : Int32)), .val (.int y3), .unset] [(.int y5)])
  refine Go.s_iload X4 hx (hb hby d9_24) (q := 26) rfl rfl ?_
  by_cases c26_6 : y5 = y3
  · -- pc 26: y5 = y3
    refine Go.s_icmpNo X4 hx (hb hby d9_26) (q := 29) rfl (teq c26_6).2 ?_
    refine Go.s_iloadN X4 hx (hb hby d9_29) (q := 30) rfl rfl ?_
    refine Go.s_iload X4 hx (hb hby d9_30) (q := 32) rfl rfl ?_
    by_cases c32_7 : I3 < y3
    · -- pc 32: I3 < y3
      refine Go.s_icmpNo X4 hx (hb hby d9_32) (q := 35) rfl (tlt c32_7).2.1 ?_
      refine Go.s_iconst X4 hx (hb hby d9_35) (q := 36) rfl (z := 1) rfl ?_
      refine Go.s_goto X4 hx (hb hby d9_36) (q := 40) (by decide) (by decide) ?_
      refine Go.s_istore X4 hx (hb hby d9_40) (q := 42) rfl (l' := #[.val (.ref A0), .val (.int (0 : Int32)), .val (.int I3), .val (.int (1 : Int32)), .val (.int y3), .val (.int (1 : Int32))]) rfl ?_
      refine Go.s_aloadN X4 hx (hb hby d9_42) (q := 43) rfl rfl rfl ?_
      refine Go.getF X4 hx hZ hown (w_ hw 20 rfl) Via.refl e4 P3 (hb hby d9_43) ?_
      intro T8 X8 e8
      show Go p e below _ T8 (mkF m 46 #[.val (.ref A0), .val (.int (0 : Int32)), .val (.int I3), .val (.int (1 : Int32)), .val (.int y3), .val (.int (1 : Int32))] [(.ref A1)])
      refine Go.s_iloadN X8 hx (hb hby d9_46) (q := 47) rfl rfl ?_
      refine Go.s_iloadN X8 hx (hb hby d9_47) (q := 48) rfl rfl ?_
      refine Go.stU X8 hx hZ e8 P5 (by decide) (by decide) (hb hby d9_48) ?_
      intro T9 h9 X9 e9 W9 U9
      have N9 := Fr.snoc X9 (Fr.nil n0) P11
      have Z0_v10 := Nat.le_trans Z0 (Keep.of_wr W9).1
      have fact_K_v11 := (Keep.refl h0 [A1, A2]).wr W9 (Or.inl (by simp))
      have P0_v12 := P0.wr W9
      have P1_v13 := P1.other W9 (Or.inl P7)
      have P2_v14 := P2.other W9 (Or.inl P7)
      have P3_v15 := P3.other W9 (Or.inl P7)
      have P4_v16 := P4.other W9 (Or.inl P7)
      have P6_v17 := P6.other W9 (Ne.symm P9)
      show Go p e below _ T9 (mkF m 49 #[.val (.ref A0), .val (.int (0 : Int32)), .val (.int I3), .val (.int (1 : Int32)), .val (.int y3), .val (.int (1 : Int32))] [])
      refine Go.s_iloadN X9 hx (hb hby d9_49) (q := 50) rfl rfl ?_
      refine Go.s_iload X9 hx (hb hby d9_50) (q := 52) rfl rfl ?_
      by_cases c52_18 : y3 < I3
      · -- pc 52: y3 < I3
        refine Go.s_icmpNo X9 hx (hb hby d9_52) (q := 55) rfl (tlt c52_18).2.2.2 ?_
        refine Go.s_iloadN X9 hx (hb hby d9_55) (q := 56) rfl rfl ?_
        refine Go.s_istore X9 hx (hb hby d9_56) (q := 58) rfl (l' := #[.val (.ref A0), .val (.int (0 : Int32)), .val (.int I3), .val (.int (1 : Int32)), .val (.int I3), .val (.int (1 : Int32))]) rfl ?_
        refine Go.s_goto X9 hx (hb hby d9_58) (q := 76) (by decide) (by decide) ?_
        refine Go.s_iloadN X9 hx (hb hby d9_76) (q := 77) rfl rfl ?_
        refine Go.s_iconst X9 hx (hb hby d9_77) (q := 78) rfl (z := 1) rfl ?_
        refine Go.s_icmpNo X9 hx (hb hby d9_78) (q := 81) rfl (flt (by decide : ¬ ((1 : Int32) < (1 : Int32)))).1 ?_
        refine Go.s_aloadN X9 hx (hb hby d9_81) (q := 82) rfl rfl rfl ?_
        refine Go.getF X9 hx hZ hown (w_ hw 24 rfl) Via.refl e9 P2_v14 (hb hby d9_82) ?_
        intro T19 X19 e19
        show Go p e below _ T19 (mkF m 85 #[.val (.ref A0), .val (.int (0 : Int32)), .val (.int I3), .val (.int (1 : Int32)), .val (.int I3), .val (.int (1 : Int32))] [(.ref A2)])
        refine Go.s_iloadN X19 hx (hb hby d9_85) (q := 86) rfl rfl ?_
        refine Go.ldU X19 hx hZ e19 P6_v17 (by decide) (by decide) (hb hby d9_86) ?_
        intro y20
        show Go p e below _ T19 (mkF m 87 #[.val (.ref A0), .val (.int (0 : Int32)), .val (.int I3), .val (.int (1 : Int32)), .val (.int I3), .val (.int (1 : Int32))] [(.int y20)])
        refine Go.s_iload X19 hx (hb hby d9_87) (q := 89) rfl rfl ?_
        by_cases c89_21 : y20 = I3
        · -- pc 89: y20 = I3
          refine Go.s_icmpYes X19 hx (hb hby d9_89) (q := 127) (by decide) (by decide) (teq c89_21).1 ?_
          refine Go.retV X19 hx hlk hret (hb hby d9_127) (by decide) (by decide) ?_
          try rw [e19]
          exact ⟨rfl, N9, fact_K_v11, U9, P6_v17⟩
        · -- pc 89: not y20 = I3
          refine Go.s_icmpNo X19 hx (hb hby d9_89) (q := 92) rfl (feq c89_21).1 ?_
          refine Go.s_aloadN X19 hx (hb hby d9_92) (q := 93) rfl rfl rfl ?_
          refine Go.getF X19 hx hZ hown (w_ hw 24 rfl) Via.refl e19 P2_v14 (hb hby d9_93) ?_
          intro T22 X22 e22
          show Go p e below _ T22 (mkF m 96 #[.val (.ref A0), .val (.int (0 : Int32)), .val (.int I3), .val (.int (1 : Int32)), .val (.int I3), .val (.int (1 : Int32))] [(.ref A2)])
          refine Go.s_iloadN X22 hx (hb hby d9_96) (q := 97) rfl rfl ?_
          refine Go.s_iload X22 hx (hb hby d9_97) (q := 99) rfl rfl ?_
          refine Go.stU X22 hx hZ e22 P6_v17 (by decide) (by decide) (hb hby d9_99) ?_
          intro T23 h23 X23 e23 W23 U23
          have N23 := Fr.snoc X23 N9 P12
          have Z0_v24 := Nat.le_trans Z0_v10 (Keep.of_wr W23).1
          have fact_K_v25 := fact_K_v11.wr W23 (Or.inl (by simp))
          have P0_v26 := P0_v12.wr W23
          have P1_v27 := P1_v13.other W23 (Or.inl P8)
          have P2_v28 := P2_v14.other W23 (Or.inl P8)
          have P3_v29 := P3_v15.other W23 (Or.inl P8)
          have P4_v30 := P4_v16.other W23 (Or.inl P8)
          have U9_v31 := U9.other W23 P9
          show Go p e below _ T23 (mkF m 100 #[.val (.ref A0), .val (.int (0 : Int32)), .val (.int I3), .val (.int (1 : Int32)), .val (.int I3), .val (.int (1 : Int32))] [])
          refine Go.s_iloadN X23 hx (hb hby d9_100) (q := 101) rfl rfl ?_
          refine Go.s_iconst X23 hx (hb hby d9_101) (q := 102) rfl (z := 1) rfl ?_
          refine Go.s_icmpYes X23 hx (hb hby d9_102) (q := 120) (by decide) (by decide) (flt (by decide : ¬ ((1 : Int32) < (1 : Int32)))).2.2.2 ?_
          refine Go.s_iloadN X23 hx (hb hby d9_120) (q := 121) rfl rfl ?_
          refine Go.s_iconst X23 hx (hb hby d9_121) (q := 122) rfl (z := 1) rfl ?_
          refine Go.s_ishr X23 hx (hb hby d9_122) (q := 123) rfl ?_
          rw [(by decide : ((1 : Int32) >>> ((1 : Int32) &&& 31)) = (0 : Int32))]
          refine Go.s_istoreN X23 hx (hb hby d9_123) (q := 124) rfl (l' := #[.val (.ref A0), .val (.int (0 : Int32)), .val (.int I3), .val (.int (0 : Int32)), .val (.int I3), .val (.int (1 : Int32))]) rfl ?_
          refine Go.s_goto X23 hx (hb hby d9_124) (q := 76) (by decide) (by decide) ?_
          refine Go.s_iloadN X23 hx (hb hby d9_76) (q := 77) rfl rfl ?_
          refine Go.s_iconst X23 hx (hb hby d9_77) (q := 78) rfl (z := 1) rfl ?_
          refine Go.s_icmpYes X23 hx (hb hby d9_78) (q := 127) (by decide) (by decide) (tlt (by decide : (0 : Int32) < (1 : Int32))).1 ?_
          refine Go.retV X23 hx hlk hret (hb hby d9_127) (by decide) (by decide) ?_
          try rw [e23]
          exact ⟨rfl, N23, fact_K_v25, U9_v31, U23⟩
      · -- pc 52: not y3 < I3
        refine Go.s_icmpYes X9 hx (hb hby d9_52) (q := 61) (by decide) (by decide) (flt c52_18).2.2.2 ?_
        refine Go.s_iload X9 hx (hb hby d9_61) (q := 63) rfl rfl ?_
        refine Go.s_ifNo X9 hx (hb hby d9_63) (q := 66) rfl ((if0 _ _).trans (feq (by decide : ¬ ((1 : Int32) = (0 : Int32)))).1) ?_
        refine Go.s_aloadN X9 hx (hb hby d9_66) (q := 67) rfl rfl rfl ?_
        refine Go.s_iloadN X9 hx (hb hby d9_67) (q := 68) rfl rfl ?_
        refine Go.s_bipush X9 hx (hb hby d9_68) (q := 70) rfl (z := 6) rfl ?_
        refine Go.s_ishr X9 hx (hb hby d9_70) (q := 71) rfl ?_
        rw [(by decide : ((0 : Int32) >>> ((6 : Int32) &&& 31)) = (0 : Int32))]
        refine Go.callP (y := mn_11) X9 hx hZ hown (w_ hw 79 rfl) (w_ hw 80 rfl) (w_ hw 81 rfl) (w_ hw 7 rfl) (w_ hw 82 rfl) (w_ hw 8 rfl) (by decide) e9 P0_v12 (argsL := [(.int (0 : Int32))]) (rest := []) (rm_largestIn_14 l Z a0 hw A0 A1 h9 n0 Z0_v10 P3_v15 P4_v16 U9 P7 P10 P11) (by rw [hml]; rfl) (lenOf pd_1 rfl) rfl (hb hby d9_71) (by decide) (by decide) (by decide) (by decide) ?_
        intro r32 T32 L32 q32 X32
        obtain ⟨w0_32, rfl, rfl, e32⟩ := q32
        rw [List.append_nil] at X32
        show Go p e below _ T32 (mkF m 74 #[.val (.ref A0), .val (.int (0 : Int32)), .val (.int I3), .val (.int (1 : Int32)), .val (.int y3), .val (.int (1 : Int32))] [(.int w0_32)])
        refine Go.s_istore X32 hx (hb hby d9_74) (q := 76) rfl (l' := #[.val (.ref A0), .val (.int (0 : Int32)), .val (.int I3), .val (.int (1 : Int32)), .val (.int w0_32), .val (.int (1 : Int32))]) rfl ?_
        refine Go.s_iloadN X32 hx (hb hby d9_76) (q := 77) rfl rfl ?_
        refine Go.s_iconst X32 hx (hb hby d9_77) (q := 78) rfl (z := 1) rfl ?_
        refine Go.s_icmpNo X32 hx (hb hby d9_78) (q := 81) rfl (flt (by decide : ¬ ((1 : Int32) < (1 : Int32)))).1 ?_
        refine Go.s_aloadN X32 hx (hb hby d9_81) (q := 82) rfl rfl rfl ?_
        refine Go.getF X32 hx hZ hown (w_ hw 24 rfl) Via.refl e32 P2_v14 (hb hby d9_82) ?_
        intro T33 X33 e33
        show Go p e below _ T33 (mkF m 85 #[.val (.ref A0), .val (.int (0 : Int32)), .val (.int I3), .val (.int (1 : Int32)), .val (.int w0_32), .val (.int (1 : Int32))] [(.ref A2)])
        refine Go.s_iloadN X33 hx (hb hby d9_85) (q := 86) rfl rfl ?_
        refine Go.ldU X33 hx hZ e33 P6_v17 (by decide) (by decide) (hb hby d9_86) ?_
        intro y34
        show Go p e below _ T33 (mkF m 87 #[.val (.ref A0), .val (.int (0 : Int32)), .val (.int I3), .val (.int (1 : Int32)), .val (.int w0_32), .val (.int (1 : Int32))] [(.int y34)])
        refine Go.s_iload X33 hx (hb hby d9_87) (q := 89) rfl rfl ?_
        by_cases c89_35 : y34 = w0_32
        · -- pc 89: y34 = w0_32
          refine Go.s_icmpYes X33 hx (hb hby d9_89) (q := 127) (by decide) (by decide) (teq c89_35).1 ?_
          refine Go.retV X33 hx hlk hret (hb hby d9_127) (by decide) (by decide) ?_
          try rw [e33]
          exact ⟨rfl, N9, fact_K_v11, U9, P6_v17⟩
        · -- pc 89: not y34 = w0_32
          refine Go.s_icmpNo X33 hx (hb hby d9_89) (q := 92) rfl (feq c89_35).1 ?_
          refine Go.s_aloadN X33 hx (hb hby d9_92) (q := 93) rfl rfl rfl ?_
          refine Go.getF X33 hx hZ hown (w_ hw 24 rfl) Via.refl e33 P2_v14 (hb hby d9_93) ?_
          intro T36 X36 e36
          show Go p e below _ T36 (mkF m 96 #[.val (.ref A0), .val (.int (0 : Int32)), .val (.int I3), .val (.int (1 : Int32)), .val (.int w0_32), .val (.int (1 : Int32))] [(.ref A2)])
          refine Go.s_iloadN X36 hx (hb hby d9_96) (q := 97) rfl rfl ?_
          refine Go.s_iload X36 hx (hb hby d9_97) (q := 99) rfl rfl ?_
          refine Go.stU X36 hx hZ e36 P6_v17 (by decide) (by decide) (hb hby d9_99) ?_
          intro T37 h37 X37 e37 W37 U37
          have N37 := Fr.snoc X37 N9 P12
          have Z0_v38 := Nat.le_trans Z0_v10 (Keep.of_wr W37).1
          have fact_K_v39 := fact_K_v11.wr W37 (Or.inl (by simp))
          have P0_v40 := P0_v12.wr W37
          have P1_v41 := P1_v13.other W37 (Or.inl P8)
          have P2_v42 := P2_v14.other W37 (Or.inl P8)
          have P3_v43 := P3_v15.other W37 (Or.inl P8)
          have P4_v44 := P4_v16.other W37 (Or.inl P8)
          have U9_v45 := U9.other W37 P9
          show Go p e below _ T37 (mkF m 100 #[.val (.ref A0), .val (.int (0 : Int32)), .val (.int I3), .val (.int (1 : Int32)), .val (.int w0_32), .val (.int (1 : Int32))] [])
          refine Go.s_iloadN X37 hx (hb hby d9_100) (q := 101) rfl rfl ?_
          refine Go.s_iconst X37 hx (hb hby d9_101) (q := 102) rfl (z := 1) rfl ?_
          refine Go.s_icmpYes X37 hx (hb hby d9_102) (q := 120) (by decide) (by decide) (flt (by decide : ¬ ((1 : Int32) < (1 : Int32)))).2.2.2 ?_
          refine Go.s_iloadN X37 hx (hb hby d9_120) (q := 121) rfl rfl ?_
          refine Go.s_iconst X37 hx (hb hby d9_121) (q := 122) rfl (z := 1) rfl ?_
          refine Go.s_ishr X37 hx (hb hby d9_122) (q := 123) rfl ?_
          rw [(by decide : ((1 : Int32) >>> ((1 : Int32) &&& 31)) = (0 : Int32))]
          refine Go.s_istoreN X37 hx (hb hby d9_123) (q := 124) rfl (l' := #[.val (.ref A0), .val (.int (0 : Int32)), .val (.int I3), .val (.int (0 : Int32)), .val (.int w0_32), .val (.int (1 : Int32))]) rfl ?_
          refine Go.s_goto X37 hx (hb hby d9_124) (q := 76) (by decide) (by decide) ?_
          refine Go.s_iloadN X37 hx (hb hby d9_76) (q := 77) rfl rfl ?_
          refine Go.s_iconst X37 hx (hb hby d9_77) (q := 78) rfl (z := 1) rfl ?_
          refine Go.s_icmpYes X37 hx (hb hby d9_78) (q := 127) (by decide) (by decide) (tlt (by decide : (0 : Int32) < (1 : Int32))).1 ?_
          refine Go.retV X37 hx hlk hret (hb hby d9_127) (by decide) (by decide) ?_
          try rw [e37]
          exact ⟨rfl, N37, fact_K_v39, U9_v45, U37⟩
    · -- pc 32: not I3 < y3
      refine Go.s_icmpYes X4 hx (hb hby d9_32) (q := 39) (by decide) (by decide) (flt c32_7).2.1 ?_
      refine Go.s_iconst X4 hx (hb hby d9_39) (q := 40) rfl (z := 0) rfl ?_
      refine Go.s_istore X4 hx (hb hby d9_40) (q := 42) rfl (l' := #[.val (.ref A0), .val (.int (0 : Int32)), .val (.int I3), .val (.int (1 : Int32)), .val (.int y3), .val (.int (0 : Int32))]) rfl ?_
      refine Go.s_aloadN X4 hx (hb hby d9_42) (q := 43) rfl rfl rfl ?_
      refine Go.getF X4 hx hZ hown (w_ hw 20 rfl) Via.refl e4 P3 (hb hby d9_43) ?_
      intro T46 X46 e46
      show Go p e below _ T46 (mkF m 46 #[.val (.ref A0), .val (.int (0 : Int32)), .val (.int I3), .val (.int (1 : Int32)), .val (.int y3), .val (.int (0 : Int32))] [(.ref A1)])
      refine Go.s_iloadN X46 hx (hb hby d9_46) (q := 47) rfl rfl ?_
      refine Go.s_iloadN X46 hx (hb hby d9_47) (q := 48) rfl rfl ?_
      refine Go.stU X46 hx hZ e46 P5 (by decide) (by decide) (hb hby d9_48) ?_
      intro T47 h47 X47 e47 W47 U47
      have N47 := Fr.snoc X47 (Fr.nil n0) P11
      have Z0_v48 := Nat.le_trans Z0 (Keep.of_wr W47).1
      have fact_K_v49 := (Keep.refl h0 [A1, A2]).wr W47 (Or.inl (by simp))
      have P0_v50 := P0.wr W47
      have P1_v51 := P1.other W47 (Or.inl P7)
      have P2_v52 := P2.other W47 (Or.inl P7)
      have P3_v53 := P3.other W47 (Or.inl P7)
      have P4_v54 := P4.other W47 (Or.inl P7)
      have P6_v55 := P6.other W47 (Ne.symm P9)
      show Go p e below _ T47 (mkF m 49 #[.val (.ref A0), .val (.int (0 : Int32)), .val (.int I3), .val (.int (1 : Int32)), .val (.int y3), .val (.int (0 : Int32))] [])
      refine Go.s_iloadN X47 hx (hb hby d9_49) (q := 50) rfl rfl ?_
      refine Go.s_iload X47 hx (hb hby d9_50) (q := 52) rfl rfl ?_
      by_cases c52_56 : y3 < I3
      · -- pc 52: y3 < I3
        refine Go.s_icmpNo X47 hx (hb hby d9_52) (q := 55) rfl (tlt c52_56).2.2.2 ?_
        refine Go.s_iloadN X47 hx (hb hby d9_55) (q := 56) rfl rfl ?_
        refine Go.s_istore X47 hx (hb hby d9_56) (q := 58) rfl (l' := #[.val (.ref A0), .val (.int (0 : Int32)), .val (.int I3), .val (.int (1 : Int32)), .val (.int I3), .val (.int (0 : Int32))]) rfl ?_
        refine Go.s_goto X47 hx (hb hby d9_58) (q := 76) (by decide) (by decide) ?_
        refine Go.s_iloadN X47 hx (hb hby d9_76) (q := 77) rfl rfl ?_
        refine Go.s_iconst X47 hx (hb hby d9_77) (q := 78) rfl (z := 1) rfl ?_
        refine Go.s_icmpNo X47 hx (hb hby d9_78) (q := 81) rfl (flt (by decide : ¬ ((1 : Int32) < (1 : Int32)))).1 ?_
        refine Go.s_aloadN X47 hx (hb hby d9_81) (q := 82) rfl rfl rfl ?_
        refine Go.getF X47 hx hZ hown (w_ hw 24 rfl) Via.refl e47 P2_v52 (hb hby d9_82) ?_
        intro T57 X57 e57
        show Go p e below _ T57 (mkF m 85 #[.val (.ref A0), .val (.int (0 : Int32)), .val (.int I3), .val (.int (1 : Int32)), .val (.int I3), .val (.int (0 : Int32))] [(.ref A2)])
        refine Go.s_iloadN X57 hx (hb hby d9_85) (q := 86) rfl rfl ?_
        refine Go.ldU X57 hx hZ e57 P6_v55 (by decide) (by decide) (hb hby d9_86) ?_
        intro y58
        show Go p e below _ T57 (mkF m 87 #[.val (.ref A0), .val (.int (0 : Int32)), .val (.int I3), .val (.int (1 : Int32)), .val (.int I3), .val (.int (0 : Int32))] [(.int y58)])
        refine Go.s_iload X57 hx (hb hby d9_87) (q := 89) rfl rfl ?_
        by_cases c89_59 : y58 = I3
        · -- pc 89: y58 = I3
          refine Go.s_icmpYes X57 hx (hb hby d9_89) (q := 127) (by decide) (by decide) (teq c89_59).1 ?_
          refine Go.retV X57 hx hlk hret (hb hby d9_127) (by decide) (by decide) ?_
          try rw [e57]
          exact ⟨rfl, N47, fact_K_v49, U47, P6_v55⟩
        · -- pc 89: not y58 = I3
          refine Go.s_icmpNo X57 hx (hb hby d9_89) (q := 92) rfl (feq c89_59).1 ?_
          refine Go.s_aloadN X57 hx (hb hby d9_92) (q := 93) rfl rfl rfl ?_
          refine Go.getF X57 hx hZ hown (w_ hw 24 rfl) Via.refl e57 P2_v52 (hb hby d9_93) ?_
          intro T60 X60 e60
          show Go p e below _ T60 (mkF m 96 #[.val (.ref A0), .val (.int (0 : Int32)), .val (.int I3), .val (.int (1 : Int32)), .val (.int I3), .val (.int (0 : Int32))] [(.ref A2)])
          refine Go.s_iloadN X60 hx (hb hby d9_96) (q := 97) rfl rfl ?_
          refine Go.s_iload X60 hx (hb hby d9_97) (q := 99) rfl rfl ?_
          refine Go.stU X60 hx hZ e60 P6_v55 (by decide) (by decide) (hb hby d9_99) ?_
          intro T61 h61 X61 e61 W61 U61
          have N61 := Fr.snoc X61 N47 P12
          have Z0_v62 := Nat.le_trans Z0_v48 (Keep.of_wr W61).1
          have fact_K_v63 := fact_K_v49.wr W61 (Or.inl (by simp))
          have P0_v64 := P0_v50.wr W61
          have P1_v65 := P1_v51.other W61 (Or.inl P8)
          have P2_v66 := P2_v52.other W61 (Or.inl P8)
          have P3_v67 := P3_v53.other W61 (Or.inl P8)
          have P4_v68 := P4_v54.other W61 (Or.inl P8)
          have U47_v69 := U47.other W61 P9
          show Go p e below _ T61 (mkF m 100 #[.val (.ref A0), .val (.int (0 : Int32)), .val (.int I3), .val (.int (1 : Int32)), .val (.int I3), .val (.int (0 : Int32))] [])
          refine Go.s_iloadN X61 hx (hb hby d9_100) (q := 101) rfl rfl ?_
          refine Go.s_iconst X61 hx (hb hby d9_101) (q := 102) rfl (z := 1) rfl ?_
          refine Go.s_icmpYes X61 hx (hb hby d9_102) (q := 120) (by decide) (by decide) (flt (by decide : ¬ ((1 : Int32) < (1 : Int32)))).2.2.2 ?_
          refine Go.s_iloadN X61 hx (hb hby d9_120) (q := 121) rfl rfl ?_
          refine Go.s_iconst X61 hx (hb hby d9_121) (q := 122) rfl (z := 1) rfl ?_
          refine Go.s_ishr X61 hx (hb hby d9_122) (q := 123) rfl ?_
          rw [(by decide : ((1 : Int32) >>> ((1 : Int32) &&& 31)) = (0 : Int32))]
          refine Go.s_istoreN X61 hx (hb hby d9_123) (q := 124) rfl (l' := #[.val (.ref A0), .val (.int (0 : Int32)), .val (.int I3), .val (.int (0 : Int32)), .val (.int I3), .val (.int (0 : Int32))]) rfl ?_
          refine Go.s_goto X61 hx (hb hby d9_124) (q := 76) (by decide) (by decide) ?_
          refine Go.s_iloadN X61 hx (hb hby d9_76) (q := 77) rfl rfl ?_
          refine Go.s_iconst X61 hx (hb hby d9_77) (q := 78) rfl (z := 1) rfl ?_
          refine Go.s_icmpYes X61 hx (hb hby d9_78) (q := 127) (by decide) (by decide) (tlt (by decide : (0 : Int32) < (1 : Int32))).1 ?_
          refine Go.retV X61 hx hlk hret (hb hby d9_127) (by decide) (by decide) ?_
          try rw [e61]
          exact ⟨rfl, N61, fact_K_v63, U47_v69, U61⟩
      · -- pc 52: not y3 < I3
        refine Go.s_icmpYes X47 hx (hb hby d9_52) (q := 61) (by decide) (by decide) (flt c52_56).2.2.2 ?_
        refine Go.s_iload X47 hx (hb hby d9_61) (q := 63) rfl rfl ?_
        refine Go.s_ifYes X47 hx (hb hby d9_63) (q := 76) (by decide) (by decide) ((if0 _ _).trans (teq (by decide : (0 : Int32) = (0 : Int32))).1) ?_
        refine Go.s_iloadN X47 hx (hb hby d9_76) (q := 77) rfl rfl ?_
        refine Go.s_iconst X47 hx (hb hby d9_77) (q := 78) rfl (z := 1) rfl ?_
        refine Go.s_icmpNo X47 hx (hb hby d9_78) (q := 81) rfl (flt (by decide : ¬ ((1 : Int32) < (1 : Int32)))).1 ?_
        refine Go.s_aloadN X47 hx (hb hby d9_81) (q := 82) rfl rfl rfl ?_
        refine Go.getF X47 hx hZ hown (w_ hw 24 rfl) Via.refl e47 P2_v52 (hb hby d9_82) ?_
        intro T70 X70 e70
        show Go p e below _ T70 (mkF m 85 #[.val (.ref A0), .val (.int (0 : Int32)), .val (.int I3), .val (.int (1 : Int32)), .val (.int y3), .val (.int (0 : Int32))] [(.ref A2)])
        refine Go.s_iloadN X70 hx (hb hby d9_85) (q := 86) rfl rfl ?_
        refine Go.ldU X70 hx hZ e70 P6_v55 (by decide) (by decide) (hb hby d9_86) ?_
        intro y71
        show Go p e below _ T70 (mkF m 87 #[.val (.ref A0), .val (.int (0 : Int32)), .val (.int I3), .val (.int (1 : Int32)), .val (.int y3), .val (.int (0 : Int32))] [(.int y71)])
        refine Go.s_iload X70 hx (hb hby d9_87) (q := 89) rfl rfl ?_
        by_cases c89_72 : y71 = y3
        · -- pc 89: y71 = y3
          refine Go.s_icmpYes X70 hx (hb hby d9_89) (q := 127) (by decide) (by decide) (teq c89_72).1 ?_
          refine Go.retV X70 hx hlk hret (hb hby d9_127) (by decide) (by decide) ?_
          try rw [e70]
          exact ⟨rfl, N47, fact_K_v49, U47, P6_v55⟩
        · -- pc 89: not y71 = y3
          refine Go.s_icmpNo X70 hx (hb hby d9_89) (q := 92) rfl (feq c89_72).1 ?_
          refine Go.s_aloadN X70 hx (hb hby d9_92) (q := 93) rfl rfl rfl ?_
          refine Go.getF X70 hx hZ hown (w_ hw 24 rfl) Via.refl e70 P2_v52 (hb hby d9_93) ?_
          intro T73 X73 e73
          show Go p e below _ T73 (mkF m 96 #[.val (.ref A0), .val (.int (0 : Int32)), .val (.int I3), .val (.int (1 : Int32)), .val (.int y3), .val (.int (0 : Int32))] [(.ref A2)])
          refine Go.s_iloadN X73 hx (hb hby d9_96) (q := 97) rfl rfl ?_
          refine Go.s_iload X73 hx (hb hby d9_97) (q := 99) rfl rfl ?_
          refine Go.stU X73 hx hZ e73 P6_v55 (by decide) (by decide) (hb hby d9_99) ?_
          intro T74 h74 X74 e74 W74 U74
          have N74 := Fr.snoc X74 N47 P12
          have Z0_v75 := Nat.le_trans Z0_v48 (Keep.of_wr W74).1
          have fact_K_v76 := fact_K_v49.wr W74 (Or.inl (by simp))
          have P0_v77 := P0_v50.wr W74
          have P1_v78 := P1_v51.other W74 (Or.inl P8)
          have P2_v79 := P2_v52.other W74 (Or.inl P8)
          have P3_v80 := P3_v53.other W74 (Or.inl P8)
          have P4_v81 := P4_v54.other W74 (Or.inl P8)
          have U47_v82 := U47.other W74 P9
          show Go p e below _ T74 (mkF m 100 #[.val (.ref A0), .val (.int (0 : Int32)), .val (.int I3), .val (.int (1 : Int32)), .val (.int y3), .val (.int (0 : Int32))] [])
          refine Go.s_iloadN X74 hx (hb hby d9_100) (q := 101) rfl rfl ?_
          refine Go.s_iconst X74 hx (hb hby d9_101) (q := 102) rfl (z := 1) rfl ?_
          refine Go.s_icmpYes X74 hx (hb hby d9_102) (q := 120) (by decide) (by decide) (flt (by decide : ¬ ((1 : Int32) < (1 : Int32)))).2.2.2 ?_
          refine Go.s_iloadN X74 hx (hb hby d9_120) (q := 121) rfl rfl ?_
          refine Go.s_iconst X74 hx (hb hby d9_121) (q := 122) rfl (z := 1) rfl ?_
          refine Go.s_ishr X74 hx (hb hby d9_122) (q := 123) rfl ?_
          rw [(by decide : ((1 : Int32) >>> ((1 : Int32) &&& 31)) = (0 : Int32))]
          refine Go.s_istoreN X74 hx (hb hby d9_123) (q := 124) rfl (l' := #[.val (.ref A0), .val (.int (0 : Int32)), .val (.int I3), .val (.int (0 : Int32)), .val (.int y3), .val (.int (0 : Int32))]) rfl ?_
          refine Go.s_goto X74 hx (hb hby d9_124) (q := 76) (by decide) (by decide) ?_
          refine Go.s_iloadN X74 hx (hb hby d9_76) (q := 77) rfl rfl ?_
          refine Go.s_iconst X74 hx (hb hby d9_77) (q := 78) rfl (z := 1) rfl ?_
          refine Go.s_icmpYes X74 hx (hb hby d9_78) (q := 127) (by decide) (by decide) (tlt (by decide : (0 : Int32) < (1 : Int32))).1 ?_
          refine Go.retV X74 hx hlk hret (hb hby d9_127) (by decide) (by decide) ?_
          try rw [e74]
          exact ⟨rfl, N74, fact_K_v76, U47_v82, U74⟩
  · -- pc 26: not y5 = y3
    refine Go.s_icmpYes X4 hx (hb hby d9_26) (q := 39) (by decide) (by decide) (feq c26_6).2 ?_
    refine Go.s_iconst X4 hx (hb hby d9_39) (q := 40) rfl (z := 0) rfl ?_
    refine Go.s_istore X4 hx (hb hby d9_40) (q := 42) rfl (l' := #[.val (.ref A0), .val (.int (0 : Int32)), .val (.int I3), .val (.int (1 : Int32)), .val (.int y3), .val (.int (0 : Int32))]) rfl ?_
    refine Go.s_aloadN X4 hx (hb hby d9_42) (q := 43) rfl rfl rfl ?_
    refine Go.getF X4 hx hZ hown (w_ hw 20 rfl) Via.refl e4 P3 (hb hby d9_43) ?_
    intro T83 X83 e83
    show Go p e below _ T83 (mkF m 46 #[.val (.ref A0), .val (.int (0 : Int32)), .val (.int I3), .val (.int (1 : Int32)), .val (.int y3), .val (.int (0 : Int32))] [(.ref A1)])
    refine Go.s_iloadN X83 hx (hb hby d9_46) (q := 47) rfl rfl ?_
    refine Go.s_iloadN X83 hx (hb hby d9_47) (q := 48) rfl rfl ?_
    refine Go.stU X83 hx hZ e83 P5 (by decide) (by decide) (hb hby d9_48) ?_
    intro T84 h84 X84 e84 W84 U84
    have N84 := Fr.snoc X84 (Fr.nil n0) P11
    have Z0_v85 := Nat.le_trans Z0 (Keep.of_wr W84).1
    have fact_K_v86 := (Keep.refl h0 [A1, A2]).wr W84 (Or.inl (by simp))
    have P0_v87 := P0.wr W84
    have P1_v88 := P1.other W84 (Or.inl P7)
    have P2_v89 := P2.other W84 (Or.inl P7)
    have P3_v90 := P3.other W84 (Or.inl P7)
    have P4_v91 := P4.other W84 (Or.inl P7)
    have P6_v92 := P6.other W84 (Ne.symm P9)
    show Go p e below _ T84 (mkF m 49 #[.val (.ref A0), .val (.int (0 : Int32)), .val (.int I3), .val (.int (1 : Int32)), .val (.int y3), .val (.int (0 : Int32))] [])
    refine Go.s_iloadN X84 hx (hb hby d9_49) (q := 50) rfl rfl ?_
    refine Go.s_iload X84 hx (hb hby d9_50) (q := 52) rfl rfl ?_
    by_cases c52_93 : y3 < I3
    · -- pc 52: y3 < I3
      refine Go.s_icmpNo X84 hx (hb hby d9_52) (q := 55) rfl (tlt c52_93).2.2.2 ?_
      refine Go.s_iloadN X84 hx (hb hby d9_55) (q := 56) rfl rfl ?_
      refine Go.s_istore X84 hx (hb hby d9_56) (q := 58) rfl (l' := #[.val (.ref A0), .val (.int (0 : Int32)), .val (.int I3), .val (.int (1 : Int32)), .val (.int I3), .val (.int (0 : Int32))]) rfl ?_
      refine Go.s_goto X84 hx (hb hby d9_58) (q := 76) (by decide) (by decide) ?_
      refine Go.s_iloadN X84 hx (hb hby d9_76) (q := 77) rfl rfl ?_
      refine Go.s_iconst X84 hx (hb hby d9_77) (q := 78) rfl (z := 1) rfl ?_
      refine Go.s_icmpNo X84 hx (hb hby d9_78) (q := 81) rfl (flt (by decide : ¬ ((1 : Int32) < (1 : Int32)))).1 ?_
      refine Go.s_aloadN X84 hx (hb hby d9_81) (q := 82) rfl rfl rfl ?_
      refine Go.getF X84 hx hZ hown (w_ hw 24 rfl) Via.refl e84 P2_v89 (hb hby d9_82) ?_
      intro T94 X94 e94
      show Go p e below _ T94 (mkF m 85 #[.val (.ref A0), .val (.int (0 : Int32)), .val (.int I3), .val (.int (1 : Int32)), .val (.int I3), .val (.int (0 : Int32))] [(.ref A2)])
      refine Go.s_iloadN X94 hx (hb hby d9_85) (q := 86) rfl rfl ?_
      refine Go.ldU X94 hx hZ e94 P6_v92 (by decide) (by decide) (hb hby d9_86) ?_
      intro y95
      show Go p e below _ T94 (mkF m 87 #[.val (.ref A0), .val (.int (0 : Int32)), .val (.int I3), .val (.int (1 : Int32)), .val (.int I3), .val (.int (0 : Int32))] [(.int y95)])
      refine Go.s_iload X94 hx (hb hby d9_87) (q := 89) rfl rfl ?_
      by_cases c89_96 : y95 = I3
      · -- pc 89: y95 = I3
        refine Go.s_icmpYes X94 hx (hb hby d9_89) (q := 127) (by decide) (by decide) (teq c89_96).1 ?_
        refine Go.retV X94 hx hlk hret (hb hby d9_127) (by decide) (by decide) ?_
        try rw [e94]
        exact ⟨rfl, N84, fact_K_v86, U84, P6_v92⟩
      · -- pc 89: not y95 = I3
        refine Go.s_icmpNo X94 hx (hb hby d9_89) (q := 92) rfl (feq c89_96).1 ?_
        refine Go.s_aloadN X94 hx (hb hby d9_92) (q := 93) rfl rfl rfl ?_
        refine Go.getF X94 hx hZ hown (w_ hw 24 rfl) Via.refl e94 P2_v89 (hb hby d9_93) ?_
        intro T97 X97 e97
        show Go p e below _ T97 (mkF m 96 #[.val (.ref A0), .val (.int (0 : Int32)), .val (.int I3), .val (.int (1 : Int32)), .val (.int I3), .val (.int (0 : Int32))] [(.ref A2)])
        refine Go.s_iloadN X97 hx (hb hby d9_96) (q := 97) rfl rfl ?_
        refine Go.s_iload X97 hx (hb hby d9_97) (q := 99) rfl rfl ?_
        refine Go.stU X97 hx hZ e97 P6_v92 (by decide) (by decide) (hb hby d9_99) ?_
        intro T98 h98 X98 e98 W98 U98
        have N98 := Fr.snoc X98 N84 P12
        have Z0_v99 := Nat.le_trans Z0_v85 (Keep.of_wr W98).1
        have fact_K_v100 := fact_K_v86.wr W98 (Or.inl (by simp))
        have P0_v101 := P0_v87.wr W98
        have P1_v102 := P1_v88.other W98 (Or.inl P8)
        have P2_v103 := P2_v89.other W98 (Or.inl P8)
        have P3_v104 := P3_v90.other W98 (Or.inl P8)
        have P4_v105 := P4_v91.other W98 (Or.inl P8)
        have U84_v106 := U84.other W98 P9
        show Go p e below _ T98 (mkF m 100 #[.val (.ref A0), .val (.int (0 : Int32)), .val (.int I3), .val (.int (1 : Int32)), .val (.int I3), .val (.int (0 : Int32))] [])
        refine Go.s_iloadN X98 hx (hb hby d9_100) (q := 101) rfl rfl ?_
        refine Go.s_iconst X98 hx (hb hby d9_101) (q := 102) rfl (z := 1) rfl ?_
        refine Go.s_icmpYes X98 hx (hb hby d9_102) (q := 120) (by decide) (by decide) (flt (by decide : ¬ ((1 : Int32) < (1 : Int32)))).2.2.2 ?_
        refine Go.s_iloadN X98 hx (hb hby d9_120) (q := 121) rfl rfl ?_
        refine Go.s_iconst X98 hx (hb hby d9_121) (q := 122) rfl (z := 1) rfl ?_
        refine Go.s_ishr X98 hx (hb hby d9_122) (q := 123) rfl ?_
        rw [(by decide : ((1 : Int32) >>> ((1 : Int32) &&& 31)) = (0 : Int32))]
        refine Go.s_istoreN X98 hx (hb hby d9_123) (q := 124) rfl (l' := #[.val (.ref A0), .val (.int (0 : Int32)), .val (.int I3), .val (.int (0 : Int32)), .val (.int I3), .val (.int (0 : Int32))]) rfl ?_
        refine Go.s_goto X98 hx (hb hby d9_124) (q := 76) (by decide) (by decide) ?_
        refine Go.s_iloadN X98 hx (hb hby d9_76) (q := 77) rfl rfl ?_
        refine Go.s_iconst X98 hx (hb hby d9_77) (q := 78) rfl (z := 1) rfl ?_
        refine Go.s_icmpYes X98 hx (hb hby d9_78) (q := 127) (by decide) (by decide) (tlt (by decide : (0 : Int32) < (1 : Int32))).1 ?_
        refine Go.retV X98 hx hlk hret (hb hby d9_127) (by decide) (by decide) ?_
        try rw [e98]
        exact ⟨rfl, N98, fact_K_v100, U84_v106, U98⟩
    · -- pc 52: not y3 < I3
      refine Go.s_icmpYes X84 hx (hb hby d9_52) (q := 61) (by decide) (by decide) (flt c52_93).2.2.2 ?_
      refine Go.s_iload X84 hx (hb hby d9_61) (q := 63) rfl rfl ?_
      refine Go.s_ifYes X84 hx (hb hby d9_63) (q := 76) (by decide) (by decide) ((if0 _ _).trans (teq (by decide : (0 : Int32) = (0 : Int32))).1) ?_
      refine Go.s_iloadN X84 hx (hb hby d9_76) (q := 77) rfl rfl ?_
      refine Go.s_iconst X84 hx (hb hby d9_77) (q := 78) rfl (z := 1) rfl ?_
      refine Go.s_icmpNo X84 hx (hb hby d9_78) (q := 81) rfl (flt (by decide : ¬ ((1 : Int32) < (1 : Int32)))).1 ?_
      refine Go.s_aloadN X84 hx (hb hby d9_81) (q := 82) rfl rfl rfl ?_
      refine Go.getF X84 hx hZ hown (w_ hw 24 rfl) Via.refl e84 P2_v89 (hb hby d9_82) ?_
      intro T107 X107 e107
      show Go p e below _ T107 (mkF m 85 #[.val (.ref A0), .val (.int (0 : Int32)), .val (.int I3), .val (.int (1 : Int32)), .val (.int y3), .val (.int (0 : Int32))] [(.ref A2)])
      refine Go.s_iloadN X107 hx (hb hby d9_85) (q := 86) rfl rfl ?_
      refine Go.ldU X107 hx hZ e107 P6_v92 (by decide) (by decide) (hb hby d9_86) ?_
      intro y108
      show Go p e below _ T107 (mkF m 87 #[.val (.ref A0), .val (.int (0 : Int32)), .val (.int I3), .val (.int (1 : Int32)), .val (.int y3), .val (.int (0 : Int32))] [(.int y108)])
      refine Go.s_iload X107 hx (hb hby d9_87) (q := 89) rfl rfl ?_
      by_cases c89_109 : y108 = y3
      · -- pc 89: y108 = y3
        refine Go.s_icmpYes X107 hx (hb hby d9_89) (q := 127) (by decide) (by decide) (teq c89_109).1 ?_
        refine Go.retV X107 hx hlk hret (hb hby d9_127) (by decide) (by decide) ?_
        try rw [e107]
        exact ⟨rfl, N84, fact_K_v86, U84, P6_v92⟩
      · -- pc 89: not y108 = y3
        refine Go.s_icmpNo X107 hx (hb hby d9_89) (q := 92) rfl (feq c89_109).1 ?_
        refine Go.s_aloadN X107 hx (hb hby d9_92) (q := 93) rfl rfl rfl ?_
        refine Go.getF X107 hx hZ hown (w_ hw 24 rfl) Via.refl e107 P2_v89 (hb hby d9_93) ?_
        intro T110 X110 e110
        show Go p e below _ T110 (mkF m 96 #[.val (.ref A0), .val (.int (0 : Int32)), .val (.int I3), .val (.int (1 : Int32)), .val (.int y3), .val (.int (0 : Int32))] [(.ref A2)])
        refine Go.s_iloadN X110 hx (hb hby d9_96) (q := 97) rfl rfl ?_
        refine Go.s_iload X110 hx (hb hby d9_97) (q := 99) rfl rfl ?_
        refine Go.stU X110 hx hZ e110 P6_v92 (by decide) (by decide) (hb hby d9_99) ?_
        intro T111 h111 X111 e111 W111 U111
        have N111 := Fr.snoc X111 N84 P12
        have Z0_v112 := Nat.le_trans Z0_v85 (Keep.of_wr W111).1
        have fact_K_v113 := fact_K_v86.wr W111 (Or.inl (by simp))
        have P0_v114 := P0_v87.wr W111
        have P1_v115 := P1_v88.other W111 (Or.inl P8)
        have P2_v116 := P2_v89.other W111 (Or.inl P8)
        have P3_v117 := P3_v90.other W111 (Or.inl P8)
        have P4_v118 := P4_v91.other W111 (Or.inl P8)
        have U84_v119 := U84.other W111 P9
        show Go p e below _ T111 (mkF m 100 #[.val (.ref A0), .val (.int (0 : Int32)), .val (.int I3), .val (.int (1 : Int32)), .val (.int y3), .val (.int (0 : Int32))] [])
        refine Go.s_iloadN X111 hx (hb hby d9_100) (q := 101) rfl rfl ?_
        refine Go.s_iconst X111 hx (hb hby d9_101) (q := 102) rfl (z := 1) rfl ?_
        refine Go.s_icmpYes X111 hx (hb hby d9_102) (q := 120) (by decide) (by decide) (flt (by decide : ¬ ((1 : Int32) < (1 : Int32)))).2.2.2 ?_
        refine Go.s_iloadN X111 hx (hb hby d9_120) (q := 121) rfl rfl ?_
        refine Go.s_iconst X111 hx (hb hby d9_121) (q := 122) rfl (z := 1) rfl ?_
        refine Go.s_ishr X111 hx (hb hby d9_122) (q := 123) rfl ?_
        rw [(by decide : ((1 : Int32) >>> ((1 : Int32) &&& 31)) = (0 : Int32))]
        refine Go.s_istoreN X111 hx (hb hby d9_123) (q := 124) rfl (l' := #[.val (.ref A0), .val (.int (0 : Int32)), .val (.int I3), .val (.int (0 : Int32)), .val (.int y3), .val (.int (0 : Int32))]) rfl ?_
        refine Go.s_goto X111 hx (hb hby d9_124) (q := 76) (by decide) (by decide) ?_
        refine Go.s_iloadN X111 hx (hb hby d9_76) (q := 77) rfl rfl ?_
        refine Go.s_iconst X111 hx (hb hby d9_77) (q := 78) rfl (z := 1) rfl ?_
        refine Go.s_icmpYes X111 hx (hb hby d9_78) (q := 127) (by decide) (by decide) (tlt (by decide : (0 : Int32) < (1 : Int32))).1 ?_
        refine Go.retV X111 hx hlk hret (hb hby d9_127) (by decide) (by decide) ?_
        try rw [e111]
        exact ⟨rfl, N111, fact_K_v113, U84_v119, U111⟩
theorem ef_add_10 (m : MethodId) (x0 : Addr) (x1 : Addr) : entryFrame m #[(.ref x0), (.ref x1)] 2 = mkF m 0 #[.val (.ref x0), .val (.ref x1)] [] := by first | (simp [entryFrame, mkF, argsToLocals, Value.category]; done) | rfl
set_option maxRecDepth 65536 in
set_option maxHeartbeats 40000000 in
theorem rm_add_10 (l : Launch) (Z : State) (a0 : Array Value) (hw : ∀ d ∈ tables_1, d.before a0 Z = true)  (A0 : Addr) (A1 : Addr) (A2 : Addr) (A3 : Addr) (A4 : Addr) (I5 : Int32) (k6 : ClassId) (h0 : Heap) (n0 : Nat) (Z0 : n0 ≤ h0.size) (P0 : Exa Z h0 A0 "com/example/pennybreak/pennybreak/simplebook/OrderQueue") (P1 : Exa Z h0 A4 "com/example/pennybreak/pennybreak/simplebook/RestingOrder") (P2 : Fld Z h0 A0 "com/example/pennybreak/pennybreak/simplebook/OrderQueue" "blocks" "I" (.int (1 : Int32))) (P3 : Fld Z h0 A0 "com/example/pennybreak/pennybreak/simplebook/OrderQueue" "count" "I" (.int (0 : Int32))) (P4 : Fld Z h0 A0 "com/example/pennybreak/pennybreak/simplebook/OrderQueue" "front" "I" (.int (0 : Int32))) (P5 : Fld Z h0 A0 "com/example/pennybreak/pennybreak/simplebook/OrderQueue" "largest" "[I" (.ref A3)) (P6 : Fld Z h0 A0 "com/example/pennybreak/pennybreak/simplebook/OrderQueue" "open" "J" (.long (0 : Int64))) (P7 : Fld Z h0 A0 "com/example/pennybreak/pennybreak/simplebook/OrderQueue" "sizes" "[I" (.ref A2)) (P8 : Fld Z h0 A0 "com/example/pennybreak/pennybreak/simplebook/OrderQueue" "slots" "[Lcom/example/pennybreak/pennybreak/simplebook/RestingOrder;" (.ref A1)) (P9 : Fld Z h0 A0 "com/example/pennybreak/pennybreak/simplebook/OrderQueue" "used" "I" (.int (0 : Int32))) (P10 : Fld Z h0 A4 "com/example/pennybreak/pennybreak/simplebook/RestingOrder" "openSize" "I" (.int I5)) (P11 : Fld Z h0 A4 "com/example/pennybreak/pennybreak/simplebook/RestingOrder" "slot" "I" (.int (0 : Int32))) (P12 : Arv Z h0 A1 k6 (.object "com/example/pennybreak/pennybreak/simplebook/RestingOrder") (0 : Int32) [] .null) (P13 : UA Z h0 A2 0) (P14 : UA Z h0 A3 0) (P15 : Ovr Z k6 "com/example/pennybreak/pennybreak/simplebook/RestingOrder") (P16 : A0 ≠ A1) (P17 : A0 ≠ A2) (P18 : A0 ≠ A3) (P19 : A0 ≠ A4) (P20 : A1 ≠ A2) (P21 : A1 ≠ A3) (P22 : A1 ≠ A4) (P23 : A2 ≠ A3) (P24 : A2 ≠ A4) (P25 : A3 ≠ A4) (P26 : n0 ≤ A0) (P27 : n0 ≤ A1) (P28 : n0 ≤ A2) (P29 : n0 ≤ A3) (P30 : n0 ≤ A4) :
    Ct l mn_6 prog_98_method_2_code 2 none ({ frames := 3, cells := 3, slots := 10, locals := 60 } : Room) Z h0 #[(.ref A0), (.ref A4)] (fun v h L => ∃ B0 : Addr, ∃ B1 : Addr, ∃ B2 : Addr, ∃ w3 : Int64, ∃ kk4 : ClassId, v = none ∧ Fr n0 L ∧ Keep h0 h [A0, A4] ∧ h0.size ≤ B0 ∧ h0.size ≤ B1 ∧ h0.size ≤ B2 ∧ Exa Z h A0 "com/example/pennybreak/pennybreak/simplebook/OrderQueue" ∧ Exa Z h A4 "com/example/pennybreak/pennybreak/simplebook/RestingOrder" ∧ Fld Z h A0 "com/example/pennybreak/pennybreak/simplebook/OrderQueue" "blocks" "I" (.int (1 : Int32)) ∧ Fld Z h A0 "com/example/pennybreak/pennybreak/simplebook/OrderQueue" "count" "I" (.int (1 : Int32)) ∧ Fld Z h A0 "com/example/pennybreak/pennybreak/simplebook/OrderQueue" "front" "I" (.int (0 : Int32)) ∧ Fld Z h A0 "com/example/pennybreak/pennybreak/simplebook/OrderQueue" "largest" "[I" (.ref B2) ∧ Fld Z h A0 "com/example/pennybreak/pennybreak/simplebook/OrderQueue" "open" "J" (.long w3) ∧ Fld Z h A0 "com/example/pennybreak/pennybreak/simplebook/OrderQueue" "sizes" "[I" (.ref B1) ∧ Fld Z h A0 "com/example/pennybreak/pennybreak/simplebook/OrderQueue" "slots" "[Lcom/example/pennybreak/pennybreak/simplebook/RestingOrder;" (.ref B0) ∧ Fld Z h A0 "com/example/pennybreak/pennybreak/simplebook/OrderQueue" "used" "I" (.int (1 : Int32)) ∧ Fld Z h A4 "com/example/pennybreak/pennybreak/simplebook/RestingOrder" "openSize" "I" (.int I5) ∧ Fld Z h A4 "com/example/pennybreak/pennybreak/simplebook/RestingOrder" "slot" "I" (.int (0 : Int32)) ∧ Arv Z h B0 kk4 (.object "com/example/pennybreak/pennybreak/simplebook/RestingOrder") (4 : Int32) [(.ref A4), .null, .null, .null] .null ∧ UA Z h B1 4 ∧ UA Z h B2 2 ∧ Ovr Z kk4 "com/example/pennybreak/pennybreak/simplebook/RestingOrder" ∧ B1 ≠ B0 ∧ B1 ≠ B2 ∧ B2 ≠ B0) := by
  refine Ct.body (plainFor_of_name pn_com_example_pennybreak_pennybreak_simplebook_OrderQueue) ?_
  intro p e s m below meth c T0 hx hby hml hown hnm hret hlk hZ X0 e0
  refine Go.cast (ef_add_10 m A0 A4) ?_
  show Go p e below _ T0 (mkF m 0 #[.val (.ref A0), .val (.ref A4)] [])
  refine Go.s_aloadN X0 hx (hb hby d6_0) (q := 1) rfl rfl rfl ?_
  refine Go.getF X0 hx hZ hown (w_ hw 47 rfl) Via.refl e0 P9 (hb hby d6_1) ?_
  intro T1 X1 e1
  show Go p e below _ T1 (mkF m 4 #[.val (.ref A0), .val (.ref A4)] [(.int (0 : Int32))])
  refine Go.s_aloadN X1 hx (hb hby d6_4) (q := 5) rfl rfl rfl ?_
  refine Go.getF X1 hx hZ hown (w_ hw 17 rfl) Via.refl e1 P8 (hb hby d6_5) ?_
  intro T2 X2 e2
  show Go p e below _ T2 (mkF m 8 #[.val (.ref A0), .val (.ref A4)] [(.ref A1), (.int (0 : Int32))])
  refine Go.len X2 hx hZ e2 P12 (hb hby d6_8) ?_
  show Go p e below _ T2 (mkF m 9 #[.val (.ref A0), .val (.ref A4)] [(.int (0 : Int32)), (.int (0 : Int32))])
  refine Go.s_icmpNo X2 hx (hb hby d6_9) (q := 12) rfl (teq (by decide : (0 : Int32) = (0 : Int32))).2 ?_
  refine Go.s_aloadN X2 hx (hb hby d6_12) (q := 13) rfl rfl rfl ?_
  refine Go.callP (y := mn_7) X2 hx hZ hown (w_ hw 54 rfl) (w_ hw 55 rfl) (w_ hw 56 rfl) (w_ hw 7 rfl) (w_ hw 57 rfl) (w_ hw 8 rfl) (by decide) e2 P0 (argsL := []) (rest := []) (rm_reslot_11 l Z a0 hw A0 A1 A2 A3 k6 h0 n0 Z0 P0 P2 P3 P4 P5 P6 P7 P8 P9 P12 P13 P14 P15 P16 P17 P18 P20 P21 P23 P26 P27 P28 P29) (by rw [hml]; rfl) (lenOf pd_0 rfl) rfl (hb hby d6_13) (by decide) (by decide) (by decide) (by decide) ?_
  intro r3 T3 L3 q3 X3
  obtain ⟨b0_3, b1_3, b2_3, kk3_3, rfl, N3q, K3, sz_b0_3, sz_b1_3, sz_b2_3, f3_0, f3_1, f3_2, f3_3, f3_4, f3_5, f3_6, f3_7, f3_8, f3_9, f3_10, f3_11, f3_12, f3_13, f3_14, f3_15⟩ := q3
  have N3 := Fr.app (Fr.nil n0) N3q
  have ne_A0_b0_3 : A0 ≠ b0_3 := Nat.ne_of_lt (Nat.lt_of_lt_of_le P0.lt sz_b0_3)
  have ne_A4_b0_3 : A4 ≠ b0_3 := Nat.ne_of_lt (Nat.lt_of_lt_of_le P1.lt sz_b0_3)
  have ne_A1_b0_3 : A1 ≠ b0_3 := Nat.ne_of_lt (Nat.lt_of_lt_of_le P12.lt sz_b0_3)
  have ne_A2_b0_3 : A2 ≠ b0_3 := Nat.ne_of_lt (Nat.lt_of_lt_of_le P13.lt sz_b0_3)
  have ne_A3_b0_3 : A3 ≠ b0_3 := Nat.ne_of_lt (Nat.lt_of_lt_of_le P14.lt sz_b0_3)
  have g_b0_3 : n0 ≤ b0_3 := Nat.le_trans Z0 sz_b0_3
  have szz_b0_3 : h0.size ≤ b0_3 := Nat.le_trans (Keep.refl h0 [A0, A4]).1 sz_b0_3
  have ne_A0_b1_3 : A0 ≠ b1_3 := Nat.ne_of_lt (Nat.lt_of_lt_of_le P0.lt sz_b1_3)
  have ne_A4_b1_3 : A4 ≠ b1_3 := Nat.ne_of_lt (Nat.lt_of_lt_of_le P1.lt sz_b1_3)
  have ne_A1_b1_3 : A1 ≠ b1_3 := Nat.ne_of_lt (Nat.lt_of_lt_of_le P12.lt sz_b1_3)
  have ne_A2_b1_3 : A2 ≠ b1_3 := Nat.ne_of_lt (Nat.lt_of_lt_of_le P13.lt sz_b1_3)
  have ne_A3_b1_3 : A3 ≠ b1_3 := Nat.ne_of_lt (Nat.lt_of_lt_of_le P14.lt sz_b1_3)
  have g_b1_3 : n0 ≤ b1_3 := Nat.le_trans Z0 sz_b1_3
  have szz_b1_3 : h0.size ≤ b1_3 := Nat.le_trans (Keep.refl h0 [A0, A4]).1 sz_b1_3
  have ne_A0_b2_3 : A0 ≠ b2_3 := Nat.ne_of_lt (Nat.lt_of_lt_of_le P0.lt sz_b2_3)
  have ne_A4_b2_3 : A4 ≠ b2_3 := Nat.ne_of_lt (Nat.lt_of_lt_of_le P1.lt sz_b2_3)
  have ne_A1_b2_3 : A1 ≠ b2_3 := Nat.ne_of_lt (Nat.lt_of_lt_of_le P12.lt sz_b2_3)
  have ne_A2_b2_3 : A2 ≠ b2_3 := Nat.ne_of_lt (Nat.lt_of_lt_of_le P13.lt sz_b2_3)
  have ne_A3_b2_3 : A3 ≠ b2_3 := Nat.ne_of_lt (Nat.lt_of_lt_of_le P14.lt sz_b2_3)
  have g_b2_3 : n0 ≤ b2_3 := Nat.le_trans Z0 sz_b2_3
  have szz_b2_3 : h0.size ≤ b2_3 := Nat.le_trans (Keep.refl h0 [A0, A4]).1 sz_b2_3
  have Z0_v4 := Nat.le_trans Z0 K3.1
  have fact_K_v5 := Keep.trans (Keep.refl h0 [A0, A4]) K3 (allS (Or.inl (by simp)) all0)
  have P1_v6 := P1.keep K3
  have P10_v7 := P10.keep K3 (ninS (Ne.symm P19) nin0)
  have P11_v8 := P11.keep K3 (ninS (Ne.symm P19) nin0)
  have P12_v9 := P12.keep K3 (ninS (Ne.symm P16) nin0)
  have P13_v10 := P13.keep K3 (ninS (Ne.symm P17) nin0)
  have P14_v11 := P14.keep K3 (ninS (Ne.symm P18) nin0)
  show Go p e below _ T3 (mkF m 16 #[.val (.ref A0), .val (.ref A4)] [])
  refine Go.s_aloadN X3 hx (hb hby d6_16) (q := 17) rfl rfl rfl ?_
  refine Go.s_aloadN X3 hx (hb hby d6_17) (q := 18) rfl rfl rfl ?_
  refine Go.s_dup X3 hx (hb hby d6_18) (q := 19) rfl rfl ?_
  refine Go.getF X3 hx hZ hown (w_ hw 47 rfl) Via.refl rfl f3_8 (hb hby d6_19) ?_
  intro T12 X12 e12
  show Go p e below _ T12 (mkF m 22 #[.val (.ref A0), .val (.ref A4)] [(.int (0 : Int32)), (.ref A0), (.ref A4)])
  refine Go.s_dup_x1 X12 hx (hb hby d6_22) (q := 23) rfl rfl rfl ?_
  refine Go.s_iconst X12 hx (hb hby d6_23) (q := 24) rfl (z := 1) rfl ?_
  refine Go.s_iadd X12 hx (hb hby d6_24) (q := 25) rfl ?_
  rw [(by decide : ((0 : Int32) + (1 : Int32)) = (1 : Int32))]
  refine Go.putF X12 hx hZ hown (w_ hw 47 rfl) Via.refl e12 f3_8 f3_0 (Or.inl (w_ hw 48 rfl)) (w_ hw 7 rfl) (ty := .int) (by decide) rfl rfl (hb hby d6_25) ?_
  intro T13 h13 X13 e13 W13
  have N13 := Fr.snoc X13 N3 P26
  have Z0_v14 := Nat.le_trans Z0_v4 (Keep.of_wr W13).1
  have fact_K_v15 := fact_K_v5.wr W13 (Or.inl (by simp))
  have P1_v16 := P1_v6.wr W13
  have P10_v17 := P10_v7.other W13 (Or.inl (Ne.symm P19))
  have P11_v18 := P11_v8.other W13 (Or.inl (Ne.symm P19))
  have P12_v19 := P12_v9.other W13 (Ne.symm P16)
  have P13_v20 := P13_v10.other W13 (Ne.symm P17)
  have P14_v21 := P14_v11.other W13 (Ne.symm P18)
  have f3_0_v22 := f3_0.wr W13
  have f3_1_v23 := f3_1.other W13 (Or.inr (slot_ne (Or.inl (w_ hw 23 rfl)) (Or.inl (w_ hw 48 rfl)) (by decide) (t := .int) (t' := .int) (by decide) (by decide)))
  have f3_2_v24 := f3_2.other W13 (Or.inr (slot_ne (Or.inl (w_ hw 59 rfl)) (Or.inl (w_ hw 48 rfl)) (by decide) (t := .int) (t' := .int) (by decide) (by decide)))
  have f3_3_v25 := f3_3.other W13 (Or.inr (slot_ne (Or.inl (w_ hw 65 rfl)) (Or.inl (w_ hw 48 rfl)) (by decide) (t := .int) (t' := .int) (by decide) (by decide)))
  have f3_4_v26 := f3_4.other W13 (Or.inr (slot_ne (Or.inl (w_ hw 25 rfl)) (Or.inl (w_ hw 48 rfl)) (by decide) (t := (.array .int)) (t' := .int) (by decide) (by decide)))
  have f3_5_v27 := f3_5.other W13 (Or.inr (slot_ne (Or.inl (w_ hw 68 rfl)) (Or.inl (w_ hw 48 rfl)) (by decide) (t := .long) (t' := .int) (by decide) (by decide)))
  have f3_6_v28 := f3_6.other W13 (Or.inr (slot_ne (Or.inl (w_ hw 21 rfl)) (Or.inl (w_ hw 48 rfl)) (by decide) (t := (.array .int)) (t' := .int) (by decide) (by decide)))
  have f3_7_v29 := f3_7.other W13 (Or.inr (slot_ne (Or.inl (w_ hw 18 rfl)) (Or.inl (w_ hw 48 rfl)) (by decide) (t := (.array (.object "com/example/pennybreak/pennybreak/simplebook/RestingOrder"))) (t' := .int) (by decide) (by decide)))
  have f3_9_v30 := f3_9.other W13 (Ne.symm ne_A0_b2_3)
  have f3_10_v31 := f3_10.other W13 (Ne.symm ne_A0_b0_3)
  have f3_11_v32 := f3_11.other W13 (Ne.symm ne_A0_b1_3)
  have F_used_A0_v33 := f3_8.same W13
  show Go p e below _ T13 (mkF m 28 #[.val (.ref A0), .val (.ref A4)] [(.int (0 : Int32)), (.ref A4)])
  refine Go.putF X13 hx hZ hown (w_ hw 45 rfl) Via.refl e13 P11_v18 P1_v16 (Or.inl (w_ hw 46 rfl)) (w_ hw 27 rfl) (ty := .int) (by decide) rfl rfl (hb hby d6_28) ?_
  intro T34 h34 X34 e34 W34
  have N34 := Fr.snoc X34 N13 P30
  have Z0_v35 := Nat.le_trans Z0_v14 (Keep.of_wr W34).1
  have fact_K_v36 := fact_K_v15.wr W34 (Or.inl (by simp))
  have P1_v37 := P1_v16.wr W34
  have P10_v38 := P10_v17.other W34 (Or.inr (slot_ne (Or.inl (w_ hw 38 rfl)) (Or.inl (w_ hw 46 rfl)) (by decide) (t := .int) (t' := .int) (by decide) (by decide)))
  have P12_v39 := P12_v19.other W34 P22
  have P13_v40 := P13_v20.other W34 P24
  have P14_v41 := P14_v21.other W34 P25
  have f3_0_v42 := f3_0_v22.wr W34
  have f3_1_v43 := f3_1_v23.other W34 (Or.inl P19)
  have f3_2_v44 := f3_2_v24.other W34 (Or.inl P19)
  have f3_3_v45 := f3_3_v25.other W34 (Or.inl P19)
  have f3_4_v46 := f3_4_v26.other W34 (Or.inl P19)
  have f3_5_v47 := f3_5_v27.other W34 (Or.inl P19)
  have f3_6_v48 := f3_6_v28.other W34 (Or.inl P19)
  have f3_7_v49 := f3_7_v29.other W34 (Or.inl P19)
  have f3_9_v50 := f3_9_v30.other W34 (Ne.symm ne_A4_b2_3)
  have f3_10_v51 := f3_10_v31.other W34 (Ne.symm ne_A4_b0_3)
  have f3_11_v52 := f3_11_v32.other W34 (Ne.symm ne_A4_b1_3)
  have F_used_A0_v53 := F_used_A0_v33.other W34 (Or.inl P19)
  have F_slot_A4_v54 := P11_v18.same W34
  show Go p e below _ T34 (mkF m 31 #[.val (.ref A0), .val (.ref A4)] [])
  refine Go.s_aloadN X34 hx (hb hby d6_31) (q := 32) rfl rfl rfl ?_
  refine Go.getF X34 hx hZ hown (w_ hw 17 rfl) Via.refl e34 f3_7_v49 (hb hby d6_32) ?_
  intro T55 X55 e55
  show Go p e below _ T55 (mkF m 35 #[.val (.ref A0), .val (.ref A4)] [(.ref b2_3)])
  refine Go.s_aloadN X55 hx (hb hby d6_35) (q := 36) rfl rfl rfl ?_
  refine Go.getF X55 hx hZ hown (w_ hw 45 rfl) Via.refl e55 F_slot_A4_v54 (hb hby d6_36) ?_
  intro T56 X56 e56
  show Go p e below _ T56 (mkF m 39 #[.val (.ref A0), .val (.ref A4)] [(.int (0 : Int32)), (.ref b2_3)])
  refine Go.s_aloadN X56 hx (hb hby d6_39) (q := 40) rfl rfl rfl ?_
  refine Go.stR X56 hx hZ e56 f3_9_v50 ⟨by decide, by decide⟩ (sto_of f3_9_v50 f3_12 (Ins.self P1_v37)) rfl 0 rfl (by first | decide | exact Nat.le_of_ble_eq_true rfl) (hb hby d6_40) ?_
  intro T57 h57 X57 e57 W57 V57
  have N57 := Fr.snoc X57 N34 g_b2_3
  have Z0_v58 := Nat.le_trans Z0_v35 (Keep.of_wr W57).1
  have fact_K_v59 := fact_K_v36.wr W57 (Or.inr szz_b2_3)
  have P1_v60 := P1_v37.wr W57
  have P10_v61 := P10_v38.other W57 (Or.inl ne_A4_b2_3)
  have P12_v62 := P12_v39.other W57 ne_A1_b2_3
  have P13_v63 := P13_v40.other W57 ne_A2_b2_3
  have P14_v64 := P14_v41.other W57 ne_A3_b2_3
  have f3_0_v65 := f3_0_v42.wr W57
  have f3_1_v66 := f3_1_v43.other W57 (Or.inl ne_A0_b2_3)
  have f3_2_v67 := f3_2_v44.other W57 (Or.inl ne_A0_b2_3)
  have f3_3_v68 := f3_3_v45.other W57 (Or.inl ne_A0_b2_3)
  have f3_4_v69 := f3_4_v46.other W57 (Or.inl ne_A0_b2_3)
  have f3_5_v70 := f3_5_v47.other W57 (Or.inl ne_A0_b2_3)
  have f3_6_v71 := f3_6_v48.other W57 (Or.inl ne_A0_b2_3)
  have f3_7_v72 := f3_7_v49.other W57 (Or.inl ne_A0_b2_3)
  have f3_10_v73 := f3_10_v51.other W57 f3_14
  have f3_11_v74 := f3_11_v52.other W57 f3_15
  have F_used_A0_v75 := F_used_A0_v53.other W57 (Or.inl ne_A0_b2_3)
  have F_slot_A4_v76 := F_slot_A4_v54.other W57 (Or.inl ne_A4_b2_3)
  have V57_77 : Arv Z h57 b2_3 kk3_3 (.object "com/example/pennybreak/pennybreak/simplebook/RestingOrder") (4 : Int32) [(.ref A4), .null, .null, .null] .null := V57
  show Go p e below _ T57 (mkF m 41 #[.val (.ref A0), .val (.ref A4)] [])
  refine Go.s_aloadN X57 hx (hb hby d6_41) (q := 42) rfl rfl rfl ?_
  refine Go.s_dup X57 hx (hb hby d6_42) (q := 43) rfl rfl ?_
  refine Go.getF X57 hx hZ hown (w_ hw 58 rfl) Via.refl e57 f3_2_v67 (hb hby d6_43) ?_
  intro T78 X78 e78
  show Go p e below _ T78 (mkF m 46 #[.val (.ref A0), .val (.ref A4)] [(.int (0 : Int32)), (.ref A0)])
  refine Go.s_iconst X78 hx (hb hby d6_46) (q := 47) rfl (z := 1) rfl ?_
  refine Go.s_iadd X78 hx (hb hby d6_47) (q := 48) rfl ?_
  rw [(by decide : ((0 : Int32) + (1 : Int32)) = (1 : Int32))]
  refine Go.putF X78 hx hZ hown (w_ hw 58 rfl) Via.refl e78 f3_2_v67 f3_0_v65 (Or.inl (w_ hw 59 rfl)) (w_ hw 7 rfl) (ty := .int) (by decide) rfl rfl (hb hby d6_48) ?_
  intro T79 h79 X79 e79 W79
  have N79 := Fr.snoc X79 N57 P26
  have Z0_v80 := Nat.le_trans Z0_v58 (Keep.of_wr W79).1
  have fact_K_v81 := fact_K_v59.wr W79 (Or.inl (by simp))
  have P1_v82 := P1_v60.wr W79
  have P10_v83 := P10_v61.other W79 (Or.inl (Ne.symm P19))
  have P12_v84 := P12_v62.other W79 (Ne.symm P16)
  have P13_v85 := P13_v63.other W79 (Ne.symm P17)
  have P14_v86 := P14_v64.other W79 (Ne.symm P18)
  have f3_0_v87 := f3_0_v65.wr W79
  have f3_1_v88 := f3_1_v66.other W79 (Or.inr (slot_ne (Or.inl (w_ hw 23 rfl)) (Or.inl (w_ hw 59 rfl)) (by decide) (t := .int) (t' := .int) (by decide) (by decide)))
  have f3_3_v89 := f3_3_v68.other W79 (Or.inr (slot_ne (Or.inl (w_ hw 65 rfl)) (Or.inl (w_ hw 59 rfl)) (by decide) (t := .int) (t' := .int) (by decide) (by decide)))
  have f3_4_v90 := f3_4_v69.other W79 (Or.inr (slot_ne (Or.inl (w_ hw 25 rfl)) (Or.inl (w_ hw 59 rfl)) (by decide) (t := (.array .int)) (t' := .int) (by decide) (by decide)))
  have f3_5_v91 := f3_5_v70.other W79 (Or.inr (slot_ne (Or.inl (w_ hw 68 rfl)) (Or.inl (w_ hw 59 rfl)) (by decide) (t := .long) (t' := .int) (by decide) (by decide)))
  have f3_6_v92 := f3_6_v71.other W79 (Or.inr (slot_ne (Or.inl (w_ hw 21 rfl)) (Or.inl (w_ hw 59 rfl)) (by decide) (t := (.array .int)) (t' := .int) (by decide) (by decide)))
  have f3_7_v93 := f3_7_v72.other W79 (Or.inr (slot_ne (Or.inl (w_ hw 18 rfl)) (Or.inl (w_ hw 59 rfl)) (by decide) (t := (.array (.object "com/example/pennybreak/pennybreak/simplebook/RestingOrder"))) (t' := .int) (by decide) (by decide)))
  have f3_10_v94 := f3_10_v73.other W79 (Ne.symm ne_A0_b0_3)
  have f3_11_v95 := f3_11_v74.other W79 (Ne.symm ne_A0_b1_3)
  have F_used_A0_v96 := F_used_A0_v75.other W79 (Or.inr (slot_ne (Or.inl (w_ hw 48 rfl)) (Or.inl (w_ hw 59 rfl)) (by decide) (t := .int) (t' := .int) (by decide) (by decide)))
  have F_slot_A4_v97 := F_slot_A4_v76.other W79 (Or.inl (Ne.symm P19))
  have V57_77_v98 := V57_77.other W79 (Ne.symm ne_A0_b2_3)
  have F_count_A0_v99 := f3_2_v67.same W79
  show Go p e below _ T79 (mkF m 51 #[.val (.ref A0), .val (.ref A4)] [])
  refine Go.s_aloadN X79 hx (hb hby d6_51) (q := 52) rfl rfl rfl ?_
  refine Go.s_dup X79 hx (hb hby d6_52) (q := 53) rfl rfl ?_
  refine Go.getF X79 hx hZ hown (w_ hw 67 rfl) Via.refl e79 f3_5_v91 (hb hby d6_53) ?_
  intro T100 X100 e100
  show Go p e below _ T100 (mkF m 56 #[.val (.ref A0), .val (.ref A4)] [(.long (0 : Int64)), (.ref A0)])
  refine Go.s_aloadN X100 hx (hb hby d6_56) (q := 57) rfl rfl rfl ?_
  refine Go.getF X100 hx hZ hown (w_ hw 69 rfl) Via.refl e100 P10_v83 (hb hby d6_57) ?_
  intro T101 X101 e101
  show Go p e below _ T101 (mkF m 60 #[.val (.ref A0), .val (.ref A4)] [(.int I5), (.long (0 : Int64)), (.ref A0)])
  refine Go.s_i2l X101 hx (hb hby d6_60) (q := 61) rfl ?_
  refine Go.s_ladd X101 hx (hb hby d6_61) (q := 62) rfl ?_
  refine Go.putF X101 hx hZ hown (w_ hw 67 rfl) Via.refl e101 f3_5_v91 f3_0_v87 (Or.inl (w_ hw 68 rfl)) (w_ hw 7 rfl) (ty := .long) (by decide) rfl rfl (hb hby d6_62) ?_
  intro T102 h102 X102 e102 W102
  have N102 := Fr.snoc X102 N79 P26
  have Z0_v103 := Nat.le_trans Z0_v80 (Keep.of_wr W102).1
  have fact_K_v104 := fact_K_v81.wr W102 (Or.inl (by simp))
  have P1_v105 := P1_v82.wr W102
  have P10_v106 := P10_v83.other W102 (Or.inl (Ne.symm P19))
  have P12_v107 := P12_v84.other W102 (Ne.symm P16)
  have P13_v108 := P13_v85.other W102 (Ne.symm P17)
  have P14_v109 := P14_v86.other W102 (Ne.symm P18)
  have f3_0_v110 := f3_0_v87.wr W102
  have f3_1_v111 := f3_1_v88.other W102 (Or.inr (slot_ne (Or.inl (w_ hw 23 rfl)) (Or.inl (w_ hw 68 rfl)) (by decide) (t := .int) (t' := .long) (by decide) (by decide)))
  have f3_3_v112 := f3_3_v89.other W102 (Or.inr (slot_ne (Or.inl (w_ hw 65 rfl)) (Or.inl (w_ hw 68 rfl)) (by decide) (t := .int) (t' := .long) (by decide) (by decide)))
  have f3_4_v113 := f3_4_v90.other W102 (Or.inr (slot_ne (Or.inl (w_ hw 25 rfl)) (Or.inl (w_ hw 68 rfl)) (by decide) (t := (.array .int)) (t' := .long) (by decide) (by decide)))
  have f3_6_v114 := f3_6_v92.other W102 (Or.inr (slot_ne (Or.inl (w_ hw 21 rfl)) (Or.inl (w_ hw 68 rfl)) (by decide) (t := (.array .int)) (t' := .long) (by decide) (by decide)))
  have f3_7_v115 := f3_7_v93.other W102 (Or.inr (slot_ne (Or.inl (w_ hw 18 rfl)) (Or.inl (w_ hw 68 rfl)) (by decide) (t := (.array (.object "com/example/pennybreak/pennybreak/simplebook/RestingOrder"))) (t' := .long) (by decide) (by decide)))
  have f3_10_v116 := f3_10_v94.other W102 (Ne.symm ne_A0_b0_3)
  have f3_11_v117 := f3_11_v95.other W102 (Ne.symm ne_A0_b1_3)
  have F_used_A0_v118 := F_used_A0_v96.other W102 (Or.inr (slot_ne (Or.inl (w_ hw 48 rfl)) (Or.inl (w_ hw 68 rfl)) (by decide) (t := .int) (t' := .long) (by decide) (by decide)))
  have F_slot_A4_v119 := F_slot_A4_v97.other W102 (Or.inl (Ne.symm P19))
  have V57_77_v120 := V57_77_v98.other W102 (Ne.symm ne_A0_b2_3)
  have F_count_A0_v121 := F_count_A0_v99.other W102 (Or.inr (slot_ne (Or.inl (w_ hw 59 rfl)) (Or.inl (w_ hw 68 rfl)) (by decide) (t := .int) (t' := .long) (by decide) (by decide)))
  have F_open_A0_v122 := f3_5_v91.same W102
  show Go p e below _ T102 (mkF m 65 #[.val (.ref A0), .val (.ref A4)] [])
  refine Go.s_aloadN X102 hx (hb hby d6_65) (q := 66) rfl rfl rfl ?_
  refine Go.s_aloadN X102 hx (hb hby d6_66) (q := 67) rfl rfl rfl ?_
  refine Go.getF X102 hx hZ hown (w_ hw 45 rfl) Via.refl e102 F_slot_A4_v119 (hb hby d6_67) ?_
  intro T123 X123 e123
  show Go p e below _ T123 (mkF m 70 #[.val (.ref A0), .val (.ref A4)] [(.int (0 : Int32)), (.ref A0)])
  refine Go.s_aloadN X123 hx (hb hby d6_70) (q := 71) rfl rfl rfl ?_
  refine Go.getF X123 hx hZ hown (w_ hw 69 rfl) Via.refl e123 P10_v106 (hb hby d6_71) ?_
  intro T124 X124 e124
  show Go p e below _ T124 (mkF m 74 #[.val (.ref A0), .val (.ref A4)] [(.int I5), (.int (0 : Int32)), (.ref A0)])
  refine Go.callP (y := mn_9) X124 hx hZ hown (w_ hw 70 rfl) (w_ hw 71 rfl) (w_ hw 72 rfl) (w_ hw 7 rfl) (w_ hw 73 rfl) (w_ hw 8 rfl) (by decide) e124 f3_0_v110 (argsL := [(.int (0 : Int32)), (.int I5)]) (rest := []) (rm_set_13 l Z a0 hw A0 b0_3 b1_3 I5 h102 n0 Z0_v103 f3_0_v110 f3_1_v111 f3_4_v113 f3_6_v114 F_used_A0_v118 f3_10_v116 f3_11_v117 ne_A0_b0_3 ne_A0_b1_3 f3_13 P26 g_b0_3 g_b1_3) (by rw [hml]; rfl) (lenOf pd_3 rfl) rfl (hb hby d6_74) (by decide) (by decide) (by decide) (by decide) ?_
  intro r125 T125 L125 q125 X125
  obtain ⟨rfl, N125q, K125, f125_0, f125_1⟩ := q125
  have N125 := Fr.app N102 N125q
  have Z0_v126 := Nat.le_trans Z0_v103 K125.1
  have fact_K_v127 := Keep.trans fact_K_v104 K125 (allS (Or.inr szz_b0_3) (allS (Or.inr szz_b1_3) all0))
  have P1_v128 := P1_v105.keep K125
  have P10_v129 := P10_v106.keep K125 (ninS ne_A4_b0_3 (ninS ne_A4_b1_3 nin0))
  have P12_v130 := P12_v107.keep K125 (ninS ne_A1_b0_3 (ninS ne_A1_b1_3 nin0))
  have P13_v131 := P13_v108.keep K125 (ninS ne_A2_b0_3 (ninS ne_A2_b1_3 nin0))
  have P14_v132 := P14_v109.keep K125 (ninS ne_A3_b0_3 (ninS ne_A3_b1_3 nin0))
  have f3_0_v133 := f3_0_v110.keep K125
  have f3_1_v134 := f3_1_v111.keep K125 (ninS ne_A0_b0_3 (ninS ne_A0_b1_3 nin0))
  have f3_3_v135 := f3_3_v112.keep K125 (ninS ne_A0_b0_3 (ninS ne_A0_b1_3 nin0))
  have f3_4_v136 := f3_4_v113.keep K125 (ninS ne_A0_b0_3 (ninS ne_A0_b1_3 nin0))
  have f3_6_v137 := f3_6_v114.keep K125 (ninS ne_A0_b0_3 (ninS ne_A0_b1_3 nin0))
  have f3_7_v138 := f3_7_v115.keep K125 (ninS ne_A0_b0_3 (ninS ne_A0_b1_3 nin0))
  have F_used_A0_v139 := F_used_A0_v118.keep K125 (ninS ne_A0_b0_3 (ninS ne_A0_b1_3 nin0))
  have F_slot_A4_v140 := F_slot_A4_v119.keep K125 (ninS ne_A4_b0_3 (ninS ne_A4_b1_3 nin0))
  have V57_77_v141 := V57_77_v120.keep K125 (ninS (Ne.symm f3_14) (ninS (Ne.symm f3_15) nin0))
  have F_count_A0_v142 := F_count_A0_v121.keep K125 (ninS ne_A0_b0_3 (ninS ne_A0_b1_3 nin0))
  have F_open_A0_v143 := F_open_A0_v122.keep K125 (ninS ne_A0_b0_3 (ninS ne_A0_b1_3 nin0))
  show Go p e below _ T125 (mkF m 77 #[.val (.ref A0), .val (.ref A4)] [])
  refine Go.retV X125 hx hlk hret (hb hby d6_77) (by decide) (by decide) ?_
  exact ⟨b2_3, b0_3, b1_3, ((0 : Int64) + (I5.toInt64)), kk3_3, rfl, N125, fact_K_v127, szz_b2_3, szz_b0_3, szz_b1_3, f3_0_v133, P1_v128, f3_1_v134, F_count_A0_v142, f3_3_v135, f3_4_v136, F_open_A0_v143, f3_6_v137, f3_7_v138, F_used_A0_v139, P10_v129, F_slot_A4_v140, V57_77_v141, f125_0, f125_1, f3_12, f3_14, f3_13, f3_15⟩
theorem ef_holds_15 (m : MethodId) (x0 : Addr) (x1 : Addr) : entryFrame m #[(.ref x0), (.ref x1)] 2 = mkF m 0 #[.val (.ref x0), .val (.ref x1)] [] := by first | (simp [entryFrame, mkF, argsToLocals, Value.category]; done) | rfl
set_option maxRecDepth 65536 in
set_option maxHeartbeats 40000000 in
theorem rm_holds_15 (l : Launch) (Z : State) (a0 : Array Value) (hw : ∀ d ∈ tables_1, d.before a0 Z = true)  (A0 : Addr) (A1 : Addr) (A2 : Addr) (A3 : Addr) (A4 : Addr) (A5 : Addr) (k6 : ClassId) (h0 : Heap) (n0 : Nat) (Z0 : n0 ≤ h0.size) (P0 : Fld Z h0 A0 "com/example/pennybreak/pennybreak/simplebook/OrderQueue" "slots" "[Lcom/example/pennybreak/pennybreak/simplebook/RestingOrder;" (.ref A1)) (P1 : Fld Z h0 A0 "com/example/pennybreak/pennybreak/simplebook/OrderQueue" "used" "I" (.int (1 : Int32))) (P2 : Fld Z h0 A4 "com/example/pennybreak/pennybreak/simplebook/RestingOrder" "slot" "I" (.int (0 : Int32))) (P3 : Fld Z h0 A5 "com/example/pennybreak/pennybreak/simplebook/RestingOrder" "slot" "I" (.int (0 : Int32))) (P4 : Arv Z h0 A1 k6 (.object "com/example/pennybreak/pennybreak/simplebook/RestingOrder") (4 : Int32) [(.ref A5), .null, .null, .null] .null) (P5 : A0 ≠ A1) (P6 : A0 ≠ A2) (P7 : A0 ≠ A3) (P8 : A0 ≠ A4) (P9 : A0 ≠ A5) (P10 : A2 ≠ A1) (P11 : A2 ≠ A3) (P12 : A3 ≠ A1) (P13 : A4 ≠ A1) (P14 : A4 ≠ A2) (P15 : A4 ≠ A3) (P16 : A4 ≠ A5) (P17 : A5 ≠ A1) (P18 : A5 ≠ A2) (P19 : A5 ≠ A3) :
    Ct l mn_5 prog_98_method_3_code 2 (some .boolean) ({ frames := 0, cells := 0, slots := 0, locals := 0 } : Room) Z h0 #[(.ref A0), (.ref A4)] (fun v h L => v = some (.int (0 : Int32)) ∧ L = [] ∧ h = h0) := by
  refine Ct.body (plainFor_of_name pn_com_example_pennybreak_pennybreak_simplebook_OrderQueue) ?_
  intro p e s m below meth c T0 hx hby hml hown hnm hret hlk hZ X0 e0
  refine Go.cast (ef_holds_15 m A0 A4) ?_
  show Go p e below _ T0 (mkF m 0 #[.val (.ref A0), .val (.ref A4)] [])
  refine Go.s_aloadN X0 hx (hb hby d5_0) (q := 1) rfl rfl rfl ?_
  refine Go.getF X0 hx hZ hown (w_ hw 45 rfl) Via.refl e0 P2 (hb hby d5_1) ?_
  intro T1 X1 e1
  show Go p e below _ T1 (mkF m 4 #[.val (.ref A0), .val (.ref A4)] [(.int (0 : Int32))])
  refine Go.s_aloadN X1 hx (hb hby d5_4) (q := 5) rfl rfl rfl ?_
  refine Go.getF X1 hx hZ hown (w_ hw 47 rfl) Via.refl e1 P1 (hb hby d5_5) ?_
  intro T2 X2 e2
  show Go p e below _ T2 (mkF m 8 #[.val (.ref A0), .val (.ref A4)] [(.int (1 : Int32)), (.int (0 : Int32))])
  refine Go.s_icmpNo X2 hx (hb hby d5_8) (q := 11) rfl (tlt (by decide : (0 : Int32) < (1 : Int32))).2.1 ?_
  refine Go.s_aloadN X2 hx (hb hby d5_11) (q := 12) rfl rfl rfl ?_
  refine Go.getF X2 hx hZ hown (w_ hw 17 rfl) Via.refl e2 P0 (hb hby d5_12) ?_
  intro T3 X3 e3
  show Go p e below _ T3 (mkF m 15 #[.val (.ref A0), .val (.ref A4)] [(.ref A1)])
  refine Go.s_aloadN X3 hx (hb hby d5_15) (q := 16) rfl rfl rfl ?_
  refine Go.getF X3 hx hZ hown (w_ hw 45 rfl) Via.refl e3 P2 (hb hby d5_16) ?_
  intro T4 X4 e4
  show Go p e below _ T4 (mkF m 19 #[.val (.ref A0), .val (.ref A4)] [(.int (0 : Int32)), (.ref A1)])
  refine Go.ldR X4 hx hZ e4 P4 ⟨by decide, by decide⟩ (w := (.ref A5)) rfl (hb hby d5_19) ?_
  show Go p e below _ T4 (mkF m 20 #[.val (.ref A0), .val (.ref A4)] [(.ref A5)])
  refine Go.s_aloadN X4 hx (hb hby d5_20) (q := 21) rfl rfl rfl ?_
  refine Go.s_acmp X4 hx (q := 28) (hb hby d5_21) rfl rfl (same := false) (decide_eq_false fun q => P16 (Value.ref.inj q).symm) (by decide) (by decide) ?_
  refine Go.s_iconst X4 hx (hb hby d5_28) (q := 29) rfl (z := 0) rfl ?_
  refine Go.retN X4 hx hlk hret (by simp) (hb hby d5_29) (by decide) (by decide) ?_
  try rw [e4]
  exact ⟨(by decide), rfl, rfl⟩
theorem ef_holds_16 (m : MethodId) (x0 : Addr) (x1 : Addr) : entryFrame m #[(.ref x0), (.ref x1)] 2 = mkF m 0 #[.val (.ref x0), .val (.ref x1)] [] := by first | (simp [entryFrame, mkF, argsToLocals, Value.category]; done) | rfl
set_option maxRecDepth 65536 in
set_option maxHeartbeats 40000000 in
theorem rm_holds_16 (l : Launch) (Z : State) (a0 : Array Value) (hw : ∀ d ∈ tables_1, d.before a0 Z = true)  (A0 : Addr) (A1 : Addr) (A2 : Addr) (A3 : Addr) (A4 : Addr) (k5 : ClassId) (h0 : Heap) (n0 : Nat) (Z0 : n0 ≤ h0.size) (P0 : Fld Z h0 A0 "com/example/pennybreak/pennybreak/simplebook/OrderQueue" "slots" "[Lcom/example/pennybreak/pennybreak/simplebook/RestingOrder;" (.ref A1)) (P1 : Fld Z h0 A0 "com/example/pennybreak/pennybreak/simplebook/OrderQueue" "used" "I" (.int (1 : Int32))) (P2 : Fld Z h0 A4 "com/example/pennybreak/pennybreak/simplebook/RestingOrder" "slot" "I" (.int (0 : Int32))) (P3 : Arv Z h0 A1 k5 (.object "com/example/pennybreak/pennybreak/simplebook/RestingOrder") (4 : Int32) [(.ref A4), .null, .null, .null] .null) (P4 : A0 ≠ A1) (P5 : A0 ≠ A2) (P6 : A0 ≠ A3) (P7 : A0 ≠ A4) (P8 : A2 ≠ A1) (P9 : A2 ≠ A3) (P10 : A3 ≠ A1) (P11 : A4 ≠ A1) (P12 : A4 ≠ A2) (P13 : A4 ≠ A3) :
    Ct l mn_5 prog_98_method_3_code 2 (some .boolean) ({ frames := 0, cells := 0, slots := 0, locals := 0 } : Room) Z h0 #[(.ref A0), (.ref A4)] (fun v h L => v = some (.int (1 : Int32)) ∧ L = [] ∧ h = h0) := by
  refine Ct.body (plainFor_of_name pn_com_example_pennybreak_pennybreak_simplebook_OrderQueue) ?_
  intro p e s m below meth c T0 hx hby hml hown hnm hret hlk hZ X0 e0
  refine Go.cast (ef_holds_16 m A0 A4) ?_
  show Go p e below _ T0 (mkF m 0 #[.val (.ref A0), .val (.ref A4)] [])
  refine Go.s_aloadN X0 hx (hb hby d5_0) (q := 1) rfl rfl rfl ?_
  refine Go.getF X0 hx hZ hown (w_ hw 45 rfl) Via.refl e0 P2 (hb hby d5_1) ?_
  intro T1 X1 e1
  show Go p e below _ T1 (mkF m 4 #[.val (.ref A0), .val (.ref A4)] [(.int (0 : Int32))])
  refine Go.s_aloadN X1 hx (hb hby d5_4) (q := 5) rfl rfl rfl ?_
  refine Go.getF X1 hx hZ hown (w_ hw 47 rfl) Via.refl e1 P1 (hb hby d5_5) ?_
  intro T2 X2 e2
  show Go p e below _ T2 (mkF m 8 #[.val (.ref A0), .val (.ref A4)] [(.int (1 : Int32)), (.int (0 : Int32))])
  refine Go.s_icmpNo X2 hx (hb hby d5_8) (q := 11) rfl (tlt (by decide : (0 : Int32) < (1 : Int32))).2.1 ?_
  refine Go.s_aloadN X2 hx (hb hby d5_11) (q := 12) rfl rfl rfl ?_
  refine Go.getF X2 hx hZ hown (w_ hw 17 rfl) Via.refl e2 P0 (hb hby d5_12) ?_
  intro T3 X3 e3
  show Go p e below _ T3 (mkF m 15 #[.val (.ref A0), .val (.ref A4)] [(.ref A1)])
  refine Go.s_aloadN X3 hx (hb hby d5_15) (q := 16) rfl rfl rfl ?_
  refine Go.getF X3 hx hZ hown (w_ hw 45 rfl) Via.refl e3 P2 (hb hby d5_16) ?_
  intro T4 X4 e4
  show Go p e below _ T4 (mkF m 19 #[.val (.ref A0), .val (.ref A4)] [(.int (0 : Int32)), (.ref A1)])
  refine Go.ldR X4 hx hZ e4 P3 ⟨by decide, by decide⟩ (w := (.ref A4)) rfl (hb hby d5_19) ?_
  show Go p e below _ T4 (mkF m 20 #[.val (.ref A0), .val (.ref A4)] [(.ref A4)])
  refine Go.s_aloadN X4 hx (hb hby d5_20) (q := 21) rfl rfl rfl ?_
  refine Go.s_acmp X4 hx (q := 24) (hb hby d5_21) rfl rfl (same := true) (decide_eq_true rfl) (by decide) (by decide) ?_
  refine Go.s_iconst X4 hx (hb hby d5_24) (q := 25) rfl (z := 1) rfl ?_
  refine Go.s_goto X4 hx (hb hby d5_25) (q := 29) (by decide) (by decide) ?_
  refine Go.retN X4 hx hlk hret (by simp) (hb hby d5_29) (by decide) (by decide) ?_
  try rw [e4]
  exact ⟨(by decide), rfl, rfl⟩
theorem ef_holds_17 (m : MethodId) (x0 : Addr) (x1 : Addr) : entryFrame m #[(.ref x0), (.ref x1)] 2 = mkF m 0 #[.val (.ref x0), .val (.ref x1)] [] := by first | (simp [entryFrame, mkF, argsToLocals, Value.category]; done) | rfl
set_option maxRecDepth 65536 in
set_option maxHeartbeats 40000000 in
theorem rm_holds_17 (l : Launch) (Z : State) (a0 : Array Value) (hw : ∀ d ∈ tables_1, d.before a0 Z = true)  (A0 : Addr) (A1 : Addr) (A2 : Addr) (A3 : Addr) (A4 : Addr) (A5 : Addr) (k6 : ClassId) (h0 : Heap) (n0 : Nat) (Z0 : n0 ≤ h0.size) (P0 : Fld Z h0 A0 "com/example/pennybreak/pennybreak/simplebook/OrderQueue" "slots" "[Lcom/example/pennybreak/pennybreak/simplebook/RestingOrder;" (.ref A1)) (P1 : Fld Z h0 A0 "com/example/pennybreak/pennybreak/simplebook/OrderQueue" "used" "I" (.int (1 : Int32))) (P2 : Fld Z h0 A4 "com/example/pennybreak/pennybreak/simplebook/RestingOrder" "slot" "I" (.int (0 : Int32))) (P3 : Fld Z h0 A5 "com/example/pennybreak/pennybreak/simplebook/RestingOrder" "slot" "I" (.int (0 : Int32))) (P4 : Arv Z h0 A1 k6 (.object "com/example/pennybreak/pennybreak/simplebook/RestingOrder") (4 : Int32) [(.ref A5), .null, .null, .null] .null) (P5 : A0 ≠ A1) (P6 : A0 ≠ A2) (P7 : A0 ≠ A3) (P8 : A0 ≠ A5) (P9 : A0 ≠ A4) (P10 : A2 ≠ A1) (P11 : A2 ≠ A3) (P12 : A3 ≠ A1) (P13 : A4 ≠ A1) (P14 : A4 ≠ A2) (P15 : A4 ≠ A3) (P16 : A4 ≠ A5) (P17 : A5 ≠ A1) (P18 : A5 ≠ A2) (P19 : A5 ≠ A3) :
    Ct l mn_5 prog_98_method_3_code 2 (some .boolean) ({ frames := 0, cells := 0, slots := 0, locals := 0 } : Room) Z h0 #[(.ref A0), (.ref A4)] (fun v h L => v = some (.int (0 : Int32)) ∧ L = [] ∧ h = h0) := by
  refine Ct.body (plainFor_of_name pn_com_example_pennybreak_pennybreak_simplebook_OrderQueue) ?_
  intro p e s m below meth c T0 hx hby hml hown hnm hret hlk hZ X0 e0
  refine Go.cast (ef_holds_17 m A0 A4) ?_
  show Go p e below _ T0 (mkF m 0 #[.val (.ref A0), .val (.ref A4)] [])
  refine Go.s_aloadN X0 hx (hb hby d5_0) (q := 1) rfl rfl rfl ?_
  refine Go.getF X0 hx hZ hown (w_ hw 45 rfl) Via.refl e0 P2 (hb hby d5_1) ?_
  intro T1 X1 e1
  show Go p e below _ T1 (mkF m 4 #[.val (.ref A0), .val (.ref A4)] [(.int (0 : Int32))])
  refine Go.s_aloadN X1 hx (hb hby d5_4) (q := 5) rfl rfl rfl ?_
  refine Go.getF X1 hx hZ hown (w_ hw 47 rfl) Via.refl e1 P1 (hb hby d5_5) ?_
  intro T2 X2 e2
  show Go p e below _ T2 (mkF m 8 #[.val (.ref A0), .val (.ref A4)] [(.int (1 : Int32)), (.int (0 : Int32))])
  refine Go.s_icmpNo X2 hx (hb hby d5_8) (q := 11) rfl (tlt (by decide : (0 : Int32) < (1 : Int32))).2.1 ?_
  refine Go.s_aloadN X2 hx (hb hby d5_11) (q := 12) rfl rfl rfl ?_
  refine Go.getF X2 hx hZ hown (w_ hw 17 rfl) Via.refl e2 P0 (hb hby d5_12) ?_
  intro T3 X3 e3
  show Go p e below _ T3 (mkF m 15 #[.val (.ref A0), .val (.ref A4)] [(.ref A1)])
  refine Go.s_aloadN X3 hx (hb hby d5_15) (q := 16) rfl rfl rfl ?_
  refine Go.getF X3 hx hZ hown (w_ hw 45 rfl) Via.refl e3 P2 (hb hby d5_16) ?_
  intro T4 X4 e4
  show Go p e below _ T4 (mkF m 19 #[.val (.ref A0), .val (.ref A4)] [(.int (0 : Int32)), (.ref A1)])
  refine Go.ldR X4 hx hZ e4 P4 ⟨by decide, by decide⟩ (w := (.ref A5)) rfl (hb hby d5_19) ?_
  show Go p e below _ T4 (mkF m 20 #[.val (.ref A0), .val (.ref A4)] [(.ref A5)])
  refine Go.s_aloadN X4 hx (hb hby d5_20) (q := 21) rfl rfl rfl ?_
  refine Go.s_acmp X4 hx (q := 28) (hb hby d5_21) rfl rfl (same := false) (decide_eq_false fun q => P16 (Value.ref.inj q).symm) (by decide) (by decide) ?_
  refine Go.s_iconst X4 hx (hb hby d5_28) (q := 29) rfl (z := 0) rfl ?_
  refine Go.retN X4 hx hlk hret (by simp) (hb hby d5_29) (by decide) (by decide) ?_
  try rw [e4]
  exact ⟨(by decide), rfl, rfl⟩
theorem ef_holds_18 (m : MethodId) (x0 : Addr) (x1 : Addr) : entryFrame m #[(.ref x0), (.ref x1)] 2 = mkF m 0 #[.val (.ref x0), .val (.ref x1)] [] := by first | (simp [entryFrame, mkF, argsToLocals, Value.category]; done) | rfl
set_option maxRecDepth 65536 in
set_option maxHeartbeats 40000000 in
theorem rm_holds_18 (l : Launch) (Z : State) (a0 : Array Value) (hw : ∀ d ∈ tables_1, d.before a0 Z = true)  (A0 : Addr) (A1 : Addr) (A2 : Addr) (A3 : Addr) (A4 : Addr) (A5 : Addr) (k6 : ClassId) (h0 : Heap) (n0 : Nat) (Z0 : n0 ≤ h0.size) (P0 : Fld Z h0 A0 "com/example/pennybreak/pennybreak/simplebook/OrderQueue" "slots" "[Lcom/example/pennybreak/pennybreak/simplebook/RestingOrder;" (.ref A1)) (P1 : Fld Z h0 A0 "com/example/pennybreak/pennybreak/simplebook/OrderQueue" "used" "I" (.int (1 : Int32))) (P2 : Fld Z h0 A4 "com/example/pennybreak/pennybreak/simplebook/RestingOrder" "slot" "I" (.int (0 : Int32))) (P3 : Fld Z h0 A5 "com/example/pennybreak/pennybreak/simplebook/RestingOrder" "slot" "I" (.int (0 : Int32))) (P4 : Arv Z h0 A1 k6 (.object "com/example/pennybreak/pennybreak/simplebook/RestingOrder") (4 : Int32) [(.ref A5), .null, .null, .null] .null) (P5 : A0 ≠ A1) (P6 : A0 ≠ A2) (P7 : A0 ≠ A3) (P8 : A0 ≠ A5) (P9 : A0 ≠ A4) (P10 : A2 ≠ A1) (P11 : A2 ≠ A3) (P12 : A3 ≠ A1) (P13 : A4 ≠ A1) (P14 : A4 ≠ A2) (P15 : A4 ≠ A3) (P16 : A5 ≠ A1) (P17 : A5 ≠ A2) (P18 : A5 ≠ A3) (P19 : A5 ≠ A4) :
    Ct l mn_5 prog_98_method_3_code 2 (some .boolean) ({ frames := 0, cells := 0, slots := 0, locals := 0 } : Room) Z h0 #[(.ref A0), (.ref A4)] (fun v h L => v = some (.int (0 : Int32)) ∧ L = [] ∧ h = h0) := by
  refine Ct.body (plainFor_of_name pn_com_example_pennybreak_pennybreak_simplebook_OrderQueue) ?_
  intro p e s m below meth c T0 hx hby hml hown hnm hret hlk hZ X0 e0
  refine Go.cast (ef_holds_18 m A0 A4) ?_
  show Go p e below _ T0 (mkF m 0 #[.val (.ref A0), .val (.ref A4)] [])
  refine Go.s_aloadN X0 hx (hb hby d5_0) (q := 1) rfl rfl rfl ?_
  refine Go.getF X0 hx hZ hown (w_ hw 45 rfl) Via.refl e0 P2 (hb hby d5_1) ?_
  intro T1 X1 e1
  show Go p e below _ T1 (mkF m 4 #[.val (.ref A0), .val (.ref A4)] [(.int (0 : Int32))])
  refine Go.s_aloadN X1 hx (hb hby d5_4) (q := 5) rfl rfl rfl ?_
  refine Go.getF X1 hx hZ hown (w_ hw 47 rfl) Via.refl e1 P1 (hb hby d5_5) ?_
  intro T2 X2 e2
  show Go p e below _ T2 (mkF m 8 #[.val (.ref A0), .val (.ref A4)] [(.int (1 : Int32)), (.int (0 : Int32))])
  refine Go.s_icmpNo X2 hx (hb hby d5_8) (q := 11) rfl (tlt (by decide : (0 : Int32) < (1 : Int32))).2.1 ?_
  refine Go.s_aloadN X2 hx (hb hby d5_11) (q := 12) rfl rfl rfl ?_
  refine Go.getF X2 hx hZ hown (w_ hw 17 rfl) Via.refl e2 P0 (hb hby d5_12) ?_
  intro T3 X3 e3
  show Go p e below _ T3 (mkF m 15 #[.val (.ref A0), .val (.ref A4)] [(.ref A1)])
  refine Go.s_aloadN X3 hx (hb hby d5_15) (q := 16) rfl rfl rfl ?_
  refine Go.getF X3 hx hZ hown (w_ hw 45 rfl) Via.refl e3 P2 (hb hby d5_16) ?_
  intro T4 X4 e4
  show Go p e below _ T4 (mkF m 19 #[.val (.ref A0), .val (.ref A4)] [(.int (0 : Int32)), (.ref A1)])
  refine Go.ldR X4 hx hZ e4 P4 ⟨by decide, by decide⟩ (w := (.ref A5)) rfl (hb hby d5_19) ?_
  show Go p e below _ T4 (mkF m 20 #[.val (.ref A0), .val (.ref A4)] [(.ref A5)])
  refine Go.s_aloadN X4 hx (hb hby d5_20) (q := 21) rfl rfl rfl ?_
  refine Go.s_acmp X4 hx (q := 28) (hb hby d5_21) rfl rfl (same := false) (decide_eq_false fun q => P19 (Value.ref.inj q)) (by decide) (by decide) ?_
  refine Go.s_iconst X4 hx (hb hby d5_28) (q := 29) rfl (z := 0) rfl ?_
  refine Go.retN X4 hx hlk hret (by simp) (hb hby d5_29) (by decide) (by decide) ?_
  try rw [e4]
  exact ⟨(by decide), rfl, rfl⟩
theorem ef_largestIn_25 (m : MethodId) (x0 : Addr) (x1 : Int32) : entryFrame m #[(.ref x0), (.int x1)] 5 = mkF m 0 #[.val (.ref x0), .val (.int x1), .unset, .unset, .unset] [] := by first | (simp [entryFrame, mkF, argsToLocals, Value.category]; done) | rfl
set_option maxRecDepth 65536 in
set_option maxHeartbeats 40000000 in
theorem rm_largestIn_25 (l : Launch) (Z : State) (a0 : Array Value) (hw : ∀ d ∈ tables_1, d.before a0 Z = true)  (A0 : Addr) (A1 : Addr) (h0 : Heap) (n0 : Nat) (Z0 : n0 ≤ h0.size) (P0 : Fld Z h0 A0 "com/example/pennybreak/pennybreak/simplebook/OrderQueue" "sizes" "[I" (.ref A1)) (P1 : Fld Z h0 A0 "com/example/pennybreak/pennybreak/simplebook/OrderQueue" "used" "I" (.int (2 : Int32))) (P2 : UA Z h0 A1 4) (P3 : A0 ≠ A1) (P4 : n0 ≤ A0) (P5 : n0 ≤ A1) :
    Ct l mn_11 prog_98_method_11_code 5 (some .int) ({ frames := 1, cells := 0, slots := 0, locals := 16 } : Room) Z h0 #[(.ref A0), (.int (0 : Int32))] (fun v h L => ∃ w0 : Int32, v = some (.int w0) ∧ L = [] ∧ h = h0) := by
  refine Ct.body (plainFor_of_name pn_com_example_pennybreak_pennybreak_simplebook_OrderQueue) ?_
  intro p e s m below meth c T0 hx hby hml hown hnm hret hlk hZ X0 e0
  refine Go.cast (ef_largestIn_25 m A0 (0 : Int32)) ?_
  show Go p e below _ T0 (mkF m 0 #[.val (.ref A0), .val (.int (0 : Int32)), .unset, .unset, .unset] [])
  refine Go.s_iconst X0 hx (hb hby d11_0) (q := 1) rfl (z := 0) rfl ?_
  refine Go.s_istoreN X0 hx (hb hby d11_1) (q := 2) rfl (l' := #[.val (.ref A0), .val (.int (0 : Int32)), .val (.int (0 : Int32)), .unset, .unset]) rfl ?_
  refine Go.s_aloadN X0 hx (hb hby d11_2) (q := 3) rfl rfl rfl ?_
  refine Go.getF X0 hx hZ hown (w_ hw 47 rfl) Via.refl e0 P1 (hb hby d11_3) ?_
  intro T1 X1 e1
  show Go p e below _ T1 (mkF m 6 #[.val (.ref A0), .val (.int (0 : Int32)), .val (.int (0 : Int32)), .unset, .unset] [(.int (2 : Int32))])
  refine Go.s_iloadN X1 hx (hb hby d11_6) (q := 7) rfl rfl ?_
  refine Go.s_iconst X1 hx (hb hby d11_7) (q := 8) rfl (z := 1) rfl ?_
  refine Go.s_iadd X1 hx (hb hby d11_8) (q := 9) rfl ?_
  rw [(by decide : ((0 : Int32) + (1 : Int32)) = (1 : Int32))]
  refine Go.s_bipush X1 hx (hb hby d11_9) (q := 11) rfl (z := 6) rfl ?_
  refine Go.s_ishl X1 hx (hb hby d11_11) (q := 12) rfl ?_
  rw [(by decide : ((1 : Int32) <<< ((6 : Int32) &&& 31)) = (64 : Int32))]
  refine Go.callS (y := mn_12) X1 hx hZ hown (w_ hw 83 rfl) (w_ hw 84 rfl) (w_ hw 62 rfl) (w_ hw 85 rfl) (by decide) e1 (argsL := [(.int (2 : Int32)), (.int (64 : Int32))]) (rest := []) (rm_mn l Z a0 hw (2 : Int32) (64 : Int32) _) (by rw [hml]; rfl) (lenOf pd_2 rfl) rfl (hb hby d11_12) (by decide) (by decide) (by decide) (by decide) ?_
  intro r2 T2 L2 q2 X2
  obtain ⟨w2, rfl, p2, rfl, e2⟩ := q2
  rw [List.append_nil] at X2
  obtain rfl : w2 = (2 : Int32) := by rcases p2 with ⟨h, rfl⟩ | ⟨h, rfl⟩ <;> first | rfl | exact absurd h (by decide)
  show Go p e below _ T2 (mkF m 15 #[.val (.ref A0), .val (.int (0 : Int32)), .val (.int (0 : Int32)), .unset, .unset] [(.int (2 : Int32))])
  refine Go.s_istoreN X2 hx (hb hby d11_15) (q := 16) rfl (l' := #[.val (.ref A0), .val (.int (0 : Int32)), .val (.int (0 : Int32)), .val (.int (2 : Int32)), .unset]) rfl ?_
  refine Go.s_iloadN X2 hx (hb hby d11_16) (q := 17) rfl rfl ?_
  refine Go.s_bipush X2 hx (hb hby d11_17) (q := 19) rfl (z := 6) rfl ?_
  refine Go.s_ishl X2 hx (hb hby d11_19) (q := 20) rfl ?_
  rw [(by decide : ((0 : Int32) <<< ((6 : Int32) &&& 31)) = (0 : Int32))]
  refine Go.s_istore X2 hx (hb hby d11_20) (q := 22) rfl (l' := #[.val (.ref A0), .val (.int (0 : Int32)), .val (.int (0 : Int32)), .val (.int (2 : Int32)), .val (.int (0 : Int32))]) rfl ?_
  refine Go.s_iload X2 hx (hb hby d11_22) (q := 24) rfl rfl ?_
  refine Go.s_iloadN X2 hx (hb hby d11_24) (q := 25) rfl rfl ?_
  refine Go.s_icmpNo X2 hx (hb hby d11_25) (q := 28) rfl (tlt (by decide : (0 : Int32) < (2 : Int32))).2.1 ?_
  refine Go.s_iloadN X2 hx (hb hby d11_28) (q := 29) rfl rfl ?_
  refine Go.s_aloadN X2 hx (hb hby d11_29) (q := 30) rfl rfl rfl ?_
  refine Go.getF X2 hx hZ hown (w_ hw 20 rfl) Via.refl e2 P0 (hb hby d11_30) ?_
  intro T3 X3 e3
  show Go p e below _ T3 (mkF m 33 #[.val (.ref A0), .val (.int (0 : Int32)), .val (.int (0 : Int32)), .val (.int (2 : Int32)), .val (.int (0 : Int32))] [(.ref A1), (.int (0 : Int32))])
  refine Go.s_iload X3 hx (hb hby d11_33) (q := 35) rfl rfl ?_
  refine Go.ldU X3 hx hZ e3 P2 (by decide) (by decide) (hb hby d11_35) ?_
  intro y4
  show Go p e below _ T3 (mkF m 36 #[.val (.ref A0), .val (.int (0 : Int32)), .val (.int (0 : Int32)), .val (.int (2 : Int32)), .val (.int (0 : Int32))] [(.int y4), (.int (0 : Int32))])
  refine Go.callS (y := mn_8) X3 hx hZ hown (w_ hw 60 rfl) (w_ hw 61 rfl) (w_ hw 62 rfl) (w_ hw 63 rfl) (by decide) e3 (argsL := [(.int (0 : Int32)), (.int y4)]) (rest := []) (rm_mx l Z a0 hw (0 : Int32) y4 _) (by rw [hml]; rfl) (lenOf pd_2 rfl) rfl (hb hby d11_36) (by decide) (by decide) (by decide) (by decide) ?_
  intro r5 T5 L5 q5 X5
  obtain ⟨w5, rfl, p5, rfl, e5⟩ := q5
  rw [List.append_nil] at X5
  show Go p e below _ T5 (mkF m 39 #[.val (.ref A0), .val (.int (0 : Int32)), .val (.int (0 : Int32)), .val (.int (2 : Int32)), .val (.int (0 : Int32))] [(.int w5)])
  refine Go.s_istoreN X5 hx (hb hby d11_39) (q := 40) rfl (l' := #[.val (.ref A0), .val (.int (0 : Int32)), .val (.int w5), .val (.int (2 : Int32)), .val (.int (0 : Int32))]) rfl ?_
  refine Go.s_iinc X5 hx (hb hby d11_40) (q := 43) rfl rfl (l' := #[.val (.ref A0), .val (.int (0 : Int32)), .val (.int w5), .val (.int (2 : Int32)), .val (.int ((0 : Int32) + (1 : Int32)))]) rfl ?_
  rw [(by decide : ((0 : Int32) + (1 : Int32)) = (1 : Int32))]
  refine Go.s_goto X5 hx (hb hby d11_43) (q := 22) (by decide) (by decide) ?_
  refine Go.s_iload X5 hx (hb hby d11_22) (q := 24) rfl rfl ?_
  refine Go.s_iloadN X5 hx (hb hby d11_24) (q := 25) rfl rfl ?_
  refine Go.s_icmpNo X5 hx (hb hby d11_25) (q := 28) rfl (tlt (by decide : (1 : Int32) < (2 : Int32))).2.1 ?_
  refine Go.s_iloadN X5 hx (hb hby d11_28) (q := 29) rfl rfl ?_
  refine Go.s_aloadN X5 hx (hb hby d11_29) (q := 30) rfl rfl rfl ?_
  refine Go.getF X5 hx hZ hown (w_ hw 20 rfl) Via.refl e5 P0 (hb hby d11_30) ?_
  intro T6 X6 e6
  show Go p e below _ T6 (mkF m 33 #[.val (.ref A0), .val (.int (0 : Int32)), .val (.int w5), .val (.int (2 : Int32)), .val (.int (1 : Int32))] [(.ref A1), (.int w5)])
  refine Go.s_iload X6 hx (hb hby d11_33) (q := 35) rfl rfl ?_
  refine Go.ldU X6 hx hZ e6 P2 (by decide) (by decide) (hb hby d11_35) ?_
  intro y7
  show Go p e below _ T6 (mkF m 36 #[.val (.ref A0), .val (.int (0 : Int32)), .val (.int w5), .val (.int (2 : Int32)), .val (.int (1 : Int32))] [(.int y7), (.int w5)])
  refine Go.callS (y := mn_8) X6 hx hZ hown (w_ hw 60 rfl) (w_ hw 61 rfl) (w_ hw 62 rfl) (w_ hw 63 rfl) (by decide) e6 (argsL := [(.int w5), (.int y7)]) (rest := []) (rm_mx l Z a0 hw w5 y7 _) (by rw [hml]; rfl) (lenOf pd_2 rfl) rfl (hb hby d11_36) (by decide) (by decide) (by decide) (by decide) ?_
  intro r8 T8 L8 q8 X8
  obtain ⟨w8, rfl, p8, rfl, e8⟩ := q8
  rw [List.append_nil] at X8
  show Go p e below _ T8 (mkF m 39 #[.val (.ref A0), .val (.int (0 : Int32)), .val (.int w5), .val (.int (2 : Int32)), .val (.int (1 : Int32))] [(.int w8)])
  refine Go.s_istoreN X8 hx (hb hby d11_39) (q := 40) rfl (l' := #[.val (.ref A0), .val (.int (0 : Int32)), .val (.int w8), .val (.int (2 : Int32)), .val (.int (1 : Int32))]) rfl ?_
  refine Go.s_iinc X8 hx (hb hby d11_40) (q := 43) rfl rfl (l' := #[.val (.ref A0), .val (.int (0 : Int32)), .val (.int w8), .val (.int (2 : Int32)), .val (.int ((1 : Int32) + (1 : Int32)))]) rfl ?_
  rw [(by decide : ((1 : Int32) + (1 : Int32)) = (2 : Int32))]
  refine Go.s_goto X8 hx (hb hby d11_43) (q := 22) (by decide) (by decide) ?_
  refine Go.s_iload X8 hx (hb hby d11_22) (q := 24) rfl rfl ?_
  refine Go.s_iloadN X8 hx (hb hby d11_24) (q := 25) rfl rfl ?_
  refine Go.s_icmpYes X8 hx (hb hby d11_25) (q := 46) (by decide) (by decide) (flt (by decide : ¬ ((2 : Int32) < (2 : Int32)))).2.1 ?_
  refine Go.s_iloadN X8 hx (hb hby d11_46) (q := 47) rfl rfl ?_
  refine Go.retI X8 hx hlk hret (hb hby d11_47) (by decide) (by decide) ?_
  try rw [e8]
  exact ⟨w8, rfl, rfl, rfl⟩
theorem ef_set_24 (m : MethodId) (x0 : Addr) (x1 : Int32) (x2 : Int32) : entryFrame m #[(.ref x0), (.int x1), (.int x2)] 6 = mkF m 0 #[.val (.ref x0), .val (.int x1), .val (.int x2), .unset, .unset, .unset] [] := by first | (simp [entryFrame, mkF, argsToLocals, Value.category]; done) | rfl
set_option maxRecDepth 65536 in
set_option maxHeartbeats 40000000 in
theorem rm_set_24 (l : Launch) (Z : State) (a0 : Array Value) (hw : ∀ d ∈ tables_1, d.before a0 Z = true)  (A0 : Addr) (A1 : Addr) (A2 : Addr) (I3 : Int32) (h0 : Heap) (n0 : Nat) (Z0 : n0 ≤ h0.size) (P0 : Exa Z h0 A0 "com/example/pennybreak/pennybreak/simplebook/OrderQueue") (P1 : Fld Z h0 A0 "com/example/pennybreak/pennybreak/simplebook/OrderQueue" "blocks" "I" (.int (1 : Int32))) (P2 : Fld Z h0 A0 "com/example/pennybreak/pennybreak/simplebook/OrderQueue" "largest" "[I" (.ref A2)) (P3 : Fld Z h0 A0 "com/example/pennybreak/pennybreak/simplebook/OrderQueue" "sizes" "[I" (.ref A1)) (P4 : Fld Z h0 A0 "com/example/pennybreak/pennybreak/simplebook/OrderQueue" "used" "I" (.int (2 : Int32))) (P5 : UA Z h0 A1 4) (P6 : UA Z h0 A2 2) (P7 : A0 ≠ A1) (P8 : A0 ≠ A2) (P9 : A1 ≠ A2) (P10 : n0 ≤ A0) (P11 : n0 ≤ A1) (P12 : n0 ≤ A2) :
    Ct l mn_9 prog_98_method_10_code 6 none ({ frames := 2, cells := 0, slots := 0, locals := 40 } : Room) Z h0 #[(.ref A0), (.int (1 : Int32)), (.int I3)] (fun v h L => v = none ∧ Fr n0 L ∧ Keep h0 h [A1, A2] ∧ UA Z h A1 4 ∧ UA Z h A2 2) := by
  refine Ct.body (plainFor_of_name pn_com_example_pennybreak_pennybreak_simplebook_OrderQueue) ?_
  intro p e s m below meth c T0 hx hby hml hown hnm hret hlk hZ X0 e0
  refine Go.cast (ef_set_24 m A0 (1 : Int32) I3) ?_
  show Go p e below _ T0 (mkF m 0 #[.val (.ref A0), .val (.int (1 : Int32)), .val (.int I3), .unset, .unset, .unset] [])
  refine Go.s_aloadN X0 hx (hb hby d9_0) (q := 1) rfl rfl rfl ?_
  refine Go.getF X0 hx hZ hown (w_ hw 22 rfl) Via.refl e0 P1 (hb hby d9_1) ?_
  intro T1 X1 e1
  show Go p e below _ T1 (mkF m 4 #[.val (.ref A0), .val (.int (1 : Int32)), .val (.int I3), .unset, .unset, .unset] [(.int (1 : Int32))])
  refine Go.s_iloadN X1 hx (hb hby d9_4) (q := 5) rfl rfl ?_
  refine Go.s_bipush X1 hx (hb hby d9_5) (q := 7) rfl (z := 6) rfl ?_
  refine Go.s_ishr X1 hx (hb hby d9_7) (q := 8) rfl ?_
  rw [(by decide : ((1 : Int32) >>> ((6 : Int32) &&& 31)) = (0 : Int32))]
  refine Go.s_iadd X1 hx (hb hby d9_8) (q := 9) rfl ?_
  rw [(by decide : ((1 : Int32) + (0 : Int32)) = (1 : Int32))]
  refine Go.s_istoreN X1 hx (hb hby d9_9) (q := 10) rfl (l' := #[.val (.ref A0), .val (.int (1 : Int32)), .val (.int I3), .val (.int (1 : Int32)), .unset, .unset]) rfl ?_
  refine Go.s_aloadN X1 hx (hb hby d9_10) (q := 11) rfl rfl rfl ?_
  refine Go.getF X1 hx hZ hown (w_ hw 24 rfl) Via.refl e1 P2 (hb hby d9_11) ?_
  intro T2 X2 e2
  show Go p e below _ T2 (mkF m 14 #[.val (.ref A0), .val (.int (1 : Int32)), .val (.int I3), .val (.int (1 : Int32)), .unset, .unset] [(.ref A2)])
  refine Go.s_iloadN X2 hx (hb hby d9_14) (q := 15) rfl rfl ?_
  refine Go.ldU X2 hx hZ e2 P6 (by decide) (by decide) (hb hby d9_15) ?_
  intro y3
  show Go p e below _ T2 (mkF m 16 #[.val (.ref A0), .val (.int (1 : Int32)), .val (.int I3), .val (.int (1 : Int32)), .unset, .unset] [(.int y3)])
  refine Go.s_istore X2 hx (hb hby d9_16) (q := 18) rfl (l' := #[.val (.ref A0), .val (.int (1 : Int32)), .val (.int I3), .val (.int (1 : Int32)), .val (.int y3), .unset]) rfl ?_
  refine Go.s_aloadN X2 hx (hb hby d9_18) (q := 19) rfl rfl rfl ?_
  refine Go.getF X2 hx hZ hown (w_ hw 20 rfl) Via.refl e2 P3 (hb hby d9_19) ?_
  intro T4 X4 e4
  show Go p e below _ T4 (mkF m 22 #[.val (.ref A0), .val (.int (1 : Int32)), .val (.int I3), .val (.int (1 : Int32)), .val (.int y3), .unset] [(.ref A1)])
  refine Go.s_iloadN X4 hx (hb hby d9_22) (q := 23) rfl rfl ?_
  refine Go.ldU X4 hx hZ e4 P5 (by decide) (by decide) (hb hby d9_23) ?_
  intro y5
  show Go p e below _ T4 (mkF m 24 #[.val (.ref A0), .val (.int (1 : Int32)), .val (.int I3), .val (.int (1 : Int32)), .val (.int y3), .unset] [(.int y5)])
  refine Go.s_iload X4 hx (hb hby d9_24) (q := 26) rfl rfl ?_
  by_cases c26_6 : y5 = y3
  · -- pc 26: y5 = y3
    refine Go.s_icmpNo X4 hx (hb hby d9_26) (q := 29) rfl (teq c26_6).2 ?_
    refine Go.s_iloadN X4 hx (hb hby d9_29) (q := 30) rfl rfl ?_
    refine Go.s_iload X4 hx (hb hby d9_30) (q := 32) rfl rfl ?_
    by_cases c32_7 : I3 < y3
    · -- pc 32: I3 < y3
      refine Go.s_icmpNo X4 hx (hb hby d9_32) (q := 35) rfl (tlt c32_7).2.1 ?_
      refine Go.s_iconst X4 hx (hb hby d9_35) (q := 36) rfl (z := 1) rfl ?_
      refine Go.s_goto X4 hx (hb hby d9_36) (q := 40) (by decide) (by decide) ?_
      refine Go.s_istore X4 hx (hb hby d9_40) (q := 42) rfl (l' := #[.val (.ref A0), .val (.int (1 : Int32)), .val (.int I3), .val (.int (1 : Int32)), .val (.int y3), .val (.int (1 : Int32))]) rfl ?_
      refine Go.s_aloadN X4 hx (hb hby d9_42) (q := 43) rfl rfl rfl ?_
      refine Go.getF X4 hx hZ hown (w_ hw 20 rfl) Via.refl e4 P3 (hb hby d9_43) ?_
      intro T8 X8 e8
      show Go p e below _ T8 (mkF m 46 #[.val (.ref A0), .val (.int (1 : Int32)), .val (.int I3), .val (.int (1 : Int32)), .val (.int y3), .val (.int (1 : Int32))] [(.ref A1)])
      refine Go.s_iloadN X8 hx (hb hby d9_46) (q := 47) rfl rfl ?_
      refine Go.s_iloadN X8 hx (hb hby d9_47) (q := 48) rfl rfl ?_
      refine Go.stU X8 hx hZ e8 P5 (by decide) (by decide) (hb hby d9_48) ?_
      intro T9 h9 X9 e9 W9 U9
      have N9 := Fr.snoc X9 (Fr.nil n0) P11
      have Z0_v10 := Nat.le_trans Z0 (Keep.of_wr W9).1
      have fact_K_v11 := (Keep.refl h0 [A1, A2]).wr W9 (Or.inl (by simp))
      have P0_v12 := P0.wr W9
      have P1_v13 := P1.other W9 (Or.inl P7)
      have P2_v14 := P2.other W9 (Or.inl P7)
      have P3_v15 := P3.other W9 (Or.inl P7)
      have P4_v16 := P4.other W9 (Or.inl P7)
      have P6_v17 := P6.other W9 (Ne.symm P9)
      show Go p e below _ T9 (mkF m 49 #[.val (.ref A0), .val (.int (1 : Int32)), .val (.int I3), .val (.int (1 : Int32)), .val (.int y3), .val (.int (1 : Int32))] [])
      refine Go.s_iloadN X9 hx (hb hby d9_49) (q := 50) rfl rfl ?_
      refine Go.s_iload X9 hx (hb hby d9_50) (q := 52) rfl rfl ?_
      by_cases c52_18 : y3 < I3
      · -- pc 52: y3 < I3
        refine Go.s_icmpNo X9 hx (hb hby d9_52) (q := 55) rfl (tlt c52_18).2.2.2 ?_
        refine Go.s_iloadN X9 hx (hb hby d9_55) (q := 56) rfl rfl ?_
        refine Go.s_istore X9 hx (hb hby d9_56) (q := 58) rfl (l' := #[.val (.ref A0), .val (.int (1 : Int32)), .val (.int I3), .val (.int (1 : Int32)), .val (.int I3), .val (.int (1 : Int32))]) rfl ?_
        refine Go.s_goto X9 hx (hb hby d9_58) (q := 76) (by decide) (by decide) ?_
        refine Go.s_iloadN X9 hx (hb hby d9_76) (q := 77) rfl rfl ?_
        refine Go.s_iconst X9 hx (hb hby d9_77) (q := 78) rfl (z := 1) rfl ?_
        refine Go.s_icmpNo X9 hx (hb hby d9_78) (q := 81) rfl (flt (by decide : ¬ ((1 : Int32) < (1 : Int32)))).1 ?_
        refine Go.s_aloadN X9 hx (hb hby d9_81) (q := 82) rfl rfl rfl ?_
        refine Go.getF X9 hx hZ hown (w_ hw 24 rfl) Via.refl e9 P2_v14 (hb hby d9_82) ?_
        intro T19 X19 e19
        show Go p e below _ T19 (mkF m 85 #[.val (.ref A0), .val (.int (1 : Int32)), .val (.int I3), .val (.int (1 : Int32)), .val (.int I3), .val (.int (1 : Int32))] [(.ref A2)])
        refine Go.s_iloadN X19 hx (hb hby d9_85) (q := 86) rfl rfl ?_
        refine Go.ldU X19 hx hZ e19 P6_v17 (by decide) (by decide) (hb hby d9_86) ?_
        intro y20
        show Go p e below _ T19 (mkF m 87 #[.val (.ref A0), .val (.int (1 : Int32)), .val (.int I3), .val (.int (1 : Int32)), .val (.int I3), .val (.int (1 : Int32))] [(.int y20)])
        refine Go.s_iload X19 hx (hb hby d9_87) (q := 89) rfl rfl ?_
        by_cases c89_21 : y20 = I3
        · -- pc 89: y20 = I3
          refine Go.s_icmpYes X19 hx (hb hby d9_89) (q := 127) (by decide) (by decide) (teq c89_21).1 ?_
          refine Go.retV X19 hx hlk hret (hb hby d9_127) (by decide) (by decide) ?_
          try rw [e19]
          exact ⟨rfl, N9, fact_K_v11, U9, P6_v17⟩
        · -- pc 89: not y20 = I3
          refine Go.s_icmpNo X19 hx (hb hby d9_89) (q := 92) rfl (feq c89_21).1 ?_
          refine Go.s_aloadN X19 hx (hb hby d9_92) (q := 93) rfl rfl rfl ?_
          refine Go.getF X19 hx hZ hown (w_ hw 24 rfl) Via.refl e19 P2_v14 (hb hby d9_93) ?_
          intro T22 X22 e22
          show Go p e below _ T22 (mkF m 96 #[.val (.ref A0), .val (.int (1 : Int32)), .val (.int I3), .val (.int (1 : Int32)), .val (.int I3), .val (.int (1 : Int32))] [(.ref A2)])
          refine Go.s_iloadN X22 hx (hb hby d9_96) (q := 97) rfl rfl ?_
          refine Go.s_iload X22 hx (hb hby d9_97) (q := 99) rfl rfl ?_
          refine Go.stU X22 hx hZ e22 P6_v17 (by decide) (by decide) (hb hby d9_99) ?_
          intro T23 h23 X23 e23 W23 U23
          have N23 := Fr.snoc X23 N9 P12
          have Z0_v24 := Nat.le_trans Z0_v10 (Keep.of_wr W23).1
          have fact_K_v25 := fact_K_v11.wr W23 (Or.inl (by simp))
          have P0_v26 := P0_v12.wr W23
          have P1_v27 := P1_v13.other W23 (Or.inl P8)
          have P2_v28 := P2_v14.other W23 (Or.inl P8)
          have P3_v29 := P3_v15.other W23 (Or.inl P8)
          have P4_v30 := P4_v16.other W23 (Or.inl P8)
          have U9_v31 := U9.other W23 P9
          show Go p e below _ T23 (mkF m 100 #[.val (.ref A0), .val (.int (1 : Int32)), .val (.int I3), .val (.int (1 : Int32)), .val (.int I3), .val (.int (1 : Int32))] [])
          refine Go.s_iloadN X23 hx (hb hby d9_100) (q := 101) rfl rfl ?_
          refine Go.s_iconst X23 hx (hb hby d9_101) (q := 102) rfl (z := 1) rfl ?_
          refine Go.s_icmpYes X23 hx (hb hby d9_102) (q := 120) (by decide) (by decide) (flt (by decide : ¬ ((1 : Int32) < (1 : Int32)))).2.2.2 ?_
          refine Go.s_iloadN X23 hx (hb hby d9_120) (q := 121) rfl rfl ?_
          refine Go.s_iconst X23 hx (hb hby d9_121) (q := 122) rfl (z := 1) rfl ?_
          refine Go.s_ishr X23 hx (hb hby d9_122) (q := 123) rfl ?_
          rw [(by decide : ((1 : Int32) >>> ((1 : Int32) &&& 31)) = (0 : Int32))]
          refine Go.s_istoreN X23 hx (hb hby d9_123) (q := 124) rfl (l' := #[.val (.ref A0), .val (.int (1 : Int32)), .val (.int I3), .val (.int (0 : Int32)), .val (.int I3), .val (.int (1 : Int32))]) rfl ?_
          refine Go.s_goto X23 hx (hb hby d9_124) (q := 76) (by decide) (by decide) ?_
          refine Go.s_iloadN X23 hx (hb hby d9_76) (q := 77) rfl rfl ?_
          refine Go.s_iconst X23 hx (hb hby d9_77) (q := 78) rfl (z := 1) rfl ?_
          refine Go.s_icmpYes X23 hx (hb hby d9_78) (q := 127) (by decide) (by decide) (tlt (by decide : (0 : Int32) < (1 : Int32))).1 ?_
          refine Go.retV X23 hx hlk hret (hb hby d9_127) (by decide) (by decide) ?_
          try rw [e23]
          exact ⟨rfl, N23, fact_K_v25, U9_v31, U23⟩
      · -- pc 52: not y3 < I3
        refine Go.s_icmpYes X9 hx (hb hby d9_52) (q := 61) (by decide) (by decide) (flt c52_18).2.2.2 ?_
        refine Go.s_iload X9 hx (hb hby d9_61) (q := 63) rfl rfl ?_
        refine Go.s_ifNo X9 hx (hb hby d9_63) (q := 66) rfl ((if0 _ _).trans (feq (by decide : ¬ ((1 : Int32) = (0 : Int32)))).1) ?_
        refine Go.s_aloadN X9 hx (hb hby d9_66) (q := 67) rfl rfl rfl ?_
        refine Go.s_iloadN X9 hx (hb hby d9_67) (q := 68) rfl rfl ?_
        refine Go.s_bipush X9 hx (hb hby d9_68) (q := 70) rfl (z := 6) rfl ?_
        refine Go.s_ishr X9 hx (hb hby d9_70) (q := 71) rfl ?_
        rw [(by decide : ((1 : Int32) >>> ((6 : Int32) &&& 31)) = (0 : Int32))]
        refine Go.callP (y := mn_11) X9 hx hZ hown (w_ hw 79 rfl) (w_ hw 80 rfl) (w_ hw 81 rfl) (w_ hw 7 rfl) (w_ hw 82 rfl) (w_ hw 8 rfl) (by decide) e9 P0_v12 (argsL := [(.int (0 : Int32))]) (rest := []) (rm_largestIn_25 l Z a0 hw A0 A1 h9 n0 Z0_v10 P3_v15 P4_v16 U9 P7 P10 P11) (by rw [hml]; rfl) (lenOf pd_1 rfl) rfl (hb hby d9_71) (by decide) (by decide) (by decide) (by decide) ?_
        intro r32 T32 L32 q32 X32
        obtain ⟨w0_32, rfl, rfl, e32⟩ := q32
        rw [List.append_nil] at X32
        show Go p e below _ T32 (mkF m 74 #[.val (.ref A0), .val (.int (1 : Int32)), .val (.int I3), .val (.int (1 : Int32)), .val (.int y3), .val (.int (1 : Int32))] [(.int w0_32)])
        refine Go.s_istore X32 hx (hb hby d9_74) (q := 76) rfl (l' := #[.val (.ref A0), .val (.int (1 : Int32)), .val (.int I3), .val (.int (1 : Int32)), .val (.int w0_32), .val (.int (1 : Int32))]) rfl ?_
        refine Go.s_iloadN X32 hx (hb hby d9_76) (q := 77) rfl rfl ?_
        refine Go.s_iconst X32 hx (hb hby d9_77) (q := 78) rfl (z := 1) rfl ?_
        refine Go.s_icmpNo X32 hx (hb hby d9_78) (q := 81) rfl (flt (by decide : ¬ ((1 : Int32) < (1 : Int32)))).1 ?_
        refine Go.s_aloadN X32 hx (hb hby d9_81) (q := 82) rfl rfl rfl ?_
        refine Go.getF X32 hx hZ hown (w_ hw 24 rfl) Via.refl e32 P2_v14 (hb hby d9_82) ?_
        intro T33 X33 e33
        show Go p e below _ T33 (mkF m 85 #[.val (.ref A0), .val (.int (1 : Int32)), .val (.int I3), .val (.int (1 : Int32)), .val (.int w0_32), .val (.int (1 : Int32))] [(.ref A2)])
        refine Go.s_iloadN X33 hx (hb hby d9_85) (q := 86) rfl rfl ?_
        refine Go.ldU X33 hx hZ e33 P6_v17 (by decide) (by decide) (hb hby d9_86) ?_
        intro y34
        show Go p e below _ T33 (mkF m 87 #[.val (.ref A0), .val (.int (1 : Int32)), .val (.int I3), .val (.int (1 : Int32)), .val (.int w0_32), .val (.int (1 : Int32))] [(.int y34)])
        refine Go.s_iload X33 hx (hb hby d9_87) (q := 89) rfl rfl ?_
        by_cases c89_35 : y34 = w0_32
        · -- pc 89: y34 = w0_32
          refine Go.s_icmpYes X33 hx (hb hby d9_89) (q := 127) (by decide) (by decide) (teq c89_35).1 ?_
          refine Go.retV X33 hx hlk hret (hb hby d9_127) (by decide) (by decide) ?_
          try rw [e33]
          exact ⟨rfl, N9, fact_K_v11, U9, P6_v17⟩
        · -- pc 89: not y34 = w0_32
          refine Go.s_icmpNo X33 hx (hb hby d9_89) (q := 92) rfl (feq c89_35).1 ?_
          refine Go.s_aloadN X33 hx (hb hby d9_92) (q := 93) rfl rfl rfl ?_
          refine Go.getF X33 hx hZ hown (w_ hw 24 rfl) Via.refl e33 P2_v14 (hb hby d9_93) ?_
          intro T36 X36 e36
          show Go p e below _ T36 (mkF m 96 #[.val (.ref A0), .val (.int (1 : Int32)), .val (.int I3), .val (.int (1 : Int32)), .val (.int w0_32), .val (.int (1 : Int32))] [(.ref A2)])
          refine Go.s_iloadN X36 hx (hb hby d9_96) (q := 97) rfl rfl ?_
          refine Go.s_iload X36 hx (hb hby d9_97) (q := 99) rfl rfl ?_
          refine Go.stU X36 hx hZ e36 P6_v17 (by decide) (by decide) (hb hby d9_99) ?_
          intro T37 h37 X37 e37 W37 U37
          have N37 := Fr.snoc X37 N9 P12
          have Z0_v38 := Nat.le_trans Z0_v10 (Keep.of_wr W37).1
          have fact_K_v39 := fact_K_v11.wr W37 (Or.inl (by simp))
          have P0_v40 := P0_v12.wr W37
          have P1_v41 := P1_v13.other W37 (Or.inl P8)
          have P2_v42 := P2_v14.other W37 (Or.inl P8)
          have P3_v43 := P3_v15.other W37 (Or.inl P8)
          have P4_v44 := P4_v16.other W37 (Or.inl P8)
          have U9_v45 := U9.other W37 P9
          show Go p e below _ T37 (mkF m 100 #[.val (.ref A0), .val (.int (1 : Int32)), .val (.int I3), .val (.int (1 : Int32)), .val (.int w0_32), .val (.int (1 : Int32))] [])
          refine Go.s_iloadN X37 hx (hb hby d9_100) (q := 101) rfl rfl ?_
          refine Go.s_iconst X37 hx (hb hby d9_101) (q := 102) rfl (z := 1) rfl ?_
          refine Go.s_icmpYes X37 hx (hb hby d9_102) (q := 120) (by decide) (by decide) (flt (by decide : ¬ ((1 : Int32) < (1 : Int32)))).2.2.2 ?_
          refine Go.s_iloadN X37 hx (hb hby d9_120) (q := 121) rfl rfl ?_
          refine Go.s_iconst X37 hx (hb hby d9_121) (q := 122) rfl (z := 1) rfl ?_
          refine Go.s_ishr X37 hx (hb hby d9_122) (q := 123) rfl ?_
          rw [(by decide : ((1 : Int32) >>> ((1 : Int32) &&& 31)) = (0 : Int32))]
          refine Go.s_istoreN X37 hx (hb hby d9_123) (q := 124) rfl (l' := #[.val (.ref A0), .val (.int (1 : Int32)), .val (.int I3), .val (.int (0 : Int32)), .val (.int w0_32), .val (.int (1 : Int32))]) rfl ?_
          refine Go.s_goto X37 hx (hb hby d9_124) (q := 76) (by decide) (by decide) ?_
          refine Go.s_iloadN X37 hx (hb hby d9_76) (q := 77) rfl rfl ?_
          refine Go.s_iconst X37 hx (hb hby d9_77) (q := 78) rfl (z := 1) rfl ?_
          refine Go.s_icmpYes X37 hx (hb hby d9_78) (q := 127) (by decide) (by decide) (tlt (by decide : (0 : Int32) < (1 : Int32))).1 ?_
          refine Go.retV X37 hx hlk hret (hb hby d9_127) (by decide) (by decide) ?_
          try rw [e37]
          exact ⟨rfl, N37, fact_K_v39, U9_v45, U37⟩
    · -- pc 32: not I3 < y3
      refine Go.s_icmpYes X4 hx (hb hby d9_32) (q := 39) (by decide) (by decide) (flt c32_7).2.1 ?_
      refine Go.s_iconst X4 hx (hb hby d9_39) (q := 40) rfl (z := 0) rfl ?_
      refine Go.s_istore X4 hx (hb hby d9_40) (q := 42) rfl (l' := #[.val (.ref A0), .val (.int (1 : Int32)), .val (.int I3), .val (.int (1 : Int32)), .val (.int y3), .val (.int (0 : Int32))]) rfl ?_
      refine Go.s_aloadN X4 hx (hb hby d9_42) (q := 43) rfl rfl rfl ?_
      refine Go.getF X4 hx hZ hown (w_ hw 20 rfl) Via.refl e4 P3 (hb hby d9_43) ?_
      intro T46 X46 e46
      show Go p e below _ T46 (mkF m 46 #[.val (.ref A0), .val (.int (1 : Int32)), .val (.int I3), .val (.int (1 : Int32)), .val (.int y3), .val (.int (0 : Int32))] [(.ref A1)])
      refine Go.s_iloadN X46 hx (hb hby d9_46) (q := 47) rfl rfl ?_
      refine Go.s_iloadN X46 hx (hb hby d9_47) (q := 48) rfl rfl ?_
      refine Go.stU X46 hx hZ e46 P5 (by decide) (by decide) (hb hby d9_48) ?_
      intro T47 h47 X47 e47 W47 U47
      have N47 := Fr.snoc X47 (Fr.nil n0) P11
      have Z0_v48 := Nat.le_trans Z0 (Keep.of_wr W47).1
      have fact_K_v49 := (Keep.refl h0 [A1, A2]).wr W47 (Or.inl (by simp))
      have P0_v50 := P0.wr W47
      have P1_v51 := P1.other W47 (Or.inl P7)
      have P2_v52 := P2.other W47 (Or.inl P7)
      have P3_v53 := P3.other W47 (Or.inl P7)
      have P4_v54 := P4.other W47 (Or.inl P7)
      have P6_v55 := P6.other W47 (Ne.symm P9)
      show Go p e below _ T47 (mkF m 49 #[.val (.ref A0), .val (.int (1 : Int32)), .val (.int I3), .val (.int (1 : Int32)), .val (.int y3), .val (.int (0 : Int32))] [])
      refine Go.s_iloadN X47 hx (hb hby d9_49) (q := 50) rfl rfl ?_
      refine Go.s_iload X47 hx (hb hby d9_50) (q := 52) rfl rfl ?_
      by_cases c52_56 : y3 < I3
      · -- pc 52: y3 < I3
        refine Go.s_icmpNo X47 hx (hb hby d9_52) (q := 55) rfl (tlt c52_56).2.2.2 ?_
        refine Go.s_iloadN X47 hx (hb hby d9_55) (q := 56) rfl rfl ?_
        refine Go.s_istore X47 hx (hb hby d9_56) (q := 58) rfl (l' := #[.val (.ref A0), .val (.int (1 : Int32)), .val (.int I3), .val (.int (1 : Int32)), .val (.int I3), .val (.int (0 : Int32))]) rfl ?_
        refine Go.s_goto X47 hx (hb hby d9_58) (q := 76) (by decide) (by decide) ?_
        refine Go.s_iloadN X47 hx (hb hby d9_76) (q := 77) rfl rfl ?_
        refine Go.s_iconst X47 hx (hb hby d9_77) (q := 78) rfl (z := 1) rfl ?_
        refine Go.s_icmpNo X47 hx (hb hby d9_78) (q := 81) rfl (flt (by decide : ¬ ((1 : Int32) < (1 : Int32)))).1 ?_
        refine Go.s_aloadN X47 hx (hb hby d9_81) (q := 82) rfl rfl rfl ?_
        refine Go.getF X47 hx hZ hown (w_ hw 24 rfl) Via.refl e47 P2_v52 (hb hby d9_82) ?_
        intro T57 X57 e57
        show Go p e below _ T57 (mkF m 85 #[.val (.ref A0), .val (.int (1 : Int32)), .val (.int I3), .val (.int (1 : Int32)), .val (.int I3), .val (.int (0 : Int32))] [(.ref A2)])
        refine Go.s_iloadN X57 hx (hb hby d9_85) (q := 86) rfl rfl ?_
        refine Go.ldU X57 hx hZ e57 P6_v55 (by decide) (by decide) (hb hby d9_86) ?_
        intro y58
        show Go p e below _ T57 (mkF m 87 #[.val (.ref A0), .val (.int (1 : Int32)), .val (.int I3), .val (.int (1 : Int32)), .val (.int I3), .val (.int (0 : Int32))] [(.int y58)])
        refine Go.s_iload X57 hx (hb hby d9_87) (q := 89) rfl rfl ?_
        by_cases c89_59 : y58 = I3
        · -- pc 89: y58 = I3
          refine Go.s_icmpYes X57 hx (hb hby d9_89) (q := 127) (by decide) (by decide) (teq c89_59).1 ?_
          refine Go.retV X57 hx hlk hret (hb hby d9_127) (by decide) (by decide) ?_
          try rw [e57]
          exact ⟨rfl, N47, fact_K_v49, U47, P6_v55⟩
        · -- pc 89: not y58 = I3
          refine Go.s_icmpNo X57 hx (hb hby d9_89) (q := 92) rfl (feq c89_59).1 ?_
          refine Go.s_aloadN X57 hx (hb hby d9_92) (q := 93) rfl rfl rfl ?_
          refine Go.getF X57 hx hZ hown (w_ hw 24 rfl) Via.refl e57 P2_v52 (hb hby d9_93) ?_
          intro T60 X60 e60
          show Go p e below _ T60 (mkF m 96 #[.val (.ref A0), .val (.int (1 : Int32)), .val (.int I3), .val (.int (1 : Int32)), .val (.int I3), .val (.int (0 : Int32))] [(.ref A2)])
          refine Go.s_iloadN X60 hx (hb hby d9_96) (q := 97) rfl rfl ?_
          refine Go.s_iload X60 hx (hb hby d9_97) (q := 99) rfl rfl ?_
          refine Go.stU X60 hx hZ e60 P6_v55 (by decide) (by decide) (hb hby d9_99) ?_
          intro T61 h61 X61 e61 W61 U61
          have N61 := Fr.snoc X61 N47 P12
          have Z0_v62 := Nat.le_trans Z0_v48 (Keep.of_wr W61).1
          have fact_K_v63 := fact_K_v49.wr W61 (Or.inl (by simp))
          have P0_v64 := P0_v50.wr W61
          have P1_v65 := P1_v51.other W61 (Or.inl P8)
          have P2_v66 := P2_v52.other W61 (Or.inl P8)
          have P3_v67 := P3_v53.other W61 (Or.inl P8)
          have P4_v68 := P4_v54.other W61 (Or.inl P8)
          have U47_v69 := U47.other W61 P9
          show Go p e below _ T61 (mkF m 100 #[.val (.ref A0), .val (.int (1 : Int32)), .val (.int I3), .val (.int (1 : Int32)), .val (.int I3), .val (.int (0 : Int32))] [])
          refine Go.s_iloadN X61 hx (hb hby d9_100) (q := 101) rfl rfl ?_
          refine Go.s_iconst X61 hx (hb hby d9_101) (q := 102) rfl (z := 1) rfl ?_
          refine Go.s_icmpYes X61 hx (hb hby d9_102) (q := 120) (by decide) (by decide) (flt (by decide : ¬ ((1 : Int32) < (1 : Int32)))).2.2.2 ?_
          refine Go.s_iloadN X61 hx (hb hby d9_120) (q := 121) rfl rfl ?_
          refine Go.s_iconst X61 hx (hb hby d9_121) (q := 122) rfl (z := 1) rfl ?_
          refine Go.s_ishr X61 hx (hb hby d9_122) (q := 123) rfl ?_
          rw [(by decide : ((1 : Int32) >>> ((1 : Int32) &&& 31)) = (0 : Int32))]
          refine Go.s_istoreN X61 hx (hb hby d9_123) (q := 124) rfl (l' := #[.val (.ref A0), .val (.int (1 : Int32)), .val (.int I3), .val (.int (0 : Int32)), .val (.int I3), .val (.int (0 : Int32))]) rfl ?_
          refine Go.s_goto X61 hx (hb hby d9_124) (q := 76) (by decide) (by decide) ?_
          refine Go.s_iloadN X61 hx (hb hby d9_76) (q := 77) rfl rfl ?_
          refine Go.s_iconst X61 hx (hb hby d9_77) (q := 78) rfl (z := 1) rfl ?_
          refine Go.s_icmpYes X61 hx (hb hby d9_78) (q := 127) (by decide) (by decide) (tlt (by decide : (0 : Int32) < (1 : Int32))).1 ?_
          refine Go.retV X61 hx hlk hret (hb hby d9_127) (by decide) (by decide) ?_
          try rw [e61]
          exact ⟨rfl, N61, fact_K_v63, U47_v69, U61⟩
      · -- pc 52: not y3 < I3
        refine Go.s_icmpYes X47 hx (hb hby d9_52) (q := 61) (by decide) (by decide) (flt c52_56).2.2.2 ?_
        refine Go.s_iload X47 hx (hb hby d9_61) (q := 63) rfl rfl ?_
        refine Go.s_ifYes X47 hx (hb hby d9_63) (q := 76) (by decide) (by decide) ((if0 _ _).trans (teq (by decide : (0 : Int32) = (0 : Int32))).1) ?_
        refine Go.s_iloadN X47 hx (hb hby d9_76) (q := 77) rfl rfl ?_
        refine Go.s_iconst X47 hx (hb hby d9_77) (q := 78) rfl (z := 1) rfl ?_
        refine Go.s_icmpNo X47 hx (hb hby d9_78) (q := 81) rfl (flt (by decide : ¬ ((1 : Int32) < (1 : Int32)))).1 ?_
        refine Go.s_aloadN X47 hx (hb hby d9_81) (q := 82) rfl rfl rfl ?_
        refine Go.getF X47 hx hZ hown (w_ hw 24 rfl) Via.refl e47 P2_v52 (hb hby d9_82) ?_
        intro T70 X70 e70
        show Go p e below _ T70 (mkF m 85 #[.val (.ref A0), .val (.int (1 : Int32)), .val (.int I3), .val (.int (1 : Int32)), .val (.int y3), .val (.int (0 : Int32))] [(.ref A2)])
        refine Go.s_iloadN X70 hx (hb hby d9_85) (q := 86) rfl rfl ?_
        refine Go.ldU X70 hx hZ e70 P6_v55 (by decide) (by decide) (hb hby d9_86) ?_
        intro y71
        show Go p e below _ T70 (mkF m 87 #[.val (.ref A0), .val (.int (1 : Int32)), .val (.int I3), .val (.int (1 : Int32)), .val (.int y3), .val (.int (0 : Int32))] [(.int y71)])
        refine Go.s_iload X70 hx (hb hby d9_87) (q := 89) rfl rfl ?_
        by_cases c89_72 : y71 = y3
        · -- pc 89: y71 = y3
          refine Go.s_icmpYes X70 hx (hb hby d9_89) (q := 127) (by decide) (by decide) (teq c89_72).1 ?_
          refine Go.retV X70 hx hlk hret (hb hby d9_127) (by decide) (by decide) ?_
          try rw [e70]
          exact ⟨rfl, N47, fact_K_v49, U47, P6_v55⟩
        · -- pc 89: not y71 = y3
          refine Go.s_icmpNo X70 hx (hb hby d9_89) (q := 92) rfl (feq c89_72).1 ?_
          refine Go.s_aloadN X70 hx (hb hby d9_92) (q := 93) rfl rfl rfl ?_
          refine Go.getF X70 hx hZ hown (w_ hw 24 rfl) Via.refl e70 P2_v52 (hb hby d9_93) ?_
          intro T73 X73 e73
          show Go p e below _ T73 (mkF m 96 #[.val (.ref A0), .val (.int (1 : Int32)), .val (.int I3), .val (.int (1 : Int32)), .val (.int y3), .val (.int (0 : Int32))] [(.ref A2)])
          refine Go.s_iloadN X73 hx (hb hby d9_96) (q := 97) rfl rfl ?_
          refine Go.s_iload X73 hx (hb hby d9_97) (q := 99) rfl rfl ?_
          refine Go.stU X73 hx hZ e73 P6_v55 (by decide) (by decide) (hb hby d9_99) ?_
          intro T74 h74 X74 e74 W74 U74
          have N74 := Fr.snoc X74 N47 P12
          have Z0_v75 := Nat.le_trans Z0_v48 (Keep.of_wr W74).1
          have fact_K_v76 := fact_K_v49.wr W74 (Or.inl (by simp))
          have P0_v77 := P0_v50.wr W74
          have P1_v78 := P1_v51.other W74 (Or.inl P8)
          have P2_v79 := P2_v52.other W74 (Or.inl P8)
          have P3_v80 := P3_v53.other W74 (Or.inl P8)
          have P4_v81 := P4_v54.other W74 (Or.inl P8)
          have U47_v82 := U47.other W74 P9
          show Go p e below _ T74 (mkF m 100 #[.val (.ref A0), .val (.int (1 : Int32)), .val (.int I3), .val (.int (1 : Int32)), .val (.int y3), .val (.int (0 : Int32))] [])
          refine Go.s_iloadN X74 hx (hb hby d9_100) (q := 101) rfl rfl ?_
          refine Go.s_iconst X74 hx (hb hby d9_101) (q := 102) rfl (z := 1) rfl ?_
          refine Go.s_icmpYes X74 hx (hb hby d9_102) (q := 120) (by decide) (by decide) (flt (by decide : ¬ ((1 : Int32) < (1 : Int32)))).2.2.2 ?_
          refine Go.s_iloadN X74 hx (hb hby d9_120) (q := 121) rfl rfl ?_
          refine Go.s_iconst X74 hx (hb hby d9_121) (q := 122) rfl (z := 1) rfl ?_
          refine Go.s_ishr X74 hx (hb hby d9_122) (q := 123) rfl ?_
          rw [(by decide : ((1 : Int32) >>> ((1 : Int32) &&& 31)) = (0 : Int32))]
          refine Go.s_istoreN X74 hx (hb hby d9_123) (q := 124) rfl (l' := #[.val (.ref A0), .val (.int (1 : Int32)), .val (.int I3), .val (.int (0 : Int32)), .val (.int y3), .val (.int (0 : Int32))]) rfl ?_
          refine Go.s_goto X74 hx (hb hby d9_124) (q := 76) (by decide) (by decide) ?_
          refine Go.s_iloadN X74 hx (hb hby d9_76) (q := 77) rfl rfl ?_
          refine Go.s_iconst X74 hx (hb hby d9_77) (q := 78) rfl (z := 1) rfl ?_
          refine Go.s_icmpYes X74 hx (hb hby d9_78) (q := 127) (by decide) (by decide) (tlt (by decide : (0 : Int32) < (1 : Int32))).1 ?_
          refine Go.retV X74 hx hlk hret (hb hby d9_127) (by decide) (by decide) ?_
          try rw [e74]
          exact ⟨rfl, N74, fact_K_v76, U47_v82, U74⟩
  · -- pc 26: not y5 = y3
    refine Go.s_icmpYes X4 hx (hb hby d9_26) (q := 39) (by decide) (by decide) (feq c26_6).2 ?_
    refine Go.s_iconst X4 hx (hb hby d9_39) (q := 40) rfl (z := 0) rfl ?_
    refine Go.s_istore X4 hx (hb hby d9_40) (q := 42) rfl (l' := #[.val (.ref A0), .val (.int (1 : Int32)), .val (.int I3), .val (.int (1 : Int32)), .val (.int y3), .val (.int (0 : Int32))]) rfl ?_
    refine Go.s_aloadN X4 hx (hb hby d9_42) (q := 43) rfl rfl rfl ?_
    refine Go.getF X4 hx hZ hown (w_ hw 20 rfl) Via.refl e4 P3 (hb hby d9_43) ?_
    intro T83 X83 e83
    show Go p e below _ T83 (mkF m 46 #[.val (.ref A0), .val (.int (1 : Int32)), .val (.int I3), .val (.int (1 : Int32)), .val (.int y3), .val (.int (0 : Int32))] [(.ref A1)])
    refine Go.s_iloadN X83 hx (hb hby d9_46) (q := 47) rfl rfl ?_
    refine Go.s_iloadN X83 hx (hb hby d9_47) (q := 48) rfl rfl ?_
    refine Go.stU X83 hx hZ e83 P5 (by decide) (by decide) (hb hby d9_48) ?_
    intro T84 h84 X84 e84 W84 U84
    have N84 := Fr.snoc X84 (Fr.nil n0) P11
    have Z0_v85 := Nat.le_trans Z0 (Keep.of_wr W84).1
    have fact_K_v86 := (Keep.refl h0 [A1, A2]).wr W84 (Or.inl (by simp))
    have P0_v87 := P0.wr W84
    have P1_v88 := P1.other W84 (Or.inl P7)
    have P2_v89 := P2.other W84 (Or.inl P7)
    have P3_v90 := P3.other W84 (Or.inl P7)
    have P4_v91 := P4.other W84 (Or.inl P7)
    have P6_v92 := P6.other W84 (Ne.symm P9)
    show Go p e below _ T84 (mkF m 49 #[.val (.ref A0), .val (.int (1 : Int32)), .val (.int I3), .val (.int (1 : Int32)), .val (.int y3), .val (.int (0 : Int32))] [])
    refine Go.s_iloadN X84 hx (hb hby d9_49) (q := 50) rfl rfl ?_
    refine Go.s_iload X84 hx (hb hby d9_50) (q := 52) rfl rfl ?_
    by_cases c52_93 : y3 < I3
    · -- pc 52: y3 < I3
      refine Go.s_icmpNo X84 hx (hb hby d9_52) (q := 55) rfl (tlt c52_93).2.2.2 ?_
      refine Go.s_iloadN X84 hx (hb hby d9_55) (q := 56) rfl rfl ?_
      refine Go.s_istore X84 hx (hb hby d9_56) (q := 58) rfl (l' := #[.val (.ref A0), .val (.int (1 : Int32)), .val (.int I3), .val (.int (1 : Int32)), .val (.int I3), .val (.int (0 : Int32))]) rfl ?_
      refine Go.s_goto X84 hx (hb hby d9_58) (q := 76) (by decide) (by decide) ?_
      refine Go.s_iloadN X84 hx (hb hby d9_76) (q := 77) rfl rfl ?_
      refine Go.s_iconst X84 hx (hb hby d9_77) (q := 78) rfl (z := 1) rfl ?_
      refine Go.s_icmpNo X84 hx (hb hby d9_78) (q := 81) rfl (flt (by decide : ¬ ((1 : Int32) < (1 : Int32)))).1 ?_
      refine Go.s_aloadN X84 hx (hb hby d9_81) (q := 82) rfl rfl rfl ?_
      refine Go.getF X84 hx hZ hown (w_ hw 24 rfl) Via.refl e84 P2_v89 (hb hby d9_82) ?_
      intro T94 X94 e94
      show Go p e below _ T94 (mkF m 85 #[.val (.ref A0), .val (.int (1 : Int32)), .val (.int I3), .val (.int (1 : Int32)), .val (.int I3), .val (.int (0 : Int32))] [(.ref A2)])
      refine Go.s_iloadN X94 hx (hb hby d9_85) (q := 86) rfl rfl ?_
      refine Go.ldU X94 hx hZ e94 P6_v92 (by decide) (by decide) (hb hby d9_86) ?_
      intro y95
      show Go p e below _ T94 (mkF m 87 #[.val (.ref A0), .val (.int (1 : Int32)), .val (.int I3), .val (.int (1 : Int32)), .val (.int I3), .val (.int (0 : Int32))] [(.int y95)])
      refine Go.s_iload X94 hx (hb hby d9_87) (q := 89) rfl rfl ?_
      by_cases c89_96 : y95 = I3
      · -- pc 89: y95 = I3
        refine Go.s_icmpYes X94 hx (hb hby d9_89) (q := 127) (by decide) (by decide) (teq c89_96).1 ?_
        refine Go.retV X94 hx hlk hret (hb hby d9_127) (by decide) (by decide) ?_
        try rw [e94]
        exact ⟨rfl, N84, fact_K_v86, U84, P6_v92⟩
      · -- pc 89: not y95 = I3
        refine Go.s_icmpNo X94 hx (hb hby d9_89) (q := 92) rfl (feq c89_96).1 ?_
        refine Go.s_aloadN X94 hx (hb hby d9_92) (q := 93) rfl rfl rfl ?_
        refine Go.getF X94 hx hZ hown (w_ hw 24 rfl) Via.refl e94 P2_v89 (hb hby d9_93) ?_
        intro T97 X97 e97
        show Go p e below _ T97 (mkF m 96 #[.val (.ref A0), .val (.int (1 : Int32)), .val (.int I3), .val (.int (1 : Int32)), .val (.int I3), .val (.int (0 : Int32))] [(.ref A2)])
        refine Go.s_iloadN X97 hx (hb hby d9_96) (q := 97) rfl rfl ?_
        refine Go.s_iload X97 hx (hb hby d9_97) (q := 99) rfl rfl ?_
        refine Go.stU X97 hx hZ e97 P6_v92 (by decide) (by decide) (hb hby d9_99) ?_
        intro T98 h98 X98 e98 W98 U98
        have N98 := Fr.snoc X98 N84 P12
        have Z0_v99 := Nat.le_trans Z0_v85 (Keep.of_wr W98).1
        have fact_K_v100 := fact_K_v86.wr W98 (Or.inl (by simp))
        have P0_v101 := P0_v87.wr W98
        have P1_v102 := P1_v88.other W98 (Or.inl P8)
        have P2_v103 := P2_v89.other W98 (Or.inl P8)
        have P3_v104 := P3_v90.other W98 (Or.inl P8)
        have P4_v105 := P4_v91.other W98 (Or.inl P8)
        have U84_v106 := U84.other W98 P9
        show Go p e below _ T98 (mkF m 100 #[.val (.ref A0), .val (.int (1 : Int32)), .val (.int I3), .val (.int (1 : Int32)), .val (.int I3), .val (.int (0 : Int32))] [])
        refine Go.s_iloadN X98 hx (hb hby d9_100) (q := 101) rfl rfl ?_
        refine Go.s_iconst X98 hx (hb hby d9_101) (q := 102) rfl (z := 1) rfl ?_
        refine Go.s_icmpYes X98 hx (hb hby d9_102) (q := 120) (by decide) (by decide) (flt (by decide : ¬ ((1 : Int32) < (1 : Int32)))).2.2.2 ?_
        refine Go.s_iloadN X98 hx (hb hby d9_120) (q := 121) rfl rfl ?_
        refine Go.s_iconst X98 hx (hb hby d9_121) (q := 122) rfl (z := 1) rfl ?_
        refine Go.s_ishr X98 hx (hb hby d9_122) (q := 123) rfl ?_
        rw [(by decide : ((1 : Int32) >>> ((1 : Int32) &&& 31)) = (0 : Int32))]
        refine Go.s_istoreN X98 hx (hb hby d9_123) (q := 124) rfl (l' := #[.val (.ref A0), .val (.int (1 : Int32)), .val (.int I3), .val (.int (0 : Int32)), .val (.int I3), .val (.int (0 : Int32))]) rfl ?_
        refine Go.s_goto X98 hx (hb hby d9_124) (q := 76) (by decide) (by decide) ?_
        refine Go.s_iloadN X98 hx (hb hby d9_76) (q := 77) rfl rfl ?_
        refine Go.s_iconst X98 hx (hb hby d9_77) (q := 78) rfl (z := 1) rfl ?_
        refine Go.s_icmpYes X98 hx (hb hby d9_78) (q := 127) (by decide) (by decide) (tlt (by decide : (0 : Int32) < (1 : Int32))).1 ?_
        refine Go.retV X98 hx hlk hret (hb hby d9_127) (by decide) (by decide) ?_
        try rw [e98]
        exact ⟨rfl, N98, fact_K_v100, U84_v106, U98⟩
    · -- pc 52: not y3 < I3
      refine Go.s_icmpYes X84 hx (hb hby d9_52) (q := 61) (by decide) (by decide) (flt c52_93).2.2.2 ?_
      refine Go.s_iload X84 hx (hb hby d9_61) (q := 63) rfl rfl ?_
      refine Go.s_ifYes X84 hx (hb hby d9_63) (q := 76) (by decide) (by decide) ((if0 _ _).trans (teq (by decide : (0 : Int32) = (0 : Int32))).1) ?_
      refine Go.s_iloadN X84 hx (hb hby d9_76) (q := 77) rfl rfl ?_
      refine Go.s_iconst X84 hx (hb hby d9_77) (q := 78) rfl (z := 1) rfl ?_
      refine Go.s_icmpNo X84 hx (hb hby d9_78) (q := 81) rfl (flt (by decide : ¬ ((1 : Int32) < (1 : Int32)))).1 ?_
      refine Go.s_aloadN X84 hx (hb hby d9_81) (q := 82) rfl rfl rfl ?_
      refine Go.getF X84 hx hZ hown (w_ hw 24 rfl) Via.refl e84 P2_v89 (hb hby d9_82) ?_
      intro T107 X107 e107
      show Go p e below _ T107 (mkF m 85 #[.val (.ref A0), .val (.int (1 : Int32)), .val (.int I3), .val (.int (1 : Int32)), .val (.int y3), .val (.int (0 : Int32))] [(.ref A2)])
      refine Go.s_iloadN X107 hx (hb hby d9_85) (q := 86) rfl rfl ?_
      refine Go.ldU X107 hx hZ e107 P6_v92 (by decide) (by decide) (hb hby d9_86) ?_
      intro y108
      show Go p e below _ T107 (mkF m 87 #[.val (.ref A0), .val (.int (1 : Int32)), .val (.int I3), .val (.int (1 : Int32)), .val (.int y3), .val (.int (0 : Int32))] [(.int y108)])
      refine Go.s_iload X107 hx (hb hby d9_87) (q := 89) rfl rfl ?_
      by_cases c89_109 : y108 = y3
      · -- pc 89: y108 = y3
        refine Go.s_icmpYes X107 hx (hb hby d9_89) (q := 127) (by decide) (by decide) (teq c89_109).1 ?_
        refine Go.retV X107 hx hlk hret (hb hby d9_127) (by decide) (by decide) ?_
        try rw [e107]
        exact ⟨rfl, N84, fact_K_v86, U84, P6_v92⟩
      · -- pc 89: not y108 = y3
        refine Go.s_icmpNo X107 hx (hb hby d9_89) (q := 92) rfl (feq c89_109).1 ?_
        refine Go.s_aloadN X107 hx (hb hby d9_92) (q := 93) rfl rfl rfl ?_
        refine Go.getF X107 hx hZ hown (w_ hw 24 rfl) Via.refl e107 P2_v89 (hb hby d9_93) ?_
        intro T110 X110 e110
        show Go p e below _ T110 (mkF m 96 #[.val (.ref A0), .val (.int (1 : Int32)), .val (.int I3), .val (.int (1 : Int32)), .val (.int y3), .val (.int (0 : Int32))] [(.ref A2)])
        refine Go.s_iloadN X110 hx (hb hby d9_96) (q := 97) rfl rfl ?_
        refine Go.s_iload X110 hx (hb hby d9_97) (q := 99) rfl rfl ?_
        refine Go.stU X110 hx hZ e110 P6_v92 (by decide) (by decide) (hb hby d9_99) ?_
        intro T111 h111 X111 e111 W111 U111
        have N111 := Fr.snoc X111 N84 P12
        have Z0_v112 := Nat.le_trans Z0_v85 (Keep.of_wr W111).1
        have fact_K_v113 := fact_K_v86.wr W111 (Or.inl (by simp))
        have P0_v114 := P0_v87.wr W111
        have P1_v115 := P1_v88.other W111 (Or.inl P8)
        have P2_v116 := P2_v89.other W111 (Or.inl P8)
        have P3_v117 := P3_v90.other W111 (Or.inl P8)
        have P4_v118 := P4_v91.other W111 (Or.inl P8)
        have U84_v119 := U84.other W111 P9
        show Go p e below _ T111 (mkF m 100 #[.val (.ref A0), .val (.int (1 : Int32)), .val (.int I3), .val (.int (1 : Int32)), .val (.int y3), .val (.int (0 : Int32))] [])
        refine Go.s_iloadN X111 hx (hb hby d9_100) (q := 101) rfl rfl ?_
        refine Go.s_iconst X111 hx (hb hby d9_101) (q := 102) rfl (z := 1) rfl ?_
        refine Go.s_icmpYes X111 hx (hb hby d9_102) (q := 120) (by decide) (by decide) (flt (by decide : ¬ ((1 : Int32) < (1 : Int32)))).2.2.2 ?_
        refine Go.s_iloadN X111 hx (hb hby d9_120) (q := 121) rfl rfl ?_
        refine Go.s_iconst X111 hx (hb hby d9_121) (q := 122) rfl (z := 1) rfl ?_
        refine Go.s_ishr X111 hx (hb hby d9_122) (q := 123) rfl ?_
        rw [(by decide : ((1 : Int32) >>> ((1 : Int32) &&& 31)) = (0 : Int32))]
        refine Go.s_istoreN X111 hx (hb hby d9_123) (q := 124) rfl (l' := #[.val (.ref A0), .val (.int (1 : Int32)), .val (.int I3), .val (.int (0 : Int32)), .val (.int y3), .val (.int (0 : Int32))]) rfl ?_
        refine Go.s_goto X111 hx (hb hby d9_124) (q := 76) (by decide) (by decide) ?_
        refine Go.s_iloadN X111 hx (hb hby d9_76) (q := 77) rfl rfl ?_
        refine Go.s_iconst X111 hx (hb hby d9_77) (q := 78) rfl (z := 1) rfl ?_
        refine Go.s_icmpYes X111 hx (hb hby d9_78) (q := 127) (by decide) (by decide) (tlt (by decide : (0 : Int32) < (1 : Int32))).1 ?_
        refine Go.retV X111 hx hlk hret (hb hby d9_127) (by decide) (by decide) ?_
        try rw [e111]
        exact ⟨rfl, N111, fact_K_v113, U84_v119, U111⟩
theorem ef_add_22 (m : MethodId) (x0 : Addr) (x1 : Addr) : entryFrame m #[(.ref x0), (.ref x1)] 2 = mkF m 0 #[.val (.ref x0), .val (.ref x1)] [] := by first | (simp [entryFrame, mkF, argsToLocals, Value.category]; done) | rfl
set_option maxRecDepth 65536 in
set_option maxHeartbeats 40000000 in
theorem rm_add_22 (l : Launch) (Z : State) (a0 : Array Value) (hw : ∀ d ∈ tables_1, d.before a0 Z = true)  (A0 : Addr) (A1 : Addr) (A2 : Addr) (A3 : Addr) (A4 : Addr) (J5 : Int64) (I6 : Int32) (k7 : ClassId) (A8 : Addr) (h0 : Heap) (n0 : Nat) (Z0 : n0 ≤ h0.size) (P0 : Exa Z h0 A0 "com/example/pennybreak/pennybreak/simplebook/OrderQueue") (P1 : Exa Z h0 A4 "com/example/pennybreak/pennybreak/simplebook/RestingOrder") (P2 : Fld Z h0 A0 "com/example/pennybreak/pennybreak/simplebook/OrderQueue" "blocks" "I" (.int (1 : Int32))) (P3 : Fld Z h0 A0 "com/example/pennybreak/pennybreak/simplebook/OrderQueue" "count" "I" (.int (1 : Int32))) (P4 : Fld Z h0 A0 "com/example/pennybreak/pennybreak/simplebook/OrderQueue" "front" "I" (.int (0 : Int32))) (P5 : Fld Z h0 A0 "com/example/pennybreak/pennybreak/simplebook/OrderQueue" "largest" "[I" (.ref A3)) (P6 : Fld Z h0 A0 "com/example/pennybreak/pennybreak/simplebook/OrderQueue" "open" "J" (.long J5)) (P7 : Fld Z h0 A0 "com/example/pennybreak/pennybreak/simplebook/OrderQueue" "sizes" "[I" (.ref A2)) (P8 : Fld Z h0 A0 "com/example/pennybreak/pennybreak/simplebook/OrderQueue" "slots" "[Lcom/example/pennybreak/pennybreak/simplebook/RestingOrder;" (.ref A1)) (P9 : Fld Z h0 A0 "com/example/pennybreak/pennybreak/simplebook/OrderQueue" "used" "I" (.int (1 : Int32))) (P10 : Fld Z h0 A4 "com/example/pennybreak/pennybreak/simplebook/RestingOrder" "openSize" "I" (.int I6)) (P11 : Fld Z h0 A4 "com/example/pennybreak/pennybreak/simplebook/RestingOrder" "slot" "I" (.int (0 : Int32))) (P12 : Arv Z h0 A1 k7 (.object "com/example/pennybreak/pennybreak/simplebook/RestingOrder") (4 : Int32) [(.ref A8), .null, .null, .null] .null) (P13 : UA Z h0 A2 4) (P14 : UA Z h0 A3 2) (P15 : Ovr Z k7 "com/example/pennybreak/pennybreak/simplebook/RestingOrder") (P16 : A0 ≠ A1) (P17 : A0 ≠ A2) (P18 : A0 ≠ A3) (P19 : A0 ≠ A4) (P20 : A2 ≠ A1) (P21 : A2 ≠ A3) (P22 : A3 ≠ A1) (P23 : A4 ≠ A1) (P24 : A4 ≠ A2) (P25 : A4 ≠ A3) (P26 : n0 ≤ A0) (P27 : n0 ≤ A1) (P28 : n0 ≤ A2) (P29 : n0 ≤ A3) (P30 : n0 ≤ A4) :
    Ct l mn_6 prog_98_method_2_code 2 none ({ frames := 3, cells := 0, slots := 0, locals := 60 } : Room) Z h0 #[(.ref A0), (.ref A4)] (fun v h L => ∃ w0 : Int64, v = none ∧ Fr n0 L ∧ Keep h0 h [A0, A1, A2, A3, A4] ∧ Exa Z h A0 "com/example/pennybreak/pennybreak/simplebook/OrderQueue" ∧ Exa Z h A4 "com/example/pennybreak/pennybreak/simplebook/RestingOrder" ∧ Fld Z h A0 "com/example/pennybreak/pennybreak/simplebook/OrderQueue" "blocks" "I" (.int (1 : Int32)) ∧ Fld Z h A0 "com/example/pennybreak/pennybreak/simplebook/OrderQueue" "count" "I" (.int (2 : Int32)) ∧ Fld Z h A0 "com/example/pennybreak/pennybreak/simplebook/OrderQueue" "front" "I" (.int (0 : Int32)) ∧ Fld Z h A0 "com/example/pennybreak/pennybreak/simplebook/OrderQueue" "largest" "[I" (.ref A3) ∧ Fld Z h A0 "com/example/pennybreak/pennybreak/simplebook/OrderQueue" "open" "J" (.long w0) ∧ Fld Z h A0 "com/example/pennybreak/pennybreak/simplebook/OrderQueue" "sizes" "[I" (.ref A2) ∧ Fld Z h A0 "com/example/pennybreak/pennybreak/simplebook/OrderQueue" "slots" "[Lcom/example/pennybreak/pennybreak/simplebook/RestingOrder;" (.ref A1) ∧ Fld Z h A0 "com/example/pennybreak/pennybreak/simplebook/OrderQueue" "used" "I" (.int (2 : Int32)) ∧ Fld Z h A4 "com/example/pennybreak/pennybreak/simplebook/RestingOrder" "openSize" "I" (.int I6) ∧ Fld Z h A4 "com/example/pennybreak/pennybreak/simplebook/RestingOrder" "slot" "I" (.int (1 : Int32)) ∧ Arv Z h A1 k7 (.object "com/example/pennybreak/pennybreak/simplebook/RestingOrder") (4 : Int32) [(.ref A8), (.ref A4), .null, .null] .null ∧ UA Z h A2 4 ∧ UA Z h A3 2 ∧ Ovr Z k7 "com/example/pennybreak/pennybreak/simplebook/RestingOrder") := by
  refine Ct.body (plainFor_of_name pn_com_example_pennybreak_pennybreak_simplebook_OrderQueue) ?_
  intro p e s m below meth c T0 hx hby hml hown hnm hret hlk hZ X0 e0
  refine Go.cast (ef_add_22 m A0 A4) ?_
  show Go p e below _ T0 (mkF m 0 #[.val (.ref A0), .val (.ref A4)] [])
  refine Go.s_aloadN X0 hx (hb hby d6_0) (q := 1) rfl rfl rfl ?_
  refine Go.getF X0 hx hZ hown (w_ hw 47 rfl) Via.refl e0 P9 (hb hby d6_1) ?_
  intro T1 X1 e1
  show Go p e below _ T1 (mkF m 4 #[.val (.ref A0), .val (.ref A4)] [(.int (1 : Int32))])
  refine Go.s_aloadN X1 hx (hb hby d6_4) (q := 5) rfl rfl rfl ?_
  refine Go.getF X1 hx hZ hown (w_ hw 17 rfl) Via.refl e1 P8 (hb hby d6_5) ?_
  intro T2 X2 e2
  show Go p e below _ T2 (mkF m 8 #[.val (.ref A0), .val (.ref A4)] [(.ref A1), (.int (1 : Int32))])
  refine Go.len X2 hx hZ e2 P12 (hb hby d6_8) ?_
  show Go p e below _ T2 (mkF m 9 #[.val (.ref A0), .val (.ref A4)] [(.int (4 : Int32)), (.int (1 : Int32))])
  refine Go.s_icmpYes X2 hx (hb hby d6_9) (q := 16) (by decide) (by decide) (feq (by decide : ¬ ((1 : Int32) = (4 : Int32)))).2 ?_
  refine Go.s_aloadN X2 hx (hb hby d6_16) (q := 17) rfl rfl rfl ?_
  refine Go.s_aloadN X2 hx (hb hby d6_17) (q := 18) rfl rfl rfl ?_
  refine Go.s_dup X2 hx (hb hby d6_18) (q := 19) rfl rfl ?_
  refine Go.getF X2 hx hZ hown (w_ hw 47 rfl) Via.refl e2 P9 (hb hby d6_19) ?_
  intro T3 X3 e3
  show Go p e below _ T3 (mkF m 22 #[.val (.ref A0), .val (.ref A4)] [(.int (1 : Int32)), (.ref A0), (.ref A4)])
  refine Go.s_dup_x1 X3 hx (hb hby d6_22) (q := 23) rfl rfl rfl ?_
  refine Go.s_iconst X3 hx (hb hby d6_23) (q := 24) rfl (z := 1) rfl ?_
  refine Go.s_iadd X3 hx (hb hby d6_24) (q := 25) rfl ?_
  rw [(by decide : ((1 : Int32) + (1 : Int32)) = (2 : Int32))]
  refine Go.putF X3 hx hZ hown (w_ hw 47 rfl) Via.refl e3 P9 P0 (Or.inl (w_ hw 48 rfl)) (w_ hw 7 rfl) (ty := .int) (by decide) rfl rfl (hb hby d6_25) ?_
  intro T4 h4 X4 e4 W4
  have N4 := Fr.snoc X4 (Fr.nil n0) P26
  have Z0_v5 := Nat.le_trans Z0 (Keep.of_wr W4).1
  have fact_K_v6 := (Keep.refl h0 [A0, A1, A2, A3, A4]).wr W4 (Or.inl (by simp))
  have P0_v7 := P0.wr W4
  have P1_v8 := P1.wr W4
  have P2_v9 := P2.other W4 (Or.inr (slot_ne (Or.inl (w_ hw 23 rfl)) (Or.inl (w_ hw 48 rfl)) (by decide) (t := .int) (t' := .int) (by decide) (by decide)))
  have P3_v10 := P3.other W4 (Or.inr (slot_ne (Or.inl (w_ hw 59 rfl)) (Or.inl (w_ hw 48 rfl)) (by decide) (t := .int) (t' := .int) (by decide) (by decide)))
  have P4_v11 := P4.other W4 (Or.inr (slot_ne (Or.inl (w_ hw 65 rfl)) (Or.inl (w_ hw 48 rfl)) (by decide) (t := .int) (t' := .int) (by decide) (by decide)))
  have P5_v12 := P5.other W4 (Or.inr (slot_ne (Or.inl (w_ hw 25 rfl)) (Or.inl (w_ hw 48 rfl)) (by decide) (t := (.array .int)) (t' := .int) (by decide) (by decide)))
  have P6_v13 := P6.other W4 (Or.inr (slot_ne (Or.inl (w_ hw 68 rfl)) (Or.inl (w_ hw 48 rfl)) (by decide) (t := .long) (t' := .int) (by decide) (by decide)))
  have P7_v14 := P7.other W4 (Or.inr (slot_ne (Or.inl (w_ hw 21 rfl)) (Or.inl (w_ hw 48 rfl)) (by decide) (t := (.array .int)) (t' := .int) (by decide) (by decide)))
  have P8_v15 := P8.other W4 (Or.inr (slot_ne (Or.inl (w_ hw 18 rfl)) (Or.inl (w_ hw 48 rfl)) (by decide) (t := (.array (.object "com/example/pennybreak/pennybreak/simplebook/RestingOrder"))) (t' := .int) (by decide) (by decide)))
  have P10_v16 := P10.other W4 (Or.inl (Ne.symm P19))
  have P11_v17 := P11.other W4 (Or.inl (Ne.symm P19))
  have P12_v18 := P12.other W4 (Ne.symm P16)
  have P13_v19 := P13.other W4 (Ne.symm P17)
  have P14_v20 := P14.other W4 (Ne.symm P18)
  have F_used_A0_v21 := P9.same W4
  show Go p e below _ T4 (mkF m 28 #[.val (.ref A0), .val (.ref A4)] [(.int (1 : Int32)), (.ref A4)])
  refine Go.putF X4 hx hZ hown (w_ hw 45 rfl) Via.refl e4 P11_v17 P1_v8 (Or.inl (w_ hw 46 rfl)) (w_ hw 27 rfl) (ty := .int) (by decide) rfl rfl (hb hby d6_28) ?_
  intro T22 h22 X22 e22 W22
  have N22 := Fr.snoc X22 N4 P30
  have Z0_v23 := Nat.le_trans Z0_v5 (Keep.of_wr W22).1
  have fact_K_v24 := fact_K_v6.wr W22 (Or.inl (by simp))
  have P0_v25 := P0_v7.wr W22
  have P1_v26 := P1_v8.wr W22
  have P2_v27 := P2_v9.other W22 (Or.inl P19)
  have P3_v28 := P3_v10.other W22 (Or.inl P19)
  have P4_v29 := P4_v11.other W22 (Or.inl P19)
  have P5_v30 := P5_v12.other W22 (Or.inl P19)
  have P6_v31 := P6_v13.other W22 (Or.inl P19)
  have P7_v32 := P7_v14.other W22 (Or.inl P19)
  have P8_v33 := P8_v15.other W22 (Or.inl P19)
  have P10_v34 := P10_v16.other W22 (Or.inr (slot_ne (Or.inl (w_ hw 38 rfl)) (Or.inl (w_ hw 46 rfl)) (by decide) (t := .int) (t' := .int) (by decide) (by decide)))
  have P12_v35 := P12_v18.other W22 (Ne.symm P23)
  have P13_v36 := P13_v19.other W22 (Ne.symm P24)
  have P14_v37 := P14_v20.other W22 (Ne.symm P25)
  have F_used_A0_v38 := F_used_A0_v21.other W22 (Or.inl P19)
  have F_slot_A4_v39 := P11_v17.same W22
  show Go p e below _ T22 (mkF m 31 #[.val (.ref A0), .val (.ref A4)] [])
  refine Go.s_aloadN X22 hx (hb hby d6_31) (q := 32) rfl rfl rfl ?_
  refine Go.getF X22 hx hZ hown (w_ hw 17 rfl) Via.refl e22 P8_v33 (hb hby d6_32) ?_
  intro T40 X40 e40
  show Go p e below _ T40 (mkF m 35 #[.val (.ref A0), .val (.ref A4)] [(.ref A1)])
  refine Go.s_aloadN X40 hx (hb hby d6_35) (q := 36) rfl rfl rfl ?_
  refine Go.getF X40 hx hZ hown (w_ hw 45 rfl) Via.refl e40 F_slot_A4_v39 (hb hby d6_36) ?_
  intro T41 X41 e41
  show Go p e below _ T41 (mkF m 39 #[.val (.ref A0), .val (.ref A4)] [(.int (1 : Int32)), (.ref A1)])
  refine Go.s_aloadN X41 hx (hb hby d6_39) (q := 40) rfl rfl rfl ?_
  refine Go.stR X41 hx hZ e41 P12_v35 ⟨by decide, by decide⟩ (sto_of P12_v35 P15 (Ins.self P1_v26)) rfl 1 rfl (by first | decide | exact Nat.le_of_ble_eq_true rfl) (hb hby d6_40) ?_
  intro T42 h42 X42 e42 W42 V42
  have N42 := Fr.snoc X42 N22 P27
  have Z0_v43 := Nat.le_trans Z0_v23 (Keep.of_wr W42).1
  have fact_K_v44 := fact_K_v24.wr W42 (Or.inl (by simp))
  have P0_v45 := P0_v25.wr W42
  have P1_v46 := P1_v26.wr W42
  have P2_v47 := P2_v27.other W42 (Or.inl P16)
  have P3_v48 := P3_v28.other W42 (Or.inl P16)
  have P4_v49 := P4_v29.other W42 (Or.inl P16)
  have P5_v50 := P5_v30.other W42 (Or.inl P16)
  have P6_v51 := P6_v31.other W42 (Or.inl P16)
  have P7_v52 := P7_v32.other W42 (Or.inl P16)
  have P8_v53 := P8_v33.other W42 (Or.inl P16)
  have P10_v54 := P10_v34.other W42 (Or.inl P23)
  have P13_v55 := P13_v36.other W42 P20
  have P14_v56 := P14_v37.other W42 P22
  have F_used_A0_v57 := F_used_A0_v38.other W42 (Or.inl P16)
  have F_slot_A4_v58 := F_slot_A4_v39.other W42 (Or.inl P23)
  have V42_59 : Arv Z h42 A1 k7 (.object "com/example/pennybreak/pennybreak/simplebook/RestingOrder") (4 : Int32) [(.ref A8), (.ref A4), .null, .null] .null := V42
  show Go p e below _ T42 (mkF m 41 #[.val (.ref A0), .val (.ref A4)] [])
  refine Go.s_aloadN X42 hx (hb hby d6_41) (q := 42) rfl rfl rfl ?_
  refine Go.s_dup X42 hx (hb hby d6_42) (q := 43) rfl rfl ?_
  refine Go.getF X42 hx hZ hown (w_ hw 58 rfl) Via.refl e42 P3_v48 (hb hby d6_43) ?_
  intro T60 X60 e60
  show Go p e below _ T60 (mkF m 46 #[.val (.ref A0), .val (.ref A4)] [(.int (1 : Int32)), (.ref A0)])
  refine Go.s_iconst X60 hx (hb hby d6_46) (q := 47) rfl (z := 1) rfl ?_
  refine Go.s_iadd X60 hx (hb hby d6_47) (q := 48) rfl ?_
  rw [(by decide : ((1 : Int32) + (1 : Int32)) = (2 : Int32))]
  refine Go.putF X60 hx hZ hown (w_ hw 58 rfl) Via.refl e60 P3_v48 P0_v45 (Or.inl (w_ hw 59 rfl)) (w_ hw 7 rfl) (ty := .int) (by decide) rfl rfl (hb hby d6_48) ?_
  intro T61 h61 X61 e61 W61
  have N61 := Fr.snoc X61 N42 P26
  have Z0_v62 := Nat.le_trans Z0_v43 (Keep.of_wr W61).1
  have fact_K_v63 := fact_K_v44.wr W61 (Or.inl (by simp))
  have P0_v64 := P0_v45.wr W61
  have P1_v65 := P1_v46.wr W61
  have P2_v66 := P2_v47.other W61 (Or.inr (slot_ne (Or.inl (w_ hw 23 rfl)) (Or.inl (w_ hw 59 rfl)) (by decide) (t := .int) (t' := .int) (by decide) (by decide)))
  have P4_v67 := P4_v49.other W61 (Or.inr (slot_ne (Or.inl (w_ hw 65 rfl)) (Or.inl (w_ hw 59 rfl)) (by decide) (t := .int) (t' := .int) (by decide) (by decide)))
  have P5_v68 := P5_v50.other W61 (Or.inr (slot_ne (Or.inl (w_ hw 25 rfl)) (Or.inl (w_ hw 59 rfl)) (by decide) (t := (.array .int)) (t' := .int) (by decide) (by decide)))
  have P6_v69 := P6_v51.other W61 (Or.inr (slot_ne (Or.inl (w_ hw 68 rfl)) (Or.inl (w_ hw 59 rfl)) (by decide) (t := .long) (t' := .int) (by decide) (by decide)))
  have P7_v70 := P7_v52.other W61 (Or.inr (slot_ne (Or.inl (w_ hw 21 rfl)) (Or.inl (w_ hw 59 rfl)) (by decide) (t := (.array .int)) (t' := .int) (by decide) (by decide)))
  have P8_v71 := P8_v53.other W61 (Or.inr (slot_ne (Or.inl (w_ hw 18 rfl)) (Or.inl (w_ hw 59 rfl)) (by decide) (t := (.array (.object "com/example/pennybreak/pennybreak/simplebook/RestingOrder"))) (t' := .int) (by decide) (by decide)))
  have P10_v72 := P10_v54.other W61 (Or.inl (Ne.symm P19))
  have P13_v73 := P13_v55.other W61 (Ne.symm P17)
  have P14_v74 := P14_v56.other W61 (Ne.symm P18)
  have F_used_A0_v75 := F_used_A0_v57.other W61 (Or.inr (slot_ne (Or.inl (w_ hw 48 rfl)) (Or.inl (w_ hw 59 rfl)) (by decide) (t := .int) (t' := .int) (by decide) (by decide)))
  have F_slot_A4_v76 := F_slot_A4_v58.other W61 (Or.inl (Ne.symm P19))
  have V42_59_v77 := V42_59.other W61 (Ne.symm P16)
  have F_count_A0_v78 := P3_v48.same W61
  show Go p e below _ T61 (mkF m 51 #[.val (.ref A0), .val (.ref A4)] [])
  refine Go.s_aloadN X61 hx (hb hby d6_51) (q := 52) rfl rfl rfl ?_
  refine Go.s_dup X61 hx (hb hby d6_52) (q := 53) rfl rfl ?_
  refine Go.getF X61 hx hZ hown (w_ hw 67 rfl) Via.refl e61 P6_v69 (hb hby d6_53) ?_
  intro T79 X79 e79
  show Go p e below _ T79 (mkF m 56 #[.val (.ref A0), .val (.ref A4)] [(.long J5), (.ref A0)])
  refine Go.s_aloadN X79 hx (hb hby d6_56) (q := 57) rfl rfl rfl ?_
  refine Go.getF X79 hx hZ hown (w_ hw 69 rfl) Via.refl e79 P10_v72 (hb hby d6_57) ?_
  intro T80 X80 e80
  show Go p e below _ T80 (mkF m 60 #[.val (.ref A0), .val (.ref A4)] [(.int I6), (.long J5), (.ref A0)])
  refine Go.s_i2l X80 hx (hb hby d6_60) (q := 61) rfl ?_
  refine Go.s_ladd X80 hx (hb hby d6_61) (q := 62) rfl ?_
  refine Go.putF X80 hx hZ hown (w_ hw 67 rfl) Via.refl e80 P6_v69 P0_v64 (Or.inl (w_ hw 68 rfl)) (w_ hw 7 rfl) (ty := .long) (by decide) rfl rfl (hb hby d6_62) ?_
  intro T81 h81 X81 e81 W81
  have N81 := Fr.snoc X81 N61 P26
  have Z0_v82 := Nat.le_trans Z0_v62 (Keep.of_wr W81).1
  have fact_K_v83 := fact_K_v63.wr W81 (Or.inl (by simp))
  have P0_v84 := P0_v64.wr W81
  have P1_v85 := P1_v65.wr W81
  have P2_v86 := P2_v66.other W81 (Or.inr (slot_ne (Or.inl (w_ hw 23 rfl)) (Or.inl (w_ hw 68 rfl)) (by decide) (t := .int) (t' := .long) (by decide) (by decide)))
  have P4_v87 := P4_v67.other W81 (Or.inr (slot_ne (Or.inl (w_ hw 65 rfl)) (Or.inl (w_ hw 68 rfl)) (by decide) (t := .int) (t' := .long) (by decide) (by decide)))
  have P5_v88 := P5_v68.other W81 (Or.inr (slot_ne (Or.inl (w_ hw 25 rfl)) (Or.inl (w_ hw 68 rfl)) (by decide) (t := (.array .int)) (t' := .long) (by decide) (by decide)))
  have P7_v89 := P7_v70.other W81 (Or.inr (slot_ne (Or.inl (w_ hw 21 rfl)) (Or.inl (w_ hw 68 rfl)) (by decide) (t := (.array .int)) (t' := .long) (by decide) (by decide)))
  have P8_v90 := P8_v71.other W81 (Or.inr (slot_ne (Or.inl (w_ hw 18 rfl)) (Or.inl (w_ hw 68 rfl)) (by decide) (t := (.array (.object "com/example/pennybreak/pennybreak/simplebook/RestingOrder"))) (t' := .long) (by decide) (by decide)))
  have P10_v91 := P10_v72.other W81 (Or.inl (Ne.symm P19))
  have P13_v92 := P13_v73.other W81 (Ne.symm P17)
  have P14_v93 := P14_v74.other W81 (Ne.symm P18)
  have F_used_A0_v94 := F_used_A0_v75.other W81 (Or.inr (slot_ne (Or.inl (w_ hw 48 rfl)) (Or.inl (w_ hw 68 rfl)) (by decide) (t := .int) (t' := .long) (by decide) (by decide)))
  have F_slot_A4_v95 := F_slot_A4_v76.other W81 (Or.inl (Ne.symm P19))
  have V42_59_v96 := V42_59_v77.other W81 (Ne.symm P16)
  have F_count_A0_v97 := F_count_A0_v78.other W81 (Or.inr (slot_ne (Or.inl (w_ hw 59 rfl)) (Or.inl (w_ hw 68 rfl)) (by decide) (t := .int) (t' := .long) (by decide) (by decide)))
  have F_open_A0_v98 := P6_v69.same W81
  show Go p e below _ T81 (mkF m 65 #[.val (.ref A0), .val (.ref A4)] [])
  refine Go.s_aloadN X81 hx (hb hby d6_65) (q := 66) rfl rfl rfl ?_
  refine Go.s_aloadN X81 hx (hb hby d6_66) (q := 67) rfl rfl rfl ?_
  refine Go.getF X81 hx hZ hown (w_ hw 45 rfl) Via.refl e81 F_slot_A4_v95 (hb hby d6_67) ?_
  intro T99 X99 e99
  show Go p e below _ T99 (mkF m 70 #[.val (.ref A0), .val (.ref A4)] [(.int (1 : Int32)), (.ref A0)])
  refine Go.s_aloadN X99 hx (hb hby d6_70) (q := 71) rfl rfl rfl ?_
  refine Go.getF X99 hx hZ hown (w_ hw 69 rfl) Via.refl e99 P10_v91 (hb hby d6_71) ?_
  intro T100 X100 e100
  show Go p e below _ T100 (mkF m 74 #[.val (.ref A0), .val (.ref A4)] [(.int I6), (.int (1 : Int32)), (.ref A0)])
  refine Go.callP (y := mn_9) X100 hx hZ hown (w_ hw 70 rfl) (w_ hw 71 rfl) (w_ hw 72 rfl) (w_ hw 7 rfl) (w_ hw 73 rfl) (w_ hw 8 rfl) (by decide) e100 P0_v84 (argsL := [(.int (1 : Int32)), (.int I6)]) (rest := []) (rm_set_24 l Z a0 hw A0 A2 A3 I6 h81 n0 Z0_v82 P0_v84 P2_v86 P5_v88 P7_v89 F_used_A0_v94 P13_v92 P14_v93 P17 P18 P21 P26 P28 P29) (by rw [hml]; rfl) (lenOf pd_3 rfl) rfl (hb hby d6_74) (by decide) (by decide) (by decide) (by decide) ?_
  intro r101 T101 L101 q101 X101
  obtain ⟨rfl, N101q, K101, f101_0, f101_1⟩ := q101
  have N101 := Fr.app N81 N101q
  have Z0_v102 := Nat.le_trans Z0_v82 K101.1
  have fact_K_v103 := Keep.trans fact_K_v83 K101 (allS (Or.inl (by simp)) (allS (Or.inl (by simp)) all0))
  have P0_v104 := P0_v84.keep K101
  have P1_v105 := P1_v85.keep K101
  have P2_v106 := P2_v86.keep K101 (ninS P17 (ninS P18 nin0))
  have P4_v107 := P4_v87.keep K101 (ninS P17 (ninS P18 nin0))
  have P5_v108 := P5_v88.keep K101 (ninS P17 (ninS P18 nin0))
  have P7_v109 := P7_v89.keep K101 (ninS P17 (ninS P18 nin0))
  have P8_v110 := P8_v90.keep K101 (ninS P17 (ninS P18 nin0))
  have P10_v111 := P10_v91.keep K101 (ninS P24 (ninS P25 nin0))
  have F_used_A0_v112 := F_used_A0_v94.keep K101 (ninS P17 (ninS P18 nin0))
  have F_slot_A4_v113 := F_slot_A4_v95.keep K101 (ninS P24 (ninS P25 nin0))
  have V42_59_v114 := V42_59_v96.keep K101 (ninS (Ne.symm P20) (ninS (Ne.symm P22) nin0))
  have F_count_A0_v115 := F_count_A0_v97.keep K101 (ninS P17 (ninS P18 nin0))
  have F_open_A0_v116 := F_open_A0_v98.keep K101 (ninS P17 (ninS P18 nin0))
  show Go p e below _ T101 (mkF m 77 #[.val (.ref A0), .val (.ref A4)] [])
  refine Go.retV X101 hx hlk hret (hb hby d6_77) (by decide) (by decide) ?_
  exact ⟨(J5 + (I6.toInt64)), rfl, N101, fact_K_v103, P0_v104, P1_v105, P2_v106, F_count_A0_v115, P4_v107, P5_v108, F_open_A0_v116, P7_v109, P8_v110, F_used_A0_v112, P10_v111, F_slot_A4_v113, V42_59_v114, f101_0, f101_1, P15⟩
theorem ef_holds_26 (m : MethodId) (x0 : Addr) (x1 : Addr) : entryFrame m #[(.ref x0), (.ref x1)] 2 = mkF m 0 #[.val (.ref x0), .val (.ref x1)] [] := by first | (simp [entryFrame, mkF, argsToLocals, Value.category]; done) | rfl
set_option maxRecDepth 65536 in
set_option maxHeartbeats 40000000 in
theorem rm_holds_26 (l : Launch) (Z : State) (a0 : Array Value) (hw : ∀ d ∈ tables_1, d.before a0 Z = true)  (A0 : Addr) (A1 : Addr) (A2 : Addr) (A3 : Addr) (A4 : Addr) (A5 : Addr) (A6 : Addr) (k7 : ClassId) (h0 : Heap) (n0 : Nat) (Z0 : n0 ≤ h0.size) (P0 : Fld Z h0 A0 "com/example/pennybreak/pennybreak/simplebook/OrderQueue" "slots" "[Lcom/example/pennybreak/pennybreak/simplebook/RestingOrder;" (.ref A1)) (P1 : Fld Z h0 A0 "com/example/pennybreak/pennybreak/simplebook/OrderQueue" "used" "I" (.int (2 : Int32))) (P2 : Fld Z h0 A4 "com/example/pennybreak/pennybreak/simplebook/RestingOrder" "slot" "I" (.int (0 : Int32))) (P3 : Fld Z h0 A5 "com/example/pennybreak/pennybreak/simplebook/RestingOrder" "slot" "I" (.int (0 : Int32))) (P4 : Fld Z h0 A6 "com/example/pennybreak/pennybreak/simplebook/RestingOrder" "slot" "I" (.int (1 : Int32))) (P5 : Arv Z h0 A1 k7 (.object "com/example/pennybreak/pennybreak/simplebook/RestingOrder") (4 : Int32) [(.ref A5), (.ref A6), .null, .null] .null) (P6 : A0 ≠ A1) (P7 : A0 ≠ A2) (P8 : A0 ≠ A3) (P9 : A0 ≠ A5) (P10 : A0 ≠ A4) (P11 : A0 ≠ A6) (P12 : A2 ≠ A1) (P13 : A2 ≠ A3) (P14 : A3 ≠ A1) (P15 : A4 ≠ A1) (P16 : A4 ≠ A2) (P17 : A4 ≠ A3) (P18 : A4 ≠ A5) (P19 : A4 ≠ A6) (P20 : A5 ≠ A1) (P21 : A5 ≠ A2) (P22 : A5 ≠ A3) (P23 : A5 ≠ A6) (P24 : A6 ≠ A1) (P25 : A6 ≠ A2) (P26 : A6 ≠ A3) :
    Ct l mn_5 prog_98_method_3_code 2 (some .boolean) ({ frames := 0, cells := 0, slots := 0, locals := 0 } : Room) Z h0 #[(.ref A0), (.ref A4)] (fun v h L => v = some (.int (0 : Int32)) ∧ L = [] ∧ h = h0) := by
  refine Ct.body (plainFor_of_name pn_com_example_pennybreak_pennybreak_simplebook_OrderQueue) ?_
  intro p e s m below meth c T0 hx hby hml hown hnm hret hlk hZ X0 e0
  refine Go.cast (ef_holds_26 m A0 A4) ?_
  show Go p e below _ T0 (mkF m 0 #[.val (.ref A0), .val (.ref A4)] [])
  refine Go.s_aloadN X0 hx (hb hby d5_0) (q := 1) rfl rfl rfl ?_
  refine Go.getF X0 hx hZ hown (w_ hw 45 rfl) Via.refl e0 P2 (hb hby d5_1) ?_
  intro T1 X1 e1
  show Go p e below _ T1 (mkF m 4 #[.val (.ref A0), .val (.ref A4)] [(.int (0 : Int32))])
  refine Go.s_aloadN X1 hx (hb hby d5_4) (q := 5) rfl rfl rfl ?_
  refine Go.getF X1 hx hZ hown (w_ hw 47 rfl) Via.refl e1 P1 (hb hby d5_5) ?_
  intro T2 X2 e2
  show Go p e below _ T2 (mkF m 8 #[.val (.ref A0), .val (.ref A4)] [(.int (2 : Int32)), (.int (0 : Int32))])
  refine Go.s_icmpNo X2 hx (hb hby d5_8) (q := 11) rfl (tlt (by decide : (0 : Int32) < (2 : Int32))).2.1 ?_
  refine Go.s_aloadN X2 hx (hb hby d5_11) (q := 12) rfl rfl rfl ?_
  refine Go.getF X2 hx hZ hown (w_ hw 17 rfl) Via.refl e2 P0 (hb hby d5_12) ?_
  intro T3 X3 e3
  show Go p e below _ T3 (mkF m 15 #[.val (.ref A0), .val (.ref A4)] [(.ref A1)])
  refine Go.s_aloadN X3 hx (hb hby d5_15) (q := 16) rfl rfl rfl ?_
  refine Go.getF X3 hx hZ hown (w_ hw 45 rfl) Via.refl e3 P2 (hb hby d5_16) ?_
  intro T4 X4 e4
  show Go p e below _ T4 (mkF m 19 #[.val (.ref A0), .val (.ref A4)] [(.int (0 : Int32)), (.ref A1)])
  refine Go.ldR X4 hx hZ e4 P5 ⟨by decide, by decide⟩ (w := (.ref A5)) rfl (hb hby d5_19) ?_
  show Go p e below _ T4 (mkF m 20 #[.val (.ref A0), .val (.ref A4)] [(.ref A5)])
  refine Go.s_aloadN X4 hx (hb hby d5_20) (q := 21) rfl rfl rfl ?_
  refine Go.s_acmp X4 hx (q := 28) (hb hby d5_21) rfl rfl (same := false) (decide_eq_false fun q => P18 (Value.ref.inj q).symm) (by decide) (by decide) ?_
  refine Go.s_iconst X4 hx (hb hby d5_28) (q := 29) rfl (z := 0) rfl ?_
  refine Go.retN X4 hx hlk hret (by simp) (hb hby d5_29) (by decide) (by decide) ?_
  try rw [e4]
  exact ⟨(by decide), rfl, rfl⟩
theorem ef_holds_27 (m : MethodId) (x0 : Addr) (x1 : Addr) : entryFrame m #[(.ref x0), (.ref x1)] 2 = mkF m 0 #[.val (.ref x0), .val (.ref x1)] [] := by first | (simp [entryFrame, mkF, argsToLocals, Value.category]; done) | rfl
set_option maxRecDepth 65536 in
set_option maxHeartbeats 40000000 in
theorem rm_holds_27 (l : Launch) (Z : State) (a0 : Array Value) (hw : ∀ d ∈ tables_1, d.before a0 Z = true)  (A0 : Addr) (A1 : Addr) (A2 : Addr) (A3 : Addr) (A4 : Addr) (A5 : Addr) (k6 : ClassId) (h0 : Heap) (n0 : Nat) (Z0 : n0 ≤ h0.size) (P0 : Fld Z h0 A0 "com/example/pennybreak/pennybreak/simplebook/OrderQueue" "slots" "[Lcom/example/pennybreak/pennybreak/simplebook/RestingOrder;" (.ref A1)) (P1 : Fld Z h0 A0 "com/example/pennybreak/pennybreak/simplebook/OrderQueue" "used" "I" (.int (2 : Int32))) (P2 : Fld Z h0 A4 "com/example/pennybreak/pennybreak/simplebook/RestingOrder" "slot" "I" (.int (0 : Int32))) (P3 : Fld Z h0 A5 "com/example/pennybreak/pennybreak/simplebook/RestingOrder" "slot" "I" (.int (1 : Int32))) (P4 : Arv Z h0 A1 k6 (.object "com/example/pennybreak/pennybreak/simplebook/RestingOrder") (4 : Int32) [(.ref A4), (.ref A5), .null, .null] .null) (P5 : A0 ≠ A1) (P6 : A0 ≠ A2) (P7 : A0 ≠ A3) (P8 : A0 ≠ A4) (P9 : A0 ≠ A5) (P10 : A2 ≠ A1) (P11 : A2 ≠ A3) (P12 : A3 ≠ A1) (P13 : A4 ≠ A1) (P14 : A4 ≠ A2) (P15 : A4 ≠ A3) (P16 : A4 ≠ A5) (P17 : A5 ≠ A1) (P18 : A5 ≠ A2) (P19 : A5 ≠ A3) :
    Ct l mn_5 prog_98_method_3_code 2 (some .boolean) ({ frames := 0, cells := 0, slots := 0, locals := 0 } : Room) Z h0 #[(.ref A0), (.ref A4)] (fun v h L => v = some (.int (1 : Int32)) ∧ L = [] ∧ h = h0) := by
  refine Ct.body (plainFor_of_name pn_com_example_pennybreak_pennybreak_simplebook_OrderQueue) ?_
  intro p e s m below meth c T0 hx hby hml hown hnm hret hlk hZ X0 e0
  refine Go.cast (ef_holds_27 m A0 A4) ?_
  show Go p e below _ T0 (mkF m 0 #[.val (.ref A0), .val (.ref A4)] [])
  refine Go.s_aloadN X0 hx (hb hby d5_0) (q := 1) rfl rfl rfl ?_
  refine Go.getF X0 hx hZ hown (w_ hw 45 rfl) Via.refl e0 P2 (hb hby d5_1) ?_
  intro T1 X1 e1
  show Go p e below _ T1 (mkF m 4 #[.val (.ref A0), .val (.ref A4)] [(.int (0 : Int32))])
  refine Go.s_aloadN X1 hx (hb hby d5_4) (q := 5) rfl rfl rfl ?_
  refine Go.getF X1 hx hZ hown (w_ hw 47 rfl) Via.refl e1 P1 (hb hby d5_5) ?_
  intro T2 X2 e2
  show Go p e below _ T2 (mkF m 8 #[.val (.ref A0), .val (.ref A4)] [(.int (2 : Int32)), (.int (0 : Int32))])
  refine Go.s_icmpNo X2 hx (hb hby d5_8) (q := 11) rfl (tlt (by decide : (0 : Int32) < (2 : Int32))).2.1 ?_
  refine Go.s_aloadN X2 hx (hb hby d5_11) (q := 12) rfl rfl rfl ?_
  refine Go.getF X2 hx hZ hown (w_ hw 17 rfl) Via.refl e2 P0 (hb hby d5_12) ?_
  intro T3 X3 e3
  show Go p e below _ T3 (mkF m 15 #[.val (.ref A0), .val (.ref A4)] [(.ref A1)])
  refine Go.s_aloadN X3 hx (hb hby d5_15) (q := 16) rfl rfl rfl ?_
  refine Go.getF X3 hx hZ hown (w_ hw 45 rfl) Via.refl e3 P2 (hb hby d5_16) ?_
  intro T4 X4 e4
  show Go p e below _ T4 (mkF m 19 #[.val (.ref A0), .val (.ref A4)] [(.int (0 : Int32)), (.ref A1)])
  refine Go.ldR X4 hx hZ e4 P4 ⟨by decide, by decide⟩ (w := (.ref A4)) rfl (hb hby d5_19) ?_
  show Go p e below _ T4 (mkF m 20 #[.val (.ref A0), .val (.ref A4)] [(.ref A4)])
  refine Go.s_aloadN X4 hx (hb hby d5_20) (q := 21) rfl rfl rfl ?_
  refine Go.s_acmp X4 hx (q := 24) (hb hby d5_21) rfl rfl (same := true) (decide_eq_true rfl) (by decide) (by decide) ?_
  refine Go.s_iconst X4 hx (hb hby d5_24) (q := 25) rfl (z := 1) rfl ?_
  refine Go.s_goto X4 hx (hb hby d5_25) (q := 29) (by decide) (by decide) ?_
  refine Go.retN X4 hx hlk hret (by simp) (hb hby d5_29) (by decide) (by decide) ?_
  try rw [e4]
  exact ⟨(by decide), rfl, rfl⟩
theorem ef_holds_28 (m : MethodId) (x0 : Addr) (x1 : Addr) : entryFrame m #[(.ref x0), (.ref x1)] 2 = mkF m 0 #[.val (.ref x0), .val (.ref x1)] [] := by first | (simp [entryFrame, mkF, argsToLocals, Value.category]; done) | rfl
set_option maxRecDepth 65536 in
set_option maxHeartbeats 40000000 in
theorem rm_holds_28 (l : Launch) (Z : State) (a0 : Array Value) (hw : ∀ d ∈ tables_1, d.before a0 Z = true)  (A0 : Addr) (A1 : Addr) (A2 : Addr) (A3 : Addr) (A4 : Addr) (A5 : Addr) (k6 : ClassId) (h0 : Heap) (n0 : Nat) (Z0 : n0 ≤ h0.size) (P0 : Fld Z h0 A0 "com/example/pennybreak/pennybreak/simplebook/OrderQueue" "slots" "[Lcom/example/pennybreak/pennybreak/simplebook/RestingOrder;" (.ref A1)) (P1 : Fld Z h0 A0 "com/example/pennybreak/pennybreak/simplebook/OrderQueue" "used" "I" (.int (2 : Int32))) (P2 : Fld Z h0 A4 "com/example/pennybreak/pennybreak/simplebook/RestingOrder" "slot" "I" (.int (1 : Int32))) (P3 : Fld Z h0 A5 "com/example/pennybreak/pennybreak/simplebook/RestingOrder" "slot" "I" (.int (0 : Int32))) (P4 : Arv Z h0 A1 k6 (.object "com/example/pennybreak/pennybreak/simplebook/RestingOrder") (4 : Int32) [(.ref A5), (.ref A4), .null, .null] .null) (P5 : A0 ≠ A1) (P6 : A0 ≠ A2) (P7 : A0 ≠ A3) (P8 : A0 ≠ A5) (P9 : A0 ≠ A4) (P10 : A2 ≠ A1) (P11 : A2 ≠ A3) (P12 : A3 ≠ A1) (P13 : A4 ≠ A1) (P14 : A4 ≠ A2) (P15 : A4 ≠ A3) (P16 : A5 ≠ A1) (P17 : A5 ≠ A2) (P18 : A5 ≠ A3) (P19 : A5 ≠ A4) :
    Ct l mn_5 prog_98_method_3_code 2 (some .boolean) ({ frames := 0, cells := 0, slots := 0, locals := 0 } : Room) Z h0 #[(.ref A0), (.ref A4)] (fun v h L => v = some (.int (1 : Int32)) ∧ L = [] ∧ h = h0) := by
  refine Ct.body (plainFor_of_name pn_com_example_pennybreak_pennybreak_simplebook_OrderQueue) ?_
  intro p e s m below meth c T0 hx hby hml hown hnm hret hlk hZ X0 e0
  refine Go.cast (ef_holds_28 m A0 A4) ?_
  show Go p e below _ T0 (mkF m 0 #[.val (.ref A0), .val (.ref A4)] [])
  refine Go.s_aloadN X0 hx (hb hby d5_0) (q := 1) rfl rfl rfl ?_
  refine Go.getF X0 hx hZ hown (w_ hw 45 rfl) Via.refl e0 P2 (hb hby d5_1) ?_
  intro T1 X1 e1
  show Go p e below _ T1 (mkF m 4 #[.val (.ref A0), .val (.ref A4)] [(.int (1 : Int32))])
  refine Go.s_aloadN X1 hx (hb hby d5_4) (q := 5) rfl rfl rfl ?_
  refine Go.getF X1 hx hZ hown (w_ hw 47 rfl) Via.refl e1 P1 (hb hby d5_5) ?_
  intro T2 X2 e2
  show Go p e below _ T2 (mkF m 8 #[.val (.ref A0), .val (.ref A4)] [(.int (2 : Int32)), (.int (1 : Int32))])
  refine Go.s_icmpNo X2 hx (hb hby d5_8) (q := 11) rfl (tlt (by decide : (1 : Int32) < (2 : Int32))).2.1 ?_
  refine Go.s_aloadN X2 hx (hb hby d5_11) (q := 12) rfl rfl rfl ?_
  refine Go.getF X2 hx hZ hown (w_ hw 17 rfl) Via.refl e2 P0 (hb hby d5_12) ?_
  intro T3 X3 e3
  show Go p e below _ T3 (mkF m 15 #[.val (.ref A0), .val (.ref A4)] [(.ref A1)])
  refine Go.s_aloadN X3 hx (hb hby d5_15) (q := 16) rfl rfl rfl ?_
  refine Go.getF X3 hx hZ hown (w_ hw 45 rfl) Via.refl e3 P2 (hb hby d5_16) ?_
  intro T4 X4 e4
  show Go p e below _ T4 (mkF m 19 #[.val (.ref A0), .val (.ref A4)] [(.int (1 : Int32)), (.ref A1)])
  refine Go.ldR X4 hx hZ e4 P4 ⟨by decide, by decide⟩ (w := (.ref A4)) rfl (hb hby d5_19) ?_
  show Go p e below _ T4 (mkF m 20 #[.val (.ref A0), .val (.ref A4)] [(.ref A4)])
  refine Go.s_aloadN X4 hx (hb hby d5_20) (q := 21) rfl rfl rfl ?_
  refine Go.s_acmp X4 hx (q := 24) (hb hby d5_21) rfl rfl (same := true) (decide_eq_true rfl) (by decide) (by decide) ?_
  refine Go.s_iconst X4 hx (hb hby d5_24) (q := 25) rfl (z := 1) rfl ?_
  refine Go.s_goto X4 hx (hb hby d5_25) (q := 29) (by decide) (by decide) ?_
  refine Go.retN X4 hx hlk hret (by simp) (hb hby d5_29) (by decide) (by decide) ?_
  try rw [e4]
  exact ⟨(by decide), rfl, rfl⟩
theorem ef_take_29 (m : MethodId) (x0 : Addr) (x1 : Addr) (x2 : Int32) : entryFrame m #[(.ref x0), (.ref x1), (.int x2)] 3 = mkF m 0 #[.val (.ref x0), .val (.ref x1), .val (.int x2)] [] := by first | (simp [entryFrame, mkF, argsToLocals, Value.category]; done) | rfl
set_option maxRecDepth 65536 in
set_option maxHeartbeats 40000000 in
theorem rm_take_29 (l : Launch) (Z : State) (a0 : Array Value) (hw : ∀ d ∈ tables_1, d.before a0 Z = true)  (A0 : Addr) (A1 : Addr) (A2 : Addr) (A3 : Addr) (A4 : Addr) (J5 : Int64) (I6 : Int32) (k7 : ClassId) (h0 : Heap) (n0 : Nat) (Z0 : n0 ≤ h0.size) (P0 : Exa Z h0 A0 "com/example/pennybreak/pennybreak/simplebook/OrderQueue") (P1 : Exa Z h0 A4 "com/example/pennybreak/pennybreak/simplebook/RestingOrder") (P2 : Fld Z h0 A0 "com/example/pennybreak/pennybreak/simplebook/OrderQueue" "blocks" "I" (.int (1 : Int32))) (P3 : Fld Z h0 A0 "com/example/pennybreak/pennybreak/simplebook/OrderQueue" "count" "I" (.int (1 : Int32))) (P4 : Fld Z h0 A0 "com/example/pennybreak/pennybreak/simplebook/OrderQueue" "front" "I" (.int (0 : Int32))) (P5 : Fld Z h0 A0 "com/example/pennybreak/pennybreak/simplebook/OrderQueue" "largest" "[I" (.ref A3)) (P6 : Fld Z h0 A0 "com/example/pennybreak/pennybreak/simplebook/OrderQueue" "open" "J" (.long J5)) (P7 : Fld Z h0 A0 "com/example/pennybreak/pennybreak/simplebook/OrderQueue" "sizes" "[I" (.ref A2)) (P8 : Fld Z h0 A0 "com/example/pennybreak/pennybreak/simplebook/OrderQueue" "slots" "[Lcom/example/pennybreak/pennybreak/simplebook/RestingOrder;" (.ref A1)) (P9 : Fld Z h0 A0 "com/example/pennybreak/pennybreak/simplebook/OrderQueue" "used" "I" (.int (1 : Int32))) (P10 : Fld Z h0 A4 "com/example/pennybreak/pennybreak/simplebook/RestingOrder" "openSize" "I" (.int I6)) (P11 : Fld Z h0 A4 "com/example/pennybreak/pennybreak/simplebook/RestingOrder" "slot" "I" (.int (0 : Int32))) (P12 : Arv Z h0 A1 k7 (.object "com/example/pennybreak/pennybreak/simplebook/RestingOrder") (4 : Int32) [(.ref A4), .null, .null, .null] .null) (P13 : UA Z h0 A2 4) (P14 : UA Z h0 A3 2) (P15 : Ovr Z k7 "com/example/pennybreak/pennybreak/simplebook/RestingOrder") (P16 : A0 ≠ A1) (P17 : A0 ≠ A2) (P18 : A0 ≠ A3) (P19 : A0 ≠ A4) (P20 : A2 ≠ A1) (P21 : A2 ≠ A3) (P22 : A3 ≠ A1) (P23 : A4 ≠ A1) (P24 : A4 ≠ A2) (P25 : A4 ≠ A3) (P26 : n0 ≤ A0) (P27 : n0 ≤ A1) (P28 : n0 ≤ A2) (P29 : n0 ≤ A3) (P30 : n0 ≤ A4) (C0 : (I6 - I6) = (0 : Int32)) :
    Ct l mn_10 prog_98_method_4_code 3 none ({ frames := 3, cells := 0, slots := 0, locals := 60 } : Room) Z h0 #[(.ref A0), (.ref A4), (.int I6)] (fun v h L => ∃ w0 : Int64, ∃ w1 : Int32, v = none ∧ Fr n0 L ∧ Keep h0 h [A0, A1, A2, A3, A4] ∧ Exa Z h A0 "com/example/pennybreak/pennybreak/simplebook/OrderQueue" ∧ Exa Z h A4 "com/example/pennybreak/pennybreak/simplebook/RestingOrder" ∧ Fld Z h A0 "com/example/pennybreak/pennybreak/simplebook/OrderQueue" "blocks" "I" (.int (1 : Int32)) ∧ Fld Z h A0 "com/example/pennybreak/pennybreak/simplebook/OrderQueue" "count" "I" (.int (0 : Int32)) ∧ Fld Z h A0 "com/example/pennybreak/pennybreak/simplebook/OrderQueue" "front" "I" (.int (1 : Int32)) ∧ Fld Z h A0 "com/example/pennybreak/pennybreak/simplebook/OrderQueue" "largest" "[I" (.ref A3) ∧ Fld Z h A0 "com/example/pennybreak/pennybreak/simplebook/OrderQueue" "open" "J" (.long w0) ∧ Fld Z h A0 "com/example/pennybreak/pennybreak/simplebook/OrderQueue" "sizes" "[I" (.ref A2) ∧ Fld Z h A0 "com/example/pennybreak/pennybreak/simplebook/OrderQueue" "slots" "[Lcom/example/pennybreak/pennybreak/simplebook/RestingOrder;" (.ref A1) ∧ Fld Z h A0 "com/example/pennybreak/pennybreak/simplebook/OrderQueue" "used" "I" (.int (1 : Int32)) ∧ Fld Z h A4 "com/example/pennybreak/pennybreak/simplebook/RestingOrder" "openSize" "I" (.int w1) ∧ Fld Z h A4 "com/example/pennybreak/pennybreak/simplebook/RestingOrder" "slot" "I" (.int (0 : Int32)) ∧ Arv Z h A1 k7 (.object "com/example/pennybreak/pennybreak/simplebook/RestingOrder") (4 : Int32) [.null, .null, .null, .null] .null ∧ UA Z h A2 4 ∧ UA Z h A3 2 ∧ Ovr Z k7 "com/example/pennybreak/pennybreak/simplebook/RestingOrder") := by
  refine Ct.body (plainFor_of_name pn_com_example_pennybreak_pennybreak_simplebook_OrderQueue) ?_
  intro p e s m below meth c T0 hx hby hml hown hnm hret hlk hZ X0 e0
  refine Go.cast (ef_take_29 m A0 A4 I6) ?_
  show Go p e below _ T0 (mkF m 0 #[.val (.ref A0), .val (.ref A4), .val (.int I6)] [])
  refine Go.s_aloadN X0 hx (hb hby d10_0) (q := 1) rfl rfl rfl ?_
  refine Go.s_dup X0 hx (hb hby d10_1) (q := 2) rfl rfl ?_
  refine Go.getF X0 hx hZ hown (w_ hw 69 rfl) Via.refl e0 P10 (hb hby d10_2) ?_
  intro T1 X1 e1
  show Go p e below _ T1 (mkF m 5 #[.val (.ref A0), .val (.ref A4), .val (.int I6)] [(.int I6), (.ref A4)])
  refine Go.s_iloadN X1 hx (hb hby d10_5) (q := 6) rfl rfl ?_
  refine Go.s_isub X1 hx (hb hby d10_6) (q := 7) rfl ?_
  refine Go.putF X1 hx hZ hown (w_ hw 69 rfl) Via.refl e1 P10 P1 (Or.inl (w_ hw 38 rfl)) (w_ hw 27 rfl) (ty := .int) (by decide) rfl rfl (hb hby d10_7) ?_
  intro T2 h2 X2 e2 W2
  have N2 := Fr.snoc X2 (Fr.nil n0) P30
  have Z0_v3 := Nat.le_trans Z0 (Keep.of_wr W2).1
  have fact_K_v4 := (Keep.refl h0 [A0, A1, A2, A3, A4]).wr W2 (Or.inl (by simp))
  have P0_v5 := P0.wr W2
  have P1_v6 := P1.wr W2
  have P2_v7 := P2.other W2 (Or.inl P19)
  have P3_v8 := P3.other W2 (Or.inl P19)
  have P4_v9 := P4.other W2 (Or.inl P19)
  have P5_v10 := P5.other W2 (Or.inl P19)
  have P6_v11 := P6.other W2 (Or.inl P19)
  have P7_v12 := P7.other W2 (Or.inl P19)
  have P8_v13 := P8.other W2 (Or.inl P19)
  have P9_v14 := P9.other W2 (Or.inl P19)
  have P11_v15 := P11.other W2 (Or.inr (slot_ne (Or.inl (w_ hw 46 rfl)) (Or.inl (w_ hw 38 rfl)) (by decide) (t := .int) (t' := .int) (by decide) (by decide)))
  have P12_v16 := P12.other W2 (Ne.symm P23)
  have P13_v17 := P13.other W2 (Ne.symm P24)
  have P14_v18 := P14.other W2 (Ne.symm P25)
  have F_openSize_A4_v19 := P10.same W2
  show Go p e below _ T2 (mkF m 10 #[.val (.ref A0), .val (.ref A4), .val (.int I6)] [])
  refine Go.s_aloadN X2 hx (hb hby d10_10) (q := 11) rfl rfl rfl ?_
  refine Go.s_dup X2 hx (hb hby d10_11) (q := 12) rfl rfl ?_
  refine Go.getF X2 hx hZ hown (w_ hw 67 rfl) Via.refl e2 P6_v11 (hb hby d10_12) ?_
  intro T20 X20 e20
  show Go p e below _ T20 (mkF m 15 #[.val (.ref A0), .val (.ref A4), .val (.int I6)] [(.long J5), (.ref A0)])
  refine Go.s_iloadN X20 hx (hb hby d10_15) (q := 16) rfl rfl ?_
  refine Go.s_i2l X20 hx (hb hby d10_16) (q := 17) rfl ?_
  refine Go.s_lsub X20 hx (hb hby d10_17) (q := 18) rfl ?_
  refine Go.putF X20 hx hZ hown (w_ hw 67 rfl) Via.refl e20 P6_v11 P0_v5 (Or.inl (w_ hw 68 rfl)) (w_ hw 7 rfl) (ty := .long) (by decide) rfl rfl (hb hby d10_18) ?_
  intro T21 h21 X21 e21 W21
  have N21 := Fr.snoc X21 N2 P26
  have Z0_v22 := Nat.le_trans Z0_v3 (Keep.of_wr W21).1
  have fact_K_v23 := fact_K_v4.wr W21 (Or.inl (by simp))
  have P0_v24 := P0_v5.wr W21
  have P1_v25 := P1_v6.wr W21
  have P2_v26 := P2_v7.other W21 (Or.inr (slot_ne (Or.inl (w_ hw 23 rfl)) (Or.inl (w_ hw 68 rfl)) (by decide) (t := .int) (t' := .long) (by decide) (by decide)))
  have P3_v27 := P3_v8.other W21 (Or.inr (slot_ne (Or.inl (w_ hw 59 rfl)) (Or.inl (w_ hw 68 rfl)) (by decide) (t := .int) (t' := .long) (by decide) (by decide)))
  have P4_v28 := P4_v9.other W21 (Or.inr (slot_ne (Or.inl (w_ hw 65 rfl)) (Or.inl (w_ hw 68 rfl)) (by decide) (t := .int) (t' := .long) (by decide) (by decide)))
  have P5_v29 := P5_v10.other W21 (Or.inr (slot_ne (Or.inl (w_ hw 25 rfl)) (Or.inl (w_ hw 68 rfl)) (by decide) (t := (.array .int)) (t' := .long) (by decide) (by decide)))
  have P7_v30 := P7_v12.other W21 (Or.inr (slot_ne (Or.inl (w_ hw 21 rfl)) (Or.inl (w_ hw 68 rfl)) (by decide) (t := (.array .int)) (t' := .long) (by decide) (by decide)))
  have P8_v31 := P8_v13.other W21 (Or.inr (slot_ne (Or.inl (w_ hw 18 rfl)) (Or.inl (w_ hw 68 rfl)) (by decide) (t := (.array (.object "com/example/pennybreak/pennybreak/simplebook/RestingOrder"))) (t' := .long) (by decide) (by decide)))
  have P9_v32 := P9_v14.other W21 (Or.inr (slot_ne (Or.inl (w_ hw 48 rfl)) (Or.inl (w_ hw 68 rfl)) (by decide) (t := .int) (t' := .long) (by decide) (by decide)))
  have P11_v33 := P11_v15.other W21 (Or.inl (Ne.symm P19))
  have P12_v34 := P12_v16.other W21 (Ne.symm P16)
  have P13_v35 := P13_v17.other W21 (Ne.symm P17)
  have P14_v36 := P14_v18.other W21 (Ne.symm P18)
  have F_openSize_A4_v37 := F_openSize_A4_v19.other W21 (Or.inl (Ne.symm P19))
  have F_open_A0_v38 := P6_v11.same W21
  show Go p e below _ T21 (mkF m 21 #[.val (.ref A0), .val (.ref A4), .val (.int I6)] [])
  refine Go.s_aloadN X21 hx (hb hby d10_21) (q := 22) rfl rfl rfl ?_
  refine Go.s_aloadN X21 hx (hb hby d10_22) (q := 23) rfl rfl rfl ?_
  refine Go.getF X21 hx hZ hown (w_ hw 45 rfl) Via.refl e21 P11_v33 (hb hby d10_23) ?_
  intro T39 X39 e39
  show Go p e below _ T39 (mkF m 26 #[.val (.ref A0), .val (.ref A4), .val (.int I6)] [(.int (0 : Int32)), (.ref A0)])
  refine Go.s_aloadN X39 hx (hb hby d10_26) (q := 27) rfl rfl rfl ?_
  refine Go.getF X39 hx hZ hown (w_ hw 69 rfl) Via.refl e39 F_openSize_A4_v37 (hb hby d10_27) ?_
  intro T40 X40 e40
  show Go p e below _ T40 (mkF m 30 #[.val (.ref A0), .val (.ref A4), .val (.int I6)] [(.int (I6 - I6)), (.int (0 : Int32)), (.ref A0)])
  refine Go.callP (y := mn_9) X40 hx hZ hown (w_ hw 70 rfl) (w_ hw 71 rfl) (w_ hw 72 rfl) (w_ hw 7 rfl) (w_ hw 73 rfl) (w_ hw 8 rfl) (by decide) e40 P0_v24 (argsL := [(.int (0 : Int32)), (.int (I6 - I6))]) (rest := []) (rm_set_13 l Z a0 hw A0 A2 A3 (I6 - I6) h21 n0 Z0_v22 P0_v24 P2_v26 P5_v29 P7_v30 P9_v32 P13_v35 P14_v36 P17 P18 P21 P26 P28 P29) (by rw [hml]; rfl) (lenOf pd_3 rfl) rfl (hb hby d10_30) (by decide) (by decide) (by decide) (by decide) ?_
  intro r41 T41 L41 q41 X41
  obtain ⟨rfl, N41q, K41, f41_0, f41_1⟩ := q41
  have N41 := Fr.app N21 N41q
  have Z0_v42 := Nat.le_trans Z0_v22 K41.1
  have fact_K_v43 := Keep.trans fact_K_v23 K41 (allS (Or.inl (by simp)) (allS (Or.inl (by simp)) all0))
  have P0_v44 := P0_v24.keep K41
  have P1_v45 := P1_v25.keep K41
  have P2_v46 := P2_v26.keep K41 (ninS P17 (ninS P18 nin0))
  have P3_v47 := P3_v27.keep K41 (ninS P17 (ninS P18 nin0))
  have P4_v48 := P4_v28.keep K41 (ninS P17 (ninS P18 nin0))
  have P5_v49 := P5_v29.keep K41 (ninS P17 (ninS P18 nin0))
  have P7_v50 := P7_v30.keep K41 (ninS P17 (ninS P18 nin0))
  have P8_v51 := P8_v31.keep K41 (ninS P17 (ninS P18 nin0))
  have P9_v52 := P9_v32.keep K41 (ninS P17 (ninS P18 nin0))
  have P11_v53 := P11_v33.keep K41 (ninS P24 (ninS P25 nin0))
  have P12_v54 := P12_v34.keep K41 (ninS (Ne.symm P20) (ninS (Ne.symm P22) nin0))
  have F_openSize_A4_v55 := F_openSize_A4_v37.keep K41 (ninS P24 (ninS P25 nin0))
  have F_open_A0_v56 := F_open_A0_v38.keep K41 (ninS P17 (ninS P18 nin0))
  show Go p e below _ T41 (mkF m 33 #[.val (.ref A0), .val (.ref A4), .val (.int I6)] [])
  refine Go.s_aloadN X41 hx (hb hby d10_33) (q := 34) rfl rfl rfl ?_
  refine Go.getF X41 hx hZ hown (w_ hw 69 rfl) Via.refl rfl F_openSize_A4_v55 (hb hby d10_34) ?_
  intro T57 X57 e57
  show Go p e below _ T57 (mkF m 37 #[.val (.ref A0), .val (.ref A4), .val (.int I6)] [(.int (I6 - I6))])
  refine Go.s_ifNo X57 hx (hb hby d10_37) (q := 40) rfl ((if0 _ _).trans (teq C0).2) ?_
  refine Go.s_aloadN X57 hx (hb hby d10_40) (q := 41) rfl rfl rfl ?_
  refine Go.getF X57 hx hZ hown (w_ hw 17 rfl) Via.refl e57 P8_v51 (hb hby d10_41) ?_
  intro T58 X58 e58
  show Go p e below _ T58 (mkF m 44 #[.val (.ref A0), .val (.ref A4), .val (.int I6)] [(.ref A1)])
  refine Go.s_aloadN X58 hx (hb hby d10_44) (q := 45) rfl rfl rfl ?_
  refine Go.getF X58 hx hZ hown (w_ hw 45 rfl) Via.refl e58 P11_v53 (hb hby d10_45) ?_
  intro T59 X59 e59
  show Go p e below _ T59 (mkF m 48 #[.val (.ref A0), .val (.ref A4), .val (.int I6)] [(.int (0 : Int32)), (.ref A1)])
  refine Go.s_aconst_null X59 hx (hb hby d10_48) (q := 49) rfl ?_
  refine Go.stR X59 hx hZ e59 P12_v54 ⟨by decide, by decide⟩ (Or.inl rfl) rfl 0 rfl (by first | decide | exact Nat.le_of_ble_eq_true rfl) (hb hby d10_49) ?_
  intro T60 h60 X60 e60 W60 V60
  have N60 := Fr.snoc X60 N41 P27
  have Z0_v61 := Nat.le_trans Z0_v42 (Keep.of_wr W60).1
  have fact_K_v62 := fact_K_v43.wr W60 (Or.inl (by simp))
  have P0_v63 := P0_v44.wr W60
  have P1_v64 := P1_v45.wr W60
  have P2_v65 := P2_v46.other W60 (Or.inl P16)
  have P3_v66 := P3_v47.other W60 (Or.inl P16)
  have P4_v67 := P4_v48.other W60 (Or.inl P16)
  have P5_v68 := P5_v49.other W60 (Or.inl P16)
  have P7_v69 := P7_v50.other W60 (Or.inl P16)
  have P8_v70 := P8_v51.other W60 (Or.inl P16)
  have P9_v71 := P9_v52.other W60 (Or.inl P16)
  have P11_v72 := P11_v53.other W60 (Or.inl P23)
  have F_openSize_A4_v73 := F_openSize_A4_v55.other W60 (Or.inl P23)
  have F_open_A0_v74 := F_open_A0_v56.other W60 (Or.inl P16)
  have f41_0_v75 := f41_0.other W60 P20
  have f41_1_v76 := f41_1.other W60 P22
  have V60_77 : Arv Z h60 A1 k7 (.object "com/example/pennybreak/pennybreak/simplebook/RestingOrder") (4 : Int32) [.null, .null, .null, .null] .null := V60
  show Go p e below _ T60 (mkF m 50 #[.val (.ref A0), .val (.ref A4), .val (.int I6)] [])
  refine Go.s_aloadN X60 hx (hb hby d10_50) (q := 51) rfl rfl rfl ?_
  refine Go.s_dup X60 hx (hb hby d10_51) (q := 52) rfl rfl ?_
  refine Go.getF X60 hx hZ hown (w_ hw 58 rfl) Via.refl e60 P3_v66 (hb hby d10_52) ?_
  intro T78 X78 e78
  show Go p e below _ T78 (mkF m 55 #[.val (.ref A0), .val (.ref A4), .val (.int I6)] [(.int (1 : Int32)), (.ref A0)])
  refine Go.s_iconst X78 hx (hb hby d10_55) (q := 56) rfl (z := 1) rfl ?_
  refine Go.s_isub X78 hx (hb hby d10_56) (q := 57) rfl ?_
  rw [(by decide : ((1 : Int32) - (1 : Int32)) = (0 : Int32))]
  refine Go.putF X78 hx hZ hown (w_ hw 58 rfl) Via.refl e78 P3_v66 P0_v63 (Or.inl (w_ hw 59 rfl)) (w_ hw 7 rfl) (ty := .int) (by decide) rfl rfl (hb hby d10_57) ?_
  intro T79 h79 X79 e79 W79
  have N79 := Fr.snoc X79 N60 P26
  have Z0_v80 := Nat.le_trans Z0_v61 (Keep.of_wr W79).1
  have fact_K_v81 := fact_K_v62.wr W79 (Or.inl (by simp))
  have P0_v82 := P0_v63.wr W79
  have P1_v83 := P1_v64.wr W79
  have P2_v84 := P2_v65.other W79 (Or.inr (slot_ne (Or.inl (w_ hw 23 rfl)) (Or.inl (w_ hw 59 rfl)) (by decide) (t := .int) (t' := .int) (by decide) (by decide)))
  have P4_v85 := P4_v67.other W79 (Or.inr (slot_ne (Or.inl (w_ hw 65 rfl)) (Or.inl (w_ hw 59 rfl)) (by decide) (t := .int) (t' := .int) (by decide) (by decide)))
  have P5_v86 := P5_v68.other W79 (Or.inr (slot_ne (Or.inl (w_ hw 25 rfl)) (Or.inl (w_ hw 59 rfl)) (by decide) (t := (.array .int)) (t' := .int) (by decide) (by decide)))
  have P7_v87 := P7_v69.other W79 (Or.inr (slot_ne (Or.inl (w_ hw 21 rfl)) (Or.inl (w_ hw 59 rfl)) (by decide) (t := (.array .int)) (t' := .int) (by decide) (by decide)))
  have P8_v88 := P8_v70.other W79 (Or.inr (slot_ne (Or.inl (w_ hw 18 rfl)) (Or.inl (w_ hw 59 rfl)) (by decide) (t := (.array (.object "com/example/pennybreak/pennybreak/simplebook/RestingOrder"))) (t' := .int) (by decide) (by decide)))
  have P9_v89 := P9_v71.other W79 (Or.inr (slot_ne (Or.inl (w_ hw 48 rfl)) (Or.inl (w_ hw 59 rfl)) (by decide) (t := .int) (t' := .int) (by decide) (by decide)))
  have P11_v90 := P11_v72.other W79 (Or.inl (Ne.symm P19))
  have F_openSize_A4_v91 := F_openSize_A4_v73.other W79 (Or.inl (Ne.symm P19))
  have F_open_A0_v92 := F_open_A0_v74.other W79 (Or.inr (slot_ne (Or.inl (w_ hw 68 rfl)) (Or.inl (w_ hw 59 rfl)) (by decide) (t := .long) (t' := .int) (by decide) (by decide)))
  have f41_0_v93 := f41_0_v75.other W79 (Ne.symm P17)
  have f41_1_v94 := f41_1_v76.other W79 (Ne.symm P18)
  have V60_77_v95 := V60_77.other W79 (Ne.symm P16)
  have F_count_A0_v96 := P3_v66.same W79
  show Go p e below _ T79 (mkF m 60 #[.val (.ref A0), .val (.ref A4), .val (.int I6)] [])
  refine Go.s_aloadN X79 hx (hb hby d10_60) (q := 61) rfl rfl rfl ?_
  refine Go.getF X79 hx hZ hown (w_ hw 64 rfl) Via.refl e79 P4_v85 (hb hby d10_61) ?_
  intro T97 X97 e97
  show Go p e below _ T97 (mkF m 64 #[.val (.ref A0), .val (.ref A4), .val (.int I6)] [(.int (0 : Int32))])
  refine Go.s_aloadN X97 hx (hb hby d10_64) (q := 65) rfl rfl rfl ?_
  refine Go.getF X97 hx hZ hown (w_ hw 47 rfl) Via.refl e97 P9_v89 (hb hby d10_65) ?_
  intro T98 X98 e98
  show Go p e below _ T98 (mkF m 68 #[.val (.ref A0), .val (.ref A4), .val (.int I6)] [(.int (1 : Int32)), (.int (0 : Int32))])
  refine Go.s_icmpNo X98 hx (hb hby d10_68) (q := 71) rfl (tlt (by decide : (0 : Int32) < (1 : Int32))).2.1 ?_
  refine Go.s_aloadN X98 hx (hb hby d10_71) (q := 72) rfl rfl rfl ?_
  refine Go.getF X98 hx hZ hown (w_ hw 17 rfl) Via.refl e98 P8_v88 (hb hby d10_72) ?_
  intro T99 X99 e99
  show Go p e below _ T99 (mkF m 75 #[.val (.ref A0), .val (.ref A4), .val (.int I6)] [(.ref A1)])
  refine Go.s_aloadN X99 hx (hb hby d10_75) (q := 76) rfl rfl rfl ?_
  refine Go.getF X99 hx hZ hown (w_ hw 64 rfl) Via.refl e99 P4_v85 (hb hby d10_76) ?_
  intro T100 X100 e100
  show Go p e below _ T100 (mkF m 79 #[.val (.ref A0), .val (.ref A4), .val (.int I6)] [(.int (0 : Int32)), (.ref A1)])
  refine Go.ldR X100 hx hZ e100 V60_77_v95 ⟨by decide, by decide⟩ (w := .null) rfl (hb hby d10_79) ?_
  show Go p e below _ T100 (mkF m 80 #[.val (.ref A0), .val (.ref A4), .val (.int I6)] [.null])
  refine Go.s_ifnonnullNo X100 hx (hb hby d10_80) (q := 83) rfl ?_
  refine Go.s_aloadN X100 hx (hb hby d10_83) (q := 84) rfl rfl rfl ?_
  refine Go.s_dup X100 hx (hb hby d10_84) (q := 85) rfl rfl ?_
  refine Go.getF X100 hx hZ hown (w_ hw 64 rfl) Via.refl e100 P4_v85 (hb hby d10_85) ?_
  intro T101 X101 e101
  show Go p e below _ T101 (mkF m 88 #[.val (.ref A0), .val (.ref A4), .val (.int I6)] [(.int (0 : Int32)), (.ref A0)])
  refine Go.s_iconst X101 hx (hb hby d10_88) (q := 89) rfl (z := 1) rfl ?_
  refine Go.s_iadd X101 hx (hb hby d10_89) (q := 90) rfl ?_
  rw [(by decide : ((0 : Int32) + (1 : Int32)) = (1 : Int32))]
  refine Go.putF X101 hx hZ hown (w_ hw 64 rfl) Via.refl e101 P4_v85 P0_v82 (Or.inl (w_ hw 65 rfl)) (w_ hw 7 rfl) (ty := .int) (by decide) rfl rfl (hb hby d10_90) ?_
  intro T102 h102 X102 e102 W102
  have N102 := Fr.snoc X102 N79 P26
  have Z0_v103 := Nat.le_trans Z0_v80 (Keep.of_wr W102).1
  have fact_K_v104 := fact_K_v81.wr W102 (Or.inl (by simp))
  have P0_v105 := P0_v82.wr W102
  have P1_v106 := P1_v83.wr W102
  have P2_v107 := P2_v84.other W102 (Or.inr (slot_ne (Or.inl (w_ hw 23 rfl)) (Or.inl (w_ hw 65 rfl)) (by decide) (t := .int) (t' := .int) (by decide) (by decide)))
  have P5_v108 := P5_v86.other W102 (Or.inr (slot_ne (Or.inl (w_ hw 25 rfl)) (Or.inl (w_ hw 65 rfl)) (by decide) (t := (.array .int)) (t' := .int) (by decide) (by decide)))
  have P7_v109 := P7_v87.other W102 (Or.inr (slot_ne (Or.inl (w_ hw 21 rfl)) (Or.inl (w_ hw 65 rfl)) (by decide) (t := (.array .int)) (t' := .int) (by decide) (by decide)))
  have P8_v110 := P8_v88.other W102 (Or.inr (slot_ne (Or.inl (w_ hw 18 rfl)) (Or.inl (w_ hw 65 rfl)) (by decide) (t := (.array (.object "com/example/pennybreak/pennybreak/simplebook/RestingOrder"))) (t' := .int) (by decide) (by decide)))
  have P9_v111 := P9_v89.other W102 (Or.inr (slot_ne (Or.inl (w_ hw 48 rfl)) (Or.inl (w_ hw 65 rfl)) (by decide) (t := .int) (t' := .int) (by decide) (by decide)))
  have P11_v112 := P11_v90.other W102 (Or.inl (Ne.symm P19))
  have F_openSize_A4_v113 := F_openSize_A4_v91.other W102 (Or.inl (Ne.symm P19))
  have F_open_A0_v114 := F_open_A0_v92.other W102 (Or.inr (slot_ne (Or.inl (w_ hw 68 rfl)) (Or.inl (w_ hw 65 rfl)) (by decide) (t := .long) (t' := .int) (by decide) (by decide)))
  have f41_0_v115 := f41_0_v93.other W102 (Ne.symm P17)
  have f41_1_v116 := f41_1_v94.other W102 (Ne.symm P18)
  have V60_77_v117 := V60_77_v95.other W102 (Ne.symm P16)
  have F_count_A0_v118 := F_count_A0_v96.other W102 (Or.inr (slot_ne (Or.inl (w_ hw 59 rfl)) (Or.inl (w_ hw 65 rfl)) (by decide) (t := .int) (t' := .int) (by decide) (by decide)))
  have F_front_A0_v119 := P4_v85.same W102
  show Go p e below _ T102 (mkF m 93 #[.val (.ref A0), .val (.ref A4), .val (.int I6)] [])
  refine Go.s_goto X102 hx (hb hby d10_93) (q := 60) (by decide) (by decide) ?_
  refine Go.s_aloadN X102 hx (hb hby d10_60) (q := 61) rfl rfl rfl ?_
  refine Go.getF X102 hx hZ hown (w_ hw 64 rfl) Via.refl e102 F_front_A0_v119 (hb hby d10_61) ?_
  intro T120 X120 e120
  show Go p e below _ T120 (mkF m 64 #[.val (.ref A0), .val (.ref A4), .val (.int I6)] [(.int (1 : Int32))])
  refine Go.s_aloadN X120 hx (hb hby d10_64) (q := 65) rfl rfl rfl ?_
  refine Go.getF X120 hx hZ hown (w_ hw 47 rfl) Via.refl e120 P9_v111 (hb hby d10_65) ?_
  intro T121 X121 e121
  show Go p e below _ T121 (mkF m 68 #[.val (.ref A0), .val (.ref A4), .val (.int I6)] [(.int (1 : Int32)), (.int (1 : Int32))])
  refine Go.s_icmpYes X121 hx (hb hby d10_68) (q := 96) (by decide) (by decide) (flt (by decide : ¬ ((1 : Int32) < (1 : Int32)))).2.1 ?_
  refine Go.s_aloadN X121 hx (hb hby d10_96) (q := 97) rfl rfl rfl ?_
  refine Go.getF X121 hx hZ hown (w_ hw 58 rfl) Via.refl e121 F_count_A0_v118 (hb hby d10_97) ?_
  intro T122 X122 e122
  show Go p e below _ T122 (mkF m 100 #[.val (.ref A0), .val (.ref A4), .val (.int I6)] [(.int (0 : Int32))])
  refine Go.s_aloadN X122 hx (hb hby d10_100) (q := 101) rfl rfl rfl ?_
  refine Go.getF X122 hx hZ hown (w_ hw 17 rfl) Via.refl e122 P8_v110 (hb hby d10_101) ?_
  intro T123 X123 e123
  show Go p e below _ T123 (mkF m 104 #[.val (.ref A0), .val (.ref A4), .val (.int I6)] [(.ref A1), (.int (0 : Int32))])
  refine Go.len X123 hx hZ e123 V60_77_v117 (hb hby d10_104) ?_
  show Go p e below _ T123 (mkF m 105 #[.val (.ref A0), .val (.ref A4), .val (.int I6)] [(.int (4 : Int32)), (.int (0 : Int32))])
  refine Go.s_bipush X123 hx (hb hby d10_105) (q := 107) rfl (z := 8) rfl ?_
  refine Go.s_idiv X123 hx (hb hby d10_107) (q := 108) rfl (by decide) ?_
  rw [(by decide : ((4 : Int32) / (8 : Int32)) = (0 : Int32))]
  refine Go.s_icmpYes X123 hx (hb hby d10_108) (q := 115) (by decide) (by decide) (flt (by decide : ¬ ((0 : Int32) < (0 : Int32)))).2.1 ?_
  refine Go.retV X123 hx hlk hret (hb hby d10_115) (by decide) (by decide) ?_
  try rw [e123]
  exact ⟨(J5 - (I6.toInt64)), (I6 - I6), rfl, N102, fact_K_v104, P0_v105, P1_v106, P2_v107, F_count_A0_v118, F_front_A0_v119, P5_v108, F_open_A0_v114, P7_v109, P8_v110, P9_v111, F_openSize_A4_v113, P11_v112, V60_77_v117, f41_0_v115, f41_1_v116, P15⟩
theorem ef_holds_30 (m : MethodId) (x0 : Addr) (x1 : Addr) : entryFrame m #[(.ref x0), (.ref x1)] 2 = mkF m 0 #[.val (.ref x0), .val (.ref x1)] [] := by first | (simp [entryFrame, mkF, argsToLocals, Value.category]; done) | rfl
set_option maxRecDepth 65536 in
set_option maxHeartbeats 40000000 in
theorem rm_holds_30 (l : Launch) (Z : State) (a0 : Array Value) (hw : ∀ d ∈ tables_1, d.before a0 Z = true)  (A0 : Addr) (A1 : Addr) (A2 : Addr) (A3 : Addr) (A4 : Addr) (k5 : ClassId) (h0 : Heap) (n0 : Nat) (Z0 : n0 ≤ h0.size) (P0 : Fld Z h0 A0 "com/example/pennybreak/pennybreak/simplebook/OrderQueue" "slots" "[Lcom/example/pennybreak/pennybreak/simplebook/RestingOrder;" (.ref A1)) (P1 : Fld Z h0 A0 "com/example/pennybreak/pennybreak/simplebook/OrderQueue" "used" "I" (.int (1 : Int32))) (P2 : Fld Z h0 A4 "com/example/pennybreak/pennybreak/simplebook/RestingOrder" "slot" "I" (.int (0 : Int32))) (P3 : Arv Z h0 A1 k5 (.object "com/example/pennybreak/pennybreak/simplebook/RestingOrder") (4 : Int32) [.null, .null, .null, .null] .null) (P4 : A0 ≠ A1) (P5 : A0 ≠ A2) (P6 : A0 ≠ A3) (P7 : A0 ≠ A4) (P8 : A2 ≠ A1) (P9 : A2 ≠ A3) (P10 : A3 ≠ A1) (P11 : A4 ≠ A1) (P12 : A4 ≠ A2) (P13 : A4 ≠ A3) :
    Ct l mn_5 prog_98_method_3_code 2 (some .boolean) ({ frames := 0, cells := 0, slots := 0, locals := 0 } : Room) Z h0 #[(.ref A0), (.ref A4)] (fun v h L => v = some (.int (0 : Int32)) ∧ L = [] ∧ h = h0) := by
  refine Ct.body (plainFor_of_name pn_com_example_pennybreak_pennybreak_simplebook_OrderQueue) ?_
  intro p e s m below meth c T0 hx hby hml hown hnm hret hlk hZ X0 e0
  refine Go.cast (ef_holds_30 m A0 A4) ?_
  show Go p e below _ T0 (mkF m 0 #[.val (.ref A0), .val (.ref A4)] [])
  refine Go.s_aloadN X0 hx (hb hby d5_0) (q := 1) rfl rfl rfl ?_
  refine Go.getF X0 hx hZ hown (w_ hw 45 rfl) Via.refl e0 P2 (hb hby d5_1) ?_
  intro T1 X1 e1
  show Go p e below _ T1 (mkF m 4 #[.val (.ref A0), .val (.ref A4)] [(.int (0 : Int32))])
  refine Go.s_aloadN X1 hx (hb hby d5_4) (q := 5) rfl rfl rfl ?_
  refine Go.getF X1 hx hZ hown (w_ hw 47 rfl) Via.refl e1 P1 (hb hby d5_5) ?_
  intro T2 X2 e2
  show Go p e below _ T2 (mkF m 8 #[.val (.ref A0), .val (.ref A4)] [(.int (1 : Int32)), (.int (0 : Int32))])
  refine Go.s_icmpNo X2 hx (hb hby d5_8) (q := 11) rfl (tlt (by decide : (0 : Int32) < (1 : Int32))).2.1 ?_
  refine Go.s_aloadN X2 hx (hb hby d5_11) (q := 12) rfl rfl rfl ?_
  refine Go.getF X2 hx hZ hown (w_ hw 17 rfl) Via.refl e2 P0 (hb hby d5_12) ?_
  intro T3 X3 e3
  show Go p e below _ T3 (mkF m 15 #[.val (.ref A0), .val (.ref A4)] [(.ref A1)])
  refine Go.s_aloadN X3 hx (hb hby d5_15) (q := 16) rfl rfl rfl ?_
  refine Go.getF X3 hx hZ hown (w_ hw 45 rfl) Via.refl e3 P2 (hb hby d5_16) ?_
  intro T4 X4 e4
  show Go p e below _ T4 (mkF m 19 #[.val (.ref A0), .val (.ref A4)] [(.int (0 : Int32)), (.ref A1)])
  refine Go.ldR X4 hx hZ e4 P3 ⟨by decide, by decide⟩ (w := .null) rfl (hb hby d5_19) ?_
  show Go p e below _ T4 (mkF m 20 #[.val (.ref A0), .val (.ref A4)] [.null])
  refine Go.s_aloadN X4 hx (hb hby d5_20) (q := 21) rfl rfl rfl ?_
  refine Go.s_acmp X4 hx (q := 28) (hb hby d5_21) rfl rfl (same := false) (decide_eq_false nofun) (by decide) (by decide) ?_
  refine Go.s_iconst X4 hx (hb hby d5_28) (q := 29) rfl (z := 0) rfl ?_
  refine Go.retN X4 hx hlk hret (by simp) (hb hby d5_29) (by decide) (by decide) ?_
  try rw [e4]
  exact ⟨(by decide), rfl, rfl⟩
theorem ef_take_31 (m : MethodId) (x0 : Addr) (x1 : Addr) (x2 : Int32) : entryFrame m #[(.ref x0), (.ref x1), (.int x2)] 3 = mkF m 0 #[.val (.ref x0), .val (.ref x1), .val (.int x2)] [] := by first | (simp [entryFrame, mkF, argsToLocals, Value.category]; done) | rfl
set_option maxRecDepth 65536 in
set_option maxHeartbeats 40000000 in
theorem rm_take_31 (l : Launch) (Z : State) (a0 : Array Value) (hw : ∀ d ∈ tables_1, d.before a0 Z = true)  (A0 : Addr) (A1 : Addr) (A2 : Addr) (A3 : Addr) (A4 : Addr) (J5 : Int64) (I6 : Int32) (k7 : ClassId) (I8 : Int32) (h0 : Heap) (n0 : Nat) (Z0 : n0 ≤ h0.size) (P0 : Exa Z h0 A0 "com/example/pennybreak/pennybreak/simplebook/OrderQueue") (P1 : Exa Z h0 A4 "com/example/pennybreak/pennybreak/simplebook/RestingOrder") (P2 : Fld Z h0 A0 "com/example/pennybreak/pennybreak/simplebook/OrderQueue" "blocks" "I" (.int (1 : Int32))) (P3 : Fld Z h0 A0 "com/example/pennybreak/pennybreak/simplebook/OrderQueue" "count" "I" (.int (1 : Int32))) (P4 : Fld Z h0 A0 "com/example/pennybreak/pennybreak/simplebook/OrderQueue" "front" "I" (.int (0 : Int32))) (P5 : Fld Z h0 A0 "com/example/pennybreak/pennybreak/simplebook/OrderQueue" "largest" "[I" (.ref A3)) (P6 : Fld Z h0 A0 "com/example/pennybreak/pennybreak/simplebook/OrderQueue" "open" "J" (.long J5)) (P7 : Fld Z h0 A0 "com/example/pennybreak/pennybreak/simplebook/OrderQueue" "sizes" "[I" (.ref A2)) (P8 : Fld Z h0 A0 "com/example/pennybreak/pennybreak/simplebook/OrderQueue" "slots" "[Lcom/example/pennybreak/pennybreak/simplebook/RestingOrder;" (.ref A1)) (P9 : Fld Z h0 A0 "com/example/pennybreak/pennybreak/simplebook/OrderQueue" "used" "I" (.int (1 : Int32))) (P10 : Fld Z h0 A4 "com/example/pennybreak/pennybreak/simplebook/RestingOrder" "openSize" "I" (.int I6)) (P11 : Fld Z h0 A4 "com/example/pennybreak/pennybreak/simplebook/RestingOrder" "slot" "I" (.int (0 : Int32))) (P12 : Arv Z h0 A1 k7 (.object "com/example/pennybreak/pennybreak/simplebook/RestingOrder") (4 : Int32) [(.ref A4), .null, .null, .null] .null) (P13 : UA Z h0 A2 4) (P14 : UA Z h0 A3 2) (P15 : Ovr Z k7 "com/example/pennybreak/pennybreak/simplebook/RestingOrder") (P16 : A0 ≠ A1) (P17 : A0 ≠ A2) (P18 : A0 ≠ A3) (P19 : A0 ≠ A4) (P20 : A2 ≠ A1) (P21 : A2 ≠ A3) (P22 : A3 ≠ A1) (P23 : A4 ≠ A1) (P24 : A4 ≠ A2) (P25 : A4 ≠ A3) (P26 : n0 ≤ A0) (P27 : n0 ≤ A1) (P28 : n0 ≤ A2) (P29 : n0 ≤ A3) (P30 : n0 ≤ A4) (C0 : ¬ ((I6 - I8) = (0 : Int32))) :
    Ct l mn_10 prog_98_method_4_code 3 none ({ frames := 3, cells := 0, slots := 0, locals := 60 } : Room) Z h0 #[(.ref A0), (.ref A4), (.int I8)] (fun v h L => ∃ w0 : Int64, ∃ w1 : Int32, v = none ∧ Fr n0 L ∧ Keep h0 h [A0, A2, A3, A4] ∧ Exa Z h A0 "com/example/pennybreak/pennybreak/simplebook/OrderQueue" ∧ Exa Z h A4 "com/example/pennybreak/pennybreak/simplebook/RestingOrder" ∧ Fld Z h A0 "com/example/pennybreak/pennybreak/simplebook/OrderQueue" "blocks" "I" (.int (1 : Int32)) ∧ Fld Z h A0 "com/example/pennybreak/pennybreak/simplebook/OrderQueue" "count" "I" (.int (1 : Int32)) ∧ Fld Z h A0 "com/example/pennybreak/pennybreak/simplebook/OrderQueue" "front" "I" (.int (0 : Int32)) ∧ Fld Z h A0 "com/example/pennybreak/pennybreak/simplebook/OrderQueue" "largest" "[I" (.ref A3) ∧ Fld Z h A0 "com/example/pennybreak/pennybreak/simplebook/OrderQueue" "open" "J" (.long w0) ∧ Fld Z h A0 "com/example/pennybreak/pennybreak/simplebook/OrderQueue" "sizes" "[I" (.ref A2) ∧ Fld Z h A0 "com/example/pennybreak/pennybreak/simplebook/OrderQueue" "slots" "[Lcom/example/pennybreak/pennybreak/simplebook/RestingOrder;" (.ref A1) ∧ Fld Z h A0 "com/example/pennybreak/pennybreak/simplebook/OrderQueue" "used" "I" (.int (1 : Int32)) ∧ Fld Z h A4 "com/example/pennybreak/pennybreak/simplebook/RestingOrder" "openSize" "I" (.int w1) ∧ Fld Z h A4 "com/example/pennybreak/pennybreak/simplebook/RestingOrder" "slot" "I" (.int (0 : Int32)) ∧ UA Z h A2 4 ∧ UA Z h A3 2) := by
  refine Ct.body (plainFor_of_name pn_com_example_pennybreak_pennybreak_simplebook_OrderQueue) ?_
  intro p e s m below meth c T0 hx hby hml hown hnm hret hlk hZ X0 e0
  refine Go.cast (ef_take_31 m A0 A4 I8) ?_
  show Go p e below _ T0 (mkF m 0 #[.val (.ref A0), .val (.ref A4), .val (.int I8)] [])
  refine Go.s_aloadN X0 hx (hb hby d10_0) (q := 1) rfl rfl rfl ?_
  refine Go.s_dup X0 hx (hb hby d10_1) (q := 2) rfl rfl ?_
  refine Go.getF X0 hx hZ hown (w_ hw 69 rfl) Via.refl e0 P10 (hb hby d10_2) ?_
  intro T1 X1 e1
  show Go p e below _ T1 (mkF m 5 #[.val (.ref A0), .val (.ref A4), .val (.int I8)] [(.int I6), (.ref A4)])
  refine Go.s_iloadN X1 hx (hb hby d10_5) (q := 6) rfl rfl ?_
  refine Go.s_isub X1 hx (hb hby d10_6) (q := 7) rfl ?_
  refine Go.putF X1 hx hZ hown (w_ hw 69 rfl) Via.refl e1 P10 P1 (Or.inl (w_ hw 38 rfl)) (w_ hw 27 rfl) (ty := .int) (by decide) rfl rfl (hb hby d10_7) ?_
  intro T2 h2 X2 e2 W2
  have N2 := Fr.snoc X2 (Fr.nil n0) P30
  have Z0_v3 := Nat.le_trans Z0 (Keep.of_wr W2).1
  have fact_K_v4 := (Keep.refl h0 [A0, A2, A3, A4]).wr W2 (Or.inl (by simp))
  have P0_v5 := P0.wr W2
  have P1_v6 := P1.wr W2
  have P2_v7 := P2.other W2 (Or.inl P19)
  have P3_v8 := P3.other W2 (Or.inl P19)
  have P4_v9 := P4.other W2 (Or.inl P19)
  have P5_v10 := P5.other W2 (Or.inl P19)
  have P6_v11 := P6.other W2 (Or.inl P19)
  have P7_v12 := P7.other W2 (Or.inl P19)
  have P8_v13 := P8.other W2 (Or.inl P19)
  have P9_v14 := P9.other W2 (Or.inl P19)
  have P11_v15 := P11.other W2 (Or.inr (slot_ne (Or.inl (w_ hw 46 rfl)) (Or.inl (w_ hw 38 rfl)) (by decide) (t := .int) (t' := .int) (by decide) (by decide)))
  have P12_v16 := P12.other W2 (Ne.symm P23)
  have P13_v17 := P13.other W2 (Ne.symm P24)
  have P14_v18 := P14.other W2 (Ne.symm P25)
  have F_openSize_A4_v19 := P10.same W2
  show Go p e below _ T2 (mkF m 10 #[.val (.ref A0), .val (.ref A4), .val (.int I8)] [])
  refine Go.s_aloadN X2 hx (hb hby d10_10) (q := 11) rfl rfl rfl ?_
  refine Go.s_dup X2 hx (hb hby d10_11) (q := 12) rfl rfl ?_
  refine Go.getF X2 hx hZ hown (w_ hw 67 rfl) Via.refl e2 P6_v11 (hb hby d10_12) ?_
  intro T20 X20 e20
  show Go p e below _ T20 (mkF m 15 #[.val (.ref A0), .val (.ref A4), .val (.int I8)] [(.long J5), (.ref A0)])
  refine Go.s_iloadN X20 hx (hb hby d10_15) (q := 16) rfl rfl ?_
  refine Go.s_i2l X20 hx (hb hby d10_16) (q := 17) rfl ?_
  refine Go.s_lsub X20 hx (hb hby d10_17) (q := 18) rfl ?_
  refine Go.putF X20 hx hZ hown (w_ hw 67 rfl) Via.refl e20 P6_v11 P0_v5 (Or.inl (w_ hw 68 rfl)) (w_ hw 7 rfl) (ty := .long) (by decide) rfl rfl (hb hby d10_18) ?_
  intro T21 h21 X21 e21 W21
  have N21 := Fr.snoc X21 N2 P26
  have Z0_v22 := Nat.le_trans Z0_v3 (Keep.of_wr W21).1
  have fact_K_v23 := fact_K_v4.wr W21 (Or.inl (by simp))
  have P0_v24 := P0_v5.wr W21
  have P1_v25 := P1_v6.wr W21
  have P2_v26 := P2_v7.other W21 (Or.inr (slot_ne (Or.inl (w_ hw 23 rfl)) (Or.inl (w_ hw 68 rfl)) (by decide) (t := .int) (t' := .long) (by decide) (by decide)))
  have P3_v27 := P3_v8.other W21 (Or.inr (slot_ne (Or.inl (w_ hw 59 rfl)) (Or.inl (w_ hw 68 rfl)) (by decide) (t := .int) (t' := .long) (by decide) (by decide)))
  have P4_v28 := P4_v9.other W21 (Or.inr (slot_ne (Or.inl (w_ hw 65 rfl)) (Or.inl (w_ hw 68 rfl)) (by decide) (t := .int) (t' := .long) (by decide) (by decide)))
  have P5_v29 := P5_v10.other W21 (Or.inr (slot_ne (Or.inl (w_ hw 25 rfl)) (Or.inl (w_ hw 68 rfl)) (by decide) (t := (.array .int)) (t' := .long) (by decide) (by decide)))
  have P7_v30 := P7_v12.other W21 (Or.inr (slot_ne (Or.inl (w_ hw 21 rfl)) (Or.inl (w_ hw 68 rfl)) (by decide) (t := (.array .int)) (t' := .long) (by decide) (by decide)))
  have P8_v31 := P8_v13.other W21 (Or.inr (slot_ne (Or.inl (w_ hw 18 rfl)) (Or.inl (w_ hw 68 rfl)) (by decide) (t := (.array (.object "com/example/pennybreak/pennybreak/simplebook/RestingOrder"))) (t' := .long) (by decide) (by decide)))
  have P9_v32 := P9_v14.other W21 (Or.inr (slot_ne (Or.inl (w_ hw 48 rfl)) (Or.inl (w_ hw 68 rfl)) (by decide) (t := .int) (t' := .long) (by decide) (by decide)))
  have P11_v33 := P11_v15.other W21 (Or.inl (Ne.symm P19))
  have P12_v34 := P12_v16.other W21 (Ne.symm P16)
  have P13_v35 := P13_v17.other W21 (Ne.symm P17)
  have P14_v36 := P14_v18.other W21 (Ne.symm P18)
  have F_openSize_A4_v37 := F_openSize_A4_v19.other W21 (Or.inl (Ne.symm P19))
  have F_open_A0_v38 := P6_v11.same W21
  show Go p e below _ T21 (mkF m 21 #[.val (.ref A0), .val (.ref A4), .val (.int I8)] [])
  refine Go.s_aloadN X21 hx (hb hby d10_21) (q := 22) rfl rfl rfl ?_
  refine Go.s_aloadN X21 hx (hb hby d10_22) (q := 23) rfl rfl rfl ?_
  refine Go.getF X21 hx hZ hown (w_ hw 45 rfl) Via.refl e21 P11_v33 (hb hby d10_23) ?_
  intro T39 X39 e39
  show Go p e below _ T39 (mkF m 26 #[.val (.ref A0), .val (.ref A4), .val (.int I8)] [(.int (0 : Int32)), (.ref A0)])
  refine Go.s_aloadN X39 hx (hb hby d10_26) (q := 27) rfl rfl rfl ?_
  refine Go.getF X39 hx hZ hown (w_ hw 69 rfl) Via.refl e39 F_openSize_A4_v37 (hb hby d10_27) ?_
  intro T40 X40 e40
  show Go p e below _ T40 (mkF m 30 #[.val (.ref A0), .val (.ref A4), .val (.int I8)] [(.int (I6 - I8)), (.int (0 : Int32)), (.ref A0)])
  refine Go.callP (y := mn_9) X40 hx hZ hown (w_ hw 70 rfl) (w_ hw 71 rfl) (w_ hw 72 rfl) (w_ hw 7 rfl) (w_ hw 73 rfl) (w_ hw 8 rfl) (by decide) e40 P0_v24 (argsL := [(.int (0 : Int32)), (.int (I6 - I8))]) (rest := []) (rm_set_13 l Z a0 hw A0 A2 A3 (I6 - I8) h21 n0 Z0_v22 P0_v24 P2_v26 P5_v29 P7_v30 P9_v32 P13_v35 P14_v36 P17 P18 P21 P26 P28 P29) (by rw [hml]; rfl) (lenOf pd_3 rfl) rfl (hb hby d10_30) (by decide) (by decide) (by decide) (by decide) ?_
  intro r41 T41 L41 q41 X41
  obtain ⟨rfl, N41q, K41, f41_0, f41_1⟩ := q41
  have N41 := Fr.app N21 N41q
  have Z0_v42 := Nat.le_trans Z0_v22 K41.1
  have fact_K_v43 := Keep.trans fact_K_v23 K41 (allS (Or.inl (by simp)) (allS (Or.inl (by simp)) all0))
  have P0_v44 := P0_v24.keep K41
  have P1_v45 := P1_v25.keep K41
  have P2_v46 := P2_v26.keep K41 (ninS P17 (ninS P18 nin0))
  have P3_v47 := P3_v27.keep K41 (ninS P17 (ninS P18 nin0))
  have P4_v48 := P4_v28.keep K41 (ninS P17 (ninS P18 nin0))
  have P5_v49 := P5_v29.keep K41 (ninS P17 (ninS P18 nin0))
  have P7_v50 := P7_v30.keep K41 (ninS P17 (ninS P18 nin0))
  have P8_v51 := P8_v31.keep K41 (ninS P17 (ninS P18 nin0))
  have P9_v52 := P9_v32.keep K41 (ninS P17 (ninS P18 nin0))
  have P11_v53 := P11_v33.keep K41 (ninS P24 (ninS P25 nin0))
  have P12_v54 := P12_v34.keep K41 (ninS (Ne.symm P20) (ninS (Ne.symm P22) nin0))
  have F_openSize_A4_v55 := F_openSize_A4_v37.keep K41 (ninS P24 (ninS P25 nin0))
  have F_open_A0_v56 := F_open_A0_v38.keep K41 (ninS P17 (ninS P18 nin0))
  show Go p e below _ T41 (mkF m 33 #[.val (.ref A0), .val (.ref A4), .val (.int I8)] [])
  refine Go.s_aloadN X41 hx (hb hby d10_33) (q := 34) rfl rfl rfl ?_
  refine Go.getF X41 hx hZ hown (w_ hw 69 rfl) Via.refl rfl F_openSize_A4_v55 (hb hby d10_34) ?_
  intro T57 X57 e57
  show Go p e below _ T57 (mkF m 37 #[.val (.ref A0), .val (.ref A4), .val (.int I8)] [(.int (I6 - I8))])
  refine Go.s_ifYes X57 hx (hb hby d10_37) (q := 115) (by decide) (by decide) ((if0 _ _).trans (feq C0).2) ?_
  refine Go.retV X57 hx hlk hret (hb hby d10_115) (by decide) (by decide) ?_
  try rw [e57]
  exact ⟨(J5 - (I8.toInt64)), (I6 - I8), rfl, N41, fact_K_v43, P0_v44, P1_v45, P2_v46, P3_v47, P4_v48, P5_v49, F_open_A0_v56, P7_v50, P8_v51, P9_v52, F_openSize_A4_v55, P11_v53, f41_0, f41_1⟩
theorem ef_add_32 (m : MethodId) (x0 : Addr) (x1 : Addr) : entryFrame m #[(.ref x0), (.ref x1)] 2 = mkF m 0 #[.val (.ref x0), .val (.ref x1)] [] := by first | (simp [entryFrame, mkF, argsToLocals, Value.category]; done) | rfl
set_option maxRecDepth 65536 in
set_option maxHeartbeats 40000000 in
theorem rm_add_32 (l : Launch) (Z : State) (a0 : Array Value) (hw : ∀ d ∈ tables_1, d.before a0 Z = true)  (A0 : Addr) (A1 : Addr) (A2 : Addr) (A3 : Addr) (A4 : Addr) (J5 : Int64) (I6 : Int32) (k7 : ClassId) (h0 : Heap) (n0 : Nat) (Z0 : n0 ≤ h0.size) (P0 : Exa Z h0 A0 "com/example/pennybreak/pennybreak/simplebook/OrderQueue") (P1 : Exa Z h0 A4 "com/example/pennybreak/pennybreak/simplebook/RestingOrder") (P2 : Fld Z h0 A0 "com/example/pennybreak/pennybreak/simplebook/OrderQueue" "blocks" "I" (.int (1 : Int32))) (P3 : Fld Z h0 A0 "com/example/pennybreak/pennybreak/simplebook/OrderQueue" "count" "I" (.int (0 : Int32))) (P4 : Fld Z h0 A0 "com/example/pennybreak/pennybreak/simplebook/OrderQueue" "front" "I" (.int (1 : Int32))) (P5 : Fld Z h0 A0 "com/example/pennybreak/pennybreak/simplebook/OrderQueue" "largest" "[I" (.ref A3)) (P6 : Fld Z h0 A0 "com/example/pennybreak/pennybreak/simplebook/OrderQueue" "open" "J" (.long J5)) (P7 : Fld Z h0 A0 "com/example/pennybreak/pennybreak/simplebook/OrderQueue" "sizes" "[I" (.ref A2)) (P8 : Fld Z h0 A0 "com/example/pennybreak/pennybreak/simplebook/OrderQueue" "slots" "[Lcom/example/pennybreak/pennybreak/simplebook/RestingOrder;" (.ref A1)) (P9 : Fld Z h0 A0 "com/example/pennybreak/pennybreak/simplebook/OrderQueue" "used" "I" (.int (1 : Int32))) (P10 : Fld Z h0 A4 "com/example/pennybreak/pennybreak/simplebook/RestingOrder" "openSize" "I" (.int I6)) (P11 : Fld Z h0 A4 "com/example/pennybreak/pennybreak/simplebook/RestingOrder" "slot" "I" (.int (0 : Int32))) (P12 : Arv Z h0 A1 k7 (.object "com/example/pennybreak/pennybreak/simplebook/RestingOrder") (4 : Int32) [.null, .null, .null, .null] .null) (P13 : UA Z h0 A2 4) (P14 : UA Z h0 A3 2) (P15 : Ovr Z k7 "com/example/pennybreak/pennybreak/simplebook/RestingOrder") (P16 : A0 ≠ A1) (P17 : A0 ≠ A2) (P18 : A0 ≠ A3) (P19 : A0 ≠ A4) (P20 : A2 ≠ A1) (P21 : A2 ≠ A3) (P22 : A3 ≠ A1) (P23 : A4 ≠ A1) (P24 : A4 ≠ A2) (P25 : A4 ≠ A3) (P26 : n0 ≤ A0) (P27 : n0 ≤ A1) (P28 : n0 ≤ A2) (P29 : n0 ≤ A3) (P30 : n0 ≤ A4) :
    Ct l mn_6 prog_98_method_2_code 2 none ({ frames := 3, cells := 0, slots := 0, locals := 60 } : Room) Z h0 #[(.ref A0), (.ref A4)] (fun v h L => ∃ w0 : Int64, v = none ∧ Fr n0 L ∧ Keep h0 h [A0, A1, A2, A3, A4] ∧ Exa Z h A0 "com/example/pennybreak/pennybreak/simplebook/OrderQueue" ∧ Exa Z h A4 "com/example/pennybreak/pennybreak/simplebook/RestingOrder" ∧ Fld Z h A0 "com/example/pennybreak/pennybreak/simplebook/OrderQueue" "blocks" "I" (.int (1 : Int32)) ∧ Fld Z h A0 "com/example/pennybreak/pennybreak/simplebook/OrderQueue" "count" "I" (.int (1 : Int32)) ∧ Fld Z h A0 "com/example/pennybreak/pennybreak/simplebook/OrderQueue" "front" "I" (.int (1 : Int32)) ∧ Fld Z h A0 "com/example/pennybreak/pennybreak/simplebook/OrderQueue" "largest" "[I" (.ref A3) ∧ Fld Z h A0 "com/example/pennybreak/pennybreak/simplebook/OrderQueue" "open" "J" (.long w0) ∧ Fld Z h A0 "com/example/pennybreak/pennybreak/simplebook/OrderQueue" "sizes" "[I" (.ref A2) ∧ Fld Z h A0 "com/example/pennybreak/pennybreak/simplebook/OrderQueue" "slots" "[Lcom/example/pennybreak/pennybreak/simplebook/RestingOrder;" (.ref A1) ∧ Fld Z h A0 "com/example/pennybreak/pennybreak/simplebook/OrderQueue" "used" "I" (.int (2 : Int32)) ∧ Fld Z h A4 "com/example/pennybreak/pennybreak/simplebook/RestingOrder" "openSize" "I" (.int I6) ∧ Fld Z h A4 "com/example/pennybreak/pennybreak/simplebook/RestingOrder" "slot" "I" (.int (1 : Int32)) ∧ Arv Z h A1 k7 (.object "com/example/pennybreak/pennybreak/simplebook/RestingOrder") (4 : Int32) [.null, (.ref A4), .null, .null] .null ∧ UA Z h A2 4 ∧ UA Z h A3 2 ∧ Ovr Z k7 "com/example/pennybreak/pennybreak/simplebook/RestingOrder") := by
  refine Ct.body (plainFor_of_name pn_com_example_pennybreak_pennybreak_simplebook_OrderQueue) ?_
  intro p e s m below meth c T0 hx hby hml hown hnm hret hlk hZ X0 e0
  refine Go.cast (ef_add_32 m A0 A4) ?_
  show Go p e below _ T0 (mkF m 0 #[.val (.ref A0), .val (.ref A4)] [])
  refine Go.s_aloadN X0 hx (hb hby d6_0) (q := 1) rfl rfl rfl ?_
  refine Go.getF X0 hx hZ hown (w_ hw 47 rfl) Via.refl e0 P9 (hb hby d6_1) ?_
  intro T1 X1 e1
  show Go p e below _ T1 (mkF m 4 #[.val (.ref A0), .val (.ref A4)] [(.int (1 : Int32))])
  refine Go.s_aloadN X1 hx (hb hby d6_4) (q := 5) rfl rfl rfl ?_
  refine Go.getF X1 hx hZ hown (w_ hw 17 rfl) Via.refl e1 P8 (hb hby d6_5) ?_
  intro T2 X2 e2
  show Go p e below _ T2 (mkF m 8 #[.val (.ref A0), .val (.ref A4)] [(.ref A1), (.int (1 : Int32))])
  refine Go.len X2 hx hZ e2 P12 (hb hby d6_8) ?_
  show Go p e below _ T2 (mkF m 9 #[.val (.ref A0), .val (.ref A4)] [(.int (4 : Int32)), (.int (1 : Int32))])
  refine Go.s_icmpYes X2 hx (hb hby d6_9) (q := 16) (by decide) (by decide) (feq (by decide : ¬ ((1 : Int32) = (4 : Int32)))).2 ?_
  refine Go.s_aloadN X2 hx (hb hby d6_16) (q := 17) rfl rfl rfl ?_
  refine Go.s_aloadN X2 hx (hb hby d6_17) (q := 18) rfl rfl rfl ?_
  refine Go.s_dup X2 hx (hb hby d6_18) (q := 19) rfl rfl ?_
  refine Go.getF X2 hx hZ hown (w_ hw 47 rfl) Via.refl e2 P9 (hb hby d6_19) ?_
  intro T3 X3 e3
  show Go p e below _ T3 (mkF m 22 #[.val (.ref A0), .val (.ref A4)] [(.int (1 : Int32)), (.ref A0), (.ref A4)])
  refine Go.s_dup_x1 X3 hx (hb hby d6_22) (q := 23) rfl rfl rfl ?_
  refine Go.s_iconst X3 hx (hb hby d6_23) (q := 24) rfl (z := 1) rfl ?_
  refine Go.s_iadd X3 hx (hb hby d6_24) (q := 25) rfl ?_
  rw [(by decide : ((1 : Int32) + (1 : Int32)) = (2 : Int32))]
  refine Go.putF X3 hx hZ hown (w_ hw 47 rfl) Via.refl e3 P9 P0 (Or.inl (w_ hw 48 rfl)) (w_ hw 7 rfl) (ty := .int) (by decide) rfl rfl (hb hby d6_25) ?_
  intro T4 h4 X4 e4 W4
  have N4 := Fr.snoc X4 (Fr.nil n0) P26
  have Z0_v5 := Nat.le_trans Z0 (Keep.of_wr W4).1
  have fact_K_v6 := (Keep.refl h0 [A0, A1, A2, A3, A4]).wr W4 (Or.inl (by simp))
  have P0_v7 := P0.wr W4
  have P1_v8 := P1.wr W4
  have P2_v9 := P2.other W4 (Or.inr (slot_ne (Or.inl (w_ hw 23 rfl)) (Or.inl (w_ hw 48 rfl)) (by decide) (t := .int) (t' := .int) (by decide) (by decide)))
  have P3_v10 := P3.other W4 (Or.inr (slot_ne (Or.inl (w_ hw 59 rfl)) (Or.inl (w_ hw 48 rfl)) (by decide) (t := .int) (t' := .int) (by decide) (by decide)))
  have P4_v11 := P4.other W4 (Or.inr (slot_ne (Or.inl (w_ hw 65 rfl)) (Or.inl (w_ hw 48 rfl)) (by decide) (t := .int) (t' := .int) (by decide) (by decide)))
  have P5_v12 := P5.other W4 (Or.inr (slot_ne (Or.inl (w_ hw 25 rfl)) (Or.inl (w_ hw 48 rfl)) (by decide) (t := (.array .int)) (t' := .int) (by decide) (by decide)))
  have P6_v13 := P6.other W4 (Or.inr (slot_ne (Or.inl (w_ hw 68 rfl)) (Or.inl (w_ hw 48 rfl)) (by decide) (t := .long) (t' := .int) (by decide) (by decide)))
  have P7_v14 := P7.other W4 (Or.inr (slot_ne (Or.inl (w_ hw 21 rfl)) (Or.inl (w_ hw 48 rfl)) (by decide) (t := (.array .int)) (t' := .int) (by decide) (by decide)))
  have P8_v15 := P8.other W4 (Or.inr (slot_ne (Or.inl (w_ hw 18 rfl)) (Or.inl (w_ hw 48 rfl)) (by decide) (t := (.array (.object "com/example/pennybreak/pennybreak/simplebook/RestingOrder"))) (t' := .int) (by decide) (by decide)))
  have P10_v16 := P10.other W4 (Or.inl (Ne.symm P19))
  have P11_v17 := P11.other W4 (Or.inl (Ne.symm P19))
  have P12_v18 := P12.other W4 (Ne.symm P16)
  have P13_v19 := P13.other W4 (Ne.symm P17)
  have P14_v20 := P14.other W4 (Ne.symm P18)
  have F_used_A0_v21 := P9.same W4
  show Go p e below _ T4 (mkF m 28 #[.val (.ref A0), .val (.ref A4)] [(.int (1 : Int32)), (.ref A4)])
  refine Go.putF X4 hx hZ hown (w_ hw 45 rfl) Via.refl e4 P11_v17 P1_v8 (Or.inl (w_ hw 46 rfl)) (w_ hw 27 rfl) (ty := .int) (by decide) rfl rfl (hb hby d6_28) ?_
  intro T22 h22 X22 e22 W22
  have N22 := Fr.snoc X22 N4 P30
  have Z0_v23 := Nat.le_trans Z0_v5 (Keep.of_wr W22).1
  have fact_K_v24 := fact_K_v6.wr W22 (Or.inl (by simp))
  have P0_v25 := P0_v7.wr W22
  have P1_v26 := P1_v8.wr W22
  have P2_v27 := P2_v9.other W22 (Or.inl P19)
  have P3_v28 := P3_v10.other W22 (Or.inl P19)
  have P4_v29 := P4_v11.other W22 (Or.inl P19)
  have P5_v30 := P5_v12.other W22 (Or.inl P19)
  have P6_v31 := P6_v13.other W22 (Or.inl P19)
  have P7_v32 := P7_v14.other W22 (Or.inl P19)
  have P8_v33 := P8_v15.other W22 (Or.inl P19)
  have P10_v34 := P10_v16.other W22 (Or.inr (slot_ne (Or.inl (w_ hw 38 rfl)) (Or.inl (w_ hw 46 rfl)) (by decide) (t := .int) (t' := .int) (by decide) (by decide)))
  have P12_v35 := P12_v18.other W22 (Ne.symm P23)
  have P13_v36 := P13_v19.other W22 (Ne.symm P24)
  have P14_v37 := P14_v20.other W22 (Ne.symm P25)
  have F_used_A0_v38 := F_used_A0_v21.other W22 (Or.inl P19)
  have F_slot_A4_v39 := P11_v17.same W22
  show Go p e below _ T22 (mkF m 31 #[.val (.ref A0), .val (.ref A4)] [])
  refine Go.s_aloadN X22 hx (hb hby d6_31) (q := 32) rfl rfl rfl ?_
  refine Go.getF X22 hx hZ hown (w_ hw 17 rfl) Via.refl e22 P8_v33 (hb hby d6_32) ?_
  intro T40 X40 e40
  show Go p e below _ T40 (mkF m 35 #[.val (.ref A0), .val (.ref A4)] [(.ref A1)])
  refine Go.s_aloadN X40 hx (hb hby d6_35) (q := 36) rfl rfl rfl ?_
  refine Go.getF X40 hx hZ hown (w_ hw 45 rfl) Via.refl e40 F_slot_A4_v39 (hb hby d6_36) ?_
  intro T41 X41 e41
  show Go p e below _ T41 (mkF m 39 #[.val (.ref A0), .val (.ref A4)] [(.int (1 : Int32)), (.ref A1)])
  refine Go.s_aloadN X41 hx (hb hby d6_39) (q := 40) rfl rfl rfl ?_
  refine Go.stR X41 hx hZ e41 P12_v35 ⟨by decide, by decide⟩ (sto_of P12_v35 P15 (Ins.self P1_v26)) rfl 1 rfl (by first | decide | exact Nat.le_of_ble_eq_true rfl) (hb hby d6_40) ?_
  intro T42 h42 X42 e42 W42 V42
  have N42 := Fr.snoc X42 N22 P27
  have Z0_v43 := Nat.le_trans Z0_v23 (Keep.of_wr W42).1
  have fact_K_v44 := fact_K_v24.wr W42 (Or.inl (by simp))
  have P0_v45 := P0_v25.wr W42
  have P1_v46 := P1_v26.wr W42
  have P2_v47 := P2_v27.other W42 (Or.inl P16)
  have P3_v48 := P3_v28.other W42 (Or.inl P16)
  have P4_v49 := P4_v29.other W42 (Or.inl P16)
  have P5_v50 := P5_v30.other W42 (Or.inl P16)
  have P6_v51 := P6_v31.other W42 (Or.inl P16)
  have P7_v52 := P7_v32.other W42 (Or.inl P16)
  have P8_v53 := P8_v33.other W42 (Or.inl P16)
  have P10_v54 := P10_v34.other W42 (Or.inl P23)
  have P13_v55 := P13_v36.other W42 P20
  have P14_v56 := P14_v37.other W42 P22
  have F_used_A0_v57 := F_used_A0_v38.other W42 (Or.inl P16)
  have F_slot_A4_v58 := F_slot_A4_v39.other W42 (Or.inl P23)
  have V42_59 : Arv Z h42 A1 k7 (.object "com/example/pennybreak/pennybreak/simplebook/RestingOrder") (4 : Int32) [.null, (.ref A4), .null, .null] .null := V42
  show Go p e below _ T42 (mkF m 41 #[.val (.ref A0), .val (.ref A4)] [])
  refine Go.s_aloadN X42 hx (hb hby d6_41) (q := 42) rfl rfl rfl ?_
  refine Go.s_dup X42 hx (hb hby d6_42) (q := 43) rfl rfl ?_
  refine Go.getF X42 hx hZ hown (w_ hw 58 rfl) Via.refl e42 P3_v48 (hb hby d6_43) ?_
  intro T60 X60 e60
  show Go p e below _ T60 (mkF m 46 #[.val (.ref A0), .val (.ref A4)] [(.int (0 : Int32)), (.ref A0)])
  refine Go.s_iconst X60 hx (hb hby d6_46) (q := 47) rfl (z := 1) rfl ?_
  refine Go.s_iadd X60 hx (hb hby d6_47) (q := 48) rfl ?_
  rw [(by decide : ((0 : Int32) + (1 : Int32)) = (1 : Int32))]
  refine Go.putF X60 hx hZ hown (w_ hw 58 rfl) Via.refl e60 P3_v48 P0_v45 (Or.inl (w_ hw 59 rfl)) (w_ hw 7 rfl) (ty := .int) (by decide) rfl rfl (hb hby d6_48) ?_
  intro T61 h61 X61 e61 W61
  have N61 := Fr.snoc X61 N42 P26
  have Z0_v62 := Nat.le_trans Z0_v43 (Keep.of_wr W61).1
  have fact_K_v63 := fact_K_v44.wr W61 (Or.inl (by simp))
  have P0_v64 := P0_v45.wr W61
  have P1_v65 := P1_v46.wr W61
  have P2_v66 := P2_v47.other W61 (Or.inr (slot_ne (Or.inl (w_ hw 23 rfl)) (Or.inl (w_ hw 59 rfl)) (by decide) (t := .int) (t' := .int) (by decide) (by decide)))
  have P4_v67 := P4_v49.other W61 (Or.inr (slot_ne (Or.inl (w_ hw 65 rfl)) (Or.inl (w_ hw 59 rfl)) (by decide) (t := .int) (t' := .int) (by decide) (by decide)))
  have P5_v68 := P5_v50.other W61 (Or.inr (slot_ne (Or.inl (w_ hw 25 rfl)) (Or.inl (w_ hw 59 rfl)) (by decide) (t := (.array .int)) (t' := .int) (by decide) (by decide)))
  have P6_v69 := P6_v51.other W61 (Or.inr (slot_ne (Or.inl (w_ hw 68 rfl)) (Or.inl (w_ hw 59 rfl)) (by decide) (t := .long) (t' := .int) (by decide) (by decide)))
  have P7_v70 := P7_v52.other W61 (Or.inr (slot_ne (Or.inl (w_ hw 21 rfl)) (Or.inl (w_ hw 59 rfl)) (by decide) (t := (.array .int)) (t' := .int) (by decide) (by decide)))
  have P8_v71 := P8_v53.other W61 (Or.inr (slot_ne (Or.inl (w_ hw 18 rfl)) (Or.inl (w_ hw 59 rfl)) (by decide) (t := (.array (.object "com/example/pennybreak/pennybreak/simplebook/RestingOrder"))) (t' := .int) (by decide) (by decide)))
  have P10_v72 := P10_v54.other W61 (Or.inl (Ne.symm P19))
  have P13_v73 := P13_v55.other W61 (Ne.symm P17)
  have P14_v74 := P14_v56.other W61 (Ne.symm P18)
  have F_used_A0_v75 := F_used_A0_v57.other W61 (Or.inr (slot_ne (Or.inl (w_ hw 48 rfl)) (Or.inl (w_ hw 59 rfl)) (by decide) (t := .int) (t' := .int) (by decide) (by decide)))
  have F_slot_A4_v76 := F_slot_A4_v58.other W61 (Or.inl (Ne.symm P19))
  have V42_59_v77 := V42_59.other W61 (Ne.symm P16)
  have F_count_A0_v78 := P3_v48.same W61
  show Go p e below _ T61 (mkF m 51 #[.val (.ref A0), .val (.ref A4)] [])
  refine Go.s_aloadN X61 hx (hb hby d6_51) (q := 52) rfl rfl rfl ?_
  refine Go.s_dup X61 hx (hb hby d6_52) (q := 53) rfl rfl ?_
  refine Go.getF X61 hx hZ hown (w_ hw 67 rfl) Via.refl e61 P6_v69 (hb hby d6_53) ?_
  intro T79 X79 e79
  show Go p e below _ T79 (mkF m 56 #[.val (.ref A0), .val (.ref A4)] [(.long J5), (.ref A0)])
  refine Go.s_aloadN X79 hx (hb hby d6_56) (q := 57) rfl rfl rfl ?_
  refine Go.getF X79 hx hZ hown (w_ hw 69 rfl) Via.refl e79 P10_v72 (hb hby d6_57) ?_
  intro T80 X80 e80
  show Go p e below _ T80 (mkF m 60 #[.val (.ref A0), .val (.ref A4)] [(.int I6), (.long J5), (.ref A0)])
  refine Go.s_i2l X80 hx (hb hby d6_60) (q := 61) rfl ?_
  refine Go.s_ladd X80 hx (hb hby d6_61) (q := 62) rfl ?_
  refine Go.putF X80 hx hZ hown (w_ hw 67 rfl) Via.refl e80 P6_v69 P0_v64 (Or.inl (w_ hw 68 rfl)) (w_ hw 7 rfl) (ty := .long) (by decide) rfl rfl (hb hby d6_62) ?_
  intro T81 h81 X81 e81 W81
  have N81 := Fr.snoc X81 N61 P26
  have Z0_v82 := Nat.le_trans Z0_v62 (Keep.of_wr W81).1
  have fact_K_v83 := fact_K_v63.wr W81 (Or.inl (by simp))
  have P0_v84 := P0_v64.wr W81
  have P1_v85 := P1_v65.wr W81
  have P2_v86 := P2_v66.other W81 (Or.inr (slot_ne (Or.inl (w_ hw 23 rfl)) (Or.inl (w_ hw 68 rfl)) (by decide) (t := .int) (t' := .long) (by decide) (by decide)))
  have P4_v87 := P4_v67.other W81 (Or.inr (slot_ne (Or.inl (w_ hw 65 rfl)) (Or.inl (w_ hw 68 rfl)) (by decide) (t := .int) (t' := .long) (by decide) (by decide)))
  have P5_v88 := P5_v68.other W81 (Or.inr (slot_ne (Or.inl (w_ hw 25 rfl)) (Or.inl (w_ hw 68 rfl)) (by decide) (t := (.array .int)) (t' := .long) (by decide) (by decide)))
  have P7_v89 := P7_v70.other W81 (Or.inr (slot_ne (Or.inl (w_ hw 21 rfl)) (Or.inl (w_ hw 68 rfl)) (by decide) (t := (.array .int)) (t' := .long) (by decide) (by decide)))
  have P8_v90 := P8_v71.other W81 (Or.inr (slot_ne (Or.inl (w_ hw 18 rfl)) (Or.inl (w_ hw 68 rfl)) (by decide) (t := (.array (.object "com/example/pennybreak/pennybreak/simplebook/RestingOrder"))) (t' := .long) (by decide) (by decide)))
  have P10_v91 := P10_v72.other W81 (Or.inl (Ne.symm P19))
  have P13_v92 := P13_v73.other W81 (Ne.symm P17)
  have P14_v93 := P14_v74.other W81 (Ne.symm P18)
  have F_used_A0_v94 := F_used_A0_v75.other W81 (Or.inr (slot_ne (Or.inl (w_ hw 48 rfl)) (Or.inl (w_ hw 68 rfl)) (by decide) (t := .int) (t' := .long) (by decide) (by decide)))
  have F_slot_A4_v95 := F_slot_A4_v76.other W81 (Or.inl (Ne.symm P19))
  have V42_59_v96 := V42_59_v77.other W81 (Ne.symm P16)
  have F_count_A0_v97 := F_count_A0_v78.other W81 (Or.inr (slot_ne (Or.inl (w_ hw 59 rfl)) (Or.inl (w_ hw 68 rfl)) (by decide) (t := .int) (t' := .long) (by decide) (by decide)))
  have F_open_A0_v98 := P6_v69.same W81
  show Go p e below _ T81 (mkF m 65 #[.val (.ref A0), .val (.ref A4)] [])
  refine Go.s_aloadN X81 hx (hb hby d6_65) (q := 66) rfl rfl rfl ?_
  refine Go.s_aloadN X81 hx (hb hby d6_66) (q := 67) rfl rfl rfl ?_
  refine Go.getF X81 hx hZ hown (w_ hw 45 rfl) Via.refl e81 F_slot_A4_v95 (hb hby d6_67) ?_
  intro T99 X99 e99
  show Go p e below _ T99 (mkF m 70 #[.val (.ref A0), .val (.ref A4)] [(.int (1 : Int32)), (.ref A0)])
  refine Go.s_aloadN X99 hx (hb hby d6_70) (q := 71) rfl rfl rfl ?_
  refine Go.getF X99 hx hZ hown (w_ hw 69 rfl) Via.refl e99 P10_v91 (hb hby d6_71) ?_
  intro T100 X100 e100
  show Go p e below _ T100 (mkF m 74 #[.val (.ref A0), .val (.ref A4)] [(.int I6), (.int (1 : Int32)), (.ref A0)])
  refine Go.callP (y := mn_9) X100 hx hZ hown (w_ hw 70 rfl) (w_ hw 71 rfl) (w_ hw 72 rfl) (w_ hw 7 rfl) (w_ hw 73 rfl) (w_ hw 8 rfl) (by decide) e100 P0_v84 (argsL := [(.int (1 : Int32)), (.int I6)]) (rest := []) (rm_set_24 l Z a0 hw A0 A2 A3 I6 h81 n0 Z0_v82 P0_v84 P2_v86 P5_v88 P7_v89 F_used_A0_v94 P13_v92 P14_v93 P17 P18 P21 P26 P28 P29) (by rw [hml]; rfl) (lenOf pd_3 rfl) rfl (hb hby d6_74) (by decide) (by decide) (by decide) (by decide) ?_
  intro r101 T101 L101 q101 X101
  obtain ⟨rfl, N101q, K101, f101_0, f101_1⟩ := q101
  have N101 := Fr.app N81 N101q
  have Z0_v102 := Nat.le_trans Z0_v82 K101.1
  have fact_K_v103 := Keep.trans fact_K_v83 K101 (allS (Or.inl (by simp)) (allS (Or.inl (by simp)) all0))
  have P0_v104 := P0_v84.keep K101
  have P1_v105 := P1_v85.keep K101
  have P2_v106 := P2_v86.keep K101 (ninS P17 (ninS P18 nin0))
  have P4_v107 := P4_v87.keep K101 (ninS P17 (ninS P18 nin0))
  have P5_v108 := P5_v88.keep K101 (ninS P17 (ninS P18 nin0))
  have P7_v109 := P7_v89.keep K101 (ninS P17 (ninS P18 nin0))
  have P8_v110 := P8_v90.keep K101 (ninS P17 (ninS P18 nin0))
  have P10_v111 := P10_v91.keep K101 (ninS P24 (ninS P25 nin0))
  have F_used_A0_v112 := F_used_A0_v94.keep K101 (ninS P17 (ninS P18 nin0))
  have F_slot_A4_v113 := F_slot_A4_v95.keep K101 (ninS P24 (ninS P25 nin0))
  have V42_59_v114 := V42_59_v96.keep K101 (ninS (Ne.symm P20) (ninS (Ne.symm P22) nin0))
  have F_count_A0_v115 := F_count_A0_v97.keep K101 (ninS P17 (ninS P18 nin0))
  have F_open_A0_v116 := F_open_A0_v98.keep K101 (ninS P17 (ninS P18 nin0))
  show Go p e below _ T101 (mkF m 77 #[.val (.ref A0), .val (.ref A4)] [])
  refine Go.retV X101 hx hlk hret (hb hby d6_77) (by decide) (by decide) ?_
  exact ⟨(J5 + (I6.toInt64)), rfl, N101, fact_K_v103, P0_v104, P1_v105, P2_v106, F_count_A0_v115, P4_v107, P5_v108, F_open_A0_v116, P7_v109, P8_v110, F_used_A0_v112, P10_v111, F_slot_A4_v113, V42_59_v114, f101_0, f101_1, P15⟩
theorem ef_holds_33 (m : MethodId) (x0 : Addr) (x1 : Addr) : entryFrame m #[(.ref x0), (.ref x1)] 2 = mkF m 0 #[.val (.ref x0), .val (.ref x1)] [] := by first | (simp [entryFrame, mkF, argsToLocals, Value.category]; done) | rfl
set_option maxRecDepth 65536 in
set_option maxHeartbeats 40000000 in
theorem rm_holds_33 (l : Launch) (Z : State) (a0 : Array Value) (hw : ∀ d ∈ tables_1, d.before a0 Z = true)  (A0 : Addr) (A1 : Addr) (A2 : Addr) (A3 : Addr) (A4 : Addr) (A5 : Addr) (k6 : ClassId) (h0 : Heap) (n0 : Nat) (Z0 : n0 ≤ h0.size) (P0 : Fld Z h0 A0 "com/example/pennybreak/pennybreak/simplebook/OrderQueue" "slots" "[Lcom/example/pennybreak/pennybreak/simplebook/RestingOrder;" (.ref A1)) (P1 : Fld Z h0 A0 "com/example/pennybreak/pennybreak/simplebook/OrderQueue" "used" "I" (.int (2 : Int32))) (P2 : Fld Z h0 A4 "com/example/pennybreak/pennybreak/simplebook/RestingOrder" "slot" "I" (.int (0 : Int32))) (P3 : Fld Z h0 A5 "com/example/pennybreak/pennybreak/simplebook/RestingOrder" "slot" "I" (.int (1 : Int32))) (P4 : Arv Z h0 A1 k6 (.object "com/example/pennybreak/pennybreak/simplebook/RestingOrder") (4 : Int32) [.null, (.ref A5), .null, .null] .null) (P5 : A0 ≠ A1) (P6 : A0 ≠ A2) (P7 : A0 ≠ A3) (P8 : A0 ≠ A4) (P9 : A0 ≠ A5) (P10 : A2 ≠ A1) (P11 : A2 ≠ A3) (P12 : A3 ≠ A1) (P13 : A4 ≠ A1) (P14 : A4 ≠ A2) (P15 : A4 ≠ A3) (P16 : A4 ≠ A5) (P17 : A5 ≠ A1) (P18 : A5 ≠ A2) (P19 : A5 ≠ A3) :
    Ct l mn_5 prog_98_method_3_code 2 (some .boolean) ({ frames := 0, cells := 0, slots := 0, locals := 0 } : Room) Z h0 #[(.ref A0), (.ref A4)] (fun v h L => v = some (.int (0 : Int32)) ∧ L = [] ∧ h = h0) := by
  refine Ct.body (plainFor_of_name pn_com_example_pennybreak_pennybreak_simplebook_OrderQueue) ?_
  intro p e s m below meth c T0 hx hby hml hown hnm hret hlk hZ X0 e0
  refine Go.cast (ef_holds_33 m A0 A4) ?_
  show Go p e below _ T0 (mkF m 0 #[.val (.ref A0), .val (.ref A4)] [])
  refine Go.s_aloadN X0 hx (hb hby d5_0) (q := 1) rfl rfl rfl ?_
  refine Go.getF X0 hx hZ hown (w_ hw 45 rfl) Via.refl e0 P2 (hb hby d5_1) ?_
  intro T1 X1 e1
  show Go p e below _ T1 (mkF m 4 #[.val (.ref A0), .val (.ref A4)] [(.int (0 : Int32))])
  refine Go.s_aloadN X1 hx (hb hby d5_4) (q := 5) rfl rfl rfl ?_
  refine Go.getF X1 hx hZ hown (w_ hw 47 rfl) Via.refl e1 P1 (hb hby d5_5) ?_
  intro T2 X2 e2
  show Go p e below _ T2 (mkF m 8 #[.val (.ref A0), .val (.ref A4)] [(.int (2 : Int32)), (.int (0 : Int32))])
  refine Go.s_icmpNo X2 hx (hb hby d5_8) (q := 11) rfl (tlt (by decide : (0 : Int32) < (2 : Int32))).2.1 ?_
  refine Go.s_aloadN X2 hx (hb hby d5_11) (q := 12) rfl rfl rfl ?_
  refine Go.getF X2 hx hZ hown (w_ hw 17 rfl) Via.refl e2 P0 (hb hby d5_12) ?_
  intro T3 X3 e3
  show Go p e below _ T3 (mkF m 15 #[.val (.ref A0), .val (.ref A4)] [(.ref A1)])
  refine Go.s_aloadN X3 hx (hb hby d5_15) (q := 16) rfl rfl rfl ?_
  refine Go.getF X3 hx hZ hown (w_ hw 45 rfl) Via.refl e3 P2 (hb hby d5_16) ?_
  intro T4 X4 e4
  show Go p e below _ T4 (mkF m 19 #[.val (.ref A0), .val (.ref A4)] [(.int (0 : Int32)), (.ref A1)])
  refine Go.ldR X4 hx hZ e4 P4 ⟨by decide, by decide⟩ (w := .null) rfl (hb hby d5_19) ?_
  show Go p e below _ T4 (mkF m 20 #[.val (.ref A0), .val (.ref A4)] [.null])
  refine Go.s_aloadN X4 hx (hb hby d5_20) (q := 21) rfl rfl rfl ?_
  refine Go.s_acmp X4 hx (q := 28) (hb hby d5_21) rfl rfl (same := false) (decide_eq_false nofun) (by decide) (by decide) ?_
  refine Go.s_iconst X4 hx (hb hby d5_28) (q := 29) rfl (z := 0) rfl ?_
  refine Go.retN X4 hx hlk hret (by simp) (hb hby d5_29) (by decide) (by decide) ?_
  try rw [e4]
  exact ⟨(by decide), rfl, rfl⟩
theorem ef_holds_34 (m : MethodId) (x0 : Addr) (x1 : Addr) : entryFrame m #[(.ref x0), (.ref x1)] 2 = mkF m 0 #[.val (.ref x0), .val (.ref x1)] [] := by first | (simp [entryFrame, mkF, argsToLocals, Value.category]; done) | rfl
set_option maxRecDepth 65536 in
set_option maxHeartbeats 40000000 in
theorem rm_holds_34 (l : Launch) (Z : State) (a0 : Array Value) (hw : ∀ d ∈ tables_1, d.before a0 Z = true)  (A0 : Addr) (A1 : Addr) (A2 : Addr) (A3 : Addr) (A4 : Addr) (k5 : ClassId) (h0 : Heap) (n0 : Nat) (Z0 : n0 ≤ h0.size) (P0 : Fld Z h0 A0 "com/example/pennybreak/pennybreak/simplebook/OrderQueue" "slots" "[Lcom/example/pennybreak/pennybreak/simplebook/RestingOrder;" (.ref A1)) (P1 : Fld Z h0 A0 "com/example/pennybreak/pennybreak/simplebook/OrderQueue" "used" "I" (.int (2 : Int32))) (P2 : Fld Z h0 A4 "com/example/pennybreak/pennybreak/simplebook/RestingOrder" "slot" "I" (.int (1 : Int32))) (P3 : Arv Z h0 A1 k5 (.object "com/example/pennybreak/pennybreak/simplebook/RestingOrder") (4 : Int32) [.null, (.ref A4), .null, .null] .null) (P4 : A0 ≠ A1) (P5 : A0 ≠ A2) (P6 : A0 ≠ A3) (P7 : A0 ≠ A4) (P8 : A2 ≠ A1) (P9 : A2 ≠ A3) (P10 : A3 ≠ A1) (P11 : A4 ≠ A1) (P12 : A4 ≠ A2) (P13 : A4 ≠ A3) :
    Ct l mn_5 prog_98_method_3_code 2 (some .boolean) ({ frames := 0, cells := 0, slots := 0, locals := 0 } : Room) Z h0 #[(.ref A0), (.ref A4)] (fun v h L => v = some (.int (1 : Int32)) ∧ L = [] ∧ h = h0) := by
  refine Ct.body (plainFor_of_name pn_com_example_pennybreak_pennybreak_simplebook_OrderQueue) ?_
  intro p e s m below meth c T0 hx hby hml hown hnm hret hlk hZ X0 e0
  refine Go.cast (ef_holds_34 m A0 A4) ?_
  show Go p e below _ T0 (mkF m 0 #[.val (.ref A0), .val (.ref A4)] [])
  refine Go.s_aloadN X0 hx (hb hby d5_0) (q := 1) rfl rfl rfl ?_
  refine Go.getF X0 hx hZ hown (w_ hw 45 rfl) Via.refl e0 P2 (hb hby d5_1) ?_
  intro T1 X1 e1
  show Go p e below _ T1 (mkF m 4 #[.val (.ref A0), .val (.ref A4)] [(.int (1 : Int32))])
  refine Go.s_aloadN X1 hx (hb hby d5_4) (q := 5) rfl rfl rfl ?_
  refine Go.getF X1 hx hZ hown (w_ hw 47 rfl) Via.refl e1 P1 (hb hby d5_5) ?_
  intro T2 X2 e2
  show Go p e below _ T2 (mkF m 8 #[.val (.ref A0), .val (.ref A4)] [(.int (2 : Int32)), (.int (1 : Int32))])
  refine Go.s_icmpNo X2 hx (hb hby d5_8) (q := 11) rfl (tlt (by decide : (1 : Int32) < (2 : Int32))).2.1 ?_
  refine Go.s_aloadN X2 hx (hb hby d5_11) (q := 12) rfl rfl rfl ?_
  refine Go.getF X2 hx hZ hown (w_ hw 17 rfl) Via.refl e2 P0 (hb hby d5_12) ?_
  intro T3 X3 e3
  show Go p e below _ T3 (mkF m 15 #[.val (.ref A0), .val (.ref A4)] [(.ref A1)])
  refine Go.s_aloadN X3 hx (hb hby d5_15) (q := 16) rfl rfl rfl ?_
  refine Go.getF X3 hx hZ hown (w_ hw 45 rfl) Via.refl e3 P2 (hb hby d5_16) ?_
  intro T4 X4 e4
  show Go p e below _ T4 (mkF m 19 #[.val (.ref A0), .val (.ref A4)] [(.int (1 : Int32)), (.ref A1)])
  refine Go.ldR X4 hx hZ e4 P3 ⟨by decide, by decide⟩ (w := (.ref A4)) rfl (hb hby d5_19) ?_
  show Go p e below _ T4 (mkF m 20 #[.val (.ref A0), .val (.ref A4)] [(.ref A4)])
  refine Go.s_aloadN X4 hx (hb hby d5_20) (q := 21) rfl rfl rfl ?_
  refine Go.s_acmp X4 hx (q := 24) (hb hby d5_21) rfl rfl (same := true) (decide_eq_true rfl) (by decide) (by decide) ?_
  refine Go.s_iconst X4 hx (hb hby d5_24) (q := 25) rfl (z := 1) rfl ?_
  refine Go.s_goto X4 hx (hb hby d5_25) (q := 29) (by decide) (by decide) ?_
  refine Go.retN X4 hx hlk hret (by simp) (hb hby d5_29) (by decide) (by decide) ?_
  try rw [e4]
  exact ⟨(by decide), rfl, rfl⟩
theorem ef_holds_35 (m : MethodId) (x0 : Addr) (x1 : Addr) : entryFrame m #[(.ref x0), (.ref x1)] 2 = mkF m 0 #[.val (.ref x0), .val (.ref x1)] [] := by first | (simp [entryFrame, mkF, argsToLocals, Value.category]; done) | rfl
set_option maxRecDepth 65536 in
set_option maxHeartbeats 40000000 in
theorem rm_holds_35 (l : Launch) (Z : State) (a0 : Array Value) (hw : ∀ d ∈ tables_1, d.before a0 Z = true)  (A0 : Addr) (A1 : Addr) (A2 : Addr) (A3 : Addr) (A4 : Addr) (A5 : Addr) (k6 : ClassId) (h0 : Heap) (n0 : Nat) (Z0 : n0 ≤ h0.size) (P0 : Fld Z h0 A0 "com/example/pennybreak/pennybreak/simplebook/OrderQueue" "slots" "[Lcom/example/pennybreak/pennybreak/simplebook/RestingOrder;" (.ref A1)) (P1 : Fld Z h0 A0 "com/example/pennybreak/pennybreak/simplebook/OrderQueue" "used" "I" (.int (1 : Int32))) (P2 : Fld Z h0 A4 "com/example/pennybreak/pennybreak/simplebook/RestingOrder" "slot" "I" (.int (0 : Int32))) (P3 : Fld Z h0 A5 "com/example/pennybreak/pennybreak/simplebook/RestingOrder" "slot" "I" (.int (0 : Int32))) (P4 : Arv Z h0 A1 k6 (.object "com/example/pennybreak/pennybreak/simplebook/RestingOrder") (4 : Int32) [(.ref A5), .null, .null, .null] .null) (P5 : A0 ≠ A1) (P6 : A0 ≠ A2) (P7 : A0 ≠ A3) (P8 : A0 ≠ A4) (P9 : A0 ≠ A5) (P10 : A2 ≠ A1) (P11 : A2 ≠ A3) (P12 : A3 ≠ A1) (P13 : A4 ≠ A1) (P14 : A4 ≠ A2) (P15 : A4 ≠ A3) (P16 : A5 ≠ A1) (P17 : A5 ≠ A2) (P18 : A5 ≠ A3) (P19 : A5 ≠ A4) :
    Ct l mn_5 prog_98_method_3_code 2 (some .boolean) ({ frames := 0, cells := 0, slots := 0, locals := 0 } : Room) Z h0 #[(.ref A0), (.ref A4)] (fun v h L => v = some (.int (0 : Int32)) ∧ L = [] ∧ h = h0) := by
  refine Ct.body (plainFor_of_name pn_com_example_pennybreak_pennybreak_simplebook_OrderQueue) ?_
  intro p e s m below meth c T0 hx hby hml hown hnm hret hlk hZ X0 e0
  refine Go.cast (ef_holds_35 m A0 A4) ?_
  show Go p e below _ T0 (mkF m 0 #[.val (.ref A0), .val (.ref A4)] [])
  refine Go.s_aloadN X0 hx (hb hby d5_0) (q := 1) rfl rfl rfl ?_
  refine Go.getF X0 hx hZ hown (w_ hw 45 rfl) Via.refl e0 P2 (hb hby d5_1) ?_
  intro T1 X1 e1
  show Go p e below _ T1 (mkF m 4 #[.val (.ref A0), .val (.ref A4)] [(.int (0 : Int32))])
  refine Go.s_aloadN X1 hx (hb hby d5_4) (q := 5) rfl rfl rfl ?_
  refine Go.getF X1 hx hZ hown (w_ hw 47 rfl) Via.refl e1 P1 (hb hby d5_5) ?_
  intro T2 X2 e2
  show Go p e below _ T2 (mkF m 8 #[.val (.ref A0), .val (.ref A4)] [(.int (1 : Int32)), (.int (0 : Int32))])
  refine Go.s_icmpNo X2 hx (hb hby d5_8) (q := 11) rfl (tlt (by decide : (0 : Int32) < (1 : Int32))).2.1 ?_
  refine Go.s_aloadN X2 hx (hb hby d5_11) (q := 12) rfl rfl rfl ?_
  refine Go.getF X2 hx hZ hown (w_ hw 17 rfl) Via.refl e2 P0 (hb hby d5_12) ?_
  intro T3 X3 e3
  show Go p e below _ T3 (mkF m 15 #[.val (.ref A0), .val (.ref A4)] [(.ref A1)])
  refine Go.s_aloadN X3 hx (hb hby d5_15) (q := 16) rfl rfl rfl ?_
  refine Go.getF X3 hx hZ hown (w_ hw 45 rfl) Via.refl e3 P2 (hb hby d5_16) ?_
  intro T4 X4 e4
  show Go p e below _ T4 (mkF m 19 #[.val (.ref A0), .val (.ref A4)] [(.int (0 : Int32)), (.ref A1)])
  refine Go.ldR X4 hx hZ e4 P4 ⟨by decide, by decide⟩ (w := (.ref A5)) rfl (hb hby d5_19) ?_
  show Go p e below _ T4 (mkF m 20 #[.val (.ref A0), .val (.ref A4)] [(.ref A5)])
  refine Go.s_aloadN X4 hx (hb hby d5_20) (q := 21) rfl rfl rfl ?_
  refine Go.s_acmp X4 hx (q := 28) (hb hby d5_21) rfl rfl (same := false) (decide_eq_false fun q => P19 (Value.ref.inj q)) (by decide) (by decide) ?_
  refine Go.s_iconst X4 hx (hb hby d5_28) (q := 29) rfl (z := 0) rfl ?_
  refine Go.retN X4 hx hlk hret (by simp) (hb hby d5_29) (by decide) (by decide) ?_
  try rw [e4]
  exact ⟨(by decide), rfl, rfl⟩
theorem ef_holds_36 (m : MethodId) (x0 : Addr) (x1 : Addr) : entryFrame m #[(.ref x0), (.ref x1)] 2 = mkF m 0 #[.val (.ref x0), .val (.ref x1)] [] := by first | (simp [entryFrame, mkF, argsToLocals, Value.category]; done) | rfl
set_option maxRecDepth 65536 in
set_option maxHeartbeats 40000000 in
theorem rm_holds_36 (l : Launch) (Z : State) (a0 : Array Value) (hw : ∀ d ∈ tables_1, d.before a0 Z = true)  (A0 : Addr) (A1 : Addr) (A2 : Addr) (A3 : Addr) (A4 : Addr) (A5 : Addr) (A6 : Addr) (k7 : ClassId) (h0 : Heap) (n0 : Nat) (Z0 : n0 ≤ h0.size) (P0 : Fld Z h0 A0 "com/example/pennybreak/pennybreak/simplebook/OrderQueue" "slots" "[Lcom/example/pennybreak/pennybreak/simplebook/RestingOrder;" (.ref A1)) (P1 : Fld Z h0 A0 "com/example/pennybreak/pennybreak/simplebook/OrderQueue" "used" "I" (.int (2 : Int32))) (P2 : Fld Z h0 A4 "com/example/pennybreak/pennybreak/simplebook/RestingOrder" "slot" "I" (.int (0 : Int32))) (P3 : Fld Z h0 A5 "com/example/pennybreak/pennybreak/simplebook/RestingOrder" "slot" "I" (.int (0 : Int32))) (P4 : Fld Z h0 A6 "com/example/pennybreak/pennybreak/simplebook/RestingOrder" "slot" "I" (.int (1 : Int32))) (P5 : Arv Z h0 A1 k7 (.object "com/example/pennybreak/pennybreak/simplebook/RestingOrder") (4 : Int32) [(.ref A5), (.ref A6), .null, .null] .null) (P6 : A0 ≠ A1) (P7 : A0 ≠ A2) (P8 : A0 ≠ A3) (P9 : A0 ≠ A4) (P10 : A0 ≠ A5) (P11 : A0 ≠ A6) (P12 : A2 ≠ A1) (P13 : A2 ≠ A3) (P14 : A3 ≠ A1) (P15 : A4 ≠ A1) (P16 : A4 ≠ A2) (P17 : A4 ≠ A3) (P18 : A4 ≠ A6) (P19 : A5 ≠ A1) (P20 : A5 ≠ A2) (P21 : A5 ≠ A3) (P22 : A5 ≠ A4) (P23 : A5 ≠ A6) (P24 : A6 ≠ A1) (P25 : A6 ≠ A2) (P26 : A6 ≠ A3) :
    Ct l mn_5 prog_98_method_3_code 2 (some .boolean) ({ frames := 0, cells := 0, slots := 0, locals := 0 } : Room) Z h0 #[(.ref A0), (.ref A4)] (fun v h L => v = some (.int (0 : Int32)) ∧ L = [] ∧ h = h0) := by
  refine Ct.body (plainFor_of_name pn_com_example_pennybreak_pennybreak_simplebook_OrderQueue) ?_
  intro p e s m below meth c T0 hx hby hml hown hnm hret hlk hZ X0 e0
  refine Go.cast (ef_holds_36 m A0 A4) ?_
  show Go p e below _ T0 (mkF m 0 #[.val (.ref A0), .val (.ref A4)] [])
  refine Go.s_aloadN X0 hx (hb hby d5_0) (q := 1) rfl rfl rfl ?_
  refine Go.getF X0 hx hZ hown (w_ hw 45 rfl) Via.refl e0 P2 (hb hby d5_1) ?_
  intro T1 X1 e1
  show Go p e below _ T1 (mkF m 4 #[.val (.ref A0), .val (.ref A4)] [(.int (0 : Int32))])
  refine Go.s_aloadN X1 hx (hb hby d5_4) (q := 5) rfl rfl rfl ?_
  refine Go.getF X1 hx hZ hown (w_ hw 47 rfl) Via.refl e1 P1 (hb hby d5_5) ?_
  intro T2 X2 e2
  show Go p e below _ T2 (mkF m 8 #[.val (.ref A0), .val (.ref A4)] [(.int (2 : Int32)), (.int (0 : Int32))])
  refine Go.s_icmpNo X2 hx (hb hby d5_8) (q := 11) rfl (tlt (by decide : (0 : Int32) < (2 : Int32))).2.1 ?_
  refine Go.s_aloadN X2 hx (hb hby d5_11) (q := 12) rfl rfl rfl ?_
  refine Go.getF X2 hx hZ hown (w_ hw 17 rfl) Via.refl e2 P0 (hb hby d5_12) ?_
  intro T3 X3 e3
  show Go p e below _ T3 (mkF m 15 #[.val (.ref A0), .val (.ref A4)] [(.ref A1)])
  refine Go.s_aloadN X3 hx (hb hby d5_15) (q := 16) rfl rfl rfl ?_
  refine Go.getF X3 hx hZ hown (w_ hw 45 rfl) Via.refl e3 P2 (hb hby d5_16) ?_
  intro T4 X4 e4
  show Go p e below _ T4 (mkF m 19 #[.val (.ref A0), .val (.ref A4)] [(.int (0 : Int32)), (.ref A1)])
  refine Go.ldR X4 hx hZ e4 P5 ⟨by decide, by decide⟩ (w := (.ref A5)) rfl (hb hby d5_19) ?_
  show Go p e below _ T4 (mkF m 20 #[.val (.ref A0), .val (.ref A4)] [(.ref A5)])
  refine Go.s_aloadN X4 hx (hb hby d5_20) (q := 21) rfl rfl rfl ?_
  refine Go.s_acmp X4 hx (q := 28) (hb hby d5_21) rfl rfl (same := false) (decide_eq_false fun q => P22 (Value.ref.inj q)) (by decide) (by decide) ?_
  refine Go.s_iconst X4 hx (hb hby d5_28) (q := 29) rfl (z := 0) rfl ?_
  refine Go.retN X4 hx hlk hret (by simp) (hb hby d5_29) (by decide) (by decide) ?_
  try rw [e4]
  exact ⟨(by decide), rfl, rfl⟩
theorem ef_holds_37 (m : MethodId) (x0 : Addr) (x1 : Addr) : entryFrame m #[(.ref x0), (.ref x1)] 2 = mkF m 0 #[.val (.ref x0), .val (.ref x1)] [] := by first | (simp [entryFrame, mkF, argsToLocals, Value.category]; done) | rfl
set_option maxRecDepth 65536 in
set_option maxHeartbeats 40000000 in
theorem rm_holds_37 (l : Launch) (Z : State) (a0 : Array Value) (hw : ∀ d ∈ tables_1, d.before a0 Z = true)  (A0 : Addr) (A1 : Addr) (A2 : Addr) (A3 : Addr) (A4 : Addr) (A5 : Addr) (k6 : ClassId) (h0 : Heap) (n0 : Nat) (Z0 : n0 ≤ h0.size) (P0 : Fld Z h0 A0 "com/example/pennybreak/pennybreak/simplebook/OrderQueue" "slots" "[Lcom/example/pennybreak/pennybreak/simplebook/RestingOrder;" (.ref A1)) (P1 : Fld Z h0 A0 "com/example/pennybreak/pennybreak/simplebook/OrderQueue" "used" "I" (.int (2 : Int32))) (P2 : Fld Z h0 A4 "com/example/pennybreak/pennybreak/simplebook/RestingOrder" "slot" "I" (.int (0 : Int32))) (P3 : Fld Z h0 A5 "com/example/pennybreak/pennybreak/simplebook/RestingOrder" "slot" "I" (.int (1 : Int32))) (P4 : Arv Z h0 A1 k6 (.object "com/example/pennybreak/pennybreak/simplebook/RestingOrder") (4 : Int32) [(.ref A4), (.ref A5), .null, .null] .null) (P5 : A0 ≠ A1) (P6 : A0 ≠ A2) (P7 : A0 ≠ A3) (P8 : A0 ≠ A5) (P9 : A0 ≠ A4) (P10 : A2 ≠ A1) (P11 : A2 ≠ A3) (P12 : A3 ≠ A1) (P13 : A4 ≠ A1) (P14 : A4 ≠ A2) (P15 : A4 ≠ A3) (P16 : A4 ≠ A5) (P17 : A5 ≠ A1) (P18 : A5 ≠ A2) (P19 : A5 ≠ A3) :
    Ct l mn_5 prog_98_method_3_code 2 (some .boolean) ({ frames := 0, cells := 0, slots := 0, locals := 0 } : Room) Z h0 #[(.ref A0), (.ref A4)] (fun v h L => v = some (.int (1 : Int32)) ∧ L = [] ∧ h = h0) := by
  refine Ct.body (plainFor_of_name pn_com_example_pennybreak_pennybreak_simplebook_OrderQueue) ?_
  intro p e s m below meth c T0 hx hby hml hown hnm hret hlk hZ X0 e0
  refine Go.cast (ef_holds_37 m A0 A4) ?_
  show Go p e below _ T0 (mkF m 0 #[.val (.ref A0), .val (.ref A4)] [])
  refine Go.s_aloadN X0 hx (hb hby d5_0) (q := 1) rfl rfl rfl ?_
  refine Go.getF X0 hx hZ hown (w_ hw 45 rfl) Via.refl e0 P2 (hb hby d5_1) ?_
  intro T1 X1 e1
  show Go p e below _ T1 (mkF m 4 #[.val (.ref A0), .val (.ref A4)] [(.int (0 : Int32))])
  refine Go.s_aloadN X1 hx (hb hby d5_4) (q := 5) rfl rfl rfl ?_
  refine Go.getF X1 hx hZ hown (w_ hw 47 rfl) Via.refl e1 P1 (hb hby d5_5) ?_
  intro T2 X2 e2
  show Go p e below _ T2 (mkF m 8 #[.val (.ref A0), .val (.ref A4)] [(.int (2 : Int32)), (.int (0 : Int32))])
  refine Go.s_icmpNo X2 hx (hb hby d5_8) (q := 11) rfl (tlt (by decide : (0 : Int32) < (2 : Int32))).2.1 ?_
  refine Go.s_aloadN X2 hx (hb hby d5_11) (q := 12) rfl rfl rfl ?_
  refine Go.getF X2 hx hZ hown (w_ hw 17 rfl) Via.refl e2 P0 (hb hby d5_12) ?_
  intro T3 X3 e3
  show Go p e below _ T3 (mkF m 15 #[.val (.ref A0), .val (.ref A4)] [(.ref A1)])
  refine Go.s_aloadN X3 hx (hb hby d5_15) (q := 16) rfl rfl rfl ?_
  refine Go.getF X3 hx hZ hown (w_ hw 45 rfl) Via.refl e3 P2 (hb hby d5_16) ?_
  intro T4 X4 e4
  show Go p e below _ T4 (mkF m 19 #[.val (.ref A0), .val (.ref A4)] [(.int (0 : Int32)), (.ref A1)])
  refine Go.ldR X4 hx hZ e4 P4 ⟨by decide, by decide⟩ (w := (.ref A4)) rfl (hb hby d5_19) ?_
  show Go p e below _ T4 (mkF m 20 #[.val (.ref A0), .val (.ref A4)] [(.ref A4)])
  refine Go.s_aloadN X4 hx (hb hby d5_20) (q := 21) rfl rfl rfl ?_
  refine Go.s_acmp X4 hx (q := 24) (hb hby d5_21) rfl rfl (same := true) (decide_eq_true rfl) (by decide) (by decide) ?_
  refine Go.s_iconst X4 hx (hb hby d5_24) (q := 25) rfl (z := 1) rfl ?_
  refine Go.s_goto X4 hx (hb hby d5_25) (q := 29) (by decide) (by decide) ?_
  refine Go.retN X4 hx hlk hret (by simp) (hb hby d5_29) (by decide) (by decide) ?_
  try rw [e4]
  exact ⟨(by decide), rfl, rfl⟩
theorem ef_holds_38 (m : MethodId) (x0 : Addr) (x1 : Addr) : entryFrame m #[(.ref x0), (.ref x1)] 2 = mkF m 0 #[.val (.ref x0), .val (.ref x1)] [] := by first | (simp [entryFrame, mkF, argsToLocals, Value.category]; done) | rfl
set_option maxRecDepth 65536 in
set_option maxHeartbeats 40000000 in
theorem rm_holds_38 (l : Launch) (Z : State) (a0 : Array Value) (hw : ∀ d ∈ tables_1, d.before a0 Z = true)  (A0 : Addr) (A1 : Addr) (A2 : Addr) (A3 : Addr) (A4 : Addr) (A5 : Addr) (k6 : ClassId) (h0 : Heap) (n0 : Nat) (Z0 : n0 ≤ h0.size) (P0 : Fld Z h0 A0 "com/example/pennybreak/pennybreak/simplebook/OrderQueue" "slots" "[Lcom/example/pennybreak/pennybreak/simplebook/RestingOrder;" (.ref A1)) (P1 : Fld Z h0 A0 "com/example/pennybreak/pennybreak/simplebook/OrderQueue" "used" "I" (.int (2 : Int32))) (P2 : Fld Z h0 A4 "com/example/pennybreak/pennybreak/simplebook/RestingOrder" "slot" "I" (.int (1 : Int32))) (P3 : Fld Z h0 A5 "com/example/pennybreak/pennybreak/simplebook/RestingOrder" "slot" "I" (.int (0 : Int32))) (P4 : Arv Z h0 A1 k6 (.object "com/example/pennybreak/pennybreak/simplebook/RestingOrder") (4 : Int32) [(.ref A5), (.ref A4), .null, .null] .null) (P5 : A0 ≠ A1) (P6 : A0 ≠ A2) (P7 : A0 ≠ A3) (P8 : A0 ≠ A4) (P9 : A0 ≠ A5) (P10 : A2 ≠ A1) (P11 : A2 ≠ A3) (P12 : A3 ≠ A1) (P13 : A4 ≠ A1) (P14 : A4 ≠ A2) (P15 : A4 ≠ A3) (P16 : A5 ≠ A1) (P17 : A5 ≠ A2) (P18 : A5 ≠ A3) (P19 : A5 ≠ A4) :
    Ct l mn_5 prog_98_method_3_code 2 (some .boolean) ({ frames := 0, cells := 0, slots := 0, locals := 0 } : Room) Z h0 #[(.ref A0), (.ref A4)] (fun v h L => v = some (.int (1 : Int32)) ∧ L = [] ∧ h = h0) := by
  refine Ct.body (plainFor_of_name pn_com_example_pennybreak_pennybreak_simplebook_OrderQueue) ?_
  intro p e s m below meth c T0 hx hby hml hown hnm hret hlk hZ X0 e0
  refine Go.cast (ef_holds_38 m A0 A4) ?_
  show Go p e below _ T0 (mkF m 0 #[.val (.ref A0), .val (.ref A4)] [])
  refine Go.s_aloadN X0 hx (hb hby d5_0) (q := 1) rfl rfl rfl ?_
  refine Go.getF X0 hx hZ hown (w_ hw 45 rfl) Via.refl e0 P2 (hb hby d5_1) ?_
  intro T1 X1 e1
  show Go p e below _ T1 (mkF m 4 #[.val (.ref A0), .val (.ref A4)] [(.int (1 : Int32))])
  refine Go.s_aloadN X1 hx (hb hby d5_4) (q := 5) rfl rfl rfl ?_
  refine Go.getF X1 hx hZ hown (w_ hw 47 rfl) Via.refl e1 P1 (hb hby d5_5) ?_
  intro T2 X2 e2
  show Go p e below _ T2 (mkF m 8 #[.val (.ref A0), .val (.ref A4)] [(.int (2 : Int32)), (.int (1 : Int32))])
  refine Go.s_icmpNo X2 hx (hb hby d5_8) (q := 11) rfl (tlt (by decide : (1 : Int32) < (2 : Int32))).2.1 ?_
  refine Go.s_aloadN X2 hx (hb hby d5_11) (q := 12) rfl rfl rfl ?_
  refine Go.getF X2 hx hZ hown (w_ hw 17 rfl) Via.refl e2 P0 (hb hby d5_12) ?_
  intro T3 X3 e3
  show Go p e below _ T3 (mkF m 15 #[.val (.ref A0), .val (.ref A4)] [(.ref A1)])
  refine Go.s_aloadN X3 hx (hb hby d5_15) (q := 16) rfl rfl rfl ?_
  refine Go.getF X3 hx hZ hown (w_ hw 45 rfl) Via.refl e3 P2 (hb hby d5_16) ?_
  intro T4 X4 e4
  show Go p e below _ T4 (mkF m 19 #[.val (.ref A0), .val (.ref A4)] [(.int (1 : Int32)), (.ref A1)])
  refine Go.ldR X4 hx hZ e4 P4 ⟨by decide, by decide⟩ (w := (.ref A4)) rfl (hb hby d5_19) ?_
  show Go p e below _ T4 (mkF m 20 #[.val (.ref A0), .val (.ref A4)] [(.ref A4)])
  refine Go.s_aloadN X4 hx (hb hby d5_20) (q := 21) rfl rfl rfl ?_
  refine Go.s_acmp X4 hx (q := 24) (hb hby d5_21) rfl rfl (same := true) (decide_eq_true rfl) (by decide) (by decide) ?_
  refine Go.s_iconst X4 hx (hb hby d5_24) (q := 25) rfl (z := 1) rfl ?_
  refine Go.s_goto X4 hx (hb hby d5_25) (q := 29) (by decide) (by decide) ?_
  refine Go.retN X4 hx hlk hret (by simp) (hb hby d5_29) (by decide) (by decide) ?_
  try rw [e4]
  exact ⟨(by decide), rfl, rfl⟩
theorem ef_holds_39 (m : MethodId) (x0 : Addr) (x1 : Addr) : entryFrame m #[(.ref x0), (.ref x1)] 2 = mkF m 0 #[.val (.ref x0), .val (.ref x1)] [] := by first | (simp [entryFrame, mkF, argsToLocals, Value.category]; done) | rfl
set_option maxRecDepth 65536 in
set_option maxHeartbeats 40000000 in
theorem rm_holds_39 (l : Launch) (Z : State) (a0 : Array Value) (hw : ∀ d ∈ tables_1, d.before a0 Z = true)  (A0 : Addr) (A1 : Addr) (A2 : Addr) (A3 : Addr) (A4 : Addr) (A5 : Addr) (A6 : Addr) (k7 : ClassId) (h0 : Heap) (n0 : Nat) (Z0 : n0 ≤ h0.size) (P0 : Fld Z h0 A0 "com/example/pennybreak/pennybreak/simplebook/OrderQueue" "slots" "[Lcom/example/pennybreak/pennybreak/simplebook/RestingOrder;" (.ref A1)) (P1 : Fld Z h0 A0 "com/example/pennybreak/pennybreak/simplebook/OrderQueue" "used" "I" (.int (2 : Int32))) (P2 : Fld Z h0 A4 "com/example/pennybreak/pennybreak/simplebook/RestingOrder" "slot" "I" (.int (0 : Int32))) (P3 : Fld Z h0 A5 "com/example/pennybreak/pennybreak/simplebook/RestingOrder" "slot" "I" (.int (0 : Int32))) (P4 : Fld Z h0 A6 "com/example/pennybreak/pennybreak/simplebook/RestingOrder" "slot" "I" (.int (1 : Int32))) (P5 : Arv Z h0 A1 k7 (.object "com/example/pennybreak/pennybreak/simplebook/RestingOrder") (4 : Int32) [(.ref A5), (.ref A6), .null, .null] .null) (P6 : A0 ≠ A1) (P7 : A0 ≠ A2) (P8 : A0 ≠ A3) (P9 : A0 ≠ A6) (P10 : A0 ≠ A5) (P11 : A0 ≠ A4) (P12 : A2 ≠ A1) (P13 : A2 ≠ A3) (P14 : A3 ≠ A1) (P15 : A4 ≠ A1) (P16 : A4 ≠ A2) (P17 : A4 ≠ A3) (P18 : A5 ≠ A1) (P19 : A5 ≠ A2) (P20 : A5 ≠ A3) (P21 : A5 ≠ A6) (P22 : A5 ≠ A4) (P23 : A6 ≠ A1) (P24 : A6 ≠ A2) (P25 : A6 ≠ A3) (P26 : A6 ≠ A4) :
    Ct l mn_5 prog_98_method_3_code 2 (some .boolean) ({ frames := 0, cells := 0, slots := 0, locals := 0 } : Room) Z h0 #[(.ref A0), (.ref A4)] (fun v h L => v = some (.int (0 : Int32)) ∧ L = [] ∧ h = h0) := by
  refine Ct.body (plainFor_of_name pn_com_example_pennybreak_pennybreak_simplebook_OrderQueue) ?_
  intro p e s m below meth c T0 hx hby hml hown hnm hret hlk hZ X0 e0
  refine Go.cast (ef_holds_39 m A0 A4) ?_
  show Go p e below _ T0 (mkF m 0 #[.val (.ref A0), .val (.ref A4)] [])
  refine Go.s_aloadN X0 hx (hb hby d5_0) (q := 1) rfl rfl rfl ?_
  refine Go.getF X0 hx hZ hown (w_ hw 45 rfl) Via.refl e0 P2 (hb hby d5_1) ?_
  intro T1 X1 e1
  show Go p e below _ T1 (mkF m 4 #[.val (.ref A0), .val (.ref A4)] [(.int (0 : Int32))])
  refine Go.s_aloadN X1 hx (hb hby d5_4) (q := 5) rfl rfl rfl ?_
  refine Go.getF X1 hx hZ hown (w_ hw 47 rfl) Via.refl e1 P1 (hb hby d5_5) ?_
  intro T2 X2 e2
  show Go p e below _ T2 (mkF m 8 #[.val (.ref A0), .val (.ref A4)] [(.int (2 : Int32)), (.int (0 : Int32))])
  refine Go.s_icmpNo X2 hx (hb hby d5_8) (q := 11) rfl (tlt (by decide : (0 : Int32) < (2 : Int32))).2.1 ?_
  refine Go.s_aloadN X2 hx (hb hby d5_11) (q := 12) rfl rfl rfl ?_
  refine Go.getF X2 hx hZ hown (w_ hw 17 rfl) Via.refl e2 P0 (hb hby d5_12) ?_
  intro T3 X3 e3
  show Go p e below _ T3 (mkF m 15 #[.val (.ref A0), .val (.ref A4)] [(.ref A1)])
  refine Go.s_aloadN X3 hx (hb hby d5_15) (q := 16) rfl rfl rfl ?_
  refine Go.getF X3 hx hZ hown (w_ hw 45 rfl) Via.refl e3 P2 (hb hby d5_16) ?_
  intro T4 X4 e4
  show Go p e below _ T4 (mkF m 19 #[.val (.ref A0), .val (.ref A4)] [(.int (0 : Int32)), (.ref A1)])
  refine Go.ldR X4 hx hZ e4 P5 ⟨by decide, by decide⟩ (w := (.ref A5)) rfl (hb hby d5_19) ?_
  show Go p e below _ T4 (mkF m 20 #[.val (.ref A0), .val (.ref A4)] [(.ref A5)])
  refine Go.s_aloadN X4 hx (hb hby d5_20) (q := 21) rfl rfl rfl ?_
  refine Go.s_acmp X4 hx (q := 28) (hb hby d5_21) rfl rfl (same := false) (decide_eq_false fun q => P22 (Value.ref.inj q)) (by decide) (by decide) ?_
  refine Go.s_iconst X4 hx (hb hby d5_28) (q := 29) rfl (z := 0) rfl ?_
  refine Go.retN X4 hx hlk hret (by simp) (hb hby d5_29) (by decide) (by decide) ?_
  try rw [e4]
  exact ⟨(by decide), rfl, rfl⟩
theorem ef_largestIn_46 (m : MethodId) (x0 : Addr) (x1 : Int32) : entryFrame m #[(.ref x0), (.int x1)] 5 = mkF m 0 #[.val (.ref x0), .val (.int x1), .unset, .unset, .unset] [] := by first | (simp [entryFrame, mkF, argsToLocals, Value.category]; done) | rfl
set_option maxRecDepth 65536 in
set_option maxHeartbeats 40000000 in
theorem rm_largestIn_46 (l : Launch) (Z : State) (a0 : Array Value) (hw : ∀ d ∈ tables_1, d.before a0 Z = true)  (A0 : Addr) (A1 : Addr) (h0 : Heap) (n0 : Nat) (Z0 : n0 ≤ h0.size) (P0 : Fld Z h0 A0 "com/example/pennybreak/pennybreak/simplebook/OrderQueue" "sizes" "[I" (.ref A1)) (P1 : Fld Z h0 A0 "com/example/pennybreak/pennybreak/simplebook/OrderQueue" "used" "I" (.int (3 : Int32))) (P2 : UA Z h0 A1 4) (P3 : A0 ≠ A1) (P4 : n0 ≤ A0) (P5 : n0 ≤ A1) :
    Ct l mn_11 prog_98_method_11_code 5 (some .int) ({ frames := 1, cells := 0, slots := 0, locals := 16 } : Room) Z h0 #[(.ref A0), (.int (0 : Int32))] (fun v h L => ∃ w0 : Int32, v = some (.int w0) ∧ L = [] ∧ h = h0) := by
  refine Ct.body (plainFor_of_name pn_com_example_pennybreak_pennybreak_simplebook_OrderQueue) ?_
  intro p e s m below meth c T0 hx hby hml hown hnm hret hlk hZ X0 e0
  refine Go.cast (ef_largestIn_46 m A0 (0 : Int32)) ?_
  show Go p e below _ T0 (mkF m 0 #[.val (.ref A0), .val (.int (0 : Int32)), .unset, .unset, .unset] [])
  refine Go.s_iconst X0 hx (hb hby d11_0) (q := 1) rfl (z := 0) rfl ?_
  refine Go.s_istoreN X0 hx (hb hby d11_1) (q := 2) rfl (l' := #[.val (.ref A0), .val (.int (0 : Int32)), .val (.int (0 : Int32)), .unset, .unset]) rfl ?_
  refine Go.s_aloadN X0 hx (hb hby d11_2) (q := 3) rfl rfl rfl ?_
  refine Go.getF X0 hx hZ hown (w_ hw 47 rfl) Via.refl e0 P1 (hb hby d11_3) ?_
  intro T1 X1 e1
  show Go p e below _ T1 (mkF m 6 #[.val (.ref A0), .val (.int (0 : Int32)), .val (.int (0 : Int32)), .unset, .unset] [(.int (3 : Int32))])
  refine Go.s_iloadN X1 hx (hb hby d11_6) (q := 7) rfl rfl ?_
  refine Go.s_iconst X1 hx (hb hby d11_7) (q := 8) rfl (z := 1) rfl ?_
  refine Go.s_iadd X1 hx (hb hby d11_8) (q := 9) rfl ?_
  rw [(by decide : ((0 : Int32) + (1 : Int32)) = (1 : Int32))]
  refine Go.s_bipush X1 hx (hb hby d11_9) (q := 11) rfl (z := 6) rfl ?_
  refine Go.s_ishl X1 hx (hb hby d11_11) (q := 12) rfl ?_
  rw [(by decide : ((1 : Int32) <<< ((6 : Int32) &&& 31)) = (64 : Int32))]
  refine Go.callS (y := mn_12) X1 hx hZ hown (w_ hw 83 rfl) (w_ hw 84 rfl) (w_ hw 62 rfl) (w_ hw 85 rfl) (by decide) e1 (argsL := [(.int (3 : Int32)), (.int (64 : Int32))]) (rest := []) (rm_mn l Z a0 hw (3 : Int32) (64 : Int32) _) (by rw [hml]; rfl) (lenOf pd_2 rfl) rfl (hb hby d11_12) (by decide) (by decide) (by decide) (by decide) ?_
  intro r2 T2 L2 q2 X2
  obtain ⟨w2, rfl, p2, rfl, e2⟩ := q2
  rw [List.append_nil] at X2
  obtain rfl : w2 = (3 : Int32) := by rcases p2 with ⟨h, rfl⟩ | ⟨h, rfl⟩ <;> first | rfl | exact absurd h (by decide)
  show Go p e below _ T2 (mkF m 15 #[.val (.ref A0), .val (.int (0 : Int32)), .val (.int (0 : Int32)), .unset, .unset] [(.int (3 : Int32))])
  refine Go.s_istoreN X2 hx (hb hby d11_15) (q := 16) rfl (l' := #[.val (.ref A0), .val (.int (0 : Int32)), .val (.int (0 : Int32)), .val (.int (3 : Int32)), .unset]) rfl ?_
  refine Go.s_iloadN X2 hx (hb hby d11_16) (q := 17) rfl rfl ?_
  refine Go.s_bipush X2 hx (hb hby d11_17) (q := 19) rfl (z := 6) rfl ?_
  refine Go.s_ishl X2 hx (hb hby d11_19) (q := 20) rfl ?_
  rw [(by decide : ((0 : Int32) <<< ((6 : Int32) &&& 31)) = (0 : Int32))]
  refine Go.s_istore X2 hx (hb hby d11_20) (q := 22) rfl (l' := #[.val (.ref A0), .val (.int (0 : Int32)), .val (.int (0 : Int32)), .val (.int (3 : Int32)), .val (.int (0 : Int32))]) rfl ?_
  refine Go.s_iload X2 hx (hb hby d11_22) (q := 24) rfl rfl ?_
  refine Go.s_iloadN X2 hx (hb hby d11_24) (q := 25) rfl rfl ?_
  refine Go.s_icmpNo X2 hx (hb hby d11_25) (q := 28) rfl (tlt (by decide : (0 : Int32) < (3 : Int32))).2.1 ?_
  refine Go.s_iloadN X2 hx (hb hby d11_28) (q := 29) rfl rfl ?_
  refine Go.s_aloadN X2 hx (hb hby d11_29) (q := 30) rfl rfl rfl ?_
  refine Go.getF X2 hx hZ hown (w_ hw 20 rfl) Via.refl e2 P0 (hb hby d11_30) ?_
  intro T3 X3 e3
  show Go p e below _ T3 (mkF m 33 #[.val (.ref A0), .val (.int (0 : Int32)), .val (.int (0 : Int32)), .val (.int (3 : Int32)), .val (.int (0 : Int32))] [(.ref A1), (.int (0 : Int32))])
  refine Go.s_iload X3 hx (hb hby d11_33) (q := 35) rfl rfl ?_
  refine Go.ldU X3 hx hZ e3 P2 (by decide) (by decide) (hb hby d11_35) ?_
  intro y4
  show Go p e below _ T3 (mkF m 36 #[.val (.ref A0), .val (.int (0 : Int32)), .val (.int (0 : Int32)), .val (.int (3 : Int32)), .val (.int (0 : Int32))] [(.int y4), (.int (0 : Int32))])
  refine Go.callS (y := mn_8) X3 hx hZ hown (w_ hw 60 rfl) (w_ hw 61 rfl) (w_ hw 62 rfl) (w_ hw 63 rfl) (by decide) e3 (argsL := [(.int (0 : Int32)), (.int y4)]) (rest := []) (rm_mx l Z a0 hw (0 : Int32) y4 _) (by rw [hml]; rfl) (lenOf pd_2 rfl) rfl (hb hby d11_36) (by decide) (by decide) (by decide) (by decide) ?_
  intro r5 T5 L5 q5 X5
  obtain ⟨w5, rfl, p5, rfl, e5⟩ := q5
  rw [List.append_nil] at X5
  show Go p e below _ T5 (mkF m 39 #[.val (.ref A0), .val (.int (0 : Int32)), .val (.int (0 : Int32)), .val (.int (3 : Int32)), .val (.int (0 : Int32))] [(.int w5)])
  refine Go.s_istoreN X5 hx (hb hby d11_39) (q := 40) rfl (l' := #[.val (.ref A0), .val (.int (0 : Int32)), .val (.int w5), .val (.int (3 : Int32)), .val (.int (0 : Int32))]) rfl ?_
  refine Go.s_iinc X5 hx (hb hby d11_40) (q := 43) rfl rfl (l' := #[.val (.ref A0), .val (.int (0 : Int32)), .val (.int w5), .val (.int (3 : Int32)), .val (.int ((0 : Int32) + (1 : Int32)))]) rfl ?_
  rw [(by decide : ((0 : Int32) + (1 : Int32)) = (1 : Int32))]
  refine Go.s_goto X5 hx (hb hby d11_43) (q := 22) (by decide) (by decide) ?_
  refine Go.s_iload X5 hx (hb hby d11_22) (q := 24) rfl rfl ?_
  refine Go.s_iloadN X5 hx (hb hby d11_24) (q := 25) rfl rfl ?_
  refine Go.s_icmpNo X5 hx (hb hby d11_25) (q := 28) rfl (tlt (by decide : (1 : Int32) < (3 : Int32))).2.1 ?_
  refine Go.s_iloadN X5 hx (hb hby d11_28) (q := 29) rfl rfl ?_
  refine Go.s_aloadN X5 hx (hb hby d11_29) (q := 30) rfl rfl rfl ?_
  refine Go.getF X5 hx hZ hown (w_ hw 20 rfl) Via.refl e5 P0 (hb hby d11_30) ?_
  intro T6 X6 e6
  show Go p e below _ T6 (mkF m 33 #[.val (.ref A0), .val (.int (0 : Int32)), .val (.int w5), .val (.int (3 : Int32)), .val (.int (1 : Int32))] [(.ref A1), (.int w5)])
  refine Go.s_iload X6 hx (hb hby d11_33) (q := 35) rfl rfl ?_
  refine Go.ldU X6 hx hZ e6 P2 (by decide) (by decide) (hb hby d11_35) ?_
  intro y7
  show Go p e below _ T6 (mkF m 36 #[.val (.ref A0), .val (.int (0 : Int32)), .val (.int w5), .val (.int (3 : Int32)), .val (.int (1 : Int32))] [(.int y7), (.int w5)])
  refine Go.callS (y := mn_8) X6 hx hZ hown (w_ hw 60 rfl) (w_ hw 61 rfl) (w_ hw 62 rfl) (w_ hw 63 rfl) (by decide) e6 (argsL := [(.int w5), (.int y7)]) (rest := []) (rm_mx l Z a0 hw w5 y7 _) (by rw [hml]; rfl) (lenOf pd_2 rfl) rfl (hb hby d11_36) (by decide) (by decide) (by decide) (by decide) ?_
  intro r8 T8 L8 q8 X8
  obtain ⟨w8, rfl, p8, rfl, e8⟩ := q8
  rw [List.append_nil] at X8
  show Go p e below _ T8 (mkF m 39 #[.val (.ref A0), .val (.int (0 : Int32)), .val (.int w5), .val (.int (3 : Int32)), .val (.int (1 : Int32))] [(.int w8)])
  refine Go.s_istoreN X8 hx (hb hby d11_39) (q := 40) rfl (l' := #[.val (.ref A0), .val (.int (0 : Int32)), .val (.int w8), .val (.int (3 : Int32)), .val (.int (1 : Int32))]) rfl ?_
  refine Go.s_iinc X8 hx (hb hby d11_40) (q := 43) rfl rfl (l' := #[.val (.ref A0), .val (.int (0 : Int32)), .val (.int w8), .val (.int (3 : Int32)), .val (.int ((1 : Int32) + (1 : Int32)))]) rfl ?_
  rw [(by decide : ((1 : Int32) + (1 : Int32)) = (2 : Int32))]
  refine Go.s_goto X8 hx (hb hby d11_43) (q := 22) (by decide) (by decide) ?_
  refine Go.s_iload X8 hx (hb hby d11_22) (q := 24) rfl rfl ?_
  refine Go.s_iloadN X8 hx (hb hby d11_24) (q := 25) rfl rfl ?_
  refine Go.s_icmpNo X8 hx (hb hby d11_25) (q := 28) rfl (tlt (by decide : (2 : Int32) < (3 : Int32))).2.1 ?_
  refine Go.s_iloadN X8 hx (hb hby d11_28) (q := 29) rfl rfl ?_
  refine Go.s_aloadN X8 hx (hb hby d11_29) (q := 30) rfl rfl rfl ?_
  refine Go.getF X8 hx hZ hown (w_ hw 20 rfl) Via.refl e8 P0 (hb hby d11_30) ?_
  intro T9 X9 e9
  show Go p e below _ T9 (mkF m 33 #[.val (.ref A0), .val (.int (0 : Int32)), .val (.int w8), .val (.int (3 : Int32)), .val (.int (2 : Int32))] [(.ref A1), (.int w8)])
  refine Go.s_iload X9 hx (hb hby d11_33) (q := 35) rfl rfl ?_
  refine Go.ldU X9 hx hZ e9 P2 (by decide) (by decide) (hb hby d11_35) ?_
  intro y10
  show Go p e below _ T9 (mkF m 36 #[.val (.ref A0), .val (.int (0 : Int32)), .val (.int w8), .val (.int (3 : Int32)), .val (.int (2 : Int32))] [(.int y10), (.int w8)])
  refine Go.callS (y := mn_8) X9 hx hZ hown (w_ hw 60 rfl) (w_ hw 61 rfl) (w_ hw 62 rfl) (w_ hw 63 rfl) (by decide) e9 (argsL := [(.int w8), (.int y10)]) (rest := []) (rm_mx l Z a0 hw w8 y10 _) (by rw [hml]; rfl) (lenOf pd_2 rfl) rfl (hb hby d11_36) (by decide) (by decide) (by decide) (by decide) ?_
  intro r11 T11 L11 q11 X11
  obtain ⟨w11, rfl, p11, rfl, e11⟩ := q11
  rw [List.append_nil] at X11
  show Go p e below _ T11 (mkF m 39 #[.val (.ref A0), .val (.int (0 : Int32)), .val (.int w8), .val (.int (3 : Int32)), .val (.int (2 : Int32))] [(.int w11)])
  refine Go.s_istoreN X11 hx (hb hby d11_39) (q := 40) rfl (l' := #[.val (.ref A0), .val (.int (0 : Int32)), .val (.int w11), .val (.int (3 : Int32)), .val (.int (2 : Int32))]) rfl ?_
  refine Go.s_iinc X11 hx (hb hby d11_40) (q := 43) rfl rfl (l' := #[.val (.ref A0), .val (.int (0 : Int32)), .val (.int w11), .val (.int (3 : Int32)), .val (.int ((2 : Int32) + (1 : Int32)))]) rfl ?_
  rw [(by decide : ((2 : Int32) + (1 : Int32)) = (3 : Int32))]
  refine Go.s_goto X11 hx (hb hby d11_43) (q := 22) (by decide) (by decide) ?_
  refine Go.s_iload X11 hx (hb hby d11_22) (q := 24) rfl rfl ?_
  refine Go.s_iloadN X11 hx (hb hby d11_24) (q := 25) rfl rfl ?_
  refine Go.s_icmpYes X11 hx (hb hby d11_25) (q := 46) (by decide) (by decide) (flt (by decide : ¬ ((3 : Int32) < (3 : Int32)))).2.1 ?_
  refine Go.s_iloadN X11 hx (hb hby d11_46) (q := 47) rfl rfl ?_
  refine Go.retI X11 hx hlk hret (hb hby d11_47) (by decide) (by decide) ?_
  try rw [e11]
  exact ⟨w11, rfl, rfl, rfl⟩
theorem ef_set_45 (m : MethodId) (x0 : Addr) (x1 : Int32) (x2 : Int32) : entryFrame m #[(.ref x0), (.int x1), (.int x2)] 6 = mkF m 0 #[.val (.ref x0), .val (.int x1), .val (.int x2), .unset, .unset, .unset] [] := by first | (simp [entryFrame, mkF, argsToLocals, Value.category]; done) | rfl
set_option maxRecDepth 65536 in
set_option maxHeartbeats 40000000 in
theorem rm_set_45 (l : Launch) (Z : State) (a0 : Array Value) (hw : ∀ d ∈ tables_1, d.before a0 Z = true)  (A0 : Addr) (A1 : Addr) (A2 : Addr) (I3 : Int32) (h0 : Heap) (n0 : Nat) (Z0 : n0 ≤ h0.size) (P0 : Exa Z h0 A0 "com/example/pennybreak/pennybreak/simplebook/OrderQueue") (P1 : Fld Z h0 A0 "com/example/pennybreak/pennybreak/simplebook/OrderQueue" "blocks" "I" (.int (1 : Int32))) (P2 : Fld Z h0 A0 "com/example/pennybreak/pennybreak/simplebook/OrderQueue" "largest" "[I" (.ref A2)) (P3 : Fld Z h0 A0 "com/example/pennybreak/pennybreak/simplebook/OrderQueue" "sizes" "[I" (.ref A1)) (P4 : Fld Z h0 A0 "com/example/pennybreak/pennybreak/simplebook/OrderQueue" "used" "I" (.int (3 : Int32))) (P5 : UA Z h0 A1 4) (P6 : UA Z h0 A2 2) (P7 : A0 ≠ A1) (P8 : A0 ≠ A2) (P9 : A1 ≠ A2) (P10 : n0 ≤ A0) (P11 : n0 ≤ A1) (P12 : n0 ≤ A2) :
    Ct l mn_9 prog_98_method_10_code 6 none ({ frames := 2, cells := 0, slots := 0, locals := 40 } : Room) Z h0 #[(.ref A0), (.int (2 : Int32)), (.int I3)] (fun v h L => v = none ∧ Fr n0 L ∧ Keep h0 h [A1, A2] ∧ UA Z h A1 4 ∧ UA Z h A2 2) := by
  refine Ct.body (plainFor_of_name pn_com_example_pennybreak_pennybreak_simplebook_OrderQueue) ?_
  intro p e s m below meth c T0 hx hby hml hown hnm hret hlk hZ X0 e0
  refine Go.cast (ef_set_45 m A0 (2 : Int32) I3) ?_
  show Go p e below _ T0 (mkF m 0 #[.val (.ref A0), .val (.int (2 : Int32)), .val (.int I3), .unset, .unset, .unset] [])
  refine Go.s_aloadN X0 hx (hb hby d9_0) (q := 1) rfl rfl rfl ?_
  refine Go.getF X0 hx hZ hown (w_ hw 22 rfl) Via.refl e0 P1 (hb hby d9_1) ?_
  intro T1 X1 e1
  show Go p e below _ T1 (mkF m 4 #[.val (.ref A0), .val (.int (2 : Int32)), .val (.int I3), .unset, .unset, .unset] [(.int (1 : Int32))])
  refine Go.s_iloadN X1 hx (hb hby d9_4) (q := 5) rfl rfl ?_
  refine Go.s_bipush X1 hx (hb hby d9_5) (q := 7) rfl (z := 6) rfl ?_
  refine Go.s_ishr X1 hx (hb hby d9_7) (q := 8) rfl ?_
  rw [(by decide : ((2 : Int32) >>> ((6 : Int32) &&& 31)) = (0 : Int32))]
  refine Go.s_iadd X1 hx (hb hby d9_8) (q := 9) rfl ?_
  rw [(by decide : ((1 : Int32) + (0 : Int32)) = (1 : Int32))]
  refine Go.s_istoreN X1 hx (hb hby d9_9) (q := 10) rfl (l' := #[.val (.ref A0), .val (.int (2 : Int32)), .val (.int I3), .val (.int (1 : Int32)), .unset, .unset]) rfl ?_
  refine Go.s_aloadN X1 hx (hb hby d9_10) (q := 11) rfl rfl rfl ?_
  refine Go.getF X1 hx hZ hown (w_ hw 24 rfl) Via.refl e1 P2 (hb hby d9_11) ?_
  intro T2 X2 e2
  show Go p e below _ T2 (mkF m 14 #[.val (.ref A0), .val (.int (2 : Int32)), .val (.int I3), .val (.int (1 : Int32)), .unset, .unset] [(.ref A2)])
  refine Go.s_iloadN X2 hx (hb hby d9_14) (q := 15) rfl rfl ?_
  refine Go.ldU X2 hx hZ e2 P6 (by decide) (by decide) (hb hby d9_15) ?_
  intro y3
  show Go p e below _ T2 (mkF m 16 #[.val (.ref A0), .val (.int (2 : Int32)), .val (.int I3), .val (.int (1 : Int32)), .unset, .unset] [(.int y3)])
  refine Go.s_istore X2 hx (hb hby d9_16) (q := 18) rfl (l' := #[.val (.ref A0), .val (.int (2 : Int32)), .val (.int I3), .val (.int (1 : Int32)), .val (.int y3), .unset]) rfl ?_
  refine Go.s_aloadN X2 hx (hb hby d9_18) (q := 19) rfl rfl rfl ?_
  refine Go.getF X2 hx hZ hown (w_ hw 20 rfl) Via.refl e2 P3 (hb hby d9_19) ?_
  intro T4 X4 e4
  show Go p e below _ T4 (mkF m 22 #[.val (.ref A0), .val (.int (2 : Int32)), .val (.int I3), .val (.int (1 : Int32)), .val (.int y3), .unset] [(.ref A1)])
  refine Go.s_iloadN X4 hx (hb hby d9_22) (q := 23) rfl rfl ?_
  refine Go.ldU X4 hx hZ e4 P5 (by decide) (by decide) (hb hby d9_23) ?_
  intro y5
  show Go p e below _ T4 (mkF m 24 #[.val (.ref A0), .val (.int (2 : Int32)), .val (.int I3), .val (.int (1 : Int32)), .val (.int y3), .unset] [(.int y5)])
  refine Go.s_iload X4 hx (hb hby d9_24) (q := 26) rfl rfl ?_
  by_cases c26_6 : y5 = y3
  · -- pc 26: y5 = y3
    refine Go.s_icmpNo X4 hx (hb hby d9_26) (q := 29) rfl (teq c26_6).2 ?_
    refine Go.s_iloadN X4 hx (hb hby d9_29) (q := 30) rfl rfl ?_
    refine Go.s_iload X4 hx (hb hby d9_30) (q := 32) rfl rfl ?_
    by_cases c32_7 : I3 < y3
    · -- pc 32: I3 < y3
      refine Go.s_icmpNo X4 hx (hb hby d9_32) (q := 35) rfl (tlt c32_7).2.1 ?_
      refine Go.s_iconst X4 hx (hb hby d9_35) (q := 36) rfl (z := 1) rfl ?_
      refine Go.s_goto X4 hx (hb hby d9_36) (q := 40) (by decide) (by decide) ?_
      refine Go.s_istore X4 hx (hb hby d9_40) (q := 42) rfl (l' := #[.val (.ref A0), .val (.int (2 : Int32)), .val (.int I3), .val (.int (1 : Int32)), .val (.int y3), .val (.int (1 : Int32))]) rfl ?_
      refine Go.s_aloadN X4 hx (hb hby d9_42) (q := 43) rfl rfl rfl ?_
      refine Go.getF X4 hx hZ hown (w_ hw 20 rfl) Via.refl e4 P3 (hb hby d9_43) ?_
      intro T8 X8 e8
      show Go p e below _ T8 (mkF m 46 #[.val (.ref A0), .val (.int (2 : Int32)), .val (.int I3), .val (.int (1 : Int32)), .val (.int y3), .val (.int (1 : Int32))] [(.ref A1)])
      refine Go.s_iloadN X8 hx (hb hby d9_46) (q := 47) rfl rfl ?_
      refine Go.s_iloadN X8 hx (hb hby d9_47) (q := 48) rfl rfl ?_
      refine Go.stU X8 hx hZ e8 P5 (by decide) (by decide) (hb hby d9_48) ?_
      intro T9 h9 X9 e9 W9 U9
      have N9 := Fr.snoc X9 (Fr.nil n0) P11
      have Z0_v10 := Nat.le_trans Z0 (Keep.of_wr W9).1
      have fact_K_v11 := (Keep.refl h0 [A1, A2]).wr W9 (Or.inl (by simp))
      have P0_v12 := P0.wr W9
      have P1_v13 := P1.other W9 (Or.inl P7)
      have P2_v14 := P2.other W9 (Or.inl P7)
      have P3_v15 := P3.other W9 (Or.inl P7)
      have P4_v16 := P4.other W9 (Or.inl P7)
      have P6_v17 := P6.other W9 (Ne.symm P9)
      show Go p e below _ T9 (mkF m 49 #[.val (.ref A0), .val (.int (2 : Int32)), .val (.int I3), .val (.int (1 : Int32)), .val (.int y3), .val (.int (1 : Int32))] [])
      refine Go.s_iloadN X9 hx (hb hby d9_49) (q := 50) rfl rfl ?_
      refine Go.s_iload X9 hx (hb hby d9_50) (q := 52) rfl rfl ?_
      by_cases c52_18 : y3 < I3
      · -- pc 52: y3 < I3
        refine Go.s_icmpNo X9 hx (hb hby d9_52) (q := 55) rfl (tlt c52_18).2.2.2 ?_
        refine Go.s_iloadN X9 hx (hb hby d9_55) (q := 56) rfl rfl ?_
        refine Go.s_istore X9 hx (hb hby d9_56) (q := 58) rfl (l' := #[.val (.ref A0), .val (.int (2 : Int32)), .val (.int I3), .val (.int (1 : Int32)), .val (.int I3), .val (.int (1 : Int32))]) rfl ?_
        refine Go.s_goto X9 hx (hb hby d9_58) (q := 76) (by decide) (by decide) ?_
        refine Go.s_iloadN X9 hx (hb hby d9_76) (q := 77) rfl rfl ?_
        refine Go.s_iconst X9 hx (hb hby d9_77) (q := 78) rfl (z := 1) rfl ?_
        refine Go.s_icmpNo X9 hx (hb hby d9_78) (q := 81) rfl (flt (by decide : ¬ ((1 : Int32) < (1 : Int32)))).1 ?_
        refine Go.s_aloadN X9 hx (hb hby d9_81) (q := 82) rfl rfl rfl ?_
        refine Go.getF X9 hx hZ hown (w_ hw 24 rfl) Via.refl e9 P2_v14 (hb hby d9_82) ?_
        intro T19 X19 e19
        show Go p e below _ T19 (mkF m 85 #[.val (.ref A0), .val (.int (2 : Int32)), .val (.int I3), .val (.int (1 : Int32)), .val (.int I3), .val (.int (1 : Int32))] [(.ref A2)])
        refine Go.s_iloadN X19 hx (hb hby d9_85) (q := 86) rfl rfl ?_
        refine Go.ldU X19 hx hZ e19 P6_v17 (by decide) (by decide) (hb hby d9_86) ?_
        intro y20
        show Go p e below _ T19 (mkF m 87 #[.val (.ref A0), .val (.int (2 : Int32)), .val (.int I3), .val (.int (1 : Int32)), .val (.int I3), .val (.int (1 : Int32))] [(.int y20)])
        refine Go.s_iload X19 hx (hb hby d9_87) (q := 89) rfl rfl ?_
        by_cases c89_21 : y20 = I3
        · -- pc 89: y20 = I3
          refine Go.s_icmpYes X19 hx (hb hby d9_89) (q := 127) (by decide) (by decide) (teq c89_21).1 ?_
          refine Go.retV X19 hx hlk hret (hb hby d9_127) (by decide) (by decide) ?_
          try rw [e19]
          exact ⟨rfl, N9, fact_K_v11, U9, P6_v17⟩
        · -- pc 89: not y20 = I3
          refine Go.s_icmpNo X19 hx (hb hby d9_89) (q := 92) rfl (feq c89_21).1 ?_
          refine Go.s_aloadN X19 hx (hb hby d9_92) (q := 93) rfl rfl rfl ?_
          refine Go.getF X19 hx hZ hown (w_ hw 24 rfl) Via.refl e19 P2_v14 (hb hby d9_93) ?_
          intro T22 X22 e22
          show Go p e below _ T22 (mkF m 96 #[.val (.ref A0), .val (.int (2 : Int32)), .val (.int I3), .val (.int (1 : Int32)), .val (.int I3), .val (.int (1 : Int32))] [(.ref A2)])
          refine Go.s_iloadN X22 hx (hb hby d9_96) (q := 97) rfl rfl ?_
          refine Go.s_iload X22 hx (hb hby d9_97) (q := 99) rfl rfl ?_
          refine Go.stU X22 hx hZ e22 P6_v17 (by decide) (by decide) (hb hby d9_99) ?_
          intro T23 h23 X23 e23 W23 U23
          have N23 := Fr.snoc X23 N9 P12
          have Z0_v24 := Nat.le_trans Z0_v10 (Keep.of_wr W23).1
          have fact_K_v25 := fact_K_v11.wr W23 (Or.inl (by simp))
          have P0_v26 := P0_v12.wr W23
          have P1_v27 := P1_v13.other W23 (Or.inl P8)
          have P2_v28 := P2_v14.other W23 (Or.inl P8)
          have P3_v29 := P3_v15.other W23 (Or.inl P8)
          have P4_v30 := P4_v16.other W23 (Or.inl P8)
          have U9_v31 := U9.other W23 P9
          show Go p e below _ T23 (mkF m 100 #[.val (.ref A0), .val (.int (2 : Int32)), .val (.int I3), .val (.int (1 : Int32)), .val (.int I3), .val (.int (1 : Int32))] [])
          refine Go.s_iloadN X23 hx (hb hby d9_100) (q := 101) rfl rfl ?_
          refine Go.s_iconst X23 hx (hb hby d9_101) (q := 102) rfl (z := 1) rfl ?_
          refine Go.s_icmpYes X23 hx (hb hby d9_102) (q := 120) (by decide) (by decide) (flt (by decide : ¬ ((1 : Int32) < (1 : Int32)))).2.2.2 ?_
          refine Go.s_iloadN X23 hx (hb hby d9_120) (q := 121) rfl rfl ?_
          refine Go.s_iconst X23 hx (hb hby d9_121) (q := 122) rfl (z := 1) rfl ?_
          refine Go.s_ishr X23 hx (hb hby d9_122) (q := 123) rfl ?_
          rw [(by decide : ((1 : Int32) >>> ((1 : Int32) &&& 31)) = (0 : Int32))]
          refine Go.s_istoreN X23 hx (hb hby d9_123) (q := 124) rfl (l' := #[.val (.ref A0), .val (.int (2 : Int32)), .val (.int I3), .val (.int (0 : Int32)), .val (.int I3), .val (.int (1 : Int32))]) rfl ?_
          refine Go.s_goto X23 hx (hb hby d9_124) (q := 76) (by decide) (by decide) ?_
          refine Go.s_iloadN X23 hx (hb hby d9_76) (q := 77) rfl rfl ?_
          refine Go.s_iconst X23 hx (hb hby d9_77) (q := 78) rfl (z := 1) rfl ?_
          refine Go.s_icmpYes X23 hx (hb hby d9_78) (q := 127) (by decide) (by decide) (tlt (by decide : (0 : Int32) < (1 : Int32))).1 ?_
          refine Go.retV X23 hx hlk hret (hb hby d9_127) (by decide) (by decide) ?_
          try rw [e23]
          exact ⟨rfl, N23, fact_K_v25, U9_v31, U23⟩
      · -- pc 52: not y3 < I3
        refine Go.s_icmpYes X9 hx (hb hby d9_52) (q := 61) (by decide) (by decide) (flt c52_18).2.2.2 ?_
        refine Go.s_iload X9 hx (hb hby d9_61) (q := 63) rfl rfl ?_
        refine Go.s_ifNo X9 hx (hb hby d9_63) (q := 66) rfl ((if0 _ _).trans (feq (by decide : ¬ ((1 : Int32) = (0 : Int32)))).1) ?_
        refine Go.s_aloadN X9 hx (hb hby d9_66) (q := 67) rfl rfl rfl ?_
        refine Go.s_iloadN X9 hx (hb hby d9_67) (q := 68) rfl rfl ?_
        refine Go.s_bipush X9 hx (hb hby d9_68) (q := 70) rfl (z := 6) rfl ?_
        refine Go.s_ishr X9 hx (hb hby d9_70) (q := 71) rfl ?_
        rw [(by decide : ((2 : Int32) >>> ((6 : Int32) &&& 31)) = (0 : Int32))]
        refine Go.callP (y := mn_11) X9 hx hZ hown (w_ hw 79 rfl) (w_ hw 80 rfl) (w_ hw 81 rfl) (w_ hw 7 rfl) (w_ hw 82 rfl) (w_ hw 8 rfl) (by decide) e9 P0_v12 (argsL := [(.int (0 : Int32))]) (rest := []) (rm_largestIn_46 l Z a0 hw A0 A1 h9 n0 Z0_v10 P3_v15 P4_v16 U9 P7 P10 P11) (by rw [hml]; rfl) (lenOf pd_1 rfl) rfl (hb hby d9_71) (by decide) (by decide) (by decide) (by decide) ?_
        intro r32 T32 L32 q32 X32
        obtain ⟨w0_32, rfl, rfl, e32⟩ := q32
        rw [List.append_nil] at X32
        show Go p e below _ T32 (mkF m 74 #[.val (.ref A0), .val (.int (2 : Int32)), .val (.int I3), .val (.int (1 : Int32)), .val (.int y3), .val (.int (1 : Int32))] [(.int w0_32)])
        refine Go.s_istore X32 hx (hb hby d9_74) (q := 76) rfl (l' := #[.val (.ref A0), .val (.int (2 : Int32)), .val (.int I3), .val (.int (1 : Int32)), .val (.int w0_32), .val (.int (1 : Int32))]) rfl ?_
        refine Go.s_iloadN X32 hx (hb hby d9_76) (q := 77) rfl rfl ?_
        refine Go.s_iconst X32 hx (hb hby d9_77) (q := 78) rfl (z := 1) rfl ?_
        refine Go.s_icmpNo X32 hx (hb hby d9_78) (q := 81) rfl (flt (by decide : ¬ ((1 : Int32) < (1 : Int32)))).1 ?_
        refine Go.s_aloadN X32 hx (hb hby d9_81) (q := 82) rfl rfl rfl ?_
        refine Go.getF X32 hx hZ hown (w_ hw 24 rfl) Via.refl e32 P2_v14 (hb hby d9_82) ?_
        intro T33 X33 e33
        show Go p e below _ T33 (mkF m 85 #[.val (.ref A0), .val (.int (2 : Int32)), .val (.int I3), .val (.int (1 : Int32)), .val (.int w0_32), .val (.int (1 : Int32))] [(.ref A2)])
        refine Go.s_iloadN X33 hx (hb hby d9_85) (q := 86) rfl rfl ?_
        refine Go.ldU X33 hx hZ e33 P6_v17 (by decide) (by decide) (hb hby d9_86) ?_
        intro y34
        show Go p e below _ T33 (mkF m 87 #[.val (.ref A0), .val (.int (2 : Int32)), .val (.int I3), .val (.int (1 : Int32)), .val (.int w0_32), .val (.int (1 : Int32))] [(.int y34)])
        refine Go.s_iload X33 hx (hb hby d9_87) (q := 89) rfl rfl ?_
        by_cases c89_35 : y34 = w0_32
        · -- pc 89: y34 = w0_32
          refine Go.s_icmpYes X33 hx (hb hby d9_89) (q := 127) (by decide) (by decide) (teq c89_35).1 ?_
          refine Go.retV X33 hx hlk hret (hb hby d9_127) (by decide) (by decide) ?_
          try rw [e33]
          exact ⟨rfl, N9, fact_K_v11, U9, P6_v17⟩
        · -- pc 89: not y34 = w0_32
          refine Go.s_icmpNo X33 hx (hb hby d9_89) (q := 92) rfl (feq c89_35).1 ?_
          refine Go.s_aloadN X33 hx (hb hby d9_92) (q := 93) rfl rfl rfl ?_
          refine Go.getF X33 hx hZ hown (w_ hw 24 rfl) Via.refl e33 P2_v14 (hb hby d9_93) ?_
          intro T36 X36 e36
          show Go p e below _ T36 (mkF m 96 #[.val (.ref A0), .val (.int (2 : Int32)), .val (.int I3), .val (.int (1 : Int32)), .val (.int w0_32), .val (.int (1 : Int32))] [(.ref A2)])
          refine Go.s_iloadN X36 hx (hb hby d9_96) (q := 97) rfl rfl ?_
          refine Go.s_iload X36 hx (hb hby d9_97) (q := 99) rfl rfl ?_
          refine Go.stU X36 hx hZ e36 P6_v17 (by decide) (by decide) (hb hby d9_99) ?_
          intro T37 h37 X37 e37 W37 U37
          have N37 := Fr.snoc X37 N9 P12
          have Z0_v38 := Nat.le_trans Z0_v10 (Keep.of_wr W37).1
          have fact_K_v39 := fact_K_v11.wr W37 (Or.inl (by simp))
          have P0_v40 := P0_v12.wr W37
          have P1_v41 := P1_v13.other W37 (Or.inl P8)
          have P2_v42 := P2_v14.other W37 (Or.inl P8)
          have P3_v43 := P3_v15.other W37 (Or.inl P8)
          have P4_v44 := P4_v16.other W37 (Or.inl P8)
          have U9_v45 := U9.other W37 P9
          show Go p e below _ T37 (mkF m 100 #[.val (.ref A0), .val (.int (2 : Int32)), .val (.int I3), .val (.int (1 : Int32)), .val (.int w0_32), .val (.int (1 : Int32))] [])
          refine Go.s_iloadN X37 hx (hb hby d9_100) (q := 101) rfl rfl ?_
          refine Go.s_iconst X37 hx (hb hby d9_101) (q := 102) rfl (z := 1) rfl ?_
          refine Go.s_icmpYes X37 hx (hb hby d9_102) (q := 120) (by decide) (by decide) (flt (by decide : ¬ ((1 : Int32) < (1 : Int32)))).2.2.2 ?_
          refine Go.s_iloadN X37 hx (hb hby d9_120) (q := 121) rfl rfl ?_
          refine Go.s_iconst X37 hx (hb hby d9_121) (q := 122) rfl (z := 1) rfl ?_
          refine Go.s_ishr X37 hx (hb hby d9_122) (q := 123) rfl ?_
          rw [(by decide : ((1 : Int32) >>> ((1 : Int32) &&& 31)) = (0 : Int32))]
          refine Go.s_istoreN X37 hx (hb hby d9_123) (q := 124) rfl (l' := #[.val (.ref A0), .val (.int (2 : Int32)), .val (.int I3), .val (.int (0 : Int32)), .val (.int w0_32), .val (.int (1 : Int32))]) rfl ?_
          refine Go.s_goto X37 hx (hb hby d9_124) (q := 76) (by decide) (by decide) ?_
          refine Go.s_iloadN X37 hx (hb hby d9_76) (q := 77) rfl rfl ?_
          refine Go.s_iconst X37 hx (hb hby d9_77) (q := 78) rfl (z := 1) rfl ?_
          refine Go.s_icmpYes X37 hx (hb hby d9_78) (q := 127) (by decide) (by decide) (tlt (by decide : (0 : Int32) < (1 : Int32))).1 ?_
          refine Go.retV X37 hx hlk hret (hb hby d9_127) (by decide) (by decide) ?_
          try rw [e37]
          exact ⟨rfl, N37, fact_K_v39, U9_v45, U37⟩
    · -- pc 32: not I3 < y3
      refine Go.s_icmpYes X4 hx (hb hby d9_32) (q := 39) (by decide) (by decide) (flt c32_7).2.1 ?_
      refine Go.s_iconst X4 hx (hb hby d9_39) (q := 40) rfl (z := 0) rfl ?_
      refine Go.s_istore X4 hx (hb hby d9_40) (q := 42) rfl (l' := #[.val (.ref A0), .val (.int (2 : Int32)), .val (.int I3), .val (.int (1 : Int32)), .val (.int y3), .val (.int (0 : Int32))]) rfl ?_
      refine Go.s_aloadN X4 hx (hb hby d9_42) (q := 43) rfl rfl rfl ?_
      refine Go.getF X4 hx hZ hown (w_ hw 20 rfl) Via.refl e4 P3 (hb hby d9_43) ?_
      intro T46 X46 e46
      show Go p e below _ T46 (mkF m 46 #[.val (.ref A0), .val (.int (2 : Int32)), .val (.int I3), .val (.int (1 : Int32)), .val (.int y3), .val (.int (0 : Int32))] [(.ref A1)])
      refine Go.s_iloadN X46 hx (hb hby d9_46) (q := 47) rfl rfl ?_
      refine Go.s_iloadN X46 hx (hb hby d9_47) (q := 48) rfl rfl ?_
      refine Go.stU X46 hx hZ e46 P5 (by decide) (by decide) (hb hby d9_48) ?_
      intro T47 h47 X47 e47 W47 U47
      have N47 := Fr.snoc X47 (Fr.nil n0) P11
      have Z0_v48 := Nat.le_trans Z0 (Keep.of_wr W47).1
      have fact_K_v49 := (Keep.refl h0 [A1, A2]).wr W47 (Or.inl (by simp))
      have P0_v50 := P0.wr W47
      have P1_v51 := P1.other W47 (Or.inl P7)
      have P2_v52 := P2.other W47 (Or.inl P7)
      have P3_v53 := P3.other W47 (Or.inl P7)
      have P4_v54 := P4.other W47 (Or.inl P7)
      have P6_v55 := P6.other W47 (Ne.symm P9)
      show Go p e below _ T47 (mkF m 49 #[.val (.ref A0), .val (.int (2 : Int32)), .val (.int I3), .val (.int (1 : Int32)), .val (.int y3), .val (.int (0 : Int32))] [])
      refine Go.s_iloadN X47 hx (hb hby d9_49) (q := 50) rfl rfl ?_
      refine Go.s_iload X47 hx (hb hby d9_50) (q := 52) rfl rfl ?_
      by_cases c52_56 : y3 < I3
      · -- pc 52: y3 < I3
        refine Go.s_icmpNo X47 hx (hb hby d9_52) (q := 55) rfl (tlt c52_56).2.2.2 ?_
        refine Go.s_iloadN X47 hx (hb hby d9_55) (q := 56) rfl rfl ?_
        refine Go.s_istore X47 hx (hb hby d9_56) (q := 58) rfl (l' := #[.val (.ref A0), .val (.int (2 : Int32)), .val (.int I3), .val (.int (1 : Int32)), .val (.int I3), .val (.int (0 : Int32))]) rfl ?_
        refine Go.s_goto X47 hx (hb hby d9_58) (q := 76) (by decide) (by decide) ?_
        refine Go.s_iloadN X47 hx (hb hby d9_76) (q := 77) rfl rfl ?_
        refine Go.s_iconst X47 hx (hb hby d9_77) (q := 78) rfl (z := 1) rfl ?_
        refine Go.s_icmpNo X47 hx (hb hby d9_78) (q := 81) rfl (flt (by decide : ¬ ((1 : Int32) < (1 : Int32)))).1 ?_
        refine Go.s_aloadN X47 hx (hb hby d9_81) (q := 82) rfl rfl rfl ?_
        refine Go.getF X47 hx hZ hown (w_ hw 24 rfl) Via.refl e47 P2_v52 (hb hby d9_82) ?_
        intro T57 X57 e57
        show Go p e below _ T57 (mkF m 85 #[.val (.ref A0), .val (.int (2 : Int32)), .val (.int I3), .val (.int (1 : Int32)), .val (.int I3), .val (.int (0 : Int32))] [(.ref A2)])
        refine Go.s_iloadN X57 hx (hb hby d9_85) (q := 86) rfl rfl ?_
        refine Go.ldU X57 hx hZ e57 P6_v55 (by decide) (by decide) (hb hby d9_86) ?_
        intro y58
        show Go p e below _ T57 (mkF m 87 #[.val (.ref A0), .val (.int (2 : Int32)), .val (.int I3), .val (.int (1 : Int32)), .val (.int I3), .val (.int (0 : Int32))] [(.int y58)])
        refine Go.s_iload X57 hx (hb hby d9_87) (q := 89) rfl rfl ?_
        by_cases c89_59 : y58 = I3
        · -- pc 89: y58 = I3
          refine Go.s_icmpYes X57 hx (hb hby d9_89) (q := 127) (by decide) (by decide) (teq c89_59).1 ?_
          refine Go.retV X57 hx hlk hret (hb hby d9_127) (by decide) (by decide) ?_
          try rw [e57]
          exact ⟨rfl, N47, fact_K_v49, U47, P6_v55⟩
        · -- pc 89: not y58 = I3
          refine Go.s_icmpNo X57 hx (hb hby d9_89) (q := 92) rfl (feq c89_59).1 ?_
          refine Go.s_aloadN X57 hx (hb hby d9_92) (q := 93) rfl rfl rfl ?_
          refine Go.getF X57 hx hZ hown (w_ hw 24 rfl) Via.refl e57 P2_v52 (hb hby d9_93) ?_
          intro T60 X60 e60
          show Go p e below _ T60 (mkF m 96 #[.val (.ref A0), .val (.int (2 : Int32)), .val (.int I3), .val (.int (1 : Int32)), .val (.int I3), .val (.int (0 : Int32))] [(.ref A2)])
          refine Go.s_iloadN X60 hx (hb hby d9_96) (q := 97) rfl rfl ?_
          refine Go.s_iload X60 hx (hb hby d9_97) (q := 99) rfl rfl ?_
          refine Go.stU X60 hx hZ e60 P6_v55 (by decide) (by decide) (hb hby d9_99) ?_
          intro T61 h61 X61 e61 W61 U61
          have N61 := Fr.snoc X61 N47 P12
          have Z0_v62 := Nat.le_trans Z0_v48 (Keep.of_wr W61).1
          have fact_K_v63 := fact_K_v49.wr W61 (Or.inl (by simp))
          have P0_v64 := P0_v50.wr W61
          have P1_v65 := P1_v51.other W61 (Or.inl P8)
          have P2_v66 := P2_v52.other W61 (Or.inl P8)
          have P3_v67 := P3_v53.other W61 (Or.inl P8)
          have P4_v68 := P4_v54.other W61 (Or.inl P8)
          have U47_v69 := U47.other W61 P9
          show Go p e below _ T61 (mkF m 100 #[.val (.ref A0), .val (.int (2 : Int32)), .val (.int I3), .val (.int (1 : Int32)), .val (.int I3), .val (.int (0 : Int32))] [])
          refine Go.s_iloadN X61 hx (hb hby d9_100) (q := 101) rfl rfl ?_
          refine Go.s_iconst X61 hx (hb hby d9_101) (q := 102) rfl (z := 1) rfl ?_
          refine Go.s_icmpYes X61 hx (hb hby d9_102) (q := 120) (by decide) (by decide) (flt (by decide : ¬ ((1 : Int32) < (1 : Int32)))).2.2.2 ?_
          refine Go.s_iloadN X61 hx (hb hby d9_120) (q := 121) rfl rfl ?_
          refine Go.s_iconst X61 hx (hb hby d9_121) (q := 122) rfl (z := 1) rfl ?_
          refine Go.s_ishr X61 hx (hb hby d9_122) (q := 123) rfl ?_
          rw [(by decide : ((1 : Int32) >>> ((1 : Int32) &&& 31)) = (0 : Int32))]
          refine Go.s_istoreN X61 hx (hb hby d9_123) (q := 124) rfl (l' := #[.val (.ref A0), .val (.int (2 : Int32)), .val (.int I3), .val (.int (0 : Int32)), .val (.int I3), .val (.int (0 : Int32))]) rfl ?_
          refine Go.s_goto X61 hx (hb hby d9_124) (q := 76) (by decide) (by decide) ?_
          refine Go.s_iloadN X61 hx (hb hby d9_76) (q := 77) rfl rfl ?_
          refine Go.s_iconst X61 hx (hb hby d9_77) (q := 78) rfl (z := 1) rfl ?_
          refine Go.s_icmpYes X61 hx (hb hby d9_78) (q := 127) (by decide) (by decide) (tlt (by decide : (0 : Int32) < (1 : Int32))).1 ?_
          refine Go.retV X61 hx hlk hret (hb hby d9_127) (by decide) (by decide) ?_
          try rw [e61]
          exact ⟨rfl, N61, fact_K_v63, U47_v69, U61⟩
      · -- pc 52: not y3 < I3
        refine Go.s_icmpYes X47 hx (hb hby d9_52) (q := 61) (by decide) (by decide) (flt c52_56).2.2.2 ?_
        refine Go.s_iload X47 hx (hb hby d9_61) (q := 63) rfl rfl ?_
        refine Go.s_ifYes X47 hx (hb hby d9_63) (q := 76) (by decide) (by decide) ((if0 _ _).trans (teq (by decide : (0 : Int32) = (0 : Int32))).1) ?_
        refine Go.s_iloadN X47 hx (hb hby d9_76) (q := 77) rfl rfl ?_
        refine Go.s_iconst X47 hx (hb hby d9_77) (q := 78) rfl (z := 1) rfl ?_
        refine Go.s_icmpNo X47 hx (hb hby d9_78) (q := 81) rfl (flt (by decide : ¬ ((1 : Int32) < (1 : Int32)))).1 ?_
        refine Go.s_aloadN X47 hx (hb hby d9_81) (q := 82) rfl rfl rfl ?_
        refine Go.getF X47 hx hZ hown (w_ hw 24 rfl) Via.refl e47 P2_v52 (hb hby d9_82) ?_
        intro T70 X70 e70
        show Go p e below _ T70 (mkF m 85 #[.val (.ref A0), .val (.int (2 : Int32)), .val (.int I3), .val (.int (1 : Int32)), .val (.int y3), .val (.int (0 : Int32))] [(.ref A2)])
        refine Go.s_iloadN X70 hx (hb hby d9_85) (q := 86) rfl rfl ?_
        refine Go.ldU X70 hx hZ e70 P6_v55 (by decide) (by decide) (hb hby d9_86) ?_
        intro y71
        show Go p e below _ T70 (mkF m 87 #[.val (.ref A0), .val (.int (2 : Int32)), .val (.int I3), .val (.int (1 : Int32)), .val (.int y3), .val (.int (0 : Int32))] [(.int y71)])
        refine Go.s_iload X70 hx (hb hby d9_87) (q := 89) rfl rfl ?_
        by_cases c89_72 : y71 = y3
        · -- pc 89: y71 = y3
          refine Go.s_icmpYes X70 hx (hb hby d9_89) (q := 127) (by decide) (by decide) (teq c89_72).1 ?_
          refine Go.retV X70 hx hlk hret (hb hby d9_127) (by decide) (by decide) ?_
          try rw [e70]
          exact ⟨rfl, N47, fact_K_v49, U47, P6_v55⟩
        · -- pc 89: not y71 = y3
          refine Go.s_icmpNo X70 hx (hb hby d9_89) (q := 92) rfl (feq c89_72).1 ?_
          refine Go.s_aloadN X70 hx (hb hby d9_92) (q := 93) rfl rfl rfl ?_
          refine Go.getF X70 hx hZ hown (w_ hw 24 rfl) Via.refl e70 P2_v52 (hb hby d9_93) ?_
          intro T73 X73 e73
          show Go p e below _ T73 (mkF m 96 #[.val (.ref A0), .val (.int (2 : Int32)), .val (.int I3), .val (.int (1 : Int32)), .val (.int y3), .val (.int (0 : Int32))] [(.ref A2)])
          refine Go.s_iloadN X73 hx (hb hby d9_96) (q := 97) rfl rfl ?_
          refine Go.s_iload X73 hx (hb hby d9_97) (q := 99) rfl rfl ?_
          refine Go.stU X73 hx hZ e73 P6_v55 (by decide) (by decide) (hb hby d9_99) ?_
          intro T74 h74 X74 e74 W74 U74
          have N74 := Fr.snoc X74 N47 P12
          have Z0_v75 := Nat.le_trans Z0_v48 (Keep.of_wr W74).1
          have fact_K_v76 := fact_K_v49.wr W74 (Or.inl (by simp))
          have P0_v77 := P0_v50.wr W74
          have P1_v78 := P1_v51.other W74 (Or.inl P8)
          have P2_v79 := P2_v52.other W74 (Or.inl P8)
          have P3_v80 := P3_v53.other W74 (Or.inl P8)
          have P4_v81 := P4_v54.other W74 (Or.inl P8)
          have U47_v82 := U47.other W74 P9
          show Go p e below _ T74 (mkF m 100 #[.val (.ref A0), .val (.int (2 : Int32)), .val (.int I3), .val (.int (1 : Int32)), .val (.int y3), .val (.int (0 : Int32))] [])
          refine Go.s_iloadN X74 hx (hb hby d9_100) (q := 101) rfl rfl ?_
          refine Go.s_iconst X74 hx (hb hby d9_101) (q := 102) rfl (z := 1) rfl ?_
          refine Go.s_icmpYes X74 hx (hb hby d9_102) (q := 120) (by decide) (by decide) (flt (by decide : ¬ ((1 : Int32) < (1 : Int32)))).2.2.2 ?_
          refine Go.s_iloadN X74 hx (hb hby d9_120) (q := 121) rfl rfl ?_
          refine Go.s_iconst X74 hx (hb hby d9_121) (q := 122) rfl (z := 1) rfl ?_
          refine Go.s_ishr X74 hx (hb hby d9_122) (q := 123) rfl ?_
          rw [(by decide : ((1 : Int32) >>> ((1 : Int32) &&& 31)) = (0 : Int32))]
          refine Go.s_istoreN X74 hx (hb hby d9_123) (q := 124) rfl (l' := #[.val (.ref A0), .val (.int (2 : Int32)), .val (.int I3), .val (.int (0 : Int32)), .val (.int y3), .val (.int (0 : Int32))]) rfl ?_
          refine Go.s_goto X74 hx (hb hby d9_124) (q := 76) (by decide) (by decide) ?_
          refine Go.s_iloadN X74 hx (hb hby d9_76) (q := 77) rfl rfl ?_
          refine Go.s_iconst X74 hx (hb hby d9_77) (q := 78) rfl (z := 1) rfl ?_
          refine Go.s_icmpYes X74 hx (hb hby d9_78) (q := 127) (by decide) (by decide) (tlt (by decide : (0 : Int32) < (1 : Int32))).1 ?_
          refine Go.retV X74 hx hlk hret (hb hby d9_127) (by decide) (by decide) ?_
          try rw [e74]
          exact ⟨rfl, N74, fact_K_v76, U47_v82, U74⟩
  · -- pc 26: not y5 = y3
    refine Go.s_icmpYes X4 hx (hb hby d9_26) (q := 39) (by decide) (by decide) (feq c26_6).2 ?_
    refine Go.s_iconst X4 hx (hb hby d9_39) (q := 40) rfl (z := 0) rfl ?_
    refine Go.s_istore X4 hx (hb hby d9_40) (q := 42) rfl (l' := #[.val (.ref A0), .val (.int (2 : Int32)), .val (.int I3), .val (.int (1 : Int32)), .val (.int y3), .val (.int (0 : Int32))]) rfl ?_
    refine Go.s_aloadN X4 hx (hb hby d9_42) (q := 43) rfl rfl rfl ?_
    refine Go.getF X4 hx hZ hown (w_ hw 20 rfl) Via.refl e4 P3 (hb hby d9_43) ?_
    intro T83 X83 e83
    show Go p e below _ T83 (mkF m 46 #[.val (.ref A0), .val (.int (2 : Int32)), .val (.int I3), .val (.int (1 : Int32)), .val (.int y3), .val (.int (0 : Int32))] [(.ref A1)])
    refine Go.s_iloadN X83 hx (hb hby d9_46) (q := 47) rfl rfl ?_
    refine Go.s_iloadN X83 hx (hb hby d9_47) (q := 48) rfl rfl ?_
    refine Go.stU X83 hx hZ e83 P5 (by decide) (by decide) (hb hby d9_48) ?_
    intro T84 h84 X84 e84 W84 U84
    have N84 := Fr.snoc X84 (Fr.nil n0) P11
    have Z0_v85 := Nat.le_trans Z0 (Keep.of_wr W84).1
    have fact_K_v86 := (Keep.refl h0 [A1, A2]).wr W84 (Or.inl (by simp))
    have P0_v87 := P0.wr W84
    have P1_v88 := P1.other W84 (Or.inl P7)
    have P2_v89 := P2.other W84 (Or.inl P7)
    have P3_v90 := P3.other W84 (Or.inl P7)
    have P4_v91 := P4.other W84 (Or.inl P7)
    have P6_v92 := P6.other W84 (Ne.symm P9)
    show Go p e below _ T84 (mkF m 49 #[.val (.ref A0), .val (.int (2 : Int32)), .val (.int I3), .val (.int (1 : Int32)), .val (.int y3), .val (.int (0 : Int32))] [])
    refine Go.s_iloadN X84 hx (hb hby d9_49) (q := 50) rfl rfl ?_
    refine Go.s_iload X84 hx (hb hby d9_50) (q := 52) rfl rfl ?_
    by_cases c52_93 : y3 < I3
    · -- pc 52: y3 < I3
      refine Go.s_icmpNo X84 hx (hb hby d9_52) (q := 55) rfl (tlt c52_93).2.2.2 ?_
      refine Go.s_iloadN X84 hx (hb hby d9_55) (q := 56) rfl rfl ?_
      refine Go.s_istore X84 hx (hb hby d9_56) (q := 58) rfl (l' := #[.val (.ref A0), .val (.int (2 : Int32)), .val (.int I3), .val (.int (1 : Int32)), .val (.int I3), .val (.int (0 : Int32))]) rfl ?_
      refine Go.s_goto X84 hx (hb hby d9_58) (q := 76) (by decide) (by decide) ?_
      refine Go.s_iloadN X84 hx (hb hby d9_76) (q := 77) rfl rfl ?_
      refine Go.s_iconst X84 hx (hb hby d9_77) (q := 78) rfl (z := 1) rfl ?_
      refine Go.s_icmpNo X84 hx (hb hby d9_78) (q := 81) rfl (flt (by decide : ¬ ((1 : Int32) < (1 : Int32)))).1 ?_
      refine Go.s_aloadN X84 hx (hb hby d9_81) (q := 82) rfl rfl rfl ?_
      refine Go.getF X84 hx hZ hown (w_ hw 24 rfl) Via.refl e84 P2_v89 (hb hby d9_82) ?_
      intro T94 X94 e94
      show Go p e below _ T94 (mkF m 85 #[.val (.ref A0), .val (.int (2 : Int32)), .val (.int I3), .val (.int (1 : Int32)), .val (.int I3), .val (.int (0 : Int32))] [(.ref A2)])
      refine Go.s_iloadN X94 hx (hb hby d9_85) (q := 86) rfl rfl ?_
      refine Go.ldU X94 hx hZ e94 P6_v92 (by decide) (by decide) (hb hby d9_86) ?_
      intro y95
      show Go p e below _ T94 (mkF m 87 #[.val (.ref A0), .val (.int (2 : Int32)), .val (.int I3), .val (.int (1 : Int32)), .val (.int I3), .val (.int (0 : Int32))] [(.int y95)])
      refine Go.s_iload X94 hx (hb hby d9_87) (q := 89) rfl rfl ?_
      by_cases c89_96 : y95 = I3
      · -- pc 89: y95 = I3
        refine Go.s_icmpYes X94 hx (hb hby d9_89) (q := 127) (by decide) (by decide) (teq c89_96).1 ?_
        refine Go.retV X94 hx hlk hret (hb hby d9_127) (by decide) (by decide) ?_
        try rw [e94]
        exact ⟨rfl, N84, fact_K_v86, U84, P6_v92⟩
      · -- pc 89: not y95 = I3
        refine Go.s_icmpNo X94 hx (hb hby d9_89) (q := 92) rfl (feq c89_96).1 ?_
        refine Go.s_aloadN X94 hx (hb hby d9_92) (q := 93) rfl rfl rfl ?_
        refine Go.getF X94 hx hZ hown (w_ hw 24 rfl) Via.refl e94 P2_v89 (hb hby d9_93) ?_
        intro T97 X97 e97
        show Go p e below _ T97 (mkF m 96 #[.val (.ref A0), .val (.int (2 : Int32)), .val (.int I3), .val (.int (1 : Int32)), .val (.int I3), .val (.int (0 : Int32))] [(.ref A2)])
        refine Go.s_iloadN X97 hx (hb hby d9_96) (q := 97) rfl rfl ?_
        refine Go.s_iload X97 hx (hb hby d9_97) (q := 99) rfl rfl ?_
        refine Go.stU X97 hx hZ e97 P6_v92 (by decide) (by decide) (hb hby d9_99) ?_
        intro T98 h98 X98 e98 W98 U98
        have N98 := Fr.snoc X98 N84 P12
        have Z0_v99 := Nat.le_trans Z0_v85 (Keep.of_wr W98).1
        have fact_K_v100 := fact_K_v86.wr W98 (Or.inl (by simp))
        have P0_v101 := P0_v87.wr W98
        have P1_v102 := P1_v88.other W98 (Or.inl P8)
        have P2_v103 := P2_v89.other W98 (Or.inl P8)
        have P3_v104 := P3_v90.other W98 (Or.inl P8)
        have P4_v105 := P4_v91.other W98 (Or.inl P8)
        have U84_v106 := U84.other W98 P9
        show Go p e below _ T98 (mkF m 100 #[.val (.ref A0), .val (.int (2 : Int32)), .val (.int I3), .val (.int (1 : Int32)), .val (.int I3), .val (.int (0 : Int32))] [])
        refine Go.s_iloadN X98 hx (hb hby d9_100) (q := 101) rfl rfl ?_
        refine Go.s_iconst X98 hx (hb hby d9_101) (q := 102) rfl (z := 1) rfl ?_
        refine Go.s_icmpYes X98 hx (hb hby d9_102) (q := 120) (by decide) (by decide) (flt (by decide : ¬ ((1 : Int32) < (1 : Int32)))).2.2.2 ?_
        refine Go.s_iloadN X98 hx (hb hby d9_120) (q := 121) rfl rfl ?_
        refine Go.s_iconst X98 hx (hb hby d9_121) (q := 122) rfl (z := 1) rfl ?_
        refine Go.s_ishr X98 hx (hb hby d9_122) (q := 123) rfl ?_
        rw [(by decide : ((1 : Int32) >>> ((1 : Int32) &&& 31)) = (0 : Int32))]
        refine Go.s_istoreN X98 hx (hb hby d9_123) (q := 124) rfl (l' := #[.val (.ref A0), .val (.int (2 : Int32)), .val (.int I3), .val (.int (0 : Int32)), .val (.int I3), .val (.int (0 : Int32))]) rfl ?_
        refine Go.s_goto X98 hx (hb hby d9_124) (q := 76) (by decide) (by decide) ?_
        refine Go.s_iloadN X98 hx (hb hby d9_76) (q := 77) rfl rfl ?_
        refine Go.s_iconst X98 hx (hb hby d9_77) (q := 78) rfl (z := 1) rfl ?_
        refine Go.s_icmpYes X98 hx (hb hby d9_78) (q := 127) (by decide) (by decide) (tlt (by decide : (0 : Int32) < (1 : Int32))).1 ?_
        refine Go.retV X98 hx hlk hret (hb hby d9_127) (by decide) (by decide) ?_
        try rw [e98]
        exact ⟨rfl, N98, fact_K_v100, U84_v106, U98⟩
    · -- pc 52: not y3 < I3
      refine Go.s_icmpYes X84 hx (hb hby d9_52) (q := 61) (by decide) (by decide) (flt c52_93).2.2.2 ?_
      refine Go.s_iload X84 hx (hb hby d9_61) (q := 63) rfl rfl ?_
      refine Go.s_ifYes X84 hx (hb hby d9_63) (q := 76) (by decide) (by decide) ((if0 _ _).trans (teq (by decide : (0 : Int32) = (0 : Int32))).1) ?_
      refine Go.s_iloadN X84 hx (hb hby d9_76) (q := 77) rfl rfl ?_
      refine Go.s_iconst X84 hx (hb hby d9_77) (q := 78) rfl (z := 1) rfl ?_
      refine Go.s_icmpNo X84 hx (hb hby d9_78) (q := 81) rfl (flt (by decide : ¬ ((1 : Int32) < (1 : Int32)))).1 ?_
      refine Go.s_aloadN X84 hx (hb hby d9_81) (q := 82) rfl rfl rfl ?_
      refine Go.getF X84 hx hZ hown (w_ hw 24 rfl) Via.refl e84 P2_v89 (hb hby d9_82) ?_
      intro T107 X107 e107
      show Go p e below _ T107 (mkF m 85 #[.val (.ref A0), .val (.int (2 : Int32)), .val (.int I3), .val (.int (1 : Int32)), .val (.int y3), .val (.int (0 : Int32))] [(.ref A2)])
      refine Go.s_iloadN X107 hx (hb hby d9_85) (q := 86) rfl rfl ?_
      refine Go.ldU X107 hx hZ e107 P6_v92 (by decide) (by decide) (hb hby d9_86) ?_
      intro y108
      show Go p e below _ T107 (mkF m 87 #[.val (.ref A0), .val (.int (2 : Int32)), .val (.int I3), .val (.int (1 : Int32)), .val (.int y3), .val (.int (0 : Int32))] [(.int y108)])
      refine Go.s_iload X107 hx (hb hby d9_87) (q := 89) rfl rfl ?_
      by_cases c89_109 : y108 = y3
      · -- pc 89: y108 = y3
        refine Go.s_icmpYes X107 hx (hb hby d9_89) (q := 127) (by decide) (by decide) (teq c89_109).1 ?_
        refine Go.retV X107 hx hlk hret (hb hby d9_127) (by decide) (by decide) ?_
        try rw [e107]
        exact ⟨rfl, N84, fact_K_v86, U84, P6_v92⟩
      · -- pc 89: not y108 = y3
        refine Go.s_icmpNo X107 hx (hb hby d9_89) (q := 92) rfl (feq c89_109).1 ?_
        refine Go.s_aloadN X107 hx (hb hby d9_92) (q := 93) rfl rfl rfl ?_
        refine Go.getF X107 hx hZ hown (w_ hw 24 rfl) Via.refl e107 P2_v89 (hb hby d9_93) ?_
        intro T110 X110 e110
        show Go p e below _ T110 (mkF m 96 #[.val (.ref A0), .val (.int (2 : Int32)), .val (.int I3), .val (.int (1 : Int32)), .val (.int y3), .val (.int (0 : Int32))] [(.ref A2)])
        refine Go.s_iloadN X110 hx (hb hby d9_96) (q := 97) rfl rfl ?_
        refine Go.s_iload X110 hx (hb hby d9_97) (q := 99) rfl rfl ?_
        refine Go.stU X110 hx hZ e110 P6_v92 (by decide) (by decide) (hb hby d9_99) ?_
        intro T111 h111 X111 e111 W111 U111
        have N111 := Fr.snoc X111 N84 P12
        have Z0_v112 := Nat.le_trans Z0_v85 (Keep.of_wr W111).1
        have fact_K_v113 := fact_K_v86.wr W111 (Or.inl (by simp))
        have P0_v114 := P0_v87.wr W111
        have P1_v115 := P1_v88.other W111 (Or.inl P8)
        have P2_v116 := P2_v89.other W111 (Or.inl P8)
        have P3_v117 := P3_v90.other W111 (Or.inl P8)
        have P4_v118 := P4_v91.other W111 (Or.inl P8)
        have U84_v119 := U84.other W111 P9
        show Go p e below _ T111 (mkF m 100 #[.val (.ref A0), .val (.int (2 : Int32)), .val (.int I3), .val (.int (1 : Int32)), .val (.int y3), .val (.int (0 : Int32))] [])
        refine Go.s_iloadN X111 hx (hb hby d9_100) (q := 101) rfl rfl ?_
        refine Go.s_iconst X111 hx (hb hby d9_101) (q := 102) rfl (z := 1) rfl ?_
        refine Go.s_icmpYes X111 hx (hb hby d9_102) (q := 120) (by decide) (by decide) (flt (by decide : ¬ ((1 : Int32) < (1 : Int32)))).2.2.2 ?_
        refine Go.s_iloadN X111 hx (hb hby d9_120) (q := 121) rfl rfl ?_
        refine Go.s_iconst X111 hx (hb hby d9_121) (q := 122) rfl (z := 1) rfl ?_
        refine Go.s_ishr X111 hx (hb hby d9_122) (q := 123) rfl ?_
        rw [(by decide : ((1 : Int32) >>> ((1 : Int32) &&& 31)) = (0 : Int32))]
        refine Go.s_istoreN X111 hx (hb hby d9_123) (q := 124) rfl (l' := #[.val (.ref A0), .val (.int (2 : Int32)), .val (.int I3), .val (.int (0 : Int32)), .val (.int y3), .val (.int (0 : Int32))]) rfl ?_
        refine Go.s_goto X111 hx (hb hby d9_124) (q := 76) (by decide) (by decide) ?_
        refine Go.s_iloadN X111 hx (hb hby d9_76) (q := 77) rfl rfl ?_
        refine Go.s_iconst X111 hx (hb hby d9_77) (q := 78) rfl (z := 1) rfl ?_
        refine Go.s_icmpYes X111 hx (hb hby d9_78) (q := 127) (by decide) (by decide) (tlt (by decide : (0 : Int32) < (1 : Int32))).1 ?_
        refine Go.retV X111 hx hlk hret (hb hby d9_127) (by decide) (by decide) ?_
        try rw [e111]
        exact ⟨rfl, N111, fact_K_v113, U84_v119, U111⟩
theorem ef_add_43 (m : MethodId) (x0 : Addr) (x1 : Addr) : entryFrame m #[(.ref x0), (.ref x1)] 2 = mkF m 0 #[.val (.ref x0), .val (.ref x1)] [] := by first | (simp [entryFrame, mkF, argsToLocals, Value.category]; done) | rfl
set_option maxRecDepth 65536 in
set_option maxHeartbeats 40000000 in
theorem rm_add_43 (l : Launch) (Z : State) (a0 : Array Value) (hw : ∀ d ∈ tables_1, d.before a0 Z = true)  (A0 : Addr) (A1 : Addr) (A2 : Addr) (A3 : Addr) (A4 : Addr) (J5 : Int64) (I6 : Int32) (k7 : ClassId) (A8 : Addr) (A9 : Addr) (h0 : Heap) (n0 : Nat) (Z0 : n0 ≤ h0.size) (P0 : Exa Z h0 A0 "com/example/pennybreak/pennybreak/simplebook/OrderQueue") (P1 : Exa Z h0 A4 "com/example/pennybreak/pennybreak/simplebook/RestingOrder") (P2 : Fld Z h0 A0 "com/example/pennybreak/pennybreak/simplebook/OrderQueue" "blocks" "I" (.int (1 : Int32))) (P3 : Fld Z h0 A0 "com/example/pennybreak/pennybreak/simplebook/OrderQueue" "count" "I" (.int (2 : Int32))) (P4 : Fld Z h0 A0 "com/example/pennybreak/pennybreak/simplebook/OrderQueue" "front" "I" (.int (0 : Int32))) (P5 : Fld Z h0 A0 "com/example/pennybreak/pennybreak/simplebook/OrderQueue" "largest" "[I" (.ref A3)) (P6 : Fld Z h0 A0 "com/example/pennybreak/pennybreak/simplebook/OrderQueue" "open" "J" (.long J5)) (P7 : Fld Z h0 A0 "com/example/pennybreak/pennybreak/simplebook/OrderQueue" "sizes" "[I" (.ref A2)) (P8 : Fld Z h0 A0 "com/example/pennybreak/pennybreak/simplebook/OrderQueue" "slots" "[Lcom/example/pennybreak/pennybreak/simplebook/RestingOrder;" (.ref A1)) (P9 : Fld Z h0 A0 "com/example/pennybreak/pennybreak/simplebook/OrderQueue" "used" "I" (.int (2 : Int32))) (P10 : Fld Z h0 A4 "com/example/pennybreak/pennybreak/simplebook/RestingOrder" "openSize" "I" (.int I6)) (P11 : Fld Z h0 A4 "com/example/pennybreak/pennybreak/simplebook/RestingOrder" "slot" "I" (.int (0 : Int32))) (P12 : Arv Z h0 A1 k7 (.object "com/example/pennybreak/pennybreak/simplebook/RestingOrder") (4 : Int32) [(.ref A8), (.ref A9), .null, .null] .null) (P13 : UA Z h0 A2 4) (P14 : UA Z h0 A3 2) (P15 : Ovr Z k7 "com/example/pennybreak/pennybreak/simplebook/RestingOrder") (P16 : A0 ≠ A1) (P17 : A0 ≠ A2) (P18 : A0 ≠ A3) (P19 : A0 ≠ A4) (P20 : A2 ≠ A1) (P21 : A2 ≠ A3) (P22 : A3 ≠ A1) (P23 : A4 ≠ A1) (P24 : A4 ≠ A2) (P25 : A4 ≠ A3) (P26 : n0 ≤ A0) (P27 : n0 ≤ A1) (P28 : n0 ≤ A2) (P29 : n0 ≤ A3) (P30 : n0 ≤ A4) :
    Ct l mn_6 prog_98_method_2_code 2 none ({ frames := 3, cells := 0, slots := 0, locals := 60 } : Room) Z h0 #[(.ref A0), (.ref A4)] (fun v h L => ∃ w0 : Int64, v = none ∧ Fr n0 L ∧ Keep h0 h [A0, A1, A2, A3, A4] ∧ Exa Z h A0 "com/example/pennybreak/pennybreak/simplebook/OrderQueue" ∧ Exa Z h A4 "com/example/pennybreak/pennybreak/simplebook/RestingOrder" ∧ Fld Z h A0 "com/example/pennybreak/pennybreak/simplebook/OrderQueue" "blocks" "I" (.int (1 : Int32)) ∧ Fld Z h A0 "com/example/pennybreak/pennybreak/simplebook/OrderQueue" "count" "I" (.int (3 : Int32)) ∧ Fld Z h A0 "com/example/pennybreak/pennybreak/simplebook/OrderQueue" "front" "I" (.int (0 : Int32)) ∧ Fld Z h A0 "com/example/pennybreak/pennybreak/simplebook/OrderQueue" "largest" "[I" (.ref A3) ∧ Fld Z h A0 "com/example/pennybreak/pennybreak/simplebook/OrderQueue" "open" "J" (.long w0) ∧ Fld Z h A0 "com/example/pennybreak/pennybreak/simplebook/OrderQueue" "sizes" "[I" (.ref A2) ∧ Fld Z h A0 "com/example/pennybreak/pennybreak/simplebook/OrderQueue" "slots" "[Lcom/example/pennybreak/pennybreak/simplebook/RestingOrder;" (.ref A1) ∧ Fld Z h A0 "com/example/pennybreak/pennybreak/simplebook/OrderQueue" "used" "I" (.int (3 : Int32)) ∧ Fld Z h A4 "com/example/pennybreak/pennybreak/simplebook/RestingOrder" "openSize" "I" (.int I6) ∧ Fld Z h A4 "com/example/pennybreak/pennybreak/simplebook/RestingOrder" "slot" "I" (.int (2 : Int32)) ∧ Arv Z h A1 k7 (.object "com/example/pennybreak/pennybreak/simplebook/RestingOrder") (4 : Int32) [(.ref A8), (.ref A9), (.ref A4), .null] .null ∧ UA Z h A2 4 ∧ UA Z h A3 2 ∧ Ovr Z k7 "com/example/pennybreak/pennybreak/simplebook/RestingOrder") := by
  refine Ct.body (plainFor_of_name pn_com_example_pennybreak_pennybreak_simplebook_OrderQueue) ?_
  intro p e s m below meth c T0 hx hby hml hown hnm hret hlk hZ X0 e0
  refine Go.cast (ef_add_43 m A0 A4) ?_
  show Go p e below _ T0 (mkF m 0 #[.val (.ref A0), .val (.ref A4)] [])
  refine Go.s_aloadN X0 hx (hb hby d6_0) (q := 1) rfl rfl rfl ?_
  refine Go.getF X0 hx hZ hown (w_ hw 47 rfl) Via.refl e0 P9 (hb hby d6_1) ?_
  intro T1 X1 e1
  show Go p e below _ T1 (mkF m 4 #[.val (.ref A0), .val (.ref A4)] [(.int (2 : Int32))])
  refine Go.s_aloadN X1 hx (hb hby d6_4) (q := 5) rfl rfl rfl ?_
  refine Go.getF X1 hx hZ hown (w_ hw 17 rfl) Via.refl e1 P8 (hb hby d6_5) ?_
  intro T2 X2 e2
  show Go p e below _ T2 (mkF m 8 #[.val (.ref A0), .val (.ref A4)] [(.ref A1), (.int (2 : Int32))])
  refine Go.len X2 hx hZ e2 P12 (hb hby d6_8) ?_
  show Go p e below _ T2 (mkF m 9 #[.val (.ref A0), .val (.ref A4)] [(.int (4 : Int32)), (.int (2 : Int32))])
  refine Go.s_icmpYes X2 hx (hb hby d6_9) (q := 16) (by decide) (by decide) (feq (by decide : ¬ ((2 : Int32) = (4 : Int32)))).2 ?_
  refine Go.s_aloadN X2 hx (hb hby d6_16) (q := 17) rfl rfl rfl ?_
  refine Go.s_aloadN X2 hx (hb hby d6_17) (q := 18) rfl rfl rfl ?_
  refine Go.s_dup X2 hx (hb hby d6_18) (q := 19) rfl rfl ?_
  refine Go.getF X2 hx hZ hown (w_ hw 47 rfl) Via.refl e2 P9 (hb hby d6_19) ?_
  intro T3 X3 e3
  show Go p e below _ T3 (mkF m 22 #[.val (.ref A0), .val (.ref A4)] [(.int (2 : Int32)), (.ref A0), (.ref A4)])
  refine Go.s_dup_x1 X3 hx (hb hby d6_22) (q := 23) rfl rfl rfl ?_
  refine Go.s_iconst X3 hx (hb hby d6_23) (q := 24) rfl (z := 1) rfl ?_
  refine Go.s_iadd X3 hx (hb hby d6_24) (q := 25) rfl ?_
  rw [(by decide : ((2 : Int32) + (1 : Int32)) = (3 : Int32))]
  refine Go.putF X3 hx hZ hown (w_ hw 47 rfl) Via.refl e3 P9 P0 (Or.inl (w_ hw 48 rfl)) (w_ hw 7 rfl) (ty := .int) (by decide) rfl rfl (hb hby d6_25) ?_
  intro T4 h4 X4 e4 W4
  have N4 := Fr.snoc X4 (Fr.nil n0) P26
  have Z0_v5 := Nat.le_trans Z0 (Keep.of_wr W4).1
  have fact_K_v6 := (Keep.refl h0 [A0, A1, A2, A3, A4]).wr W4 (Or.inl (by simp))
  have P0_v7 := P0.wr W4
  have P1_v8 := P1.wr W4
  have P2_v9 := P2.other W4 (Or.inr (slot_ne (Or.inl (w_ hw 23 rfl)) (Or.inl (w_ hw 48 rfl)) (by decide) (t := .int) (t' := .int) (by decide) (by decide)))
  have P3_v10 := P3.other W4 (Or.inr (slot_ne (Or.inl (w_ hw 59 rfl)) (Or.inl (w_ hw 48 rfl)) (by decide) (t := .int) (t' := .int) (by decide) (by decide)))
  have P4_v11 := P4.other W4 (Or.inr (slot_ne (Or.inl (w_ hw 65 rfl)) (Or.inl (w_ hw 48 rfl)) (by decide) (t := .int) (t' := .int) (by decide) (by decide)))
  have P5_v12 := P5.other W4 (Or.inr (slot_ne (Or.inl (w_ hw 25 rfl)) (Or.inl (w_ hw 48 rfl)) (by decide) (t := (.array .int)) (t' := .int) (by decide) (by decide)))
  have P6_v13 := P6.other W4 (Or.inr (slot_ne (Or.inl (w_ hw 68 rfl)) (Or.inl (w_ hw 48 rfl)) (by decide) (t := .long) (t' := .int) (by decide) (by decide)))
  have P7_v14 := P7.other W4 (Or.inr (slot_ne (Or.inl (w_ hw 21 rfl)) (Or.inl (w_ hw 48 rfl)) (by decide) (t := (.array .int)) (t' := .int) (by decide) (by decide)))
  have P8_v15 := P8.other W4 (Or.inr (slot_ne (Or.inl (w_ hw 18 rfl)) (Or.inl (w_ hw 48 rfl)) (by decide) (t := (.array (.object "com/example/pennybreak/pennybreak/simplebook/RestingOrder"))) (t' := .int) (by decide) (by decide)))
  have P10_v16 := P10.other W4 (Or.inl (Ne.symm P19))
  have P11_v17 := P11.other W4 (Or.inl (Ne.symm P19))
  have P12_v18 := P12.other W4 (Ne.symm P16)
  have P13_v19 := P13.other W4 (Ne.symm P17)
  have P14_v20 := P14.other W4 (Ne.symm P18)
  have F_used_A0_v21 := P9.same W4
  show Go p e below _ T4 (mkF m 28 #[.val (.ref A0), .val (.ref A4)] [(.int (2 : Int32)), (.ref A4)])
  refine Go.putF X4 hx hZ hown (w_ hw 45 rfl) Via.refl e4 P11_v17 P1_v8 (Or.inl (w_ hw 46 rfl)) (w_ hw 27 rfl) (ty := .int) (by decide) rfl rfl (hb hby d6_28) ?_
  intro T22 h22 X22 e22 W22
  have N22 := Fr.snoc X22 N4 P30
  have Z0_v23 := Nat.le_trans Z0_v5 (Keep.of_wr W22).1
  have fact_K_v24 := fact_K_v6.wr W22 (Or.inl (by simp))
  have P0_v25 := P0_v7.wr W22
  have P1_v26 := P1_v8.wr W22
  have P2_v27 := P2_v9.other W22 (Or.inl P19)
  have P3_v28 := P3_v10.other W22 (Or.inl P19)
  have P4_v29 := P4_v11.other W22 (Or.inl P19)
  have P5_v30 := P5_v12.other W22 (Or.inl P19)
  have P6_v31 := P6_v13.other W22 (Or.inl P19)
  have P7_v32 := P7_v14.other W22 (Or.inl P19)
  have P8_v33 := P8_v15.other W22 (Or.inl P19)
  have P10_v34 := P10_v16.other W22 (Or.inr (slot_ne (Or.inl (w_ hw 38 rfl)) (Or.inl (w_ hw 46 rfl)) (by decide) (t := .int) (t' := .int) (by decide) (by decide)))
  have P12_v35 := P12_v18.other W22 (Ne.symm P23)
  have P13_v36 := P13_v19.other W22 (Ne.symm P24)
  have P14_v37 := P14_v20.other W22 (Ne.symm P25)
  have F_used_A0_v38 := F_used_A0_v21.other W22 (Or.inl P19)
  have F_slot_A4_v39 := P11_v17.same W22
  show Go p e below _ T22 (mkF m 31 #[.val (.ref A0), .val (.ref A4)] [])
  refine Go.s_aloadN X22 hx (hb hby d6_31) (q := 32) rfl rfl rfl ?_
  refine Go.getF X22 hx hZ hown (w_ hw 17 rfl) Via.refl e22 P8_v33 (hb hby d6_32) ?_
  intro T40 X40 e40
  show Go p e below _ T40 (mkF m 35 #[.val (.ref A0), .val (.ref A4)] [(.ref A1)])
  refine Go.s_aloadN X40 hx (hb hby d6_35) (q := 36) rfl rfl rfl ?_
  refine Go.getF X40 hx hZ hown (w_ hw 45 rfl) Via.refl e40 F_slot_A4_v39 (hb hby d6_36) ?_
  intro T41 X41 e41
  show Go p e below _ T41 (mkF m 39 #[.val (.ref A0), .val (.ref A4)] [(.int (2 : Int32)), (.ref A1)])
  refine Go.s_aloadN X41 hx (hb hby d6_39) (q := 40) rfl rfl rfl ?_
  refine Go.stR X41 hx hZ e41 P12_v35 ⟨by decide, by decide⟩ (sto_of P12_v35 P15 (Ins.self P1_v26)) rfl 2 rfl (by first | decide | exact Nat.le_of_ble_eq_true rfl) (hb hby d6_40) ?_
  intro T42 h42 X42 e42 W42 V42
  have N42 := Fr.snoc X42 N22 P27
  have Z0_v43 := Nat.le_trans Z0_v23 (Keep.of_wr W42).1
  have fact_K_v44 := fact_K_v24.wr W42 (Or.inl (by simp))
  have P0_v45 := P0_v25.wr W42
  have P1_v46 := P1_v26.wr W42
  have P2_v47 := P2_v27.other W42 (Or.inl P16)
  have P3_v48 := P3_v28.other W42 (Or.inl P16)
  have P4_v49 := P4_v29.other W42 (Or.inl P16)
  have P5_v50 := P5_v30.other W42 (Or.inl P16)
  have P6_v51 := P6_v31.other W42 (Or.inl P16)
  have P7_v52 := P7_v32.other W42 (Or.inl P16)
  have P8_v53 := P8_v33.other W42 (Or.inl P16)
  have P10_v54 := P10_v34.other W42 (Or.inl P23)
  have P13_v55 := P13_v36.other W42 P20
  have P14_v56 := P14_v37.other W42 P22
  have F_used_A0_v57 := F_used_A0_v38.other W42 (Or.inl P16)
  have F_slot_A4_v58 := F_slot_A4_v39.other W42 (Or.inl P23)
  have V42_59 : Arv Z h42 A1 k7 (.object "com/example/pennybreak/pennybreak/simplebook/RestingOrder") (4 : Int32) [(.ref A8), (.ref A9), (.ref A4), .null] .null := V42
  show Go p e below _ T42 (mkF m 41 #[.val (.ref A0), .val (.ref A4)] [])
  refine Go.s_aloadN X42 hx (hb hby d6_41) (q := 42) rfl rfl rfl ?_
  refine Go.s_dup X42 hx (hb hby d6_42) (q := 43) rfl rfl ?_
  refine Go.getF X42 hx hZ hown (w_ hw 58 rfl) Via.refl e42 P3_v48 (hb hby d6_43) ?_
  intro T60 X60 e60
  show Go p e below _ T60 (mkF m 46 #[.val (.ref A0), .val (.ref A4)] [(.int (2 : Int32)), (.ref A0)])
  refine Go.s_iconst X60 hx (hb hby d6_46) (q := 47) rfl (z := 1) rfl ?_
  refine Go.s_iadd X60 hx (hb hby d6_47) (q := 48) rfl ?_
  rw [(by decide : ((2 : Int32) + (1 : Int32)) = (3 : Int32))]
  refine Go.putF X60 hx hZ hown (w_ hw 58 rfl) Via.refl e60 P3_v48 P0_v45 (Or.inl (w_ hw 59 rfl)) (w_ hw 7 rfl) (ty := .int) (by decide) rfl rfl (hb hby d6_48) ?_
  intro T61 h61 X61 e61 W61
  have N61 := Fr.snoc X61 N42 P26
  have Z0_v62 := Nat.le_trans Z0_v43 (Keep.of_wr W61).1
  have fact_K_v63 := fact_K_v44.wr W61 (Or.inl (by simp))
  have P0_v64 := P0_v45.wr W61
  have P1_v65 := P1_v46.wr W61
  have P2_v66 := P2_v47.other W61 (Or.inr (slot_ne (Or.inl (w_ hw 23 rfl)) (Or.inl (w_ hw 59 rfl)) (by decide) (t := .int) (t' := .int) (by decide) (by decide)))
  have P4_v67 := P4_v49.other W61 (Or.inr (slot_ne (Or.inl (w_ hw 65 rfl)) (Or.inl (w_ hw 59 rfl)) (by decide) (t := .int) (t' := .int) (by decide) (by decide)))
  have P5_v68 := P5_v50.other W61 (Or.inr (slot_ne (Or.inl (w_ hw 25 rfl)) (Or.inl (w_ hw 59 rfl)) (by decide) (t := (.array .int)) (t' := .int) (by decide) (by decide)))
  have P6_v69 := P6_v51.other W61 (Or.inr (slot_ne (Or.inl (w_ hw 68 rfl)) (Or.inl (w_ hw 59 rfl)) (by decide) (t := .long) (t' := .int) (by decide) (by decide)))
  have P7_v70 := P7_v52.other W61 (Or.inr (slot_ne (Or.inl (w_ hw 21 rfl)) (Or.inl (w_ hw 59 rfl)) (by decide) (t := (.array .int)) (t' := .int) (by decide) (by decide)))
  have P8_v71 := P8_v53.other W61 (Or.inr (slot_ne (Or.inl (w_ hw 18 rfl)) (Or.inl (w_ hw 59 rfl)) (by decide) (t := (.array (.object "com/example/pennybreak/pennybreak/simplebook/RestingOrder"))) (t' := .int) (by decide) (by decide)))
  have P10_v72 := P10_v54.other W61 (Or.inl (Ne.symm P19))
  have P13_v73 := P13_v55.other W61 (Ne.symm P17)
  have P14_v74 := P14_v56.other W61 (Ne.symm P18)
  have F_used_A0_v75 := F_used_A0_v57.other W61 (Or.inr (slot_ne (Or.inl (w_ hw 48 rfl)) (Or.inl (w_ hw 59 rfl)) (by decide) (t := .int) (t' := .int) (by decide) (by decide)))
  have F_slot_A4_v76 := F_slot_A4_v58.other W61 (Or.inl (Ne.symm P19))
  have V42_59_v77 := V42_59.other W61 (Ne.symm P16)
  have F_count_A0_v78 := P3_v48.same W61
  show Go p e below _ T61 (mkF m 51 #[.val (.ref A0), .val (.ref A4)] [])
  refine Go.s_aloadN X61 hx (hb hby d6_51) (q := 52) rfl rfl rfl ?_
  refine Go.s_dup X61 hx (hb hby d6_52) (q := 53) rfl rfl ?_
  refine Go.getF X61 hx hZ hown (w_ hw 67 rfl) Via.refl e61 P6_v69 (hb hby d6_53) ?_
  intro T79 X79 e79
  show Go p e below _ T79 (mkF m 56 #[.val (.ref A0), .val (.ref A4)] [(.long J5), (.ref A0)])
  refine Go.s_aloadN X79 hx (hb hby d6_56) (q := 57) rfl rfl rfl ?_
  refine Go.getF X79 hx hZ hown (w_ hw 69 rfl) Via.refl e79 P10_v72 (hb hby d6_57) ?_
  intro T80 X80 e80
  show Go p e below _ T80 (mkF m 60 #[.val (.ref A0), .val (.ref A4)] [(.int I6), (.long J5), (.ref A0)])
  refine Go.s_i2l X80 hx (hb hby d6_60) (q := 61) rfl ?_
  refine Go.s_ladd X80 hx (hb hby d6_61) (q := 62) rfl ?_
  refine Go.putF X80 hx hZ hown (w_ hw 67 rfl) Via.refl e80 P6_v69 P0_v64 (Or.inl (w_ hw 68 rfl)) (w_ hw 7 rfl) (ty := .long) (by decide) rfl rfl (hb hby d6_62) ?_
  intro T81 h81 X81 e81 W81
  have N81 := Fr.snoc X81 N61 P26
  have Z0_v82 := Nat.le_trans Z0_v62 (Keep.of_wr W81).1
  have fact_K_v83 := fact_K_v63.wr W81 (Or.inl (by simp))
  have P0_v84 := P0_v64.wr W81
  have P1_v85 := P1_v65.wr W81
  have P2_v86 := P2_v66.other W81 (Or.inr (slot_ne (Or.inl (w_ hw 23 rfl)) (Or.inl (w_ hw 68 rfl)) (by decide) (t := .int) (t' := .long) (by decide) (by decide)))
  have P4_v87 := P4_v67.other W81 (Or.inr (slot_ne (Or.inl (w_ hw 65 rfl)) (Or.inl (w_ hw 68 rfl)) (by decide) (t := .int) (t' := .long) (by decide) (by decide)))
  have P5_v88 := P5_v68.other W81 (Or.inr (slot_ne (Or.inl (w_ hw 25 rfl)) (Or.inl (w_ hw 68 rfl)) (by decide) (t := (.array .int)) (t' := .long) (by decide) (by decide)))
  have P7_v89 := P7_v70.other W81 (Or.inr (slot_ne (Or.inl (w_ hw 21 rfl)) (Or.inl (w_ hw 68 rfl)) (by decide) (t := (.array .int)) (t' := .long) (by decide) (by decide)))
  have P8_v90 := P8_v71.other W81 (Or.inr (slot_ne (Or.inl (w_ hw 18 rfl)) (Or.inl (w_ hw 68 rfl)) (by decide) (t := (.array (.object "com/example/pennybreak/pennybreak/simplebook/RestingOrder"))) (t' := .long) (by decide) (by decide)))
  have P10_v91 := P10_v72.other W81 (Or.inl (Ne.symm P19))
  have P13_v92 := P13_v73.other W81 (Ne.symm P17)
  have P14_v93 := P14_v74.other W81 (Ne.symm P18)
  have F_used_A0_v94 := F_used_A0_v75.other W81 (Or.inr (slot_ne (Or.inl (w_ hw 48 rfl)) (Or.inl (w_ hw 68 rfl)) (by decide) (t := .int) (t' := .long) (by decide) (by decide)))
  have F_slot_A4_v95 := F_slot_A4_v76.other W81 (Or.inl (Ne.symm P19))
  have V42_59_v96 := V42_59_v77.other W81 (Ne.symm P16)
  have F_count_A0_v97 := F_count_A0_v78.other W81 (Or.inr (slot_ne (Or.inl (w_ hw 59 rfl)) (Or.inl (w_ hw 68 rfl)) (by decide) (t := .int) (t' := .long) (by decide) (by decide)))
  have F_open_A0_v98 := P6_v69.same W81
  show Go p e below _ T81 (mkF m 65 #[.val (.ref A0), .val (.ref A4)] [])
  refine Go.s_aloadN X81 hx (hb hby d6_65) (q := 66) rfl rfl rfl ?_
  refine Go.s_aloadN X81 hx (hb hby d6_66) (q := 67) rfl rfl rfl ?_
  refine Go.getF X81 hx hZ hown (w_ hw 45 rfl) Via.refl e81 F_slot_A4_v95 (hb hby d6_67) ?_
  intro T99 X99 e99
  show Go p e below _ T99 (mkF m 70 #[.val (.ref A0), .val (.ref A4)] [(.int (2 : Int32)), (.ref A0)])
  refine Go.s_aloadN X99 hx (hb hby d6_70) (q := 71) rfl rfl rfl ?_
  refine Go.getF X99 hx hZ hown (w_ hw 69 rfl) Via.refl e99 P10_v91 (hb hby d6_71) ?_
  intro T100 X100 e100
  show Go p e below _ T100 (mkF m 74 #[.val (.ref A0), .val (.ref A4)] [(.int I6), (.int (2 : Int32)), (.ref A0)])
  refine Go.callP (y := mn_9) X100 hx hZ hown (w_ hw 70 rfl) (w_ hw 71 rfl) (w_ hw 72 rfl) (w_ hw 7 rfl) (w_ hw 73 rfl) (w_ hw 8 rfl) (by decide) e100 P0_v84 (argsL := [(.int (2 : Int32)), (.int I6)]) (rest := []) (rm_set_45 l Z a0 hw A0 A2 A3 I6 h81 n0 Z0_v82 P0_v84 P2_v86 P5_v88 P7_v89 F_used_A0_v94 P13_v92 P14_v93 P17 P18 P21 P26 P28 P29) (by rw [hml]; rfl) (lenOf pd_3 rfl) rfl (hb hby d6_74) (by decide) (by decide) (by decide) (by decide) ?_
  intro r101 T101 L101 q101 X101
  obtain ⟨rfl, N101q, K101, f101_0, f101_1⟩ := q101
  have N101 := Fr.app N81 N101q
  have Z0_v102 := Nat.le_trans Z0_v82 K101.1
  have fact_K_v103 := Keep.trans fact_K_v83 K101 (allS (Or.inl (by simp)) (allS (Or.inl (by simp)) all0))
  have P0_v104 := P0_v84.keep K101
  have P1_v105 := P1_v85.keep K101
  have P2_v106 := P2_v86.keep K101 (ninS P17 (ninS P18 nin0))
  have P4_v107 := P4_v87.keep K101 (ninS P17 (ninS P18 nin0))
  have P5_v108 := P5_v88.keep K101 (ninS P17 (ninS P18 nin0))
  have P7_v109 := P7_v89.keep K101 (ninS P17 (ninS P18 nin0))
  have P8_v110 := P8_v90.keep K101 (ninS P17 (ninS P18 nin0))
  have P10_v111 := P10_v91.keep K101 (ninS P24 (ninS P25 nin0))
  have F_used_A0_v112 := F_used_A0_v94.keep K101 (ninS P17 (ninS P18 nin0))
  have F_slot_A4_v113 := F_slot_A4_v95.keep K101 (ninS P24 (ninS P25 nin0))
  have V42_59_v114 := V42_59_v96.keep K101 (ninS (Ne.symm P20) (ninS (Ne.symm P22) nin0))
  have F_count_A0_v115 := F_count_A0_v97.keep K101 (ninS P17 (ninS P18 nin0))
  have F_open_A0_v116 := F_open_A0_v98.keep K101 (ninS P17 (ninS P18 nin0))
  show Go p e below _ T101 (mkF m 77 #[.val (.ref A0), .val (.ref A4)] [])
  refine Go.retV X101 hx hlk hret (hb hby d6_77) (by decide) (by decide) ?_
  exact ⟨(J5 + (I6.toInt64)), rfl, N101, fact_K_v103, P0_v104, P1_v105, P2_v106, F_count_A0_v115, P4_v107, P5_v108, F_open_A0_v116, P7_v109, P8_v110, F_used_A0_v112, P10_v111, F_slot_A4_v113, V42_59_v114, f101_0, f101_1, P15⟩
theorem ef_holds_47 (m : MethodId) (x0 : Addr) (x1 : Addr) : entryFrame m #[(.ref x0), (.ref x1)] 2 = mkF m 0 #[.val (.ref x0), .val (.ref x1)] [] := by first | (simp [entryFrame, mkF, argsToLocals, Value.category]; done) | rfl
set_option maxRecDepth 65536 in
set_option maxHeartbeats 40000000 in
theorem rm_holds_47 (l : Launch) (Z : State) (a0 : Array Value) (hw : ∀ d ∈ tables_1, d.before a0 Z = true)  (A0 : Addr) (A1 : Addr) (A2 : Addr) (A3 : Addr) (A4 : Addr) (A5 : Addr) (A6 : Addr) (k7 : ClassId) (h0 : Heap) (n0 : Nat) (Z0 : n0 ≤ h0.size) (P0 : Fld Z h0 A0 "com/example/pennybreak/pennybreak/simplebook/OrderQueue" "slots" "[Lcom/example/pennybreak/pennybreak/simplebook/RestingOrder;" (.ref A1)) (P1 : Fld Z h0 A0 "com/example/pennybreak/pennybreak/simplebook/OrderQueue" "used" "I" (.int (3 : Int32))) (P2 : Fld Z h0 A4 "com/example/pennybreak/pennybreak/simplebook/RestingOrder" "slot" "I" (.int (0 : Int32))) (P3 : Fld Z h0 A5 "com/example/pennybreak/pennybreak/simplebook/RestingOrder" "slot" "I" (.int (1 : Int32))) (P4 : Fld Z h0 A6 "com/example/pennybreak/pennybreak/simplebook/RestingOrder" "slot" "I" (.int (2 : Int32))) (P5 : Arv Z h0 A1 k7 (.object "com/example/pennybreak/pennybreak/simplebook/RestingOrder") (4 : Int32) [(.ref A4), (.ref A5), (.ref A6), .null] .null) (P6 : A0 ≠ A1) (P7 : A0 ≠ A2) (P8 : A0 ≠ A3) (P9 : A0 ≠ A5) (P10 : A0 ≠ A4) (P11 : A0 ≠ A6) (P12 : A2 ≠ A1) (P13 : A2 ≠ A3) (P14 : A3 ≠ A1) (P15 : A4 ≠ A1) (P16 : A4 ≠ A2) (P17 : A4 ≠ A3) (P18 : A4 ≠ A5) (P19 : A4 ≠ A6) (P20 : A5 ≠ A1) (P21 : A5 ≠ A2) (P22 : A5 ≠ A3) (P23 : A5 ≠ A6) (P24 : A6 ≠ A1) (P25 : A6 ≠ A2) (P26 : A6 ≠ A3) :
    Ct l mn_5 prog_98_method_3_code 2 (some .boolean) ({ frames := 0, cells := 0, slots := 0, locals := 0 } : Room) Z h0 #[(.ref A0), (.ref A4)] (fun v h L => v = some (.int (1 : Int32)) ∧ L = [] ∧ h = h0) := by
  refine Ct.body (plainFor_of_name pn_com_example_pennybreak_pennybreak_simplebook_OrderQueue) ?_
  intro p e s m below meth c T0 hx hby hml hown hnm hret hlk hZ X0 e0
  refine Go.cast (ef_holds_47 m A0 A4) ?_
  show Go p e below _ T0 (mkF m 0 #[.val (.ref A0), .val (.ref A4)] [])
  refine Go.s_aloadN X0 hx (hb hby d5_0) (q := 1) rfl rfl rfl ?_
  refine Go.getF X0 hx hZ hown (w_ hw 45 rfl) Via.refl e0 P2 (hb hby d5_1) ?_
  intro T1 X1 e1
  show Go p e below _ T1 (mkF m 4 #[.val (.ref A0), .val (.ref A4)] [(.int (0 : Int32))])
  refine Go.s_aloadN X1 hx (hb hby d5_4) (q := 5) rfl rfl rfl ?_
  refine Go.getF X1 hx hZ hown (w_ hw 47 rfl) Via.refl e1 P1 (hb hby d5_5) ?_
  intro T2 X2 e2
  show Go p e below _ T2 (mkF m 8 #[.val (.ref A0), .val (.ref A4)] [(.int (3 : Int32)), (.int (0 : Int32))])
  refine Go.s_icmpNo X2 hx (hb hby d5_8) (q := 11) rfl (tlt (by decide : (0 : Int32) < (3 : Int32))).2.1 ?_
  refine Go.s_aloadN X2 hx (hb hby d5_11) (q := 12) rfl rfl rfl ?_
  refine Go.getF X2 hx hZ hown (w_ hw 17 rfl) Via.refl e2 P0 (hb hby d5_12) ?_
  intro T3 X3 e3
  show Go p e below _ T3 (mkF m 15 #[.val (.ref A0), .val (.ref A4)] [(.ref A1)])
  refine Go.s_aloadN X3 hx (hb hby d5_15) (q := 16) rfl rfl rfl ?_
  refine Go.getF X3 hx hZ hown (w_ hw 45 rfl) Via.refl e3 P2 (hb hby d5_16) ?_
  intro T4 X4 e4
  show Go p e below _ T4 (mkF m 19 #[.val (.ref A0), .val (.ref A4)] [(.int (0 : Int32)), (.ref A1)])
  refine Go.ldR X4 hx hZ e4 P5 ⟨by decide, by decide⟩ (w := (.ref A4)) rfl (hb hby d5_19) ?_
  show Go p e below _ T4 (mkF m 20 #[.val (.ref A0), .val (.ref A4)] [(.ref A4)])
  refine Go.s_aloadN X4 hx (hb hby d5_20) (q := 21) rfl rfl rfl ?_
  refine Go.s_acmp X4 hx (q := 24) (hb hby d5_21) rfl rfl (same := true) (decide_eq_true rfl) (by decide) (by decide) ?_
  refine Go.s_iconst X4 hx (hb hby d5_24) (q := 25) rfl (z := 1) rfl ?_
  refine Go.s_goto X4 hx (hb hby d5_25) (q := 29) (by decide) (by decide) ?_
  refine Go.retN X4 hx hlk hret (by simp) (hb hby d5_29) (by decide) (by decide) ?_
  try rw [e4]
  exact ⟨(by decide), rfl, rfl⟩
theorem ef_holds_48 (m : MethodId) (x0 : Addr) (x1 : Addr) : entryFrame m #[(.ref x0), (.ref x1)] 2 = mkF m 0 #[.val (.ref x0), .val (.ref x1)] [] := by first | (simp [entryFrame, mkF, argsToLocals, Value.category]; done) | rfl
set_option maxRecDepth 65536 in
set_option maxHeartbeats 40000000 in
theorem rm_holds_48 (l : Launch) (Z : State) (a0 : Array Value) (hw : ∀ d ∈ tables_1, d.before a0 Z = true)  (A0 : Addr) (A1 : Addr) (A2 : Addr) (A3 : Addr) (A4 : Addr) (A5 : Addr) (A6 : Addr) (k7 : ClassId) (h0 : Heap) (n0 : Nat) (Z0 : n0 ≤ h0.size) (P0 : Fld Z h0 A0 "com/example/pennybreak/pennybreak/simplebook/OrderQueue" "slots" "[Lcom/example/pennybreak/pennybreak/simplebook/RestingOrder;" (.ref A1)) (P1 : Fld Z h0 A0 "com/example/pennybreak/pennybreak/simplebook/OrderQueue" "used" "I" (.int (3 : Int32))) (P2 : Fld Z h0 A4 "com/example/pennybreak/pennybreak/simplebook/RestingOrder" "slot" "I" (.int (1 : Int32))) (P3 : Fld Z h0 A5 "com/example/pennybreak/pennybreak/simplebook/RestingOrder" "slot" "I" (.int (0 : Int32))) (P4 : Fld Z h0 A6 "com/example/pennybreak/pennybreak/simplebook/RestingOrder" "slot" "I" (.int (2 : Int32))) (P5 : Arv Z h0 A1 k7 (.object "com/example/pennybreak/pennybreak/simplebook/RestingOrder") (4 : Int32) [(.ref A5), (.ref A4), (.ref A6), .null] .null) (P6 : A0 ≠ A1) (P7 : A0 ≠ A2) (P8 : A0 ≠ A3) (P9 : A0 ≠ A4) (P10 : A0 ≠ A5) (P11 : A0 ≠ A6) (P12 : A2 ≠ A1) (P13 : A2 ≠ A3) (P14 : A3 ≠ A1) (P15 : A4 ≠ A1) (P16 : A4 ≠ A2) (P17 : A4 ≠ A3) (P18 : A4 ≠ A6) (P19 : A5 ≠ A1) (P20 : A5 ≠ A2) (P21 : A5 ≠ A3) (P22 : A5 ≠ A4) (P23 : A5 ≠ A6) (P24 : A6 ≠ A1) (P25 : A6 ≠ A2) (P26 : A6 ≠ A3) :
    Ct l mn_5 prog_98_method_3_code 2 (some .boolean) ({ frames := 0, cells := 0, slots := 0, locals := 0 } : Room) Z h0 #[(.ref A0), (.ref A4)] (fun v h L => v = some (.int (1 : Int32)) ∧ L = [] ∧ h = h0) := by
  refine Ct.body (plainFor_of_name pn_com_example_pennybreak_pennybreak_simplebook_OrderQueue) ?_
  intro p e s m below meth c T0 hx hby hml hown hnm hret hlk hZ X0 e0
  refine Go.cast (ef_holds_48 m A0 A4) ?_
  show Go p e below _ T0 (mkF m 0 #[.val (.ref A0), .val (.ref A4)] [])
  refine Go.s_aloadN X0 hx (hb hby d5_0) (q := 1) rfl rfl rfl ?_
  refine Go.getF X0 hx hZ hown (w_ hw 45 rfl) Via.refl e0 P2 (hb hby d5_1) ?_
  intro T1 X1 e1
  show Go p e below _ T1 (mkF m 4 #[.val (.ref A0), .val (.ref A4)] [(.int (1 : Int32))])
  refine Go.s_aloadN X1 hx (hb hby d5_4) (q := 5) rfl rfl rfl ?_
  refine Go.getF X1 hx hZ hown (w_ hw 47 rfl) Via.refl e1 P1 (hb hby d5_5) ?_
  intro T2 X2 e2
  show Go p e below _ T2 (mkF m 8 #[.val (.ref A0), .val (.ref A4)] [(.int (3 : Int32)), (.int (1 : Int32))])
  refine Go.s_icmpNo X2 hx (hb hby d5_8) (q := 11) rfl (tlt (by decide : (1 : Int32) < (3 : Int32))).2.1 ?_
  refine Go.s_aloadN X2 hx (hb hby d5_11) (q := 12) rfl rfl rfl ?_
  refine Go.getF X2 hx hZ hown (w_ hw 17 rfl) Via.refl e2 P0 (hb hby d5_12) ?_
  intro T3 X3 e3
  show Go p e below _ T3 (mkF m 15 #[.val (.ref A0), .val (.ref A4)] [(.ref A1)])
  refine Go.s_aloadN X3 hx (hb hby d5_15) (q := 16) rfl rfl rfl ?_
  refine Go.getF X3 hx hZ hown (w_ hw 45 rfl) Via.refl e3 P2 (hb hby d5_16) ?_
  intro T4 X4 e4
  show Go p e below _ T4 (mkF m 19 #[.val (.ref A0), .val (.ref A4)] [(.int (1 : Int32)), (.ref A1)])
  refine Go.ldR X4 hx hZ e4 P5 ⟨by decide, by decide⟩ (w := (.ref A4)) rfl (hb hby d5_19) ?_
  show Go p e below _ T4 (mkF m 20 #[.val (.ref A0), .val (.ref A4)] [(.ref A4)])
  refine Go.s_aloadN X4 hx (hb hby d5_20) (q := 21) rfl rfl rfl ?_
  refine Go.s_acmp X4 hx (q := 24) (hb hby d5_21) rfl rfl (same := true) (decide_eq_true rfl) (by decide) (by decide) ?_
  refine Go.s_iconst X4 hx (hb hby d5_24) (q := 25) rfl (z := 1) rfl ?_
  refine Go.s_goto X4 hx (hb hby d5_25) (q := 29) (by decide) (by decide) ?_
  refine Go.retN X4 hx hlk hret (by simp) (hb hby d5_29) (by decide) (by decide) ?_
  try rw [e4]
  exact ⟨(by decide), rfl, rfl⟩
theorem ef_holds_49 (m : MethodId) (x0 : Addr) (x1 : Addr) : entryFrame m #[(.ref x0), (.ref x1)] 2 = mkF m 0 #[.val (.ref x0), .val (.ref x1)] [] := by first | (simp [entryFrame, mkF, argsToLocals, Value.category]; done) | rfl
set_option maxRecDepth 65536 in
set_option maxHeartbeats 40000000 in
theorem rm_holds_49 (l : Launch) (Z : State) (a0 : Array Value) (hw : ∀ d ∈ tables_1, d.before a0 Z = true)  (A0 : Addr) (A1 : Addr) (A2 : Addr) (A3 : Addr) (A4 : Addr) (A5 : Addr) (A6 : Addr) (k7 : ClassId) (h0 : Heap) (n0 : Nat) (Z0 : n0 ≤ h0.size) (P0 : Fld Z h0 A0 "com/example/pennybreak/pennybreak/simplebook/OrderQueue" "slots" "[Lcom/example/pennybreak/pennybreak/simplebook/RestingOrder;" (.ref A1)) (P1 : Fld Z h0 A0 "com/example/pennybreak/pennybreak/simplebook/OrderQueue" "used" "I" (.int (3 : Int32))) (P2 : Fld Z h0 A4 "com/example/pennybreak/pennybreak/simplebook/RestingOrder" "slot" "I" (.int (2 : Int32))) (P3 : Fld Z h0 A5 "com/example/pennybreak/pennybreak/simplebook/RestingOrder" "slot" "I" (.int (0 : Int32))) (P4 : Fld Z h0 A6 "com/example/pennybreak/pennybreak/simplebook/RestingOrder" "slot" "I" (.int (1 : Int32))) (P5 : Arv Z h0 A1 k7 (.object "com/example/pennybreak/pennybreak/simplebook/RestingOrder") (4 : Int32) [(.ref A5), (.ref A6), (.ref A4), .null] .null) (P6 : A0 ≠ A1) (P7 : A0 ≠ A2) (P8 : A0 ≠ A3) (P9 : A0 ≠ A6) (P10 : A0 ≠ A5) (P11 : A0 ≠ A4) (P12 : A2 ≠ A1) (P13 : A2 ≠ A3) (P14 : A3 ≠ A1) (P15 : A4 ≠ A1) (P16 : A4 ≠ A2) (P17 : A4 ≠ A3) (P18 : A5 ≠ A1) (P19 : A5 ≠ A2) (P20 : A5 ≠ A3) (P21 : A5 ≠ A6) (P22 : A5 ≠ A4) (P23 : A6 ≠ A1) (P24 : A6 ≠ A2) (P25 : A6 ≠ A3) (P26 : A6 ≠ A4) :
    Ct l mn_5 prog_98_method_3_code 2 (some .boolean) ({ frames := 0, cells := 0, slots := 0, locals := 0 } : Room) Z h0 #[(.ref A0), (.ref A4)] (fun v h L => v = some (.int (1 : Int32)) ∧ L = [] ∧ h = h0) := by
  refine Ct.body (plainFor_of_name pn_com_example_pennybreak_pennybreak_simplebook_OrderQueue) ?_
  intro p e s m below meth c T0 hx hby hml hown hnm hret hlk hZ X0 e0
  refine Go.cast (ef_holds_49 m A0 A4) ?_
  show Go p e below _ T0 (mkF m 0 #[.val (.ref A0), .val (.ref A4)] [])
  refine Go.s_aloadN X0 hx (hb hby d5_0) (q := 1) rfl rfl rfl ?_
  refine Go.getF X0 hx hZ hown (w_ hw 45 rfl) Via.refl e0 P2 (hb hby d5_1) ?_
  intro T1 X1 e1
  show Go p e below _ T1 (mkF m 4 #[.val (.ref A0), .val (.ref A4)] [(.int (2 : Int32))])
  refine Go.s_aloadN X1 hx (hb hby d5_4) (q := 5) rfl rfl rfl ?_
  refine Go.getF X1 hx hZ hown (w_ hw 47 rfl) Via.refl e1 P1 (hb hby d5_5) ?_
  intro T2 X2 e2
  show Go p e below _ T2 (mkF m 8 #[.val (.ref A0), .val (.ref A4)] [(.int (3 : Int32)), (.int (2 : Int32))])
  refine Go.s_icmpNo X2 hx (hb hby d5_8) (q := 11) rfl (tlt (by decide : (2 : Int32) < (3 : Int32))).2.1 ?_
  refine Go.s_aloadN X2 hx (hb hby d5_11) (q := 12) rfl rfl rfl ?_
  refine Go.getF X2 hx hZ hown (w_ hw 17 rfl) Via.refl e2 P0 (hb hby d5_12) ?_
  intro T3 X3 e3
  show Go p e below _ T3 (mkF m 15 #[.val (.ref A0), .val (.ref A4)] [(.ref A1)])
  refine Go.s_aloadN X3 hx (hb hby d5_15) (q := 16) rfl rfl rfl ?_
  refine Go.getF X3 hx hZ hown (w_ hw 45 rfl) Via.refl e3 P2 (hb hby d5_16) ?_
  intro T4 X4 e4
  show Go p e below _ T4 (mkF m 19 #[.val (.ref A0), .val (.ref A4)] [(.int (2 : Int32)), (.ref A1)])
  refine Go.ldR X4 hx hZ e4 P5 ⟨by decide, by decide⟩ (w := (.ref A4)) rfl (hb hby d5_19) ?_
  show Go p e below _ T4 (mkF m 20 #[.val (.ref A0), .val (.ref A4)] [(.ref A4)])
  refine Go.s_aloadN X4 hx (hb hby d5_20) (q := 21) rfl rfl rfl ?_
  refine Go.s_acmp X4 hx (q := 24) (hb hby d5_21) rfl rfl (same := true) (decide_eq_true rfl) (by decide) (by decide) ?_
  refine Go.s_iconst X4 hx (hb hby d5_24) (q := 25) rfl (z := 1) rfl ?_
  refine Go.s_goto X4 hx (hb hby d5_25) (q := 29) (by decide) (by decide) ?_
  refine Go.retN X4 hx hlk hret (by simp) (hb hby d5_29) (by decide) (by decide) ?_
  try rw [e4]
  exact ⟨(by decide), rfl, rfl⟩
theorem ef_take_50 (m : MethodId) (x0 : Addr) (x1 : Addr) (x2 : Int32) : entryFrame m #[(.ref x0), (.ref x1), (.int x2)] 3 = mkF m 0 #[.val (.ref x0), .val (.ref x1), .val (.int x2)] [] := by first | (simp [entryFrame, mkF, argsToLocals, Value.category]; done) | rfl
set_option maxRecDepth 65536 in
set_option maxHeartbeats 40000000 in
theorem rm_take_50 (l : Launch) (Z : State) (a0 : Array Value) (hw : ∀ d ∈ tables_1, d.before a0 Z = true)  (A0 : Addr) (A1 : Addr) (A2 : Addr) (A3 : Addr) (A4 : Addr) (J5 : Int64) (I6 : Int32) (k7 : ClassId) (A8 : Addr) (h0 : Heap) (n0 : Nat) (Z0 : n0 ≤ h0.size) (P0 : Exa Z h0 A0 "com/example/pennybreak/pennybreak/simplebook/OrderQueue") (P1 : Exa Z h0 A4 "com/example/pennybreak/pennybreak/simplebook/RestingOrder") (P2 : Fld Z h0 A0 "com/example/pennybreak/pennybreak/simplebook/OrderQueue" "blocks" "I" (.int (1 : Int32))) (P3 : Fld Z h0 A0 "com/example/pennybreak/pennybreak/simplebook/OrderQueue" "count" "I" (.int (2 : Int32))) (P4 : Fld Z h0 A0 "com/example/pennybreak/pennybreak/simplebook/OrderQueue" "front" "I" (.int (0 : Int32))) (P5 : Fld Z h0 A0 "com/example/pennybreak/pennybreak/simplebook/OrderQueue" "largest" "[I" (.ref A3)) (P6 : Fld Z h0 A0 "com/example/pennybreak/pennybreak/simplebook/OrderQueue" "open" "J" (.long J5)) (P7 : Fld Z h0 A0 "com/example/pennybreak/pennybreak/simplebook/OrderQueue" "sizes" "[I" (.ref A2)) (P8 : Fld Z h0 A0 "com/example/pennybreak/pennybreak/simplebook/OrderQueue" "slots" "[Lcom/example/pennybreak/pennybreak/simplebook/RestingOrder;" (.ref A1)) (P9 : Fld Z h0 A0 "com/example/pennybreak/pennybreak/simplebook/OrderQueue" "used" "I" (.int (2 : Int32))) (P10 : Fld Z h0 A4 "com/example/pennybreak/pennybreak/simplebook/RestingOrder" "openSize" "I" (.int I6)) (P11 : Fld Z h0 A4 "com/example/pennybreak/pennybreak/simplebook/RestingOrder" "slot" "I" (.int (1 : Int32))) (P12 : Arv Z h0 A1 k7 (.object "com/example/pennybreak/pennybreak/simplebook/RestingOrder") (4 : Int32) [(.ref A8), (.ref A4), .null, .null] .null) (P13 : UA Z h0 A2 4) (P14 : UA Z h0 A3 2) (P15 : Ovr Z k7 "com/example/pennybreak/pennybreak/simplebook/RestingOrder") (P16 : A0 ≠ A1) (P17 : A0 ≠ A2) (P18 : A0 ≠ A3) (P19 : A0 ≠ A4) (P20 : A2 ≠ A1) (P21 : A2 ≠ A3) (P22 : A3 ≠ A1) (P23 : A4 ≠ A1) (P24 : A4 ≠ A2) (P25 : A4 ≠ A3) (P26 : n0 ≤ A0) (P27 : n0 ≤ A1) (P28 : n0 ≤ A2) (P29 : n0 ≤ A3) (P30 : n0 ≤ A4) (C0 : (I6 - I6) = (0 : Int32)) :
    Ct l mn_10 prog_98_method_4_code 3 none ({ frames := 3, cells := 0, slots := 0, locals := 60 } : Room) Z h0 #[(.ref A0), (.ref A4), (.int I6)] (fun v h L => ∃ w0 : Int64, ∃ w1 : Int32, v = none ∧ Fr n0 L ∧ Keep h0 h [A0, A1, A2, A3, A4] ∧ Exa Z h A0 "com/example/pennybreak/pennybreak/simplebook/OrderQueue" ∧ Exa Z h A4 "com/example/pennybreak/pennybreak/simplebook/RestingOrder" ∧ Fld Z h A0 "com/example/pennybreak/pennybreak/simplebook/OrderQueue" "blocks" "I" (.int (1 : Int32)) ∧ Fld Z h A0 "com/example/pennybreak/pennybreak/simplebook/OrderQueue" "count" "I" (.int (1 : Int32)) ∧ Fld Z h A0 "com/example/pennybreak/pennybreak/simplebook/OrderQueue" "front" "I" (.int (0 : Int32)) ∧ Fld Z h A0 "com/example/pennybreak/pennybreak/simplebook/OrderQueue" "largest" "[I" (.ref A3) ∧ Fld Z h A0 "com/example/pennybreak/pennybreak/simplebook/OrderQueue" "open" "J" (.long w0) ∧ Fld Z h A0 "com/example/pennybreak/pennybreak/simplebook/OrderQueue" "sizes" "[I" (.ref A2) ∧ Fld Z h A0 "com/example/pennybreak/pennybreak/simplebook/OrderQueue" "slots" "[Lcom/example/pennybreak/pennybreak/simplebook/RestingOrder;" (.ref A1) ∧ Fld Z h A0 "com/example/pennybreak/pennybreak/simplebook/OrderQueue" "used" "I" (.int (2 : Int32)) ∧ Fld Z h A4 "com/example/pennybreak/pennybreak/simplebook/RestingOrder" "openSize" "I" (.int w1) ∧ Fld Z h A4 "com/example/pennybreak/pennybreak/simplebook/RestingOrder" "slot" "I" (.int (1 : Int32)) ∧ Arv Z h A1 k7 (.object "com/example/pennybreak/pennybreak/simplebook/RestingOrder") (4 : Int32) [(.ref A8), .null, .null, .null] .null ∧ UA Z h A2 4 ∧ UA Z h A3 2 ∧ Ovr Z k7 "com/example/pennybreak/pennybreak/simplebook/RestingOrder") := by
  refine Ct.body (plainFor_of_name pn_com_example_pennybreak_pennybreak_simplebook_OrderQueue) ?_
  intro p e s m below meth c T0 hx hby hml hown hnm hret hlk hZ X0 e0
  refine Go.cast (ef_take_50 m A0 A4 I6) ?_
  show Go p e below _ T0 (mkF m 0 #[.val (.ref A0), .val (.ref A4), .val (.int I6)] [])
  refine Go.s_aloadN X0 hx (hb hby d10_0) (q := 1) rfl rfl rfl ?_
  refine Go.s_dup X0 hx (hb hby d10_1) (q := 2) rfl rfl ?_
  refine Go.getF X0 hx hZ hown (w_ hw 69 rfl) Via.refl e0 P10 (hb hby d10_2) ?_
  intro T1 X1 e1
  show Go p e below _ T1 (mkF m 5 #[.val (.ref A0), .val (.ref A4), .val (.int I6)] [(.int I6), (.ref A4)])
  refine Go.s_iloadN X1 hx (hb hby d10_5) (q := 6) rfl rfl ?_
  refine Go.s_isub X1 hx (hb hby d10_6) (q := 7) rfl ?_
  refine Go.putF X1 hx hZ hown (w_ hw 69 rfl) Via.refl e1 P10 P1 (Or.inl (w_ hw 38 rfl)) (w_ hw 27 rfl) (ty := .int) (by decide) rfl rfl (hb hby d10_7) ?_
  intro T2 h2 X2 e2 W2
  have N2 := Fr.snoc X2 (Fr.nil n0) P30
  have Z0_v3 := Nat.le_trans Z0 (Keep.of_wr W2).1
  have fact_K_v4 := (Keep.refl h0 [A0, A1, A2, A3, A4]).wr W2 (Or.inl (by simp))
  have P0_v5 := P0.wr W2
  have P1_v6 := P1.wr W2
  have P2_v7 := P2.other W2 (Or.inl P19)
  have P3_v8 := P3.other W2 (Or.inl P19)
  have P4_v9 := P4.other W2 (Or.inl P19)
  have P5_v10 := P5.other W2 (Or.inl P19)
  have P6_v11 := P6.other W2 (Or.inl P19)
  have P7_v12 := P7.other W2 (Or.inl P19)
  have P8_v13 := P8.other W2 (Or.inl P19)
  have P9_v14 := P9.other W2 (Or.inl P19)
  have P11_v15 := P11.other W2 (Or.inr (slot_ne (Or.inl (w_ hw 46 rfl)) (Or.inl (w_ hw 38 rfl)) (by decide) (t := .int) (t' := .int) (by decide) (by decide)))
  have P12_v16 := P12.other W2 (Ne.symm P23)
  have P13_v17 := P13.other W2 (Ne.symm P24)
  have P14_v18 := P14.other W2 (Ne.symm P25)
  have F_openSize_A4_v19 := P10.same W2
  show Go p e below _ T2 (mkF m 10 #[.val (.ref A0), .val (.ref A4), .val (.int I6)] [])
  refine Go.s_aloadN X2 hx (hb hby d10_10) (q := 11) rfl rfl rfl ?_
  refine Go.s_dup X2 hx (hb hby d10_11) (q := 12) rfl rfl ?_
  refine Go.getF X2 hx hZ hown (w_ hw 67 rfl) Via.refl e2 P6_v11 (hb hby d10_12) ?_
  intro T20 X20 e20
  show Go p e below _ T20 (mkF m 15 #[.val (.ref A0), .val (.ref A4), .val (.int I6)] [(.long J5), (.ref A0)])
  refine Go.s_iloadN X20 hx (hb hby d10_15) (q := 16) rfl rfl ?_
  refine Go.s_i2l X20 hx (hb hby d10_16) (q := 17) rfl ?_
  refine Go.s_lsub X20 hx (hb hby d10_17) (q := 18) rfl ?_
  refine Go.putF X20 hx hZ hown (w_ hw 67 rfl) Via.refl e20 P6_v11 P0_v5 (Or.inl (w_ hw 68 rfl)) (w_ hw 7 rfl) (ty := .long) (by decide) rfl rfl (hb hby d10_18) ?_
  intro T21 h21 X21 e21 W21
  have N21 := Fr.snoc X21 N2 P26
  have Z0_v22 := Nat.le_trans Z0_v3 (Keep.of_wr W21).1
  have fact_K_v23 := fact_K_v4.wr W21 (Or.inl (by simp))
  have P0_v24 := P0_v5.wr W21
  have P1_v25 := P1_v6.wr W21
  have P2_v26 := P2_v7.other W21 (Or.inr (slot_ne (Or.inl (w_ hw 23 rfl)) (Or.inl (w_ hw 68 rfl)) (by decide) (t := .int) (t' := .long) (by decide) (by decide)))
  have P3_v27 := P3_v8.other W21 (Or.inr (slot_ne (Or.inl (w_ hw 59 rfl)) (Or.inl (w_ hw 68 rfl)) (by decide) (t := .int) (t' := .long) (by decide) (by decide)))
  have P4_v28 := P4_v9.other W21 (Or.inr (slot_ne (Or.inl (w_ hw 65 rfl)) (Or.inl (w_ hw 68 rfl)) (by decide) (t := .int) (t' := .long) (by decide) (by decide)))
  have P5_v29 := P5_v10.other W21 (Or.inr (slot_ne (Or.inl (w_ hw 25 rfl)) (Or.inl (w_ hw 68 rfl)) (by decide) (t := (.array .int)) (t' := .long) (by decide) (by decide)))
  have P7_v30 := P7_v12.other W21 (Or.inr (slot_ne (Or.inl (w_ hw 21 rfl)) (Or.inl (w_ hw 68 rfl)) (by decide) (t := (.array .int)) (t' := .long) (by decide) (by decide)))
  have P8_v31 := P8_v13.other W21 (Or.inr (slot_ne (Or.inl (w_ hw 18 rfl)) (Or.inl (w_ hw 68 rfl)) (by decide) (t := (.array (.object "com/example/pennybreak/pennybreak/simplebook/RestingOrder"))) (t' := .long) (by decide) (by decide)))
  have P9_v32 := P9_v14.other W21 (Or.inr (slot_ne (Or.inl (w_ hw 48 rfl)) (Or.inl (w_ hw 68 rfl)) (by decide) (t := .int) (t' := .long) (by decide) (by decide)))
  have P11_v33 := P11_v15.other W21 (Or.inl (Ne.symm P19))
  have P12_v34 := P12_v16.other W21 (Ne.symm P16)
  have P13_v35 := P13_v17.other W21 (Ne.symm P17)
  have P14_v36 := P14_v18.other W21 (Ne.symm P18)
  have F_openSize_A4_v37 := F_openSize_A4_v19.other W21 (Or.inl (Ne.symm P19))
  have F_open_A0_v38 := P6_v11.same W21
  show Go p e below _ T21 (mkF m 21 #[.val (.ref A0), .val (.ref A4), .val (.int I6)] [])
  refine Go.s_aloadN X21 hx (hb hby d10_21) (q := 22) rfl rfl rfl ?_
  refine Go.s_aloadN X21 hx (hb hby d10_22) (q := 23) rfl rfl rfl ?_
  refine Go.getF X21 hx hZ hown (w_ hw 45 rfl) Via.refl e21 P11_v33 (hb hby d10_23) ?_
  intro T39 X39 e39
  show Go p e below _ T39 (mkF m 26 #[.val (.ref A0), .val (.ref A4), .val (.int I6)] [(.int (1 : Int32)), (.ref A0)])
  refine Go.s_aloadN X39 hx (hb hby d10_26) (q := 27) rfl rfl rfl ?_
  refine Go.getF X39 hx hZ hown (w_ hw 69 rfl) Via.refl e39 F_openSize_A4_v37 (hb hby d10_27) ?_
  intro T40 X40 e40
  show Go p e below _ T40 (mkF m 30 #[.val (.ref A0), .val (.ref A4), .val (.int I6)] [(.int (I6 - I6)), (.int (1 : Int32)), (.ref A0)])
  refine Go.callP (y := mn_9) X40 hx hZ hown (w_ hw 70 rfl) (w_ hw 71 rfl) (w_ hw 72 rfl) (w_ hw 7 rfl) (w_ hw 73 rfl) (w_ hw 8 rfl) (by decide) e40 P0_v24 (argsL := [(.int (1 : Int32)), (.int (I6 - I6))]) (rest := []) (rm_set_24 l Z a0 hw A0 A2 A3 (I6 - I6) h21 n0 Z0_v22 P0_v24 P2_v26 P5_v29 P7_v30 P9_v32 P13_v35 P14_v36 P17 P18 P21 P26 P28 P29) (by rw [hml]; rfl) (lenOf pd_3 rfl) rfl (hb hby d10_30) (by decide) (by decide) (by decide) (by decide) ?_
  intro r41 T41 L41 q41 X41
  obtain ⟨rfl, N41q, K41, f41_0, f41_1⟩ := q41
  have N41 := Fr.app N21 N41q
  have Z0_v42 := Nat.le_trans Z0_v22 K41.1
  have fact_K_v43 := Keep.trans fact_K_v23 K41 (allS (Or.inl (by simp)) (allS (Or.inl (by simp)) all0))
  have P0_v44 := P0_v24.keep K41
  have P1_v45 := P1_v25.keep K41
  have P2_v46 := P2_v26.keep K41 (ninS P17 (ninS P18 nin0))
  have P3_v47 := P3_v27.keep K41 (ninS P17 (ninS P18 nin0))
  have P4_v48 := P4_v28.keep K41 (ninS P17 (ninS P18 nin0))
  have P5_v49 := P5_v29.keep K41 (ninS P17 (ninS P18 nin0))
  have P7_v50 := P7_v30.keep K41 (ninS P17 (ninS P18 nin0))
  have P8_v51 := P8_v31.keep K41 (ninS P17 (ninS P18 nin0))
  have P9_v52 := P9_v32.keep K41 (ninS P17 (ninS P18 nin0))
  have P11_v53 := P11_v33.keep K41 (ninS P24 (ninS P25 nin0))
  have P12_v54 := P12_v34.keep K41 (ninS (Ne.symm P20) (ninS (Ne.symm P22) nin0))
  have F_openSize_A4_v55 := F_openSize_A4_v37.keep K41 (ninS P24 (ninS P25 nin0))
  have F_open_A0_v56 := F_open_A0_v38.keep K41 (ninS P17 (ninS P18 nin0))
  show Go p e below _ T41 (mkF m 33 #[.val (.ref A0), .val (.ref A4), .val (.int I6)] [])
  refine Go.s_aloadN X41 hx (hb hby d10_33) (q := 34) rfl rfl rfl ?_
  refine Go.getF X41 hx hZ hown (w_ hw 69 rfl) Via.refl rfl F_openSize_A4_v55 (hb hby d10_34) ?_
  intro T57 X57 e57
  show Go p e below _ T57 (mkF m 37 #[.val (.ref A0), .val (.ref A4), .val (.int I6)] [(.int (I6 - I6))])
  refine Go.s_ifNo X57 hx (hb hby d10_37) (q := 40) rfl ((if0 _ _).trans (teq C0).2) ?_
  refine Go.s_aloadN X57 hx (hb hby d10_40) (q := 41) rfl rfl rfl ?_
  refine Go.getF X57 hx hZ hown (w_ hw 17 rfl) Via.refl e57 P8_v51 (hb hby d10_41) ?_
  intro T58 X58 e58
  show Go p e below _ T58 (mkF m 44 #[.val (.ref A0), .val (.ref A4), .val (.int I6)] [(.ref A1)])
  refine Go.s_aloadN X58 hx (hb hby d10_44) (q := 45) rfl rfl rfl ?_
  refine Go.getF X58 hx hZ hown (w_ hw 45 rfl) Via.refl e58 P11_v53 (hb hby d10_45) ?_
  intro T59 X59 e59
  show Go p e below _ T59 (mkF m 48 #[.val (.ref A0), .val (.ref A4), .val (.int I6)] [(.int (1 : Int32)), (.ref A1)])
  refine Go.s_aconst_null X59 hx (hb hby d10_48) (q := 49) rfl ?_
  refine Go.stR X59 hx hZ e59 P12_v54 ⟨by decide, by decide⟩ (Or.inl rfl) rfl 1 rfl (by first | decide | exact Nat.le_of_ble_eq_true rfl) (hb hby d10_49) ?_
  intro T60 h60 X60 e60 W60 V60
  have N60 := Fr.snoc X60 N41 P27
  have Z0_v61 := Nat.le_trans Z0_v42 (Keep.of_wr W60).1
  have fact_K_v62 := fact_K_v43.wr W60 (Or.inl (by simp))
  have P0_v63 := P0_v44.wr W60
  have P1_v64 := P1_v45.wr W60
  have P2_v65 := P2_v46.other W60 (Or.inl P16)
  have P3_v66 := P3_v47.other W60 (Or.inl P16)
  have P4_v67 := P4_v48.other W60 (Or.inl P16)
  have P5_v68 := P5_v49.other W60 (Or.inl P16)
  have P7_v69 := P7_v50.other W60 (Or.inl P16)
  have P8_v70 := P8_v51.other W60 (Or.inl P16)
  have P9_v71 := P9_v52.other W60 (Or.inl P16)
  have P11_v72 := P11_v53.other W60 (Or.inl P23)
  have F_openSize_A4_v73 := F_openSize_A4_v55.other W60 (Or.inl P23)
  have F_open_A0_v74 := F_open_A0_v56.other W60 (Or.inl P16)
  have f41_0_v75 := f41_0.other W60 P20
  have f41_1_v76 := f41_1.other W60 P22
  have V60_77 : Arv Z h60 A1 k7 (.object "com/example/pennybreak/pennybreak/simplebook/RestingOrder") (4 : Int32) [(.ref A8), .null, .null, .null] .null := V60
  show Go p e below _ T60 (mkF m 50 #[.val (.ref A0), .val (.ref A4), .val (.int I6)] [])
  refine Go.s_aloadN X60 hx (hb hby d10_50) (q := 51) rfl rfl rfl ?_
  refine Go.s_dup X60 hx (hb hby d10_51) (q := 52) rfl rfl ?_
  refine Go.getF X60 hx hZ hown (w_ hw 58 rfl) Via.refl e60 P3_v66 (hb hby d10_52) ?_
  intro T78 X78 e78
  show Go p e below _ T78 (mkF m 55 #[.val (.ref A0), .val (.ref A4), .val (.int I6)] [(.int (2 : Int32)), (.ref A0)])
  refine Go.s_iconst X78 hx (hb hby d10_55) (q := 56) rfl (z := 1) rfl ?_
  refine Go.s_isub X78 hx (hb hby d10_56) (q := 57) rfl ?_
  rw [(by decide : ((2 : Int32) - (1 : Int32)) = (1 : Int32))]
  refine Go.putF X78 hx hZ hown (w_ hw 58 rfl) Via.refl e78 P3_v66 P0_v63 (Or.inl (w_ hw 59 rfl)) (w_ hw 7 rfl) (ty := .int) (by decide) rfl rfl (hb hby d10_57) ?_
  intro T79 h79 X79 e79 W79
  have N79 := Fr.snoc X79 N60 P26
  have Z0_v80 := Nat.le_trans Z0_v61 (Keep.of_wr W79).1
  have fact_K_v81 := fact_K_v62.wr W79 (Or.inl (by simp))
  have P0_v82 := P0_v63.wr W79
  have P1_v83 := P1_v64.wr W79
  have P2_v84 := P2_v65.other W79 (Or.inr (slot_ne (Or.inl (w_ hw 23 rfl)) (Or.inl (w_ hw 59 rfl)) (by decide) (t := .int) (t' := .int) (by decide) (by decide)))
  have P4_v85 := P4_v67.other W79 (Or.inr (slot_ne (Or.inl (w_ hw 65 rfl)) (Or.inl (w_ hw 59 rfl)) (by decide) (t := .int) (t' := .int) (by decide) (by decide)))
  have P5_v86 := P5_v68.other W79 (Or.inr (slot_ne (Or.inl (w_ hw 25 rfl)) (Or.inl (w_ hw 59 rfl)) (by decide) (t := (.array .int)) (t' := .int) (by decide) (by decide)))
  have P7_v87 := P7_v69.other W79 (Or.inr (slot_ne (Or.inl (w_ hw 21 rfl)) (Or.inl (w_ hw 59 rfl)) (by decide) (t := (.array .int)) (t' := .int) (by decide) (by decide)))
  have P8_v88 := P8_v70.other W79 (Or.inr (slot_ne (Or.inl (w_ hw 18 rfl)) (Or.inl (w_ hw 59 rfl)) (by decide) (t := (.array (.object "com/example/pennybreak/pennybreak/simplebook/RestingOrder"))) (t' := .int) (by decide) (by decide)))
  have P9_v89 := P9_v71.other W79 (Or.inr (slot_ne (Or.inl (w_ hw 48 rfl)) (Or.inl (w_ hw 59 rfl)) (by decide) (t := .int) (t' := .int) (by decide) (by decide)))
  have P11_v90 := P11_v72.other W79 (Or.inl (Ne.symm P19))
  have F_openSize_A4_v91 := F_openSize_A4_v73.other W79 (Or.inl (Ne.symm P19))
  have F_open_A0_v92 := F_open_A0_v74.other W79 (Or.inr (slot_ne (Or.inl (w_ hw 68 rfl)) (Or.inl (w_ hw 59 rfl)) (by decide) (t := .long) (t' := .int) (by decide) (by decide)))
  have f41_0_v93 := f41_0_v75.other W79 (Ne.symm P17)
  have f41_1_v94 := f41_1_v76.other W79 (Ne.symm P18)
  have V60_77_v95 := V60_77.other W79 (Ne.symm P16)
  have F_count_A0_v96 := P3_v66.same W79
  show Go p e below _ T79 (mkF m 60 #[.val (.ref A0), .val (.ref A4), .val (.int I6)] [])
  refine Go.s_aloadN X79 hx (hb hby d10_60) (q := 61) rfl rfl rfl ?_
  refine Go.getF X79 hx hZ hown (w_ hw 64 rfl) Via.refl e79 P4_v85 (hb hby d10_61) ?_
  intro T97 X97 e97
  show Go p e below _ T97 (mkF m 64 #[.val (.ref A0), .val (.ref A4), .val (.int I6)] [(.int (0 : Int32))])
  refine Go.s_aloadN X97 hx (hb hby d10_64) (q := 65) rfl rfl rfl ?_
  refine Go.getF X97 hx hZ hown (w_ hw 47 rfl) Via.refl e97 P9_v89 (hb hby d10_65) ?_
  intro T98 X98 e98
  show Go p e below _ T98 (mkF m 68 #[.val (.ref A0), .val (.ref A4), .val (.int I6)] [(.int (2 : Int32)), (.int (0 : Int32))])
  refine Go.s_icmpNo X98 hx (hb hby d10_68) (q := 71) rfl (tlt (by decide : (0 : Int32) < (2 : Int32))).2.1 ?_
  refine Go.s_aloadN X98 hx (hb hby d10_71) (q := 72) rfl rfl rfl ?_
  refine Go.getF X98 hx hZ hown (w_ hw 17 rfl) Via.refl e98 P8_v88 (hb hby d10_72) ?_
  intro T99 X99 e99
  show Go p e below _ T99 (mkF m 75 #[.val (.ref A0), .val (.ref A4), .val (.int I6)] [(.ref A1)])
  refine Go.s_aloadN X99 hx (hb hby d10_75) (q := 76) rfl rfl rfl ?_
  refine Go.getF X99 hx hZ hown (w_ hw 64 rfl) Via.refl e99 P4_v85 (hb hby d10_76) ?_
  intro T100 X100 e100
  show Go p e below _ T100 (mkF m 79 #[.val (.ref A0), .val (.ref A4), .val (.int I6)] [(.int (0 : Int32)), (.ref A1)])
  refine Go.ldR X100 hx hZ e100 V60_77_v95 ⟨by decide, by decide⟩ (w := (.ref A8)) rfl (hb hby d10_79) ?_
  show Go p e below _ T100 (mkF m 80 #[.val (.ref A0), .val (.ref A4), .val (.int I6)] [(.ref A8)])
  refine Go.s_ifnonnullYes X100 hx (hb hby d10_80) (q := 96) (by decide) (by decide) ?_
  refine Go.s_aloadN X100 hx (hb hby d10_96) (q := 97) rfl rfl rfl ?_
  refine Go.getF X100 hx hZ hown (w_ hw 58 rfl) Via.refl e100 F_count_A0_v96 (hb hby d10_97) ?_
  intro T101 X101 e101
  show Go p e below _ T101 (mkF m 100 #[.val (.ref A0), .val (.ref A4), .val (.int I6)] [(.int (1 : Int32))])
  refine Go.s_aloadN X101 hx (hb hby d10_100) (q := 101) rfl rfl rfl ?_
  refine Go.getF X101 hx hZ hown (w_ hw 17 rfl) Via.refl e101 P8_v88 (hb hby d10_101) ?_
  intro T102 X102 e102
  show Go p e below _ T102 (mkF m 104 #[.val (.ref A0), .val (.ref A4), .val (.int I6)] [(.ref A1), (.int (1 : Int32))])
  refine Go.len X102 hx hZ e102 V60_77_v95 (hb hby d10_104) ?_
  show Go p e below _ T102 (mkF m 105 #[.val (.ref A0), .val (.ref A4), .val (.int I6)] [(.int (4 : Int32)), (.int (1 : Int32))])
  refine Go.s_bipush X102 hx (hb hby d10_105) (q := 107) rfl (z := 8) rfl ?_
  refine Go.s_idiv X102 hx (hb hby d10_107) (q := 108) rfl (by decide) ?_
  rw [(by decide : ((4 : Int32) / (8 : Int32)) = (0 : Int32))]
  refine Go.s_icmpYes X102 hx (hb hby d10_108) (q := 115) (by decide) (by decide) (flt (by decide : ¬ ((1 : Int32) < (0 : Int32)))).2.1 ?_
  refine Go.retV X102 hx hlk hret (hb hby d10_115) (by decide) (by decide) ?_
  try rw [e102]
  exact ⟨(J5 - (I6.toInt64)), (I6 - I6), rfl, N79, fact_K_v81, P0_v82, P1_v83, P2_v84, F_count_A0_v96, P4_v85, P5_v86, F_open_A0_v92, P7_v87, P8_v88, P9_v89, F_openSize_A4_v91, P11_v90, V60_77_v95, f41_0_v93, f41_1_v94, P15⟩
theorem ef_holds_51 (m : MethodId) (x0 : Addr) (x1 : Addr) : entryFrame m #[(.ref x0), (.ref x1)] 2 = mkF m 0 #[.val (.ref x0), .val (.ref x1)] [] := by first | (simp [entryFrame, mkF, argsToLocals, Value.category]; done) | rfl
set_option maxRecDepth 65536 in
set_option maxHeartbeats 40000000 in
theorem rm_holds_51 (l : Launch) (Z : State) (a0 : Array Value) (hw : ∀ d ∈ tables_1, d.before a0 Z = true)  (A0 : Addr) (A1 : Addr) (A2 : Addr) (A3 : Addr) (A4 : Addr) (k5 : ClassId) (h0 : Heap) (n0 : Nat) (Z0 : n0 ≤ h0.size) (P0 : Fld Z h0 A0 "com/example/pennybreak/pennybreak/simplebook/OrderQueue" "slots" "[Lcom/example/pennybreak/pennybreak/simplebook/RestingOrder;" (.ref A1)) (P1 : Fld Z h0 A0 "com/example/pennybreak/pennybreak/simplebook/OrderQueue" "used" "I" (.int (2 : Int32))) (P2 : Fld Z h0 A4 "com/example/pennybreak/pennybreak/simplebook/RestingOrder" "slot" "I" (.int (0 : Int32))) (P3 : Arv Z h0 A1 k5 (.object "com/example/pennybreak/pennybreak/simplebook/RestingOrder") (4 : Int32) [(.ref A4), .null, .null, .null] .null) (P4 : A0 ≠ A1) (P5 : A0 ≠ A2) (P6 : A0 ≠ A3) (P7 : A0 ≠ A4) (P8 : A2 ≠ A1) (P9 : A2 ≠ A3) (P10 : A3 ≠ A1) (P11 : A4 ≠ A1) (P12 : A4 ≠ A2) (P13 : A4 ≠ A3) :
    Ct l mn_5 prog_98_method_3_code 2 (some .boolean) ({ frames := 0, cells := 0, slots := 0, locals := 0 } : Room) Z h0 #[(.ref A0), (.ref A4)] (fun v h L => v = some (.int (1 : Int32)) ∧ L = [] ∧ h = h0) := by
  refine Ct.body (plainFor_of_name pn_com_example_pennybreak_pennybreak_simplebook_OrderQueue) ?_
  intro p e s m below meth c T0 hx hby hml hown hnm hret hlk hZ X0 e0
  refine Go.cast (ef_holds_51 m A0 A4) ?_
  show Go p e below _ T0 (mkF m 0 #[.val (.ref A0), .val (.ref A4)] [])
  refine Go.s_aloadN X0 hx (hb hby d5_0) (q := 1) rfl rfl rfl ?_
  refine Go.getF X0 hx hZ hown (w_ hw 45 rfl) Via.refl e0 P2 (hb hby d5_1) ?_
  intro T1 X1 e1
  show Go p e below _ T1 (mkF m 4 #[.val (.ref A0), .val (.ref A4)] [(.int (0 : Int32))])
  refine Go.s_aloadN X1 hx (hb hby d5_4) (q := 5) rfl rfl rfl ?_
  refine Go.getF X1 hx hZ hown (w_ hw 47 rfl) Via.refl e1 P1 (hb hby d5_5) ?_
  intro T2 X2 e2
  show Go p e below _ T2 (mkF m 8 #[.val (.ref A0), .val (.ref A4)] [(.int (2 : Int32)), (.int (0 : Int32))])
  refine Go.s_icmpNo X2 hx (hb hby d5_8) (q := 11) rfl (tlt (by decide : (0 : Int32) < (2 : Int32))).2.1 ?_
  refine Go.s_aloadN X2 hx (hb hby d5_11) (q := 12) rfl rfl rfl ?_
  refine Go.getF X2 hx hZ hown (w_ hw 17 rfl) Via.refl e2 P0 (hb hby d5_12) ?_
  intro T3 X3 e3
  show Go p e below _ T3 (mkF m 15 #[.val (.ref A0), .val (.ref A4)] [(.ref A1)])
  refine Go.s_aloadN X3 hx (hb hby d5_15) (q := 16) rfl rfl rfl ?_
  refine Go.getF X3 hx hZ hown (w_ hw 45 rfl) Via.refl e3 P2 (hb hby d5_16) ?_
  intro T4 X4 e4
  show Go p e below _ T4 (mkF m 19 #[.val (.ref A0), .val (.ref A4)] [(.int (0 : Int32)), (.ref A1)])
  refine Go.ldR X4 hx hZ e4 P3 ⟨by decide, by decide⟩ (w := (.ref A4)) rfl (hb hby d5_19) ?_
  show Go p e below _ T4 (mkF m 20 #[.val (.ref A0), .val (.ref A4)] [(.ref A4)])
  refine Go.s_aloadN X4 hx (hb hby d5_20) (q := 21) rfl rfl rfl ?_
  refine Go.s_acmp X4 hx (q := 24) (hb hby d5_21) rfl rfl (same := true) (decide_eq_true rfl) (by decide) (by decide) ?_
  refine Go.s_iconst X4 hx (hb hby d5_24) (q := 25) rfl (z := 1) rfl ?_
  refine Go.s_goto X4 hx (hb hby d5_25) (q := 29) (by decide) (by decide) ?_
  refine Go.retN X4 hx hlk hret (by simp) (hb hby d5_29) (by decide) (by decide) ?_
  try rw [e4]
  exact ⟨(by decide), rfl, rfl⟩
theorem ef_holds_52 (m : MethodId) (x0 : Addr) (x1 : Addr) : entryFrame m #[(.ref x0), (.ref x1)] 2 = mkF m 0 #[.val (.ref x0), .val (.ref x1)] [] := by first | (simp [entryFrame, mkF, argsToLocals, Value.category]; done) | rfl
set_option maxRecDepth 65536 in
set_option maxHeartbeats 40000000 in
theorem rm_holds_52 (l : Launch) (Z : State) (a0 : Array Value) (hw : ∀ d ∈ tables_1, d.before a0 Z = true)  (A0 : Addr) (A1 : Addr) (A2 : Addr) (A3 : Addr) (A4 : Addr) (A5 : Addr) (k6 : ClassId) (h0 : Heap) (n0 : Nat) (Z0 : n0 ≤ h0.size) (P0 : Fld Z h0 A0 "com/example/pennybreak/pennybreak/simplebook/OrderQueue" "slots" "[Lcom/example/pennybreak/pennybreak/simplebook/RestingOrder;" (.ref A1)) (P1 : Fld Z h0 A0 "com/example/pennybreak/pennybreak/simplebook/OrderQueue" "used" "I" (.int (2 : Int32))) (P2 : Fld Z h0 A4 "com/example/pennybreak/pennybreak/simplebook/RestingOrder" "slot" "I" (.int (1 : Int32))) (P3 : Fld Z h0 A5 "com/example/pennybreak/pennybreak/simplebook/RestingOrder" "slot" "I" (.int (0 : Int32))) (P4 : Arv Z h0 A1 k6 (.object "com/example/pennybreak/pennybreak/simplebook/RestingOrder") (4 : Int32) [(.ref A5), .null, .null, .null] .null) (P5 : A0 ≠ A1) (P6 : A0 ≠ A2) (P7 : A0 ≠ A3) (P8 : A0 ≠ A4) (P9 : A0 ≠ A5) (P10 : A2 ≠ A1) (P11 : A2 ≠ A3) (P12 : A3 ≠ A1) (P13 : A4 ≠ A1) (P14 : A4 ≠ A2) (P15 : A4 ≠ A3) (P16 : A5 ≠ A1) (P17 : A5 ≠ A2) (P18 : A5 ≠ A3) (P19 : A5 ≠ A4) :
    Ct l mn_5 prog_98_method_3_code 2 (some .boolean) ({ frames := 0, cells := 0, slots := 0, locals := 0 } : Room) Z h0 #[(.ref A0), (.ref A4)] (fun v h L => v = some (.int (0 : Int32)) ∧ L = [] ∧ h = h0) := by
  refine Ct.body (plainFor_of_name pn_com_example_pennybreak_pennybreak_simplebook_OrderQueue) ?_
  intro p e s m below meth c T0 hx hby hml hown hnm hret hlk hZ X0 e0
  refine Go.cast (ef_holds_52 m A0 A4) ?_
  show Go p e below _ T0 (mkF m 0 #[.val (.ref A0), .val (.ref A4)] [])
  refine Go.s_aloadN X0 hx (hb hby d5_0) (q := 1) rfl rfl rfl ?_
  refine Go.getF X0 hx hZ hown (w_ hw 45 rfl) Via.refl e0 P2 (hb hby d5_1) ?_
  intro T1 X1 e1
  show Go p e below _ T1 (mkF m 4 #[.val (.ref A0), .val (.ref A4)] [(.int (1 : Int32))])
  refine Go.s_aloadN X1 hx (hb hby d5_4) (q := 5) rfl rfl rfl ?_
  refine Go.getF X1 hx hZ hown (w_ hw 47 rfl) Via.refl e1 P1 (hb hby d5_5) ?_
  intro T2 X2 e2
  show Go p e below _ T2 (mkF m 8 #[.val (.ref A0), .val (.ref A4)] [(.int (2 : Int32)), (.int (1 : Int32))])
  refine Go.s_icmpNo X2 hx (hb hby d5_8) (q := 11) rfl (tlt (by decide : (1 : Int32) < (2 : Int32))).2.1 ?_
  refine Go.s_aloadN X2 hx (hb hby d5_11) (q := 12) rfl rfl rfl ?_
  refine Go.getF X2 hx hZ hown (w_ hw 17 rfl) Via.refl e2 P0 (hb hby d5_12) ?_
  intro T3 X3 e3
  show Go p e below _ T3 (mkF m 15 #[.val (.ref A0), .val (.ref A4)] [(.ref A1)])
  refine Go.s_aloadN X3 hx (hb hby d5_15) (q := 16) rfl rfl rfl ?_
  refine Go.getF X3 hx hZ hown (w_ hw 45 rfl) Via.refl e3 P2 (hb hby d5_16) ?_
  intro T4 X4 e4
  show Go p e below _ T4 (mkF m 19 #[.val (.ref A0), .val (.ref A4)] [(.int (1 : Int32)), (.ref A1)])
  refine Go.ldR X4 hx hZ e4 P4 ⟨by decide, by decide⟩ (w := .null) rfl (hb hby d5_19) ?_
  show Go p e below _ T4 (mkF m 20 #[.val (.ref A0), .val (.ref A4)] [.null])
  refine Go.s_aloadN X4 hx (hb hby d5_20) (q := 21) rfl rfl rfl ?_
  refine Go.s_acmp X4 hx (q := 28) (hb hby d5_21) rfl rfl (same := false) (decide_eq_false nofun) (by decide) (by decide) ?_
  refine Go.s_iconst X4 hx (hb hby d5_28) (q := 29) rfl (z := 0) rfl ?_
  refine Go.retN X4 hx hlk hret (by simp) (hb hby d5_29) (by decide) (by decide) ?_
  try rw [e4]
  exact ⟨(by decide), rfl, rfl⟩
theorem ef_holds_53 (m : MethodId) (x0 : Addr) (x1 : Addr) : entryFrame m #[(.ref x0), (.ref x1)] 2 = mkF m 0 #[.val (.ref x0), .val (.ref x1)] [] := by first | (simp [entryFrame, mkF, argsToLocals, Value.category]; done) | rfl
set_option maxRecDepth 65536 in
set_option maxHeartbeats 40000000 in
theorem rm_holds_53 (l : Launch) (Z : State) (a0 : Array Value) (hw : ∀ d ∈ tables_1, d.before a0 Z = true)  (A0 : Addr) (A1 : Addr) (A2 : Addr) (A3 : Addr) (A4 : Addr) (A5 : Addr) (k6 : ClassId) (h0 : Heap) (n0 : Nat) (Z0 : n0 ≤ h0.size) (P0 : Fld Z h0 A0 "com/example/pennybreak/pennybreak/simplebook/OrderQueue" "slots" "[Lcom/example/pennybreak/pennybreak/simplebook/RestingOrder;" (.ref A1)) (P1 : Fld Z h0 A0 "com/example/pennybreak/pennybreak/simplebook/OrderQueue" "used" "I" (.int (2 : Int32))) (P2 : Fld Z h0 A4 "com/example/pennybreak/pennybreak/simplebook/RestingOrder" "slot" "I" (.int (0 : Int32))) (P3 : Fld Z h0 A5 "com/example/pennybreak/pennybreak/simplebook/RestingOrder" "slot" "I" (.int (0 : Int32))) (P4 : Arv Z h0 A1 k6 (.object "com/example/pennybreak/pennybreak/simplebook/RestingOrder") (4 : Int32) [(.ref A5), .null, .null, .null] .null) (P5 : A0 ≠ A1) (P6 : A0 ≠ A2) (P7 : A0 ≠ A3) (P8 : A0 ≠ A5) (P9 : A0 ≠ A4) (P10 : A2 ≠ A1) (P11 : A2 ≠ A3) (P12 : A3 ≠ A1) (P13 : A4 ≠ A1) (P14 : A4 ≠ A2) (P15 : A4 ≠ A3) (P16 : A5 ≠ A1) (P17 : A5 ≠ A2) (P18 : A5 ≠ A3) (P19 : A5 ≠ A4) :
    Ct l mn_5 prog_98_method_3_code 2 (some .boolean) ({ frames := 0, cells := 0, slots := 0, locals := 0 } : Room) Z h0 #[(.ref A0), (.ref A4)] (fun v h L => v = some (.int (0 : Int32)) ∧ L = [] ∧ h = h0) := by
  refine Ct.body (plainFor_of_name pn_com_example_pennybreak_pennybreak_simplebook_OrderQueue) ?_
  intro p e s m below meth c T0 hx hby hml hown hnm hret hlk hZ X0 e0
  refine Go.cast (ef_holds_53 m A0 A4) ?_
  show Go p e below _ T0 (mkF m 0 #[.val (.ref A0), .val (.ref A4)] [])
  refine Go.s_aloadN X0 hx (hb hby d5_0) (q := 1) rfl rfl rfl ?_
  refine Go.getF X0 hx hZ hown (w_ hw 45 rfl) Via.refl e0 P2 (hb hby d5_1) ?_
  intro T1 X1 e1
  show Go p e below _ T1 (mkF m 4 #[.val (.ref A0), .val (.ref A4)] [(.int (0 : Int32))])
  refine Go.s_aloadN X1 hx (hb hby d5_4) (q := 5) rfl rfl rfl ?_
  refine Go.getF X1 hx hZ hown (w_ hw 47 rfl) Via.refl e1 P1 (hb hby d5_5) ?_
  intro T2 X2 e2
  show Go p e below _ T2 (mkF m 8 #[.val (.ref A0), .val (.ref A4)] [(.int (2 : Int32)), (.int (0 : Int32))])
  refine Go.s_icmpNo X2 hx (hb hby d5_8) (q := 11) rfl (tlt (by decide : (0 : Int32) < (2 : Int32))).2.1 ?_
  refine Go.s_aloadN X2 hx (hb hby d5_11) (q := 12) rfl rfl rfl ?_
  refine Go.getF X2 hx hZ hown (w_ hw 17 rfl) Via.refl e2 P0 (hb hby d5_12) ?_
  intro T3 X3 e3
  show Go p e below _ T3 (mkF m 15 #[.val (.ref A0), .val (.ref A4)] [(.ref A1)])
  refine Go.s_aloadN X3 hx (hb hby d5_15) (q := 16) rfl rfl rfl ?_
  refine Go.getF X3 hx hZ hown (w_ hw 45 rfl) Via.refl e3 P2 (hb hby d5_16) ?_
  intro T4 X4 e4
  show Go p e below _ T4 (mkF m 19 #[.val (.ref A0), .val (.ref A4)] [(.int (0 : Int32)), (.ref A1)])
  refine Go.ldR X4 hx hZ e4 P4 ⟨by decide, by decide⟩ (w := (.ref A5)) rfl (hb hby d5_19) ?_
  show Go p e below _ T4 (mkF m 20 #[.val (.ref A0), .val (.ref A4)] [(.ref A5)])
  refine Go.s_aloadN X4 hx (hb hby d5_20) (q := 21) rfl rfl rfl ?_
  refine Go.s_acmp X4 hx (q := 28) (hb hby d5_21) rfl rfl (same := false) (decide_eq_false fun q => P19 (Value.ref.inj q)) (by decide) (by decide) ?_
  refine Go.s_iconst X4 hx (hb hby d5_28) (q := 29) rfl (z := 0) rfl ?_
  refine Go.retN X4 hx hlk hret (by simp) (hb hby d5_29) (by decide) (by decide) ?_
  try rw [e4]
  exact ⟨(by decide), rfl, rfl⟩
theorem ef_take_54 (m : MethodId) (x0 : Addr) (x1 : Addr) (x2 : Int32) : entryFrame m #[(.ref x0), (.ref x1), (.int x2)] 3 = mkF m 0 #[.val (.ref x0), .val (.ref x1), .val (.int x2)] [] := by first | (simp [entryFrame, mkF, argsToLocals, Value.category]; done) | rfl
set_option maxRecDepth 65536 in
set_option maxHeartbeats 40000000 in
theorem rm_take_54 (l : Launch) (Z : State) (a0 : Array Value) (hw : ∀ d ∈ tables_1, d.before a0 Z = true)  (A0 : Addr) (A1 : Addr) (A2 : Addr) (A3 : Addr) (A4 : Addr) (J5 : Int64) (I6 : Int32) (k7 : ClassId) (A8 : Addr) (I9 : Int32) (h0 : Heap) (n0 : Nat) (Z0 : n0 ≤ h0.size) (P0 : Exa Z h0 A0 "com/example/pennybreak/pennybreak/simplebook/OrderQueue") (P1 : Exa Z h0 A4 "com/example/pennybreak/pennybreak/simplebook/RestingOrder") (P2 : Fld Z h0 A0 "com/example/pennybreak/pennybreak/simplebook/OrderQueue" "blocks" "I" (.int (1 : Int32))) (P3 : Fld Z h0 A0 "com/example/pennybreak/pennybreak/simplebook/OrderQueue" "count" "I" (.int (2 : Int32))) (P4 : Fld Z h0 A0 "com/example/pennybreak/pennybreak/simplebook/OrderQueue" "front" "I" (.int (0 : Int32))) (P5 : Fld Z h0 A0 "com/example/pennybreak/pennybreak/simplebook/OrderQueue" "largest" "[I" (.ref A3)) (P6 : Fld Z h0 A0 "com/example/pennybreak/pennybreak/simplebook/OrderQueue" "open" "J" (.long J5)) (P7 : Fld Z h0 A0 "com/example/pennybreak/pennybreak/simplebook/OrderQueue" "sizes" "[I" (.ref A2)) (P8 : Fld Z h0 A0 "com/example/pennybreak/pennybreak/simplebook/OrderQueue" "slots" "[Lcom/example/pennybreak/pennybreak/simplebook/RestingOrder;" (.ref A1)) (P9 : Fld Z h0 A0 "com/example/pennybreak/pennybreak/simplebook/OrderQueue" "used" "I" (.int (2 : Int32))) (P10 : Fld Z h0 A4 "com/example/pennybreak/pennybreak/simplebook/RestingOrder" "openSize" "I" (.int I6)) (P11 : Fld Z h0 A4 "com/example/pennybreak/pennybreak/simplebook/RestingOrder" "slot" "I" (.int (1 : Int32))) (P12 : Arv Z h0 A1 k7 (.object "com/example/pennybreak/pennybreak/simplebook/RestingOrder") (4 : Int32) [(.ref A8), (.ref A4), .null, .null] .null) (P13 : UA Z h0 A2 4) (P14 : UA Z h0 A3 2) (P15 : Ovr Z k7 "com/example/pennybreak/pennybreak/simplebook/RestingOrder") (P16 : A0 ≠ A1) (P17 : A0 ≠ A2) (P18 : A0 ≠ A3) (P19 : A0 ≠ A4) (P20 : A2 ≠ A1) (P21 : A2 ≠ A3) (P22 : A3 ≠ A1) (P23 : A4 ≠ A1) (P24 : A4 ≠ A2) (P25 : A4 ≠ A3) (P26 : n0 ≤ A0) (P27 : n0 ≤ A1) (P28 : n0 ≤ A2) (P29 : n0 ≤ A3) (P30 : n0 ≤ A4) (C0 : ¬ ((I6 - I9) = (0 : Int32))) :
    Ct l mn_10 prog_98_method_4_code 3 none ({ frames := 3, cells := 0, slots := 0, locals := 60 } : Room) Z h0 #[(.ref A0), (.ref A4), (.int I9)] (fun v h L => ∃ w0 : Int64, ∃ w1 : Int32, v = none ∧ Fr n0 L ∧ Keep h0 h [A0, A2, A3, A4] ∧ Exa Z h A0 "com/example/pennybreak/pennybreak/simplebook/OrderQueue" ∧ Exa Z h A4 "com/example/pennybreak/pennybreak/simplebook/RestingOrder" ∧ Fld Z h A0 "com/example/pennybreak/pennybreak/simplebook/OrderQueue" "blocks" "I" (.int (1 : Int32)) ∧ Fld Z h A0 "com/example/pennybreak/pennybreak/simplebook/OrderQueue" "count" "I" (.int (2 : Int32)) ∧ Fld Z h A0 "com/example/pennybreak/pennybreak/simplebook/OrderQueue" "front" "I" (.int (0 : Int32)) ∧ Fld Z h A0 "com/example/pennybreak/pennybreak/simplebook/OrderQueue" "largest" "[I" (.ref A3) ∧ Fld Z h A0 "com/example/pennybreak/pennybreak/simplebook/OrderQueue" "open" "J" (.long w0) ∧ Fld Z h A0 "com/example/pennybreak/pennybreak/simplebook/OrderQueue" "sizes" "[I" (.ref A2) ∧ Fld Z h A0 "com/example/pennybreak/pennybreak/simplebook/OrderQueue" "slots" "[Lcom/example/pennybreak/pennybreak/simplebook/RestingOrder;" (.ref A1) ∧ Fld Z h A0 "com/example/pennybreak/pennybreak/simplebook/OrderQueue" "used" "I" (.int (2 : Int32)) ∧ Fld Z h A4 "com/example/pennybreak/pennybreak/simplebook/RestingOrder" "openSize" "I" (.int w1) ∧ Fld Z h A4 "com/example/pennybreak/pennybreak/simplebook/RestingOrder" "slot" "I" (.int (1 : Int32)) ∧ UA Z h A2 4 ∧ UA Z h A3 2) := by
  refine Ct.body (plainFor_of_name pn_com_example_pennybreak_pennybreak_simplebook_OrderQueue) ?_
  intro p e s m below meth c T0 hx hby hml hown hnm hret hlk hZ X0 e0
  refine Go.cast (ef_take_54 m A0 A4 I9) ?_
  show Go p e below _ T0 (mkF m 0 #[.val (.ref A0), .val (.ref A4), .val (.int I9)] [])
  refine Go.s_aloadN X0 hx (hb hby d10_0) (q := 1) rfl rfl rfl ?_
  refine Go.s_dup X0 hx (hb hby d10_1) (q := 2) rfl rfl ?_
  refine Go.getF X0 hx hZ hown (w_ hw 69 rfl) Via.refl e0 P10 (hb hby d10_2) ?_
  intro T1 X1 e1
  show Go p e below _ T1 (mkF m 5 #[.val (.ref A0), .val (.ref A4), .val (.int I9)] [(.int I6), (.ref A4)])
  refine Go.s_iloadN X1 hx (hb hby d10_5) (q := 6) rfl rfl ?_
  refine Go.s_isub X1 hx (hb hby d10_6) (q := 7) rfl ?_
  refine Go.putF X1 hx hZ hown (w_ hw 69 rfl) Via.refl e1 P10 P1 (Or.inl (w_ hw 38 rfl)) (w_ hw 27 rfl) (ty := .int) (by decide) rfl rfl (hb hby d10_7) ?_
  intro T2 h2 X2 e2 W2
  have N2 := Fr.snoc X2 (Fr.nil n0) P30
  have Z0_v3 := Nat.le_trans Z0 (Keep.of_wr W2).1
  have fact_K_v4 := (Keep.refl h0 [A0, A2, A3, A4]).wr W2 (Or.inl (by simp))
  have P0_v5 := P0.wr W2
  have P1_v6 := P1.wr W2
  have P2_v7 := P2.other W2 (Or.inl P19)
  have P3_v8 := P3.other W2 (Or.inl P19)
  have P4_v9 := P4.other W2 (Or.inl P19)
  have P5_v10 := P5.other W2 (Or.inl P19)
  have P6_v11 := P6.other W2 (Or.inl P19)
  have P7_v12 := P7.other W2 (Or.inl P19)
  have P8_v13 := P8.other W2 (Or.inl P19)
  have P9_v14 := P9.other W2 (Or.inl P19)
  have P11_v15 := P11.other W2 (Or.inr (slot_ne (Or.inl (w_ hw 46 rfl)) (Or.inl (w_ hw 38 rfl)) (by decide) (t := .int) (t' := .int) (by decide) (by decide)))
  have P12_v16 := P12.other W2 (Ne.symm P23)
  have P13_v17 := P13.other W2 (Ne.symm P24)
  have P14_v18 := P14.other W2 (Ne.symm P25)
  have F_openSize_A4_v19 := P10.same W2
  show Go p e below _ T2 (mkF m 10 #[.val (.ref A0), .val (.ref A4), .val (.int I9)] [])
  refine Go.s_aloadN X2 hx (hb hby d10_10) (q := 11) rfl rfl rfl ?_
  refine Go.s_dup X2 hx (hb hby d10_11) (q := 12) rfl rfl ?_
  refine Go.getF X2 hx hZ hown (w_ hw 67 rfl) Via.refl e2 P6_v11 (hb hby d10_12) ?_
  intro T20 X20 e20
  show Go p e below _ T20 (mkF m 15 #[.val (.ref A0), .val (.ref A4), .val (.int I9)] [(.long J5), (.ref A0)])
  refine Go.s_iloadN X20 hx (hb hby d10_15) (q := 16) rfl rfl ?_
  refine Go.s_i2l X20 hx (hb hby d10_16) (q := 17) rfl ?_
  refine Go.s_lsub X20 hx (hb hby d10_17) (q := 18) rfl ?_
  refine Go.putF X20 hx hZ hown (w_ hw 67 rfl) Via.refl e20 P6_v11 P0_v5 (Or.inl (w_ hw 68 rfl)) (w_ hw 7 rfl) (ty := .long) (by decide) rfl rfl (hb hby d10_18) ?_
  intro T21 h21 X21 e21 W21
  have N21 := Fr.snoc X21 N2 P26
  have Z0_v22 := Nat.le_trans Z0_v3 (Keep.of_wr W21).1
  have fact_K_v23 := fact_K_v4.wr W21 (Or.inl (by simp))
  have P0_v24 := P0_v5.wr W21
  have P1_v25 := P1_v6.wr W21
  have P2_v26 := P2_v7.other W21 (Or.inr (slot_ne (Or.inl (w_ hw 23 rfl)) (Or.inl (w_ hw 68 rfl)) (by decide) (t := .int) (t' := .long) (by decide) (by decide)))
  have P3_v27 := P3_v8.other W21 (Or.inr (slot_ne (Or.inl (w_ hw 59 rfl)) (Or.inl (w_ hw 68 rfl)) (by decide) (t := .int) (t' := .long) (by decide) (by decide)))
  have P4_v28 := P4_v9.other W21 (Or.inr (slot_ne (Or.inl (w_ hw 65 rfl)) (Or.inl (w_ hw 68 rfl)) (by decide) (t := .int) (t' := .long) (by decide) (by decide)))
  have P5_v29 := P5_v10.other W21 (Or.inr (slot_ne (Or.inl (w_ hw 25 rfl)) (Or.inl (w_ hw 68 rfl)) (by decide) (t := (.array .int)) (t' := .long) (by decide) (by decide)))
  have P7_v30 := P7_v12.other W21 (Or.inr (slot_ne (Or.inl (w_ hw 21 rfl)) (Or.inl (w_ hw 68 rfl)) (by decide) (t := (.array .int)) (t' := .long) (by decide) (by decide)))
  have P8_v31 := P8_v13.other W21 (Or.inr (slot_ne (Or.inl (w_ hw 18 rfl)) (Or.inl (w_ hw 68 rfl)) (by decide) (t := (.array (.object "com/example/pennybreak/pennybreak/simplebook/RestingOrder"))) (t' := .long) (by decide) (by decide)))
  have P9_v32 := P9_v14.other W21 (Or.inr (slot_ne (Or.inl (w_ hw 48 rfl)) (Or.inl (w_ hw 68 rfl)) (by decide) (t := .int) (t' := .long) (by decide) (by decide)))
  have P11_v33 := P11_v15.other W21 (Or.inl (Ne.symm P19))
  have P12_v34 := P12_v16.other W21 (Ne.symm P16)
  have P13_v35 := P13_v17.other W21 (Ne.symm P17)
  have P14_v36 := P14_v18.other W21 (Ne.symm P18)
  have F_openSize_A4_v37 := F_openSize_A4_v19.other W21 (Or.inl (Ne.symm P19))
  have F_open_A0_v38 := P6_v11.same W21
  show Go p e below _ T21 (mkF m 21 #[.val (.ref A0), .val (.ref A4), .val (.int I9)] [])
  refine Go.s_aloadN X21 hx (hb hby d10_21) (q := 22) rfl rfl rfl ?_
  refine Go.s_aloadN X21 hx (hb hby d10_22) (q := 23) rfl rfl rfl ?_
  refine Go.getF X21 hx hZ hown (w_ hw 45 rfl) Via.refl e21 P11_v33 (hb hby d10_23) ?_
  intro T39 X39 e39
  show Go p e below _ T39 (mkF m 26 #[.val (.ref A0), .val (.ref A4), .val (.int I9)] [(.int (1 : Int32)), (.ref A0)])
  refine Go.s_aloadN X39 hx (hb hby d10_26) (q := 27) rfl rfl rfl ?_
  refine Go.getF X39 hx hZ hown (w_ hw 69 rfl) Via.refl e39 F_openSize_A4_v37 (hb hby d10_27) ?_
  intro T40 X40 e40
  show Go p e below _ T40 (mkF m 30 #[.val (.ref A0), .val (.ref A4), .val (.int I9)] [(.int (I6 - I9)), (.int (1 : Int32)), (.ref A0)])
  refine Go.callP (y := mn_9) X40 hx hZ hown (w_ hw 70 rfl) (w_ hw 71 rfl) (w_ hw 72 rfl) (w_ hw 7 rfl) (w_ hw 73 rfl) (w_ hw 8 rfl) (by decide) e40 P0_v24 (argsL := [(.int (1 : Int32)), (.int (I6 - I9))]) (rest := []) (rm_set_24 l Z a0 hw A0 A2 A3 (I6 - I9) h21 n0 Z0_v22 P0_v24 P2_v26 P5_v29 P7_v30 P9_v32 P13_v35 P14_v36 P17 P18 P21 P26 P28 P29) (by rw [hml]; rfl) (lenOf pd_3 rfl) rfl (hb hby d10_30) (by decide) (by decide) (by decide) (by decide) ?_
  intro r41 T41 L41 q41 X41
  obtain ⟨rfl, N41q, K41, f41_0, f41_1⟩ := q41
  have N41 := Fr.app N21 N41q
  have Z0_v42 := Nat.le_trans Z0_v22 K41.1
  have fact_K_v43 := Keep.trans fact_K_v23 K41 (allS (Or.inl (by simp)) (allS (Or.inl (by simp)) all0))
  have P0_v44 := P0_v24.keep K41
  have P1_v45 := P1_v25.keep K41
  have P2_v46 := P2_v26.keep K41 (ninS P17 (ninS P18 nin0))
  have P3_v47 := P3_v27.keep K41 (ninS P17 (ninS P18 nin0))
  have P4_v48 := P4_v28.keep K41 (ninS P17 (ninS P18 nin0))
  have P5_v49 := P5_v29.keep K41 (ninS P17 (ninS P18 nin0))
  have P7_v50 := P7_v30.keep K41 (ninS P17 (ninS P18 nin0))
  have P8_v51 := P8_v31.keep K41 (ninS P17 (ninS P18 nin0))
  have P9_v52 := P9_v32.keep K41 (ninS P17 (ninS P18 nin0))
  have P11_v53 := P11_v33.keep K41 (ninS P24 (ninS P25 nin0))
  have P12_v54 := P12_v34.keep K41 (ninS (Ne.symm P20) (ninS (Ne.symm P22) nin0))
  have F_openSize_A4_v55 := F_openSize_A4_v37.keep K41 (ninS P24 (ninS P25 nin0))
  have F_open_A0_v56 := F_open_A0_v38.keep K41 (ninS P17 (ninS P18 nin0))
  show Go p e below _ T41 (mkF m 33 #[.val (.ref A0), .val (.ref A4), .val (.int I9)] [])
  refine Go.s_aloadN X41 hx (hb hby d10_33) (q := 34) rfl rfl rfl ?_
  refine Go.getF X41 hx hZ hown (w_ hw 69 rfl) Via.refl rfl F_openSize_A4_v55 (hb hby d10_34) ?_
  intro T57 X57 e57
  show Go p e below _ T57 (mkF m 37 #[.val (.ref A0), .val (.ref A4), .val (.int I9)] [(.int (I6 - I9))])
  refine Go.s_ifYes X57 hx (hb hby d10_37) (q := 115) (by decide) (by decide) ((if0 _ _).trans (feq C0).2) ?_
  refine Go.retV X57 hx hlk hret (hb hby d10_115) (by decide) (by decide) ?_
  try rw [e57]
  exact ⟨(J5 - (I9.toInt64)), (I6 - I9), rfl, N41, fact_K_v43, P0_v44, P1_v45, P2_v46, P3_v47, P4_v48, P5_v49, F_open_A0_v56, P7_v50, P8_v51, P9_v52, F_openSize_A4_v55, P11_v53, f41_0, f41_1⟩
theorem ef_add_55 (m : MethodId) (x0 : Addr) (x1 : Addr) : entryFrame m #[(.ref x0), (.ref x1)] 2 = mkF m 0 #[.val (.ref x0), .val (.ref x1)] [] := by first | (simp [entryFrame, mkF, argsToLocals, Value.category]; done) | rfl
set_option maxRecDepth 65536 in
set_option maxHeartbeats 40000000 in
theorem rm_add_55 (l : Launch) (Z : State) (a0 : Array Value) (hw : ∀ d ∈ tables_1, d.before a0 Z = true)  (A0 : Addr) (A1 : Addr) (A2 : Addr) (A3 : Addr) (A4 : Addr) (J5 : Int64) (I6 : Int32) (k7 : ClassId) (A8 : Addr) (h0 : Heap) (n0 : Nat) (Z0 : n0 ≤ h0.size) (P0 : Exa Z h0 A0 "com/example/pennybreak/pennybreak/simplebook/OrderQueue") (P1 : Exa Z h0 A4 "com/example/pennybreak/pennybreak/simplebook/RestingOrder") (P2 : Fld Z h0 A0 "com/example/pennybreak/pennybreak/simplebook/OrderQueue" "blocks" "I" (.int (1 : Int32))) (P3 : Fld Z h0 A0 "com/example/pennybreak/pennybreak/simplebook/OrderQueue" "count" "I" (.int (1 : Int32))) (P4 : Fld Z h0 A0 "com/example/pennybreak/pennybreak/simplebook/OrderQueue" "front" "I" (.int (0 : Int32))) (P5 : Fld Z h0 A0 "com/example/pennybreak/pennybreak/simplebook/OrderQueue" "largest" "[I" (.ref A3)) (P6 : Fld Z h0 A0 "com/example/pennybreak/pennybreak/simplebook/OrderQueue" "open" "J" (.long J5)) (P7 : Fld Z h0 A0 "com/example/pennybreak/pennybreak/simplebook/OrderQueue" "sizes" "[I" (.ref A2)) (P8 : Fld Z h0 A0 "com/example/pennybreak/pennybreak/simplebook/OrderQueue" "slots" "[Lcom/example/pennybreak/pennybreak/simplebook/RestingOrder;" (.ref A1)) (P9 : Fld Z h0 A0 "com/example/pennybreak/pennybreak/simplebook/OrderQueue" "used" "I" (.int (2 : Int32))) (P10 : Fld Z h0 A4 "com/example/pennybreak/pennybreak/simplebook/RestingOrder" "openSize" "I" (.int I6)) (P11 : Fld Z h0 A4 "com/example/pennybreak/pennybreak/simplebook/RestingOrder" "slot" "I" (.int (0 : Int32))) (P12 : Arv Z h0 A1 k7 (.object "com/example/pennybreak/pennybreak/simplebook/RestingOrder") (4 : Int32) [(.ref A8), .null, .null, .null] .null) (P13 : UA Z h0 A2 4) (P14 : UA Z h0 A3 2) (P15 : Ovr Z k7 "com/example/pennybreak/pennybreak/simplebook/RestingOrder") (P16 : A0 ≠ A1) (P17 : A0 ≠ A2) (P18 : A0 ≠ A3) (P19 : A0 ≠ A4) (P20 : A2 ≠ A1) (P21 : A2 ≠ A3) (P22 : A3 ≠ A1) (P23 : A4 ≠ A1) (P24 : A4 ≠ A2) (P25 : A4 ≠ A3) (P26 : n0 ≤ A0) (P27 : n0 ≤ A1) (P28 : n0 ≤ A2) (P29 : n0 ≤ A3) (P30 : n0 ≤ A4) :
    Ct l mn_6 prog_98_method_2_code 2 none ({ frames := 3, cells := 0, slots := 0, locals := 60 } : Room) Z h0 #[(.ref A0), (.ref A4)] (fun v h L => ∃ w0 : Int64, v = none ∧ Fr n0 L ∧ Keep h0 h [A0, A1, A2, A3, A4] ∧ Exa Z h A0 "com/example/pennybreak/pennybreak/simplebook/OrderQueue" ∧ Exa Z h A4 "com/example/pennybreak/pennybreak/simplebook/RestingOrder" ∧ Fld Z h A0 "com/example/pennybreak/pennybreak/simplebook/OrderQueue" "blocks" "I" (.int (1 : Int32)) ∧ Fld Z h A0 "com/example/pennybreak/pennybreak/simplebook/OrderQueue" "count" "I" (.int (2 : Int32)) ∧ Fld Z h A0 "com/example/pennybreak/pennybreak/simplebook/OrderQueue" "front" "I" (.int (0 : Int32)) ∧ Fld Z h A0 "com/example/pennybreak/pennybreak/simplebook/OrderQueue" "largest" "[I" (.ref A3) ∧ Fld Z h A0 "com/example/pennybreak/pennybreak/simplebook/OrderQueue" "open" "J" (.long w0) ∧ Fld Z h A0 "com/example/pennybreak/pennybreak/simplebook/OrderQueue" "sizes" "[I" (.ref A2) ∧ Fld Z h A0 "com/example/pennybreak/pennybreak/simplebook/OrderQueue" "slots" "[Lcom/example/pennybreak/pennybreak/simplebook/RestingOrder;" (.ref A1) ∧ Fld Z h A0 "com/example/pennybreak/pennybreak/simplebook/OrderQueue" "used" "I" (.int (3 : Int32)) ∧ Fld Z h A4 "com/example/pennybreak/pennybreak/simplebook/RestingOrder" "openSize" "I" (.int I6) ∧ Fld Z h A4 "com/example/pennybreak/pennybreak/simplebook/RestingOrder" "slot" "I" (.int (2 : Int32)) ∧ Arv Z h A1 k7 (.object "com/example/pennybreak/pennybreak/simplebook/RestingOrder") (4 : Int32) [(.ref A8), .null, (.ref A4), .null] .null ∧ UA Z h A2 4 ∧ UA Z h A3 2 ∧ Ovr Z k7 "com/example/pennybreak/pennybreak/simplebook/RestingOrder") := by
  refine Ct.body (plainFor_of_name pn_com_example_pennybreak_pennybreak_simplebook_OrderQueue) ?_
  intro p e s m below meth c T0 hx hby hml hown hnm hret hlk hZ X0 e0
  refine Go.cast (ef_add_55 m A0 A4) ?_
  show Go p e below _ T0 (mkF m 0 #[.val (.ref A0), .val (.ref A4)] [])
  refine Go.s_aloadN X0 hx (hb hby d6_0) (q := 1) rfl rfl rfl ?_
  refine Go.getF X0 hx hZ hown (w_ hw 47 rfl) Via.refl e0 P9 (hb hby d6_1) ?_
  intro T1 X1 e1
  show Go p e below _ T1 (mkF m 4 #[.val (.ref A0), .val (.ref A4)] [(.int (2 : Int32))])
  refine Go.s_aloadN X1 hx (hb hby d6_4) (q := 5) rfl rfl rfl ?_
  refine Go.getF X1 hx hZ hown (w_ hw 17 rfl) Via.refl e1 P8 (hb hby d6_5) ?_
  intro T2 X2 e2
  show Go p e below _ T2 (mkF m 8 #[.val (.ref A0), .val (.ref A4)] [(.ref A1), (.int (2 : Int32))])
  refine Go.len X2 hx hZ e2 P12 (hb hby d6_8) ?_
  show Go p e below _ T2 (mkF m 9 #[.val (.ref A0), .val (.ref A4)] [(.int (4 : Int32)), (.int (2 : Int32))])
  refine Go.s_icmpYes X2 hx (hb hby d6_9) (q := 16) (by decide) (by decide) (feq (by decide : ¬ ((2 : Int32) = (4 : Int32)))).2 ?_
  refine Go.s_aloadN X2 hx (hb hby d6_16) (q := 17) rfl rfl rfl ?_
  refine Go.s_aloadN X2 hx (hb hby d6_17) (q := 18) rfl rfl rfl ?_
  refine Go.s_dup X2 hx (hb hby d6_18) (q := 19) rfl rfl ?_
  refine Go.getF X2 hx hZ hown (w_ hw 47 rfl) Via.refl e2 P9 (hb hby d6_19) ?_
  intro T3 X3 e3
  show Go p e below _ T3 (mkF m 22 #[.val (.ref A0), .val (.ref A4)] [(.int (2 : Int32)), (.ref A0), (.ref A4)])
  refine Go.s_dup_x1 X3 hx (hb hby d6_22) (q := 23) rfl rfl rfl ?_
  refine Go.s_iconst X3 hx (hb hby d6_23) (q := 24) rfl (z := 1) rfl ?_
  refine Go.s_iadd X3 hx (hb hby d6_24) (q := 25) rfl ?_
  rw [(by decide : ((2 : Int32) + (1 : Int32)) = (3 : Int32))]
  refine Go.putF X3 hx hZ hown (w_ hw 47 rfl) Via.refl e3 P9 P0 (Or.inl (w_ hw 48 rfl)) (w_ hw 7 rfl) (ty := .int) (by decide) rfl rfl (hb hby d6_25) ?_
  intro T4 h4 X4 e4 W4
  have N4 := Fr.snoc X4 (Fr.nil n0) P26
  have Z0_v5 := Nat.le_trans Z0 (Keep.of_wr W4).1
  have fact_K_v6 := (Keep.refl h0 [A0, A1, A2, A3, A4]).wr W4 (Or.inl (by simp))
  have P0_v7 := P0.wr W4
  have P1_v8 := P1.wr W4
  have P2_v9 := P2.other W4 (Or.inr (slot_ne (Or.inl (w_ hw 23 rfl)) (Or.inl (w_ hw 48 rfl)) (by decide) (t := .int) (t' := .int) (by decide) (by decide)))
  have P3_v10 := P3.other W4 (Or.inr (slot_ne (Or.inl (w_ hw 59 rfl)) (Or.inl (w_ hw 48 rfl)) (by decide) (t := .int) (t' := .int) (by decide) (by decide)))
  have P4_v11 := P4.other W4 (Or.inr (slot_ne (Or.inl (w_ hw 65 rfl)) (Or.inl (w_ hw 48 rfl)) (by decide) (t := .int) (t' := .int) (by decide) (by decide)))
  have P5_v12 := P5.other W4 (Or.inr (slot_ne (Or.inl (w_ hw 25 rfl)) (Or.inl (w_ hw 48 rfl)) (by decide) (t := (.array .int)) (t' := .int) (by decide) (by decide)))
  have P6_v13 := P6.other W4 (Or.inr (slot_ne (Or.inl (w_ hw 68 rfl)) (Or.inl (w_ hw 48 rfl)) (by decide) (t := .long) (t' := .int) (by decide) (by decide)))
  have P7_v14 := P7.other W4 (Or.inr (slot_ne (Or.inl (w_ hw 21 rfl)) (Or.inl (w_ hw 48 rfl)) (by decide) (t := (.array .int)) (t' := .int) (by decide) (by decide)))
  have P8_v15 := P8.other W4 (Or.inr (slot_ne (Or.inl (w_ hw 18 rfl)) (Or.inl (w_ hw 48 rfl)) (by decide) (t := (.array (.object "com/example/pennybreak/pennybreak/simplebook/RestingOrder"))) (t' := .int) (by decide) (by decide)))
  have P10_v16 := P10.other W4 (Or.inl (Ne.symm P19))
  have P11_v17 := P11.other W4 (Or.inl (Ne.symm P19))
  have P12_v18 := P12.other W4 (Ne.symm P16)
  have P13_v19 := P13.other W4 (Ne.symm P17)
  have P14_v20 := P14.other W4 (Ne.symm P18)
  have F_used_A0_v21 := P9.same W4
  show Go p e below _ T4 (mkF m 28 #[.val (.ref A0), .val (.ref A4)] [(.int (2 : Int32)), (.ref A4)])
  refine Go.putF X4 hx hZ hown (w_ hw 45 rfl) Via.refl e4 P11_v17 P1_v8 (Or.inl (w_ hw 46 rfl)) (w_ hw 27 rfl) (ty := .int) (by decide) rfl rfl (hb hby d6_28) ?_
  intro T22 h22 X22 e22 W22
  have N22 := Fr.snoc X22 N4 P30
  have Z0_v23 := Nat.le_trans Z0_v5 (Keep.of_wr W22).1
  have fact_K_v24 := fact_K_v6.wr W22 (Or.inl (by simp))
  have P0_v25 := P0_v7.wr W22
  have P1_v26 := P1_v8.wr W22
  have P2_v27 := P2_v9.other W22 (Or.inl P19)
  have P3_v28 := P3_v10.other W22 (Or.inl P19)
  have P4_v29 := P4_v11.other W22 (Or.inl P19)
  have P5_v30 := P5_v12.other W22 (Or.inl P19)
  have P6_v31 := P6_v13.other W22 (Or.inl P19)
  have P7_v32 := P7_v14.other W22 (Or.inl P19)
  have P8_v33 := P8_v15.other W22 (Or.inl P19)
  have P10_v34 := P10_v16.other W22 (Or.inr (slot_ne (Or.inl (w_ hw 38 rfl)) (Or.inl (w_ hw 46 rfl)) (by decide) (t := .int) (t' := .int) (by decide) (by decide)))
  have P12_v35 := P12_v18.other W22 (Ne.symm P23)
  have P13_v36 := P13_v19.other W22 (Ne.symm P24)
  have P14_v37 := P14_v20.other W22 (Ne.symm P25)
  have F_used_A0_v38 := F_used_A0_v21.other W22 (Or.inl P19)
  have F_slot_A4_v39 := P11_v17.same W22
  show Go p e below _ T22 (mkF m 31 #[.val (.ref A0), .val (.ref A4)] [])
  refine Go.s_aloadN X22 hx (hb hby d6_31) (q := 32) rfl rfl rfl ?_
  refine Go.getF X22 hx hZ hown (w_ hw 17 rfl) Via.refl e22 P8_v33 (hb hby d6_32) ?_
  intro T40 X40 e40
  show Go p e below _ T40 (mkF m 35 #[.val (.ref A0), .val (.ref A4)] [(.ref A1)])
  refine Go.s_aloadN X40 hx (hb hby d6_35) (q := 36) rfl rfl rfl ?_
  refine Go.getF X40 hx hZ hown (w_ hw 45 rfl) Via.refl e40 F_slot_A4_v39 (hb hby d6_36) ?_
  intro T41 X41 e41
  show Go p e below _ T41 (mkF m 39 #[.val (.ref A0), .val (.ref A4)] [(.int (2 : Int32)), (.ref A1)])
  refine Go.s_aloadN X41 hx (hb hby d6_39) (q := 40) rfl rfl rfl ?_
  refine Go.stR X41 hx hZ e41 P12_v35 ⟨by decide, by decide⟩ (sto_of P12_v35 P15 (Ins.self P1_v26)) rfl 2 rfl (by first | decide | exact Nat.le_of_ble_eq_true rfl) (hb hby d6_40) ?_
  intro T42 h42 X42 e42 W42 V42
  have N42 := Fr.snoc X42 N22 P27
  have Z0_v43 := Nat.le_trans Z0_v23 (Keep.of_wr W42).1
  have fact_K_v44 := fact_K_v24.wr W42 (Or.inl (by simp))
  have P0_v45 := P0_v25.wr W42
  have P1_v46 := P1_v26.wr W42
  have P2_v47 := P2_v27.other W42 (Or.inl P16)
  have P3_v48 := P3_v28.other W42 (Or.inl P16)
  have P4_v49 := P4_v29.other W42 (Or.inl P16)
  have P5_v50 := P5_v30.other W42 (Or.inl P16)
  have P6_v51 := P6_v31.other W42 (Or.inl P16)
  have P7_v52 := P7_v32.other W42 (Or.inl P16)
  have P8_v53 := P8_v33.other W42 (Or.inl P16)
  have P10_v54 := P10_v34.other W42 (Or.inl P23)
  have P13_v55 := P13_v36.other W42 P20
  have P14_v56 := P14_v37.other W42 P22
  have F_used_A0_v57 := F_used_A0_v38.other W42 (Or.inl P16)
  have F_slot_A4_v58 := F_slot_A4_v39.other W42 (Or.inl P23)
  have V42_59 : Arv Z h42 A1 k7 (.object "com/example/pennybreak/pennybreak/simplebook/RestingOrder") (4 : Int32) [(.ref A8), .null, (.ref A4), .null] .null := V42
  show Go p e below _ T42 (mkF m 41 #[.val (.ref A0), .val (.ref A4)] [])
  refine Go.s_aloadN X42 hx (hb hby d6_41) (q := 42) rfl rfl rfl ?_
  refine Go.s_dup X42 hx (hb hby d6_42) (q := 43) rfl rfl ?_
  refine Go.getF X42 hx hZ hown (w_ hw 58 rfl) Via.refl e42 P3_v48 (hb hby d6_43) ?_
  intro T60 X60 e60
  show Go p e below _ T60 (mkF m 46 #[.val (.ref A0), .val (.ref A4)] [(.int (1 : Int32)), (.ref A0)])
  refine Go.s_iconst X60 hx (hb hby d6_46) (q := 47) rfl (z := 1) rfl ?_
  refine Go.s_iadd X60 hx (hb hby d6_47) (q := 48) rfl ?_
  rw [(by decide : ((1 : Int32) + (1 : Int32)) = (2 : Int32))]
  refine Go.putF X60 hx hZ hown (w_ hw 58 rfl) Via.refl e60 P3_v48 P0_v45 (Or.inl (w_ hw 59 rfl)) (w_ hw 7 rfl) (ty := .int) (by decide) rfl rfl (hb hby d6_48) ?_
  intro T61 h61 X61 e61 W61
  have N61 := Fr.snoc X61 N42 P26
  have Z0_v62 := Nat.le_trans Z0_v43 (Keep.of_wr W61).1
  have fact_K_v63 := fact_K_v44.wr W61 (Or.inl (by simp))
  have P0_v64 := P0_v45.wr W61
  have P1_v65 := P1_v46.wr W61
  have P2_v66 := P2_v47.other W61 (Or.inr (slot_ne (Or.inl (w_ hw 23 rfl)) (Or.inl (w_ hw 59 rfl)) (by decide) (t := .int) (t' := .int) (by decide) (by decide)))
  have P4_v67 := P4_v49.other W61 (Or.inr (slot_ne (Or.inl (w_ hw 65 rfl)) (Or.inl (w_ hw 59 rfl)) (by decide) (t := .int) (t' := .int) (by decide) (by decide)))
  have P5_v68 := P5_v50.other W61 (Or.inr (slot_ne (Or.inl (w_ hw 25 rfl)) (Or.inl (w_ hw 59 rfl)) (by decide) (t := (.array .int)) (t' := .int) (by decide) (by decide)))
  have P6_v69 := P6_v51.other W61 (Or.inr (slot_ne (Or.inl (w_ hw 68 rfl)) (Or.inl (w_ hw 59 rfl)) (by decide) (t := .long) (t' := .int) (by decide) (by decide)))
  have P7_v70 := P7_v52.other W61 (Or.inr (slot_ne (Or.inl (w_ hw 21 rfl)) (Or.inl (w_ hw 59 rfl)) (by decide) (t := (.array .int)) (t' := .int) (by decide) (by decide)))
  have P8_v71 := P8_v53.other W61 (Or.inr (slot_ne (Or.inl (w_ hw 18 rfl)) (Or.inl (w_ hw 59 rfl)) (by decide) (t := (.array (.object "com/example/pennybreak/pennybreak/simplebook/RestingOrder"))) (t' := .int) (by decide) (by decide)))
  have P10_v72 := P10_v54.other W61 (Or.inl (Ne.symm P19))
  have P13_v73 := P13_v55.other W61 (Ne.symm P17)
  have P14_v74 := P14_v56.other W61 (Ne.symm P18)
  have F_used_A0_v75 := F_used_A0_v57.other W61 (Or.inr (slot_ne (Or.inl (w_ hw 48 rfl)) (Or.inl (w_ hw 59 rfl)) (by decide) (t := .int) (t' := .int) (by decide) (by decide)))
  have F_slot_A4_v76 := F_slot_A4_v58.other W61 (Or.inl (Ne.symm P19))
  have V42_59_v77 := V42_59.other W61 (Ne.symm P16)
  have F_count_A0_v78 := P3_v48.same W61
  show Go p e below _ T61 (mkF m 51 #[.val (.ref A0), .val (.ref A4)] [])
  refine Go.s_aloadN X61 hx (hb hby d6_51) (q := 52) rfl rfl rfl ?_
  refine Go.s_dup X61 hx (hb hby d6_52) (q := 53) rfl rfl ?_
  refine Go.getF X61 hx hZ hown (w_ hw 67 rfl) Via.refl e61 P6_v69 (hb hby d6_53) ?_
  intro T79 X79 e79
  show Go p e below _ T79 (mkF m 56 #[.val (.ref A0), .val (.ref A4)] [(.long J5), (.ref A0)])
  refine Go.s_aloadN X79 hx (hb hby d6_56) (q := 57) rfl rfl rfl ?_
  refine Go.getF X79 hx hZ hown (w_ hw 69 rfl) Via.refl e79 P10_v72 (hb hby d6_57) ?_
  intro T80 X80 e80
  show Go p e below _ T80 (mkF m 60 #[.val (.ref A0), .val (.ref A4)] [(.int I6), (.long J5), (.ref A0)])
  refine Go.s_i2l X80 hx (hb hby d6_60) (q := 61) rfl ?_
  refine Go.s_ladd X80 hx (hb hby d6_61) (q := 62) rfl ?_
  refine Go.putF X80 hx hZ hown (w_ hw 67 rfl) Via.refl e80 P6_v69 P0_v64 (Or.inl (w_ hw 68 rfl)) (w_ hw 7 rfl) (ty := .long) (by decide) rfl rfl (hb hby d6_62) ?_
  intro T81 h81 X81 e81 W81
  have N81 := Fr.snoc X81 N61 P26
  have Z0_v82 := Nat.le_trans Z0_v62 (Keep.of_wr W81).1
  have fact_K_v83 := fact_K_v63.wr W81 (Or.inl (by simp))
  have P0_v84 := P0_v64.wr W81
  have P1_v85 := P1_v65.wr W81
  have P2_v86 := P2_v66.other W81 (Or.inr (slot_ne (Or.inl (w_ hw 23 rfl)) (Or.inl (w_ hw 68 rfl)) (by decide) (t := .int) (t' := .long) (by decide) (by decide)))
  have P4_v87 := P4_v67.other W81 (Or.inr (slot_ne (Or.inl (w_ hw 65 rfl)) (Or.inl (w_ hw 68 rfl)) (by decide) (t := .int) (t' := .long) (by decide) (by decide)))
  have P5_v88 := P5_v68.other W81 (Or.inr (slot_ne (Or.inl (w_ hw 25 rfl)) (Or.inl (w_ hw 68 rfl)) (by decide) (t := (.array .int)) (t' := .long) (by decide) (by decide)))
  have P7_v89 := P7_v70.other W81 (Or.inr (slot_ne (Or.inl (w_ hw 21 rfl)) (Or.inl (w_ hw 68 rfl)) (by decide) (t := (.array .int)) (t' := .long) (by decide) (by decide)))
  have P8_v90 := P8_v71.other W81 (Or.inr (slot_ne (Or.inl (w_ hw 18 rfl)) (Or.inl (w_ hw 68 rfl)) (by decide) (t := (.array (.object "com/example/pennybreak/pennybreak/simplebook/RestingOrder"))) (t' := .long) (by decide) (by decide)))
  have P10_v91 := P10_v72.other W81 (Or.inl (Ne.symm P19))
  have P13_v92 := P13_v73.other W81 (Ne.symm P17)
  have P14_v93 := P14_v74.other W81 (Ne.symm P18)
  have F_used_A0_v94 := F_used_A0_v75.other W81 (Or.inr (slot_ne (Or.inl (w_ hw 48 rfl)) (Or.inl (w_ hw 68 rfl)) (by decide) (t := .int) (t' := .long) (by decide) (by decide)))
  have F_slot_A4_v95 := F_slot_A4_v76.other W81 (Or.inl (Ne.symm P19))
  have V42_59_v96 := V42_59_v77.other W81 (Ne.symm P16)
  have F_count_A0_v97 := F_count_A0_v78.other W81 (Or.inr (slot_ne (Or.inl (w_ hw 59 rfl)) (Or.inl (w_ hw 68 rfl)) (by decide) (t := .int) (t' := .long) (by decide) (by decide)))
  have F_open_A0_v98 := P6_v69.same W81
  show Go p e below _ T81 (mkF m 65 #[.val (.ref A0), .val (.ref A4)] [])
  refine Go.s_aloadN X81 hx (hb hby d6_65) (q := 66) rfl rfl rfl ?_
  refine Go.s_aloadN X81 hx (hb hby d6_66) (q := 67) rfl rfl rfl ?_
  refine Go.getF X81 hx hZ hown (w_ hw 45 rfl) Via.refl e81 F_slot_A4_v95 (hb hby d6_67) ?_
  intro T99 X99 e99
  show Go p e below _ T99 (mkF m 70 #[.val (.ref A0), .val (.ref A4)] [(.int (2 : Int32)), (.ref A0)])
  refine Go.s_aloadN X99 hx (hb hby d6_70) (q := 71) rfl rfl rfl ?_
  refine Go.getF X99 hx hZ hown (w_ hw 69 rfl) Via.refl e99 P10_v91 (hb hby d6_71) ?_
  intro T100 X100 e100
  show Go p e below _ T100 (mkF m 74 #[.val (.ref A0), .val (.ref A4)] [(.int I6), (.int (2 : Int32)), (.ref A0)])
  refine Go.callP (y := mn_9) X100 hx hZ hown (w_ hw 70 rfl) (w_ hw 71 rfl) (w_ hw 72 rfl) (w_ hw 7 rfl) (w_ hw 73 rfl) (w_ hw 8 rfl) (by decide) e100 P0_v84 (argsL := [(.int (2 : Int32)), (.int I6)]) (rest := []) (rm_set_45 l Z a0 hw A0 A2 A3 I6 h81 n0 Z0_v82 P0_v84 P2_v86 P5_v88 P7_v89 F_used_A0_v94 P13_v92 P14_v93 P17 P18 P21 P26 P28 P29) (by rw [hml]; rfl) (lenOf pd_3 rfl) rfl (hb hby d6_74) (by decide) (by decide) (by decide) (by decide) ?_
  intro r101 T101 L101 q101 X101
  obtain ⟨rfl, N101q, K101, f101_0, f101_1⟩ := q101
  have N101 := Fr.app N81 N101q
  have Z0_v102 := Nat.le_trans Z0_v82 K101.1
  have fact_K_v103 := Keep.trans fact_K_v83 K101 (allS (Or.inl (by simp)) (allS (Or.inl (by simp)) all0))
  have P0_v104 := P0_v84.keep K101
  have P1_v105 := P1_v85.keep K101
  have P2_v106 := P2_v86.keep K101 (ninS P17 (ninS P18 nin0))
  have P4_v107 := P4_v87.keep K101 (ninS P17 (ninS P18 nin0))
  have P5_v108 := P5_v88.keep K101 (ninS P17 (ninS P18 nin0))
  have P7_v109 := P7_v89.keep K101 (ninS P17 (ninS P18 nin0))
  have P8_v110 := P8_v90.keep K101 (ninS P17 (ninS P18 nin0))
  have P10_v111 := P10_v91.keep K101 (ninS P24 (ninS P25 nin0))
  have F_used_A0_v112 := F_used_A0_v94.keep K101 (ninS P17 (ninS P18 nin0))
  have F_slot_A4_v113 := F_slot_A4_v95.keep K101 (ninS P24 (ninS P25 nin0))
  have V42_59_v114 := V42_59_v96.keep K101 (ninS (Ne.symm P20) (ninS (Ne.symm P22) nin0))
  have F_count_A0_v115 := F_count_A0_v97.keep K101 (ninS P17 (ninS P18 nin0))
  have F_open_A0_v116 := F_open_A0_v98.keep K101 (ninS P17 (ninS P18 nin0))
  show Go p e below _ T101 (mkF m 77 #[.val (.ref A0), .val (.ref A4)] [])
  refine Go.retV X101 hx hlk hret (hb hby d6_77) (by decide) (by decide) ?_
  exact ⟨(J5 + (I6.toInt64)), rfl, N101, fact_K_v103, P0_v104, P1_v105, P2_v106, F_count_A0_v115, P4_v107, P5_v108, F_open_A0_v116, P7_v109, P8_v110, F_used_A0_v112, P10_v111, F_slot_A4_v113, V42_59_v114, f101_0, f101_1, P15⟩
theorem ef_holds_56 (m : MethodId) (x0 : Addr) (x1 : Addr) : entryFrame m #[(.ref x0), (.ref x1)] 2 = mkF m 0 #[.val (.ref x0), .val (.ref x1)] [] := by first | (simp [entryFrame, mkF, argsToLocals, Value.category]; done) | rfl
set_option maxRecDepth 65536 in
set_option maxHeartbeats 40000000 in
theorem rm_holds_56 (l : Launch) (Z : State) (a0 : Array Value) (hw : ∀ d ∈ tables_1, d.before a0 Z = true)  (A0 : Addr) (A1 : Addr) (A2 : Addr) (A3 : Addr) (A4 : Addr) (A5 : Addr) (k6 : ClassId) (h0 : Heap) (n0 : Nat) (Z0 : n0 ≤ h0.size) (P0 : Fld Z h0 A0 "com/example/pennybreak/pennybreak/simplebook/OrderQueue" "slots" "[Lcom/example/pennybreak/pennybreak/simplebook/RestingOrder;" (.ref A1)) (P1 : Fld Z h0 A0 "com/example/pennybreak/pennybreak/simplebook/OrderQueue" "used" "I" (.int (3 : Int32))) (P2 : Fld Z h0 A4 "com/example/pennybreak/pennybreak/simplebook/RestingOrder" "slot" "I" (.int (0 : Int32))) (P3 : Fld Z h0 A5 "com/example/pennybreak/pennybreak/simplebook/RestingOrder" "slot" "I" (.int (2 : Int32))) (P4 : Arv Z h0 A1 k6 (.object "com/example/pennybreak/pennybreak/simplebook/RestingOrder") (4 : Int32) [(.ref A4), .null, (.ref A5), .null] .null) (P5 : A0 ≠ A1) (P6 : A0 ≠ A2) (P7 : A0 ≠ A3) (P8 : A0 ≠ A4) (P9 : A0 ≠ A5) (P10 : A2 ≠ A1) (P11 : A2 ≠ A3) (P12 : A3 ≠ A1) (P13 : A4 ≠ A1) (P14 : A4 ≠ A2) (P15 : A4 ≠ A3) (P16 : A4 ≠ A5) (P17 : A5 ≠ A1) (P18 : A5 ≠ A2) (P19 : A5 ≠ A3) :
    Ct l mn_5 prog_98_method_3_code 2 (some .boolean) ({ frames := 0, cells := 0, slots := 0, locals := 0 } : Room) Z h0 #[(.ref A0), (.ref A4)] (fun v h L => v = some (.int (1 : Int32)) ∧ L = [] ∧ h = h0) := by
  refine Ct.body (plainFor_of_name pn_com_example_pennybreak_pennybreak_simplebook_OrderQueue) ?_
  intro p e s m below meth c T0 hx hby hml hown hnm hret hlk hZ X0 e0
  refine Go.cast (ef_holds_56 m A0 A4) ?_
  show Go p e below _ T0 (mkF m 0 #[.val (.ref A0), .val (.ref A4)] [])
  refine Go.s_aloadN X0 hx (hb hby d5_0) (q := 1) rfl rfl rfl ?_
  refine Go.getF X0 hx hZ hown (w_ hw 45 rfl) Via.refl e0 P2 (hb hby d5_1) ?_
  intro T1 X1 e1
  show Go p e below _ T1 (mkF m 4 #[.val (.ref A0), .val (.ref A4)] [(.int (0 : Int32))])
  refine Go.s_aloadN X1 hx (hb hby d5_4) (q := 5) rfl rfl rfl ?_
  refine Go.getF X1 hx hZ hown (w_ hw 47 rfl) Via.refl e1 P1 (hb hby d5_5) ?_
  intro T2 X2 e2
  show Go p e below _ T2 (mkF m 8 #[.val (.ref A0), .val (.ref A4)] [(.int (3 : Int32)), (.int (0 : Int32))])
  refine Go.s_icmpNo X2 hx (hb hby d5_8) (q := 11) rfl (tlt (by decide : (0 : Int32) < (3 : Int32))).2.1 ?_
  refine Go.s_aloadN X2 hx (hb hby d5_11) (q := 12) rfl rfl rfl ?_
  refine Go.getF X2 hx hZ hown (w_ hw 17 rfl) Via.refl e2 P0 (hb hby d5_12) ?_
  intro T3 X3 e3
  show Go p e below _ T3 (mkF m 15 #[.val (.ref A0), .val (.ref A4)] [(.ref A1)])
  refine Go.s_aloadN X3 hx (hb hby d5_15) (q := 16) rfl rfl rfl ?_
  refine Go.getF X3 hx hZ hown (w_ hw 45 rfl) Via.refl e3 P2 (hb hby d5_16) ?_
  intro T4 X4 e4
  show Go p e below _ T4 (mkF m 19 #[.val (.ref A0), .val (.ref A4)] [(.int (0 : Int32)), (.ref A1)])
  refine Go.ldR X4 hx hZ e4 P4 ⟨by decide, by decide⟩ (w := (.ref A4)) rfl (hb hby d5_19) ?_
  show Go p e below _ T4 (mkF m 20 #[.val (.ref A0), .val (.ref A4)] [(.ref A4)])
  refine Go.s_aloadN X4 hx (hb hby d5_20) (q := 21) rfl rfl rfl ?_
  refine Go.s_acmp X4 hx (q := 24) (hb hby d5_21) rfl rfl (same := true) (decide_eq_true rfl) (by decide) (by decide) ?_
  refine Go.s_iconst X4 hx (hb hby d5_24) (q := 25) rfl (z := 1) rfl ?_
  refine Go.s_goto X4 hx (hb hby d5_25) (q := 29) (by decide) (by decide) ?_
  refine Go.retN X4 hx hlk hret (by simp) (hb hby d5_29) (by decide) (by decide) ?_
  try rw [e4]
  exact ⟨(by decide), rfl, rfl⟩
theorem ef_holds_57 (m : MethodId) (x0 : Addr) (x1 : Addr) : entryFrame m #[(.ref x0), (.ref x1)] 2 = mkF m 0 #[.val (.ref x0), .val (.ref x1)] [] := by first | (simp [entryFrame, mkF, argsToLocals, Value.category]; done) | rfl
set_option maxRecDepth 65536 in
set_option maxHeartbeats 40000000 in
theorem rm_holds_57 (l : Launch) (Z : State) (a0 : Array Value) (hw : ∀ d ∈ tables_1, d.before a0 Z = true)  (A0 : Addr) (A1 : Addr) (A2 : Addr) (A3 : Addr) (A4 : Addr) (A5 : Addr) (A6 : Addr) (k7 : ClassId) (h0 : Heap) (n0 : Nat) (Z0 : n0 ≤ h0.size) (P0 : Fld Z h0 A0 "com/example/pennybreak/pennybreak/simplebook/OrderQueue" "slots" "[Lcom/example/pennybreak/pennybreak/simplebook/RestingOrder;" (.ref A1)) (P1 : Fld Z h0 A0 "com/example/pennybreak/pennybreak/simplebook/OrderQueue" "used" "I" (.int (3 : Int32))) (P2 : Fld Z h0 A4 "com/example/pennybreak/pennybreak/simplebook/RestingOrder" "slot" "I" (.int (1 : Int32))) (P3 : Fld Z h0 A5 "com/example/pennybreak/pennybreak/simplebook/RestingOrder" "slot" "I" (.int (0 : Int32))) (P4 : Fld Z h0 A6 "com/example/pennybreak/pennybreak/simplebook/RestingOrder" "slot" "I" (.int (2 : Int32))) (P5 : Arv Z h0 A1 k7 (.object "com/example/pennybreak/pennybreak/simplebook/RestingOrder") (4 : Int32) [(.ref A5), .null, (.ref A6), .null] .null) (P6 : A0 ≠ A1) (P7 : A0 ≠ A2) (P8 : A0 ≠ A3) (P9 : A0 ≠ A4) (P10 : A0 ≠ A5) (P11 : A0 ≠ A6) (P12 : A2 ≠ A1) (P13 : A2 ≠ A3) (P14 : A3 ≠ A1) (P15 : A4 ≠ A1) (P16 : A4 ≠ A2) (P17 : A4 ≠ A3) (P18 : A4 ≠ A6) (P19 : A5 ≠ A1) (P20 : A5 ≠ A2) (P21 : A5 ≠ A3) (P22 : A5 ≠ A4) (P23 : A5 ≠ A6) (P24 : A6 ≠ A1) (P25 : A6 ≠ A2) (P26 : A6 ≠ A3) :
    Ct l mn_5 prog_98_method_3_code 2 (some .boolean) ({ frames := 0, cells := 0, slots := 0, locals := 0 } : Room) Z h0 #[(.ref A0), (.ref A4)] (fun v h L => v = some (.int (0 : Int32)) ∧ L = [] ∧ h = h0) := by
  refine Ct.body (plainFor_of_name pn_com_example_pennybreak_pennybreak_simplebook_OrderQueue) ?_
  intro p e s m below meth c T0 hx hby hml hown hnm hret hlk hZ X0 e0
  refine Go.cast (ef_holds_57 m A0 A4) ?_
  show Go p e below _ T0 (mkF m 0 #[.val (.ref A0), .val (.ref A4)] [])
  refine Go.s_aloadN X0 hx (hb hby d5_0) (q := 1) rfl rfl rfl ?_
  refine Go.getF X0 hx hZ hown (w_ hw 45 rfl) Via.refl e0 P2 (hb hby d5_1) ?_
  intro T1 X1 e1
  show Go p e below _ T1 (mkF m 4 #[.val (.ref A0), .val (.ref A4)] [(.int (1 : Int32))])
  refine Go.s_aloadN X1 hx (hb hby d5_4) (q := 5) rfl rfl rfl ?_
  refine Go.getF X1 hx hZ hown (w_ hw 47 rfl) Via.refl e1 P1 (hb hby d5_5) ?_
  intro T2 X2 e2
  show Go p e below _ T2 (mkF m 8 #[.val (.ref A0), .val (.ref A4)] [(.int (3 : Int32)), (.int (1 : Int32))])
  refine Go.s_icmpNo X2 hx (hb hby d5_8) (q := 11) rfl (tlt (by decide : (1 : Int32) < (3 : Int32))).2.1 ?_
  refine Go.s_aloadN X2 hx (hb hby d5_11) (q := 12) rfl rfl rfl ?_
  refine Go.getF X2 hx hZ hown (w_ hw 17 rfl) Via.refl e2 P0 (hb hby d5_12) ?_
  intro T3 X3 e3
  show Go p e below _ T3 (mkF m 15 #[.val (.ref A0), .val (.ref A4)] [(.ref A1)])
  refine Go.s_aloadN X3 hx (hb hby d5_15) (q := 16) rfl rfl rfl ?_
  refine Go.getF X3 hx hZ hown (w_ hw 45 rfl) Via.refl e3 P2 (hb hby d5_16) ?_
  intro T4 X4 e4
  show Go p e below _ T4 (mkF m 19 #[.val (.ref A0), .val (.ref A4)] [(.int (1 : Int32)), (.ref A1)])
  refine Go.ldR X4 hx hZ e4 P5 ⟨by decide, by decide⟩ (w := .null) rfl (hb hby d5_19) ?_
  show Go p e below _ T4 (mkF m 20 #[.val (.ref A0), .val (.ref A4)] [.null])
  refine Go.s_aloadN X4 hx (hb hby d5_20) (q := 21) rfl rfl rfl ?_
  refine Go.s_acmp X4 hx (q := 28) (hb hby d5_21) rfl rfl (same := false) (decide_eq_false nofun) (by decide) (by decide) ?_
  refine Go.s_iconst X4 hx (hb hby d5_28) (q := 29) rfl (z := 0) rfl ?_
  refine Go.retN X4 hx hlk hret (by simp) (hb hby d5_29) (by decide) (by decide) ?_
  try rw [e4]
  exact ⟨(by decide), rfl, rfl⟩
theorem ef_holds_58 (m : MethodId) (x0 : Addr) (x1 : Addr) : entryFrame m #[(.ref x0), (.ref x1)] 2 = mkF m 0 #[.val (.ref x0), .val (.ref x1)] [] := by first | (simp [entryFrame, mkF, argsToLocals, Value.category]; done) | rfl
set_option maxRecDepth 65536 in
set_option maxHeartbeats 40000000 in
theorem rm_holds_58 (l : Launch) (Z : State) (a0 : Array Value) (hw : ∀ d ∈ tables_1, d.before a0 Z = true)  (A0 : Addr) (A1 : Addr) (A2 : Addr) (A3 : Addr) (A4 : Addr) (A5 : Addr) (k6 : ClassId) (h0 : Heap) (n0 : Nat) (Z0 : n0 ≤ h0.size) (P0 : Fld Z h0 A0 "com/example/pennybreak/pennybreak/simplebook/OrderQueue" "slots" "[Lcom/example/pennybreak/pennybreak/simplebook/RestingOrder;" (.ref A1)) (P1 : Fld Z h0 A0 "com/example/pennybreak/pennybreak/simplebook/OrderQueue" "used" "I" (.int (3 : Int32))) (P2 : Fld Z h0 A4 "com/example/pennybreak/pennybreak/simplebook/RestingOrder" "slot" "I" (.int (2 : Int32))) (P3 : Fld Z h0 A5 "com/example/pennybreak/pennybreak/simplebook/RestingOrder" "slot" "I" (.int (0 : Int32))) (P4 : Arv Z h0 A1 k6 (.object "com/example/pennybreak/pennybreak/simplebook/RestingOrder") (4 : Int32) [(.ref A5), .null, (.ref A4), .null] .null) (P5 : A0 ≠ A1) (P6 : A0 ≠ A2) (P7 : A0 ≠ A3) (P8 : A0 ≠ A5) (P9 : A0 ≠ A4) (P10 : A2 ≠ A1) (P11 : A2 ≠ A3) (P12 : A3 ≠ A1) (P13 : A4 ≠ A1) (P14 : A4 ≠ A2) (P15 : A4 ≠ A3) (P16 : A5 ≠ A1) (P17 : A5 ≠ A2) (P18 : A5 ≠ A3) (P19 : A5 ≠ A4) :
    Ct l mn_5 prog_98_method_3_code 2 (some .boolean) ({ frames := 0, cells := 0, slots := 0, locals := 0 } : Room) Z h0 #[(.ref A0), (.ref A4)] (fun v h L => v = some (.int (1 : Int32)) ∧ L = [] ∧ h = h0) := by
  refine Ct.body (plainFor_of_name pn_com_example_pennybreak_pennybreak_simplebook_OrderQueue) ?_
  intro p e s m below meth c T0 hx hby hml hown hnm hret hlk hZ X0 e0
  refine Go.cast (ef_holds_58 m A0 A4) ?_
  show Go p e below _ T0 (mkF m 0 #[.val (.ref A0), .val (.ref A4)] [])
  refine Go.s_aloadN X0 hx (hb hby d5_0) (q := 1) rfl rfl rfl ?_
  refine Go.getF X0 hx hZ hown (w_ hw 45 rfl) Via.refl e0 P2 (hb hby d5_1) ?_
  intro T1 X1 e1
  show Go p e below _ T1 (mkF m 4 #[.val (.ref A0), .val (.ref A4)] [(.int (2 : Int32))])
  refine Go.s_aloadN X1 hx (hb hby d5_4) (q := 5) rfl rfl rfl ?_
  refine Go.getF X1 hx hZ hown (w_ hw 47 rfl) Via.refl e1 P1 (hb hby d5_5) ?_
  intro T2 X2 e2
  show Go p e below _ T2 (mkF m 8 #[.val (.ref A0), .val (.ref A4)] [(.int (3 : Int32)), (.int (2 : Int32))])
  refine Go.s_icmpNo X2 hx (hb hby d5_8) (q := 11) rfl (tlt (by decide : (2 : Int32) < (3 : Int32))).2.1 ?_
  refine Go.s_aloadN X2 hx (hb hby d5_11) (q := 12) rfl rfl rfl ?_
  refine Go.getF X2 hx hZ hown (w_ hw 17 rfl) Via.refl e2 P0 (hb hby d5_12) ?_
  intro T3 X3 e3
  show Go p e below _ T3 (mkF m 15 #[.val (.ref A0), .val (.ref A4)] [(.ref A1)])
  refine Go.s_aloadN X3 hx (hb hby d5_15) (q := 16) rfl rfl rfl ?_
  refine Go.getF X3 hx hZ hown (w_ hw 45 rfl) Via.refl e3 P2 (hb hby d5_16) ?_
  intro T4 X4 e4
  show Go p e below _ T4 (mkF m 19 #[.val (.ref A0), .val (.ref A4)] [(.int (2 : Int32)), (.ref A1)])
  refine Go.ldR X4 hx hZ e4 P4 ⟨by decide, by decide⟩ (w := (.ref A4)) rfl (hb hby d5_19) ?_
  show Go p e below _ T4 (mkF m 20 #[.val (.ref A0), .val (.ref A4)] [(.ref A4)])
  refine Go.s_aloadN X4 hx (hb hby d5_20) (q := 21) rfl rfl rfl ?_
  refine Go.s_acmp X4 hx (q := 24) (hb hby d5_21) rfl rfl (same := true) (decide_eq_true rfl) (by decide) (by decide) ?_
  refine Go.s_iconst X4 hx (hb hby d5_24) (q := 25) rfl (z := 1) rfl ?_
  refine Go.s_goto X4 hx (hb hby d5_25) (q := 29) (by decide) (by decide) ?_
  refine Go.retN X4 hx hlk hret (by simp) (hb hby d5_29) (by decide) (by decide) ?_
  try rw [e4]
  exact ⟨(by decide), rfl, rfl⟩
theorem ef_law (m : MethodId) (x0 : Int32) (x1 : Int32) (x2 : Int32) (x3 : Int32) (x4 : Int32) : entryFrame m #[(.int x0), (.int x1), (.int x2), (.int x3), (.int x4)] maxLocals = mkF m 0 #[.val (.int x0), .val (.int x1), .val (.int x2), .val (.int x3), .val (.int x4), .unset, .unset, .unset, .unset, .unset, .unset, .unset, .unset, .unset, .unset, .unset, .unset] [] := by first | (simp [entryFrame, mkF, argsToLocals, Value.category, maxLocals]; done) | rfl
set_option maxRecDepth 65536 in
set_option maxHeartbeats 40000000 in
theorem rm_law (l : Launch) (Z : State) (a0 : Array Value) (hw : ∀ d ∈ tables_1, d.before a0 Z = true) (x0 : Int32) (x1 : Int32) (x2 : Int32) (x3 : Int32) (x4 : Int32) (h0 : Heap) (n0 : Nat) (Z0 : n0 ≤ h0.size) :
    Ct l x code maxLocals ret room_1 Z h0 #[(.int x0), (.int x1), (.int x2), (.int x3), (.int x4)] (fun v h L => v = some (.int 1) ∧ Fr n0 L) := by
  refine Ct.body (plainFor_of_name pn_com_example_pennybreak_pennybreak_simplebook_OrderQueueHoldsPinLaw) ?_
  intro p e s m below meth c T0 hx hby hml hown hnm hret hlk hZ X0 e0
  refine Go.cast (ef_law m x0 x1 x2 x3 x4) ?_
  show Go p e below _ T0 (mkF m 0 #[.val (.int x0), .val (.int x1), .val (.int x2), .val (.int x3), .val (.int x4), .unset, .unset, .unset, .unset, .unset, .unset, .unset, .unset, .unset, .unset, .unset, .unset] [])
  refine Go.s_iloadN X0 hx (hb hby at_0) (q := 1) rfl rfl ?_
  refine Go.s_iconst X0 hx (hb hby at_1) (q := 2) rfl (z := 1) rfl ?_
  refine Go.s_iand X0 hx (hb hby at_2) (q := 3) rfl ?_
  by_cases c3_1 : (x0 &&& (1 : Int32)) = (0 : Int32)
  · -- pc 3: (x0 &&& (1 : Int32)) = (0 : Int32)
    refine Go.s_ifYes X0 hx (hb hby at_3) (q := 10) (by decide) (by decide) ((if0 _ _).trans (teq c3_1).1) ?_
    refine Go.s_iconst X0 hx (hb hby at_10) (q := 11) rfl (z := 0) rfl ?_
    refine Go.s_istore X0 hx (hb hby at_11) (q := 13) rfl (l' := #[.val (.int x0), .val (.int x1), .val (.int x2), .val (.int x3), .val (.int x4), .val (.int (0 : Int32)), .unset, .unset, .unset, .unset, .unset, .unset, .unset, .unset, .unset, .unset, .unset]) rfl ?_
    refine Go.s_iloadN X0 hx (hb hby at_13) (q := 14) rfl rfl ?_
    refine Go.s_iconst X0 hx (hb hby at_14) (q := 15) rfl (z := 2) rfl ?_
    refine Go.s_iand X0 hx (hb hby at_15) (q := 16) rfl ?_
    by_cases c16_2 : (x0 &&& (2 : Int32)) = (0 : Int32)
    · -- pc 16: (x0 &&& (2 : Int32)) = (0 : Int32)
      refine Go.s_ifYes X0 hx (hb hby at_16) (q := 23) (by decide) (by decide) ((if0 _ _).trans (teq c16_2).1) ?_
      refine Go.s_iconst X0 hx (hb hby at_23) (q := 24) rfl (z := 0) rfl ?_
      refine Go.s_istore X0 hx (hb hby at_24) (q := 26) rfl (l' := #[.val (.int x0), .val (.int x1), .val (.int x2), .val (.int x3), .val (.int x4), .val (.int (0 : Int32)), .val (.int (0 : Int32)), .unset, .unset, .unset, .unset, .unset, .unset, .unset, .unset, .unset, .unset]) rfl ?_
      refine Go.s_iload X0 hx (hb hby at_26) (q := 28) rfl rfl ?_
      refine Go.s_ifYes X0 hx (hb hby at_28) (q := 41) (by decide) (by decide) ((if0 _ _).trans (teq (by decide : (0 : Int32) = (0 : Int32))).1) ?_
      refine Go.s_iconst X0 hx (hb hby at_41) (q := 42) rfl (z := 0) rfl ?_
      refine Go.s_istore X0 hx (hb hby at_42) (q := 44) rfl (l' := #[.val (.int x0), .val (.int x1), .val (.int x2), .val (.int x3), .val (.int x4), .val (.int (0 : Int32)), .val (.int (0 : Int32)), .val (.int (0 : Int32)), .unset, .unset, .unset, .unset, .unset, .unset, .unset, .unset, .unset]) rfl ?_
      refine law_f8 hw hx hby hml hown hZ X0 ?_
      intro u8_3
      show Go p e below _ T0 (mkF m 58 #[.val (.int x0), .val (.int x1), .val (.int x2), .val (.int x3), .val (.int x4), .val (.int (0 : Int32)), .val (.int (0 : Int32)), .val (.int (0 : Int32)), .val (.int u8_3), .unset, .unset, .unset, .unset, .unset, .unset, .unset, .unset] [])
      refine Go.s_iloadN X0 hx (hb hby at_58) (q := 59) rfl rfl ?_
      refine Go.s_bipush X0 hx (hb hby at_59) (q := 61) rfl (z := 16) rfl ?_
      refine Go.s_iand X0 hx (hb hby at_61) (q := 62) rfl ?_
      by_cases c62_4 : (x0 &&& (16 : Int32)) = (0 : Int32)
      · -- pc 62: (x0 &&& (16 : Int32)) = (0 : Int32)
        refine Go.s_ifYes X0 hx (hb hby at_62) (q := 69) (by decide) (by decide) ((if0 _ _).trans (teq c62_4).1) ?_
        refine Go.s_iconst X0 hx (hb hby at_69) (q := 70) rfl (z := 0) rfl ?_
        refine Go.s_istore X0 hx (hb hby at_70) (q := 72) rfl (l' := #[.val (.int x0), .val (.int x1), .val (.int x2), .val (.int x3), .val (.int x4), .val (.int (0 : Int32)), .val (.int (0 : Int32)), .val (.int (0 : Int32)), .val (.int u8_3), .val (.int (0 : Int32)), .unset, .unset, .unset, .unset, .unset, .unset, .unset]) rfl ?_
        refine law_mid hw hx hby hml hown hZ X0 e0 Z0 ?_
        intro T5 h5 LL5 w1 b2 b6 b35 b71 b2_4 b1_4 b0_4 kk3_4 w20 w93 X5 e5 N5 p1 p20 p93 m0 m1 m2 m3 m4 m5 m6 m7 m8 m9 m10 m11 m12 m13 m14 m15 m16 m17 m18 m19 m20 m21 m22 m23 m24 m25 m26 m27 m28 m29 m30 m31 m32 m33 m34 m35 m36 m37 m38 m39 m40 m41 m42 m43 m44 m45 m46 m47 m48 m49 m50
        refine Go.s_iload X5 hx (hb hby at_132) (q := 134) rfl rfl ?_
        refine Go.s_ifYes X5 hx (hb hby at_134) (q := 144) (by decide) (by decide) ((if0 _ _).trans (teq (by decide : (0 : Int32) = (0 : Int32))).1) ?_
        refine Go.s_iload X5 hx (hb hby at_144) (q := 146) rfl rfl ?_
        refine Go.s_ifYes X5 hx (hb hby at_146) (q := 156) (by decide) (by decide) ((if0 _ _).trans (teq (by decide : (0 : Int32) = (0 : Int32))).1) ?_
        refine law_k hw hx hby hml hown hZ X5 (size_nz p1) ?_
        intro u15_6
        show Go p e below _ T5 (mkF m 178 #[.val (.int x0), .val (.int x1), .val (.int x2), .val (.int x3), .val (.int x4), .val (.int (0 : Int32)), .val (.int (0 : Int32)), .val (.int (0 : Int32)), .val (.int u8_3), .val (.int (0 : Int32)), .val (.int w1), .val (.ref b2), .val (.ref b6), .val (.ref b35), .val (.ref b71), .val (.int u15_6), .unset] [])
        refine Go.s_iload X5 hx (hb hby at_178) (q := 180) rfl rfl ?_
        refine Go.s_ifYes X5 hx (hb hby at_180) (q := 192) (by decide) (by decide) ((if0 _ _).trans (teq (by decide : (0 : Int32) = (0 : Int32))).1) ?_
        refine Go.s_iload X5 hx (hb hby at_192) (q := 194) rfl rfl ?_
        refine Go.s_ifYes X5 hx (hb hby at_194) (q := 204) (by decide) (by decide) ((if0 _ _).trans (teq (by decide : (0 : Int32) = (0 : Int32))).1) ?_
        refine Go.s_iload X5 hx (hb hby at_204) (q := 206) rfl rfl ?_
        refine Go.s_ifYes X5 hx (hb hby at_206) (q := 225) (by decide) (by decide) ((if0 _ _).trans (teq (by decide : (0 : Int32) = (0 : Int32))).1) ?_
        refine Go.s_iconst X5 hx (hb hby at_225) (q := 226) rfl (z := 0) rfl ?_
        refine Go.s_istore X5 hx (hb hby at_226) (q := 228) rfl (l' := #[.val (.int x0), .val (.int x1), .val (.int x2), .val (.int x3), .val (.int x4), .val (.int (0 : Int32)), .val (.int (0 : Int32)), .val (.int (0 : Int32)), .val (.int u8_3), .val (.int (0 : Int32)), .val (.int w1), .val (.ref b2), .val (.ref b6), .val (.ref b35), .val (.ref b71), .val (.int u15_6), .val (.int (0 : Int32))]) rfl ?_
        refine Go.s_aload X5 hx (hb hby at_228) (q := 230) rfl rfl rfl ?_
        refine Go.s_aload X5 hx (hb hby at_230) (q := 232) rfl rfl rfl ?_
        refine Go.callV (y := mn_5) (z := mn_5) X5 hx hZ hown (w_ hw 40 rfl) (w_ hw 41 rfl) (notFace_of_selects (args := #[]) (mvT hZ (w_ hw 43 rfl))) (w_ hw 43 rfl) (w_ hw 42 rfl) (w_ hw 44 rfl) (w_ hw 8 rfl) (by decide) e5 m0 (argsL := [(.ref b6)]) (rest := []) (rm_holds_5 l Z a0 hw b2 b0_4 b1_4 b2_4 b6 kk3_4 h5 n0 m50 m7 m8 m14 m9 m19 m21 m23 m29 m26 m27 m30 m28 m31 m32) (by rw [hml]; rfl) (lenOf pd_6 rfl) rfl (hb hby at_232) (by decide) (by decide) (by decide) (by decide) ?_
        intro r7 T7 L7 q7 X7
        obtain ⟨rfl, rfl, e7⟩ := q7
        rw [List.append_nil] at X7
        show Go p e below _ T7 (mkF m 235 #[.val (.int x0), .val (.int x1), .val (.int x2), .val (.int x3), .val (.int x4), .val (.int (0 : Int32)), .val (.int (0 : Int32)), .val (.int (0 : Int32)), .val (.int u8_3), .val (.int (0 : Int32)), .val (.int w1), .val (.ref b2), .val (.ref b6), .val (.ref b35), .val (.ref b71), .val (.int u15_6), .val (.int (0 : Int32))] [(.int (0 : Int32))])
        refine Go.s_iload X7 hx (hb hby at_235) (q := 237) rfl rfl ?_
        refine Go.s_icmpNo X7 hx (hb hby at_237) (q := 240) rfl (teq (by decide : (0 : Int32) = (0 : Int32))).2 ?_
        refine Go.s_aload X7 hx (hb hby at_240) (q := 242) rfl rfl rfl ?_
        refine Go.s_aload X7 hx (hb hby at_242) (q := 244) rfl rfl rfl ?_
        refine Go.callV (y := mn_5) (z := mn_5) X7 hx hZ hown (w_ hw 40 rfl) (w_ hw 41 rfl) (notFace_of_selects (args := #[]) (mvT hZ (w_ hw 43 rfl))) (w_ hw 43 rfl) (w_ hw 42 rfl) (w_ hw 44 rfl) (w_ hw 8 rfl) (by decide) e7 m0 (argsL := [(.ref b35)]) (rest := []) (rm_holds_5 l Z a0 hw b2 b0_4 b1_4 b2_4 b35 kk3_4 h5 n0 m50 m7 m8 m17 m9 m19 m21 m23 m34 m26 m27 m35 m28 m36 m37) (by rw [hml]; rfl) (lenOf pd_6 rfl) rfl (hb hby at_244) (by decide) (by decide) (by decide) (by decide) ?_
        intro r8 T8 L8 q8 X8
        obtain ⟨rfl, rfl, e8⟩ := q8
        rw [List.append_nil] at X8
        show Go p e below _ T8 (mkF m 247 #[.val (.int x0), .val (.int x1), .val (.int x2), .val (.int x3), .val (.int x4), .val (.int (0 : Int32)), .val (.int (0 : Int32)), .val (.int (0 : Int32)), .val (.int u8_3), .val (.int (0 : Int32)), .val (.int w1), .val (.ref b2), .val (.ref b6), .val (.ref b35), .val (.ref b71), .val (.int u15_6), .val (.int (0 : Int32))] [(.int (0 : Int32))])
        refine Go.s_iload X8 hx (hb hby at_247) (q := 249) rfl rfl ?_
        refine Go.s_icmpNo X8 hx (hb hby at_249) (q := 252) rfl (teq (by decide : (0 : Int32) = (0 : Int32))).2 ?_
        refine Go.s_aload X8 hx (hb hby at_252) (q := 254) rfl rfl rfl ?_
        refine Go.s_aload X8 hx (hb hby at_254) (q := 256) rfl rfl rfl ?_
        refine Go.callV (y := mn_5) (z := mn_5) X8 hx hZ hown (w_ hw 40 rfl) (w_ hw 41 rfl) (notFace_of_selects (args := #[]) (mvT hZ (w_ hw 43 rfl))) (w_ hw 43 rfl) (w_ hw 42 rfl) (w_ hw 44 rfl) (w_ hw 8 rfl) (by decide) e8 m0 (argsL := [(.ref b71)]) (rest := []) (rm_holds_5 l Z a0 hw b2 b0_4 b1_4 b2_4 b71 kk3_4 h5 n0 m50 m7 m8 m49 m9 m19 m21 m23 m40 m26 m27 m41 m28 m42 m43) (by rw [hml]; rfl) (lenOf pd_6 rfl) rfl (hb hby at_256) (by decide) (by decide) (by decide) (by decide) ?_
        intro r9 T9 L9 q9 X9
        obtain ⟨rfl, rfl, e9⟩ := q9
        rw [List.append_nil] at X9
        show Go p e below _ T9 (mkF m 259 #[.val (.int x0), .val (.int x1), .val (.int x2), .val (.int x3), .val (.int x4), .val (.int (0 : Int32)), .val (.int (0 : Int32)), .val (.int (0 : Int32)), .val (.int u8_3), .val (.int (0 : Int32)), .val (.int w1), .val (.ref b2), .val (.ref b6), .val (.ref b35), .val (.ref b71), .val (.int u15_6), .val (.int (0 : Int32))] [(.int (0 : Int32))])
        refine Go.s_iload X9 hx (hb hby at_259) (q := 261) rfl rfl ?_
        refine Go.s_icmpNo X9 hx (hb hby at_261) (q := 264) rfl (teq (by decide : (0 : Int32) = (0 : Int32))).2 ?_
        refine Go.s_iconst X9 hx (hb hby at_264) (q := 265) rfl (z := 1) rfl ?_
        refine Go.s_goto X9 hx (hb hby at_265) (q := 269) (by decide) (by decide) ?_
        refine Go.retN X9 hx hlk hret (by simp) (hb hby at_269) (by decide) (by decide) ?_
        try rw [e9]
        exact ⟨by decide, N5⟩
      · -- pc 62: not (x0 &&& (16 : Int32)) = (0 : Int32)
        refine Go.s_ifNo X0 hx (hb hby at_62) (q := 65) rfl ((if0 _ _).trans (feq c62_4).1) ?_
        refine Go.s_iconst X0 hx (hb hby at_65) (q := 66) rfl (z := 1) rfl ?_
        refine Go.s_goto X0 hx (hb hby at_66) (q := 70) (by decide) (by decide) ?_
        refine Go.s_istore X0 hx (hb hby at_70) (q := 72) rfl (l' := #[.val (.int x0), .val (.int x1), .val (.int x2), .val (.int x3), .val (.int x4), .val (.int (0 : Int32)), .val (.int (0 : Int32)), .val (.int (0 : Int32)), .val (.int u8_3), .val (.int (1 : Int32)), .unset, .unset, .unset, .unset, .unset, .unset, .unset]) rfl ?_
        refine law_mid hw hx hby hml hown hZ X0 e0 Z0 ?_
        intro T10 h10 LL10 w1 b2 b6 b35 b71 b2_4 b1_4 b0_4 kk3_4 w20 w93 X10 e10 N10 p1 p20 p93 m0 m1 m2 m3 m4 m5 m6 m7 m8 m9 m10 m11 m12 m13 m14 m15 m16 m17 m18 m19 m20 m21 m22 m23 m24 m25 m26 m27 m28 m29 m30 m31 m32 m33 m34 m35 m36 m37 m38 m39 m40 m41 m42 m43 m44 m45 m46 m47 m48 m49 m50
        refine Go.s_iload X10 hx (hb hby at_132) (q := 134) rfl rfl ?_
        refine Go.s_ifYes X10 hx (hb hby at_134) (q := 144) (by decide) (by decide) ((if0 _ _).trans (teq (by decide : (0 : Int32) = (0 : Int32))).1) ?_
        refine Go.s_iload X10 hx (hb hby at_144) (q := 146) rfl rfl ?_
        refine Go.s_ifYes X10 hx (hb hby at_146) (q := 156) (by decide) (by decide) ((if0 _ _).trans (teq (by decide : (0 : Int32) = (0 : Int32))).1) ?_
        refine law_k hw hx hby hml hown hZ X10 (size_nz p1) ?_
        intro u15_11
        show Go p e below _ T10 (mkF m 178 #[.val (.int x0), .val (.int x1), .val (.int x2), .val (.int x3), .val (.int x4), .val (.int (0 : Int32)), .val (.int (0 : Int32)), .val (.int (0 : Int32)), .val (.int u8_3), .val (.int (1 : Int32)), .val (.int w1), .val (.ref b2), .val (.ref b6), .val (.ref b35), .val (.ref b71), .val (.int u15_11), .unset] [])
        refine Go.s_iload X10 hx (hb hby at_178) (q := 180) rfl rfl ?_
        refine Go.s_ifYes X10 hx (hb hby at_180) (q := 192) (by decide) (by decide) ((if0 _ _).trans (teq (by decide : (0 : Int32) = (0 : Int32))).1) ?_
        refine Go.s_iload X10 hx (hb hby at_192) (q := 194) rfl rfl ?_
        refine Go.s_ifNo X10 hx (hb hby at_194) (q := 197) rfl ((if0 _ _).trans (feq (by decide : ¬ ((1 : Int32) = (0 : Int32)))).1) ?_
        refine Go.s_aload X10 hx (hb hby at_197) (q := 199) rfl rfl rfl ?_
        refine Go.s_aload X10 hx (hb hby at_199) (q := 201) rfl rfl rfl ?_
        refine Go.callV (y := mn_6) (z := mn_6) X10 hx hZ hown (w_ hw 49 rfl) (w_ hw 50 rfl) (notFace_of_selects (args := #[]) (mvT hZ (w_ hw 52 rfl))) (w_ hw 52 rfl) (w_ hw 51 rfl) (w_ hw 53 rfl) (w_ hw 8 rfl) (by decide) e10 m0 (argsL := [(.ref b71)]) (rest := []) (rm_add_10 l Z a0 hw b2 b0_4 b1_4 b2_4 b71 w93 kk3_4 h10 n0 m50 m0 m47 m1 m2 m3 m4 m5 m6 m7 m8 m48 m49 m9 m10 m11 m25 m19 m21 m23 m40 m26 m27 m41 m28 m42 m43 m18 m20 m22 m24 m46) (by rw [hml]; rfl) (lenOf pd_5 rfl) rfl (hb hby at_201) (by decide) (by decide) (by decide) (by decide) ?_
        intro r12 T12 L12 q12 X12
        obtain ⟨b0_12, b1_12, b2_12, w3_12, kk4_12, rfl, N12q, K12, sz_b0_12, sz_b1_12, sz_b2_12, f12_0, f12_1, f12_2, f12_3, f12_4, f12_5, f12_6, f12_7, f12_8, f12_9, f12_10, f12_11, f12_12, f12_13, f12_14, f12_15, f12_16, f12_17, f12_18⟩ := q12
        have N12 := Fr.app N10 N12q
        have ne_b2_b0_12 : b2 ≠ b0_12 := Nat.ne_of_lt (Nat.lt_of_lt_of_le m0.lt sz_b0_12)
        have ne_b0_4_b0_12 : b0_4 ≠ b0_12 := Nat.ne_of_lt (Nat.lt_of_lt_of_le m9.lt sz_b0_12)
        have ne_b1_4_b0_12 : b1_4 ≠ b0_12 := Nat.ne_of_lt (Nat.lt_of_lt_of_le m10.lt sz_b0_12)
        have ne_b2_4_b0_12 : b2_4 ≠ b0_12 := Nat.ne_of_lt (Nat.lt_of_lt_of_le m11.lt sz_b0_12)
        have ne_b6_b0_12 : b6 ≠ b0_12 := Nat.ne_of_lt (Nat.lt_of_lt_of_le m12.lt sz_b0_12)
        have ne_b35_b0_12 : b35 ≠ b0_12 := Nat.ne_of_lt (Nat.lt_of_lt_of_le m15.lt sz_b0_12)
        have ne_b71_b0_12 : b71 ≠ b0_12 := Nat.ne_of_lt (Nat.lt_of_lt_of_le m47.lt sz_b0_12)
        have g_b0_12 : n0 ≤ b0_12 := Nat.le_trans m50 sz_b0_12
        have ne_b2_b1_12 : b2 ≠ b1_12 := Nat.ne_of_lt (Nat.lt_of_lt_of_le m0.lt sz_b1_12)
        have ne_b0_4_b1_12 : b0_4 ≠ b1_12 := Nat.ne_of_lt (Nat.lt_of_lt_of_le m9.lt sz_b1_12)
        have ne_b1_4_b1_12 : b1_4 ≠ b1_12 := Nat.ne_of_lt (Nat.lt_of_lt_of_le m10.lt sz_b1_12)
        have ne_b2_4_b1_12 : b2_4 ≠ b1_12 := Nat.ne_of_lt (Nat.lt_of_lt_of_le m11.lt sz_b1_12)
        have ne_b6_b1_12 : b6 ≠ b1_12 := Nat.ne_of_lt (Nat.lt_of_lt_of_le m12.lt sz_b1_12)
        have ne_b35_b1_12 : b35 ≠ b1_12 := Nat.ne_of_lt (Nat.lt_of_lt_of_le m15.lt sz_b1_12)
        have ne_b71_b1_12 : b71 ≠ b1_12 := Nat.ne_of_lt (Nat.lt_of_lt_of_le m47.lt sz_b1_12)
        have g_b1_12 : n0 ≤ b1_12 := Nat.le_trans m50 sz_b1_12
        have ne_b2_b2_12 : b2 ≠ b2_12 := Nat.ne_of_lt (Nat.lt_of_lt_of_le m0.lt sz_b2_12)
        have ne_b0_4_b2_12 : b0_4 ≠ b2_12 := Nat.ne_of_lt (Nat.lt_of_lt_of_le m9.lt sz_b2_12)
        have ne_b1_4_b2_12 : b1_4 ≠ b2_12 := Nat.ne_of_lt (Nat.lt_of_lt_of_le m10.lt sz_b2_12)
        have ne_b2_4_b2_12 : b2_4 ≠ b2_12 := Nat.ne_of_lt (Nat.lt_of_lt_of_le m11.lt sz_b2_12)
        have ne_b6_b2_12 : b6 ≠ b2_12 := Nat.ne_of_lt (Nat.lt_of_lt_of_le m12.lt sz_b2_12)
        have ne_b35_b2_12 : b35 ≠ b2_12 := Nat.ne_of_lt (Nat.lt_of_lt_of_le m15.lt sz_b2_12)
        have ne_b71_b2_12 : b71 ≠ b2_12 := Nat.ne_of_lt (Nat.lt_of_lt_of_le m47.lt sz_b2_12)
        have g_b2_12 : n0 ≤ b2_12 := Nat.le_trans m50 sz_b2_12
        have m9_v13 := m9.keep K12 (ninS (Ne.symm m19) (ninS m41 nin0))
        have m10_v14 := m10.keep K12 (ninS (Ne.symm m21) (ninS m42 nin0))
        have m11_v15 := m11.keep K12 (ninS (Ne.symm m23) (ninS m43 nin0))
        have m12_v16 := m12.keep K12
        have m13_v17 := m13.keep K12 (ninS (Ne.symm m29) (ninS m44 nin0))
        have m14_v18 := m14.keep K12 (ninS (Ne.symm m29) (ninS m44 nin0))
        have m15_v19 := m15.keep K12
        have m16_v20 := m16.keep K12 (ninS (Ne.symm m34) (ninS m45 nin0))
        have m17_v21 := m17.keep K12 (ninS (Ne.symm m34) (ninS m45 nin0))
        have m50_v22 := Nat.le_trans m50 K12.1
        show Go p e below _ T12 (mkF m 204 #[.val (.int x0), .val (.int x1), .val (.int x2), .val (.int x3), .val (.int x4), .val (.int (0 : Int32)), .val (.int (0 : Int32)), .val (.int (0 : Int32)), .val (.int u8_3), .val (.int (1 : Int32)), .val (.int w1), .val (.ref b2), .val (.ref b6), .val (.ref b35), .val (.ref b71), .val (.int u15_11), .unset] [])
        refine Go.s_iload X12 hx (hb hby at_204) (q := 206) rfl rfl ?_
        refine Go.s_ifYes X12 hx (hb hby at_206) (q := 225) (by decide) (by decide) ((if0 _ _).trans (teq (by decide : (0 : Int32) = (0 : Int32))).1) ?_
        refine Go.s_iconst X12 hx (hb hby at_225) (q := 226) rfl (z := 0) rfl ?_
        refine Go.s_istore X12 hx (hb hby at_226) (q := 228) rfl (l' := #[.val (.int x0), .val (.int x1), .val (.int x2), .val (.int x3), .val (.int x4), .val (.int (0 : Int32)), .val (.int (0 : Int32)), .val (.int (0 : Int32)), .val (.int u8_3), .val (.int (1 : Int32)), .val (.int w1), .val (.ref b2), .val (.ref b6), .val (.ref b35), .val (.ref b71), .val (.int u15_11), .val (.int (0 : Int32))]) rfl ?_
        refine Go.s_aload X12 hx (hb hby at_228) (q := 230) rfl rfl rfl ?_
        refine Go.s_aload X12 hx (hb hby at_230) (q := 232) rfl rfl rfl ?_
        refine Go.callV (y := mn_5) (z := mn_5) X12 hx hZ hown (w_ hw 40 rfl) (w_ hw 41 rfl) (notFace_of_selects (args := #[]) (mvT hZ (w_ hw 43 rfl))) (w_ hw 43 rfl) (w_ hw 42 rfl) (w_ hw 44 rfl) (w_ hw 8 rfl) (by decide) rfl f12_0 (argsL := [(.ref b6)]) (rest := []) (rm_holds_15 l Z a0 hw b2 b0_12 b1_12 b2_12 b6 b71 kk4_12 T12.heap n0 m50_v22 f12_8 f12_9 m14_v18 f12_11 f12_12 ne_b2_b0_12 ne_b2_b1_12 ne_b2_b2_12 m29 m40 f12_16 f12_17 f12_18 ne_b6_b0_12 ne_b6_b1_12 ne_b6_b2_12 m44 ne_b71_b0_12 ne_b71_b1_12 ne_b71_b2_12) (by rw [hml]; rfl) (lenOf pd_6 rfl) rfl (hb hby at_232) (by decide) (by decide) (by decide) (by decide) ?_
        intro r23 T23 L23 q23 X23
        obtain ⟨rfl, rfl, e23⟩ := q23
        rw [List.append_nil] at X23
        show Go p e below _ T23 (mkF m 235 #[.val (.int x0), .val (.int x1), .val (.int x2), .val (.int x3), .val (.int x4), .val (.int (0 : Int32)), .val (.int (0 : Int32)), .val (.int (0 : Int32)), .val (.int u8_3), .val (.int (1 : Int32)), .val (.int w1), .val (.ref b2), .val (.ref b6), .val (.ref b35), .val (.ref b71), .val (.int u15_11), .val (.int (0 : Int32))] [(.int (0 : Int32))])
        refine Go.s_iload X23 hx (hb hby at_235) (q := 237) rfl rfl ?_
        refine Go.s_icmpNo X23 hx (hb hby at_237) (q := 240) rfl (teq (by decide : (0 : Int32) = (0 : Int32))).2 ?_
        refine Go.s_aload X23 hx (hb hby at_240) (q := 242) rfl rfl rfl ?_
        refine Go.s_aload X23 hx (hb hby at_242) (q := 244) rfl rfl rfl ?_
        refine Go.callV (y := mn_5) (z := mn_5) X23 hx hZ hown (w_ hw 40 rfl) (w_ hw 41 rfl) (notFace_of_selects (args := #[]) (mvT hZ (w_ hw 43 rfl))) (w_ hw 43 rfl) (w_ hw 42 rfl) (w_ hw 44 rfl) (w_ hw 8 rfl) (by decide) e23 f12_0 (argsL := [(.ref b35)]) (rest := []) (rm_holds_15 l Z a0 hw b2 b0_12 b1_12 b2_12 b35 b71 kk4_12 T12.heap n0 m50_v22 f12_8 f12_9 m17_v21 f12_11 f12_12 ne_b2_b0_12 ne_b2_b1_12 ne_b2_b2_12 m34 m40 f12_16 f12_17 f12_18 ne_b35_b0_12 ne_b35_b1_12 ne_b35_b2_12 m45 ne_b71_b0_12 ne_b71_b1_12 ne_b71_b2_12) (by rw [hml]; rfl) (lenOf pd_6 rfl) rfl (hb hby at_244) (by decide) (by decide) (by decide) (by decide) ?_
        intro r24 T24 L24 q24 X24
        obtain ⟨rfl, rfl, e24⟩ := q24
        rw [List.append_nil] at X24
        show Go p e below _ T24 (mkF m 247 #[.val (.int x0), .val (.int x1), .val (.int x2), .val (.int x3), .val (.int x4), .val (.int (0 : Int32)), .val (.int (0 : Int32)), .val (.int (0 : Int32)), .val (.int u8_3), .val (.int (1 : Int32)), .val (.int w1), .val (.ref b2), .val (.ref b6), .val (.ref b35), .val (.ref b71), .val (.int u15_11), .val (.int (0 : Int32))] [(.int (0 : Int32))])
        refine Go.s_iload X24 hx (hb hby at_247) (q := 249) rfl rfl ?_
        refine Go.s_icmpNo X24 hx (hb hby at_249) (q := 252) rfl (teq (by decide : (0 : Int32) = (0 : Int32))).2 ?_
        refine Go.s_aload X24 hx (hb hby at_252) (q := 254) rfl rfl rfl ?_
        refine Go.s_aload X24 hx (hb hby at_254) (q := 256) rfl rfl rfl ?_
        refine Go.callV (y := mn_5) (z := mn_5) X24 hx hZ hown (w_ hw 40 rfl) (w_ hw 41 rfl) (notFace_of_selects (args := #[]) (mvT hZ (w_ hw 43 rfl))) (w_ hw 43 rfl) (w_ hw 42 rfl) (w_ hw 44 rfl) (w_ hw 8 rfl) (by decide) e24 f12_0 (argsL := [(.ref b71)]) (rest := []) (rm_holds_16 l Z a0 hw b2 b0_12 b1_12 b2_12 b71 kk4_12 T12.heap n0 m50_v22 f12_8 f12_9 f12_11 f12_12 ne_b2_b0_12 ne_b2_b1_12 ne_b2_b2_12 m40 f12_16 f12_17 f12_18 ne_b71_b0_12 ne_b71_b1_12 ne_b71_b2_12) (by rw [hml]; rfl) (lenOf pd_6 rfl) rfl (hb hby at_256) (by decide) (by decide) (by decide) (by decide) ?_
        intro r25 T25 L25 q25 X25
        obtain ⟨rfl, rfl, e25⟩ := q25
        rw [List.append_nil] at X25
        show Go p e below _ T25 (mkF m 259 #[.val (.int x0), .val (.int x1), .val (.int x2), .val (.int x3), .val (.int x4), .val (.int (0 : Int32)), .val (.int (0 : Int32)), .val (.int (0 : Int32)), .val (.int u8_3), .val (.int (1 : Int32)), .val (.int w1), .val (.ref b2), .val (.ref b6), .val (.ref b35), .val (.ref b71), .val (.int u15_11), .val (.int (0 : Int32))] [(.int (1 : Int32))])
        refine Go.s_iload X25 hx (hb hby at_259) (q := 261) rfl rfl ?_
        refine Go.s_icmpNo X25 hx (hb hby at_261) (q := 264) rfl (teq (by decide : (1 : Int32) = (1 : Int32))).2 ?_
        refine Go.s_iconst X25 hx (hb hby at_264) (q := 265) rfl (z := 1) rfl ?_
        refine Go.s_goto X25 hx (hb hby at_265) (q := 269) (by decide) (by decide) ?_
        refine Go.retN X25 hx hlk hret (by simp) (hb hby at_269) (by decide) (by decide) ?_
        try rw [e25]
        exact ⟨by decide, N12⟩
    · -- pc 16: not (x0 &&& (2 : Int32)) = (0 : Int32)
      refine Go.s_ifNo X0 hx (hb hby at_16) (q := 19) rfl ((if0 _ _).trans (feq c16_2).1) ?_
      refine Go.s_iconst X0 hx (hb hby at_19) (q := 20) rfl (z := 1) rfl ?_
      refine Go.s_goto X0 hx (hb hby at_20) (q := 24) (by decide) (by decide) ?_
      refine Go.s_istore X0 hx (hb hby at_24) (q := 26) rfl (l' := #[.val (.int x0), .val (.int x1), .val (.int x2), .val (.int x3), .val (.int x4), .val (.int (0 : Int32)), .val (.int (1 : Int32)), .unset, .unset, .unset, .unset, .unset, .unset, .unset, .unset, .unset, .unset]) rfl ?_
      refine Go.s_iload X0 hx (hb hby at_26) (q := 28) rfl rfl ?_
      refine Go.s_ifNo X0 hx (hb hby at_28) (q := 31) rfl ((if0 _ _).trans (feq (by decide : ¬ ((1 : Int32) = (0 : Int32)))).1) ?_
      refine Go.s_iloadN X0 hx (hb hby at_31) (q := 32) rfl rfl ?_
      refine Go.s_iconst X0 hx (hb hby at_32) (q := 33) rfl (z := 4) rfl ?_
      refine Go.s_iand X0 hx (hb hby at_33) (q := 34) rfl ?_
      by_cases c34_26 : (x0 &&& (4 : Int32)) = (0 : Int32)
      · -- pc 34: (x0 &&& (4 : Int32)) = (0 : Int32)
        refine Go.s_ifYes X0 hx (hb hby at_34) (q := 41) (by decide) (by decide) ((if0 _ _).trans (teq c34_26).1) ?_
        refine Go.s_iconst X0 hx (hb hby at_41) (q := 42) rfl (z := 0) rfl ?_
        refine Go.s_istore X0 hx (hb hby at_42) (q := 44) rfl (l' := #[.val (.int x0), .val (.int x1), .val (.int x2), .val (.int x3), .val (.int x4), .val (.int (0 : Int32)), .val (.int (1 : Int32)), .val (.int (0 : Int32)), .unset, .unset, .unset, .unset, .unset, .unset, .unset, .unset, .unset]) rfl ?_
        refine law_f8 hw hx hby hml hown hZ X0 ?_
        intro u8_27
        show Go p e below _ T0 (mkF m 58 #[.val (.int x0), .val (.int x1), .val (.int x2), .val (.int x3), .val (.int x4), .val (.int (0 : Int32)), .val (.int (1 : Int32)), .val (.int (0 : Int32)), .val (.int u8_27), .unset, .unset, .unset, .unset, .unset, .unset, .unset, .unset] [])
        refine Go.s_iloadN X0 hx (hb hby at_58) (q := 59) rfl rfl ?_
        refine Go.s_bipush X0 hx (hb hby at_59) (q := 61) rfl (z := 16) rfl ?_
        refine Go.s_iand X0 hx (hb hby at_61) (q := 62) rfl ?_
        by_cases c62_28 : (x0 &&& (16 : Int32)) = (0 : Int32)
        · -- pc 62: (x0 &&& (16 : Int32)) = (0 : Int32)
          refine Go.s_ifYes X0 hx (hb hby at_62) (q := 69) (by decide) (by decide) ((if0 _ _).trans (teq c62_28).1) ?_
          refine Go.s_iconst X0 hx (hb hby at_69) (q := 70) rfl (z := 0) rfl ?_
          refine Go.s_istore X0 hx (hb hby at_70) (q := 72) rfl (l' := #[.val (.int x0), .val (.int x1), .val (.int x2), .val (.int x3), .val (.int x4), .val (.int (0 : Int32)), .val (.int (1 : Int32)), .val (.int (0 : Int32)), .val (.int u8_27), .val (.int (0 : Int32)), .unset, .unset, .unset, .unset, .unset, .unset, .unset]) rfl ?_
          refine law_mid hw hx hby hml hown hZ X0 e0 Z0 ?_
          intro T29 h29 LL29 w1 b2 b6 b35 b71 b2_4 b1_4 b0_4 kk3_4 w20 w93 X29 e29 N29 p1 p20 p93 m0 m1 m2 m3 m4 m5 m6 m7 m8 m9 m10 m11 m12 m13 m14 m15 m16 m17 m18 m19 m20 m21 m22 m23 m24 m25 m26 m27 m28 m29 m30 m31 m32 m33 m34 m35 m36 m37 m38 m39 m40 m41 m42 m43 m44 m45 m46 m47 m48 m49 m50
          refine Go.s_iload X29 hx (hb hby at_132) (q := 134) rfl rfl ?_
          refine Go.s_ifYes X29 hx (hb hby at_134) (q := 144) (by decide) (by decide) ((if0 _ _).trans (teq (by decide : (0 : Int32) = (0 : Int32))).1) ?_
          refine Go.s_iload X29 hx (hb hby at_144) (q := 146) rfl rfl ?_
          refine Go.s_ifNo X29 hx (hb hby at_146) (q := 149) rfl ((if0 _ _).trans (feq (by decide : ¬ ((1 : Int32) = (0 : Int32)))).1) ?_
          refine Go.s_aload X29 hx (hb hby at_149) (q := 151) rfl rfl rfl ?_
          refine Go.s_aload X29 hx (hb hby at_151) (q := 153) rfl rfl rfl ?_
          refine Go.callV (y := mn_6) (z := mn_6) X29 hx hZ hown (w_ hw 49 rfl) (w_ hw 50 rfl) (notFace_of_selects (args := #[]) (mvT hZ (w_ hw 52 rfl))) (w_ hw 52 rfl) (w_ hw 51 rfl) (w_ hw 53 rfl) (w_ hw 8 rfl) (by decide) e29 m0 (argsL := [(.ref b35)]) (rest := []) (rm_add_10 l Z a0 hw b2 b0_4 b1_4 b2_4 b35 w1 kk3_4 h29 n0 m50 m0 m15 m1 m2 m3 m4 m5 m6 m7 m8 m16 m17 m9 m10 m11 m25 m19 m21 m23 m34 m26 m27 m35 m28 m36 m37 m18 m20 m22 m24 m39) (by rw [hml]; rfl) (lenOf pd_5 rfl) rfl (hb hby at_153) (by decide) (by decide) (by decide) (by decide) ?_
          intro r30 T30 L30 q30 X30
          obtain ⟨b0_30, b1_30, b2_30, w3_30, kk4_30, rfl, N30q, K30, sz_b0_30, sz_b1_30, sz_b2_30, f30_0, f30_1, f30_2, f30_3, f30_4, f30_5, f30_6, f30_7, f30_8, f30_9, f30_10, f30_11, f30_12, f30_13, f30_14, f30_15, f30_16, f30_17, f30_18⟩ := q30
          have N30 := Fr.app N29 N30q
          have ne_b2_b0_30 : b2 ≠ b0_30 := Nat.ne_of_lt (Nat.lt_of_lt_of_le m0.lt sz_b0_30)
          have ne_b0_4_b0_30 : b0_4 ≠ b0_30 := Nat.ne_of_lt (Nat.lt_of_lt_of_le m9.lt sz_b0_30)
          have ne_b1_4_b0_30 : b1_4 ≠ b0_30 := Nat.ne_of_lt (Nat.lt_of_lt_of_le m10.lt sz_b0_30)
          have ne_b2_4_b0_30 : b2_4 ≠ b0_30 := Nat.ne_of_lt (Nat.lt_of_lt_of_le m11.lt sz_b0_30)
          have ne_b6_b0_30 : b6 ≠ b0_30 := Nat.ne_of_lt (Nat.lt_of_lt_of_le m12.lt sz_b0_30)
          have ne_b35_b0_30 : b35 ≠ b0_30 := Nat.ne_of_lt (Nat.lt_of_lt_of_le m15.lt sz_b0_30)
          have ne_b71_b0_30 : b71 ≠ b0_30 := Nat.ne_of_lt (Nat.lt_of_lt_of_le m47.lt sz_b0_30)
          have g_b0_30 : n0 ≤ b0_30 := Nat.le_trans m50 sz_b0_30
          have ne_b2_b1_30 : b2 ≠ b1_30 := Nat.ne_of_lt (Nat.lt_of_lt_of_le m0.lt sz_b1_30)
          have ne_b0_4_b1_30 : b0_4 ≠ b1_30 := Nat.ne_of_lt (Nat.lt_of_lt_of_le m9.lt sz_b1_30)
          have ne_b1_4_b1_30 : b1_4 ≠ b1_30 := Nat.ne_of_lt (Nat.lt_of_lt_of_le m10.lt sz_b1_30)
          have ne_b2_4_b1_30 : b2_4 ≠ b1_30 := Nat.ne_of_lt (Nat.lt_of_lt_of_le m11.lt sz_b1_30)
          have ne_b6_b1_30 : b6 ≠ b1_30 := Nat.ne_of_lt (Nat.lt_of_lt_of_le m12.lt sz_b1_30)
          have ne_b35_b1_30 : b35 ≠ b1_30 := Nat.ne_of_lt (Nat.lt_of_lt_of_le m15.lt sz_b1_30)
          have ne_b71_b1_30 : b71 ≠ b1_30 := Nat.ne_of_lt (Nat.lt_of_lt_of_le m47.lt sz_b1_30)
          have g_b1_30 : n0 ≤ b1_30 := Nat.le_trans m50 sz_b1_30
          have ne_b2_b2_30 : b2 ≠ b2_30 := Nat.ne_of_lt (Nat.lt_of_lt_of_le m0.lt sz_b2_30)
          have ne_b0_4_b2_30 : b0_4 ≠ b2_30 := Nat.ne_of_lt (Nat.lt_of_lt_of_le m9.lt sz_b2_30)
          have ne_b1_4_b2_30 : b1_4 ≠ b2_30 := Nat.ne_of_lt (Nat.lt_of_lt_of_le m10.lt sz_b2_30)
          have ne_b2_4_b2_30 : b2_4 ≠ b2_30 := Nat.ne_of_lt (Nat.lt_of_lt_of_le m11.lt sz_b2_30)
          have ne_b6_b2_30 : b6 ≠ b2_30 := Nat.ne_of_lt (Nat.lt_of_lt_of_le m12.lt sz_b2_30)
          have ne_b35_b2_30 : b35 ≠ b2_30 := Nat.ne_of_lt (Nat.lt_of_lt_of_le m15.lt sz_b2_30)
          have ne_b71_b2_30 : b71 ≠ b2_30 := Nat.ne_of_lt (Nat.lt_of_lt_of_le m47.lt sz_b2_30)
          have g_b2_30 : n0 ≤ b2_30 := Nat.le_trans m50 sz_b2_30
          have m9_v31 := m9.keep K30 (ninS (Ne.symm m19) (ninS m35 nin0))
          have m10_v32 := m10.keep K30 (ninS (Ne.symm m21) (ninS m36 nin0))
          have m11_v33 := m11.keep K30 (ninS (Ne.symm m23) (ninS m37 nin0))
          have m12_v34 := m12.keep K30
          have m13_v35 := m13.keep K30 (ninS (Ne.symm m29) (ninS m38 nin0))
          have m14_v36 := m14.keep K30 (ninS (Ne.symm m29) (ninS m38 nin0))
          have m47_v37 := m47.keep K30
          have m48_v38 := m48.keep K30 (ninS (Ne.symm m40) (ninS (Ne.symm m45) nin0))
          have m49_v39 := m49.keep K30 (ninS (Ne.symm m40) (ninS (Ne.symm m45) nin0))
          have m50_v40 := Nat.le_trans m50 K30.1
          refine law_k hw hx hby hml hown hZ X30 (size_nz p1) ?_
          intro u15_41
          show Go p e below _ T30 (mkF m 178 #[.val (.int x0), .val (.int x1), .val (.int x2), .val (.int x3), .val (.int x4), .val (.int (0 : Int32)), .val (.int (1 : Int32)), .val (.int (0 : Int32)), .val (.int u8_27), .val (.int (0 : Int32)), .val (.int w1), .val (.ref b2), .val (.ref b6), .val (.ref b35), .val (.ref b71), .val (.int u15_41), .unset] [])
          refine Go.s_iload X30 hx (hb hby at_178) (q := 180) rfl rfl ?_
          refine Go.s_ifYes X30 hx (hb hby at_180) (q := 192) (by decide) (by decide) ((if0 _ _).trans (teq (by decide : (0 : Int32) = (0 : Int32))).1) ?_
          refine Go.s_iload X30 hx (hb hby at_192) (q := 194) rfl rfl ?_
          refine Go.s_ifYes X30 hx (hb hby at_194) (q := 204) (by decide) (by decide) ((if0 _ _).trans (teq (by decide : (0 : Int32) = (0 : Int32))).1) ?_
          refine Go.s_iload X30 hx (hb hby at_204) (q := 206) rfl rfl ?_
          refine Go.s_ifNo X30 hx (hb hby at_206) (q := 209) rfl ((if0 _ _).trans (feq (by decide : ¬ ((1 : Int32) = (0 : Int32)))).1) ?_
          refine Go.s_iload X30 hx (hb hby at_209) (q := 211) rfl rfl ?_
          refine Go.s_ifYes X30 hx (hb hby at_211) (q := 221) (by decide) (by decide) ((if0 _ _).trans (teq (by decide : (0 : Int32) = (0 : Int32))).1) ?_
          refine Go.s_iconst X30 hx (hb hby at_221) (q := 222) rfl (z := 1) rfl ?_
          refine Go.s_goto X30 hx (hb hby at_222) (q := 226) (by decide) (by decide) ?_
          refine Go.s_istore X30 hx (hb hby at_226) (q := 228) rfl (l' := #[.val (.int x0), .val (.int x1), .val (.int x2), .val (.int x3), .val (.int x4), .val (.int (0 : Int32)), .val (.int (1 : Int32)), .val (.int (0 : Int32)), .val (.int u8_27), .val (.int (0 : Int32)), .val (.int w1), .val (.ref b2), .val (.ref b6), .val (.ref b35), .val (.ref b71), .val (.int u15_41), .val (.int (1 : Int32))]) rfl ?_
          refine Go.s_aload X30 hx (hb hby at_228) (q := 230) rfl rfl rfl ?_
          refine Go.s_aload X30 hx (hb hby at_230) (q := 232) rfl rfl rfl ?_
          refine Go.callV (y := mn_5) (z := mn_5) X30 hx hZ hown (w_ hw 40 rfl) (w_ hw 41 rfl) (notFace_of_selects (args := #[]) (mvT hZ (w_ hw 43 rfl))) (w_ hw 43 rfl) (w_ hw 42 rfl) (w_ hw 44 rfl) (w_ hw 8 rfl) (by decide) rfl f30_0 (argsL := [(.ref b6)]) (rest := []) (rm_holds_17 l Z a0 hw b2 b0_30 b1_30 b2_30 b6 b35 kk4_30 T30.heap n0 m50_v40 f30_8 f30_9 m14_v36 f30_11 f30_12 ne_b2_b0_30 ne_b2_b1_30 ne_b2_b2_30 m34 m29 f30_16 f30_17 f30_18 ne_b6_b0_30 ne_b6_b1_30 ne_b6_b2_30 m38 ne_b35_b0_30 ne_b35_b1_30 ne_b35_b2_30) (by rw [hml]; rfl) (lenOf pd_6 rfl) rfl (hb hby at_232) (by decide) (by decide) (by decide) (by decide) ?_
          intro r42 T42 L42 q42 X42
          obtain ⟨rfl, rfl, e42⟩ := q42
          rw [List.append_nil] at X42
          show Go p e below _ T42 (mkF m 235 #[.val (.int x0), .val (.int x1), .val (.int x2), .val (.int x3), .val (.int x4), .val (.int (0 : Int32)), .val (.int (1 : Int32)), .val (.int (0 : Int32)), .val (.int u8_27), .val (.int (0 : Int32)), .val (.int w1), .val (.ref b2), .val (.ref b6), .val (.ref b35), .val (.ref b71), .val (.int u15_41), .val (.int (1 : Int32))] [(.int (0 : Int32))])
          refine Go.s_iload X42 hx (hb hby at_235) (q := 237) rfl rfl ?_
          refine Go.s_icmpNo X42 hx (hb hby at_237) (q := 240) rfl (teq (by decide : (0 : Int32) = (0 : Int32))).2 ?_
          refine Go.s_aload X42 hx (hb hby at_240) (q := 242) rfl rfl rfl ?_
          refine Go.s_aload X42 hx (hb hby at_242) (q := 244) rfl rfl rfl ?_
          refine Go.callV (y := mn_5) (z := mn_5) X42 hx hZ hown (w_ hw 40 rfl) (w_ hw 41 rfl) (notFace_of_selects (args := #[]) (mvT hZ (w_ hw 43 rfl))) (w_ hw 43 rfl) (w_ hw 42 rfl) (w_ hw 44 rfl) (w_ hw 8 rfl) (by decide) e42 f30_0 (argsL := [(.ref b35)]) (rest := []) (rm_holds_16 l Z a0 hw b2 b0_30 b1_30 b2_30 b35 kk4_30 T30.heap n0 m50_v40 f30_8 f30_9 f30_11 f30_12 ne_b2_b0_30 ne_b2_b1_30 ne_b2_b2_30 m34 f30_16 f30_17 f30_18 ne_b35_b0_30 ne_b35_b1_30 ne_b35_b2_30) (by rw [hml]; rfl) (lenOf pd_6 rfl) rfl (hb hby at_244) (by decide) (by decide) (by decide) (by decide) ?_
          intro r43 T43 L43 q43 X43
          obtain ⟨rfl, rfl, e43⟩ := q43
          rw [List.append_nil] at X43
          show Go p e below _ T43 (mkF m 247 #[.val (.int x0), .val (.int x1), .val (.int x2), .val (.int x3), .val (.int x4), .val (.int (0 : Int32)), .val (.int (1 : Int32)), .val (.int (0 : Int32)), .val (.int u8_27), .val (.int (0 : Int32)), .val (.int w1), .val (.ref b2), .val (.ref b6), .val (.ref b35), .val (.ref b71), .val (.int u15_41), .val (.int (1 : Int32))] [(.int (1 : Int32))])
          refine Go.s_iload X43 hx (hb hby at_247) (q := 249) rfl rfl ?_
          refine Go.s_icmpNo X43 hx (hb hby at_249) (q := 252) rfl (teq (by decide : (1 : Int32) = (1 : Int32))).2 ?_
          refine Go.s_aload X43 hx (hb hby at_252) (q := 254) rfl rfl rfl ?_
          refine Go.s_aload X43 hx (hb hby at_254) (q := 256) rfl rfl rfl ?_
          refine Go.callV (y := mn_5) (z := mn_5) X43 hx hZ hown (w_ hw 40 rfl) (w_ hw 41 rfl) (notFace_of_selects (args := #[]) (mvT hZ (w_ hw 43 rfl))) (w_ hw 43 rfl) (w_ hw 42 rfl) (w_ hw 44 rfl) (w_ hw 8 rfl) (by decide) e43 f30_0 (argsL := [(.ref b71)]) (rest := []) (rm_holds_18 l Z a0 hw b2 b0_30 b1_30 b2_30 b71 b35 kk4_30 T30.heap n0 m50_v40 f30_8 f30_9 m49_v39 f30_11 f30_12 ne_b2_b0_30 ne_b2_b1_30 ne_b2_b2_30 m34 m40 f30_16 f30_17 f30_18 ne_b71_b0_30 ne_b71_b1_30 ne_b71_b2_30 ne_b35_b0_30 ne_b35_b1_30 ne_b35_b2_30 m45) (by rw [hml]; rfl) (lenOf pd_6 rfl) rfl (hb hby at_256) (by decide) (by decide) (by decide) (by decide) ?_
          intro r44 T44 L44 q44 X44
          obtain ⟨rfl, rfl, e44⟩ := q44
          rw [List.append_nil] at X44
          show Go p e below _ T44 (mkF m 259 #[.val (.int x0), .val (.int x1), .val (.int x2), .val (.int x3), .val (.int x4), .val (.int (0 : Int32)), .val (.int (1 : Int32)), .val (.int (0 : Int32)), .val (.int u8_27), .val (.int (0 : Int32)), .val (.int w1), .val (.ref b2), .val (.ref b6), .val (.ref b35), .val (.ref b71), .val (.int u15_41), .val (.int (1 : Int32))] [(.int (0 : Int32))])
          refine Go.s_iload X44 hx (hb hby at_259) (q := 261) rfl rfl ?_
          refine Go.s_icmpNo X44 hx (hb hby at_261) (q := 264) rfl (teq (by decide : (0 : Int32) = (0 : Int32))).2 ?_
          refine Go.s_iconst X44 hx (hb hby at_264) (q := 265) rfl (z := 1) rfl ?_
          refine Go.s_goto X44 hx (hb hby at_265) (q := 269) (by decide) (by decide) ?_
          refine Go.retN X44 hx hlk hret (by simp) (hb hby at_269) (by decide) (by decide) ?_
          try rw [e44]
          exact ⟨by decide, N30⟩
        · -- pc 62: not (x0 &&& (16 : Int32)) = (0 : Int32)
          refine Go.s_ifNo X0 hx (hb hby at_62) (q := 65) rfl ((if0 _ _).trans (feq c62_28).1) ?_
          refine Go.s_iconst X0 hx (hb hby at_65) (q := 66) rfl (z := 1) rfl ?_
          refine Go.s_goto X0 hx (hb hby at_66) (q := 70) (by decide) (by decide) ?_
          refine Go.s_istore X0 hx (hb hby at_70) (q := 72) rfl (l' := #[.val (.int x0), .val (.int x1), .val (.int x2), .val (.int x3), .val (.int x4), .val (.int (0 : Int32)), .val (.int (1 : Int32)), .val (.int (0 : Int32)), .val (.int u8_27), .val (.int (1 : Int32)), .unset, .unset, .unset, .unset, .unset, .unset, .unset]) rfl ?_
          refine law_mid hw hx hby hml hown hZ X0 e0 Z0 ?_
          intro T45 h45 LL45 w1 b2 b6 b35 b71 b2_4 b1_4 b0_4 kk3_4 w20 w93 X45 e45 N45 p1 p20 p93 m0 m1 m2 m3 m4 m5 m6 m7 m8 m9 m10 m11 m12 m13 m14 m15 m16 m17 m18 m19 m20 m21 m22 m23 m24 m25 m26 m27 m28 m29 m30 m31 m32 m33 m34 m35 m36 m37 m38 m39 m40 m41 m42 m43 m44 m45 m46 m47 m48 m49 m50
          refine Go.s_iload X45 hx (hb hby at_132) (q := 134) rfl rfl ?_
          refine Go.s_ifYes X45 hx (hb hby at_134) (q := 144) (by decide) (by decide) ((if0 _ _).trans (teq (by decide : (0 : Int32) = (0 : Int32))).1) ?_
          refine Go.s_iload X45 hx (hb hby at_144) (q := 146) rfl rfl ?_
          refine Go.s_ifNo X45 hx (hb hby at_146) (q := 149) rfl ((if0 _ _).trans (feq (by decide : ¬ ((1 : Int32) = (0 : Int32)))).1) ?_
          refine Go.s_aload X45 hx (hb hby at_149) (q := 151) rfl rfl rfl ?_
          refine Go.s_aload X45 hx (hb hby at_151) (q := 153) rfl rfl rfl ?_
          refine Go.callV (y := mn_6) (z := mn_6) X45 hx hZ hown (w_ hw 49 rfl) (w_ hw 50 rfl) (notFace_of_selects (args := #[]) (mvT hZ (w_ hw 52 rfl))) (w_ hw 52 rfl) (w_ hw 51 rfl) (w_ hw 53 rfl) (w_ hw 8 rfl) (by decide) e45 m0 (argsL := [(.ref b35)]) (rest := []) (rm_add_10 l Z a0 hw b2 b0_4 b1_4 b2_4 b35 w1 kk3_4 h45 n0 m50 m0 m15 m1 m2 m3 m4 m5 m6 m7 m8 m16 m17 m9 m10 m11 m25 m19 m21 m23 m34 m26 m27 m35 m28 m36 m37 m18 m20 m22 m24 m39) (by rw [hml]; rfl) (lenOf pd_5 rfl) rfl (hb hby at_153) (by decide) (by decide) (by decide) (by decide) ?_
          intro r46 T46 L46 q46 X46
          obtain ⟨b0_46, b1_46, b2_46, w3_46, kk4_46, rfl, N46q, K46, sz_b0_46, sz_b1_46, sz_b2_46, f46_0, f46_1, f46_2, f46_3, f46_4, f46_5, f46_6, f46_7, f46_8, f46_9, f46_10, f46_11, f46_12, f46_13, f46_14, f46_15, f46_16, f46_17, f46_18⟩ := q46
          have N46 := Fr.app N45 N46q
          have ne_b2_b0_46 : b2 ≠ b0_46 := Nat.ne_of_lt (Nat.lt_of_lt_of_le m0.lt sz_b0_46)
          have ne_b0_4_b0_46 : b0_4 ≠ b0_46 := Nat.ne_of_lt (Nat.lt_of_lt_of_le m9.lt sz_b0_46)
          have ne_b1_4_b0_46 : b1_4 ≠ b0_46 := Nat.ne_of_lt (Nat.lt_of_lt_of_le m10.lt sz_b0_46)
          have ne_b2_4_b0_46 : b2_4 ≠ b0_46 := Nat.ne_of_lt (Nat.lt_of_lt_of_le m11.lt sz_b0_46)
          have ne_b6_b0_46 : b6 ≠ b0_46 := Nat.ne_of_lt (Nat.lt_of_lt_of_le m12.lt sz_b0_46)
          have ne_b35_b0_46 : b35 ≠ b0_46 := Nat.ne_of_lt (Nat.lt_of_lt_of_le m15.lt sz_b0_46)
          have ne_b71_b0_46 : b71 ≠ b0_46 := Nat.ne_of_lt (Nat.lt_of_lt_of_le m47.lt sz_b0_46)
          have g_b0_46 : n0 ≤ b0_46 := Nat.le_trans m50 sz_b0_46
          have ne_b2_b1_46 : b2 ≠ b1_46 := Nat.ne_of_lt (Nat.lt_of_lt_of_le m0.lt sz_b1_46)
          have ne_b0_4_b1_46 : b0_4 ≠ b1_46 := Nat.ne_of_lt (Nat.lt_of_lt_of_le m9.lt sz_b1_46)
          have ne_b1_4_b1_46 : b1_4 ≠ b1_46 := Nat.ne_of_lt (Nat.lt_of_lt_of_le m10.lt sz_b1_46)
          have ne_b2_4_b1_46 : b2_4 ≠ b1_46 := Nat.ne_of_lt (Nat.lt_of_lt_of_le m11.lt sz_b1_46)
          have ne_b6_b1_46 : b6 ≠ b1_46 := Nat.ne_of_lt (Nat.lt_of_lt_of_le m12.lt sz_b1_46)
          have ne_b35_b1_46 : b35 ≠ b1_46 := Nat.ne_of_lt (Nat.lt_of_lt_of_le m15.lt sz_b1_46)
          have ne_b71_b1_46 : b71 ≠ b1_46 := Nat.ne_of_lt (Nat.lt_of_lt_of_le m47.lt sz_b1_46)
          have g_b1_46 : n0 ≤ b1_46 := Nat.le_trans m50 sz_b1_46
          have ne_b2_b2_46 : b2 ≠ b2_46 := Nat.ne_of_lt (Nat.lt_of_lt_of_le m0.lt sz_b2_46)
          have ne_b0_4_b2_46 : b0_4 ≠ b2_46 := Nat.ne_of_lt (Nat.lt_of_lt_of_le m9.lt sz_b2_46)
          have ne_b1_4_b2_46 : b1_4 ≠ b2_46 := Nat.ne_of_lt (Nat.lt_of_lt_of_le m10.lt sz_b2_46)
          have ne_b2_4_b2_46 : b2_4 ≠ b2_46 := Nat.ne_of_lt (Nat.lt_of_lt_of_le m11.lt sz_b2_46)
          have ne_b6_b2_46 : b6 ≠ b2_46 := Nat.ne_of_lt (Nat.lt_of_lt_of_le m12.lt sz_b2_46)
          have ne_b35_b2_46 : b35 ≠ b2_46 := Nat.ne_of_lt (Nat.lt_of_lt_of_le m15.lt sz_b2_46)
          have ne_b71_b2_46 : b71 ≠ b2_46 := Nat.ne_of_lt (Nat.lt_of_lt_of_le m47.lt sz_b2_46)
          have g_b2_46 : n0 ≤ b2_46 := Nat.le_trans m50 sz_b2_46
          have m9_v47 := m9.keep K46 (ninS (Ne.symm m19) (ninS m35 nin0))
          have m10_v48 := m10.keep K46 (ninS (Ne.symm m21) (ninS m36 nin0))
          have m11_v49 := m11.keep K46 (ninS (Ne.symm m23) (ninS m37 nin0))
          have m12_v50 := m12.keep K46
          have m13_v51 := m13.keep K46 (ninS (Ne.symm m29) (ninS m38 nin0))
          have m14_v52 := m14.keep K46 (ninS (Ne.symm m29) (ninS m38 nin0))
          have m47_v53 := m47.keep K46
          have m48_v54 := m48.keep K46 (ninS (Ne.symm m40) (ninS (Ne.symm m45) nin0))
          have m49_v55 := m49.keep K46 (ninS (Ne.symm m40) (ninS (Ne.symm m45) nin0))
          have m50_v56 := Nat.le_trans m50 K46.1
          refine law_k hw hx hby hml hown hZ X46 (size_nz p1) ?_
          intro u15_57
          show Go p e below _ T46 (mkF m 178 #[.val (.int x0), .val (.int x1), .val (.int x2), .val (.int x3), .val (.int x4), .val (.int (0 : Int32)), .val (.int (1 : Int32)), .val (.int (0 : Int32)), .val (.int u8_27), .val (.int (1 : Int32)), .val (.int w1), .val (.ref b2), .val (.ref b6), .val (.ref b35), .val (.ref b71), .val (.int u15_57), .unset] [])
          refine Go.s_iload X46 hx (hb hby at_178) (q := 180) rfl rfl ?_
          refine Go.s_ifYes X46 hx (hb hby at_180) (q := 192) (by decide) (by decide) ((if0 _ _).trans (teq (by decide : (0 : Int32) = (0 : Int32))).1) ?_
          refine Go.s_iload X46 hx (hb hby at_192) (q := 194) rfl rfl ?_
          refine Go.s_ifNo X46 hx (hb hby at_194) (q := 197) rfl ((if0 _ _).trans (feq (by decide : ¬ ((1 : Int32) = (0 : Int32)))).1) ?_
          refine Go.s_aload X46 hx (hb hby at_197) (q := 199) rfl rfl rfl ?_
          refine Go.s_aload X46 hx (hb hby at_199) (q := 201) rfl rfl rfl ?_
          refine Go.callV (y := mn_6) (z := mn_6) X46 hx hZ hown (w_ hw 49 rfl) (w_ hw 50 rfl) (notFace_of_selects (args := #[]) (mvT hZ (w_ hw 52 rfl))) (w_ hw 52 rfl) (w_ hw 51 rfl) (w_ hw 53 rfl) (w_ hw 8 rfl) (by decide) rfl f46_0 (argsL := [(.ref b71)]) (rest := []) (rm_add_22 l Z a0 hw b2 b0_46 b1_46 b2_46 b71 w3_46 w93 kk4_46 b35 T46.heap n0 m50_v56 f46_0 m47_v53 f46_2 f46_3 f46_4 f46_5 f46_6 f46_7 f46_8 f46_9 m48_v54 m49_v55 f46_12 f46_13 f46_14 f46_15 ne_b2_b0_46 ne_b2_b1_46 ne_b2_b2_46 m40 f46_16 f46_17 f46_18 ne_b71_b0_46 ne_b71_b1_46 ne_b71_b2_46 m18 g_b0_46 g_b1_46 g_b2_46 m46) (by rw [hml]; rfl) (lenOf pd_5 rfl) rfl (hb hby at_201) (by decide) (by decide) (by decide) (by decide) ?_
          intro r58 T58 L58 q58 X58
          obtain ⟨w0_58, rfl, N58q, K58, f58_0, f58_1, f58_2, f58_3, f58_4, f58_5, f58_6, f58_7, f58_8, f58_9, f58_10, f58_11, f58_12, f58_13, f58_14, f58_15⟩ := q58
          have N58 := Fr.app N46 N58q
          have m9_v59 := m9_v47.keep K58 (ninS (Ne.symm m19) (ninS ne_b0_4_b0_46 (ninS ne_b0_4_b1_46 (ninS ne_b0_4_b2_46 (ninS m41 nin0)))))
          have m10_v60 := m10_v48.keep K58 (ninS (Ne.symm m21) (ninS ne_b1_4_b0_46 (ninS ne_b1_4_b1_46 (ninS ne_b1_4_b2_46 (ninS m42 nin0)))))
          have m11_v61 := m11_v49.keep K58 (ninS (Ne.symm m23) (ninS ne_b2_4_b0_46 (ninS ne_b2_4_b1_46 (ninS ne_b2_4_b2_46 (ninS m43 nin0)))))
          have m12_v62 := m12_v50.keep K58
          have m13_v63 := m13_v51.keep K58 (ninS (Ne.symm m29) (ninS ne_b6_b0_46 (ninS ne_b6_b1_46 (ninS ne_b6_b2_46 (ninS m44 nin0)))))
          have m14_v64 := m14_v52.keep K58 (ninS (Ne.symm m29) (ninS ne_b6_b0_46 (ninS ne_b6_b1_46 (ninS ne_b6_b2_46 (ninS m44 nin0)))))
          have m50_v65 := Nat.le_trans m50_v56 K58.1
          have f46_1_v66 := f46_1.keep K58
          have f46_10_v67 := f46_10.keep K58 (ninS (Ne.symm m34) (ninS ne_b35_b0_46 (ninS ne_b35_b1_46 (ninS ne_b35_b2_46 (ninS m45 nin0)))))
          have f46_11_v68 := f46_11.keep K58 (ninS (Ne.symm m34) (ninS ne_b35_b0_46 (ninS ne_b35_b1_46 (ninS ne_b35_b2_46 (ninS m45 nin0)))))
          show Go p e below _ T58 (mkF m 204 #[.val (.int x0), .val (.int x1), .val (.int x2), .val (.int x3), .val (.int x4), .val (.int (0 : Int32)), .val (.int (1 : Int32)), .val (.int (0 : Int32)), .val (.int u8_27), .val (.int (1 : Int32)), .val (.int w1), .val (.ref b2), .val (.ref b6), .val (.ref b35), .val (.ref b71), .val (.int u15_57), .unset] [])
          refine Go.s_iload X58 hx (hb hby at_204) (q := 206) rfl rfl ?_
          refine Go.s_ifNo X58 hx (hb hby at_206) (q := 209) rfl ((if0 _ _).trans (feq (by decide : ¬ ((1 : Int32) = (0 : Int32)))).1) ?_
          refine Go.s_iload X58 hx (hb hby at_209) (q := 211) rfl rfl ?_
          refine Go.s_ifYes X58 hx (hb hby at_211) (q := 221) (by decide) (by decide) ((if0 _ _).trans (teq (by decide : (0 : Int32) = (0 : Int32))).1) ?_
          refine Go.s_iconst X58 hx (hb hby at_221) (q := 222) rfl (z := 1) rfl ?_
          refine Go.s_goto X58 hx (hb hby at_222) (q := 226) (by decide) (by decide) ?_
          refine Go.s_istore X58 hx (hb hby at_226) (q := 228) rfl (l' := #[.val (.int x0), .val (.int x1), .val (.int x2), .val (.int x3), .val (.int x4), .val (.int (0 : Int32)), .val (.int (1 : Int32)), .val (.int (0 : Int32)), .val (.int u8_27), .val (.int (1 : Int32)), .val (.int w1), .val (.ref b2), .val (.ref b6), .val (.ref b35), .val (.ref b71), .val (.int u15_57), .val (.int (1 : Int32))]) rfl ?_
          refine Go.s_aload X58 hx (hb hby at_228) (q := 230) rfl rfl rfl ?_
          refine Go.s_aload X58 hx (hb hby at_230) (q := 232) rfl rfl rfl ?_
          refine Go.callV (y := mn_5) (z := mn_5) X58 hx hZ hown (w_ hw 40 rfl) (w_ hw 41 rfl) (notFace_of_selects (args := #[]) (mvT hZ (w_ hw 43 rfl))) (w_ hw 43 rfl) (w_ hw 42 rfl) (w_ hw 44 rfl) (w_ hw 8 rfl) (by decide) rfl f58_0 (argsL := [(.ref b6)]) (rest := []) (rm_holds_26 l Z a0 hw b2 b0_46 b1_46 b2_46 b6 b35 b71 kk4_46 T58.heap n0 m50_v65 f58_8 f58_9 m14_v64 f46_11_v68 f58_11 f58_12 ne_b2_b0_46 ne_b2_b1_46 ne_b2_b2_46 m34 m29 m40 f46_16 f46_17 f46_18 ne_b6_b0_46 ne_b6_b1_46 ne_b6_b2_46 m38 m44 ne_b35_b0_46 ne_b35_b1_46 ne_b35_b2_46 m45 ne_b71_b0_46 ne_b71_b1_46 ne_b71_b2_46) (by rw [hml]; rfl) (lenOf pd_6 rfl) rfl (hb hby at_232) (by decide) (by decide) (by decide) (by decide) ?_
          intro r69 T69 L69 q69 X69
          obtain ⟨rfl, rfl, e69⟩ := q69
          rw [List.append_nil] at X69
          show Go p e below _ T69 (mkF m 235 #[.val (.int x0), .val (.int x1), .val (.int x2), .val (.int x3), .val (.int x4), .val (.int (0 : Int32)), .val (.int (1 : Int32)), .val (.int (0 : Int32)), .val (.int u8_27), .val (.int (1 : Int32)), .val (.int w1), .val (.ref b2), .val (.ref b6), .val (.ref b35), .val (.ref b71), .val (.int u15_57), .val (.int (1 : Int32))] [(.int (0 : Int32))])
          refine Go.s_iload X69 hx (hb hby at_235) (q := 237) rfl rfl ?_
          refine Go.s_icmpNo X69 hx (hb hby at_237) (q := 240) rfl (teq (by decide : (0 : Int32) = (0 : Int32))).2 ?_
          refine Go.s_aload X69 hx (hb hby at_240) (q := 242) rfl rfl rfl ?_
          refine Go.s_aload X69 hx (hb hby at_242) (q := 244) rfl rfl rfl ?_
          refine Go.callV (y := mn_5) (z := mn_5) X69 hx hZ hown (w_ hw 40 rfl) (w_ hw 41 rfl) (notFace_of_selects (args := #[]) (mvT hZ (w_ hw 43 rfl))) (w_ hw 43 rfl) (w_ hw 42 rfl) (w_ hw 44 rfl) (w_ hw 8 rfl) (by decide) e69 f58_0 (argsL := [(.ref b35)]) (rest := []) (rm_holds_27 l Z a0 hw b2 b0_46 b1_46 b2_46 b35 b71 kk4_46 T58.heap n0 m50_v65 f58_8 f58_9 f46_11_v68 f58_11 f58_12 ne_b2_b0_46 ne_b2_b1_46 ne_b2_b2_46 m34 m40 f46_16 f46_17 f46_18 ne_b35_b0_46 ne_b35_b1_46 ne_b35_b2_46 m45 ne_b71_b0_46 ne_b71_b1_46 ne_b71_b2_46) (by rw [hml]; rfl) (lenOf pd_6 rfl) rfl (hb hby at_244) (by decide) (by decide) (by decide) (by decide) ?_
          intro r70 T70 L70 q70 X70
          obtain ⟨rfl, rfl, e70⟩ := q70
          rw [List.append_nil] at X70
          show Go p e below _ T70 (mkF m 247 #[.val (.int x0), .val (.int x1), .val (.int x2), .val (.int x3), .val (.int x4), .val (.int (0 : Int32)), .val (.int (1 : Int32)), .val (.int (0 : Int32)), .val (.int u8_27), .val (.int (1 : Int32)), .val (.int w1), .val (.ref b2), .val (.ref b6), .val (.ref b35), .val (.ref b71), .val (.int u15_57), .val (.int (1 : Int32))] [(.int (1 : Int32))])
          refine Go.s_iload X70 hx (hb hby at_247) (q := 249) rfl rfl ?_
          refine Go.s_icmpNo X70 hx (hb hby at_249) (q := 252) rfl (teq (by decide : (1 : Int32) = (1 : Int32))).2 ?_
          refine Go.s_aload X70 hx (hb hby at_252) (q := 254) rfl rfl rfl ?_
          refine Go.s_aload X70 hx (hb hby at_254) (q := 256) rfl rfl rfl ?_
          refine Go.callV (y := mn_5) (z := mn_5) X70 hx hZ hown (w_ hw 40 rfl) (w_ hw 41 rfl) (notFace_of_selects (args := #[]) (mvT hZ (w_ hw 43 rfl))) (w_ hw 43 rfl) (w_ hw 42 rfl) (w_ hw 44 rfl) (w_ hw 8 rfl) (by decide) e70 f58_0 (argsL := [(.ref b71)]) (rest := []) (rm_holds_28 l Z a0 hw b2 b0_46 b1_46 b2_46 b71 b35 kk4_46 T58.heap n0 m50_v65 f58_8 f58_9 f58_11 f46_11_v68 f58_12 ne_b2_b0_46 ne_b2_b1_46 ne_b2_b2_46 m34 m40 f46_16 f46_17 f46_18 ne_b71_b0_46 ne_b71_b1_46 ne_b71_b2_46 ne_b35_b0_46 ne_b35_b1_46 ne_b35_b2_46 m45) (by rw [hml]; rfl) (lenOf pd_6 rfl) rfl (hb hby at_256) (by decide) (by decide) (by decide) (by decide) ?_
          intro r71 T71 L71 q71 X71
          obtain ⟨rfl, rfl, e71⟩ := q71
          rw [List.append_nil] at X71
          show Go p e below _ T71 (mkF m 259 #[.val (.int x0), .val (.int x1), .val (.int x2), .val (.int x3), .val (.int x4), .val (.int (0 : Int32)), .val (.int (1 : Int32)), .val (.int (0 : Int32)), .val (.int u8_27), .val (.int (1 : Int32)), .val (.int w1), .val (.ref b2), .val (.ref b6), .val (.ref b35), .val (.ref b71), .val (.int u15_57), .val (.int (1 : Int32))] [(.int (1 : Int32))])
          refine Go.s_iload X71 hx (hb hby at_259) (q := 261) rfl rfl ?_
          refine Go.s_icmpNo X71 hx (hb hby at_261) (q := 264) rfl (teq (by decide : (1 : Int32) = (1 : Int32))).2 ?_
          refine Go.s_iconst X71 hx (hb hby at_264) (q := 265) rfl (z := 1) rfl ?_
          refine Go.s_goto X71 hx (hb hby at_265) (q := 269) (by decide) (by decide) ?_
          refine Go.retN X71 hx hlk hret (by simp) (hb hby at_269) (by decide) (by decide) ?_
          try rw [e71]
          exact ⟨by decide, N58⟩
      · -- pc 34: not (x0 &&& (4 : Int32)) = (0 : Int32)
        refine Go.s_ifNo X0 hx (hb hby at_34) (q := 37) rfl ((if0 _ _).trans (feq c34_26).1) ?_
        refine Go.s_iconst X0 hx (hb hby at_37) (q := 38) rfl (z := 1) rfl ?_
        refine Go.s_goto X0 hx (hb hby at_38) (q := 42) (by decide) (by decide) ?_
        refine Go.s_istore X0 hx (hb hby at_42) (q := 44) rfl (l' := #[.val (.int x0), .val (.int x1), .val (.int x2), .val (.int x3), .val (.int x4), .val (.int (0 : Int32)), .val (.int (1 : Int32)), .val (.int (1 : Int32)), .unset, .unset, .unset, .unset, .unset, .unset, .unset, .unset, .unset]) rfl ?_
        refine law_f8 hw hx hby hml hown hZ X0 ?_
        intro u8_72
        show Go p e below _ T0 (mkF m 58 #[.val (.int x0), .val (.int x1), .val (.int x2), .val (.int x3), .val (.int x4), .val (.int (0 : Int32)), .val (.int (1 : Int32)), .val (.int (1 : Int32)), .val (.int u8_72), .unset, .unset, .unset, .unset, .unset, .unset, .unset, .unset] [])
        refine Go.s_iloadN X0 hx (hb hby at_58) (q := 59) rfl rfl ?_
        refine Go.s_bipush X0 hx (hb hby at_59) (q := 61) rfl (z := 16) rfl ?_
        refine Go.s_iand X0 hx (hb hby at_61) (q := 62) rfl ?_
        by_cases c62_73 : (x0 &&& (16 : Int32)) = (0 : Int32)
        · -- pc 62: (x0 &&& (16 : Int32)) = (0 : Int32)
          refine Go.s_ifYes X0 hx (hb hby at_62) (q := 69) (by decide) (by decide) ((if0 _ _).trans (teq c62_73).1) ?_
          refine Go.s_iconst X0 hx (hb hby at_69) (q := 70) rfl (z := 0) rfl ?_
          refine Go.s_istore X0 hx (hb hby at_70) (q := 72) rfl (l' := #[.val (.int x0), .val (.int x1), .val (.int x2), .val (.int x3), .val (.int x4), .val (.int (0 : Int32)), .val (.int (1 : Int32)), .val (.int (1 : Int32)), .val (.int u8_72), .val (.int (0 : Int32)), .unset, .unset, .unset, .unset, .unset, .unset, .unset]) rfl ?_
          refine law_mid hw hx hby hml hown hZ X0 e0 Z0 ?_
          intro T74 h74 LL74 w1 b2 b6 b35 b71 b2_4 b1_4 b0_4 kk3_4 w20 w93 X74 e74 N74 p1 p20 p93 m0 m1 m2 m3 m4 m5 m6 m7 m8 m9 m10 m11 m12 m13 m14 m15 m16 m17 m18 m19 m20 m21 m22 m23 m24 m25 m26 m27 m28 m29 m30 m31 m32 m33 m34 m35 m36 m37 m38 m39 m40 m41 m42 m43 m44 m45 m46 m47 m48 m49 m50
          refine Go.s_iload X74 hx (hb hby at_132) (q := 134) rfl rfl ?_
          refine Go.s_ifYes X74 hx (hb hby at_134) (q := 144) (by decide) (by decide) ((if0 _ _).trans (teq (by decide : (0 : Int32) = (0 : Int32))).1) ?_
          refine Go.s_iload X74 hx (hb hby at_144) (q := 146) rfl rfl ?_
          refine Go.s_ifNo X74 hx (hb hby at_146) (q := 149) rfl ((if0 _ _).trans (feq (by decide : ¬ ((1 : Int32) = (0 : Int32)))).1) ?_
          refine Go.s_aload X74 hx (hb hby at_149) (q := 151) rfl rfl rfl ?_
          refine Go.s_aload X74 hx (hb hby at_151) (q := 153) rfl rfl rfl ?_
          refine Go.callV (y := mn_6) (z := mn_6) X74 hx hZ hown (w_ hw 49 rfl) (w_ hw 50 rfl) (notFace_of_selects (args := #[]) (mvT hZ (w_ hw 52 rfl))) (w_ hw 52 rfl) (w_ hw 51 rfl) (w_ hw 53 rfl) (w_ hw 8 rfl) (by decide) e74 m0 (argsL := [(.ref b35)]) (rest := []) (rm_add_10 l Z a0 hw b2 b0_4 b1_4 b2_4 b35 w1 kk3_4 h74 n0 m50 m0 m15 m1 m2 m3 m4 m5 m6 m7 m8 m16 m17 m9 m10 m11 m25 m19 m21 m23 m34 m26 m27 m35 m28 m36 m37 m18 m20 m22 m24 m39) (by rw [hml]; rfl) (lenOf pd_5 rfl) rfl (hb hby at_153) (by decide) (by decide) (by decide) (by decide) ?_
          intro r75 T75 L75 q75 X75
          obtain ⟨b0_75, b1_75, b2_75, w3_75, kk4_75, rfl, N75q, K75, sz_b0_75, sz_b1_75, sz_b2_75, f75_0, f75_1, f75_2, f75_3, f75_4, f75_5, f75_6, f75_7, f75_8, f75_9, f75_10, f75_11, f75_12, f75_13, f75_14, f75_15, f75_16, f75_17, f75_18⟩ := q75
          have N75 := Fr.app N74 N75q
          have ne_b2_b0_75 : b2 ≠ b0_75 := Nat.ne_of_lt (Nat.lt_of_lt_of_le m0.lt sz_b0_75)
          have ne_b0_4_b0_75 : b0_4 ≠ b0_75 := Nat.ne_of_lt (Nat.lt_of_lt_of_le m9.lt sz_b0_75)
          have ne_b1_4_b0_75 : b1_4 ≠ b0_75 := Nat.ne_of_lt (Nat.lt_of_lt_of_le m10.lt sz_b0_75)
          have ne_b2_4_b0_75 : b2_4 ≠ b0_75 := Nat.ne_of_lt (Nat.lt_of_lt_of_le m11.lt sz_b0_75)
          have ne_b6_b0_75 : b6 ≠ b0_75 := Nat.ne_of_lt (Nat.lt_of_lt_of_le m12.lt sz_b0_75)
          have ne_b35_b0_75 : b35 ≠ b0_75 := Nat.ne_of_lt (Nat.lt_of_lt_of_le m15.lt sz_b0_75)
          have ne_b71_b0_75 : b71 ≠ b0_75 := Nat.ne_of_lt (Nat.lt_of_lt_of_le m47.lt sz_b0_75)
          have g_b0_75 : n0 ≤ b0_75 := Nat.le_trans m50 sz_b0_75
          have ne_b2_b1_75 : b2 ≠ b1_75 := Nat.ne_of_lt (Nat.lt_of_lt_of_le m0.lt sz_b1_75)
          have ne_b0_4_b1_75 : b0_4 ≠ b1_75 := Nat.ne_of_lt (Nat.lt_of_lt_of_le m9.lt sz_b1_75)
          have ne_b1_4_b1_75 : b1_4 ≠ b1_75 := Nat.ne_of_lt (Nat.lt_of_lt_of_le m10.lt sz_b1_75)
          have ne_b2_4_b1_75 : b2_4 ≠ b1_75 := Nat.ne_of_lt (Nat.lt_of_lt_of_le m11.lt sz_b1_75)
          have ne_b6_b1_75 : b6 ≠ b1_75 := Nat.ne_of_lt (Nat.lt_of_lt_of_le m12.lt sz_b1_75)
          have ne_b35_b1_75 : b35 ≠ b1_75 := Nat.ne_of_lt (Nat.lt_of_lt_of_le m15.lt sz_b1_75)
          have ne_b71_b1_75 : b71 ≠ b1_75 := Nat.ne_of_lt (Nat.lt_of_lt_of_le m47.lt sz_b1_75)
          have g_b1_75 : n0 ≤ b1_75 := Nat.le_trans m50 sz_b1_75
          have ne_b2_b2_75 : b2 ≠ b2_75 := Nat.ne_of_lt (Nat.lt_of_lt_of_le m0.lt sz_b2_75)
          have ne_b0_4_b2_75 : b0_4 ≠ b2_75 := Nat.ne_of_lt (Nat.lt_of_lt_of_le m9.lt sz_b2_75)
          have ne_b1_4_b2_75 : b1_4 ≠ b2_75 := Nat.ne_of_lt (Nat.lt_of_lt_of_le m10.lt sz_b2_75)
          have ne_b2_4_b2_75 : b2_4 ≠ b2_75 := Nat.ne_of_lt (Nat.lt_of_lt_of_le m11.lt sz_b2_75)
          have ne_b6_b2_75 : b6 ≠ b2_75 := Nat.ne_of_lt (Nat.lt_of_lt_of_le m12.lt sz_b2_75)
          have ne_b35_b2_75 : b35 ≠ b2_75 := Nat.ne_of_lt (Nat.lt_of_lt_of_le m15.lt sz_b2_75)
          have ne_b71_b2_75 : b71 ≠ b2_75 := Nat.ne_of_lt (Nat.lt_of_lt_of_le m47.lt sz_b2_75)
          have g_b2_75 : n0 ≤ b2_75 := Nat.le_trans m50 sz_b2_75
          have m9_v76 := m9.keep K75 (ninS (Ne.symm m19) (ninS m35 nin0))
          have m10_v77 := m10.keep K75 (ninS (Ne.symm m21) (ninS m36 nin0))
          have m11_v78 := m11.keep K75 (ninS (Ne.symm m23) (ninS m37 nin0))
          have m12_v79 := m12.keep K75
          have m13_v80 := m13.keep K75 (ninS (Ne.symm m29) (ninS m38 nin0))
          have m14_v81 := m14.keep K75 (ninS (Ne.symm m29) (ninS m38 nin0))
          have m47_v82 := m47.keep K75
          have m48_v83 := m48.keep K75 (ninS (Ne.symm m40) (ninS (Ne.symm m45) nin0))
          have m49_v84 := m49.keep K75 (ninS (Ne.symm m40) (ninS (Ne.symm m45) nin0))
          have m50_v85 := Nat.le_trans m50 K75.1
          refine law_k hw hx hby hml hown hZ X75 (size_nz p1) ?_
          intro u15_86
          by_cases ck_87 : u15_86 = w1
          ·
            subst ck_87
            show Go p e below _ T75 (mkF m 178 #[.val (.int x0), .val (.int x1), .val (.int x2), .val (.int x3), .val (.int x4), .val (.int (0 : Int32)), .val (.int (1 : Int32)), .val (.int (1 : Int32)), .val (.int u8_72), .val (.int (0 : Int32)), .val (.int u15_86), .val (.ref b2), .val (.ref b6), .val (.ref b35), .val (.ref b71), .val (.int u15_86), .unset] [])
            refine Go.s_iload X75 hx (hb hby at_178) (q := 180) rfl rfl ?_
            refine Go.s_ifNo X75 hx (hb hby at_180) (q := 183) rfl ((if0 _ _).trans (feq (by decide : ¬ ((1 : Int32) = (0 : Int32)))).1) ?_
            refine Go.s_aload X75 hx (hb hby at_183) (q := 185) rfl rfl rfl ?_
            refine Go.s_aload X75 hx (hb hby at_185) (q := 187) rfl rfl rfl ?_
            refine Go.s_iload X75 hx (hb hby at_187) (q := 189) rfl rfl ?_
            refine Go.callV (y := mn_10) (z := mn_10) X75 hx hZ hown (w_ hw 74 rfl) (w_ hw 75 rfl) (notFace_of_selects (args := #[]) (mvT hZ (w_ hw 77 rfl))) (w_ hw 77 rfl) (w_ hw 76 rfl) (w_ hw 78 rfl) (w_ hw 8 rfl) (by decide) rfl f75_0 (argsL := [(.ref b35), (.int u15_86)]) (rest := []) (rm_take_29 l Z a0 hw b2 b0_75 b1_75 b2_75 b35 w3_75 u15_86 kk4_75 T75.heap n0 m50_v85 f75_0 f75_1 f75_2 f75_3 f75_4 f75_5 f75_6 f75_7 f75_8 f75_9 f75_10 f75_11 f75_12 f75_13 f75_14 f75_15 ne_b2_b0_75 ne_b2_b1_75 ne_b2_b2_75 m34 f75_16 f75_17 f75_18 ne_b35_b0_75 ne_b35_b1_75 ne_b35_b2_75 m18 g_b0_75 g_b1_75 g_b2_75 m39 (sub_self u15_86)) (by rw [hml]; rfl) (lenOf pd_7 rfl) rfl (hb hby at_189) (by decide) (by decide) (by decide) (by decide) ?_
            intro r88 T88 L88 q88 X88
            obtain ⟨w0_88, w1_88, rfl, N88q, K88, f88_0, f88_1, f88_2, f88_3, f88_4, f88_5, f88_6, f88_7, f88_8, f88_9, f88_10, f88_11, f88_12, f88_13, f88_14, f88_15⟩ := q88
            have N88 := Fr.app N75 N88q
            have m9_v89 := m9_v76.keep K88 (ninS (Ne.symm m19) (ninS ne_b0_4_b0_75 (ninS ne_b0_4_b1_75 (ninS ne_b0_4_b2_75 (ninS m35 nin0)))))
            have m10_v90 := m10_v77.keep K88 (ninS (Ne.symm m21) (ninS ne_b1_4_b0_75 (ninS ne_b1_4_b1_75 (ninS ne_b1_4_b2_75 (ninS m36 nin0)))))
            have m11_v91 := m11_v78.keep K88 (ninS (Ne.symm m23) (ninS ne_b2_4_b0_75 (ninS ne_b2_4_b1_75 (ninS ne_b2_4_b2_75 (ninS m37 nin0)))))
            have m12_v92 := m12_v79.keep K88
            have m13_v93 := m13_v80.keep K88 (ninS (Ne.symm m29) (ninS ne_b6_b0_75 (ninS ne_b6_b1_75 (ninS ne_b6_b2_75 (ninS m38 nin0)))))
            have m14_v94 := m14_v81.keep K88 (ninS (Ne.symm m29) (ninS ne_b6_b0_75 (ninS ne_b6_b1_75 (ninS ne_b6_b2_75 (ninS m38 nin0)))))
            have m47_v95 := m47_v82.keep K88
            have m48_v96 := m48_v83.keep K88 (ninS (Ne.symm m40) (ninS ne_b71_b0_75 (ninS ne_b71_b1_75 (ninS ne_b71_b2_75 (ninS (Ne.symm m45) nin0)))))
            have m49_v97 := m49_v84.keep K88 (ninS (Ne.symm m40) (ninS ne_b71_b0_75 (ninS ne_b71_b1_75 (ninS ne_b71_b2_75 (ninS (Ne.symm m45) nin0)))))
            have m50_v98 := Nat.le_trans m50_v85 K88.1
            show Go p e below _ T88 (mkF m 192 #[.val (.int x0), .val (.int x1), .val (.int x2), .val (.int x3), .val (.int x4), .val (.int (0 : Int32)), .val (.int (1 : Int32)), .val (.int (1 : Int32)), .val (.int u8_72), .val (.int (0 : Int32)), .val (.int u15_86), .val (.ref b2), .val (.ref b6), .val (.ref b35), .val (.ref b71), .val (.int u15_86), .unset] [])
            refine Go.s_iload X88 hx (hb hby at_192) (q := 194) rfl rfl ?_
            refine Go.s_ifYes X88 hx (hb hby at_194) (q := 204) (by decide) (by decide) ((if0 _ _).trans (teq (by decide : (0 : Int32) = (0 : Int32))).1) ?_
            refine Go.s_iload X88 hx (hb hby at_204) (q := 206) rfl rfl ?_
            refine Go.s_ifNo X88 hx (hb hby at_206) (q := 209) rfl ((if0 _ _).trans (feq (by decide : ¬ ((1 : Int32) = (0 : Int32)))).1) ?_
            refine Go.s_iload X88 hx (hb hby at_209) (q := 211) rfl rfl ?_
            refine Go.s_ifNo X88 hx (hb hby at_211) (q := 214) rfl ((if0 _ _).trans (feq (by decide : ¬ ((1 : Int32) = (0 : Int32)))).1) ?_
            refine Go.s_iload X88 hx (hb hby at_214) (q := 216) rfl rfl ?_
            refine Go.s_iload X88 hx (hb hby at_216) (q := 218) rfl rfl ?_
            refine Go.s_icmpYes X88 hx (hb hby at_218) (q := 225) (by decide) (by decide) (teq (rfl : u15_86 = u15_86)).1 ?_
            refine Go.s_iconst X88 hx (hb hby at_225) (q := 226) rfl (z := 0) rfl ?_
            refine Go.s_istore X88 hx (hb hby at_226) (q := 228) rfl (l' := #[.val (.int x0), .val (.int x1), .val (.int x2), .val (.int x3), .val (.int x4), .val (.int (0 : Int32)), .val (.int (1 : Int32)), .val (.int (1 : Int32)), .val (.int u8_72), .val (.int (0 : Int32)), .val (.int u15_86), .val (.ref b2), .val (.ref b6), .val (.ref b35), .val (.ref b71), .val (.int u15_86), .val (.int (0 : Int32))]) rfl ?_
            refine Go.s_aload X88 hx (hb hby at_228) (q := 230) rfl rfl rfl ?_
            refine Go.s_aload X88 hx (hb hby at_230) (q := 232) rfl rfl rfl ?_
            refine Go.callV (y := mn_5) (z := mn_5) X88 hx hZ hown (w_ hw 40 rfl) (w_ hw 41 rfl) (notFace_of_selects (args := #[]) (mvT hZ (w_ hw 43 rfl))) (w_ hw 43 rfl) (w_ hw 42 rfl) (w_ hw 44 rfl) (w_ hw 8 rfl) (by decide) rfl f88_0 (argsL := [(.ref b6)]) (rest := []) (rm_holds_30 l Z a0 hw b2 b0_75 b1_75 b2_75 b6 kk4_75 T88.heap n0 m50_v98 f88_8 f88_9 m14_v94 f88_12 ne_b2_b0_75 ne_b2_b1_75 ne_b2_b2_75 m29 f75_16 f75_17 f75_18 ne_b6_b0_75 ne_b6_b1_75 ne_b6_b2_75) (by rw [hml]; rfl) (lenOf pd_6 rfl) rfl (hb hby at_232) (by decide) (by decide) (by decide) (by decide) ?_
            intro r99 T99 L99 q99 X99
            obtain ⟨rfl, rfl, e99⟩ := q99
            rw [List.append_nil] at X99
            show Go p e below _ T99 (mkF m 235 #[.val (.int x0), .val (.int x1), .val (.int x2), .val (.int x3), .val (.int x4), .val (.int (0 : Int32)), .val (.int (1 : Int32)), .val (.int (1 : Int32)), .val (.int u8_72), .val (.int (0 : Int32)), .val (.int u15_86), .val (.ref b2), .val (.ref b6), .val (.ref b35), .val (.ref b71), .val (.int u15_86), .val (.int (0 : Int32))] [(.int (0 : Int32))])
            refine Go.s_iload X99 hx (hb hby at_235) (q := 237) rfl rfl ?_
            refine Go.s_icmpNo X99 hx (hb hby at_237) (q := 240) rfl (teq (by decide : (0 : Int32) = (0 : Int32))).2 ?_
            refine Go.s_aload X99 hx (hb hby at_240) (q := 242) rfl rfl rfl ?_
            refine Go.s_aload X99 hx (hb hby at_242) (q := 244) rfl rfl rfl ?_
            refine Go.callV (y := mn_5) (z := mn_5) X99 hx hZ hown (w_ hw 40 rfl) (w_ hw 41 rfl) (notFace_of_selects (args := #[]) (mvT hZ (w_ hw 43 rfl))) (w_ hw 43 rfl) (w_ hw 42 rfl) (w_ hw 44 rfl) (w_ hw 8 rfl) (by decide) e99 f88_0 (argsL := [(.ref b35)]) (rest := []) (rm_holds_30 l Z a0 hw b2 b0_75 b1_75 b2_75 b35 kk4_75 T88.heap n0 m50_v98 f88_8 f88_9 f88_11 f88_12 ne_b2_b0_75 ne_b2_b1_75 ne_b2_b2_75 m34 f75_16 f75_17 f75_18 ne_b35_b0_75 ne_b35_b1_75 ne_b35_b2_75) (by rw [hml]; rfl) (lenOf pd_6 rfl) rfl (hb hby at_244) (by decide) (by decide) (by decide) (by decide) ?_
            intro r100 T100 L100 q100 X100
            obtain ⟨rfl, rfl, e100⟩ := q100
            rw [List.append_nil] at X100
            show Go p e below _ T100 (mkF m 247 #[.val (.int x0), .val (.int x1), .val (.int x2), .val (.int x3), .val (.int x4), .val (.int (0 : Int32)), .val (.int (1 : Int32)), .val (.int (1 : Int32)), .val (.int u8_72), .val (.int (0 : Int32)), .val (.int u15_86), .val (.ref b2), .val (.ref b6), .val (.ref b35), .val (.ref b71), .val (.int u15_86), .val (.int (0 : Int32))] [(.int (0 : Int32))])
            refine Go.s_iload X100 hx (hb hby at_247) (q := 249) rfl rfl ?_
            refine Go.s_icmpNo X100 hx (hb hby at_249) (q := 252) rfl (teq (by decide : (0 : Int32) = (0 : Int32))).2 ?_
            refine Go.s_aload X100 hx (hb hby at_252) (q := 254) rfl rfl rfl ?_
            refine Go.s_aload X100 hx (hb hby at_254) (q := 256) rfl rfl rfl ?_
            refine Go.callV (y := mn_5) (z := mn_5) X100 hx hZ hown (w_ hw 40 rfl) (w_ hw 41 rfl) (notFace_of_selects (args := #[]) (mvT hZ (w_ hw 43 rfl))) (w_ hw 43 rfl) (w_ hw 42 rfl) (w_ hw 44 rfl) (w_ hw 8 rfl) (by decide) e100 f88_0 (argsL := [(.ref b71)]) (rest := []) (rm_holds_30 l Z a0 hw b2 b0_75 b1_75 b2_75 b71 kk4_75 T88.heap n0 m50_v98 f88_8 f88_9 m49_v97 f88_12 ne_b2_b0_75 ne_b2_b1_75 ne_b2_b2_75 m40 f75_16 f75_17 f75_18 ne_b71_b0_75 ne_b71_b1_75 ne_b71_b2_75) (by rw [hml]; rfl) (lenOf pd_6 rfl) rfl (hb hby at_256) (by decide) (by decide) (by decide) (by decide) ?_
            intro r101 T101 L101 q101 X101
            obtain ⟨rfl, rfl, e101⟩ := q101
            rw [List.append_nil] at X101
            show Go p e below _ T101 (mkF m 259 #[.val (.int x0), .val (.int x1), .val (.int x2), .val (.int x3), .val (.int x4), .val (.int (0 : Int32)), .val (.int (1 : Int32)), .val (.int (1 : Int32)), .val (.int u8_72), .val (.int (0 : Int32)), .val (.int u15_86), .val (.ref b2), .val (.ref b6), .val (.ref b35), .val (.ref b71), .val (.int u15_86), .val (.int (0 : Int32))] [(.int (0 : Int32))])
            refine Go.s_iload X101 hx (hb hby at_259) (q := 261) rfl rfl ?_
            refine Go.s_icmpNo X101 hx (hb hby at_261) (q := 264) rfl (teq (by decide : (0 : Int32) = (0 : Int32))).2 ?_
            refine Go.s_iconst X101 hx (hb hby at_264) (q := 265) rfl (z := 1) rfl ?_
            refine Go.s_goto X101 hx (hb hby at_265) (q := 269) (by decide) (by decide) ?_
            refine Go.retN X101 hx hlk hret (by simp) (hb hby at_269) (by decide) (by decide) ?_
            try rw [e101]
            exact ⟨by decide, N88⟩
          ·
            show Go p e below _ T75 (mkF m 178 #[.val (.int x0), .val (.int x1), .val (.int x2), .val (.int x3), .val (.int x4), .val (.int (0 : Int32)), .val (.int (1 : Int32)), .val (.int (1 : Int32)), .val (.int u8_72), .val (.int (0 : Int32)), .val (.int w1), .val (.ref b2), .val (.ref b6), .val (.ref b35), .val (.ref b71), .val (.int u15_86), .unset] [])
            refine Go.s_iload X75 hx (hb hby at_178) (q := 180) rfl rfl ?_
            refine Go.s_ifNo X75 hx (hb hby at_180) (q := 183) rfl ((if0 _ _).trans (feq (by decide : ¬ ((1 : Int32) = (0 : Int32)))).1) ?_
            refine Go.s_aload X75 hx (hb hby at_183) (q := 185) rfl rfl rfl ?_
            refine Go.s_aload X75 hx (hb hby at_185) (q := 187) rfl rfl rfl ?_
            refine Go.s_iload X75 hx (hb hby at_187) (q := 189) rfl rfl ?_
            refine Go.callV (y := mn_10) (z := mn_10) X75 hx hZ hown (w_ hw 74 rfl) (w_ hw 75 rfl) (notFace_of_selects (args := #[]) (mvT hZ (w_ hw 77 rfl))) (w_ hw 77 rfl) (w_ hw 76 rfl) (w_ hw 78 rfl) (w_ hw 8 rfl) (by decide) rfl f75_0 (argsL := [(.ref b35), (.int u15_86)]) (rest := []) (rm_take_31 l Z a0 hw b2 b0_75 b1_75 b2_75 b35 w3_75 w1 kk4_75 u15_86 T75.heap n0 m50_v85 f75_0 f75_1 f75_2 f75_3 f75_4 f75_5 f75_6 f75_7 f75_8 f75_9 f75_10 f75_11 f75_12 f75_13 f75_14 f75_15 ne_b2_b0_75 ne_b2_b1_75 ne_b2_b2_75 m34 f75_16 f75_17 f75_18 ne_b35_b0_75 ne_b35_b1_75 ne_b35_b2_75 m18 g_b0_75 g_b1_75 g_b2_75 m39 (fun q => ck_87 (sub_zero q))) (by rw [hml]; rfl) (lenOf pd_7 rfl) rfl (hb hby at_189) (by decide) (by decide) (by decide) (by decide) ?_
            intro r102 T102 L102 q102 X102
            obtain ⟨w0_102, w1_102, rfl, N102q, K102, f102_0, f102_1, f102_2, f102_3, f102_4, f102_5, f102_6, f102_7, f102_8, f102_9, f102_10, f102_11, f102_12, f102_13⟩ := q102
            have N102 := Fr.app N75 N102q
            have m9_v103 := m9_v76.keep K102 (ninS (Ne.symm m19) (ninS ne_b0_4_b1_75 (ninS ne_b0_4_b2_75 (ninS m35 nin0))))
            have m10_v104 := m10_v77.keep K102 (ninS (Ne.symm m21) (ninS ne_b1_4_b1_75 (ninS ne_b1_4_b2_75 (ninS m36 nin0))))
            have m11_v105 := m11_v78.keep K102 (ninS (Ne.symm m23) (ninS ne_b2_4_b1_75 (ninS ne_b2_4_b2_75 (ninS m37 nin0))))
            have m12_v106 := m12_v79.keep K102
            have m13_v107 := m13_v80.keep K102 (ninS (Ne.symm m29) (ninS ne_b6_b1_75 (ninS ne_b6_b2_75 (ninS m38 nin0))))
            have m14_v108 := m14_v81.keep K102 (ninS (Ne.symm m29) (ninS ne_b6_b1_75 (ninS ne_b6_b2_75 (ninS m38 nin0))))
            have m47_v109 := m47_v82.keep K102
            have m48_v110 := m48_v83.keep K102 (ninS (Ne.symm m40) (ninS ne_b71_b1_75 (ninS ne_b71_b2_75 (ninS (Ne.symm m45) nin0))))
            have m49_v111 := m49_v84.keep K102 (ninS (Ne.symm m40) (ninS ne_b71_b1_75 (ninS ne_b71_b2_75 (ninS (Ne.symm m45) nin0))))
            have m50_v112 := Nat.le_trans m50_v85 K102.1
            have f75_12_v113 := f75_12.keep K102 (ninS (Ne.symm ne_b2_b0_75) (ninS (Ne.symm f75_16) (ninS (Ne.symm f75_18) (ninS (Ne.symm ne_b35_b0_75) nin0))))
            show Go p e below _ T102 (mkF m 192 #[.val (.int x0), .val (.int x1), .val (.int x2), .val (.int x3), .val (.int x4), .val (.int (0 : Int32)), .val (.int (1 : Int32)), .val (.int (1 : Int32)), .val (.int u8_72), .val (.int (0 : Int32)), .val (.int w1), .val (.ref b2), .val (.ref b6), .val (.ref b35), .val (.ref b71), .val (.int u15_86), .unset] [])
            refine Go.s_iload X102 hx (hb hby at_192) (q := 194) rfl rfl ?_
            refine Go.s_ifYes X102 hx (hb hby at_194) (q := 204) (by decide) (by decide) ((if0 _ _).trans (teq (by decide : (0 : Int32) = (0 : Int32))).1) ?_
            refine Go.s_iload X102 hx (hb hby at_204) (q := 206) rfl rfl ?_
            refine Go.s_ifNo X102 hx (hb hby at_206) (q := 209) rfl ((if0 _ _).trans (feq (by decide : ¬ ((1 : Int32) = (0 : Int32)))).1) ?_
            refine Go.s_iload X102 hx (hb hby at_209) (q := 211) rfl rfl ?_
            refine Go.s_ifNo X102 hx (hb hby at_211) (q := 214) rfl ((if0 _ _).trans (feq (by decide : ¬ ((1 : Int32) = (0 : Int32)))).1) ?_
            refine Go.s_iload X102 hx (hb hby at_214) (q := 216) rfl rfl ?_
            refine Go.s_iload X102 hx (hb hby at_216) (q := 218) rfl rfl ?_
            refine Go.s_icmpNo X102 hx (hb hby at_218) (q := 221) rfl (feq ck_87).1 ?_
            refine Go.s_iconst X102 hx (hb hby at_221) (q := 222) rfl (z := 1) rfl ?_
            refine Go.s_goto X102 hx (hb hby at_222) (q := 226) (by decide) (by decide) ?_
            refine Go.s_istore X102 hx (hb hby at_226) (q := 228) rfl (l' := #[.val (.int x0), .val (.int x1), .val (.int x2), .val (.int x3), .val (.int x4), .val (.int (0 : Int32)), .val (.int (1 : Int32)), .val (.int (1 : Int32)), .val (.int u8_72), .val (.int (0 : Int32)), .val (.int w1), .val (.ref b2), .val (.ref b6), .val (.ref b35), .val (.ref b71), .val (.int u15_86), .val (.int (1 : Int32))]) rfl ?_
            refine Go.s_aload X102 hx (hb hby at_228) (q := 230) rfl rfl rfl ?_
            refine Go.s_aload X102 hx (hb hby at_230) (q := 232) rfl rfl rfl ?_
            refine Go.callV (y := mn_5) (z := mn_5) X102 hx hZ hown (w_ hw 40 rfl) (w_ hw 41 rfl) (notFace_of_selects (args := #[]) (mvT hZ (w_ hw 43 rfl))) (w_ hw 43 rfl) (w_ hw 42 rfl) (w_ hw 44 rfl) (w_ hw 8 rfl) (by decide) rfl f102_0 (argsL := [(.ref b6)]) (rest := []) (rm_holds_17 l Z a0 hw b2 b0_75 b1_75 b2_75 b6 b35 kk4_75 T102.heap n0 m50_v112 f102_8 f102_9 m14_v108 f102_11 f75_12_v113 ne_b2_b0_75 ne_b2_b1_75 ne_b2_b2_75 m34 m29 f75_16 f75_17 f75_18 ne_b6_b0_75 ne_b6_b1_75 ne_b6_b2_75 m38 ne_b35_b0_75 ne_b35_b1_75 ne_b35_b2_75) (by rw [hml]; rfl) (lenOf pd_6 rfl) rfl (hb hby at_232) (by decide) (by decide) (by decide) (by decide) ?_
            intro r114 T114 L114 q114 X114
            obtain ⟨rfl, rfl, e114⟩ := q114
            rw [List.append_nil] at X114
            show Go p e below _ T114 (mkF m 235 #[.val (.int x0), .val (.int x1), .val (.int x2), .val (.int x3), .val (.int x4), .val (.int (0 : Int32)), .val (.int (1 : Int32)), .val (.int (1 : Int32)), .val (.int u8_72), .val (.int (0 : Int32)), .val (.int w1), .val (.ref b2), .val (.ref b6), .val (.ref b35), .val (.ref b71), .val (.int u15_86), .val (.int (1 : Int32))] [(.int (0 : Int32))])
            refine Go.s_iload X114 hx (hb hby at_235) (q := 237) rfl rfl ?_
            refine Go.s_icmpNo X114 hx (hb hby at_237) (q := 240) rfl (teq (by decide : (0 : Int32) = (0 : Int32))).2 ?_
            refine Go.s_aload X114 hx (hb hby at_240) (q := 242) rfl rfl rfl ?_
            refine Go.s_aload X114 hx (hb hby at_242) (q := 244) rfl rfl rfl ?_
            refine Go.callV (y := mn_5) (z := mn_5) X114 hx hZ hown (w_ hw 40 rfl) (w_ hw 41 rfl) (notFace_of_selects (args := #[]) (mvT hZ (w_ hw 43 rfl))) (w_ hw 43 rfl) (w_ hw 42 rfl) (w_ hw 44 rfl) (w_ hw 8 rfl) (by decide) e114 f102_0 (argsL := [(.ref b35)]) (rest := []) (rm_holds_16 l Z a0 hw b2 b0_75 b1_75 b2_75 b35 kk4_75 T102.heap n0 m50_v112 f102_8 f102_9 f102_11 f75_12_v113 ne_b2_b0_75 ne_b2_b1_75 ne_b2_b2_75 m34 f75_16 f75_17 f75_18 ne_b35_b0_75 ne_b35_b1_75 ne_b35_b2_75) (by rw [hml]; rfl) (lenOf pd_6 rfl) rfl (hb hby at_244) (by decide) (by decide) (by decide) (by decide) ?_
            intro r115 T115 L115 q115 X115
            obtain ⟨rfl, rfl, e115⟩ := q115
            rw [List.append_nil] at X115
            show Go p e below _ T115 (mkF m 247 #[.val (.int x0), .val (.int x1), .val (.int x2), .val (.int x3), .val (.int x4), .val (.int (0 : Int32)), .val (.int (1 : Int32)), .val (.int (1 : Int32)), .val (.int u8_72), .val (.int (0 : Int32)), .val (.int w1), .val (.ref b2), .val (.ref b6), .val (.ref b35), .val (.ref b71), .val (.int u15_86), .val (.int (1 : Int32))] [(.int (1 : Int32))])
            refine Go.s_iload X115 hx (hb hby at_247) (q := 249) rfl rfl ?_
            refine Go.s_icmpNo X115 hx (hb hby at_249) (q := 252) rfl (teq (by decide : (1 : Int32) = (1 : Int32))).2 ?_
            refine Go.s_aload X115 hx (hb hby at_252) (q := 254) rfl rfl rfl ?_
            refine Go.s_aload X115 hx (hb hby at_254) (q := 256) rfl rfl rfl ?_
            refine Go.callV (y := mn_5) (z := mn_5) X115 hx hZ hown (w_ hw 40 rfl) (w_ hw 41 rfl) (notFace_of_selects (args := #[]) (mvT hZ (w_ hw 43 rfl))) (w_ hw 43 rfl) (w_ hw 42 rfl) (w_ hw 44 rfl) (w_ hw 8 rfl) (by decide) e115 f102_0 (argsL := [(.ref b71)]) (rest := []) (rm_holds_18 l Z a0 hw b2 b0_75 b1_75 b2_75 b71 b35 kk4_75 T102.heap n0 m50_v112 f102_8 f102_9 m49_v111 f102_11 f75_12_v113 ne_b2_b0_75 ne_b2_b1_75 ne_b2_b2_75 m34 m40 f75_16 f75_17 f75_18 ne_b71_b0_75 ne_b71_b1_75 ne_b71_b2_75 ne_b35_b0_75 ne_b35_b1_75 ne_b35_b2_75 m45) (by rw [hml]; rfl) (lenOf pd_6 rfl) rfl (hb hby at_256) (by decide) (by decide) (by decide) (by decide) ?_
            intro r116 T116 L116 q116 X116
            obtain ⟨rfl, rfl, e116⟩ := q116
            rw [List.append_nil] at X116
            show Go p e below _ T116 (mkF m 259 #[.val (.int x0), .val (.int x1), .val (.int x2), .val (.int x3), .val (.int x4), .val (.int (0 : Int32)), .val (.int (1 : Int32)), .val (.int (1 : Int32)), .val (.int u8_72), .val (.int (0 : Int32)), .val (.int w1), .val (.ref b2), .val (.ref b6), .val (.ref b35), .val (.ref b71), .val (.int u15_86), .val (.int (1 : Int32))] [(.int (0 : Int32))])
            refine Go.s_iload X116 hx (hb hby at_259) (q := 261) rfl rfl ?_
            refine Go.s_icmpNo X116 hx (hb hby at_261) (q := 264) rfl (teq (by decide : (0 : Int32) = (0 : Int32))).2 ?_
            refine Go.s_iconst X116 hx (hb hby at_264) (q := 265) rfl (z := 1) rfl ?_
            refine Go.s_goto X116 hx (hb hby at_265) (q := 269) (by decide) (by decide) ?_
            refine Go.retN X116 hx hlk hret (by simp) (hb hby at_269) (by decide) (by decide) ?_
            try rw [e116]
            exact ⟨by decide, N102⟩
        · -- pc 62: not (x0 &&& (16 : Int32)) = (0 : Int32)
          refine Go.s_ifNo X0 hx (hb hby at_62) (q := 65) rfl ((if0 _ _).trans (feq c62_73).1) ?_
          refine Go.s_iconst X0 hx (hb hby at_65) (q := 66) rfl (z := 1) rfl ?_
          refine Go.s_goto X0 hx (hb hby at_66) (q := 70) (by decide) (by decide) ?_
          refine Go.s_istore X0 hx (hb hby at_70) (q := 72) rfl (l' := #[.val (.int x0), .val (.int x1), .val (.int x2), .val (.int x3), .val (.int x4), .val (.int (0 : Int32)), .val (.int (1 : Int32)), .val (.int (1 : Int32)), .val (.int u8_72), .val (.int (1 : Int32)), .unset, .unset, .unset, .unset, .unset, .unset, .unset]) rfl ?_
          refine law_mid hw hx hby hml hown hZ X0 e0 Z0 ?_
          intro T117 h117 LL117 w1 b2 b6 b35 b71 b2_4 b1_4 b0_4 kk3_4 w20 w93 X117 e117 N117 p1 p20 p93 m0 m1 m2 m3 m4 m5 m6 m7 m8 m9 m10 m11 m12 m13 m14 m15 m16 m17 m18 m19 m20 m21 m22 m23 m24 m25 m26 m27 m28 m29 m30 m31 m32 m33 m34 m35 m36 m37 m38 m39 m40 m41 m42 m43 m44 m45 m46 m47 m48 m49 m50
          refine Go.s_iload X117 hx (hb hby at_132) (q := 134) rfl rfl ?_
          refine Go.s_ifYes X117 hx (hb hby at_134) (q := 144) (by decide) (by decide) ((if0 _ _).trans (teq (by decide : (0 : Int32) = (0 : Int32))).1) ?_
          refine Go.s_iload X117 hx (hb hby at_144) (q := 146) rfl rfl ?_
          refine Go.s_ifNo X117 hx (hb hby at_146) (q := 149) rfl ((if0 _ _).trans (feq (by decide : ¬ ((1 : Int32) = (0 : Int32)))).1) ?_
          refine Go.s_aload X117 hx (hb hby at_149) (q := 151) rfl rfl rfl ?_
          refine Go.s_aload X117 hx (hb hby at_151) (q := 153) rfl rfl rfl ?_
          refine Go.callV (y := mn_6) (z := mn_6) X117 hx hZ hown (w_ hw 49 rfl) (w_ hw 50 rfl) (notFace_of_selects (args := #[]) (mvT hZ (w_ hw 52 rfl))) (w_ hw 52 rfl) (w_ hw 51 rfl) (w_ hw 53 rfl) (w_ hw 8 rfl) (by decide) e117 m0 (argsL := [(.ref b35)]) (rest := []) (rm_add_10 l Z a0 hw b2 b0_4 b1_4 b2_4 b35 w1 kk3_4 h117 n0 m50 m0 m15 m1 m2 m3 m4 m5 m6 m7 m8 m16 m17 m9 m10 m11 m25 m19 m21 m23 m34 m26 m27 m35 m28 m36 m37 m18 m20 m22 m24 m39) (by rw [hml]; rfl) (lenOf pd_5 rfl) rfl (hb hby at_153) (by decide) (by decide) (by decide) (by decide) ?_
          intro r118 T118 L118 q118 X118
          obtain ⟨b0_118, b1_118, b2_118, w3_118, kk4_118, rfl, N118q, K118, sz_b0_118, sz_b1_118, sz_b2_118, f118_0, f118_1, f118_2, f118_3, f118_4, f118_5, f118_6, f118_7, f118_8, f118_9, f118_10, f118_11, f118_12, f118_13, f118_14, f118_15, f118_16, f118_17, f118_18⟩ := q118
          have N118 := Fr.app N117 N118q
          have ne_b2_b0_118 : b2 ≠ b0_118 := Nat.ne_of_lt (Nat.lt_of_lt_of_le m0.lt sz_b0_118)
          have ne_b0_4_b0_118 : b0_4 ≠ b0_118 := Nat.ne_of_lt (Nat.lt_of_lt_of_le m9.lt sz_b0_118)
          have ne_b1_4_b0_118 : b1_4 ≠ b0_118 := Nat.ne_of_lt (Nat.lt_of_lt_of_le m10.lt sz_b0_118)
          have ne_b2_4_b0_118 : b2_4 ≠ b0_118 := Nat.ne_of_lt (Nat.lt_of_lt_of_le m11.lt sz_b0_118)
          have ne_b6_b0_118 : b6 ≠ b0_118 := Nat.ne_of_lt (Nat.lt_of_lt_of_le m12.lt sz_b0_118)
          have ne_b35_b0_118 : b35 ≠ b0_118 := Nat.ne_of_lt (Nat.lt_of_lt_of_le m15.lt sz_b0_118)
          have ne_b71_b0_118 : b71 ≠ b0_118 := Nat.ne_of_lt (Nat.lt_of_lt_of_le m47.lt sz_b0_118)
          have g_b0_118 : n0 ≤ b0_118 := Nat.le_trans m50 sz_b0_118
          have ne_b2_b1_118 : b2 ≠ b1_118 := Nat.ne_of_lt (Nat.lt_of_lt_of_le m0.lt sz_b1_118)
          have ne_b0_4_b1_118 : b0_4 ≠ b1_118 := Nat.ne_of_lt (Nat.lt_of_lt_of_le m9.lt sz_b1_118)
          have ne_b1_4_b1_118 : b1_4 ≠ b1_118 := Nat.ne_of_lt (Nat.lt_of_lt_of_le m10.lt sz_b1_118)
          have ne_b2_4_b1_118 : b2_4 ≠ b1_118 := Nat.ne_of_lt (Nat.lt_of_lt_of_le m11.lt sz_b1_118)
          have ne_b6_b1_118 : b6 ≠ b1_118 := Nat.ne_of_lt (Nat.lt_of_lt_of_le m12.lt sz_b1_118)
          have ne_b35_b1_118 : b35 ≠ b1_118 := Nat.ne_of_lt (Nat.lt_of_lt_of_le m15.lt sz_b1_118)
          have ne_b71_b1_118 : b71 ≠ b1_118 := Nat.ne_of_lt (Nat.lt_of_lt_of_le m47.lt sz_b1_118)
          have g_b1_118 : n0 ≤ b1_118 := Nat.le_trans m50 sz_b1_118
          have ne_b2_b2_118 : b2 ≠ b2_118 := Nat.ne_of_lt (Nat.lt_of_lt_of_le m0.lt sz_b2_118)
          have ne_b0_4_b2_118 : b0_4 ≠ b2_118 := Nat.ne_of_lt (Nat.lt_of_lt_of_le m9.lt sz_b2_118)
          have ne_b1_4_b2_118 : b1_4 ≠ b2_118 := Nat.ne_of_lt (Nat.lt_of_lt_of_le m10.lt sz_b2_118)
          have ne_b2_4_b2_118 : b2_4 ≠ b2_118 := Nat.ne_of_lt (Nat.lt_of_lt_of_le m11.lt sz_b2_118)
          have ne_b6_b2_118 : b6 ≠ b2_118 := Nat.ne_of_lt (Nat.lt_of_lt_of_le m12.lt sz_b2_118)
          have ne_b35_b2_118 : b35 ≠ b2_118 := Nat.ne_of_lt (Nat.lt_of_lt_of_le m15.lt sz_b2_118)
          have ne_b71_b2_118 : b71 ≠ b2_118 := Nat.ne_of_lt (Nat.lt_of_lt_of_le m47.lt sz_b2_118)
          have g_b2_118 : n0 ≤ b2_118 := Nat.le_trans m50 sz_b2_118
          have m9_v119 := m9.keep K118 (ninS (Ne.symm m19) (ninS m35 nin0))
          have m10_v120 := m10.keep K118 (ninS (Ne.symm m21) (ninS m36 nin0))
          have m11_v121 := m11.keep K118 (ninS (Ne.symm m23) (ninS m37 nin0))
          have m12_v122 := m12.keep K118
          have m13_v123 := m13.keep K118 (ninS (Ne.symm m29) (ninS m38 nin0))
          have m14_v124 := m14.keep K118 (ninS (Ne.symm m29) (ninS m38 nin0))
          have m47_v125 := m47.keep K118
          have m48_v126 := m48.keep K118 (ninS (Ne.symm m40) (ninS (Ne.symm m45) nin0))
          have m49_v127 := m49.keep K118 (ninS (Ne.symm m40) (ninS (Ne.symm m45) nin0))
          have m50_v128 := Nat.le_trans m50 K118.1
          refine law_k hw hx hby hml hown hZ X118 (size_nz p1) ?_
          intro u15_129
          by_cases ck_130 : u15_129 = w1
          ·
            subst ck_130
            show Go p e below _ T118 (mkF m 178 #[.val (.int x0), .val (.int x1), .val (.int x2), .val (.int x3), .val (.int x4), .val (.int (0 : Int32)), .val (.int (1 : Int32)), .val (.int (1 : Int32)), .val (.int u8_72), .val (.int (1 : Int32)), .val (.int u15_129), .val (.ref b2), .val (.ref b6), .val (.ref b35), .val (.ref b71), .val (.int u15_129), .unset] [])
            refine Go.s_iload X118 hx (hb hby at_178) (q := 180) rfl rfl ?_
            refine Go.s_ifNo X118 hx (hb hby at_180) (q := 183) rfl ((if0 _ _).trans (feq (by decide : ¬ ((1 : Int32) = (0 : Int32)))).1) ?_
            refine Go.s_aload X118 hx (hb hby at_183) (q := 185) rfl rfl rfl ?_
            refine Go.s_aload X118 hx (hb hby at_185) (q := 187) rfl rfl rfl ?_
            refine Go.s_iload X118 hx (hb hby at_187) (q := 189) rfl rfl ?_
            refine Go.callV (y := mn_10) (z := mn_10) X118 hx hZ hown (w_ hw 74 rfl) (w_ hw 75 rfl) (notFace_of_selects (args := #[]) (mvT hZ (w_ hw 77 rfl))) (w_ hw 77 rfl) (w_ hw 76 rfl) (w_ hw 78 rfl) (w_ hw 8 rfl) (by decide) rfl f118_0 (argsL := [(.ref b35), (.int u15_129)]) (rest := []) (rm_take_29 l Z a0 hw b2 b0_118 b1_118 b2_118 b35 w3_118 u15_129 kk4_118 T118.heap n0 m50_v128 f118_0 f118_1 f118_2 f118_3 f118_4 f118_5 f118_6 f118_7 f118_8 f118_9 f118_10 f118_11 f118_12 f118_13 f118_14 f118_15 ne_b2_b0_118 ne_b2_b1_118 ne_b2_b2_118 m34 f118_16 f118_17 f118_18 ne_b35_b0_118 ne_b35_b1_118 ne_b35_b2_118 m18 g_b0_118 g_b1_118 g_b2_118 m39 (sub_self u15_129)) (by rw [hml]; rfl) (lenOf pd_7 rfl) rfl (hb hby at_189) (by decide) (by decide) (by decide) (by decide) ?_
            intro r131 T131 L131 q131 X131
            obtain ⟨w0_131, w1_131, rfl, N131q, K131, f131_0, f131_1, f131_2, f131_3, f131_4, f131_5, f131_6, f131_7, f131_8, f131_9, f131_10, f131_11, f131_12, f131_13, f131_14, f131_15⟩ := q131
            have N131 := Fr.app N118 N131q
            have m9_v132 := m9_v119.keep K131 (ninS (Ne.symm m19) (ninS ne_b0_4_b0_118 (ninS ne_b0_4_b1_118 (ninS ne_b0_4_b2_118 (ninS m35 nin0)))))
            have m10_v133 := m10_v120.keep K131 (ninS (Ne.symm m21) (ninS ne_b1_4_b0_118 (ninS ne_b1_4_b1_118 (ninS ne_b1_4_b2_118 (ninS m36 nin0)))))
            have m11_v134 := m11_v121.keep K131 (ninS (Ne.symm m23) (ninS ne_b2_4_b0_118 (ninS ne_b2_4_b1_118 (ninS ne_b2_4_b2_118 (ninS m37 nin0)))))
            have m12_v135 := m12_v122.keep K131
            have m13_v136 := m13_v123.keep K131 (ninS (Ne.symm m29) (ninS ne_b6_b0_118 (ninS ne_b6_b1_118 (ninS ne_b6_b2_118 (ninS m38 nin0)))))
            have m14_v137 := m14_v124.keep K131 (ninS (Ne.symm m29) (ninS ne_b6_b0_118 (ninS ne_b6_b1_118 (ninS ne_b6_b2_118 (ninS m38 nin0)))))
            have m47_v138 := m47_v125.keep K131
            have m48_v139 := m48_v126.keep K131 (ninS (Ne.symm m40) (ninS ne_b71_b0_118 (ninS ne_b71_b1_118 (ninS ne_b71_b2_118 (ninS (Ne.symm m45) nin0)))))
            have m49_v140 := m49_v127.keep K131 (ninS (Ne.symm m40) (ninS ne_b71_b0_118 (ninS ne_b71_b1_118 (ninS ne_b71_b2_118 (ninS (Ne.symm m45) nin0)))))
            have m50_v141 := Nat.le_trans m50_v128 K131.1
            show Go p e below _ T131 (mkF m 192 #[.val (.int x0), .val (.int x1), .val (.int x2), .val (.int x3), .val (.int x4), .val (.int (0 : Int32)), .val (.int (1 : Int32)), .val (.int (1 : Int32)), .val (.int u8_72), .val (.int (1 : Int32)), .val (.int u15_129), .val (.ref b2), .val (.ref b6), .val (.ref b35), .val (.ref b71), .val (.int u15_129), .unset] [])
            refine Go.s_iload X131 hx (hb hby at_192) (q := 194) rfl rfl ?_
            refine Go.s_ifNo X131 hx (hb hby at_194) (q := 197) rfl ((if0 _ _).trans (feq (by decide : ¬ ((1 : Int32) = (0 : Int32)))).1) ?_
            refine Go.s_aload X131 hx (hb hby at_197) (q := 199) rfl rfl rfl ?_
            refine Go.s_aload X131 hx (hb hby at_199) (q := 201) rfl rfl rfl ?_
            refine Go.callV (y := mn_6) (z := mn_6) X131 hx hZ hown (w_ hw 49 rfl) (w_ hw 50 rfl) (notFace_of_selects (args := #[]) (mvT hZ (w_ hw 52 rfl))) (w_ hw 52 rfl) (w_ hw 51 rfl) (w_ hw 53 rfl) (w_ hw 8 rfl) (by decide) rfl f131_0 (argsL := [(.ref b71)]) (rest := []) (rm_add_32 l Z a0 hw b2 b0_118 b1_118 b2_118 b71 w0_131 w93 kk4_118 T131.heap n0 m50_v141 f131_0 m47_v138 f131_2 f131_3 f131_4 f131_5 f131_6 f131_7 f131_8 f131_9 m48_v139 m49_v140 f131_12 f131_13 f131_14 f131_15 ne_b2_b0_118 ne_b2_b1_118 ne_b2_b2_118 m40 f118_16 f118_17 f118_18 ne_b71_b0_118 ne_b71_b1_118 ne_b71_b2_118 m18 g_b0_118 g_b1_118 g_b2_118 m46) (by rw [hml]; rfl) (lenOf pd_5 rfl) rfl (hb hby at_201) (by decide) (by decide) (by decide) (by decide) ?_
            intro r142 T142 L142 q142 X142
            obtain ⟨w0_142, rfl, N142q, K142, f142_0, f142_1, f142_2, f142_3, f142_4, f142_5, f142_6, f142_7, f142_8, f142_9, f142_10, f142_11, f142_12, f142_13, f142_14, f142_15⟩ := q142
            have N142 := Fr.app N131 N142q
            have m9_v143 := m9_v132.keep K142 (ninS (Ne.symm m19) (ninS ne_b0_4_b0_118 (ninS ne_b0_4_b1_118 (ninS ne_b0_4_b2_118 (ninS m41 nin0)))))
            have m10_v144 := m10_v133.keep K142 (ninS (Ne.symm m21) (ninS ne_b1_4_b0_118 (ninS ne_b1_4_b1_118 (ninS ne_b1_4_b2_118 (ninS m42 nin0)))))
            have m11_v145 := m11_v134.keep K142 (ninS (Ne.symm m23) (ninS ne_b2_4_b0_118 (ninS ne_b2_4_b1_118 (ninS ne_b2_4_b2_118 (ninS m43 nin0)))))
            have m12_v146 := m12_v135.keep K142
            have m13_v147 := m13_v136.keep K142 (ninS (Ne.symm m29) (ninS ne_b6_b0_118 (ninS ne_b6_b1_118 (ninS ne_b6_b2_118 (ninS m44 nin0)))))
            have m14_v148 := m14_v137.keep K142 (ninS (Ne.symm m29) (ninS ne_b6_b0_118 (ninS ne_b6_b1_118 (ninS ne_b6_b2_118 (ninS m44 nin0)))))
            have m50_v149 := Nat.le_trans m50_v141 K142.1
            have f131_1_v150 := f131_1.keep K142
            have f131_10_v151 := f131_10.keep K142 (ninS (Ne.symm m34) (ninS ne_b35_b0_118 (ninS ne_b35_b1_118 (ninS ne_b35_b2_118 (ninS m45 nin0)))))
            have f131_11_v152 := f131_11.keep K142 (ninS (Ne.symm m34) (ninS ne_b35_b0_118 (ninS ne_b35_b1_118 (ninS ne_b35_b2_118 (ninS m45 nin0)))))
            show Go p e below _ T142 (mkF m 204 #[.val (.int x0), .val (.int x1), .val (.int x2), .val (.int x3), .val (.int x4), .val (.int (0 : Int32)), .val (.int (1 : Int32)), .val (.int (1 : Int32)), .val (.int u8_72), .val (.int (1 : Int32)), .val (.int u15_129), .val (.ref b2), .val (.ref b6), .val (.ref b35), .val (.ref b71), .val (.int u15_129), .unset] [])
            refine Go.s_iload X142 hx (hb hby at_204) (q := 206) rfl rfl ?_
            refine Go.s_ifNo X142 hx (hb hby at_206) (q := 209) rfl ((if0 _ _).trans (feq (by decide : ¬ ((1 : Int32) = (0 : Int32)))).1) ?_
            refine Go.s_iload X142 hx (hb hby at_209) (q := 211) rfl rfl ?_
            refine Go.s_ifNo X142 hx (hb hby at_211) (q := 214) rfl ((if0 _ _).trans (feq (by decide : ¬ ((1 : Int32) = (0 : Int32)))).1) ?_
            refine Go.s_iload X142 hx (hb hby at_214) (q := 216) rfl rfl ?_
            refine Go.s_iload X142 hx (hb hby at_216) (q := 218) rfl rfl ?_
            refine Go.s_icmpYes X142 hx (hb hby at_218) (q := 225) (by decide) (by decide) (teq (rfl : u15_129 = u15_129)).1 ?_
            refine Go.s_iconst X142 hx (hb hby at_225) (q := 226) rfl (z := 0) rfl ?_
            refine Go.s_istore X142 hx (hb hby at_226) (q := 228) rfl (l' := #[.val (.int x0), .val (.int x1), .val (.int x2), .val (.int x3), .val (.int x4), .val (.int (0 : Int32)), .val (.int (1 : Int32)), .val (.int (1 : Int32)), .val (.int u8_72), .val (.int (1 : Int32)), .val (.int u15_129), .val (.ref b2), .val (.ref b6), .val (.ref b35), .val (.ref b71), .val (.int u15_129), .val (.int (0 : Int32))]) rfl ?_
            refine Go.s_aload X142 hx (hb hby at_228) (q := 230) rfl rfl rfl ?_
            refine Go.s_aload X142 hx (hb hby at_230) (q := 232) rfl rfl rfl ?_
            refine Go.callV (y := mn_5) (z := mn_5) X142 hx hZ hown (w_ hw 40 rfl) (w_ hw 41 rfl) (notFace_of_selects (args := #[]) (mvT hZ (w_ hw 43 rfl))) (w_ hw 43 rfl) (w_ hw 42 rfl) (w_ hw 44 rfl) (w_ hw 8 rfl) (by decide) rfl f142_0 (argsL := [(.ref b6)]) (rest := []) (rm_holds_33 l Z a0 hw b2 b0_118 b1_118 b2_118 b6 b71 kk4_118 T142.heap n0 m50_v149 f142_8 f142_9 m14_v148 f142_11 f142_12 ne_b2_b0_118 ne_b2_b1_118 ne_b2_b2_118 m29 m40 f118_16 f118_17 f118_18 ne_b6_b0_118 ne_b6_b1_118 ne_b6_b2_118 m44 ne_b71_b0_118 ne_b71_b1_118 ne_b71_b2_118) (by rw [hml]; rfl) (lenOf pd_6 rfl) rfl (hb hby at_232) (by decide) (by decide) (by decide) (by decide) ?_
            intro r153 T153 L153 q153 X153
            obtain ⟨rfl, rfl, e153⟩ := q153
            rw [List.append_nil] at X153
            show Go p e below _ T153 (mkF m 235 #[.val (.int x0), .val (.int x1), .val (.int x2), .val (.int x3), .val (.int x4), .val (.int (0 : Int32)), .val (.int (1 : Int32)), .val (.int (1 : Int32)), .val (.int u8_72), .val (.int (1 : Int32)), .val (.int u15_129), .val (.ref b2), .val (.ref b6), .val (.ref b35), .val (.ref b71), .val (.int u15_129), .val (.int (0 : Int32))] [(.int (0 : Int32))])
            refine Go.s_iload X153 hx (hb hby at_235) (q := 237) rfl rfl ?_
            refine Go.s_icmpNo X153 hx (hb hby at_237) (q := 240) rfl (teq (by decide : (0 : Int32) = (0 : Int32))).2 ?_
            refine Go.s_aload X153 hx (hb hby at_240) (q := 242) rfl rfl rfl ?_
            refine Go.s_aload X153 hx (hb hby at_242) (q := 244) rfl rfl rfl ?_
            refine Go.callV (y := mn_5) (z := mn_5) X153 hx hZ hown (w_ hw 40 rfl) (w_ hw 41 rfl) (notFace_of_selects (args := #[]) (mvT hZ (w_ hw 43 rfl))) (w_ hw 43 rfl) (w_ hw 42 rfl) (w_ hw 44 rfl) (w_ hw 8 rfl) (by decide) e153 f142_0 (argsL := [(.ref b35)]) (rest := []) (rm_holds_33 l Z a0 hw b2 b0_118 b1_118 b2_118 b35 b71 kk4_118 T142.heap n0 m50_v149 f142_8 f142_9 f131_11_v152 f142_11 f142_12 ne_b2_b0_118 ne_b2_b1_118 ne_b2_b2_118 m34 m40 f118_16 f118_17 f118_18 ne_b35_b0_118 ne_b35_b1_118 ne_b35_b2_118 m45 ne_b71_b0_118 ne_b71_b1_118 ne_b71_b2_118) (by rw [hml]; rfl) (lenOf pd_6 rfl) rfl (hb hby at_244) (by decide) (by decide) (by decide) (by decide) ?_
            intro r154 T154 L154 q154 X154
            obtain ⟨rfl, rfl, e154⟩ := q154
            rw [List.append_nil] at X154
            show Go p e below _ T154 (mkF m 247 #[.val (.int x0), .val (.int x1), .val (.int x2), .val (.int x3), .val (.int x4), .val (.int (0 : Int32)), .val (.int (1 : Int32)), .val (.int (1 : Int32)), .val (.int u8_72), .val (.int (1 : Int32)), .val (.int u15_129), .val (.ref b2), .val (.ref b6), .val (.ref b35), .val (.ref b71), .val (.int u15_129), .val (.int (0 : Int32))] [(.int (0 : Int32))])
            refine Go.s_iload X154 hx (hb hby at_247) (q := 249) rfl rfl ?_
            refine Go.s_icmpNo X154 hx (hb hby at_249) (q := 252) rfl (teq (by decide : (0 : Int32) = (0 : Int32))).2 ?_
            refine Go.s_aload X154 hx (hb hby at_252) (q := 254) rfl rfl rfl ?_
            refine Go.s_aload X154 hx (hb hby at_254) (q := 256) rfl rfl rfl ?_
            refine Go.callV (y := mn_5) (z := mn_5) X154 hx hZ hown (w_ hw 40 rfl) (w_ hw 41 rfl) (notFace_of_selects (args := #[]) (mvT hZ (w_ hw 43 rfl))) (w_ hw 43 rfl) (w_ hw 42 rfl) (w_ hw 44 rfl) (w_ hw 8 rfl) (by decide) e154 f142_0 (argsL := [(.ref b71)]) (rest := []) (rm_holds_34 l Z a0 hw b2 b0_118 b1_118 b2_118 b71 kk4_118 T142.heap n0 m50_v149 f142_8 f142_9 f142_11 f142_12 ne_b2_b0_118 ne_b2_b1_118 ne_b2_b2_118 m40 f118_16 f118_17 f118_18 ne_b71_b0_118 ne_b71_b1_118 ne_b71_b2_118) (by rw [hml]; rfl) (lenOf pd_6 rfl) rfl (hb hby at_256) (by decide) (by decide) (by decide) (by decide) ?_
            intro r155 T155 L155 q155 X155
            obtain ⟨rfl, rfl, e155⟩ := q155
            rw [List.append_nil] at X155
            show Go p e below _ T155 (mkF m 259 #[.val (.int x0), .val (.int x1), .val (.int x2), .val (.int x3), .val (.int x4), .val (.int (0 : Int32)), .val (.int (1 : Int32)), .val (.int (1 : Int32)), .val (.int u8_72), .val (.int (1 : Int32)), .val (.int u15_129), .val (.ref b2), .val (.ref b6), .val (.ref b35), .val (.ref b71), .val (.int u15_129), .val (.int (0 : Int32))] [(.int (1 : Int32))])
            refine Go.s_iload X155 hx (hb hby at_259) (q := 261) rfl rfl ?_
            refine Go.s_icmpNo X155 hx (hb hby at_261) (q := 264) rfl (teq (by decide : (1 : Int32) = (1 : Int32))).2 ?_
            refine Go.s_iconst X155 hx (hb hby at_264) (q := 265) rfl (z := 1) rfl ?_
            refine Go.s_goto X155 hx (hb hby at_265) (q := 269) (by decide) (by decide) ?_
            refine Go.retN X155 hx hlk hret (by simp) (hb hby at_269) (by decide) (by decide) ?_
            try rw [e155]
            exact ⟨by decide, N142⟩
          ·
            show Go p e below _ T118 (mkF m 178 #[.val (.int x0), .val (.int x1), .val (.int x2), .val (.int x3), .val (.int x4), .val (.int (0 : Int32)), .val (.int (1 : Int32)), .val (.int (1 : Int32)), .val (.int u8_72), .val (.int (1 : Int32)), .val (.int w1), .val (.ref b2), .val (.ref b6), .val (.ref b35), .val (.ref b71), .val (.int u15_129), .unset] [])
            refine Go.s_iload X118 hx (hb hby at_178) (q := 180) rfl rfl ?_
            refine Go.s_ifNo X118 hx (hb hby at_180) (q := 183) rfl ((if0 _ _).trans (feq (by decide : ¬ ((1 : Int32) = (0 : Int32)))).1) ?_
            refine Go.s_aload X118 hx (hb hby at_183) (q := 185) rfl rfl rfl ?_
            refine Go.s_aload X118 hx (hb hby at_185) (q := 187) rfl rfl rfl ?_
            refine Go.s_iload X118 hx (hb hby at_187) (q := 189) rfl rfl ?_
            refine Go.callV (y := mn_10) (z := mn_10) X118 hx hZ hown (w_ hw 74 rfl) (w_ hw 75 rfl) (notFace_of_selects (args := #[]) (mvT hZ (w_ hw 77 rfl))) (w_ hw 77 rfl) (w_ hw 76 rfl) (w_ hw 78 rfl) (w_ hw 8 rfl) (by decide) rfl f118_0 (argsL := [(.ref b35), (.int u15_129)]) (rest := []) (rm_take_31 l Z a0 hw b2 b0_118 b1_118 b2_118 b35 w3_118 w1 kk4_118 u15_129 T118.heap n0 m50_v128 f118_0 f118_1 f118_2 f118_3 f118_4 f118_5 f118_6 f118_7 f118_8 f118_9 f118_10 f118_11 f118_12 f118_13 f118_14 f118_15 ne_b2_b0_118 ne_b2_b1_118 ne_b2_b2_118 m34 f118_16 f118_17 f118_18 ne_b35_b0_118 ne_b35_b1_118 ne_b35_b2_118 m18 g_b0_118 g_b1_118 g_b2_118 m39 (fun q => ck_130 (sub_zero q))) (by rw [hml]; rfl) (lenOf pd_7 rfl) rfl (hb hby at_189) (by decide) (by decide) (by decide) (by decide) ?_
            intro r156 T156 L156 q156 X156
            obtain ⟨w0_156, w1_156, rfl, N156q, K156, f156_0, f156_1, f156_2, f156_3, f156_4, f156_5, f156_6, f156_7, f156_8, f156_9, f156_10, f156_11, f156_12, f156_13⟩ := q156
            have N156 := Fr.app N118 N156q
            have m9_v157 := m9_v119.keep K156 (ninS (Ne.symm m19) (ninS ne_b0_4_b1_118 (ninS ne_b0_4_b2_118 (ninS m35 nin0))))
            have m10_v158 := m10_v120.keep K156 (ninS (Ne.symm m21) (ninS ne_b1_4_b1_118 (ninS ne_b1_4_b2_118 (ninS m36 nin0))))
            have m11_v159 := m11_v121.keep K156 (ninS (Ne.symm m23) (ninS ne_b2_4_b1_118 (ninS ne_b2_4_b2_118 (ninS m37 nin0))))
            have m12_v160 := m12_v122.keep K156
            have m13_v161 := m13_v123.keep K156 (ninS (Ne.symm m29) (ninS ne_b6_b1_118 (ninS ne_b6_b2_118 (ninS m38 nin0))))
            have m14_v162 := m14_v124.keep K156 (ninS (Ne.symm m29) (ninS ne_b6_b1_118 (ninS ne_b6_b2_118 (ninS m38 nin0))))
            have m47_v163 := m47_v125.keep K156
            have m48_v164 := m48_v126.keep K156 (ninS (Ne.symm m40) (ninS ne_b71_b1_118 (ninS ne_b71_b2_118 (ninS (Ne.symm m45) nin0))))
            have m49_v165 := m49_v127.keep K156 (ninS (Ne.symm m40) (ninS ne_b71_b1_118 (ninS ne_b71_b2_118 (ninS (Ne.symm m45) nin0))))
            have m50_v166 := Nat.le_trans m50_v128 K156.1
            have f118_12_v167 := f118_12.keep K156 (ninS (Ne.symm ne_b2_b0_118) (ninS (Ne.symm f118_16) (ninS (Ne.symm f118_18) (ninS (Ne.symm ne_b35_b0_118) nin0))))
            show Go p e below _ T156 (mkF m 192 #[.val (.int x0), .val (.int x1), .val (.int x2), .val (.int x3), .val (.int x4), .val (.int (0 : Int32)), .val (.int (1 : Int32)), .val (.int (1 : Int32)), .val (.int u8_72), .val (.int (1 : Int32)), .val (.int w1), .val (.ref b2), .val (.ref b6), .val (.ref b35), .val (.ref b71), .val (.int u15_129), .unset] [])
            refine Go.s_iload X156 hx (hb hby at_192) (q := 194) rfl rfl ?_
            refine Go.s_ifNo X156 hx (hb hby at_194) (q := 197) rfl ((if0 _ _).trans (feq (by decide : ¬ ((1 : Int32) = (0 : Int32)))).1) ?_
            refine Go.s_aload X156 hx (hb hby at_197) (q := 199) rfl rfl rfl ?_
            refine Go.s_aload X156 hx (hb hby at_199) (q := 201) rfl rfl rfl ?_
            refine Go.callV (y := mn_6) (z := mn_6) X156 hx hZ hown (w_ hw 49 rfl) (w_ hw 50 rfl) (notFace_of_selects (args := #[]) (mvT hZ (w_ hw 52 rfl))) (w_ hw 52 rfl) (w_ hw 51 rfl) (w_ hw 53 rfl) (w_ hw 8 rfl) (by decide) rfl f156_0 (argsL := [(.ref b71)]) (rest := []) (rm_add_22 l Z a0 hw b2 b0_118 b1_118 b2_118 b71 w0_156 w93 kk4_118 b35 T156.heap n0 m50_v166 f156_0 m47_v163 f156_2 f156_3 f156_4 f156_5 f156_6 f156_7 f156_8 f156_9 m48_v164 m49_v165 f118_12_v167 f156_12 f156_13 f118_15 ne_b2_b0_118 ne_b2_b1_118 ne_b2_b2_118 m40 f118_16 f118_17 f118_18 ne_b71_b0_118 ne_b71_b1_118 ne_b71_b2_118 m18 g_b0_118 g_b1_118 g_b2_118 m46) (by rw [hml]; rfl) (lenOf pd_5 rfl) rfl (hb hby at_201) (by decide) (by decide) (by decide) (by decide) ?_
            intro r168 T168 L168 q168 X168
            obtain ⟨w0_168, rfl, N168q, K168, f168_0, f168_1, f168_2, f168_3, f168_4, f168_5, f168_6, f168_7, f168_8, f168_9, f168_10, f168_11, f168_12, f168_13, f168_14, f168_15⟩ := q168
            have N168 := Fr.app N156 N168q
            have m9_v169 := m9_v157.keep K168 (ninS (Ne.symm m19) (ninS ne_b0_4_b0_118 (ninS ne_b0_4_b1_118 (ninS ne_b0_4_b2_118 (ninS m41 nin0)))))
            have m10_v170 := m10_v158.keep K168 (ninS (Ne.symm m21) (ninS ne_b1_4_b0_118 (ninS ne_b1_4_b1_118 (ninS ne_b1_4_b2_118 (ninS m42 nin0)))))
            have m11_v171 := m11_v159.keep K168 (ninS (Ne.symm m23) (ninS ne_b2_4_b0_118 (ninS ne_b2_4_b1_118 (ninS ne_b2_4_b2_118 (ninS m43 nin0)))))
            have m12_v172 := m12_v160.keep K168
            have m13_v173 := m13_v161.keep K168 (ninS (Ne.symm m29) (ninS ne_b6_b0_118 (ninS ne_b6_b1_118 (ninS ne_b6_b2_118 (ninS m44 nin0)))))
            have m14_v174 := m14_v162.keep K168 (ninS (Ne.symm m29) (ninS ne_b6_b0_118 (ninS ne_b6_b1_118 (ninS ne_b6_b2_118 (ninS m44 nin0)))))
            have m50_v175 := Nat.le_trans m50_v166 K168.1
            have f156_1_v176 := f156_1.keep K168
            have f156_10_v177 := f156_10.keep K168 (ninS (Ne.symm m34) (ninS ne_b35_b0_118 (ninS ne_b35_b1_118 (ninS ne_b35_b2_118 (ninS m45 nin0)))))
            have f156_11_v178 := f156_11.keep K168 (ninS (Ne.symm m34) (ninS ne_b35_b0_118 (ninS ne_b35_b1_118 (ninS ne_b35_b2_118 (ninS m45 nin0)))))
            show Go p e below _ T168 (mkF m 204 #[.val (.int x0), .val (.int x1), .val (.int x2), .val (.int x3), .val (.int x4), .val (.int (0 : Int32)), .val (.int (1 : Int32)), .val (.int (1 : Int32)), .val (.int u8_72), .val (.int (1 : Int32)), .val (.int w1), .val (.ref b2), .val (.ref b6), .val (.ref b35), .val (.ref b71), .val (.int u15_129), .unset] [])
            refine Go.s_iload X168 hx (hb hby at_204) (q := 206) rfl rfl ?_
            refine Go.s_ifNo X168 hx (hb hby at_206) (q := 209) rfl ((if0 _ _).trans (feq (by decide : ¬ ((1 : Int32) = (0 : Int32)))).1) ?_
            refine Go.s_iload X168 hx (hb hby at_209) (q := 211) rfl rfl ?_
            refine Go.s_ifNo X168 hx (hb hby at_211) (q := 214) rfl ((if0 _ _).trans (feq (by decide : ¬ ((1 : Int32) = (0 : Int32)))).1) ?_
            refine Go.s_iload X168 hx (hb hby at_214) (q := 216) rfl rfl ?_
            refine Go.s_iload X168 hx (hb hby at_216) (q := 218) rfl rfl ?_
            refine Go.s_icmpNo X168 hx (hb hby at_218) (q := 221) rfl (feq ck_130).1 ?_
            refine Go.s_iconst X168 hx (hb hby at_221) (q := 222) rfl (z := 1) rfl ?_
            refine Go.s_goto X168 hx (hb hby at_222) (q := 226) (by decide) (by decide) ?_
            refine Go.s_istore X168 hx (hb hby at_226) (q := 228) rfl (l' := #[.val (.int x0), .val (.int x1), .val (.int x2), .val (.int x3), .val (.int x4), .val (.int (0 : Int32)), .val (.int (1 : Int32)), .val (.int (1 : Int32)), .val (.int u8_72), .val (.int (1 : Int32)), .val (.int w1), .val (.ref b2), .val (.ref b6), .val (.ref b35), .val (.ref b71), .val (.int u15_129), .val (.int (1 : Int32))]) rfl ?_
            refine Go.s_aload X168 hx (hb hby at_228) (q := 230) rfl rfl rfl ?_
            refine Go.s_aload X168 hx (hb hby at_230) (q := 232) rfl rfl rfl ?_
            refine Go.callV (y := mn_5) (z := mn_5) X168 hx hZ hown (w_ hw 40 rfl) (w_ hw 41 rfl) (notFace_of_selects (args := #[]) (mvT hZ (w_ hw 43 rfl))) (w_ hw 43 rfl) (w_ hw 42 rfl) (w_ hw 44 rfl) (w_ hw 8 rfl) (by decide) rfl f168_0 (argsL := [(.ref b6)]) (rest := []) (rm_holds_26 l Z a0 hw b2 b0_118 b1_118 b2_118 b6 b35 b71 kk4_118 T168.heap n0 m50_v175 f168_8 f168_9 m14_v174 f156_11_v178 f168_11 f168_12 ne_b2_b0_118 ne_b2_b1_118 ne_b2_b2_118 m34 m29 m40 f118_16 f118_17 f118_18 ne_b6_b0_118 ne_b6_b1_118 ne_b6_b2_118 m38 m44 ne_b35_b0_118 ne_b35_b1_118 ne_b35_b2_118 m45 ne_b71_b0_118 ne_b71_b1_118 ne_b71_b2_118) (by rw [hml]; rfl) (lenOf pd_6 rfl) rfl (hb hby at_232) (by decide) (by decide) (by decide) (by decide) ?_
            intro r179 T179 L179 q179 X179
            obtain ⟨rfl, rfl, e179⟩ := q179
            rw [List.append_nil] at X179
            show Go p e below _ T179 (mkF m 235 #[.val (.int x0), .val (.int x1), .val (.int x2), .val (.int x3), .val (.int x4), .val (.int (0 : Int32)), .val (.int (1 : Int32)), .val (.int (1 : Int32)), .val (.int u8_72), .val (.int (1 : Int32)), .val (.int w1), .val (.ref b2), .val (.ref b6), .val (.ref b35), .val (.ref b71), .val (.int u15_129), .val (.int (1 : Int32))] [(.int (0 : Int32))])
            refine Go.s_iload X179 hx (hb hby at_235) (q := 237) rfl rfl ?_
            refine Go.s_icmpNo X179 hx (hb hby at_237) (q := 240) rfl (teq (by decide : (0 : Int32) = (0 : Int32))).2 ?_
            refine Go.s_aload X179 hx (hb hby at_240) (q := 242) rfl rfl rfl ?_
            refine Go.s_aload X179 hx (hb hby at_242) (q := 244) rfl rfl rfl ?_
            refine Go.callV (y := mn_5) (z := mn_5) X179 hx hZ hown (w_ hw 40 rfl) (w_ hw 41 rfl) (notFace_of_selects (args := #[]) (mvT hZ (w_ hw 43 rfl))) (w_ hw 43 rfl) (w_ hw 42 rfl) (w_ hw 44 rfl) (w_ hw 8 rfl) (by decide) e179 f168_0 (argsL := [(.ref b35)]) (rest := []) (rm_holds_27 l Z a0 hw b2 b0_118 b1_118 b2_118 b35 b71 kk4_118 T168.heap n0 m50_v175 f168_8 f168_9 f156_11_v178 f168_11 f168_12 ne_b2_b0_118 ne_b2_b1_118 ne_b2_b2_118 m34 m40 f118_16 f118_17 f118_18 ne_b35_b0_118 ne_b35_b1_118 ne_b35_b2_118 m45 ne_b71_b0_118 ne_b71_b1_118 ne_b71_b2_118) (by rw [hml]; rfl) (lenOf pd_6 rfl) rfl (hb hby at_244) (by decide) (by decide) (by decide) (by decide) ?_
            intro r180 T180 L180 q180 X180
            obtain ⟨rfl, rfl, e180⟩ := q180
            rw [List.append_nil] at X180
            show Go p e below _ T180 (mkF m 247 #[.val (.int x0), .val (.int x1), .val (.int x2), .val (.int x3), .val (.int x4), .val (.int (0 : Int32)), .val (.int (1 : Int32)), .val (.int (1 : Int32)), .val (.int u8_72), .val (.int (1 : Int32)), .val (.int w1), .val (.ref b2), .val (.ref b6), .val (.ref b35), .val (.ref b71), .val (.int u15_129), .val (.int (1 : Int32))] [(.int (1 : Int32))])
            refine Go.s_iload X180 hx (hb hby at_247) (q := 249) rfl rfl ?_
            refine Go.s_icmpNo X180 hx (hb hby at_249) (q := 252) rfl (teq (by decide : (1 : Int32) = (1 : Int32))).2 ?_
            refine Go.s_aload X180 hx (hb hby at_252) (q := 254) rfl rfl rfl ?_
            refine Go.s_aload X180 hx (hb hby at_254) (q := 256) rfl rfl rfl ?_
            refine Go.callV (y := mn_5) (z := mn_5) X180 hx hZ hown (w_ hw 40 rfl) (w_ hw 41 rfl) (notFace_of_selects (args := #[]) (mvT hZ (w_ hw 43 rfl))) (w_ hw 43 rfl) (w_ hw 42 rfl) (w_ hw 44 rfl) (w_ hw 8 rfl) (by decide) e180 f168_0 (argsL := [(.ref b71)]) (rest := []) (rm_holds_28 l Z a0 hw b2 b0_118 b1_118 b2_118 b71 b35 kk4_118 T168.heap n0 m50_v175 f168_8 f168_9 f168_11 f156_11_v178 f168_12 ne_b2_b0_118 ne_b2_b1_118 ne_b2_b2_118 m34 m40 f118_16 f118_17 f118_18 ne_b71_b0_118 ne_b71_b1_118 ne_b71_b2_118 ne_b35_b0_118 ne_b35_b1_118 ne_b35_b2_118 m45) (by rw [hml]; rfl) (lenOf pd_6 rfl) rfl (hb hby at_256) (by decide) (by decide) (by decide) (by decide) ?_
            intro r181 T181 L181 q181 X181
            obtain ⟨rfl, rfl, e181⟩ := q181
            rw [List.append_nil] at X181
            show Go p e below _ T181 (mkF m 259 #[.val (.int x0), .val (.int x1), .val (.int x2), .val (.int x3), .val (.int x4), .val (.int (0 : Int32)), .val (.int (1 : Int32)), .val (.int (1 : Int32)), .val (.int u8_72), .val (.int (1 : Int32)), .val (.int w1), .val (.ref b2), .val (.ref b6), .val (.ref b35), .val (.ref b71), .val (.int u15_129), .val (.int (1 : Int32))] [(.int (1 : Int32))])
            refine Go.s_iload X181 hx (hb hby at_259) (q := 261) rfl rfl ?_
            refine Go.s_icmpNo X181 hx (hb hby at_261) (q := 264) rfl (teq (by decide : (1 : Int32) = (1 : Int32))).2 ?_
            refine Go.s_iconst X181 hx (hb hby at_264) (q := 265) rfl (z := 1) rfl ?_
            refine Go.s_goto X181 hx (hb hby at_265) (q := 269) (by decide) (by decide) ?_
            refine Go.retN X181 hx hlk hret (by simp) (hb hby at_269) (by decide) (by decide) ?_
            try rw [e181]
            exact ⟨by decide, N168⟩
  · -- pc 3: not (x0 &&& (1 : Int32)) = (0 : Int32)
    refine Go.s_ifNo X0 hx (hb hby at_3) (q := 6) rfl ((if0 _ _).trans (feq c3_1).1) ?_
    refine Go.s_iconst X0 hx (hb hby at_6) (q := 7) rfl (z := 1) rfl ?_
    refine Go.s_goto X0 hx (hb hby at_7) (q := 11) (by decide) (by decide) ?_
    refine Go.s_istore X0 hx (hb hby at_11) (q := 13) rfl (l' := #[.val (.int x0), .val (.int x1), .val (.int x2), .val (.int x3), .val (.int x4), .val (.int (1 : Int32)), .unset, .unset, .unset, .unset, .unset, .unset, .unset, .unset, .unset, .unset, .unset]) rfl ?_
    refine Go.s_iloadN X0 hx (hb hby at_13) (q := 14) rfl rfl ?_
    refine Go.s_iconst X0 hx (hb hby at_14) (q := 15) rfl (z := 2) rfl ?_
    refine Go.s_iand X0 hx (hb hby at_15) (q := 16) rfl ?_
    by_cases c16_182 : (x0 &&& (2 : Int32)) = (0 : Int32)
    · -- pc 16: (x0 &&& (2 : Int32)) = (0 : Int32)
      refine Go.s_ifYes X0 hx (hb hby at_16) (q := 23) (by decide) (by decide) ((if0 _ _).trans (teq c16_182).1) ?_
      refine Go.s_iconst X0 hx (hb hby at_23) (q := 24) rfl (z := 0) rfl ?_
      refine Go.s_istore X0 hx (hb hby at_24) (q := 26) rfl (l' := #[.val (.int x0), .val (.int x1), .val (.int x2), .val (.int x3), .val (.int x4), .val (.int (1 : Int32)), .val (.int (0 : Int32)), .unset, .unset, .unset, .unset, .unset, .unset, .unset, .unset, .unset, .unset]) rfl ?_
      refine Go.s_iload X0 hx (hb hby at_26) (q := 28) rfl rfl ?_
      refine Go.s_ifYes X0 hx (hb hby at_28) (q := 41) (by decide) (by decide) ((if0 _ _).trans (teq (by decide : (0 : Int32) = (0 : Int32))).1) ?_
      refine Go.s_iconst X0 hx (hb hby at_41) (q := 42) rfl (z := 0) rfl ?_
      refine Go.s_istore X0 hx (hb hby at_42) (q := 44) rfl (l' := #[.val (.int x0), .val (.int x1), .val (.int x2), .val (.int x3), .val (.int x4), .val (.int (1 : Int32)), .val (.int (0 : Int32)), .val (.int (0 : Int32)), .unset, .unset, .unset, .unset, .unset, .unset, .unset, .unset, .unset]) rfl ?_
      refine law_f8 hw hx hby hml hown hZ X0 ?_
      intro u8_183
      show Go p e below _ T0 (mkF m 58 #[.val (.int x0), .val (.int x1), .val (.int x2), .val (.int x3), .val (.int x4), .val (.int (1 : Int32)), .val (.int (0 : Int32)), .val (.int (0 : Int32)), .val (.int u8_183), .unset, .unset, .unset, .unset, .unset, .unset, .unset, .unset] [])
      refine Go.s_iloadN X0 hx (hb hby at_58) (q := 59) rfl rfl ?_
      refine Go.s_bipush X0 hx (hb hby at_59) (q := 61) rfl (z := 16) rfl ?_
      refine Go.s_iand X0 hx (hb hby at_61) (q := 62) rfl ?_
      by_cases c62_184 : (x0 &&& (16 : Int32)) = (0 : Int32)
      · -- pc 62: (x0 &&& (16 : Int32)) = (0 : Int32)
        refine Go.s_ifYes X0 hx (hb hby at_62) (q := 69) (by decide) (by decide) ((if0 _ _).trans (teq c62_184).1) ?_
        refine Go.s_iconst X0 hx (hb hby at_69) (q := 70) rfl (z := 0) rfl ?_
        refine Go.s_istore X0 hx (hb hby at_70) (q := 72) rfl (l' := #[.val (.int x0), .val (.int x1), .val (.int x2), .val (.int x3), .val (.int x4), .val (.int (1 : Int32)), .val (.int (0 : Int32)), .val (.int (0 : Int32)), .val (.int u8_183), .val (.int (0 : Int32)), .unset, .unset, .unset, .unset, .unset, .unset, .unset]) rfl ?_
        refine law_mid hw hx hby hml hown hZ X0 e0 Z0 ?_
        intro T185 h185 LL185 w1 b2 b6 b35 b71 b2_4 b1_4 b0_4 kk3_4 w20 w93 X185 e185 N185 p1 p20 p93 m0 m1 m2 m3 m4 m5 m6 m7 m8 m9 m10 m11 m12 m13 m14 m15 m16 m17 m18 m19 m20 m21 m22 m23 m24 m25 m26 m27 m28 m29 m30 m31 m32 m33 m34 m35 m36 m37 m38 m39 m40 m41 m42 m43 m44 m45 m46 m47 m48 m49 m50
        refine Go.s_iload X185 hx (hb hby at_132) (q := 134) rfl rfl ?_
        refine Go.s_ifNo X185 hx (hb hby at_134) (q := 137) rfl ((if0 _ _).trans (feq (by decide : ¬ ((1 : Int32) = (0 : Int32)))).1) ?_
        refine Go.s_aload X185 hx (hb hby at_137) (q := 139) rfl rfl rfl ?_
        refine Go.s_aload X185 hx (hb hby at_139) (q := 141) rfl rfl rfl ?_
        refine Go.callV (y := mn_6) (z := mn_6) X185 hx hZ hown (w_ hw 49 rfl) (w_ hw 50 rfl) (notFace_of_selects (args := #[]) (mvT hZ (w_ hw 52 rfl))) (w_ hw 52 rfl) (w_ hw 51 rfl) (w_ hw 53 rfl) (w_ hw 8 rfl) (by decide) e185 m0 (argsL := [(.ref b6)]) (rest := []) (rm_add_10 l Z a0 hw b2 b0_4 b1_4 b2_4 b6 w20 kk3_4 h185 n0 m50 m0 m12 m1 m2 m3 m4 m5 m6 m7 m8 m13 m14 m9 m10 m11 m25 m19 m21 m23 m29 m26 m27 m30 m28 m31 m32 m18 m20 m22 m24 m33) (by rw [hml]; rfl) (lenOf pd_5 rfl) rfl (hb hby at_141) (by decide) (by decide) (by decide) (by decide) ?_
        intro r186 T186 L186 q186 X186
        obtain ⟨b0_186, b1_186, b2_186, w3_186, kk4_186, rfl, N186q, K186, sz_b0_186, sz_b1_186, sz_b2_186, f186_0, f186_1, f186_2, f186_3, f186_4, f186_5, f186_6, f186_7, f186_8, f186_9, f186_10, f186_11, f186_12, f186_13, f186_14, f186_15, f186_16, f186_17, f186_18⟩ := q186
        have N186 := Fr.app N185 N186q
        have ne_b2_b0_186 : b2 ≠ b0_186 := Nat.ne_of_lt (Nat.lt_of_lt_of_le m0.lt sz_b0_186)
        have ne_b0_4_b0_186 : b0_4 ≠ b0_186 := Nat.ne_of_lt (Nat.lt_of_lt_of_le m9.lt sz_b0_186)
        have ne_b1_4_b0_186 : b1_4 ≠ b0_186 := Nat.ne_of_lt (Nat.lt_of_lt_of_le m10.lt sz_b0_186)
        have ne_b2_4_b0_186 : b2_4 ≠ b0_186 := Nat.ne_of_lt (Nat.lt_of_lt_of_le m11.lt sz_b0_186)
        have ne_b6_b0_186 : b6 ≠ b0_186 := Nat.ne_of_lt (Nat.lt_of_lt_of_le m12.lt sz_b0_186)
        have ne_b35_b0_186 : b35 ≠ b0_186 := Nat.ne_of_lt (Nat.lt_of_lt_of_le m15.lt sz_b0_186)
        have ne_b71_b0_186 : b71 ≠ b0_186 := Nat.ne_of_lt (Nat.lt_of_lt_of_le m47.lt sz_b0_186)
        have g_b0_186 : n0 ≤ b0_186 := Nat.le_trans m50 sz_b0_186
        have ne_b2_b1_186 : b2 ≠ b1_186 := Nat.ne_of_lt (Nat.lt_of_lt_of_le m0.lt sz_b1_186)
        have ne_b0_4_b1_186 : b0_4 ≠ b1_186 := Nat.ne_of_lt (Nat.lt_of_lt_of_le m9.lt sz_b1_186)
        have ne_b1_4_b1_186 : b1_4 ≠ b1_186 := Nat.ne_of_lt (Nat.lt_of_lt_of_le m10.lt sz_b1_186)
        have ne_b2_4_b1_186 : b2_4 ≠ b1_186 := Nat.ne_of_lt (Nat.lt_of_lt_of_le m11.lt sz_b1_186)
        have ne_b6_b1_186 : b6 ≠ b1_186 := Nat.ne_of_lt (Nat.lt_of_lt_of_le m12.lt sz_b1_186)
        have ne_b35_b1_186 : b35 ≠ b1_186 := Nat.ne_of_lt (Nat.lt_of_lt_of_le m15.lt sz_b1_186)
        have ne_b71_b1_186 : b71 ≠ b1_186 := Nat.ne_of_lt (Nat.lt_of_lt_of_le m47.lt sz_b1_186)
        have g_b1_186 : n0 ≤ b1_186 := Nat.le_trans m50 sz_b1_186
        have ne_b2_b2_186 : b2 ≠ b2_186 := Nat.ne_of_lt (Nat.lt_of_lt_of_le m0.lt sz_b2_186)
        have ne_b0_4_b2_186 : b0_4 ≠ b2_186 := Nat.ne_of_lt (Nat.lt_of_lt_of_le m9.lt sz_b2_186)
        have ne_b1_4_b2_186 : b1_4 ≠ b2_186 := Nat.ne_of_lt (Nat.lt_of_lt_of_le m10.lt sz_b2_186)
        have ne_b2_4_b2_186 : b2_4 ≠ b2_186 := Nat.ne_of_lt (Nat.lt_of_lt_of_le m11.lt sz_b2_186)
        have ne_b6_b2_186 : b6 ≠ b2_186 := Nat.ne_of_lt (Nat.lt_of_lt_of_le m12.lt sz_b2_186)
        have ne_b35_b2_186 : b35 ≠ b2_186 := Nat.ne_of_lt (Nat.lt_of_lt_of_le m15.lt sz_b2_186)
        have ne_b71_b2_186 : b71 ≠ b2_186 := Nat.ne_of_lt (Nat.lt_of_lt_of_le m47.lt sz_b2_186)
        have g_b2_186 : n0 ≤ b2_186 := Nat.le_trans m50 sz_b2_186
        have m9_v187 := m9.keep K186 (ninS (Ne.symm m19) (ninS m30 nin0))
        have m10_v188 := m10.keep K186 (ninS (Ne.symm m21) (ninS m31 nin0))
        have m11_v189 := m11.keep K186 (ninS (Ne.symm m23) (ninS m32 nin0))
        have m15_v190 := m15.keep K186
        have m16_v191 := m16.keep K186 (ninS (Ne.symm m34) (ninS (Ne.symm m38) nin0))
        have m17_v192 := m17.keep K186 (ninS (Ne.symm m34) (ninS (Ne.symm m38) nin0))
        have m47_v193 := m47.keep K186
        have m48_v194 := m48.keep K186 (ninS (Ne.symm m40) (ninS (Ne.symm m44) nin0))
        have m49_v195 := m49.keep K186 (ninS (Ne.symm m40) (ninS (Ne.symm m44) nin0))
        have m50_v196 := Nat.le_trans m50 K186.1
        show Go p e below _ T186 (mkF m 144 #[.val (.int x0), .val (.int x1), .val (.int x2), .val (.int x3), .val (.int x4), .val (.int (1 : Int32)), .val (.int (0 : Int32)), .val (.int (0 : Int32)), .val (.int u8_183), .val (.int (0 : Int32)), .val (.int w1), .val (.ref b2), .val (.ref b6), .val (.ref b35), .val (.ref b71), .unset, .unset] [])
        refine Go.s_iload X186 hx (hb hby at_144) (q := 146) rfl rfl ?_
        refine Go.s_ifYes X186 hx (hb hby at_146) (q := 156) (by decide) (by decide) ((if0 _ _).trans (teq (by decide : (0 : Int32) = (0 : Int32))).1) ?_
        refine law_k hw hx hby hml hown hZ X186 (size_nz p1) ?_
        intro u15_197
        show Go p e below _ T186 (mkF m 178 #[.val (.int x0), .val (.int x1), .val (.int x2), .val (.int x3), .val (.int x4), .val (.int (1 : Int32)), .val (.int (0 : Int32)), .val (.int (0 : Int32)), .val (.int u8_183), .val (.int (0 : Int32)), .val (.int w1), .val (.ref b2), .val (.ref b6), .val (.ref b35), .val (.ref b71), .val (.int u15_197), .unset] [])
        refine Go.s_iload X186 hx (hb hby at_178) (q := 180) rfl rfl ?_
        refine Go.s_ifYes X186 hx (hb hby at_180) (q := 192) (by decide) (by decide) ((if0 _ _).trans (teq (by decide : (0 : Int32) = (0 : Int32))).1) ?_
        refine Go.s_iload X186 hx (hb hby at_192) (q := 194) rfl rfl ?_
        refine Go.s_ifYes X186 hx (hb hby at_194) (q := 204) (by decide) (by decide) ((if0 _ _).trans (teq (by decide : (0 : Int32) = (0 : Int32))).1) ?_
        refine Go.s_iload X186 hx (hb hby at_204) (q := 206) rfl rfl ?_
        refine Go.s_ifYes X186 hx (hb hby at_206) (q := 225) (by decide) (by decide) ((if0 _ _).trans (teq (by decide : (0 : Int32) = (0 : Int32))).1) ?_
        refine Go.s_iconst X186 hx (hb hby at_225) (q := 226) rfl (z := 0) rfl ?_
        refine Go.s_istore X186 hx (hb hby at_226) (q := 228) rfl (l' := #[.val (.int x0), .val (.int x1), .val (.int x2), .val (.int x3), .val (.int x4), .val (.int (1 : Int32)), .val (.int (0 : Int32)), .val (.int (0 : Int32)), .val (.int u8_183), .val (.int (0 : Int32)), .val (.int w1), .val (.ref b2), .val (.ref b6), .val (.ref b35), .val (.ref b71), .val (.int u15_197), .val (.int (0 : Int32))]) rfl ?_
        refine Go.s_aload X186 hx (hb hby at_228) (q := 230) rfl rfl rfl ?_
        refine Go.s_aload X186 hx (hb hby at_230) (q := 232) rfl rfl rfl ?_
        refine Go.callV (y := mn_5) (z := mn_5) X186 hx hZ hown (w_ hw 40 rfl) (w_ hw 41 rfl) (notFace_of_selects (args := #[]) (mvT hZ (w_ hw 43 rfl))) (w_ hw 43 rfl) (w_ hw 42 rfl) (w_ hw 44 rfl) (w_ hw 8 rfl) (by decide) rfl f186_0 (argsL := [(.ref b6)]) (rest := []) (rm_holds_16 l Z a0 hw b2 b0_186 b1_186 b2_186 b6 kk4_186 T186.heap n0 m50_v196 f186_8 f186_9 f186_11 f186_12 ne_b2_b0_186 ne_b2_b1_186 ne_b2_b2_186 m29 f186_16 f186_17 f186_18 ne_b6_b0_186 ne_b6_b1_186 ne_b6_b2_186) (by rw [hml]; rfl) (lenOf pd_6 rfl) rfl (hb hby at_232) (by decide) (by decide) (by decide) (by decide) ?_
        intro r198 T198 L198 q198 X198
        obtain ⟨rfl, rfl, e198⟩ := q198
        rw [List.append_nil] at X198
        show Go p e below _ T198 (mkF m 235 #[.val (.int x0), .val (.int x1), .val (.int x2), .val (.int x3), .val (.int x4), .val (.int (1 : Int32)), .val (.int (0 : Int32)), .val (.int (0 : Int32)), .val (.int u8_183), .val (.int (0 : Int32)), .val (.int w1), .val (.ref b2), .val (.ref b6), .val (.ref b35), .val (.ref b71), .val (.int u15_197), .val (.int (0 : Int32))] [(.int (1 : Int32))])
        refine Go.s_iload X198 hx (hb hby at_235) (q := 237) rfl rfl ?_
        refine Go.s_icmpNo X198 hx (hb hby at_237) (q := 240) rfl (teq (by decide : (1 : Int32) = (1 : Int32))).2 ?_
        refine Go.s_aload X198 hx (hb hby at_240) (q := 242) rfl rfl rfl ?_
        refine Go.s_aload X198 hx (hb hby at_242) (q := 244) rfl rfl rfl ?_
        refine Go.callV (y := mn_5) (z := mn_5) X198 hx hZ hown (w_ hw 40 rfl) (w_ hw 41 rfl) (notFace_of_selects (args := #[]) (mvT hZ (w_ hw 43 rfl))) (w_ hw 43 rfl) (w_ hw 42 rfl) (w_ hw 44 rfl) (w_ hw 8 rfl) (by decide) e198 f186_0 (argsL := [(.ref b35)]) (rest := []) (rm_holds_35 l Z a0 hw b2 b0_186 b1_186 b2_186 b35 b6 kk4_186 T186.heap n0 m50_v196 f186_8 f186_9 m17_v192 f186_11 f186_12 ne_b2_b0_186 ne_b2_b1_186 ne_b2_b2_186 m34 m29 f186_16 f186_17 f186_18 ne_b35_b0_186 ne_b35_b1_186 ne_b35_b2_186 ne_b6_b0_186 ne_b6_b1_186 ne_b6_b2_186 m38) (by rw [hml]; rfl) (lenOf pd_6 rfl) rfl (hb hby at_244) (by decide) (by decide) (by decide) (by decide) ?_
        intro r199 T199 L199 q199 X199
        obtain ⟨rfl, rfl, e199⟩ := q199
        rw [List.append_nil] at X199
        show Go p e below _ T199 (mkF m 247 #[.val (.int x0), .val (.int x1), .val (.int x2), .val (.int x3), .val (.int x4), .val (.int (1 : Int32)), .val (.int (0 : Int32)), .val (.int (0 : Int32)), .val (.int u8_183), .val (.int (0 : Int32)), .val (.int w1), .val (.ref b2), .val (.ref b6), .val (.ref b35), .val (.ref b71), .val (.int u15_197), .val (.int (0 : Int32))] [(.int (0 : Int32))])
        refine Go.s_iload X199 hx (hb hby at_247) (q := 249) rfl rfl ?_
        refine Go.s_icmpNo X199 hx (hb hby at_249) (q := 252) rfl (teq (by decide : (0 : Int32) = (0 : Int32))).2 ?_
        refine Go.s_aload X199 hx (hb hby at_252) (q := 254) rfl rfl rfl ?_
        refine Go.s_aload X199 hx (hb hby at_254) (q := 256) rfl rfl rfl ?_
        refine Go.callV (y := mn_5) (z := mn_5) X199 hx hZ hown (w_ hw 40 rfl) (w_ hw 41 rfl) (notFace_of_selects (args := #[]) (mvT hZ (w_ hw 43 rfl))) (w_ hw 43 rfl) (w_ hw 42 rfl) (w_ hw 44 rfl) (w_ hw 8 rfl) (by decide) e199 f186_0 (argsL := [(.ref b71)]) (rest := []) (rm_holds_18 l Z a0 hw b2 b0_186 b1_186 b2_186 b71 b6 kk4_186 T186.heap n0 m50_v196 f186_8 f186_9 m49_v195 f186_11 f186_12 ne_b2_b0_186 ne_b2_b1_186 ne_b2_b2_186 m29 m40 f186_16 f186_17 f186_18 ne_b71_b0_186 ne_b71_b1_186 ne_b71_b2_186 ne_b6_b0_186 ne_b6_b1_186 ne_b6_b2_186 m44) (by rw [hml]; rfl) (lenOf pd_6 rfl) rfl (hb hby at_256) (by decide) (by decide) (by decide) (by decide) ?_
        intro r200 T200 L200 q200 X200
        obtain ⟨rfl, rfl, e200⟩ := q200
        rw [List.append_nil] at X200
        show Go p e below _ T200 (mkF m 259 #[.val (.int x0), .val (.int x1), .val (.int x2), .val (.int x3), .val (.int x4), .val (.int (1 : Int32)), .val (.int (0 : Int32)), .val (.int (0 : Int32)), .val (.int u8_183), .val (.int (0 : Int32)), .val (.int w1), .val (.ref b2), .val (.ref b6), .val (.ref b35), .val (.ref b71), .val (.int u15_197), .val (.int (0 : Int32))] [(.int (0 : Int32))])
        refine Go.s_iload X200 hx (hb hby at_259) (q := 261) rfl rfl ?_
        refine Go.s_icmpNo X200 hx (hb hby at_261) (q := 264) rfl (teq (by decide : (0 : Int32) = (0 : Int32))).2 ?_
        refine Go.s_iconst X200 hx (hb hby at_264) (q := 265) rfl (z := 1) rfl ?_
        refine Go.s_goto X200 hx (hb hby at_265) (q := 269) (by decide) (by decide) ?_
        refine Go.retN X200 hx hlk hret (by simp) (hb hby at_269) (by decide) (by decide) ?_
        try rw [e200]
        exact ⟨by decide, N186⟩
      · -- pc 62: not (x0 &&& (16 : Int32)) = (0 : Int32)
        refine Go.s_ifNo X0 hx (hb hby at_62) (q := 65) rfl ((if0 _ _).trans (feq c62_184).1) ?_
        refine Go.s_iconst X0 hx (hb hby at_65) (q := 66) rfl (z := 1) rfl ?_
        refine Go.s_goto X0 hx (hb hby at_66) (q := 70) (by decide) (by decide) ?_
        refine Go.s_istore X0 hx (hb hby at_70) (q := 72) rfl (l' := #[.val (.int x0), .val (.int x1), .val (.int x2), .val (.int x3), .val (.int x4), .val (.int (1 : Int32)), .val (.int (0 : Int32)), .val (.int (0 : Int32)), .val (.int u8_183), .val (.int (1 : Int32)), .unset, .unset, .unset, .unset, .unset, .unset, .unset]) rfl ?_
        refine law_mid hw hx hby hml hown hZ X0 e0 Z0 ?_
        intro T201 h201 LL201 w1 b2 b6 b35 b71 b2_4 b1_4 b0_4 kk3_4 w20 w93 X201 e201 N201 p1 p20 p93 m0 m1 m2 m3 m4 m5 m6 m7 m8 m9 m10 m11 m12 m13 m14 m15 m16 m17 m18 m19 m20 m21 m22 m23 m24 m25 m26 m27 m28 m29 m30 m31 m32 m33 m34 m35 m36 m37 m38 m39 m40 m41 m42 m43 m44 m45 m46 m47 m48 m49 m50
        refine Go.s_iload X201 hx (hb hby at_132) (q := 134) rfl rfl ?_
        refine Go.s_ifNo X201 hx (hb hby at_134) (q := 137) rfl ((if0 _ _).trans (feq (by decide : ¬ ((1 : Int32) = (0 : Int32)))).1) ?_
        refine Go.s_aload X201 hx (hb hby at_137) (q := 139) rfl rfl rfl ?_
        refine Go.s_aload X201 hx (hb hby at_139) (q := 141) rfl rfl rfl ?_
        refine Go.callV (y := mn_6) (z := mn_6) X201 hx hZ hown (w_ hw 49 rfl) (w_ hw 50 rfl) (notFace_of_selects (args := #[]) (mvT hZ (w_ hw 52 rfl))) (w_ hw 52 rfl) (w_ hw 51 rfl) (w_ hw 53 rfl) (w_ hw 8 rfl) (by decide) e201 m0 (argsL := [(.ref b6)]) (rest := []) (rm_add_10 l Z a0 hw b2 b0_4 b1_4 b2_4 b6 w20 kk3_4 h201 n0 m50 m0 m12 m1 m2 m3 m4 m5 m6 m7 m8 m13 m14 m9 m10 m11 m25 m19 m21 m23 m29 m26 m27 m30 m28 m31 m32 m18 m20 m22 m24 m33) (by rw [hml]; rfl) (lenOf pd_5 rfl) rfl (hb hby at_141) (by decide) (by decide) (by decide) (by decide) ?_
        intro r202 T202 L202 q202 X202
        obtain ⟨b0_202, b1_202, b2_202, w3_202, kk4_202, rfl, N202q, K202, sz_b0_202, sz_b1_202, sz_b2_202, f202_0, f202_1, f202_2, f202_3, f202_4, f202_5, f202_6, f202_7, f202_8, f202_9, f202_10, f202_11, f202_12, f202_13, f202_14, f202_15, f202_16, f202_17, f202_18⟩ := q202
        have N202 := Fr.app N201 N202q
        have ne_b2_b0_202 : b2 ≠ b0_202 := Nat.ne_of_lt (Nat.lt_of_lt_of_le m0.lt sz_b0_202)
        have ne_b0_4_b0_202 : b0_4 ≠ b0_202 := Nat.ne_of_lt (Nat.lt_of_lt_of_le m9.lt sz_b0_202)
        have ne_b1_4_b0_202 : b1_4 ≠ b0_202 := Nat.ne_of_lt (Nat.lt_of_lt_of_le m10.lt sz_b0_202)
        have ne_b2_4_b0_202 : b2_4 ≠ b0_202 := Nat.ne_of_lt (Nat.lt_of_lt_of_le m11.lt sz_b0_202)
        have ne_b6_b0_202 : b6 ≠ b0_202 := Nat.ne_of_lt (Nat.lt_of_lt_of_le m12.lt sz_b0_202)
        have ne_b35_b0_202 : b35 ≠ b0_202 := Nat.ne_of_lt (Nat.lt_of_lt_of_le m15.lt sz_b0_202)
        have ne_b71_b0_202 : b71 ≠ b0_202 := Nat.ne_of_lt (Nat.lt_of_lt_of_le m47.lt sz_b0_202)
        have g_b0_202 : n0 ≤ b0_202 := Nat.le_trans m50 sz_b0_202
        have ne_b2_b1_202 : b2 ≠ b1_202 := Nat.ne_of_lt (Nat.lt_of_lt_of_le m0.lt sz_b1_202)
        have ne_b0_4_b1_202 : b0_4 ≠ b1_202 := Nat.ne_of_lt (Nat.lt_of_lt_of_le m9.lt sz_b1_202)
        have ne_b1_4_b1_202 : b1_4 ≠ b1_202 := Nat.ne_of_lt (Nat.lt_of_lt_of_le m10.lt sz_b1_202)
        have ne_b2_4_b1_202 : b2_4 ≠ b1_202 := Nat.ne_of_lt (Nat.lt_of_lt_of_le m11.lt sz_b1_202)
        have ne_b6_b1_202 : b6 ≠ b1_202 := Nat.ne_of_lt (Nat.lt_of_lt_of_le m12.lt sz_b1_202)
        have ne_b35_b1_202 : b35 ≠ b1_202 := Nat.ne_of_lt (Nat.lt_of_lt_of_le m15.lt sz_b1_202)
        have ne_b71_b1_202 : b71 ≠ b1_202 := Nat.ne_of_lt (Nat.lt_of_lt_of_le m47.lt sz_b1_202)
        have g_b1_202 : n0 ≤ b1_202 := Nat.le_trans m50 sz_b1_202
        have ne_b2_b2_202 : b2 ≠ b2_202 := Nat.ne_of_lt (Nat.lt_of_lt_of_le m0.lt sz_b2_202)
        have ne_b0_4_b2_202 : b0_4 ≠ b2_202 := Nat.ne_of_lt (Nat.lt_of_lt_of_le m9.lt sz_b2_202)
        have ne_b1_4_b2_202 : b1_4 ≠ b2_202 := Nat.ne_of_lt (Nat.lt_of_lt_of_le m10.lt sz_b2_202)
        have ne_b2_4_b2_202 : b2_4 ≠ b2_202 := Nat.ne_of_lt (Nat.lt_of_lt_of_le m11.lt sz_b2_202)
        have ne_b6_b2_202 : b6 ≠ b2_202 := Nat.ne_of_lt (Nat.lt_of_lt_of_le m12.lt sz_b2_202)
        have ne_b35_b2_202 : b35 ≠ b2_202 := Nat.ne_of_lt (Nat.lt_of_lt_of_le m15.lt sz_b2_202)
        have ne_b71_b2_202 : b71 ≠ b2_202 := Nat.ne_of_lt (Nat.lt_of_lt_of_le m47.lt sz_b2_202)
        have g_b2_202 : n0 ≤ b2_202 := Nat.le_trans m50 sz_b2_202
        have m9_v203 := m9.keep K202 (ninS (Ne.symm m19) (ninS m30 nin0))
        have m10_v204 := m10.keep K202 (ninS (Ne.symm m21) (ninS m31 nin0))
        have m11_v205 := m11.keep K202 (ninS (Ne.symm m23) (ninS m32 nin0))
        have m15_v206 := m15.keep K202
        have m16_v207 := m16.keep K202 (ninS (Ne.symm m34) (ninS (Ne.symm m38) nin0))
        have m17_v208 := m17.keep K202 (ninS (Ne.symm m34) (ninS (Ne.symm m38) nin0))
        have m47_v209 := m47.keep K202
        have m48_v210 := m48.keep K202 (ninS (Ne.symm m40) (ninS (Ne.symm m44) nin0))
        have m49_v211 := m49.keep K202 (ninS (Ne.symm m40) (ninS (Ne.symm m44) nin0))
        have m50_v212 := Nat.le_trans m50 K202.1
        show Go p e below _ T202 (mkF m 144 #[.val (.int x0), .val (.int x1), .val (.int x2), .val (.int x3), .val (.int x4), .val (.int (1 : Int32)), .val (.int (0 : Int32)), .val (.int (0 : Int32)), .val (.int u8_183), .val (.int (1 : Int32)), .val (.int w1), .val (.ref b2), .val (.ref b6), .val (.ref b35), .val (.ref b71), .unset, .unset] [])
        refine Go.s_iload X202 hx (hb hby at_144) (q := 146) rfl rfl ?_
        refine Go.s_ifYes X202 hx (hb hby at_146) (q := 156) (by decide) (by decide) ((if0 _ _).trans (teq (by decide : (0 : Int32) = (0 : Int32))).1) ?_
        refine law_k hw hx hby hml hown hZ X202 (size_nz p1) ?_
        intro u15_213
        show Go p e below _ T202 (mkF m 178 #[.val (.int x0), .val (.int x1), .val (.int x2), .val (.int x3), .val (.int x4), .val (.int (1 : Int32)), .val (.int (0 : Int32)), .val (.int (0 : Int32)), .val (.int u8_183), .val (.int (1 : Int32)), .val (.int w1), .val (.ref b2), .val (.ref b6), .val (.ref b35), .val (.ref b71), .val (.int u15_213), .unset] [])
        refine Go.s_iload X202 hx (hb hby at_178) (q := 180) rfl rfl ?_
        refine Go.s_ifYes X202 hx (hb hby at_180) (q := 192) (by decide) (by decide) ((if0 _ _).trans (teq (by decide : (0 : Int32) = (0 : Int32))).1) ?_
        refine Go.s_iload X202 hx (hb hby at_192) (q := 194) rfl rfl ?_
        refine Go.s_ifNo X202 hx (hb hby at_194) (q := 197) rfl ((if0 _ _).trans (feq (by decide : ¬ ((1 : Int32) = (0 : Int32)))).1) ?_
        refine Go.s_aload X202 hx (hb hby at_197) (q := 199) rfl rfl rfl ?_
        refine Go.s_aload X202 hx (hb hby at_199) (q := 201) rfl rfl rfl ?_
        refine Go.callV (y := mn_6) (z := mn_6) X202 hx hZ hown (w_ hw 49 rfl) (w_ hw 50 rfl) (notFace_of_selects (args := #[]) (mvT hZ (w_ hw 52 rfl))) (w_ hw 52 rfl) (w_ hw 51 rfl) (w_ hw 53 rfl) (w_ hw 8 rfl) (by decide) rfl f202_0 (argsL := [(.ref b71)]) (rest := []) (rm_add_22 l Z a0 hw b2 b0_202 b1_202 b2_202 b71 w3_202 w93 kk4_202 b6 T202.heap n0 m50_v212 f202_0 m47_v209 f202_2 f202_3 f202_4 f202_5 f202_6 f202_7 f202_8 f202_9 m48_v210 m49_v211 f202_12 f202_13 f202_14 f202_15 ne_b2_b0_202 ne_b2_b1_202 ne_b2_b2_202 m40 f202_16 f202_17 f202_18 ne_b71_b0_202 ne_b71_b1_202 ne_b71_b2_202 m18 g_b0_202 g_b1_202 g_b2_202 m46) (by rw [hml]; rfl) (lenOf pd_5 rfl) rfl (hb hby at_201) (by decide) (by decide) (by decide) (by decide) ?_
        intro r214 T214 L214 q214 X214
        obtain ⟨w0_214, rfl, N214q, K214, f214_0, f214_1, f214_2, f214_3, f214_4, f214_5, f214_6, f214_7, f214_8, f214_9, f214_10, f214_11, f214_12, f214_13, f214_14, f214_15⟩ := q214
        have N214 := Fr.app N202 N214q
        have m9_v215 := m9_v203.keep K214 (ninS (Ne.symm m19) (ninS ne_b0_4_b0_202 (ninS ne_b0_4_b1_202 (ninS ne_b0_4_b2_202 (ninS m41 nin0)))))
        have m10_v216 := m10_v204.keep K214 (ninS (Ne.symm m21) (ninS ne_b1_4_b0_202 (ninS ne_b1_4_b1_202 (ninS ne_b1_4_b2_202 (ninS m42 nin0)))))
        have m11_v217 := m11_v205.keep K214 (ninS (Ne.symm m23) (ninS ne_b2_4_b0_202 (ninS ne_b2_4_b1_202 (ninS ne_b2_4_b2_202 (ninS m43 nin0)))))
        have m15_v218 := m15_v206.keep K214
        have m16_v219 := m16_v207.keep K214 (ninS (Ne.symm m34) (ninS ne_b35_b0_202 (ninS ne_b35_b1_202 (ninS ne_b35_b2_202 (ninS m45 nin0)))))
        have m17_v220 := m17_v208.keep K214 (ninS (Ne.symm m34) (ninS ne_b35_b0_202 (ninS ne_b35_b1_202 (ninS ne_b35_b2_202 (ninS m45 nin0)))))
        have m50_v221 := Nat.le_trans m50_v212 K214.1
        have f202_1_v222 := f202_1.keep K214
        have f202_10_v223 := f202_10.keep K214 (ninS (Ne.symm m29) (ninS ne_b6_b0_202 (ninS ne_b6_b1_202 (ninS ne_b6_b2_202 (ninS m44 nin0)))))
        have f202_11_v224 := f202_11.keep K214 (ninS (Ne.symm m29) (ninS ne_b6_b0_202 (ninS ne_b6_b1_202 (ninS ne_b6_b2_202 (ninS m44 nin0)))))
        show Go p e below _ T214 (mkF m 204 #[.val (.int x0), .val (.int x1), .val (.int x2), .val (.int x3), .val (.int x4), .val (.int (1 : Int32)), .val (.int (0 : Int32)), .val (.int (0 : Int32)), .val (.int u8_183), .val (.int (1 : Int32)), .val (.int w1), .val (.ref b2), .val (.ref b6), .val (.ref b35), .val (.ref b71), .val (.int u15_213), .unset] [])
        refine Go.s_iload X214 hx (hb hby at_204) (q := 206) rfl rfl ?_
        refine Go.s_ifYes X214 hx (hb hby at_206) (q := 225) (by decide) (by decide) ((if0 _ _).trans (teq (by decide : (0 : Int32) = (0 : Int32))).1) ?_
        refine Go.s_iconst X214 hx (hb hby at_225) (q := 226) rfl (z := 0) rfl ?_
        refine Go.s_istore X214 hx (hb hby at_226) (q := 228) rfl (l' := #[.val (.int x0), .val (.int x1), .val (.int x2), .val (.int x3), .val (.int x4), .val (.int (1 : Int32)), .val (.int (0 : Int32)), .val (.int (0 : Int32)), .val (.int u8_183), .val (.int (1 : Int32)), .val (.int w1), .val (.ref b2), .val (.ref b6), .val (.ref b35), .val (.ref b71), .val (.int u15_213), .val (.int (0 : Int32))]) rfl ?_
        refine Go.s_aload X214 hx (hb hby at_228) (q := 230) rfl rfl rfl ?_
        refine Go.s_aload X214 hx (hb hby at_230) (q := 232) rfl rfl rfl ?_
        refine Go.callV (y := mn_5) (z := mn_5) X214 hx hZ hown (w_ hw 40 rfl) (w_ hw 41 rfl) (notFace_of_selects (args := #[]) (mvT hZ (w_ hw 43 rfl))) (w_ hw 43 rfl) (w_ hw 42 rfl) (w_ hw 44 rfl) (w_ hw 8 rfl) (by decide) rfl f214_0 (argsL := [(.ref b6)]) (rest := []) (rm_holds_27 l Z a0 hw b2 b0_202 b1_202 b2_202 b6 b71 kk4_202 T214.heap n0 m50_v221 f214_8 f214_9 f202_11_v224 f214_11 f214_12 ne_b2_b0_202 ne_b2_b1_202 ne_b2_b2_202 m29 m40 f202_16 f202_17 f202_18 ne_b6_b0_202 ne_b6_b1_202 ne_b6_b2_202 m44 ne_b71_b0_202 ne_b71_b1_202 ne_b71_b2_202) (by rw [hml]; rfl) (lenOf pd_6 rfl) rfl (hb hby at_232) (by decide) (by decide) (by decide) (by decide) ?_
        intro r225 T225 L225 q225 X225
        obtain ⟨rfl, rfl, e225⟩ := q225
        rw [List.append_nil] at X225
        show Go p e below _ T225 (mkF m 235 #[.val (.int x0), .val (.int x1), .val (.int x2), .val (.int x3), .val (.int x4), .val (.int (1 : Int32)), .val (.int (0 : Int32)), .val (.int (0 : Int32)), .val (.int u8_183), .val (.int (1 : Int32)), .val (.int w1), .val (.ref b2), .val (.ref b6), .val (.ref b35), .val (.ref b71), .val (.int u15_213), .val (.int (0 : Int32))] [(.int (1 : Int32))])
        refine Go.s_iload X225 hx (hb hby at_235) (q := 237) rfl rfl ?_
        refine Go.s_icmpNo X225 hx (hb hby at_237) (q := 240) rfl (teq (by decide : (1 : Int32) = (1 : Int32))).2 ?_
        refine Go.s_aload X225 hx (hb hby at_240) (q := 242) rfl rfl rfl ?_
        refine Go.s_aload X225 hx (hb hby at_242) (q := 244) rfl rfl rfl ?_
        refine Go.callV (y := mn_5) (z := mn_5) X225 hx hZ hown (w_ hw 40 rfl) (w_ hw 41 rfl) (notFace_of_selects (args := #[]) (mvT hZ (w_ hw 43 rfl))) (w_ hw 43 rfl) (w_ hw 42 rfl) (w_ hw 44 rfl) (w_ hw 8 rfl) (by decide) e225 f214_0 (argsL := [(.ref b35)]) (rest := []) (rm_holds_36 l Z a0 hw b2 b0_202 b1_202 b2_202 b35 b6 b71 kk4_202 T214.heap n0 m50_v221 f214_8 f214_9 m17_v220 f202_11_v224 f214_11 f214_12 ne_b2_b0_202 ne_b2_b1_202 ne_b2_b2_202 m34 m29 m40 f202_16 f202_17 f202_18 ne_b35_b0_202 ne_b35_b1_202 ne_b35_b2_202 m45 ne_b6_b0_202 ne_b6_b1_202 ne_b6_b2_202 m38 m44 ne_b71_b0_202 ne_b71_b1_202 ne_b71_b2_202) (by rw [hml]; rfl) (lenOf pd_6 rfl) rfl (hb hby at_244) (by decide) (by decide) (by decide) (by decide) ?_
        intro r226 T226 L226 q226 X226
        obtain ⟨rfl, rfl, e226⟩ := q226
        rw [List.append_nil] at X226
        show Go p e below _ T226 (mkF m 247 #[.val (.int x0), .val (.int x1), .val (.int x2), .val (.int x3), .val (.int x4), .val (.int (1 : Int32)), .val (.int (0 : Int32)), .val (.int (0 : Int32)), .val (.int u8_183), .val (.int (1 : Int32)), .val (.int w1), .val (.ref b2), .val (.ref b6), .val (.ref b35), .val (.ref b71), .val (.int u15_213), .val (.int (0 : Int32))] [(.int (0 : Int32))])
        refine Go.s_iload X226 hx (hb hby at_247) (q := 249) rfl rfl ?_
        refine Go.s_icmpNo X226 hx (hb hby at_249) (q := 252) rfl (teq (by decide : (0 : Int32) = (0 : Int32))).2 ?_
        refine Go.s_aload X226 hx (hb hby at_252) (q := 254) rfl rfl rfl ?_
        refine Go.s_aload X226 hx (hb hby at_254) (q := 256) rfl rfl rfl ?_
        refine Go.callV (y := mn_5) (z := mn_5) X226 hx hZ hown (w_ hw 40 rfl) (w_ hw 41 rfl) (notFace_of_selects (args := #[]) (mvT hZ (w_ hw 43 rfl))) (w_ hw 43 rfl) (w_ hw 42 rfl) (w_ hw 44 rfl) (w_ hw 8 rfl) (by decide) e226 f214_0 (argsL := [(.ref b71)]) (rest := []) (rm_holds_28 l Z a0 hw b2 b0_202 b1_202 b2_202 b71 b6 kk4_202 T214.heap n0 m50_v221 f214_8 f214_9 f214_11 f202_11_v224 f214_12 ne_b2_b0_202 ne_b2_b1_202 ne_b2_b2_202 m29 m40 f202_16 f202_17 f202_18 ne_b71_b0_202 ne_b71_b1_202 ne_b71_b2_202 ne_b6_b0_202 ne_b6_b1_202 ne_b6_b2_202 m44) (by rw [hml]; rfl) (lenOf pd_6 rfl) rfl (hb hby at_256) (by decide) (by decide) (by decide) (by decide) ?_
        intro r227 T227 L227 q227 X227
        obtain ⟨rfl, rfl, e227⟩ := q227
        rw [List.append_nil] at X227
        show Go p e below _ T227 (mkF m 259 #[.val (.int x0), .val (.int x1), .val (.int x2), .val (.int x3), .val (.int x4), .val (.int (1 : Int32)), .val (.int (0 : Int32)), .val (.int (0 : Int32)), .val (.int u8_183), .val (.int (1 : Int32)), .val (.int w1), .val (.ref b2), .val (.ref b6), .val (.ref b35), .val (.ref b71), .val (.int u15_213), .val (.int (0 : Int32))] [(.int (1 : Int32))])
        refine Go.s_iload X227 hx (hb hby at_259) (q := 261) rfl rfl ?_
        refine Go.s_icmpNo X227 hx (hb hby at_261) (q := 264) rfl (teq (by decide : (1 : Int32) = (1 : Int32))).2 ?_
        refine Go.s_iconst X227 hx (hb hby at_264) (q := 265) rfl (z := 1) rfl ?_
        refine Go.s_goto X227 hx (hb hby at_265) (q := 269) (by decide) (by decide) ?_
        refine Go.retN X227 hx hlk hret (by simp) (hb hby at_269) (by decide) (by decide) ?_
        try rw [e227]
        exact ⟨by decide, N214⟩
    · -- pc 16: not (x0 &&& (2 : Int32)) = (0 : Int32)
      refine Go.s_ifNo X0 hx (hb hby at_16) (q := 19) rfl ((if0 _ _).trans (feq c16_182).1) ?_
      refine Go.s_iconst X0 hx (hb hby at_19) (q := 20) rfl (z := 1) rfl ?_
      refine Go.s_goto X0 hx (hb hby at_20) (q := 24) (by decide) (by decide) ?_
      refine Go.s_istore X0 hx (hb hby at_24) (q := 26) rfl (l' := #[.val (.int x0), .val (.int x1), .val (.int x2), .val (.int x3), .val (.int x4), .val (.int (1 : Int32)), .val (.int (1 : Int32)), .unset, .unset, .unset, .unset, .unset, .unset, .unset, .unset, .unset, .unset]) rfl ?_
      refine Go.s_iload X0 hx (hb hby at_26) (q := 28) rfl rfl ?_
      refine Go.s_ifNo X0 hx (hb hby at_28) (q := 31) rfl ((if0 _ _).trans (feq (by decide : ¬ ((1 : Int32) = (0 : Int32)))).1) ?_
      refine Go.s_iloadN X0 hx (hb hby at_31) (q := 32) rfl rfl ?_
      refine Go.s_iconst X0 hx (hb hby at_32) (q := 33) rfl (z := 4) rfl ?_
      refine Go.s_iand X0 hx (hb hby at_33) (q := 34) rfl ?_
      by_cases c34_228 : (x0 &&& (4 : Int32)) = (0 : Int32)
      · -- pc 34: (x0 &&& (4 : Int32)) = (0 : Int32)
        refine Go.s_ifYes X0 hx (hb hby at_34) (q := 41) (by decide) (by decide) ((if0 _ _).trans (teq c34_228).1) ?_
        refine Go.s_iconst X0 hx (hb hby at_41) (q := 42) rfl (z := 0) rfl ?_
        refine Go.s_istore X0 hx (hb hby at_42) (q := 44) rfl (l' := #[.val (.int x0), .val (.int x1), .val (.int x2), .val (.int x3), .val (.int x4), .val (.int (1 : Int32)), .val (.int (1 : Int32)), .val (.int (0 : Int32)), .unset, .unset, .unset, .unset, .unset, .unset, .unset, .unset, .unset]) rfl ?_
        refine law_f8 hw hx hby hml hown hZ X0 ?_
        intro u8_229
        show Go p e below _ T0 (mkF m 58 #[.val (.int x0), .val (.int x1), .val (.int x2), .val (.int x3), .val (.int x4), .val (.int (1 : Int32)), .val (.int (1 : Int32)), .val (.int (0 : Int32)), .val (.int u8_229), .unset, .unset, .unset, .unset, .unset, .unset, .unset, .unset] [])
        refine Go.s_iloadN X0 hx (hb hby at_58) (q := 59) rfl rfl ?_
        refine Go.s_bipush X0 hx (hb hby at_59) (q := 61) rfl (z := 16) rfl ?_
        refine Go.s_iand X0 hx (hb hby at_61) (q := 62) rfl ?_
        by_cases c62_230 : (x0 &&& (16 : Int32)) = (0 : Int32)
        · -- pc 62: (x0 &&& (16 : Int32)) = (0 : Int32)
          refine Go.s_ifYes X0 hx (hb hby at_62) (q := 69) (by decide) (by decide) ((if0 _ _).trans (teq c62_230).1) ?_
          refine Go.s_iconst X0 hx (hb hby at_69) (q := 70) rfl (z := 0) rfl ?_
          refine Go.s_istore X0 hx (hb hby at_70) (q := 72) rfl (l' := #[.val (.int x0), .val (.int x1), .val (.int x2), .val (.int x3), .val (.int x4), .val (.int (1 : Int32)), .val (.int (1 : Int32)), .val (.int (0 : Int32)), .val (.int u8_229), .val (.int (0 : Int32)), .unset, .unset, .unset, .unset, .unset, .unset, .unset]) rfl ?_
          refine law_mid hw hx hby hml hown hZ X0 e0 Z0 ?_
          intro T231 h231 LL231 w1 b2 b6 b35 b71 b2_4 b1_4 b0_4 kk3_4 w20 w93 X231 e231 N231 p1 p20 p93 m0 m1 m2 m3 m4 m5 m6 m7 m8 m9 m10 m11 m12 m13 m14 m15 m16 m17 m18 m19 m20 m21 m22 m23 m24 m25 m26 m27 m28 m29 m30 m31 m32 m33 m34 m35 m36 m37 m38 m39 m40 m41 m42 m43 m44 m45 m46 m47 m48 m49 m50
          refine Go.s_iload X231 hx (hb hby at_132) (q := 134) rfl rfl ?_
          refine Go.s_ifNo X231 hx (hb hby at_134) (q := 137) rfl ((if0 _ _).trans (feq (by decide : ¬ ((1 : Int32) = (0 : Int32)))).1) ?_
          refine Go.s_aload X231 hx (hb hby at_137) (q := 139) rfl rfl rfl ?_
          refine Go.s_aload X231 hx (hb hby at_139) (q := 141) rfl rfl rfl ?_
          refine Go.callV (y := mn_6) (z := mn_6) X231 hx hZ hown (w_ hw 49 rfl) (w_ hw 50 rfl) (notFace_of_selects (args := #[]) (mvT hZ (w_ hw 52 rfl))) (w_ hw 52 rfl) (w_ hw 51 rfl) (w_ hw 53 rfl) (w_ hw 8 rfl) (by decide) e231 m0 (argsL := [(.ref b6)]) (rest := []) (rm_add_10 l Z a0 hw b2 b0_4 b1_4 b2_4 b6 w20 kk3_4 h231 n0 m50 m0 m12 m1 m2 m3 m4 m5 m6 m7 m8 m13 m14 m9 m10 m11 m25 m19 m21 m23 m29 m26 m27 m30 m28 m31 m32 m18 m20 m22 m24 m33) (by rw [hml]; rfl) (lenOf pd_5 rfl) rfl (hb hby at_141) (by decide) (by decide) (by decide) (by decide) ?_
          intro r232 T232 L232 q232 X232
          obtain ⟨b0_232, b1_232, b2_232, w3_232, kk4_232, rfl, N232q, K232, sz_b0_232, sz_b1_232, sz_b2_232, f232_0, f232_1, f232_2, f232_3, f232_4, f232_5, f232_6, f232_7, f232_8, f232_9, f232_10, f232_11, f232_12, f232_13, f232_14, f232_15, f232_16, f232_17, f232_18⟩ := q232
          have N232 := Fr.app N231 N232q
          have ne_b2_b0_232 : b2 ≠ b0_232 := Nat.ne_of_lt (Nat.lt_of_lt_of_le m0.lt sz_b0_232)
          have ne_b0_4_b0_232 : b0_4 ≠ b0_232 := Nat.ne_of_lt (Nat.lt_of_lt_of_le m9.lt sz_b0_232)
          have ne_b1_4_b0_232 : b1_4 ≠ b0_232 := Nat.ne_of_lt (Nat.lt_of_lt_of_le m10.lt sz_b0_232)
          have ne_b2_4_b0_232 : b2_4 ≠ b0_232 := Nat.ne_of_lt (Nat.lt_of_lt_of_le m11.lt sz_b0_232)
          have ne_b6_b0_232 : b6 ≠ b0_232 := Nat.ne_of_lt (Nat.lt_of_lt_of_le m12.lt sz_b0_232)
          have ne_b35_b0_232 : b35 ≠ b0_232 := Nat.ne_of_lt (Nat.lt_of_lt_of_le m15.lt sz_b0_232)
          have ne_b71_b0_232 : b71 ≠ b0_232 := Nat.ne_of_lt (Nat.lt_of_lt_of_le m47.lt sz_b0_232)
          have g_b0_232 : n0 ≤ b0_232 := Nat.le_trans m50 sz_b0_232
          have ne_b2_b1_232 : b2 ≠ b1_232 := Nat.ne_of_lt (Nat.lt_of_lt_of_le m0.lt sz_b1_232)
          have ne_b0_4_b1_232 : b0_4 ≠ b1_232 := Nat.ne_of_lt (Nat.lt_of_lt_of_le m9.lt sz_b1_232)
          have ne_b1_4_b1_232 : b1_4 ≠ b1_232 := Nat.ne_of_lt (Nat.lt_of_lt_of_le m10.lt sz_b1_232)
          have ne_b2_4_b1_232 : b2_4 ≠ b1_232 := Nat.ne_of_lt (Nat.lt_of_lt_of_le m11.lt sz_b1_232)
          have ne_b6_b1_232 : b6 ≠ b1_232 := Nat.ne_of_lt (Nat.lt_of_lt_of_le m12.lt sz_b1_232)
          have ne_b35_b1_232 : b35 ≠ b1_232 := Nat.ne_of_lt (Nat.lt_of_lt_of_le m15.lt sz_b1_232)
          have ne_b71_b1_232 : b71 ≠ b1_232 := Nat.ne_of_lt (Nat.lt_of_lt_of_le m47.lt sz_b1_232)
          have g_b1_232 : n0 ≤ b1_232 := Nat.le_trans m50 sz_b1_232
          have ne_b2_b2_232 : b2 ≠ b2_232 := Nat.ne_of_lt (Nat.lt_of_lt_of_le m0.lt sz_b2_232)
          have ne_b0_4_b2_232 : b0_4 ≠ b2_232 := Nat.ne_of_lt (Nat.lt_of_lt_of_le m9.lt sz_b2_232)
          have ne_b1_4_b2_232 : b1_4 ≠ b2_232 := Nat.ne_of_lt (Nat.lt_of_lt_of_le m10.lt sz_b2_232)
          have ne_b2_4_b2_232 : b2_4 ≠ b2_232 := Nat.ne_of_lt (Nat.lt_of_lt_of_le m11.lt sz_b2_232)
          have ne_b6_b2_232 : b6 ≠ b2_232 := Nat.ne_of_lt (Nat.lt_of_lt_of_le m12.lt sz_b2_232)
          have ne_b35_b2_232 : b35 ≠ b2_232 := Nat.ne_of_lt (Nat.lt_of_lt_of_le m15.lt sz_b2_232)
          have ne_b71_b2_232 : b71 ≠ b2_232 := Nat.ne_of_lt (Nat.lt_of_lt_of_le m47.lt sz_b2_232)
          have g_b2_232 : n0 ≤ b2_232 := Nat.le_trans m50 sz_b2_232
          have m9_v233 := m9.keep K232 (ninS (Ne.symm m19) (ninS m30 nin0))
          have m10_v234 := m10.keep K232 (ninS (Ne.symm m21) (ninS m31 nin0))
          have m11_v235 := m11.keep K232 (ninS (Ne.symm m23) (ninS m32 nin0))
          have m15_v236 := m15.keep K232
          have m16_v237 := m16.keep K232 (ninS (Ne.symm m34) (ninS (Ne.symm m38) nin0))
          have m17_v238 := m17.keep K232 (ninS (Ne.symm m34) (ninS (Ne.symm m38) nin0))
          have m47_v239 := m47.keep K232
          have m48_v240 := m48.keep K232 (ninS (Ne.symm m40) (ninS (Ne.symm m44) nin0))
          have m49_v241 := m49.keep K232 (ninS (Ne.symm m40) (ninS (Ne.symm m44) nin0))
          have m50_v242 := Nat.le_trans m50 K232.1
          show Go p e below _ T232 (mkF m 144 #[.val (.int x0), .val (.int x1), .val (.int x2), .val (.int x3), .val (.int x4), .val (.int (1 : Int32)), .val (.int (1 : Int32)), .val (.int (0 : Int32)), .val (.int u8_229), .val (.int (0 : Int32)), .val (.int w1), .val (.ref b2), .val (.ref b6), .val (.ref b35), .val (.ref b71), .unset, .unset] [])
          refine Go.s_iload X232 hx (hb hby at_144) (q := 146) rfl rfl ?_
          refine Go.s_ifNo X232 hx (hb hby at_146) (q := 149) rfl ((if0 _ _).trans (feq (by decide : ¬ ((1 : Int32) = (0 : Int32)))).1) ?_
          refine Go.s_aload X232 hx (hb hby at_149) (q := 151) rfl rfl rfl ?_
          refine Go.s_aload X232 hx (hb hby at_151) (q := 153) rfl rfl rfl ?_
          refine Go.callV (y := mn_6) (z := mn_6) X232 hx hZ hown (w_ hw 49 rfl) (w_ hw 50 rfl) (notFace_of_selects (args := #[]) (mvT hZ (w_ hw 52 rfl))) (w_ hw 52 rfl) (w_ hw 51 rfl) (w_ hw 53 rfl) (w_ hw 8 rfl) (by decide) rfl f232_0 (argsL := [(.ref b35)]) (rest := []) (rm_add_22 l Z a0 hw b2 b0_232 b1_232 b2_232 b35 w3_232 w1 kk4_232 b6 T232.heap n0 m50_v242 f232_0 m15_v236 f232_2 f232_3 f232_4 f232_5 f232_6 f232_7 f232_8 f232_9 m16_v237 m17_v238 f232_12 f232_13 f232_14 f232_15 ne_b2_b0_232 ne_b2_b1_232 ne_b2_b2_232 m34 f232_16 f232_17 f232_18 ne_b35_b0_232 ne_b35_b1_232 ne_b35_b2_232 m18 g_b0_232 g_b1_232 g_b2_232 m39) (by rw [hml]; rfl) (lenOf pd_5 rfl) rfl (hb hby at_153) (by decide) (by decide) (by decide) (by decide) ?_
          intro r243 T243 L243 q243 X243
          obtain ⟨w0_243, rfl, N243q, K243, f243_0, f243_1, f243_2, f243_3, f243_4, f243_5, f243_6, f243_7, f243_8, f243_9, f243_10, f243_11, f243_12, f243_13, f243_14, f243_15⟩ := q243
          have N243 := Fr.app N232 N243q
          have m9_v244 := m9_v233.keep K243 (ninS (Ne.symm m19) (ninS ne_b0_4_b0_232 (ninS ne_b0_4_b1_232 (ninS ne_b0_4_b2_232 (ninS m35 nin0)))))
          have m10_v245 := m10_v234.keep K243 (ninS (Ne.symm m21) (ninS ne_b1_4_b0_232 (ninS ne_b1_4_b1_232 (ninS ne_b1_4_b2_232 (ninS m36 nin0)))))
          have m11_v246 := m11_v235.keep K243 (ninS (Ne.symm m23) (ninS ne_b2_4_b0_232 (ninS ne_b2_4_b1_232 (ninS ne_b2_4_b2_232 (ninS m37 nin0)))))
          have m47_v247 := m47_v239.keep K243
          have m48_v248 := m48_v240.keep K243 (ninS (Ne.symm m40) (ninS ne_b71_b0_232 (ninS ne_b71_b1_232 (ninS ne_b71_b2_232 (ninS (Ne.symm m45) nin0)))))
          have m49_v249 := m49_v241.keep K243 (ninS (Ne.symm m40) (ninS ne_b71_b0_232 (ninS ne_b71_b1_232 (ninS ne_b71_b2_232 (ninS (Ne.symm m45) nin0)))))
          have m50_v250 := Nat.le_trans m50_v242 K243.1
          have f232_1_v251 := f232_1.keep K243
          have f232_10_v252 := f232_10.keep K243 (ninS (Ne.symm m29) (ninS ne_b6_b0_232 (ninS ne_b6_b1_232 (ninS ne_b6_b2_232 (ninS m38 nin0)))))
          have f232_11_v253 := f232_11.keep K243 (ninS (Ne.symm m29) (ninS ne_b6_b0_232 (ninS ne_b6_b1_232 (ninS ne_b6_b2_232 (ninS m38 nin0)))))
          refine law_k hw hx hby hml hown hZ X243 (size_nz p1) ?_
          intro u15_254
          show Go p e below _ T243 (mkF m 178 #[.val (.int x0), .val (.int x1), .val (.int x2), .val (.int x3), .val (.int x4), .val (.int (1 : Int32)), .val (.int (1 : Int32)), .val (.int (0 : Int32)), .val (.int u8_229), .val (.int (0 : Int32)), .val (.int w1), .val (.ref b2), .val (.ref b6), .val (.ref b35), .val (.ref b71), .val (.int u15_254), .unset] [])
          refine Go.s_iload X243 hx (hb hby at_178) (q := 180) rfl rfl ?_
          refine Go.s_ifYes X243 hx (hb hby at_180) (q := 192) (by decide) (by decide) ((if0 _ _).trans (teq (by decide : (0 : Int32) = (0 : Int32))).1) ?_
          refine Go.s_iload X243 hx (hb hby at_192) (q := 194) rfl rfl ?_
          refine Go.s_ifYes X243 hx (hb hby at_194) (q := 204) (by decide) (by decide) ((if0 _ _).trans (teq (by decide : (0 : Int32) = (0 : Int32))).1) ?_
          refine Go.s_iload X243 hx (hb hby at_204) (q := 206) rfl rfl ?_
          refine Go.s_ifNo X243 hx (hb hby at_206) (q := 209) rfl ((if0 _ _).trans (feq (by decide : ¬ ((1 : Int32) = (0 : Int32)))).1) ?_
          refine Go.s_iload X243 hx (hb hby at_209) (q := 211) rfl rfl ?_
          refine Go.s_ifYes X243 hx (hb hby at_211) (q := 221) (by decide) (by decide) ((if0 _ _).trans (teq (by decide : (0 : Int32) = (0 : Int32))).1) ?_
          refine Go.s_iconst X243 hx (hb hby at_221) (q := 222) rfl (z := 1) rfl ?_
          refine Go.s_goto X243 hx (hb hby at_222) (q := 226) (by decide) (by decide) ?_
          refine Go.s_istore X243 hx (hb hby at_226) (q := 228) rfl (l' := #[.val (.int x0), .val (.int x1), .val (.int x2), .val (.int x3), .val (.int x4), .val (.int (1 : Int32)), .val (.int (1 : Int32)), .val (.int (0 : Int32)), .val (.int u8_229), .val (.int (0 : Int32)), .val (.int w1), .val (.ref b2), .val (.ref b6), .val (.ref b35), .val (.ref b71), .val (.int u15_254), .val (.int (1 : Int32))]) rfl ?_
          refine Go.s_aload X243 hx (hb hby at_228) (q := 230) rfl rfl rfl ?_
          refine Go.s_aload X243 hx (hb hby at_230) (q := 232) rfl rfl rfl ?_
          refine Go.callV (y := mn_5) (z := mn_5) X243 hx hZ hown (w_ hw 40 rfl) (w_ hw 41 rfl) (notFace_of_selects (args := #[]) (mvT hZ (w_ hw 43 rfl))) (w_ hw 43 rfl) (w_ hw 42 rfl) (w_ hw 44 rfl) (w_ hw 8 rfl) (by decide) rfl f243_0 (argsL := [(.ref b6)]) (rest := []) (rm_holds_37 l Z a0 hw b2 b0_232 b1_232 b2_232 b6 b35 kk4_232 T243.heap n0 m50_v250 f243_8 f243_9 f232_11_v253 f243_11 f243_12 ne_b2_b0_232 ne_b2_b1_232 ne_b2_b2_232 m34 m29 f232_16 f232_17 f232_18 ne_b6_b0_232 ne_b6_b1_232 ne_b6_b2_232 m38 ne_b35_b0_232 ne_b35_b1_232 ne_b35_b2_232) (by rw [hml]; rfl) (lenOf pd_6 rfl) rfl (hb hby at_232) (by decide) (by decide) (by decide) (by decide) ?_
          intro r255 T255 L255 q255 X255
          obtain ⟨rfl, rfl, e255⟩ := q255
          rw [List.append_nil] at X255
          show Go p e below _ T255 (mkF m 235 #[.val (.int x0), .val (.int x1), .val (.int x2), .val (.int x3), .val (.int x4), .val (.int (1 : Int32)), .val (.int (1 : Int32)), .val (.int (0 : Int32)), .val (.int u8_229), .val (.int (0 : Int32)), .val (.int w1), .val (.ref b2), .val (.ref b6), .val (.ref b35), .val (.ref b71), .val (.int u15_254), .val (.int (1 : Int32))] [(.int (1 : Int32))])
          refine Go.s_iload X255 hx (hb hby at_235) (q := 237) rfl rfl ?_
          refine Go.s_icmpNo X255 hx (hb hby at_237) (q := 240) rfl (teq (by decide : (1 : Int32) = (1 : Int32))).2 ?_
          refine Go.s_aload X255 hx (hb hby at_240) (q := 242) rfl rfl rfl ?_
          refine Go.s_aload X255 hx (hb hby at_242) (q := 244) rfl rfl rfl ?_
          refine Go.callV (y := mn_5) (z := mn_5) X255 hx hZ hown (w_ hw 40 rfl) (w_ hw 41 rfl) (notFace_of_selects (args := #[]) (mvT hZ (w_ hw 43 rfl))) (w_ hw 43 rfl) (w_ hw 42 rfl) (w_ hw 44 rfl) (w_ hw 8 rfl) (by decide) e255 f243_0 (argsL := [(.ref b35)]) (rest := []) (rm_holds_38 l Z a0 hw b2 b0_232 b1_232 b2_232 b35 b6 kk4_232 T243.heap n0 m50_v250 f243_8 f243_9 f243_11 f232_11_v253 f243_12 ne_b2_b0_232 ne_b2_b1_232 ne_b2_b2_232 m34 m29 f232_16 f232_17 f232_18 ne_b35_b0_232 ne_b35_b1_232 ne_b35_b2_232 ne_b6_b0_232 ne_b6_b1_232 ne_b6_b2_232 m38) (by rw [hml]; rfl) (lenOf pd_6 rfl) rfl (hb hby at_244) (by decide) (by decide) (by decide) (by decide) ?_
          intro r256 T256 L256 q256 X256
          obtain ⟨rfl, rfl, e256⟩ := q256
          rw [List.append_nil] at X256
          show Go p e below _ T256 (mkF m 247 #[.val (.int x0), .val (.int x1), .val (.int x2), .val (.int x3), .val (.int x4), .val (.int (1 : Int32)), .val (.int (1 : Int32)), .val (.int (0 : Int32)), .val (.int u8_229), .val (.int (0 : Int32)), .val (.int w1), .val (.ref b2), .val (.ref b6), .val (.ref b35), .val (.ref b71), .val (.int u15_254), .val (.int (1 : Int32))] [(.int (1 : Int32))])
          refine Go.s_iload X256 hx (hb hby at_247) (q := 249) rfl rfl ?_
          refine Go.s_icmpNo X256 hx (hb hby at_249) (q := 252) rfl (teq (by decide : (1 : Int32) = (1 : Int32))).2 ?_
          refine Go.s_aload X256 hx (hb hby at_252) (q := 254) rfl rfl rfl ?_
          refine Go.s_aload X256 hx (hb hby at_254) (q := 256) rfl rfl rfl ?_
          refine Go.callV (y := mn_5) (z := mn_5) X256 hx hZ hown (w_ hw 40 rfl) (w_ hw 41 rfl) (notFace_of_selects (args := #[]) (mvT hZ (w_ hw 43 rfl))) (w_ hw 43 rfl) (w_ hw 42 rfl) (w_ hw 44 rfl) (w_ hw 8 rfl) (by decide) e256 f243_0 (argsL := [(.ref b71)]) (rest := []) (rm_holds_39 l Z a0 hw b2 b0_232 b1_232 b2_232 b71 b6 b35 kk4_232 T243.heap n0 m50_v250 f243_8 f243_9 m49_v249 f232_11_v253 f243_11 f243_12 ne_b2_b0_232 ne_b2_b1_232 ne_b2_b2_232 m34 m29 m40 f232_16 f232_17 f232_18 ne_b71_b0_232 ne_b71_b1_232 ne_b71_b2_232 ne_b6_b0_232 ne_b6_b1_232 ne_b6_b2_232 m38 m44 ne_b35_b0_232 ne_b35_b1_232 ne_b35_b2_232 m45) (by rw [hml]; rfl) (lenOf pd_6 rfl) rfl (hb hby at_256) (by decide) (by decide) (by decide) (by decide) ?_
          intro r257 T257 L257 q257 X257
          obtain ⟨rfl, rfl, e257⟩ := q257
          rw [List.append_nil] at X257
          show Go p e below _ T257 (mkF m 259 #[.val (.int x0), .val (.int x1), .val (.int x2), .val (.int x3), .val (.int x4), .val (.int (1 : Int32)), .val (.int (1 : Int32)), .val (.int (0 : Int32)), .val (.int u8_229), .val (.int (0 : Int32)), .val (.int w1), .val (.ref b2), .val (.ref b6), .val (.ref b35), .val (.ref b71), .val (.int u15_254), .val (.int (1 : Int32))] [(.int (0 : Int32))])
          refine Go.s_iload X257 hx (hb hby at_259) (q := 261) rfl rfl ?_
          refine Go.s_icmpNo X257 hx (hb hby at_261) (q := 264) rfl (teq (by decide : (0 : Int32) = (0 : Int32))).2 ?_
          refine Go.s_iconst X257 hx (hb hby at_264) (q := 265) rfl (z := 1) rfl ?_
          refine Go.s_goto X257 hx (hb hby at_265) (q := 269) (by decide) (by decide) ?_
          refine Go.retN X257 hx hlk hret (by simp) (hb hby at_269) (by decide) (by decide) ?_
          try rw [e257]
          exact ⟨by decide, N243⟩
        · -- pc 62: not (x0 &&& (16 : Int32)) = (0 : Int32)
          refine Go.s_ifNo X0 hx (hb hby at_62) (q := 65) rfl ((if0 _ _).trans (feq c62_230).1) ?_
          refine Go.s_iconst X0 hx (hb hby at_65) (q := 66) rfl (z := 1) rfl ?_
          refine Go.s_goto X0 hx (hb hby at_66) (q := 70) (by decide) (by decide) ?_
          refine Go.s_istore X0 hx (hb hby at_70) (q := 72) rfl (l' := #[.val (.int x0), .val (.int x1), .val (.int x2), .val (.int x3), .val (.int x4), .val (.int (1 : Int32)), .val (.int (1 : Int32)), .val (.int (0 : Int32)), .val (.int u8_229), .val (.int (1 : Int32)), .unset, .unset, .unset, .unset, .unset, .unset, .unset]) rfl ?_
          refine law_mid hw hx hby hml hown hZ X0 e0 Z0 ?_
          intro T258 h258 LL258 w1 b2 b6 b35 b71 b2_4 b1_4 b0_4 kk3_4 w20 w93 X258 e258 N258 p1 p20 p93 m0 m1 m2 m3 m4 m5 m6 m7 m8 m9 m10 m11 m12 m13 m14 m15 m16 m17 m18 m19 m20 m21 m22 m23 m24 m25 m26 m27 m28 m29 m30 m31 m32 m33 m34 m35 m36 m37 m38 m39 m40 m41 m42 m43 m44 m45 m46 m47 m48 m49 m50
          refine Go.s_iload X258 hx (hb hby at_132) (q := 134) rfl rfl ?_
          refine Go.s_ifNo X258 hx (hb hby at_134) (q := 137) rfl ((if0 _ _).trans (feq (by decide : ¬ ((1 : Int32) = (0 : Int32)))).1) ?_
          refine Go.s_aload X258 hx (hb hby at_137) (q := 139) rfl rfl rfl ?_
          refine Go.s_aload X258 hx (hb hby at_139) (q := 141) rfl rfl rfl ?_
          refine Go.callV (y := mn_6) (z := mn_6) X258 hx hZ hown (w_ hw 49 rfl) (w_ hw 50 rfl) (notFace_of_selects (args := #[]) (mvT hZ (w_ hw 52 rfl))) (w_ hw 52 rfl) (w_ hw 51 rfl) (w_ hw 53 rfl) (w_ hw 8 rfl) (by decide) e258 m0 (argsL := [(.ref b6)]) (rest := []) (rm_add_10 l Z a0 hw b2 b0_4 b1_4 b2_4 b6 w20 kk3_4 h258 n0 m50 m0 m12 m1 m2 m3 m4 m5 m6 m7 m8 m13 m14 m9 m10 m11 m25 m19 m21 m23 m29 m26 m27 m30 m28 m31 m32 m18 m20 m22 m24 m33) (by rw [hml]; rfl) (lenOf pd_5 rfl) rfl (hb hby at_141) (by decide) (by decide) (by decide) (by decide) ?_
          intro r259 T259 L259 q259 X259
          obtain ⟨b0_259, b1_259, b2_259, w3_259, kk4_259, rfl, N259q, K259, sz_b0_259, sz_b1_259, sz_b2_259, f259_0, f259_1, f259_2, f259_3, f259_4, f259_5, f259_6, f259_7, f259_8, f259_9, f259_10, f259_11, f259_12, f259_13, f259_14, f259_15, f259_16, f259_17, f259_18⟩ := q259
          have N259 := Fr.app N258 N259q
          have ne_b2_b0_259 : b2 ≠ b0_259 := Nat.ne_of_lt (Nat.lt_of_lt_of_le m0.lt sz_b0_259)
          have ne_b0_4_b0_259 : b0_4 ≠ b0_259 := Nat.ne_of_lt (Nat.lt_of_lt_of_le m9.lt sz_b0_259)
          have ne_b1_4_b0_259 : b1_4 ≠ b0_259 := Nat.ne_of_lt (Nat.lt_of_lt_of_le m10.lt sz_b0_259)
          have ne_b2_4_b0_259 : b2_4 ≠ b0_259 := Nat.ne_of_lt (Nat.lt_of_lt_of_le m11.lt sz_b0_259)
          have ne_b6_b0_259 : b6 ≠ b0_259 := Nat.ne_of_lt (Nat.lt_of_lt_of_le m12.lt sz_b0_259)
          have ne_b35_b0_259 : b35 ≠ b0_259 := Nat.ne_of_lt (Nat.lt_of_lt_of_le m15.lt sz_b0_259)
          have ne_b71_b0_259 : b71 ≠ b0_259 := Nat.ne_of_lt (Nat.lt_of_lt_of_le m47.lt sz_b0_259)
          have g_b0_259 : n0 ≤ b0_259 := Nat.le_trans m50 sz_b0_259
          have ne_b2_b1_259 : b2 ≠ b1_259 := Nat.ne_of_lt (Nat.lt_of_lt_of_le m0.lt sz_b1_259)
          have ne_b0_4_b1_259 : b0_4 ≠ b1_259 := Nat.ne_of_lt (Nat.lt_of_lt_of_le m9.lt sz_b1_259)
          have ne_b1_4_b1_259 : b1_4 ≠ b1_259 := Nat.ne_of_lt (Nat.lt_of_lt_of_le m10.lt sz_b1_259)
          have ne_b2_4_b1_259 : b2_4 ≠ b1_259 := Nat.ne_of_lt (Nat.lt_of_lt_of_le m11.lt sz_b1_259)
          have ne_b6_b1_259 : b6 ≠ b1_259 := Nat.ne_of_lt (Nat.lt_of_lt_of_le m12.lt sz_b1_259)
          have ne_b35_b1_259 : b35 ≠ b1_259 := Nat.ne_of_lt (Nat.lt_of_lt_of_le m15.lt sz_b1_259)
          have ne_b71_b1_259 : b71 ≠ b1_259 := Nat.ne_of_lt (Nat.lt_of_lt_of_le m47.lt sz_b1_259)
          have g_b1_259 : n0 ≤ b1_259 := Nat.le_trans m50 sz_b1_259
          have ne_b2_b2_259 : b2 ≠ b2_259 := Nat.ne_of_lt (Nat.lt_of_lt_of_le m0.lt sz_b2_259)
          have ne_b0_4_b2_259 : b0_4 ≠ b2_259 := Nat.ne_of_lt (Nat.lt_of_lt_of_le m9.lt sz_b2_259)
          have ne_b1_4_b2_259 : b1_4 ≠ b2_259 := Nat.ne_of_lt (Nat.lt_of_lt_of_le m10.lt sz_b2_259)
          have ne_b2_4_b2_259 : b2_4 ≠ b2_259 := Nat.ne_of_lt (Nat.lt_of_lt_of_le m11.lt sz_b2_259)
          have ne_b6_b2_259 : b6 ≠ b2_259 := Nat.ne_of_lt (Nat.lt_of_lt_of_le m12.lt sz_b2_259)
          have ne_b35_b2_259 : b35 ≠ b2_259 := Nat.ne_of_lt (Nat.lt_of_lt_of_le m15.lt sz_b2_259)
          have ne_b71_b2_259 : b71 ≠ b2_259 := Nat.ne_of_lt (Nat.lt_of_lt_of_le m47.lt sz_b2_259)
          have g_b2_259 : n0 ≤ b2_259 := Nat.le_trans m50 sz_b2_259
          have m9_v260 := m9.keep K259 (ninS (Ne.symm m19) (ninS m30 nin0))
          have m10_v261 := m10.keep K259 (ninS (Ne.symm m21) (ninS m31 nin0))
          have m11_v262 := m11.keep K259 (ninS (Ne.symm m23) (ninS m32 nin0))
          have m15_v263 := m15.keep K259
          have m16_v264 := m16.keep K259 (ninS (Ne.symm m34) (ninS (Ne.symm m38) nin0))
          have m17_v265 := m17.keep K259 (ninS (Ne.symm m34) (ninS (Ne.symm m38) nin0))
          have m47_v266 := m47.keep K259
          have m48_v267 := m48.keep K259 (ninS (Ne.symm m40) (ninS (Ne.symm m44) nin0))
          have m49_v268 := m49.keep K259 (ninS (Ne.symm m40) (ninS (Ne.symm m44) nin0))
          have m50_v269 := Nat.le_trans m50 K259.1
          show Go p e below _ T259 (mkF m 144 #[.val (.int x0), .val (.int x1), .val (.int x2), .val (.int x3), .val (.int x4), .val (.int (1 : Int32)), .val (.int (1 : Int32)), .val (.int (0 : Int32)), .val (.int u8_229), .val (.int (1 : Int32)), .val (.int w1), .val (.ref b2), .val (.ref b6), .val (.ref b35), .val (.ref b71), .unset, .unset] [])
          refine Go.s_iload X259 hx (hb hby at_144) (q := 146) rfl rfl ?_
          refine Go.s_ifNo X259 hx (hb hby at_146) (q := 149) rfl ((if0 _ _).trans (feq (by decide : ¬ ((1 : Int32) = (0 : Int32)))).1) ?_
          refine Go.s_aload X259 hx (hb hby at_149) (q := 151) rfl rfl rfl ?_
          refine Go.s_aload X259 hx (hb hby at_151) (q := 153) rfl rfl rfl ?_
          refine Go.callV (y := mn_6) (z := mn_6) X259 hx hZ hown (w_ hw 49 rfl) (w_ hw 50 rfl) (notFace_of_selects (args := #[]) (mvT hZ (w_ hw 52 rfl))) (w_ hw 52 rfl) (w_ hw 51 rfl) (w_ hw 53 rfl) (w_ hw 8 rfl) (by decide) rfl f259_0 (argsL := [(.ref b35)]) (rest := []) (rm_add_22 l Z a0 hw b2 b0_259 b1_259 b2_259 b35 w3_259 w1 kk4_259 b6 T259.heap n0 m50_v269 f259_0 m15_v263 f259_2 f259_3 f259_4 f259_5 f259_6 f259_7 f259_8 f259_9 m16_v264 m17_v265 f259_12 f259_13 f259_14 f259_15 ne_b2_b0_259 ne_b2_b1_259 ne_b2_b2_259 m34 f259_16 f259_17 f259_18 ne_b35_b0_259 ne_b35_b1_259 ne_b35_b2_259 m18 g_b0_259 g_b1_259 g_b2_259 m39) (by rw [hml]; rfl) (lenOf pd_5 rfl) rfl (hb hby at_153) (by decide) (by decide) (by decide) (by decide) ?_
          intro r270 T270 L270 q270 X270
          obtain ⟨w0_270, rfl, N270q, K270, f270_0, f270_1, f270_2, f270_3, f270_4, f270_5, f270_6, f270_7, f270_8, f270_9, f270_10, f270_11, f270_12, f270_13, f270_14, f270_15⟩ := q270
          have N270 := Fr.app N259 N270q
          have m9_v271 := m9_v260.keep K270 (ninS (Ne.symm m19) (ninS ne_b0_4_b0_259 (ninS ne_b0_4_b1_259 (ninS ne_b0_4_b2_259 (ninS m35 nin0)))))
          have m10_v272 := m10_v261.keep K270 (ninS (Ne.symm m21) (ninS ne_b1_4_b0_259 (ninS ne_b1_4_b1_259 (ninS ne_b1_4_b2_259 (ninS m36 nin0)))))
          have m11_v273 := m11_v262.keep K270 (ninS (Ne.symm m23) (ninS ne_b2_4_b0_259 (ninS ne_b2_4_b1_259 (ninS ne_b2_4_b2_259 (ninS m37 nin0)))))
          have m47_v274 := m47_v266.keep K270
          have m48_v275 := m48_v267.keep K270 (ninS (Ne.symm m40) (ninS ne_b71_b0_259 (ninS ne_b71_b1_259 (ninS ne_b71_b2_259 (ninS (Ne.symm m45) nin0)))))
          have m49_v276 := m49_v268.keep K270 (ninS (Ne.symm m40) (ninS ne_b71_b0_259 (ninS ne_b71_b1_259 (ninS ne_b71_b2_259 (ninS (Ne.symm m45) nin0)))))
          have m50_v277 := Nat.le_trans m50_v269 K270.1
          have f259_1_v278 := f259_1.keep K270
          have f259_10_v279 := f259_10.keep K270 (ninS (Ne.symm m29) (ninS ne_b6_b0_259 (ninS ne_b6_b1_259 (ninS ne_b6_b2_259 (ninS m38 nin0)))))
          have f259_11_v280 := f259_11.keep K270 (ninS (Ne.symm m29) (ninS ne_b6_b0_259 (ninS ne_b6_b1_259 (ninS ne_b6_b2_259 (ninS m38 nin0)))))
          refine law_k hw hx hby hml hown hZ X270 (size_nz p1) ?_
          intro u15_281
          show Go p e below _ T270 (mkF m 178 #[.val (.int x0), .val (.int x1), .val (.int x2), .val (.int x3), .val (.int x4), .val (.int (1 : Int32)), .val (.int (1 : Int32)), .val (.int (0 : Int32)), .val (.int u8_229), .val (.int (1 : Int32)), .val (.int w1), .val (.ref b2), .val (.ref b6), .val (.ref b35), .val (.ref b71), .val (.int u15_281), .unset] [])
          refine Go.s_iload X270 hx (hb hby at_178) (q := 180) rfl rfl ?_
          refine Go.s_ifYes X270 hx (hb hby at_180) (q := 192) (by decide) (by decide) ((if0 _ _).trans (teq (by decide : (0 : Int32) = (0 : Int32))).1) ?_
          refine Go.s_iload X270 hx (hb hby at_192) (q := 194) rfl rfl ?_
          refine Go.s_ifNo X270 hx (hb hby at_194) (q := 197) rfl ((if0 _ _).trans (feq (by decide : ¬ ((1 : Int32) = (0 : Int32)))).1) ?_
          refine Go.s_aload X270 hx (hb hby at_197) (q := 199) rfl rfl rfl ?_
          refine Go.s_aload X270 hx (hb hby at_199) (q := 201) rfl rfl rfl ?_
          refine Go.callV (y := mn_6) (z := mn_6) X270 hx hZ hown (w_ hw 49 rfl) (w_ hw 50 rfl) (notFace_of_selects (args := #[]) (mvT hZ (w_ hw 52 rfl))) (w_ hw 52 rfl) (w_ hw 51 rfl) (w_ hw 53 rfl) (w_ hw 8 rfl) (by decide) rfl f270_0 (argsL := [(.ref b71)]) (rest := []) (rm_add_43 l Z a0 hw b2 b0_259 b1_259 b2_259 b71 w0_270 w93 kk4_259 b6 b35 T270.heap n0 m50_v277 f270_0 m47_v274 f270_2 f270_3 f270_4 f270_5 f270_6 f270_7 f270_8 f270_9 m48_v275 m49_v276 f270_12 f270_13 f270_14 f270_15 ne_b2_b0_259 ne_b2_b1_259 ne_b2_b2_259 m40 f259_16 f259_17 f259_18 ne_b71_b0_259 ne_b71_b1_259 ne_b71_b2_259 m18 g_b0_259 g_b1_259 g_b2_259 m46) (by rw [hml]; rfl) (lenOf pd_5 rfl) rfl (hb hby at_201) (by decide) (by decide) (by decide) (by decide) ?_
          intro r282 T282 L282 q282 X282
          obtain ⟨w0_282, rfl, N282q, K282, f282_0, f282_1, f282_2, f282_3, f282_4, f282_5, f282_6, f282_7, f282_8, f282_9, f282_10, f282_11, f282_12, f282_13, f282_14, f282_15⟩ := q282
          have N282 := Fr.app N270 N282q
          have m9_v283 := m9_v271.keep K282 (ninS (Ne.symm m19) (ninS ne_b0_4_b0_259 (ninS ne_b0_4_b1_259 (ninS ne_b0_4_b2_259 (ninS m41 nin0)))))
          have m10_v284 := m10_v272.keep K282 (ninS (Ne.symm m21) (ninS ne_b1_4_b0_259 (ninS ne_b1_4_b1_259 (ninS ne_b1_4_b2_259 (ninS m42 nin0)))))
          have m11_v285 := m11_v273.keep K282 (ninS (Ne.symm m23) (ninS ne_b2_4_b0_259 (ninS ne_b2_4_b1_259 (ninS ne_b2_4_b2_259 (ninS m43 nin0)))))
          have m50_v286 := Nat.le_trans m50_v277 K282.1
          have f259_1_v287 := f259_1_v278.keep K282
          have f259_10_v288 := f259_10_v279.keep K282 (ninS (Ne.symm m29) (ninS ne_b6_b0_259 (ninS ne_b6_b1_259 (ninS ne_b6_b2_259 (ninS m44 nin0)))))
          have f259_11_v289 := f259_11_v280.keep K282 (ninS (Ne.symm m29) (ninS ne_b6_b0_259 (ninS ne_b6_b1_259 (ninS ne_b6_b2_259 (ninS m44 nin0)))))
          have f270_1_v290 := f270_1.keep K282
          have f270_10_v291 := f270_10.keep K282 (ninS (Ne.symm m34) (ninS ne_b35_b0_259 (ninS ne_b35_b1_259 (ninS ne_b35_b2_259 (ninS m45 nin0)))))
          have f270_11_v292 := f270_11.keep K282 (ninS (Ne.symm m34) (ninS ne_b35_b0_259 (ninS ne_b35_b1_259 (ninS ne_b35_b2_259 (ninS m45 nin0)))))
          show Go p e below _ T282 (mkF m 204 #[.val (.int x0), .val (.int x1), .val (.int x2), .val (.int x3), .val (.int x4), .val (.int (1 : Int32)), .val (.int (1 : Int32)), .val (.int (0 : Int32)), .val (.int u8_229), .val (.int (1 : Int32)), .val (.int w1), .val (.ref b2), .val (.ref b6), .val (.ref b35), .val (.ref b71), .val (.int u15_281), .unset] [])
          refine Go.s_iload X282 hx (hb hby at_204) (q := 206) rfl rfl ?_
          refine Go.s_ifNo X282 hx (hb hby at_206) (q := 209) rfl ((if0 _ _).trans (feq (by decide : ¬ ((1 : Int32) = (0 : Int32)))).1) ?_
          refine Go.s_iload X282 hx (hb hby at_209) (q := 211) rfl rfl ?_
          refine Go.s_ifYes X282 hx (hb hby at_211) (q := 221) (by decide) (by decide) ((if0 _ _).trans (teq (by decide : (0 : Int32) = (0 : Int32))).1) ?_
          refine Go.s_iconst X282 hx (hb hby at_221) (q := 222) rfl (z := 1) rfl ?_
          refine Go.s_goto X282 hx (hb hby at_222) (q := 226) (by decide) (by decide) ?_
          refine Go.s_istore X282 hx (hb hby at_226) (q := 228) rfl (l' := #[.val (.int x0), .val (.int x1), .val (.int x2), .val (.int x3), .val (.int x4), .val (.int (1 : Int32)), .val (.int (1 : Int32)), .val (.int (0 : Int32)), .val (.int u8_229), .val (.int (1 : Int32)), .val (.int w1), .val (.ref b2), .val (.ref b6), .val (.ref b35), .val (.ref b71), .val (.int u15_281), .val (.int (1 : Int32))]) rfl ?_
          refine Go.s_aload X282 hx (hb hby at_228) (q := 230) rfl rfl rfl ?_
          refine Go.s_aload X282 hx (hb hby at_230) (q := 232) rfl rfl rfl ?_
          refine Go.callV (y := mn_5) (z := mn_5) X282 hx hZ hown (w_ hw 40 rfl) (w_ hw 41 rfl) (notFace_of_selects (args := #[]) (mvT hZ (w_ hw 43 rfl))) (w_ hw 43 rfl) (w_ hw 42 rfl) (w_ hw 44 rfl) (w_ hw 8 rfl) (by decide) rfl f282_0 (argsL := [(.ref b6)]) (rest := []) (rm_holds_47 l Z a0 hw b2 b0_259 b1_259 b2_259 b6 b35 b71 kk4_259 T282.heap n0 m50_v286 f282_8 f282_9 f259_11_v289 f270_11_v292 f282_11 f282_12 ne_b2_b0_259 ne_b2_b1_259 ne_b2_b2_259 m34 m29 m40 f259_16 f259_17 f259_18 ne_b6_b0_259 ne_b6_b1_259 ne_b6_b2_259 m38 m44 ne_b35_b0_259 ne_b35_b1_259 ne_b35_b2_259 m45 ne_b71_b0_259 ne_b71_b1_259 ne_b71_b2_259) (by rw [hml]; rfl) (lenOf pd_6 rfl) rfl (hb hby at_232) (by decide) (by decide) (by decide) (by decide) ?_
          intro r293 T293 L293 q293 X293
          obtain ⟨rfl, rfl, e293⟩ := q293
          rw [List.append_nil] at X293
          show Go p e below _ T293 (mkF m 235 #[.val (.int x0), .val (.int x1), .val (.int x2), .val (.int x3), .val (.int x4), .val (.int (1 : Int32)), .val (.int (1 : Int32)), .val (.int (0 : Int32)), .val (.int u8_229), .val (.int (1 : Int32)), .val (.int w1), .val (.ref b2), .val (.ref b6), .val (.ref b35), .val (.ref b71), .val (.int u15_281), .val (.int (1 : Int32))] [(.int (1 : Int32))])
          refine Go.s_iload X293 hx (hb hby at_235) (q := 237) rfl rfl ?_
          refine Go.s_icmpNo X293 hx (hb hby at_237) (q := 240) rfl (teq (by decide : (1 : Int32) = (1 : Int32))).2 ?_
          refine Go.s_aload X293 hx (hb hby at_240) (q := 242) rfl rfl rfl ?_
          refine Go.s_aload X293 hx (hb hby at_242) (q := 244) rfl rfl rfl ?_
          refine Go.callV (y := mn_5) (z := mn_5) X293 hx hZ hown (w_ hw 40 rfl) (w_ hw 41 rfl) (notFace_of_selects (args := #[]) (mvT hZ (w_ hw 43 rfl))) (w_ hw 43 rfl) (w_ hw 42 rfl) (w_ hw 44 rfl) (w_ hw 8 rfl) (by decide) e293 f282_0 (argsL := [(.ref b35)]) (rest := []) (rm_holds_48 l Z a0 hw b2 b0_259 b1_259 b2_259 b35 b6 b71 kk4_259 T282.heap n0 m50_v286 f282_8 f282_9 f270_11_v292 f259_11_v289 f282_11 f282_12 ne_b2_b0_259 ne_b2_b1_259 ne_b2_b2_259 m34 m29 m40 f259_16 f259_17 f259_18 ne_b35_b0_259 ne_b35_b1_259 ne_b35_b2_259 m45 ne_b6_b0_259 ne_b6_b1_259 ne_b6_b2_259 m38 m44 ne_b71_b0_259 ne_b71_b1_259 ne_b71_b2_259) (by rw [hml]; rfl) (lenOf pd_6 rfl) rfl (hb hby at_244) (by decide) (by decide) (by decide) (by decide) ?_
          intro r294 T294 L294 q294 X294
          obtain ⟨rfl, rfl, e294⟩ := q294
          rw [List.append_nil] at X294
          show Go p e below _ T294 (mkF m 247 #[.val (.int x0), .val (.int x1), .val (.int x2), .val (.int x3), .val (.int x4), .val (.int (1 : Int32)), .val (.int (1 : Int32)), .val (.int (0 : Int32)), .val (.int u8_229), .val (.int (1 : Int32)), .val (.int w1), .val (.ref b2), .val (.ref b6), .val (.ref b35), .val (.ref b71), .val (.int u15_281), .val (.int (1 : Int32))] [(.int (1 : Int32))])
          refine Go.s_iload X294 hx (hb hby at_247) (q := 249) rfl rfl ?_
          refine Go.s_icmpNo X294 hx (hb hby at_249) (q := 252) rfl (teq (by decide : (1 : Int32) = (1 : Int32))).2 ?_
          refine Go.s_aload X294 hx (hb hby at_252) (q := 254) rfl rfl rfl ?_
          refine Go.s_aload X294 hx (hb hby at_254) (q := 256) rfl rfl rfl ?_
          refine Go.callV (y := mn_5) (z := mn_5) X294 hx hZ hown (w_ hw 40 rfl) (w_ hw 41 rfl) (notFace_of_selects (args := #[]) (mvT hZ (w_ hw 43 rfl))) (w_ hw 43 rfl) (w_ hw 42 rfl) (w_ hw 44 rfl) (w_ hw 8 rfl) (by decide) e294 f282_0 (argsL := [(.ref b71)]) (rest := []) (rm_holds_49 l Z a0 hw b2 b0_259 b1_259 b2_259 b71 b6 b35 kk4_259 T282.heap n0 m50_v286 f282_8 f282_9 f282_11 f259_11_v289 f270_11_v292 f282_12 ne_b2_b0_259 ne_b2_b1_259 ne_b2_b2_259 m34 m29 m40 f259_16 f259_17 f259_18 ne_b71_b0_259 ne_b71_b1_259 ne_b71_b2_259 ne_b6_b0_259 ne_b6_b1_259 ne_b6_b2_259 m38 m44 ne_b35_b0_259 ne_b35_b1_259 ne_b35_b2_259 m45) (by rw [hml]; rfl) (lenOf pd_6 rfl) rfl (hb hby at_256) (by decide) (by decide) (by decide) (by decide) ?_
          intro r295 T295 L295 q295 X295
          obtain ⟨rfl, rfl, e295⟩ := q295
          rw [List.append_nil] at X295
          show Go p e below _ T295 (mkF m 259 #[.val (.int x0), .val (.int x1), .val (.int x2), .val (.int x3), .val (.int x4), .val (.int (1 : Int32)), .val (.int (1 : Int32)), .val (.int (0 : Int32)), .val (.int u8_229), .val (.int (1 : Int32)), .val (.int w1), .val (.ref b2), .val (.ref b6), .val (.ref b35), .val (.ref b71), .val (.int u15_281), .val (.int (1 : Int32))] [(.int (1 : Int32))])
          refine Go.s_iload X295 hx (hb hby at_259) (q := 261) rfl rfl ?_
          refine Go.s_icmpNo X295 hx (hb hby at_261) (q := 264) rfl (teq (by decide : (1 : Int32) = (1 : Int32))).2 ?_
          refine Go.s_iconst X295 hx (hb hby at_264) (q := 265) rfl (z := 1) rfl ?_
          refine Go.s_goto X295 hx (hb hby at_265) (q := 269) (by decide) (by decide) ?_
          refine Go.retN X295 hx hlk hret (by simp) (hb hby at_269) (by decide) (by decide) ?_
          try rw [e295]
          exact ⟨by decide, N282⟩
      · -- pc 34: not (x0 &&& (4 : Int32)) = (0 : Int32)
        refine Go.s_ifNo X0 hx (hb hby at_34) (q := 37) rfl ((if0 _ _).trans (feq c34_228).1) ?_
        refine Go.s_iconst X0 hx (hb hby at_37) (q := 38) rfl (z := 1) rfl ?_
        refine Go.s_goto X0 hx (hb hby at_38) (q := 42) (by decide) (by decide) ?_
        refine Go.s_istore X0 hx (hb hby at_42) (q := 44) rfl (l' := #[.val (.int x0), .val (.int x1), .val (.int x2), .val (.int x3), .val (.int x4), .val (.int (1 : Int32)), .val (.int (1 : Int32)), .val (.int (1 : Int32)), .unset, .unset, .unset, .unset, .unset, .unset, .unset, .unset, .unset]) rfl ?_
        refine law_f8 hw hx hby hml hown hZ X0 ?_
        intro u8_296
        show Go p e below _ T0 (mkF m 58 #[.val (.int x0), .val (.int x1), .val (.int x2), .val (.int x3), .val (.int x4), .val (.int (1 : Int32)), .val (.int (1 : Int32)), .val (.int (1 : Int32)), .val (.int u8_296), .unset, .unset, .unset, .unset, .unset, .unset, .unset, .unset] [])
        refine Go.s_iloadN X0 hx (hb hby at_58) (q := 59) rfl rfl ?_
        refine Go.s_bipush X0 hx (hb hby at_59) (q := 61) rfl (z := 16) rfl ?_
        refine Go.s_iand X0 hx (hb hby at_61) (q := 62) rfl ?_
        by_cases c62_297 : (x0 &&& (16 : Int32)) = (0 : Int32)
        · -- pc 62: (x0 &&& (16 : Int32)) = (0 : Int32)
          refine Go.s_ifYes X0 hx (hb hby at_62) (q := 69) (by decide) (by decide) ((if0 _ _).trans (teq c62_297).1) ?_
          refine Go.s_iconst X0 hx (hb hby at_69) (q := 70) rfl (z := 0) rfl ?_
          refine Go.s_istore X0 hx (hb hby at_70) (q := 72) rfl (l' := #[.val (.int x0), .val (.int x1), .val (.int x2), .val (.int x3), .val (.int x4), .val (.int (1 : Int32)), .val (.int (1 : Int32)), .val (.int (1 : Int32)), .val (.int u8_296), .val (.int (0 : Int32)), .unset, .unset, .unset, .unset, .unset, .unset, .unset]) rfl ?_
          refine law_mid hw hx hby hml hown hZ X0 e0 Z0 ?_
          intro T298 h298 LL298 w1 b2 b6 b35 b71 b2_4 b1_4 b0_4 kk3_4 w20 w93 X298 e298 N298 p1 p20 p93 m0 m1 m2 m3 m4 m5 m6 m7 m8 m9 m10 m11 m12 m13 m14 m15 m16 m17 m18 m19 m20 m21 m22 m23 m24 m25 m26 m27 m28 m29 m30 m31 m32 m33 m34 m35 m36 m37 m38 m39 m40 m41 m42 m43 m44 m45 m46 m47 m48 m49 m50
          refine Go.s_iload X298 hx (hb hby at_132) (q := 134) rfl rfl ?_
          refine Go.s_ifNo X298 hx (hb hby at_134) (q := 137) rfl ((if0 _ _).trans (feq (by decide : ¬ ((1 : Int32) = (0 : Int32)))).1) ?_
          refine Go.s_aload X298 hx (hb hby at_137) (q := 139) rfl rfl rfl ?_
          refine Go.s_aload X298 hx (hb hby at_139) (q := 141) rfl rfl rfl ?_
          refine Go.callV (y := mn_6) (z := mn_6) X298 hx hZ hown (w_ hw 49 rfl) (w_ hw 50 rfl) (notFace_of_selects (args := #[]) (mvT hZ (w_ hw 52 rfl))) (w_ hw 52 rfl) (w_ hw 51 rfl) (w_ hw 53 rfl) (w_ hw 8 rfl) (by decide) e298 m0 (argsL := [(.ref b6)]) (rest := []) (rm_add_10 l Z a0 hw b2 b0_4 b1_4 b2_4 b6 w20 kk3_4 h298 n0 m50 m0 m12 m1 m2 m3 m4 m5 m6 m7 m8 m13 m14 m9 m10 m11 m25 m19 m21 m23 m29 m26 m27 m30 m28 m31 m32 m18 m20 m22 m24 m33) (by rw [hml]; rfl) (lenOf pd_5 rfl) rfl (hb hby at_141) (by decide) (by decide) (by decide) (by decide) ?_
          intro r299 T299 L299 q299 X299
          obtain ⟨b0_299, b1_299, b2_299, w3_299, kk4_299, rfl, N299q, K299, sz_b0_299, sz_b1_299, sz_b2_299, f299_0, f299_1, f299_2, f299_3, f299_4, f299_5, f299_6, f299_7, f299_8, f299_9, f299_10, f299_11, f299_12, f299_13, f299_14, f299_15, f299_16, f299_17, f299_18⟩ := q299
          have N299 := Fr.app N298 N299q
          have ne_b2_b0_299 : b2 ≠ b0_299 := Nat.ne_of_lt (Nat.lt_of_lt_of_le m0.lt sz_b0_299)
          have ne_b0_4_b0_299 : b0_4 ≠ b0_299 := Nat.ne_of_lt (Nat.lt_of_lt_of_le m9.lt sz_b0_299)
          have ne_b1_4_b0_299 : b1_4 ≠ b0_299 := Nat.ne_of_lt (Nat.lt_of_lt_of_le m10.lt sz_b0_299)
          have ne_b2_4_b0_299 : b2_4 ≠ b0_299 := Nat.ne_of_lt (Nat.lt_of_lt_of_le m11.lt sz_b0_299)
          have ne_b6_b0_299 : b6 ≠ b0_299 := Nat.ne_of_lt (Nat.lt_of_lt_of_le m12.lt sz_b0_299)
          have ne_b35_b0_299 : b35 ≠ b0_299 := Nat.ne_of_lt (Nat.lt_of_lt_of_le m15.lt sz_b0_299)
          have ne_b71_b0_299 : b71 ≠ b0_299 := Nat.ne_of_lt (Nat.lt_of_lt_of_le m47.lt sz_b0_299)
          have g_b0_299 : n0 ≤ b0_299 := Nat.le_trans m50 sz_b0_299
          have ne_b2_b1_299 : b2 ≠ b1_299 := Nat.ne_of_lt (Nat.lt_of_lt_of_le m0.lt sz_b1_299)
          have ne_b0_4_b1_299 : b0_4 ≠ b1_299 := Nat.ne_of_lt (Nat.lt_of_lt_of_le m9.lt sz_b1_299)
          have ne_b1_4_b1_299 : b1_4 ≠ b1_299 := Nat.ne_of_lt (Nat.lt_of_lt_of_le m10.lt sz_b1_299)
          have ne_b2_4_b1_299 : b2_4 ≠ b1_299 := Nat.ne_of_lt (Nat.lt_of_lt_of_le m11.lt sz_b1_299)
          have ne_b6_b1_299 : b6 ≠ b1_299 := Nat.ne_of_lt (Nat.lt_of_lt_of_le m12.lt sz_b1_299)
          have ne_b35_b1_299 : b35 ≠ b1_299 := Nat.ne_of_lt (Nat.lt_of_lt_of_le m15.lt sz_b1_299)
          have ne_b71_b1_299 : b71 ≠ b1_299 := Nat.ne_of_lt (Nat.lt_of_lt_of_le m47.lt sz_b1_299)
          have g_b1_299 : n0 ≤ b1_299 := Nat.le_trans m50 sz_b1_299
          have ne_b2_b2_299 : b2 ≠ b2_299 := Nat.ne_of_lt (Nat.lt_of_lt_of_le m0.lt sz_b2_299)
          have ne_b0_4_b2_299 : b0_4 ≠ b2_299 := Nat.ne_of_lt (Nat.lt_of_lt_of_le m9.lt sz_b2_299)
          have ne_b1_4_b2_299 : b1_4 ≠ b2_299 := Nat.ne_of_lt (Nat.lt_of_lt_of_le m10.lt sz_b2_299)
          have ne_b2_4_b2_299 : b2_4 ≠ b2_299 := Nat.ne_of_lt (Nat.lt_of_lt_of_le m11.lt sz_b2_299)
          have ne_b6_b2_299 : b6 ≠ b2_299 := Nat.ne_of_lt (Nat.lt_of_lt_of_le m12.lt sz_b2_299)
          have ne_b35_b2_299 : b35 ≠ b2_299 := Nat.ne_of_lt (Nat.lt_of_lt_of_le m15.lt sz_b2_299)
          have ne_b71_b2_299 : b71 ≠ b2_299 := Nat.ne_of_lt (Nat.lt_of_lt_of_le m47.lt sz_b2_299)
          have g_b2_299 : n0 ≤ b2_299 := Nat.le_trans m50 sz_b2_299
          have m9_v300 := m9.keep K299 (ninS (Ne.symm m19) (ninS m30 nin0))
          have m10_v301 := m10.keep K299 (ninS (Ne.symm m21) (ninS m31 nin0))
          have m11_v302 := m11.keep K299 (ninS (Ne.symm m23) (ninS m32 nin0))
          have m15_v303 := m15.keep K299
          have m16_v304 := m16.keep K299 (ninS (Ne.symm m34) (ninS (Ne.symm m38) nin0))
          have m17_v305 := m17.keep K299 (ninS (Ne.symm m34) (ninS (Ne.symm m38) nin0))
          have m47_v306 := m47.keep K299
          have m48_v307 := m48.keep K299 (ninS (Ne.symm m40) (ninS (Ne.symm m44) nin0))
          have m49_v308 := m49.keep K299 (ninS (Ne.symm m40) (ninS (Ne.symm m44) nin0))
          have m50_v309 := Nat.le_trans m50 K299.1
          show Go p e below _ T299 (mkF m 144 #[.val (.int x0), .val (.int x1), .val (.int x2), .val (.int x3), .val (.int x4), .val (.int (1 : Int32)), .val (.int (1 : Int32)), .val (.int (1 : Int32)), .val (.int u8_296), .val (.int (0 : Int32)), .val (.int w1), .val (.ref b2), .val (.ref b6), .val (.ref b35), .val (.ref b71), .unset, .unset] [])
          refine Go.s_iload X299 hx (hb hby at_144) (q := 146) rfl rfl ?_
          refine Go.s_ifNo X299 hx (hb hby at_146) (q := 149) rfl ((if0 _ _).trans (feq (by decide : ¬ ((1 : Int32) = (0 : Int32)))).1) ?_
          refine Go.s_aload X299 hx (hb hby at_149) (q := 151) rfl rfl rfl ?_
          refine Go.s_aload X299 hx (hb hby at_151) (q := 153) rfl rfl rfl ?_
          refine Go.callV (y := mn_6) (z := mn_6) X299 hx hZ hown (w_ hw 49 rfl) (w_ hw 50 rfl) (notFace_of_selects (args := #[]) (mvT hZ (w_ hw 52 rfl))) (w_ hw 52 rfl) (w_ hw 51 rfl) (w_ hw 53 rfl) (w_ hw 8 rfl) (by decide) rfl f299_0 (argsL := [(.ref b35)]) (rest := []) (rm_add_22 l Z a0 hw b2 b0_299 b1_299 b2_299 b35 w3_299 w1 kk4_299 b6 T299.heap n0 m50_v309 f299_0 m15_v303 f299_2 f299_3 f299_4 f299_5 f299_6 f299_7 f299_8 f299_9 m16_v304 m17_v305 f299_12 f299_13 f299_14 f299_15 ne_b2_b0_299 ne_b2_b1_299 ne_b2_b2_299 m34 f299_16 f299_17 f299_18 ne_b35_b0_299 ne_b35_b1_299 ne_b35_b2_299 m18 g_b0_299 g_b1_299 g_b2_299 m39) (by rw [hml]; rfl) (lenOf pd_5 rfl) rfl (hb hby at_153) (by decide) (by decide) (by decide) (by decide) ?_
          intro r310 T310 L310 q310 X310
          obtain ⟨w0_310, rfl, N310q, K310, f310_0, f310_1, f310_2, f310_3, f310_4, f310_5, f310_6, f310_7, f310_8, f310_9, f310_10, f310_11, f310_12, f310_13, f310_14, f310_15⟩ := q310
          have N310 := Fr.app N299 N310q
          have m9_v311 := m9_v300.keep K310 (ninS (Ne.symm m19) (ninS ne_b0_4_b0_299 (ninS ne_b0_4_b1_299 (ninS ne_b0_4_b2_299 (ninS m35 nin0)))))
          have m10_v312 := m10_v301.keep K310 (ninS (Ne.symm m21) (ninS ne_b1_4_b0_299 (ninS ne_b1_4_b1_299 (ninS ne_b1_4_b2_299 (ninS m36 nin0)))))
          have m11_v313 := m11_v302.keep K310 (ninS (Ne.symm m23) (ninS ne_b2_4_b0_299 (ninS ne_b2_4_b1_299 (ninS ne_b2_4_b2_299 (ninS m37 nin0)))))
          have m47_v314 := m47_v306.keep K310
          have m48_v315 := m48_v307.keep K310 (ninS (Ne.symm m40) (ninS ne_b71_b0_299 (ninS ne_b71_b1_299 (ninS ne_b71_b2_299 (ninS (Ne.symm m45) nin0)))))
          have m49_v316 := m49_v308.keep K310 (ninS (Ne.symm m40) (ninS ne_b71_b0_299 (ninS ne_b71_b1_299 (ninS ne_b71_b2_299 (ninS (Ne.symm m45) nin0)))))
          have m50_v317 := Nat.le_trans m50_v309 K310.1
          have f299_1_v318 := f299_1.keep K310
          have f299_10_v319 := f299_10.keep K310 (ninS (Ne.symm m29) (ninS ne_b6_b0_299 (ninS ne_b6_b1_299 (ninS ne_b6_b2_299 (ninS m38 nin0)))))
          have f299_11_v320 := f299_11.keep K310 (ninS (Ne.symm m29) (ninS ne_b6_b0_299 (ninS ne_b6_b1_299 (ninS ne_b6_b2_299 (ninS m38 nin0)))))
          refine law_k hw hx hby hml hown hZ X310 (size_nz p1) ?_
          intro u15_321
          by_cases ck_322 : u15_321 = w1
          ·
            subst ck_322
            show Go p e below _ T310 (mkF m 178 #[.val (.int x0), .val (.int x1), .val (.int x2), .val (.int x3), .val (.int x4), .val (.int (1 : Int32)), .val (.int (1 : Int32)), .val (.int (1 : Int32)), .val (.int u8_296), .val (.int (0 : Int32)), .val (.int u15_321), .val (.ref b2), .val (.ref b6), .val (.ref b35), .val (.ref b71), .val (.int u15_321), .unset] [])
            refine Go.s_iload X310 hx (hb hby at_178) (q := 180) rfl rfl ?_
            refine Go.s_ifNo X310 hx (hb hby at_180) (q := 183) rfl ((if0 _ _).trans (feq (by decide : ¬ ((1 : Int32) = (0 : Int32)))).1) ?_
            refine Go.s_aload X310 hx (hb hby at_183) (q := 185) rfl rfl rfl ?_
            refine Go.s_aload X310 hx (hb hby at_185) (q := 187) rfl rfl rfl ?_
            refine Go.s_iload X310 hx (hb hby at_187) (q := 189) rfl rfl ?_
            refine Go.callV (y := mn_10) (z := mn_10) X310 hx hZ hown (w_ hw 74 rfl) (w_ hw 75 rfl) (notFace_of_selects (args := #[]) (mvT hZ (w_ hw 77 rfl))) (w_ hw 77 rfl) (w_ hw 76 rfl) (w_ hw 78 rfl) (w_ hw 8 rfl) (by decide) rfl f310_0 (argsL := [(.ref b35), (.int u15_321)]) (rest := []) (rm_take_50 l Z a0 hw b2 b0_299 b1_299 b2_299 b35 w0_310 u15_321 kk4_299 b6 T310.heap n0 m50_v317 f310_0 f310_1 f310_2 f310_3 f310_4 f310_5 f310_6 f310_7 f310_8 f310_9 f310_10 f310_11 f310_12 f310_13 f310_14 f310_15 ne_b2_b0_299 ne_b2_b1_299 ne_b2_b2_299 m34 f299_16 f299_17 f299_18 ne_b35_b0_299 ne_b35_b1_299 ne_b35_b2_299 m18 g_b0_299 g_b1_299 g_b2_299 m39 (sub_self u15_321)) (by rw [hml]; rfl) (lenOf pd_7 rfl) rfl (hb hby at_189) (by decide) (by decide) (by decide) (by decide) ?_
            intro r323 T323 L323 q323 X323
            obtain ⟨w0_323, w1_323, rfl, N323q, K323, f323_0, f323_1, f323_2, f323_3, f323_4, f323_5, f323_6, f323_7, f323_8, f323_9, f323_10, f323_11, f323_12, f323_13, f323_14, f323_15⟩ := q323
            have N323 := Fr.app N310 N323q
            have m9_v324 := m9_v311.keep K323 (ninS (Ne.symm m19) (ninS ne_b0_4_b0_299 (ninS ne_b0_4_b1_299 (ninS ne_b0_4_b2_299 (ninS m35 nin0)))))
            have m10_v325 := m10_v312.keep K323 (ninS (Ne.symm m21) (ninS ne_b1_4_b0_299 (ninS ne_b1_4_b1_299 (ninS ne_b1_4_b2_299 (ninS m36 nin0)))))
            have m11_v326 := m11_v313.keep K323 (ninS (Ne.symm m23) (ninS ne_b2_4_b0_299 (ninS ne_b2_4_b1_299 (ninS ne_b2_4_b2_299 (ninS m37 nin0)))))
            have m47_v327 := m47_v314.keep K323
            have m48_v328 := m48_v315.keep K323 (ninS (Ne.symm m40) (ninS ne_b71_b0_299 (ninS ne_b71_b1_299 (ninS ne_b71_b2_299 (ninS (Ne.symm m45) nin0)))))
            have m49_v329 := m49_v316.keep K323 (ninS (Ne.symm m40) (ninS ne_b71_b0_299 (ninS ne_b71_b1_299 (ninS ne_b71_b2_299 (ninS (Ne.symm m45) nin0)))))
            have m50_v330 := Nat.le_trans m50_v317 K323.1
            have f299_1_v331 := f299_1_v318.keep K323
            have f299_10_v332 := f299_10_v319.keep K323 (ninS (Ne.symm m29) (ninS ne_b6_b0_299 (ninS ne_b6_b1_299 (ninS ne_b6_b2_299 (ninS m38 nin0)))))
            have f299_11_v333 := f299_11_v320.keep K323 (ninS (Ne.symm m29) (ninS ne_b6_b0_299 (ninS ne_b6_b1_299 (ninS ne_b6_b2_299 (ninS m38 nin0)))))
            show Go p e below _ T323 (mkF m 192 #[.val (.int x0), .val (.int x1), .val (.int x2), .val (.int x3), .val (.int x4), .val (.int (1 : Int32)), .val (.int (1 : Int32)), .val (.int (1 : Int32)), .val (.int u8_296), .val (.int (0 : Int32)), .val (.int u15_321), .val (.ref b2), .val (.ref b6), .val (.ref b35), .val (.ref b71), .val (.int u15_321), .unset] [])
            refine Go.s_iload X323 hx (hb hby at_192) (q := 194) rfl rfl ?_
            refine Go.s_ifYes X323 hx (hb hby at_194) (q := 204) (by decide) (by decide) ((if0 _ _).trans (teq (by decide : (0 : Int32) = (0 : Int32))).1) ?_
            refine Go.s_iload X323 hx (hb hby at_204) (q := 206) rfl rfl ?_
            refine Go.s_ifNo X323 hx (hb hby at_206) (q := 209) rfl ((if0 _ _).trans (feq (by decide : ¬ ((1 : Int32) = (0 : Int32)))).1) ?_
            refine Go.s_iload X323 hx (hb hby at_209) (q := 211) rfl rfl ?_
            refine Go.s_ifNo X323 hx (hb hby at_211) (q := 214) rfl ((if0 _ _).trans (feq (by decide : ¬ ((1 : Int32) = (0 : Int32)))).1) ?_
            refine Go.s_iload X323 hx (hb hby at_214) (q := 216) rfl rfl ?_
            refine Go.s_iload X323 hx (hb hby at_216) (q := 218) rfl rfl ?_
            refine Go.s_icmpYes X323 hx (hb hby at_218) (q := 225) (by decide) (by decide) (teq (rfl : u15_321 = u15_321)).1 ?_
            refine Go.s_iconst X323 hx (hb hby at_225) (q := 226) rfl (z := 0) rfl ?_
            refine Go.s_istore X323 hx (hb hby at_226) (q := 228) rfl (l' := #[.val (.int x0), .val (.int x1), .val (.int x2), .val (.int x3), .val (.int x4), .val (.int (1 : Int32)), .val (.int (1 : Int32)), .val (.int (1 : Int32)), .val (.int u8_296), .val (.int (0 : Int32)), .val (.int u15_321), .val (.ref b2), .val (.ref b6), .val (.ref b35), .val (.ref b71), .val (.int u15_321), .val (.int (0 : Int32))]) rfl ?_
            refine Go.s_aload X323 hx (hb hby at_228) (q := 230) rfl rfl rfl ?_
            refine Go.s_aload X323 hx (hb hby at_230) (q := 232) rfl rfl rfl ?_
            refine Go.callV (y := mn_5) (z := mn_5) X323 hx hZ hown (w_ hw 40 rfl) (w_ hw 41 rfl) (notFace_of_selects (args := #[]) (mvT hZ (w_ hw 43 rfl))) (w_ hw 43 rfl) (w_ hw 42 rfl) (w_ hw 44 rfl) (w_ hw 8 rfl) (by decide) rfl f323_0 (argsL := [(.ref b6)]) (rest := []) (rm_holds_51 l Z a0 hw b2 b0_299 b1_299 b2_299 b6 kk4_299 T323.heap n0 m50_v330 f323_8 f323_9 f299_11_v333 f323_12 ne_b2_b0_299 ne_b2_b1_299 ne_b2_b2_299 m29 f299_16 f299_17 f299_18 ne_b6_b0_299 ne_b6_b1_299 ne_b6_b2_299) (by rw [hml]; rfl) (lenOf pd_6 rfl) rfl (hb hby at_232) (by decide) (by decide) (by decide) (by decide) ?_
            intro r334 T334 L334 q334 X334
            obtain ⟨rfl, rfl, e334⟩ := q334
            rw [List.append_nil] at X334
            show Go p e below _ T334 (mkF m 235 #[.val (.int x0), .val (.int x1), .val (.int x2), .val (.int x3), .val (.int x4), .val (.int (1 : Int32)), .val (.int (1 : Int32)), .val (.int (1 : Int32)), .val (.int u8_296), .val (.int (0 : Int32)), .val (.int u15_321), .val (.ref b2), .val (.ref b6), .val (.ref b35), .val (.ref b71), .val (.int u15_321), .val (.int (0 : Int32))] [(.int (1 : Int32))])
            refine Go.s_iload X334 hx (hb hby at_235) (q := 237) rfl rfl ?_
            refine Go.s_icmpNo X334 hx (hb hby at_237) (q := 240) rfl (teq (by decide : (1 : Int32) = (1 : Int32))).2 ?_
            refine Go.s_aload X334 hx (hb hby at_240) (q := 242) rfl rfl rfl ?_
            refine Go.s_aload X334 hx (hb hby at_242) (q := 244) rfl rfl rfl ?_
            refine Go.callV (y := mn_5) (z := mn_5) X334 hx hZ hown (w_ hw 40 rfl) (w_ hw 41 rfl) (notFace_of_selects (args := #[]) (mvT hZ (w_ hw 43 rfl))) (w_ hw 43 rfl) (w_ hw 42 rfl) (w_ hw 44 rfl) (w_ hw 8 rfl) (by decide) e334 f323_0 (argsL := [(.ref b35)]) (rest := []) (rm_holds_52 l Z a0 hw b2 b0_299 b1_299 b2_299 b35 b6 kk4_299 T323.heap n0 m50_v330 f323_8 f323_9 f323_11 f299_11_v333 f323_12 ne_b2_b0_299 ne_b2_b1_299 ne_b2_b2_299 m34 m29 f299_16 f299_17 f299_18 ne_b35_b0_299 ne_b35_b1_299 ne_b35_b2_299 ne_b6_b0_299 ne_b6_b1_299 ne_b6_b2_299 m38) (by rw [hml]; rfl) (lenOf pd_6 rfl) rfl (hb hby at_244) (by decide) (by decide) (by decide) (by decide) ?_
            intro r335 T335 L335 q335 X335
            obtain ⟨rfl, rfl, e335⟩ := q335
            rw [List.append_nil] at X335
            show Go p e below _ T335 (mkF m 247 #[.val (.int x0), .val (.int x1), .val (.int x2), .val (.int x3), .val (.int x4), .val (.int (1 : Int32)), .val (.int (1 : Int32)), .val (.int (1 : Int32)), .val (.int u8_296), .val (.int (0 : Int32)), .val (.int u15_321), .val (.ref b2), .val (.ref b6), .val (.ref b35), .val (.ref b71), .val (.int u15_321), .val (.int (0 : Int32))] [(.int (0 : Int32))])
            refine Go.s_iload X335 hx (hb hby at_247) (q := 249) rfl rfl ?_
            refine Go.s_icmpNo X335 hx (hb hby at_249) (q := 252) rfl (teq (by decide : (0 : Int32) = (0 : Int32))).2 ?_
            refine Go.s_aload X335 hx (hb hby at_252) (q := 254) rfl rfl rfl ?_
            refine Go.s_aload X335 hx (hb hby at_254) (q := 256) rfl rfl rfl ?_
            refine Go.callV (y := mn_5) (z := mn_5) X335 hx hZ hown (w_ hw 40 rfl) (w_ hw 41 rfl) (notFace_of_selects (args := #[]) (mvT hZ (w_ hw 43 rfl))) (w_ hw 43 rfl) (w_ hw 42 rfl) (w_ hw 44 rfl) (w_ hw 8 rfl) (by decide) e335 f323_0 (argsL := [(.ref b71)]) (rest := []) (rm_holds_53 l Z a0 hw b2 b0_299 b1_299 b2_299 b71 b6 kk4_299 T323.heap n0 m50_v330 f323_8 f323_9 m49_v329 f299_11_v333 f323_12 ne_b2_b0_299 ne_b2_b1_299 ne_b2_b2_299 m29 m40 f299_16 f299_17 f299_18 ne_b71_b0_299 ne_b71_b1_299 ne_b71_b2_299 ne_b6_b0_299 ne_b6_b1_299 ne_b6_b2_299 m44) (by rw [hml]; rfl) (lenOf pd_6 rfl) rfl (hb hby at_256) (by decide) (by decide) (by decide) (by decide) ?_
            intro r336 T336 L336 q336 X336
            obtain ⟨rfl, rfl, e336⟩ := q336
            rw [List.append_nil] at X336
            show Go p e below _ T336 (mkF m 259 #[.val (.int x0), .val (.int x1), .val (.int x2), .val (.int x3), .val (.int x4), .val (.int (1 : Int32)), .val (.int (1 : Int32)), .val (.int (1 : Int32)), .val (.int u8_296), .val (.int (0 : Int32)), .val (.int u15_321), .val (.ref b2), .val (.ref b6), .val (.ref b35), .val (.ref b71), .val (.int u15_321), .val (.int (0 : Int32))] [(.int (0 : Int32))])
            refine Go.s_iload X336 hx (hb hby at_259) (q := 261) rfl rfl ?_
            refine Go.s_icmpNo X336 hx (hb hby at_261) (q := 264) rfl (teq (by decide : (0 : Int32) = (0 : Int32))).2 ?_
            refine Go.s_iconst X336 hx (hb hby at_264) (q := 265) rfl (z := 1) rfl ?_
            refine Go.s_goto X336 hx (hb hby at_265) (q := 269) (by decide) (by decide) ?_
            refine Go.retN X336 hx hlk hret (by simp) (hb hby at_269) (by decide) (by decide) ?_
            try rw [e336]
            exact ⟨by decide, N323⟩
          ·
            show Go p e below _ T310 (mkF m 178 #[.val (.int x0), .val (.int x1), .val (.int x2), .val (.int x3), .val (.int x4), .val (.int (1 : Int32)), .val (.int (1 : Int32)), .val (.int (1 : Int32)), .val (.int u8_296), .val (.int (0 : Int32)), .val (.int w1), .val (.ref b2), .val (.ref b6), .val (.ref b35), .val (.ref b71), .val (.int u15_321), .unset] [])
            refine Go.s_iload X310 hx (hb hby at_178) (q := 180) rfl rfl ?_
            refine Go.s_ifNo X310 hx (hb hby at_180) (q := 183) rfl ((if0 _ _).trans (feq (by decide : ¬ ((1 : Int32) = (0 : Int32)))).1) ?_
            refine Go.s_aload X310 hx (hb hby at_183) (q := 185) rfl rfl rfl ?_
            refine Go.s_aload X310 hx (hb hby at_185) (q := 187) rfl rfl rfl ?_
            refine Go.s_iload X310 hx (hb hby at_187) (q := 189) rfl rfl ?_
            refine Go.callV (y := mn_10) (z := mn_10) X310 hx hZ hown (w_ hw 74 rfl) (w_ hw 75 rfl) (notFace_of_selects (args := #[]) (mvT hZ (w_ hw 77 rfl))) (w_ hw 77 rfl) (w_ hw 76 rfl) (w_ hw 78 rfl) (w_ hw 8 rfl) (by decide) rfl f310_0 (argsL := [(.ref b35), (.int u15_321)]) (rest := []) (rm_take_54 l Z a0 hw b2 b0_299 b1_299 b2_299 b35 w0_310 w1 kk4_299 b6 u15_321 T310.heap n0 m50_v317 f310_0 f310_1 f310_2 f310_3 f310_4 f310_5 f310_6 f310_7 f310_8 f310_9 f310_10 f310_11 f310_12 f310_13 f310_14 f310_15 ne_b2_b0_299 ne_b2_b1_299 ne_b2_b2_299 m34 f299_16 f299_17 f299_18 ne_b35_b0_299 ne_b35_b1_299 ne_b35_b2_299 m18 g_b0_299 g_b1_299 g_b2_299 m39 (fun q => ck_322 (sub_zero q))) (by rw [hml]; rfl) (lenOf pd_7 rfl) rfl (hb hby at_189) (by decide) (by decide) (by decide) (by decide) ?_
            intro r337 T337 L337 q337 X337
            obtain ⟨w0_337, w1_337, rfl, N337q, K337, f337_0, f337_1, f337_2, f337_3, f337_4, f337_5, f337_6, f337_7, f337_8, f337_9, f337_10, f337_11, f337_12, f337_13⟩ := q337
            have N337 := Fr.app N310 N337q
            have m9_v338 := m9_v311.keep K337 (ninS (Ne.symm m19) (ninS ne_b0_4_b1_299 (ninS ne_b0_4_b2_299 (ninS m35 nin0))))
            have m10_v339 := m10_v312.keep K337 (ninS (Ne.symm m21) (ninS ne_b1_4_b1_299 (ninS ne_b1_4_b2_299 (ninS m36 nin0))))
            have m11_v340 := m11_v313.keep K337 (ninS (Ne.symm m23) (ninS ne_b2_4_b1_299 (ninS ne_b2_4_b2_299 (ninS m37 nin0))))
            have m47_v341 := m47_v314.keep K337
            have m48_v342 := m48_v315.keep K337 (ninS (Ne.symm m40) (ninS ne_b71_b1_299 (ninS ne_b71_b2_299 (ninS (Ne.symm m45) nin0))))
            have m49_v343 := m49_v316.keep K337 (ninS (Ne.symm m40) (ninS ne_b71_b1_299 (ninS ne_b71_b2_299 (ninS (Ne.symm m45) nin0))))
            have m50_v344 := Nat.le_trans m50_v317 K337.1
            have f299_1_v345 := f299_1_v318.keep K337
            have f299_10_v346 := f299_10_v319.keep K337 (ninS (Ne.symm m29) (ninS ne_b6_b1_299 (ninS ne_b6_b2_299 (ninS m38 nin0))))
            have f299_11_v347 := f299_11_v320.keep K337 (ninS (Ne.symm m29) (ninS ne_b6_b1_299 (ninS ne_b6_b2_299 (ninS m38 nin0))))
            have f310_12_v348 := f310_12.keep K337 (ninS (Ne.symm ne_b2_b0_299) (ninS (Ne.symm f299_16) (ninS (Ne.symm f299_18) (ninS (Ne.symm ne_b35_b0_299) nin0))))
            show Go p e below _ T337 (mkF m 192 #[.val (.int x0), .val (.int x1), .val (.int x2), .val (.int x3), .val (.int x4), .val (.int (1 : Int32)), .val (.int (1 : Int32)), .val (.int (1 : Int32)), .val (.int u8_296), .val (.int (0 : Int32)), .val (.int w1), .val (.ref b2), .val (.ref b6), .val (.ref b35), .val (.ref b71), .val (.int u15_321), .unset] [])
            refine Go.s_iload X337 hx (hb hby at_192) (q := 194) rfl rfl ?_
            refine Go.s_ifYes X337 hx (hb hby at_194) (q := 204) (by decide) (by decide) ((if0 _ _).trans (teq (by decide : (0 : Int32) = (0 : Int32))).1) ?_
            refine Go.s_iload X337 hx (hb hby at_204) (q := 206) rfl rfl ?_
            refine Go.s_ifNo X337 hx (hb hby at_206) (q := 209) rfl ((if0 _ _).trans (feq (by decide : ¬ ((1 : Int32) = (0 : Int32)))).1) ?_
            refine Go.s_iload X337 hx (hb hby at_209) (q := 211) rfl rfl ?_
            refine Go.s_ifNo X337 hx (hb hby at_211) (q := 214) rfl ((if0 _ _).trans (feq (by decide : ¬ ((1 : Int32) = (0 : Int32)))).1) ?_
            refine Go.s_iload X337 hx (hb hby at_214) (q := 216) rfl rfl ?_
            refine Go.s_iload X337 hx (hb hby at_216) (q := 218) rfl rfl ?_
            refine Go.s_icmpNo X337 hx (hb hby at_218) (q := 221) rfl (feq ck_322).1 ?_
            refine Go.s_iconst X337 hx (hb hby at_221) (q := 222) rfl (z := 1) rfl ?_
            refine Go.s_goto X337 hx (hb hby at_222) (q := 226) (by decide) (by decide) ?_
            refine Go.s_istore X337 hx (hb hby at_226) (q := 228) rfl (l' := #[.val (.int x0), .val (.int x1), .val (.int x2), .val (.int x3), .val (.int x4), .val (.int (1 : Int32)), .val (.int (1 : Int32)), .val (.int (1 : Int32)), .val (.int u8_296), .val (.int (0 : Int32)), .val (.int w1), .val (.ref b2), .val (.ref b6), .val (.ref b35), .val (.ref b71), .val (.int u15_321), .val (.int (1 : Int32))]) rfl ?_
            refine Go.s_aload X337 hx (hb hby at_228) (q := 230) rfl rfl rfl ?_
            refine Go.s_aload X337 hx (hb hby at_230) (q := 232) rfl rfl rfl ?_
            refine Go.callV (y := mn_5) (z := mn_5) X337 hx hZ hown (w_ hw 40 rfl) (w_ hw 41 rfl) (notFace_of_selects (args := #[]) (mvT hZ (w_ hw 43 rfl))) (w_ hw 43 rfl) (w_ hw 42 rfl) (w_ hw 44 rfl) (w_ hw 8 rfl) (by decide) rfl f337_0 (argsL := [(.ref b6)]) (rest := []) (rm_holds_37 l Z a0 hw b2 b0_299 b1_299 b2_299 b6 b35 kk4_299 T337.heap n0 m50_v344 f337_8 f337_9 f299_11_v347 f337_11 f310_12_v348 ne_b2_b0_299 ne_b2_b1_299 ne_b2_b2_299 m34 m29 f299_16 f299_17 f299_18 ne_b6_b0_299 ne_b6_b1_299 ne_b6_b2_299 m38 ne_b35_b0_299 ne_b35_b1_299 ne_b35_b2_299) (by rw [hml]; rfl) (lenOf pd_6 rfl) rfl (hb hby at_232) (by decide) (by decide) (by decide) (by decide) ?_
            intro r349 T349 L349 q349 X349
            obtain ⟨rfl, rfl, e349⟩ := q349
            rw [List.append_nil] at X349
            show Go p e below _ T349 (mkF m 235 #[.val (.int x0), .val (.int x1), .val (.int x2), .val (.int x3), .val (.int x4), .val (.int (1 : Int32)), .val (.int (1 : Int32)), .val (.int (1 : Int32)), .val (.int u8_296), .val (.int (0 : Int32)), .val (.int w1), .val (.ref b2), .val (.ref b6), .val (.ref b35), .val (.ref b71), .val (.int u15_321), .val (.int (1 : Int32))] [(.int (1 : Int32))])
            refine Go.s_iload X349 hx (hb hby at_235) (q := 237) rfl rfl ?_
            refine Go.s_icmpNo X349 hx (hb hby at_237) (q := 240) rfl (teq (by decide : (1 : Int32) = (1 : Int32))).2 ?_
            refine Go.s_aload X349 hx (hb hby at_240) (q := 242) rfl rfl rfl ?_
            refine Go.s_aload X349 hx (hb hby at_242) (q := 244) rfl rfl rfl ?_
            refine Go.callV (y := mn_5) (z := mn_5) X349 hx hZ hown (w_ hw 40 rfl) (w_ hw 41 rfl) (notFace_of_selects (args := #[]) (mvT hZ (w_ hw 43 rfl))) (w_ hw 43 rfl) (w_ hw 42 rfl) (w_ hw 44 rfl) (w_ hw 8 rfl) (by decide) e349 f337_0 (argsL := [(.ref b35)]) (rest := []) (rm_holds_38 l Z a0 hw b2 b0_299 b1_299 b2_299 b35 b6 kk4_299 T337.heap n0 m50_v344 f337_8 f337_9 f337_11 f299_11_v347 f310_12_v348 ne_b2_b0_299 ne_b2_b1_299 ne_b2_b2_299 m34 m29 f299_16 f299_17 f299_18 ne_b35_b0_299 ne_b35_b1_299 ne_b35_b2_299 ne_b6_b0_299 ne_b6_b1_299 ne_b6_b2_299 m38) (by rw [hml]; rfl) (lenOf pd_6 rfl) rfl (hb hby at_244) (by decide) (by decide) (by decide) (by decide) ?_
            intro r350 T350 L350 q350 X350
            obtain ⟨rfl, rfl, e350⟩ := q350
            rw [List.append_nil] at X350
            show Go p e below _ T350 (mkF m 247 #[.val (.int x0), .val (.int x1), .val (.int x2), .val (.int x3), .val (.int x4), .val (.int (1 : Int32)), .val (.int (1 : Int32)), .val (.int (1 : Int32)), .val (.int u8_296), .val (.int (0 : Int32)), .val (.int w1), .val (.ref b2), .val (.ref b6), .val (.ref b35), .val (.ref b71), .val (.int u15_321), .val (.int (1 : Int32))] [(.int (1 : Int32))])
            refine Go.s_iload X350 hx (hb hby at_247) (q := 249) rfl rfl ?_
            refine Go.s_icmpNo X350 hx (hb hby at_249) (q := 252) rfl (teq (by decide : (1 : Int32) = (1 : Int32))).2 ?_
            refine Go.s_aload X350 hx (hb hby at_252) (q := 254) rfl rfl rfl ?_
            refine Go.s_aload X350 hx (hb hby at_254) (q := 256) rfl rfl rfl ?_
            refine Go.callV (y := mn_5) (z := mn_5) X350 hx hZ hown (w_ hw 40 rfl) (w_ hw 41 rfl) (notFace_of_selects (args := #[]) (mvT hZ (w_ hw 43 rfl))) (w_ hw 43 rfl) (w_ hw 42 rfl) (w_ hw 44 rfl) (w_ hw 8 rfl) (by decide) e350 f337_0 (argsL := [(.ref b71)]) (rest := []) (rm_holds_39 l Z a0 hw b2 b0_299 b1_299 b2_299 b71 b6 b35 kk4_299 T337.heap n0 m50_v344 f337_8 f337_9 m49_v343 f299_11_v347 f337_11 f310_12_v348 ne_b2_b0_299 ne_b2_b1_299 ne_b2_b2_299 m34 m29 m40 f299_16 f299_17 f299_18 ne_b71_b0_299 ne_b71_b1_299 ne_b71_b2_299 ne_b6_b0_299 ne_b6_b1_299 ne_b6_b2_299 m38 m44 ne_b35_b0_299 ne_b35_b1_299 ne_b35_b2_299 m45) (by rw [hml]; rfl) (lenOf pd_6 rfl) rfl (hb hby at_256) (by decide) (by decide) (by decide) (by decide) ?_
            intro r351 T351 L351 q351 X351
            obtain ⟨rfl, rfl, e351⟩ := q351
            rw [List.append_nil] at X351
            show Go p e below _ T351 (mkF m 259 #[.val (.int x0), .val (.int x1), .val (.int x2), .val (.int x3), .val (.int x4), .val (.int (1 : Int32)), .val (.int (1 : Int32)), .val (.int (1 : Int32)), .val (.int u8_296), .val (.int (0 : Int32)), .val (.int w1), .val (.ref b2), .val (.ref b6), .val (.ref b35), .val (.ref b71), .val (.int u15_321), .val (.int (1 : Int32))] [(.int (0 : Int32))])
            refine Go.s_iload X351 hx (hb hby at_259) (q := 261) rfl rfl ?_
            refine Go.s_icmpNo X351 hx (hb hby at_261) (q := 264) rfl (teq (by decide : (0 : Int32) = (0 : Int32))).2 ?_
            refine Go.s_iconst X351 hx (hb hby at_264) (q := 265) rfl (z := 1) rfl ?_
            refine Go.s_goto X351 hx (hb hby at_265) (q := 269) (by decide) (by decide) ?_
            refine Go.retN X351 hx hlk hret (by simp) (hb hby at_269) (by decide) (by decide) ?_
            try rw [e351]
            exact ⟨by decide, N337⟩
        · -- pc 62: not (x0 &&& (16 : Int32)) = (0 : Int32)
          refine Go.s_ifNo X0 hx (hb hby at_62) (q := 65) rfl ((if0 _ _).trans (feq c62_297).1) ?_
          refine Go.s_iconst X0 hx (hb hby at_65) (q := 66) rfl (z := 1) rfl ?_
          refine Go.s_goto X0 hx (hb hby at_66) (q := 70) (by decide) (by decide) ?_
          refine Go.s_istore X0 hx (hb hby at_70) (q := 72) rfl (l' := #[.val (.int x0), .val (.int x1), .val (.int x2), .val (.int x3), .val (.int x4), .val (.int (1 : Int32)), .val (.int (1 : Int32)), .val (.int (1 : Int32)), .val (.int u8_296), .val (.int (1 : Int32)), .unset, .unset, .unset, .unset, .unset, .unset, .unset]) rfl ?_
          refine law_mid hw hx hby hml hown hZ X0 e0 Z0 ?_
          intro T352 h352 LL352 w1 b2 b6 b35 b71 b2_4 b1_4 b0_4 kk3_4 w20 w93 X352 e352 N352 p1 p20 p93 m0 m1 m2 m3 m4 m5 m6 m7 m8 m9 m10 m11 m12 m13 m14 m15 m16 m17 m18 m19 m20 m21 m22 m23 m24 m25 m26 m27 m28 m29 m30 m31 m32 m33 m34 m35 m36 m37 m38 m39 m40 m41 m42 m43 m44 m45 m46 m47 m48 m49 m50
          refine Go.s_iload X352 hx (hb hby at_132) (q := 134) rfl rfl ?_
          refine Go.s_ifNo X352 hx (hb hby at_134) (q := 137) rfl ((if0 _ _).trans (feq (by decide : ¬ ((1 : Int32) = (0 : Int32)))).1) ?_
          refine Go.s_aload X352 hx (hb hby at_137) (q := 139) rfl rfl rfl ?_
          refine Go.s_aload X352 hx (hb hby at_139) (q := 141) rfl rfl rfl ?_
          refine Go.callV (y := mn_6) (z := mn_6) X352 hx hZ hown (w_ hw 49 rfl) (w_ hw 50 rfl) (notFace_of_selects (args := #[]) (mvT hZ (w_ hw 52 rfl))) (w_ hw 52 rfl) (w_ hw 51 rfl) (w_ hw 53 rfl) (w_ hw 8 rfl) (by decide) e352 m0 (argsL := [(.ref b6)]) (rest := []) (rm_add_10 l Z a0 hw b2 b0_4 b1_4 b2_4 b6 w20 kk3_4 h352 n0 m50 m0 m12 m1 m2 m3 m4 m5 m6 m7 m8 m13 m14 m9 m10 m11 m25 m19 m21 m23 m29 m26 m27 m30 m28 m31 m32 m18 m20 m22 m24 m33) (by rw [hml]; rfl) (lenOf pd_5 rfl) rfl (hb hby at_141) (by decide) (by decide) (by decide) (by decide) ?_
          intro r353 T353 L353 q353 X353
          obtain ⟨b0_353, b1_353, b2_353, w3_353, kk4_353, rfl, N353q, K353, sz_b0_353, sz_b1_353, sz_b2_353, f353_0, f353_1, f353_2, f353_3, f353_4, f353_5, f353_6, f353_7, f353_8, f353_9, f353_10, f353_11, f353_12, f353_13, f353_14, f353_15, f353_16, f353_17, f353_18⟩ := q353
          have N353 := Fr.app N352 N353q
          have ne_b2_b0_353 : b2 ≠ b0_353 := Nat.ne_of_lt (Nat.lt_of_lt_of_le m0.lt sz_b0_353)
          have ne_b0_4_b0_353 : b0_4 ≠ b0_353 := Nat.ne_of_lt (Nat.lt_of_lt_of_le m9.lt sz_b0_353)
          have ne_b1_4_b0_353 : b1_4 ≠ b0_353 := Nat.ne_of_lt (Nat.lt_of_lt_of_le m10.lt sz_b0_353)
          have ne_b2_4_b0_353 : b2_4 ≠ b0_353 := Nat.ne_of_lt (Nat.lt_of_lt_of_le m11.lt sz_b0_353)
          have ne_b6_b0_353 : b6 ≠ b0_353 := Nat.ne_of_lt (Nat.lt_of_lt_of_le m12.lt sz_b0_353)
          have ne_b35_b0_353 : b35 ≠ b0_353 := Nat.ne_of_lt (Nat.lt_of_lt_of_le m15.lt sz_b0_353)
          have ne_b71_b0_353 : b71 ≠ b0_353 := Nat.ne_of_lt (Nat.lt_of_lt_of_le m47.lt sz_b0_353)
          have g_b0_353 : n0 ≤ b0_353 := Nat.le_trans m50 sz_b0_353
          have ne_b2_b1_353 : b2 ≠ b1_353 := Nat.ne_of_lt (Nat.lt_of_lt_of_le m0.lt sz_b1_353)
          have ne_b0_4_b1_353 : b0_4 ≠ b1_353 := Nat.ne_of_lt (Nat.lt_of_lt_of_le m9.lt sz_b1_353)
          have ne_b1_4_b1_353 : b1_4 ≠ b1_353 := Nat.ne_of_lt (Nat.lt_of_lt_of_le m10.lt sz_b1_353)
          have ne_b2_4_b1_353 : b2_4 ≠ b1_353 := Nat.ne_of_lt (Nat.lt_of_lt_of_le m11.lt sz_b1_353)
          have ne_b6_b1_353 : b6 ≠ b1_353 := Nat.ne_of_lt (Nat.lt_of_lt_of_le m12.lt sz_b1_353)
          have ne_b35_b1_353 : b35 ≠ b1_353 := Nat.ne_of_lt (Nat.lt_of_lt_of_le m15.lt sz_b1_353)
          have ne_b71_b1_353 : b71 ≠ b1_353 := Nat.ne_of_lt (Nat.lt_of_lt_of_le m47.lt sz_b1_353)
          have g_b1_353 : n0 ≤ b1_353 := Nat.le_trans m50 sz_b1_353
          have ne_b2_b2_353 : b2 ≠ b2_353 := Nat.ne_of_lt (Nat.lt_of_lt_of_le m0.lt sz_b2_353)
          have ne_b0_4_b2_353 : b0_4 ≠ b2_353 := Nat.ne_of_lt (Nat.lt_of_lt_of_le m9.lt sz_b2_353)
          have ne_b1_4_b2_353 : b1_4 ≠ b2_353 := Nat.ne_of_lt (Nat.lt_of_lt_of_le m10.lt sz_b2_353)
          have ne_b2_4_b2_353 : b2_4 ≠ b2_353 := Nat.ne_of_lt (Nat.lt_of_lt_of_le m11.lt sz_b2_353)
          have ne_b6_b2_353 : b6 ≠ b2_353 := Nat.ne_of_lt (Nat.lt_of_lt_of_le m12.lt sz_b2_353)
          have ne_b35_b2_353 : b35 ≠ b2_353 := Nat.ne_of_lt (Nat.lt_of_lt_of_le m15.lt sz_b2_353)
          have ne_b71_b2_353 : b71 ≠ b2_353 := Nat.ne_of_lt (Nat.lt_of_lt_of_le m47.lt sz_b2_353)
          have g_b2_353 : n0 ≤ b2_353 := Nat.le_trans m50 sz_b2_353
          have m9_v354 := m9.keep K353 (ninS (Ne.symm m19) (ninS m30 nin0))
          have m10_v355 := m10.keep K353 (ninS (Ne.symm m21) (ninS m31 nin0))
          have m11_v356 := m11.keep K353 (ninS (Ne.symm m23) (ninS m32 nin0))
          have m15_v357 := m15.keep K353
          have m16_v358 := m16.keep K353 (ninS (Ne.symm m34) (ninS (Ne.symm m38) nin0))
          have m17_v359 := m17.keep K353 (ninS (Ne.symm m34) (ninS (Ne.symm m38) nin0))
          have m47_v360 := m47.keep K353
          have m48_v361 := m48.keep K353 (ninS (Ne.symm m40) (ninS (Ne.symm m44) nin0))
          have m49_v362 := m49.keep K353 (ninS (Ne.symm m40) (ninS (Ne.symm m44) nin0))
          have m50_v363 := Nat.le_trans m50 K353.1
          show Go p e below _ T353 (mkF m 144 #[.val (.int x0), .val (.int x1), .val (.int x2), .val (.int x3), .val (.int x4), .val (.int (1 : Int32)), .val (.int (1 : Int32)), .val (.int (1 : Int32)), .val (.int u8_296), .val (.int (1 : Int32)), .val (.int w1), .val (.ref b2), .val (.ref b6), .val (.ref b35), .val (.ref b71), .unset, .unset] [])
          refine Go.s_iload X353 hx (hb hby at_144) (q := 146) rfl rfl ?_
          refine Go.s_ifNo X353 hx (hb hby at_146) (q := 149) rfl ((if0 _ _).trans (feq (by decide : ¬ ((1 : Int32) = (0 : Int32)))).1) ?_
          refine Go.s_aload X353 hx (hb hby at_149) (q := 151) rfl rfl rfl ?_
          refine Go.s_aload X353 hx (hb hby at_151) (q := 153) rfl rfl rfl ?_
          refine Go.callV (y := mn_6) (z := mn_6) X353 hx hZ hown (w_ hw 49 rfl) (w_ hw 50 rfl) (notFace_of_selects (args := #[]) (mvT hZ (w_ hw 52 rfl))) (w_ hw 52 rfl) (w_ hw 51 rfl) (w_ hw 53 rfl) (w_ hw 8 rfl) (by decide) rfl f353_0 (argsL := [(.ref b35)]) (rest := []) (rm_add_22 l Z a0 hw b2 b0_353 b1_353 b2_353 b35 w3_353 w1 kk4_353 b6 T353.heap n0 m50_v363 f353_0 m15_v357 f353_2 f353_3 f353_4 f353_5 f353_6 f353_7 f353_8 f353_9 m16_v358 m17_v359 f353_12 f353_13 f353_14 f353_15 ne_b2_b0_353 ne_b2_b1_353 ne_b2_b2_353 m34 f353_16 f353_17 f353_18 ne_b35_b0_353 ne_b35_b1_353 ne_b35_b2_353 m18 g_b0_353 g_b1_353 g_b2_353 m39) (by rw [hml]; rfl) (lenOf pd_5 rfl) rfl (hb hby at_153) (by decide) (by decide) (by decide) (by decide) ?_
          intro r364 T364 L364 q364 X364
          obtain ⟨w0_364, rfl, N364q, K364, f364_0, f364_1, f364_2, f364_3, f364_4, f364_5, f364_6, f364_7, f364_8, f364_9, f364_10, f364_11, f364_12, f364_13, f364_14, f364_15⟩ := q364
          have N364 := Fr.app N353 N364q
          have m9_v365 := m9_v354.keep K364 (ninS (Ne.symm m19) (ninS ne_b0_4_b0_353 (ninS ne_b0_4_b1_353 (ninS ne_b0_4_b2_353 (ninS m35 nin0)))))
          have m10_v366 := m10_v355.keep K364 (ninS (Ne.symm m21) (ninS ne_b1_4_b0_353 (ninS ne_b1_4_b1_353 (ninS ne_b1_4_b2_353 (ninS m36 nin0)))))
          have m11_v367 := m11_v356.keep K364 (ninS (Ne.symm m23) (ninS ne_b2_4_b0_353 (ninS ne_b2_4_b1_353 (ninS ne_b2_4_b2_353 (ninS m37 nin0)))))
          have m47_v368 := m47_v360.keep K364
          have m48_v369 := m48_v361.keep K364 (ninS (Ne.symm m40) (ninS ne_b71_b0_353 (ninS ne_b71_b1_353 (ninS ne_b71_b2_353 (ninS (Ne.symm m45) nin0)))))
          have m49_v370 := m49_v362.keep K364 (ninS (Ne.symm m40) (ninS ne_b71_b0_353 (ninS ne_b71_b1_353 (ninS ne_b71_b2_353 (ninS (Ne.symm m45) nin0)))))
          have m50_v371 := Nat.le_trans m50_v363 K364.1
          have f353_1_v372 := f353_1.keep K364
          have f353_10_v373 := f353_10.keep K364 (ninS (Ne.symm m29) (ninS ne_b6_b0_353 (ninS ne_b6_b1_353 (ninS ne_b6_b2_353 (ninS m38 nin0)))))
          have f353_11_v374 := f353_11.keep K364 (ninS (Ne.symm m29) (ninS ne_b6_b0_353 (ninS ne_b6_b1_353 (ninS ne_b6_b2_353 (ninS m38 nin0)))))
          refine law_k hw hx hby hml hown hZ X364 (size_nz p1) ?_
          intro u15_375
          by_cases ck_376 : u15_375 = w1
          ·
            subst ck_376
            show Go p e below _ T364 (mkF m 178 #[.val (.int x0), .val (.int x1), .val (.int x2), .val (.int x3), .val (.int x4), .val (.int (1 : Int32)), .val (.int (1 : Int32)), .val (.int (1 : Int32)), .val (.int u8_296), .val (.int (1 : Int32)), .val (.int u15_375), .val (.ref b2), .val (.ref b6), .val (.ref b35), .val (.ref b71), .val (.int u15_375), .unset] [])
            refine Go.s_iload X364 hx (hb hby at_178) (q := 180) rfl rfl ?_
            refine Go.s_ifNo X364 hx (hb hby at_180) (q := 183) rfl ((if0 _ _).trans (feq (by decide : ¬ ((1 : Int32) = (0 : Int32)))).1) ?_
            refine Go.s_aload X364 hx (hb hby at_183) (q := 185) rfl rfl rfl ?_
            refine Go.s_aload X364 hx (hb hby at_185) (q := 187) rfl rfl rfl ?_
            refine Go.s_iload X364 hx (hb hby at_187) (q := 189) rfl rfl ?_
            refine Go.callV (y := mn_10) (z := mn_10) X364 hx hZ hown (w_ hw 74 rfl) (w_ hw 75 rfl) (notFace_of_selects (args := #[]) (mvT hZ (w_ hw 77 rfl))) (w_ hw 77 rfl) (w_ hw 76 rfl) (w_ hw 78 rfl) (w_ hw 8 rfl) (by decide) rfl f364_0 (argsL := [(.ref b35), (.int u15_375)]) (rest := []) (rm_take_50 l Z a0 hw b2 b0_353 b1_353 b2_353 b35 w0_364 u15_375 kk4_353 b6 T364.heap n0 m50_v371 f364_0 f364_1 f364_2 f364_3 f364_4 f364_5 f364_6 f364_7 f364_8 f364_9 f364_10 f364_11 f364_12 f364_13 f364_14 f364_15 ne_b2_b0_353 ne_b2_b1_353 ne_b2_b2_353 m34 f353_16 f353_17 f353_18 ne_b35_b0_353 ne_b35_b1_353 ne_b35_b2_353 m18 g_b0_353 g_b1_353 g_b2_353 m39 (sub_self u15_375)) (by rw [hml]; rfl) (lenOf pd_7 rfl) rfl (hb hby at_189) (by decide) (by decide) (by decide) (by decide) ?_
            intro r377 T377 L377 q377 X377
            obtain ⟨w0_377, w1_377, rfl, N377q, K377, f377_0, f377_1, f377_2, f377_3, f377_4, f377_5, f377_6, f377_7, f377_8, f377_9, f377_10, f377_11, f377_12, f377_13, f377_14, f377_15⟩ := q377
            have N377 := Fr.app N364 N377q
            have m9_v378 := m9_v365.keep K377 (ninS (Ne.symm m19) (ninS ne_b0_4_b0_353 (ninS ne_b0_4_b1_353 (ninS ne_b0_4_b2_353 (ninS m35 nin0)))))
            have m10_v379 := m10_v366.keep K377 (ninS (Ne.symm m21) (ninS ne_b1_4_b0_353 (ninS ne_b1_4_b1_353 (ninS ne_b1_4_b2_353 (ninS m36 nin0)))))
            have m11_v380 := m11_v367.keep K377 (ninS (Ne.symm m23) (ninS ne_b2_4_b0_353 (ninS ne_b2_4_b1_353 (ninS ne_b2_4_b2_353 (ninS m37 nin0)))))
            have m47_v381 := m47_v368.keep K377
            have m48_v382 := m48_v369.keep K377 (ninS (Ne.symm m40) (ninS ne_b71_b0_353 (ninS ne_b71_b1_353 (ninS ne_b71_b2_353 (ninS (Ne.symm m45) nin0)))))
            have m49_v383 := m49_v370.keep K377 (ninS (Ne.symm m40) (ninS ne_b71_b0_353 (ninS ne_b71_b1_353 (ninS ne_b71_b2_353 (ninS (Ne.symm m45) nin0)))))
            have m50_v384 := Nat.le_trans m50_v371 K377.1
            have f353_1_v385 := f353_1_v372.keep K377
            have f353_10_v386 := f353_10_v373.keep K377 (ninS (Ne.symm m29) (ninS ne_b6_b0_353 (ninS ne_b6_b1_353 (ninS ne_b6_b2_353 (ninS m38 nin0)))))
            have f353_11_v387 := f353_11_v374.keep K377 (ninS (Ne.symm m29) (ninS ne_b6_b0_353 (ninS ne_b6_b1_353 (ninS ne_b6_b2_353 (ninS m38 nin0)))))
            show Go p e below _ T377 (mkF m 192 #[.val (.int x0), .val (.int x1), .val (.int x2), .val (.int x3), .val (.int x4), .val (.int (1 : Int32)), .val (.int (1 : Int32)), .val (.int (1 : Int32)), .val (.int u8_296), .val (.int (1 : Int32)), .val (.int u15_375), .val (.ref b2), .val (.ref b6), .val (.ref b35), .val (.ref b71), .val (.int u15_375), .unset] [])
            refine Go.s_iload X377 hx (hb hby at_192) (q := 194) rfl rfl ?_
            refine Go.s_ifNo X377 hx (hb hby at_194) (q := 197) rfl ((if0 _ _).trans (feq (by decide : ¬ ((1 : Int32) = (0 : Int32)))).1) ?_
            refine Go.s_aload X377 hx (hb hby at_197) (q := 199) rfl rfl rfl ?_
            refine Go.s_aload X377 hx (hb hby at_199) (q := 201) rfl rfl rfl ?_
            refine Go.callV (y := mn_6) (z := mn_6) X377 hx hZ hown (w_ hw 49 rfl) (w_ hw 50 rfl) (notFace_of_selects (args := #[]) (mvT hZ (w_ hw 52 rfl))) (w_ hw 52 rfl) (w_ hw 51 rfl) (w_ hw 53 rfl) (w_ hw 8 rfl) (by decide) rfl f377_0 (argsL := [(.ref b71)]) (rest := []) (rm_add_55 l Z a0 hw b2 b0_353 b1_353 b2_353 b71 w0_377 w93 kk4_353 b6 T377.heap n0 m50_v384 f377_0 m47_v381 f377_2 f377_3 f377_4 f377_5 f377_6 f377_7 f377_8 f377_9 m48_v382 m49_v383 f377_12 f377_13 f377_14 f377_15 ne_b2_b0_353 ne_b2_b1_353 ne_b2_b2_353 m40 f353_16 f353_17 f353_18 ne_b71_b0_353 ne_b71_b1_353 ne_b71_b2_353 m18 g_b0_353 g_b1_353 g_b2_353 m46) (by rw [hml]; rfl) (lenOf pd_5 rfl) rfl (hb hby at_201) (by decide) (by decide) (by decide) (by decide) ?_
            intro r388 T388 L388 q388 X388
            obtain ⟨w0_388, rfl, N388q, K388, f388_0, f388_1, f388_2, f388_3, f388_4, f388_5, f388_6, f388_7, f388_8, f388_9, f388_10, f388_11, f388_12, f388_13, f388_14, f388_15⟩ := q388
            have N388 := Fr.app N377 N388q
            have m9_v389 := m9_v378.keep K388 (ninS (Ne.symm m19) (ninS ne_b0_4_b0_353 (ninS ne_b0_4_b1_353 (ninS ne_b0_4_b2_353 (ninS m41 nin0)))))
            have m10_v390 := m10_v379.keep K388 (ninS (Ne.symm m21) (ninS ne_b1_4_b0_353 (ninS ne_b1_4_b1_353 (ninS ne_b1_4_b2_353 (ninS m42 nin0)))))
            have m11_v391 := m11_v380.keep K388 (ninS (Ne.symm m23) (ninS ne_b2_4_b0_353 (ninS ne_b2_4_b1_353 (ninS ne_b2_4_b2_353 (ninS m43 nin0)))))
            have m50_v392 := Nat.le_trans m50_v384 K388.1
            have f353_1_v393 := f353_1_v385.keep K388
            have f353_10_v394 := f353_10_v386.keep K388 (ninS (Ne.symm m29) (ninS ne_b6_b0_353 (ninS ne_b6_b1_353 (ninS ne_b6_b2_353 (ninS m44 nin0)))))
            have f353_11_v395 := f353_11_v387.keep K388 (ninS (Ne.symm m29) (ninS ne_b6_b0_353 (ninS ne_b6_b1_353 (ninS ne_b6_b2_353 (ninS m44 nin0)))))
            have f377_1_v396 := f377_1.keep K388
            have f377_10_v397 := f377_10.keep K388 (ninS (Ne.symm m34) (ninS ne_b35_b0_353 (ninS ne_b35_b1_353 (ninS ne_b35_b2_353 (ninS m45 nin0)))))
            have f377_11_v398 := f377_11.keep K388 (ninS (Ne.symm m34) (ninS ne_b35_b0_353 (ninS ne_b35_b1_353 (ninS ne_b35_b2_353 (ninS m45 nin0)))))
            show Go p e below _ T388 (mkF m 204 #[.val (.int x0), .val (.int x1), .val (.int x2), .val (.int x3), .val (.int x4), .val (.int (1 : Int32)), .val (.int (1 : Int32)), .val (.int (1 : Int32)), .val (.int u8_296), .val (.int (1 : Int32)), .val (.int u15_375), .val (.ref b2), .val (.ref b6), .val (.ref b35), .val (.ref b71), .val (.int u15_375), .unset] [])
            refine Go.s_iload X388 hx (hb hby at_204) (q := 206) rfl rfl ?_
            refine Go.s_ifNo X388 hx (hb hby at_206) (q := 209) rfl ((if0 _ _).trans (feq (by decide : ¬ ((1 : Int32) = (0 : Int32)))).1) ?_
            refine Go.s_iload X388 hx (hb hby at_209) (q := 211) rfl rfl ?_
            refine Go.s_ifNo X388 hx (hb hby at_211) (q := 214) rfl ((if0 _ _).trans (feq (by decide : ¬ ((1 : Int32) = (0 : Int32)))).1) ?_
            refine Go.s_iload X388 hx (hb hby at_214) (q := 216) rfl rfl ?_
            refine Go.s_iload X388 hx (hb hby at_216) (q := 218) rfl rfl ?_
            refine Go.s_icmpYes X388 hx (hb hby at_218) (q := 225) (by decide) (by decide) (teq (rfl : u15_375 = u15_375)).1 ?_
            refine Go.s_iconst X388 hx (hb hby at_225) (q := 226) rfl (z := 0) rfl ?_
            refine Go.s_istore X388 hx (hb hby at_226) (q := 228) rfl (l' := #[.val (.int x0), .val (.int x1), .val (.int x2), .val (.int x3), .val (.int x4), .val (.int (1 : Int32)), .val (.int (1 : Int32)), .val (.int (1 : Int32)), .val (.int u8_296), .val (.int (1 : Int32)), .val (.int u15_375), .val (.ref b2), .val (.ref b6), .val (.ref b35), .val (.ref b71), .val (.int u15_375), .val (.int (0 : Int32))]) rfl ?_
            refine Go.s_aload X388 hx (hb hby at_228) (q := 230) rfl rfl rfl ?_
            refine Go.s_aload X388 hx (hb hby at_230) (q := 232) rfl rfl rfl ?_
            refine Go.callV (y := mn_5) (z := mn_5) X388 hx hZ hown (w_ hw 40 rfl) (w_ hw 41 rfl) (notFace_of_selects (args := #[]) (mvT hZ (w_ hw 43 rfl))) (w_ hw 43 rfl) (w_ hw 42 rfl) (w_ hw 44 rfl) (w_ hw 8 rfl) (by decide) rfl f388_0 (argsL := [(.ref b6)]) (rest := []) (rm_holds_56 l Z a0 hw b2 b0_353 b1_353 b2_353 b6 b71 kk4_353 T388.heap n0 m50_v392 f388_8 f388_9 f353_11_v395 f388_11 f388_12 ne_b2_b0_353 ne_b2_b1_353 ne_b2_b2_353 m29 m40 f353_16 f353_17 f353_18 ne_b6_b0_353 ne_b6_b1_353 ne_b6_b2_353 m44 ne_b71_b0_353 ne_b71_b1_353 ne_b71_b2_353) (by rw [hml]; rfl) (lenOf pd_6 rfl) rfl (hb hby at_232) (by decide) (by decide) (by decide) (by decide) ?_
            intro r399 T399 L399 q399 X399
            obtain ⟨rfl, rfl, e399⟩ := q399
            rw [List.append_nil] at X399
            show Go p e below _ T399 (mkF m 235 #[.val (.int x0), .val (.int x1), .val (.int x2), .val (.int x3), .val (.int x4), .val (.int (1 : Int32)), .val (.int (1 : Int32)), .val (.int (1 : Int32)), .val (.int u8_296), .val (.int (1 : Int32)), .val (.int u15_375), .val (.ref b2), .val (.ref b6), .val (.ref b35), .val (.ref b71), .val (.int u15_375), .val (.int (0 : Int32))] [(.int (1 : Int32))])
            refine Go.s_iload X399 hx (hb hby at_235) (q := 237) rfl rfl ?_
            refine Go.s_icmpNo X399 hx (hb hby at_237) (q := 240) rfl (teq (by decide : (1 : Int32) = (1 : Int32))).2 ?_
            refine Go.s_aload X399 hx (hb hby at_240) (q := 242) rfl rfl rfl ?_
            refine Go.s_aload X399 hx (hb hby at_242) (q := 244) rfl rfl rfl ?_
            refine Go.callV (y := mn_5) (z := mn_5) X399 hx hZ hown (w_ hw 40 rfl) (w_ hw 41 rfl) (notFace_of_selects (args := #[]) (mvT hZ (w_ hw 43 rfl))) (w_ hw 43 rfl) (w_ hw 42 rfl) (w_ hw 44 rfl) (w_ hw 8 rfl) (by decide) e399 f388_0 (argsL := [(.ref b35)]) (rest := []) (rm_holds_57 l Z a0 hw b2 b0_353 b1_353 b2_353 b35 b6 b71 kk4_353 T388.heap n0 m50_v392 f388_8 f388_9 f377_11_v398 f353_11_v395 f388_11 f388_12 ne_b2_b0_353 ne_b2_b1_353 ne_b2_b2_353 m34 m29 m40 f353_16 f353_17 f353_18 ne_b35_b0_353 ne_b35_b1_353 ne_b35_b2_353 m45 ne_b6_b0_353 ne_b6_b1_353 ne_b6_b2_353 m38 m44 ne_b71_b0_353 ne_b71_b1_353 ne_b71_b2_353) (by rw [hml]; rfl) (lenOf pd_6 rfl) rfl (hb hby at_244) (by decide) (by decide) (by decide) (by decide) ?_
            intro r400 T400 L400 q400 X400
            obtain ⟨rfl, rfl, e400⟩ := q400
            rw [List.append_nil] at X400
            show Go p e below _ T400 (mkF m 247 #[.val (.int x0), .val (.int x1), .val (.int x2), .val (.int x3), .val (.int x4), .val (.int (1 : Int32)), .val (.int (1 : Int32)), .val (.int (1 : Int32)), .val (.int u8_296), .val (.int (1 : Int32)), .val (.int u15_375), .val (.ref b2), .val (.ref b6), .val (.ref b35), .val (.ref b71), .val (.int u15_375), .val (.int (0 : Int32))] [(.int (0 : Int32))])
            refine Go.s_iload X400 hx (hb hby at_247) (q := 249) rfl rfl ?_
            refine Go.s_icmpNo X400 hx (hb hby at_249) (q := 252) rfl (teq (by decide : (0 : Int32) = (0 : Int32))).2 ?_
            refine Go.s_aload X400 hx (hb hby at_252) (q := 254) rfl rfl rfl ?_
            refine Go.s_aload X400 hx (hb hby at_254) (q := 256) rfl rfl rfl ?_
            refine Go.callV (y := mn_5) (z := mn_5) X400 hx hZ hown (w_ hw 40 rfl) (w_ hw 41 rfl) (notFace_of_selects (args := #[]) (mvT hZ (w_ hw 43 rfl))) (w_ hw 43 rfl) (w_ hw 42 rfl) (w_ hw 44 rfl) (w_ hw 8 rfl) (by decide) e400 f388_0 (argsL := [(.ref b71)]) (rest := []) (rm_holds_58 l Z a0 hw b2 b0_353 b1_353 b2_353 b71 b6 kk4_353 T388.heap n0 m50_v392 f388_8 f388_9 f388_11 f353_11_v395 f388_12 ne_b2_b0_353 ne_b2_b1_353 ne_b2_b2_353 m29 m40 f353_16 f353_17 f353_18 ne_b71_b0_353 ne_b71_b1_353 ne_b71_b2_353 ne_b6_b0_353 ne_b6_b1_353 ne_b6_b2_353 m44) (by rw [hml]; rfl) (lenOf pd_6 rfl) rfl (hb hby at_256) (by decide) (by decide) (by decide) (by decide) ?_
            intro r401 T401 L401 q401 X401
            obtain ⟨rfl, rfl, e401⟩ := q401
            rw [List.append_nil] at X401
            show Go p e below _ T401 (mkF m 259 #[.val (.int x0), .val (.int x1), .val (.int x2), .val (.int x3), .val (.int x4), .val (.int (1 : Int32)), .val (.int (1 : Int32)), .val (.int (1 : Int32)), .val (.int u8_296), .val (.int (1 : Int32)), .val (.int u15_375), .val (.ref b2), .val (.ref b6), .val (.ref b35), .val (.ref b71), .val (.int u15_375), .val (.int (0 : Int32))] [(.int (1 : Int32))])
            refine Go.s_iload X401 hx (hb hby at_259) (q := 261) rfl rfl ?_
            refine Go.s_icmpNo X401 hx (hb hby at_261) (q := 264) rfl (teq (by decide : (1 : Int32) = (1 : Int32))).2 ?_
            refine Go.s_iconst X401 hx (hb hby at_264) (q := 265) rfl (z := 1) rfl ?_
            refine Go.s_goto X401 hx (hb hby at_265) (q := 269) (by decide) (by decide) ?_
            refine Go.retN X401 hx hlk hret (by simp) (hb hby at_269) (by decide) (by decide) ?_
            try rw [e401]
            exact ⟨by decide, N388⟩
          ·
            show Go p e below _ T364 (mkF m 178 #[.val (.int x0), .val (.int x1), .val (.int x2), .val (.int x3), .val (.int x4), .val (.int (1 : Int32)), .val (.int (1 : Int32)), .val (.int (1 : Int32)), .val (.int u8_296), .val (.int (1 : Int32)), .val (.int w1), .val (.ref b2), .val (.ref b6), .val (.ref b35), .val (.ref b71), .val (.int u15_375), .unset] [])
            refine Go.s_iload X364 hx (hb hby at_178) (q := 180) rfl rfl ?_
            refine Go.s_ifNo X364 hx (hb hby at_180) (q := 183) rfl ((if0 _ _).trans (feq (by decide : ¬ ((1 : Int32) = (0 : Int32)))).1) ?_
            refine Go.s_aload X364 hx (hb hby at_183) (q := 185) rfl rfl rfl ?_
            refine Go.s_aload X364 hx (hb hby at_185) (q := 187) rfl rfl rfl ?_
            refine Go.s_iload X364 hx (hb hby at_187) (q := 189) rfl rfl ?_
            refine Go.callV (y := mn_10) (z := mn_10) X364 hx hZ hown (w_ hw 74 rfl) (w_ hw 75 rfl) (notFace_of_selects (args := #[]) (mvT hZ (w_ hw 77 rfl))) (w_ hw 77 rfl) (w_ hw 76 rfl) (w_ hw 78 rfl) (w_ hw 8 rfl) (by decide) rfl f364_0 (argsL := [(.ref b35), (.int u15_375)]) (rest := []) (rm_take_54 l Z a0 hw b2 b0_353 b1_353 b2_353 b35 w0_364 w1 kk4_353 b6 u15_375 T364.heap n0 m50_v371 f364_0 f364_1 f364_2 f364_3 f364_4 f364_5 f364_6 f364_7 f364_8 f364_9 f364_10 f364_11 f364_12 f364_13 f364_14 f364_15 ne_b2_b0_353 ne_b2_b1_353 ne_b2_b2_353 m34 f353_16 f353_17 f353_18 ne_b35_b0_353 ne_b35_b1_353 ne_b35_b2_353 m18 g_b0_353 g_b1_353 g_b2_353 m39 (fun q => ck_376 (sub_zero q))) (by rw [hml]; rfl) (lenOf pd_7 rfl) rfl (hb hby at_189) (by decide) (by decide) (by decide) (by decide) ?_
            intro r402 T402 L402 q402 X402
            obtain ⟨w0_402, w1_402, rfl, N402q, K402, f402_0, f402_1, f402_2, f402_3, f402_4, f402_5, f402_6, f402_7, f402_8, f402_9, f402_10, f402_11, f402_12, f402_13⟩ := q402
            have N402 := Fr.app N364 N402q
            have m9_v403 := m9_v365.keep K402 (ninS (Ne.symm m19) (ninS ne_b0_4_b1_353 (ninS ne_b0_4_b2_353 (ninS m35 nin0))))
            have m10_v404 := m10_v366.keep K402 (ninS (Ne.symm m21) (ninS ne_b1_4_b1_353 (ninS ne_b1_4_b2_353 (ninS m36 nin0))))
            have m11_v405 := m11_v367.keep K402 (ninS (Ne.symm m23) (ninS ne_b2_4_b1_353 (ninS ne_b2_4_b2_353 (ninS m37 nin0))))
            have m47_v406 := m47_v368.keep K402
            have m48_v407 := m48_v369.keep K402 (ninS (Ne.symm m40) (ninS ne_b71_b1_353 (ninS ne_b71_b2_353 (ninS (Ne.symm m45) nin0))))
            have m49_v408 := m49_v370.keep K402 (ninS (Ne.symm m40) (ninS ne_b71_b1_353 (ninS ne_b71_b2_353 (ninS (Ne.symm m45) nin0))))
            have m50_v409 := Nat.le_trans m50_v371 K402.1
            have f353_1_v410 := f353_1_v372.keep K402
            have f353_10_v411 := f353_10_v373.keep K402 (ninS (Ne.symm m29) (ninS ne_b6_b1_353 (ninS ne_b6_b2_353 (ninS m38 nin0))))
            have f353_11_v412 := f353_11_v374.keep K402 (ninS (Ne.symm m29) (ninS ne_b6_b1_353 (ninS ne_b6_b2_353 (ninS m38 nin0))))
            have f364_12_v413 := f364_12.keep K402 (ninS (Ne.symm ne_b2_b0_353) (ninS (Ne.symm f353_16) (ninS (Ne.symm f353_18) (ninS (Ne.symm ne_b35_b0_353) nin0))))
            show Go p e below _ T402 (mkF m 192 #[.val (.int x0), .val (.int x1), .val (.int x2), .val (.int x3), .val (.int x4), .val (.int (1 : Int32)), .val (.int (1 : Int32)), .val (.int (1 : Int32)), .val (.int u8_296), .val (.int (1 : Int32)), .val (.int w1), .val (.ref b2), .val (.ref b6), .val (.ref b35), .val (.ref b71), .val (.int u15_375), .unset] [])
            refine Go.s_iload X402 hx (hb hby at_192) (q := 194) rfl rfl ?_
            refine Go.s_ifNo X402 hx (hb hby at_194) (q := 197) rfl ((if0 _ _).trans (feq (by decide : ¬ ((1 : Int32) = (0 : Int32)))).1) ?_
            refine Go.s_aload X402 hx (hb hby at_197) (q := 199) rfl rfl rfl ?_
            refine Go.s_aload X402 hx (hb hby at_199) (q := 201) rfl rfl rfl ?_
            refine Go.callV (y := mn_6) (z := mn_6) X402 hx hZ hown (w_ hw 49 rfl) (w_ hw 50 rfl) (notFace_of_selects (args := #[]) (mvT hZ (w_ hw 52 rfl))) (w_ hw 52 rfl) (w_ hw 51 rfl) (w_ hw 53 rfl) (w_ hw 8 rfl) (by decide) rfl f402_0 (argsL := [(.ref b71)]) (rest := []) (rm_add_43 l Z a0 hw b2 b0_353 b1_353 b2_353 b71 w0_402 w93 kk4_353 b6 b35 T402.heap n0 m50_v409 f402_0 m47_v406 f402_2 f402_3 f402_4 f402_5 f402_6 f402_7 f402_8 f402_9 m48_v407 m49_v408 f364_12_v413 f402_12 f402_13 f364_15 ne_b2_b0_353 ne_b2_b1_353 ne_b2_b2_353 m40 f353_16 f353_17 f353_18 ne_b71_b0_353 ne_b71_b1_353 ne_b71_b2_353 m18 g_b0_353 g_b1_353 g_b2_353 m46) (by rw [hml]; rfl) (lenOf pd_5 rfl) rfl (hb hby at_201) (by decide) (by decide) (by decide) (by decide) ?_
            intro r414 T414 L414 q414 X414
            obtain ⟨w0_414, rfl, N414q, K414, f414_0, f414_1, f414_2, f414_3, f414_4, f414_5, f414_6, f414_7, f414_8, f414_9, f414_10, f414_11, f414_12, f414_13, f414_14, f414_15⟩ := q414
            have N414 := Fr.app N402 N414q
            have m9_v415 := m9_v403.keep K414 (ninS (Ne.symm m19) (ninS ne_b0_4_b0_353 (ninS ne_b0_4_b1_353 (ninS ne_b0_4_b2_353 (ninS m41 nin0)))))
            have m10_v416 := m10_v404.keep K414 (ninS (Ne.symm m21) (ninS ne_b1_4_b0_353 (ninS ne_b1_4_b1_353 (ninS ne_b1_4_b2_353 (ninS m42 nin0)))))
            have m11_v417 := m11_v405.keep K414 (ninS (Ne.symm m23) (ninS ne_b2_4_b0_353 (ninS ne_b2_4_b1_353 (ninS ne_b2_4_b2_353 (ninS m43 nin0)))))
            have m50_v418 := Nat.le_trans m50_v409 K414.1
            have f353_1_v419 := f353_1_v410.keep K414
            have f353_10_v420 := f353_10_v411.keep K414 (ninS (Ne.symm m29) (ninS ne_b6_b0_353 (ninS ne_b6_b1_353 (ninS ne_b6_b2_353 (ninS m44 nin0)))))
            have f353_11_v421 := f353_11_v412.keep K414 (ninS (Ne.symm m29) (ninS ne_b6_b0_353 (ninS ne_b6_b1_353 (ninS ne_b6_b2_353 (ninS m44 nin0)))))
            have f402_1_v422 := f402_1.keep K414
            have f402_10_v423 := f402_10.keep K414 (ninS (Ne.symm m34) (ninS ne_b35_b0_353 (ninS ne_b35_b1_353 (ninS ne_b35_b2_353 (ninS m45 nin0)))))
            have f402_11_v424 := f402_11.keep K414 (ninS (Ne.symm m34) (ninS ne_b35_b0_353 (ninS ne_b35_b1_353 (ninS ne_b35_b2_353 (ninS m45 nin0)))))
            show Go p e below _ T414 (mkF m 204 #[.val (.int x0), .val (.int x1), .val (.int x2), .val (.int x3), .val (.int x4), .val (.int (1 : Int32)), .val (.int (1 : Int32)), .val (.int (1 : Int32)), .val (.int u8_296), .val (.int (1 : Int32)), .val (.int w1), .val (.ref b2), .val (.ref b6), .val (.ref b35), .val (.ref b71), .val (.int u15_375), .unset] [])
            refine Go.s_iload X414 hx (hb hby at_204) (q := 206) rfl rfl ?_
            refine Go.s_ifNo X414 hx (hb hby at_206) (q := 209) rfl ((if0 _ _).trans (feq (by decide : ¬ ((1 : Int32) = (0 : Int32)))).1) ?_
            refine Go.s_iload X414 hx (hb hby at_209) (q := 211) rfl rfl ?_
            refine Go.s_ifNo X414 hx (hb hby at_211) (q := 214) rfl ((if0 _ _).trans (feq (by decide : ¬ ((1 : Int32) = (0 : Int32)))).1) ?_
            refine Go.s_iload X414 hx (hb hby at_214) (q := 216) rfl rfl ?_
            refine Go.s_iload X414 hx (hb hby at_216) (q := 218) rfl rfl ?_
            refine Go.s_icmpNo X414 hx (hb hby at_218) (q := 221) rfl (feq ck_376).1 ?_
            refine Go.s_iconst X414 hx (hb hby at_221) (q := 222) rfl (z := 1) rfl ?_
            refine Go.s_goto X414 hx (hb hby at_222) (q := 226) (by decide) (by decide) ?_
            refine Go.s_istore X414 hx (hb hby at_226) (q := 228) rfl (l' := #[.val (.int x0), .val (.int x1), .val (.int x2), .val (.int x3), .val (.int x4), .val (.int (1 : Int32)), .val (.int (1 : Int32)), .val (.int (1 : Int32)), .val (.int u8_296), .val (.int (1 : Int32)), .val (.int w1), .val (.ref b2), .val (.ref b6), .val (.ref b35), .val (.ref b71), .val (.int u15_375), .val (.int (1 : Int32))]) rfl ?_
            refine Go.s_aload X414 hx (hb hby at_228) (q := 230) rfl rfl rfl ?_
            refine Go.s_aload X414 hx (hb hby at_230) (q := 232) rfl rfl rfl ?_
            refine Go.callV (y := mn_5) (z := mn_5) X414 hx hZ hown (w_ hw 40 rfl) (w_ hw 41 rfl) (notFace_of_selects (args := #[]) (mvT hZ (w_ hw 43 rfl))) (w_ hw 43 rfl) (w_ hw 42 rfl) (w_ hw 44 rfl) (w_ hw 8 rfl) (by decide) rfl f414_0 (argsL := [(.ref b6)]) (rest := []) (rm_holds_47 l Z a0 hw b2 b0_353 b1_353 b2_353 b6 b35 b71 kk4_353 T414.heap n0 m50_v418 f414_8 f414_9 f353_11_v421 f402_11_v424 f414_11 f414_12 ne_b2_b0_353 ne_b2_b1_353 ne_b2_b2_353 m34 m29 m40 f353_16 f353_17 f353_18 ne_b6_b0_353 ne_b6_b1_353 ne_b6_b2_353 m38 m44 ne_b35_b0_353 ne_b35_b1_353 ne_b35_b2_353 m45 ne_b71_b0_353 ne_b71_b1_353 ne_b71_b2_353) (by rw [hml]; rfl) (lenOf pd_6 rfl) rfl (hb hby at_232) (by decide) (by decide) (by decide) (by decide) ?_
            intro r425 T425 L425 q425 X425
            obtain ⟨rfl, rfl, e425⟩ := q425
            rw [List.append_nil] at X425
            show Go p e below _ T425 (mkF m 235 #[.val (.int x0), .val (.int x1), .val (.int x2), .val (.int x3), .val (.int x4), .val (.int (1 : Int32)), .val (.int (1 : Int32)), .val (.int (1 : Int32)), .val (.int u8_296), .val (.int (1 : Int32)), .val (.int w1), .val (.ref b2), .val (.ref b6), .val (.ref b35), .val (.ref b71), .val (.int u15_375), .val (.int (1 : Int32))] [(.int (1 : Int32))])
            refine Go.s_iload X425 hx (hb hby at_235) (q := 237) rfl rfl ?_
            refine Go.s_icmpNo X425 hx (hb hby at_237) (q := 240) rfl (teq (by decide : (1 : Int32) = (1 : Int32))).2 ?_
            refine Go.s_aload X425 hx (hb hby at_240) (q := 242) rfl rfl rfl ?_
            refine Go.s_aload X425 hx (hb hby at_242) (q := 244) rfl rfl rfl ?_
            refine Go.callV (y := mn_5) (z := mn_5) X425 hx hZ hown (w_ hw 40 rfl) (w_ hw 41 rfl) (notFace_of_selects (args := #[]) (mvT hZ (w_ hw 43 rfl))) (w_ hw 43 rfl) (w_ hw 42 rfl) (w_ hw 44 rfl) (w_ hw 8 rfl) (by decide) e425 f414_0 (argsL := [(.ref b35)]) (rest := []) (rm_holds_48 l Z a0 hw b2 b0_353 b1_353 b2_353 b35 b6 b71 kk4_353 T414.heap n0 m50_v418 f414_8 f414_9 f402_11_v424 f353_11_v421 f414_11 f414_12 ne_b2_b0_353 ne_b2_b1_353 ne_b2_b2_353 m34 m29 m40 f353_16 f353_17 f353_18 ne_b35_b0_353 ne_b35_b1_353 ne_b35_b2_353 m45 ne_b6_b0_353 ne_b6_b1_353 ne_b6_b2_353 m38 m44 ne_b71_b0_353 ne_b71_b1_353 ne_b71_b2_353) (by rw [hml]; rfl) (lenOf pd_6 rfl) rfl (hb hby at_244) (by decide) (by decide) (by decide) (by decide) ?_
            intro r426 T426 L426 q426 X426
            obtain ⟨rfl, rfl, e426⟩ := q426
            rw [List.append_nil] at X426
            show Go p e below _ T426 (mkF m 247 #[.val (.int x0), .val (.int x1), .val (.int x2), .val (.int x3), .val (.int x4), .val (.int (1 : Int32)), .val (.int (1 : Int32)), .val (.int (1 : Int32)), .val (.int u8_296), .val (.int (1 : Int32)), .val (.int w1), .val (.ref b2), .val (.ref b6), .val (.ref b35), .val (.ref b71), .val (.int u15_375), .val (.int (1 : Int32))] [(.int (1 : Int32))])
            refine Go.s_iload X426 hx (hb hby at_247) (q := 249) rfl rfl ?_
            refine Go.s_icmpNo X426 hx (hb hby at_249) (q := 252) rfl (teq (by decide : (1 : Int32) = (1 : Int32))).2 ?_
            refine Go.s_aload X426 hx (hb hby at_252) (q := 254) rfl rfl rfl ?_
            refine Go.s_aload X426 hx (hb hby at_254) (q := 256) rfl rfl rfl ?_
            refine Go.callV (y := mn_5) (z := mn_5) X426 hx hZ hown (w_ hw 40 rfl) (w_ hw 41 rfl) (notFace_of_selects (args := #[]) (mvT hZ (w_ hw 43 rfl))) (w_ hw 43 rfl) (w_ hw 42 rfl) (w_ hw 44 rfl) (w_ hw 8 rfl) (by decide) e426 f414_0 (argsL := [(.ref b71)]) (rest := []) (rm_holds_49 l Z a0 hw b2 b0_353 b1_353 b2_353 b71 b6 b35 kk4_353 T414.heap n0 m50_v418 f414_8 f414_9 f414_11 f353_11_v421 f402_11_v424 f414_12 ne_b2_b0_353 ne_b2_b1_353 ne_b2_b2_353 m34 m29 m40 f353_16 f353_17 f353_18 ne_b71_b0_353 ne_b71_b1_353 ne_b71_b2_353 ne_b6_b0_353 ne_b6_b1_353 ne_b6_b2_353 m38 m44 ne_b35_b0_353 ne_b35_b1_353 ne_b35_b2_353 m45) (by rw [hml]; rfl) (lenOf pd_6 rfl) rfl (hb hby at_256) (by decide) (by decide) (by decide) (by decide) ?_
            intro r427 T427 L427 q427 X427
            obtain ⟨rfl, rfl, e427⟩ := q427
            rw [List.append_nil] at X427
            show Go p e below _ T427 (mkF m 259 #[.val (.int x0), .val (.int x1), .val (.int x2), .val (.int x3), .val (.int x4), .val (.int (1 : Int32)), .val (.int (1 : Int32)), .val (.int (1 : Int32)), .val (.int u8_296), .val (.int (1 : Int32)), .val (.int w1), .val (.ref b2), .val (.ref b6), .val (.ref b35), .val (.ref b71), .val (.int u15_375), .val (.int (1 : Int32))] [(.int (1 : Int32))])
            refine Go.s_iload X427 hx (hb hby at_259) (q := 261) rfl rfl ?_
            refine Go.s_icmpNo X427 hx (hb hby at_261) (q := 264) rfl (teq (by decide : (1 : Int32) = (1 : Int32))).2 ?_
            refine Go.s_iconst X427 hx (hb hby at_264) (q := 265) rfl (z := 1) rfl ?_
            refine Go.s_goto X427 hx (hb hby at_265) (q := 269) (by decide) (by decide) ?_
            refine Go.retN X427 hx hlk hret (by simp) (hb hby at_269) (by decide) (by decide) ?_
            try rw [e427]
            exact ⟨by decide, N414⟩
set_option maxRecDepth 65536 in
set_option maxHeartbeats 40000000 in
theorem comes_1 {Post : Tables → Env → Array Value → State → Outcome → State → Prop} (hpost : ∀ tb e args s v u, (limb_1_1.after args s (.returned v) u = true ∧ limb_1_2.after args s (.returned v) u = true ∧ True) → FrameEnd s (.returned v) u (Jvm.fieldLocs frame_1_writes args s ++ Jvm.arrayLocs frame_1_arrays args s ++ Jvm.staticLocs frame_1_statics s) 32 128 → Post tb e args s (.returned v) u) :
    ArmFor flags0 classFile x code maxLocals ret World_1 tables_1 room_1 Calls_1 rest_1 Pre_1 Post := by
  intro l hfl _ _ p e ha hc hk s m args below hf hA hF happ hP
  obtain ⟨hcalls, hrest, hpre⟩ := hP
  obtain ⟨-, -, -, hnamed, -, -, -, hat⟩ := (Spec.applies_iff hf).mp happ
  obtain ⟨hg, hn⟩ := and_e (Cond.before_iff.mp (show (Jvm.Cond.and given_1 narrow_1).before args s = true from hpre))
  obtain ⟨hgl, hgr⟩ := and_e hg
  obtain ⟨hgrl, hgrr⟩ := and_e hgr
  obtain ⟨hgrrl, hgrrr⟩ := and_e hgrr
  obtain ⟨hgrrrl, hgrrrr⟩ := and_e hgrrr
  obtain ⟨hgrrrrl, hgrrrrr⟩ := and_e hgrrrr
  obtain ⟨w0, w1, w2, w3, w4, rfl⟩ : ∃ w0 w1 w2 w3 w4 : Value, args = #[w0, w1, w2, w3, w4] := by
    have hs : args.size = 5 := by simpa [Cond.value, given_1] using hgl
    obtain ⟨L⟩ := args
    match L, hs with
    | [w0, w1, w2, w3, w4], _ => exact ⟨w0, w1, w2, w3, w4, rfl⟩
  have hw := fun d (hd : d ∈ tables_1) => atoms_spec (ws := Jvm.Cond.code x code maxLocals ret :: tables_1) hat d (List.mem_cons_of_mem _ hd)
  obtain ⟨i0, ev0⟩ := is_v hgrl
  obtain rfl : w0 = (.int i0) := Option.some.inj ev0
  obtain ⟨i1, ev1⟩ := is_v hgrrl
  obtain rfl : w1 = (.int i1) := Option.some.inj ev1
  obtain ⟨i2, ev2⟩ := is_v hgrrrl
  obtain rfl : w2 = (.int i2) := Option.some.inj ev2
  obtain ⟨i3, ev3⟩ := is_v hgrrrrl
  obtain rfl : w3 = (.int i3) := Option.some.inj ev3
  obtain ⟨i4, ev4⟩ := is_v hgrrrrr
  obtain rfl : w4 = (.int i4) := Option.some.inj ev4
  obtain ⟨n, o, h1, h2, h3, _, L, rfl, ⟨rfl, N⟩, hq⟩ := rm_law l s _ hw i0 i1 i2 i3 i4 s.heap s.heap.size (Nat.le_refl _) tables_1 p e ha hc hk s m _ below hf ((Spec.applies_iff_loose hf).mp happ).1 ⟨rfl, State.Warmed39.refl s, rfl⟩ trivial
  refine ⟨n, _, h1, h2, h3, hpost _ _ _ _ _ _ ⟨Cond.after_iff.mpr rfl, Cond.after_iff.mpr (eq_i res_at (Term.int_eval (1)) rfl), trivial⟩ ⟨hq.1, hq.2.1, (hq.2.2.sift fun y hy => Or.inr (N y hy)).mono (by decide) (by decide)⟩⟩
theorem main_1_1 : Claimed_1_1 := comes_1 fun _ _ _ _ _ _ h hF => ⟨h.1, hF⟩
theorem main_1_2 : Claimed_1_2 := comes_1 fun _ _ _ _ _ _ h hF => ⟨h.2.1, hF⟩
end Jvm.Pilot.@@N@@
namespace Jvm.Pilot.@@N@@
open Jvm Jvm.ClassFile Sem Op Lib Jvm.Free Jvm.Stand Jvm.Pilot.@@N@@.Jvm.D
/-! MADE BY PROGRAM (witnessworld.py) out of the Statement's table words and the real class files: 14 classes; the members and pool entries that the words name. The judged class is class 1, her method 2. -/
namespace start1
open Jvm.ClassFile
def u (s : String) : CpInfo := .utf8 (stringToUtf16 s)
/-- a pool by its gaps: so many unusable entries, then the entry; so many at the end -/
def gap : Nat → List CpInfo → List CpInfo
  | 0, r => r
  | n + 1, r => .unusable :: gap n r
def poolList (es : List (Nat × CpInfo)) (last : Nat) : List CpInfo := es.foldr (fun e r => gap e.1 (e.2 :: r)) (gap last [])
def pool (es : List (Nat × CpInfo)) (last : Nat) : Array CpInfo := ⟨poolList es last⟩
def fileOf (pool : Array CpInfo) (this : Nat) (attrs : Array Attribute := #[]) (ms : Array MethodInfo := #[]) (fl : Nat := 33) (sup : Nat := 0) (ifs : Array Nat := #[]) (fds : Array FieldInfo := #[]) : ClassFile where
  minorVersion := 0
  majorVersion := 65
  constantPool := pool
  accessFlags := fl
  thisClass := this
  superClass := sup
  interfaces := ifs
  fields := fds
  methods := ms
  attributes := attrs
def plain (name : String) (sup : Option ClassId) : Class where
  name := name
  kind := .ordinary
  loader := none
  accessFlags := 33
  super := sup
  interfaces := #[]
  cf := none
  fields := #[]
  methods := #[]
  instanceTypes := #[]
  staticTypes := #[]
  resolved := #[]
  callSites := []
  init := .initialized
  statics := none
  mirror := none

def pool0 : Array CpInfo := pool [(5, u "<init>"), (0, u "()V"), (1, .class_ 10), (1, u "java/lang/Object")] 113

def k0c0 : Code := { maxStack := 0, maxLocals := 1, code := object_method_1_code, exceptionTable := #[], attributes := #[] }
def k0m0 : Method := { name := "<init>", desc := "()V", sig := { parameters := [], returnType := none }, accessFlags := 1, code := some k0c0 }
/-- java/lang/Object -/
def k0 : Class := { plain "java/lang/Object" none with
  accessFlags := 33
  interfaces := #[]
  cf := some (fileOf pool0 8 #[] #[{ accessFlags := 1, nameIndex := 5, descriptorIndex := 6, attributes := #[] }] 33 0 #[] #[])
  fields := #[]
  methods := #[k0m0]
  instanceTypes := #[]
  staticTypes := #[]
  resolved := Array.replicate 124 none
  statics := none }

def pool1 : Array CpInfo := pool [(2, .class_ 4), (0, .nameAndType 5 6), (0, u "java/lang/Object"), (0, u "<init>"), (0, u "()V"), (0, .integer 2147483647), (0, .integer 1000000), (0, .methodref 10 11), (0, .class_ 12), (0, .nameAndType 13 14), (0, u "com/example/pennybreak/pennybreak/simplebook/OrderQueueHoldsPinLaw"), (0, u "size"), (0, u "(I)I"), (0, .class_ 16), (0, u "com/example/pennybreak/pennybreak/simplebook/OrderQueue"), (0, .methodref 15 3), (0, .class_ 19), (0, u "com/example/pennybreak/pennybreak/simplebook/RestingOrder"), (0, .methodref 18 21), (0, .nameAndType 5 22), (0, u "(Lcom/example/pennybreak/pennybreak/simplebook/Order;JI)V"), (0, .long 2), (1, .methodref 15 26), (0, .nameAndType 27 28), (0, u "add"), (0, u "(Lcom/example/pennybreak/pennybreak/simplebook/RestingOrder;)V"), (0, .methodref 15 30), (0, .nameAndType 31 32), (0, u "take"), (0, u "(Lcom/example/pennybreak/pennybreak/simplebook/RestingOrder;I)V"), (0, .methodref 15 34), (0, .nameAndType 35 36), (0, u "holds"), (0, u "(Lcom/example/pennybreak/pennybreak/simplebook/RestingOrder;)Z"), (2, u "law"), (0, u "(IIIII)Z")] 3

def k1m0 : Method := { name := "<init>", desc := "()V", sig := { parameters := [], returnType := none }, accessFlags := 1, code := none }
def k1c1 : Code := { maxStack := 2, maxLocals := 1, code := method_2_code, exceptionTable := #[], attributes := #[] }
def k1m1 : Method := { name := "size", desc := "(I)I", sig := { parameters := [.int], returnType := some .int }, accessFlags := 10, code := some k1c1 }
def k1c2 : Code := { maxStack := 6, maxLocals := 17, code := code, exceptionTable := #[], attributes := #[] }
def k1m2 : Method := { name := "law", desc := "(IIIII)Z", sig := { parameters := [.int, .int, .int, .int, .int], returnType := some .boolean }, accessFlags := 9, code := some k1c2 }
/-- com/example/pennybreak/pennybreak/simplebook/OrderQueueHoldsPinLaw -/
def k1 : Class := { plain "com/example/pennybreak/pennybreak/simplebook/OrderQueueHoldsPinLaw" (some 0) with
  accessFlags := 49
  interfaces := #[]
  cf := some (fileOf pool1 10 #[] #[{ accessFlags := 1, nameIndex := 5, descriptorIndex := 6, attributes := #[] }, { accessFlags := 10, nameIndex := 13, descriptorIndex := 14, attributes := #[] }, { accessFlags := 9, nameIndex := 39, descriptorIndex := 40, attributes := #[] }] 49 2 #[] #[])
  fields := #[]
  methods := #[k1m0, k1m1, k1m2]
  instanceTypes := #[]
  staticTypes := #[]
  resolved := Array.replicate 44 none
  statics := none }

def pool2 : Array CpInfo := pool [(1, .class_ 2), (0, u "com/example/pennybreak/pennybreak/allocation/Claims"), (0, .class_ 4), (0, u "java/lang/Object"), (10, .class_ 16), (0, u "com/example/pennybreak/pennybreak/allocation/Claims$Claim")] 2

/-- com/example/pennybreak/pennybreak/allocation/Claims -/
def k2 : Class := { plain "com/example/pennybreak/pennybreak/allocation/Claims" (some 0) with
  accessFlags := 1537
  interfaces := #[]
  cf := some (fileOf pool2 1 #[.nestMembers #[15]] #[] 1537 3 #[] #[])
  fields := #[]
  methods := #[]
  instanceTypes := #[]
  staticTypes := #[]
  resolved := Array.replicate 19 none
  statics := none }

def pool3 : Array CpInfo := pool [(8, .class_ 10), (1, u "java/lang/Iterable"), (24, .class_ 36), (0, u "java/lang/Object")] 25

/-- java/lang/Iterable -/
def k3 : Class := { plain "java/lang/Iterable" (some 0) with
  accessFlags := 1537
  interfaces := #[]
  cf := some (fileOf pool3 8 #[] #[] 1537 35 #[] #[])
  fields := #[]
  methods := #[]
  instanceTypes := #[]
  staticTypes := #[]
  resolved := Array.replicate 62 none
  statics := none }

def pool4 : Array CpInfo := pool [(1, .methodref 2 3), (0, .class_ 4), (0, .nameAndType 5 6), (0, u "java/lang/Object"), (0, u "<init>"), (0, u "()V"), (0, .class_ 8), (0, u "com/example/pennybreak/pennybreak/simplebook/RestingOrder"), (0, .fieldref 10 11), (0, .class_ 12), (0, .nameAndType 13 14), (0, u "com/example/pennybreak/pennybreak/simplebook/OrderQueue"), (0, u "slots"), (0, u "[Lcom/example/pennybreak/pennybreak/simplebook/RestingOrder;"), (0, .fieldref 10 16), (0, .nameAndType 17 18), (0, u "sizes"), (0, u "[I"), (0, .fieldref 10 20), (0, .nameAndType 21 22), (0, u "blocks"), (0, u "I"), (0, .fieldref 10 24), (0, .nameAndType 25 18), (0, u "largest"), (0, .fieldref 10 27), (0, .nameAndType 28 22), (0, u "used"), (0, .methodref 10 30), (0, .nameAndType 31 6), (0, u "reslot"), (0, .fieldref 7 33), (0, .nameAndType 34 22), (0, u "slot"), (0, .fieldref 10 36), (0, .nameAndType 37 22), (0, u "count"), (0, .fieldref 10 39), (0, .nameAndType 40 41), (0, u "open"), (0, u "J"), (0, .fieldref 7 43), (0, .nameAndType 44 22), (0, u "openSize"), (0, .methodref 10 46), (0, .nameAndType 47 48), (0, u "set"), (0, u "(II)V"), (0, .fieldref 10 50), (0, .nameAndType 51 22), (0, u "front"), (16, u "add"), (5, .class_ 75), (0, u "com/example/pennybreak/pennybreak/simplebook/OrderQueue$1"), (3, .methodref 80 81), (0, .class_ 82), (0, .nameAndType 83 84), (0, u "java/lang/Math"), (0, u "max"), (0, u "(II)I"), (0, .methodref 80 86), (0, .nameAndType 87 84), (0, u "min"), (0, .methodref 10 89), (0, .nameAndType 90 91), (0, u "largestIn"), (0, u "(I)I"), (0, .class_ 93), (0, u "com/example/pennybreak/pennybreak/allocation/Claims"), (0, .class_ 95), (0, u "java/lang/Iterable"), (0, u "LEAST_SLOTS"), (2, u "BLOCK"), (1, u "BLOCK_BITS"), (3, u "(Lcom/example/pennybreak/pennybreak/simplebook/RestingOrder;)V"), (1, u "holds"), (0, u "(Lcom/example/pennybreak/pennybreak/simplebook/RestingOrder;)Z"), (0, u "take"), (0, u "(Lcom/example/pennybreak/pennybreak/simplebook/RestingOrder;I)V")] 18

def k4c0 : Code := { maxStack := 2, maxLocals := 1, code := prog_98_method_1_code, exceptionTable := #[], attributes := #[] }
def k4m0 : Method := { name := "<init>", desc := "()V", sig := { parameters := [], returnType := none }, accessFlags := 0, code := some k4c0 }
def k4c1 : Code := { maxStack := 5, maxLocals := 2, code := prog_98_method_2_code, exceptionTable := #[], attributes := #[] }
def k4m1 : Method := { name := "add", desc := "(Lcom/example/pennybreak/pennybreak/simplebook/RestingOrder;)V", sig := { parameters := [(.object "com/example/pennybreak/pennybreak/simplebook/RestingOrder")], returnType := none }, accessFlags := 0, code := some k4c1 }
def k4c2 : Code := { maxStack := 2, maxLocals := 2, code := prog_98_method_3_code, exceptionTable := #[], attributes := #[] }
def k4m2 : Method := { name := "holds", desc := "(Lcom/example/pennybreak/pennybreak/simplebook/RestingOrder;)Z", sig := { parameters := [(.object "com/example/pennybreak/pennybreak/simplebook/RestingOrder")], returnType := some .boolean }, accessFlags := 0, code := some k4c2 }
def k4c3 : Code := { maxStack := 5, maxLocals := 3, code := prog_98_method_4_code, exceptionTable := #[], attributes := #[] }
def k4m3 : Method := { name := "take", desc := "(Lcom/example/pennybreak/pennybreak/simplebook/RestingOrder;I)V", sig := { parameters := [(.object "com/example/pennybreak/pennybreak/simplebook/RestingOrder"), .int], returnType := none }, accessFlags := 0, code := some k4c3 }
def k4c4 : Code := { maxStack := 4, maxLocals := 6, code := prog_98_method_10_code, exceptionTable := #[], attributes := #[] }
def k4m4 : Method := { name := "set", desc := "(II)V", sig := { parameters := [.int, .int], returnType := none }, accessFlags := 2, code := some k4c4 }
def k4c5 : Code := { maxStack := 3, maxLocals := 5, code := prog_98_method_11_code, exceptionTable := #[], attributes := #[] }
def k4m5 : Method := { name := "largestIn", desc := "(I)I", sig := { parameters := [.int], returnType := some .int }, accessFlags := 2, code := some k4c5 }
def k4c6 : Code := { maxStack := 6, maxLocals := 7, code := prog_98_method_12_code, exceptionTable := #[], attributes := #[] }
def k4m6 : Method := { name := "reslot", desc := "()V", sig := { parameters := [], returnType := none }, accessFlags := 2, code := some k4c6 }
/-- com/example/pennybreak/pennybreak/simplebook/OrderQueue -/
def k4 : Class := { plain "com/example/pennybreak/pennybreak/simplebook/OrderQueue" (some 0) with
  accessFlags := 48
  interfaces := #[2, 3]
  cf := some (fileOf pool4 10 #[.nestMembers #[74]] #[{ accessFlags := 0, nameIndex := 5, descriptorIndex := 6, attributes := #[] }, { accessFlags := 0, nameIndex := 68, descriptorIndex := 105, attributes := #[] }, { accessFlags := 0, nameIndex := 107, descriptorIndex := 108, attributes := #[] }, { accessFlags := 0, nameIndex := 109, descriptorIndex := 110, attributes := #[] }, { accessFlags := 2, nameIndex := 47, descriptorIndex := 48, attributes := #[] }, { accessFlags := 2, nameIndex := 90, descriptorIndex := 91, attributes := #[] }, { accessFlags := 2, nameIndex := 31, descriptorIndex := 6, attributes := #[] }] 48 2 #[92, 94] #[{ accessFlags := 26, nameIndex := 96, descriptorIndex := 22, attributes := #[] }, { accessFlags := 26, nameIndex := 99, descriptorIndex := 22, attributes := #[] }, { accessFlags := 26, nameIndex := 101, descriptorIndex := 22, attributes := #[] }, { accessFlags := 2, nameIndex := 13, descriptorIndex := 14, attributes := #[] }, { accessFlags := 2, nameIndex := 17, descriptorIndex := 18, attributes := #[] }, { accessFlags := 2, nameIndex := 21, descriptorIndex := 22, attributes := #[] }, { accessFlags := 2, nameIndex := 25, descriptorIndex := 18, attributes := #[] }, { accessFlags := 2, nameIndex := 28, descriptorIndex := 22, attributes := #[] }, { accessFlags := 2, nameIndex := 51, descriptorIndex := 22, attributes := #[] }, { accessFlags := 2, nameIndex := 37, descriptorIndex := 22, attributes := #[] }, { accessFlags := 2, nameIndex := 40, descriptorIndex := 41, attributes := #[] }])
  fields := #[{ name := "LEAST_SLOTS", type := .int, accessFlags := 26, slot := 0, constantValue := 0 }, { name := "BLOCK", type := .int, accessFlags := 26, slot := 1, constantValue := 0 }, { name := "BLOCK_BITS", type := .int, accessFlags := 26, slot := 2, constantValue := 0 }, { name := "slots", type := (.array (.object "com/example/pennybreak/pennybreak/simplebook/RestingOrder")), accessFlags := 2, slot := 0, constantValue := 0 }, { name := "sizes", type := (.array .int), accessFlags := 2, slot := 1, constantValue := 0 }, { name := "blocks", type := .int, accessFlags := 2, slot := 2, constantValue := 0 }, { name := "largest", type := (.array .int), accessFlags := 2, slot := 3, constantValue := 0 }, { name := "used", type := .int, accessFlags := 2, slot := 4, constantValue := 0 }, { name := "front", type := .int, accessFlags := 2, slot := 5, constantValue := 0 }, { name := "count", type := .int, accessFlags := 2, slot := 6, constantValue := 0 }, { name := "open", type := .long, accessFlags := 2, slot := 7, constantValue := 0 }]
  methods := #[k4m0, k4m1, k4m2, k4m3, k4m4, k4m5, k4m6]
  instanceTypes := #[(.array (.object "com/example/pennybreak/pennybreak/simplebook/RestingOrder")), (.array .int), .int, (.array .int), .int, .int, .int, .long]
  staticTypes := #[.int, .int, .int]
  resolved := Array.replicate 129 none
  statics := none }

def pool5 : Array CpInfo := pool [(1, .methodref 2 3), (0, .class_ 4), (0, .nameAndType 5 6), (0, u "java/lang/Object"), (0, u "<init>"), (0, u "()V"), (0, .fieldref 8 9), (0, .class_ 10), (0, .nameAndType 11 12), (0, u "com/example/pennybreak/pennybreak/simplebook/RestingOrder"), (0, u "order"), (0, u "Lcom/example/pennybreak/pennybreak/simplebook/Order;"), (0, .fieldref 8 14), (0, .nameAndType 15 16), (0, u "entry"), (0, u "J"), (0, .fieldref 8 18), (0, .nameAndType 19 20), (0, u "openSize"), (0, u "I"), (0, u "slot"), (0, u "(Lcom/example/pennybreak/pennybreak/simplebook/Order;JI)V")] 7

def k5c0 : Code := { maxStack := 3, maxLocals := 5, code := prog_105_method_1_code, exceptionTable := #[], attributes := #[] }
def k5m0 : Method := { name := "<init>", desc := "(Lcom/example/pennybreak/pennybreak/simplebook/Order;JI)V", sig := { parameters := [(.object "com/example/pennybreak/pennybreak/simplebook/Order"), .long, .int], returnType := none }, accessFlags := 0, code := some k5c0 }
/-- com/example/pennybreak/pennybreak/simplebook/RestingOrder -/
def k5 : Class := { plain "com/example/pennybreak/pennybreak/simplebook/RestingOrder" (some 0) with
  accessFlags := 49
  interfaces := #[]
  cf := some (fileOf pool5 8 #[] #[{ accessFlags := 0, nameIndex := 5, descriptorIndex := 22, attributes := #[] }] 49 2 #[] #[{ accessFlags := 18, nameIndex := 11, descriptorIndex := 12, attributes := #[] }, { accessFlags := 18, nameIndex := 15, descriptorIndex := 16, attributes := #[] }, { accessFlags := 0, nameIndex := 19, descriptorIndex := 20, attributes := #[] }, { accessFlags := 0, nameIndex := 21, descriptorIndex := 20, attributes := #[] }])
  fields := #[{ name := "order", type := (.object "com/example/pennybreak/pennybreak/simplebook/Order"), accessFlags := 18, slot := 0, constantValue := 0 }, { name := "entry", type := .long, accessFlags := 18, slot := 1, constantValue := 0 }, { name := "openSize", type := .int, accessFlags := 0, slot := 2, constantValue := 0 }, { name := "slot", type := .int, accessFlags := 0, slot := 3, constantValue := 0 }]
  methods := #[k5m0]
  instanceTypes := #[(.object "com/example/pennybreak/pennybreak/simplebook/Order"), .long, .int, .int]
  staticTypes := #[]
  resolved := Array.replicate 30 none
  statics := none }

def pool6 : Array CpInfo := pool [(1, .class_ 2), (0, u "java/lang/Math"), (1, .class_ 6), (1, u "java/lang/Object"), (0, u "<init>"), (0, u "()V"), (89, .class_ 100), (1, u "java/lang/Math$RandomNumberGeneratorHolder"), (71, u "negativeZeroFloatBits"), (0, u "J"), (2, u "negativeZeroDoubleBits"), (21, u "max"), (2, u "min"), (43, u "$assertionsDisabled"), (0, u "Z"), (88, u "(II)I"), (2, u "twoToTheDoubleScaleDown"), (0, u "D"), (4, u "twoToTheDoubleScaleUp"), (9, u "E"), (3, u "PI"), (2, u "TAU"), (2, u "DEGREES_TO_RADIANS"), (0, u "RADIANS_TO_DEGREES")] 94

def k6m0 : Method := { name := "<init>", desc := "()V", sig := { parameters := [], returnType := none }, accessFlags := 2, code := none }
def k6c1 : Code := { maxStack := 2, maxLocals := 2, code := jdk_29_method_65_code, exceptionTable := #[], attributes := #[] }
def k6m1 : Method := { name := "max", desc := "(II)I", sig := { parameters := [.int, .int], returnType := some .int }, accessFlags := 9, code := some k6c1 }
def k6c2 : Code := { maxStack := 2, maxLocals := 2, code := jdk_29_method_69_code, exceptionTable := #[], attributes := #[] }
def k6m2 : Method := { name := "min", desc := "(II)I", sig := { parameters := [.int, .int], returnType := some .int }, accessFlags := 9, code := some k6c2 }
/-- java/lang/Math -/
def k6 : Class := { plain "java/lang/Math" (some 0) with
  accessFlags := 49
  interfaces := #[]
  cf := some (fileOf pool6 1 #[.nestMembers #[98]] #[{ accessFlags := 2, nameIndex := 7, descriptorIndex := 8, attributes := #[] }, { accessFlags := 9, nameIndex := 198, descriptorIndex := 335, attributes := #[] }, { accessFlags := 9, nameIndex := 201, descriptorIndex := 335, attributes := #[] }] 49 4 #[] #[{ accessFlags := 25, nameIndex := 354, descriptorIndex := 339, attributes := #[] }, { accessFlags := 25, nameIndex := 358, descriptorIndex := 339, attributes := #[] }, { accessFlags := 25, nameIndex := 361, descriptorIndex := 339, attributes := #[] }, { accessFlags := 26, nameIndex := 364, descriptorIndex := 339, attributes := #[] }, { accessFlags := 26, nameIndex := 365, descriptorIndex := 339, attributes := #[] }, { accessFlags := 26, nameIndex := 172, descriptorIndex := 173, attributes := #[] }, { accessFlags := 26, nameIndex := 176, descriptorIndex := 173, attributes := #[] }, { accessFlags := 8, nameIndex := 344, descriptorIndex := 339, attributes := #[] }, { accessFlags := 8, nameIndex := 338, descriptorIndex := 339, attributes := #[] }, { accessFlags := 4120, nameIndex := 245, descriptorIndex := 246, attributes := #[] }])
  fields := #[{ name := "E", type := .double, accessFlags := 25, slot := 0, constantValue := 0 }, { name := "PI", type := .double, accessFlags := 25, slot := 1, constantValue := 0 }, { name := "TAU", type := .double, accessFlags := 25, slot := 2, constantValue := 0 }, { name := "DEGREES_TO_RADIANS", type := .double, accessFlags := 26, slot := 3, constantValue := 0 }, { name := "RADIANS_TO_DEGREES", type := .double, accessFlags := 26, slot := 4, constantValue := 0 }, { name := "negativeZeroFloatBits", type := .long, accessFlags := 26, slot := 5, constantValue := 0 }, { name := "negativeZeroDoubleBits", type := .long, accessFlags := 26, slot := 6, constantValue := 0 }, { name := "twoToTheDoubleScaleUp", type := .double, accessFlags := 8, slot := 7, constantValue := 0 }, { name := "twoToTheDoubleScaleDown", type := .double, accessFlags := 8, slot := 8, constantValue := 0 }, { name := "$assertionsDisabled", type := .boolean, accessFlags := 4120, slot := 9, constantValue := 0 }]
  methods := #[k6m0, k6m1, k6m2]
  instanceTypes := #[]
  staticTypes := #[.double, .double, .double, .double, .double, .long, .long, .double, .double, .boolean]
  resolved := Array.replicate 460 none
  statics := none }

def pool7 : Array CpInfo := pool [(1, u "java/lang/Cloneable"), (0, .class_ 1), (0, u "java/lang/Object"), (0, .class_ 3)] 3

/-- java/lang/Cloneable -/
def k7 : Class := { plain "java/lang/Cloneable" (some 0) with
  accessFlags := 1537
  interfaces := #[]
  cf := some (fileOf pool7 2 #[] #[] 1537 4 #[] #[])
  fields := #[]
  methods := #[]
  instanceTypes := #[]
  staticTypes := #[]
  resolved := Array.replicate 8 none
  statics := none }

def pool8 : Array CpInfo := pool [(1, u "java/io/Serializable"), (0, .class_ 1), (0, u "java/lang/Object"), (0, .class_ 3)] 3

/-- java/io/Serializable -/
def k8 : Class := { plain "java/io/Serializable" (some 0) with
  accessFlags := 1537
  interfaces := #[]
  cf := some (fileOf pool8 2 #[] #[] 1537 4 #[] #[])
  fields := #[]
  methods := #[]
  instanceTypes := #[]
  staticTypes := #[]
  resolved := Array.replicate 8 none
  statics := none }

/-- the primitive byte -/
def k9 : Class := { plain "byte" none with kind := .primitive 'B', accessFlags := 0x411 }
/-- [B -/
def k10 : Class := { plain "[B" (some 0) with kind := .array 9 .byte, interfaces := #[7, 8], accessFlags := 1041 }

/-- the primitive int -/
def k11 : Class := { plain "int" none with kind := .primitive 'I', accessFlags := 0x411 }
/-- [I -/
def k12 : Class := { plain "[I" (some 0) with kind := .array 11 .int, interfaces := #[7, 8], accessFlags := 1041 }

/-- [Lcom/example/pennybreak/pennybreak/simplebook/RestingOrder; -/
def k13 : Class := { plain "[Lcom/example/pennybreak/pennybreak/simplebook/RestingOrder;" (some 0) with kind := .array 5 (.object "com/example/pennybreak/pennybreak/simplebook/RestingOrder"), interfaces := #[7, 8], accessFlags := 1041 }

def heap : Heap := #[]
def classes : Array Class := #[k0, k1, k2, k3, k4, k5, k6, k7, k8, k9, k10, k11, k12, k13]
def interned : List (Array UInt16 × Addr) := []
def slotsUsed : Nat := 0
def theMethod : MethodId := ⟨1, 2⟩
def args0 : Array Value := #[.int 5, .int 3, .int 2, .int 1, .int 4]
def aboutOver (below : List Frame) : State where
  vm := { classes := classes, interned := interned.toArray }
  heap := heap
  slotsUsed := slotsUsed
  threads := #[{ frames := .invoking theMethod args0 :: below }]
def below0 : List Frame := [.native { method := ⟨0, 0⟩, args := #[] }]
def about1 : State := aboutOver below0
def p0 : Program := .bare "" "" ""
def e0 : Env := launch0.env 0 0 0
theorem w_frames : about1.frames = Frame.invoking theMethod args0 :: below0 := rfl
set_option maxRecDepth 65536 in
theorem w_args : argsFit about1.vm theMethod args0 = true := by decide +kernel
set_option maxRecDepth 65536 in
theorem w_heap : heapFits about1 = true := by decide +kernel
set_option maxRecDepth 65536 in
theorem w_runnable : about1.curStatus? = some .runnable := by decide +kernel
set_option maxRecDepth 65536 in
theorem w_alone : about1.alone = true := by decide +kernel
set_option maxRecDepth 65536 in
theorem w_named : about1.methodNamed? x = some theMethod := by decide +kernel
set_option maxRecDepth 65536 in
theorem w_hears : about1.hears theMethod below0 = true := by decide +kernel
set_option maxRecDepth 65536 in
theorem w_ripe : about1.ripe theMethod args0 below0 = true := by decide +kernel
theorem w_running : about1.status = .running := rfl
set_option maxRecDepth 65536 in
theorem w_room : about1.hasRoom e0.platform room_1 = true :=
  launch0.hasRoom_least _ room_1 (by decide +kernel) (by decide +kernel) (by decide +kernel) (by decide +kernel) (by decide +kernel) (by decide +kernel)
theorem allAtoms_all (ts : List Jvm.Cond) (a : Array Jvm.Value) (st : Jvm.State) : (allAtoms ts).before a st = ts.all (fun c => c.before a st) := by
  induction ts with
  | nil => rfl
  | cons c t ih =>
    show (Jvm.Cond.and c (allAtoms t)).before a st = _
    rw [Jvm.Cond.before_and, ih, List.all_cons]
def words1 : List Jvm.Cond := Jvm.Cond.code x code maxLocals ret :: tables_1
/-- a 'code' word, met by the world's own term for the bytes: nothing is compared byte by byte -/
theorem code_word {y : MethodName} {bytes : ByteArray} {mx : Nat} {rt : Option FieldType} {a : Array Value} {s : State} {m : MethodId} {meth : Method} {c : Code} (h1 : s.methodNamed? y = some m) (h2 : s.vm.method? m = some meth) (h3 : meth.code = some c) (h4 : c.code = bytes)
    (h5 : (c.maxLocals == mx && c.exceptionTable.isEmpty && decide (c.maxStack ≤ mostOperands) && decide (meth.sig.returnType = rt) && !meth.locks && decide (parseMethodDescriptor y.desc = some meth.sig)) = true) : (Jvm.Cond.code y bytes mx rt).before a s = true := by
  simp only [Bool.and_eq_true, beq_iff_eq, Bool.not_eq_true', decide_eq_true_eq] at h5
  obtain ⟨⟨⟨⟨⟨g1, g2⟩, g3⟩, g4⟩, g5⟩, g6⟩ := h5
  simp [Cond.before, Cond.holds, Cond.value, h1, h2, h3, h4, g1, g2, g3, g4, g5, g6]
def isCode : Jvm.Cond → Bool
  | .code _ _ _ _ => true
  | _ => false
theorem all_split {L : List Jvm.Cond} {P : Jvm.Cond → Bool} (h1 : L.all (fun c => isCode c || P c) = true) (h2 : ∀ c ∈ L.filter isCode, P c = true) : L.all P = true := by
  refine List.all_eq_true.mpr fun c hc => ?_
  have h := List.all_eq_true.mp h1 c hc
  rcases Bool.eq_false_or_eq_true (isCode c) with hi | hi
  · exact h2 c (List.mem_filter.mpr ⟨hc, hi⟩)
  · simpa [hi] using h
set_option maxRecDepth 65536 in
theorem w_c0 : (Jvm.Cond.code x code maxLocals ret).before args0 about1 = true := code_word (m := ⟨1, 2⟩) (meth := k1m2) (c := k1c2) (by decide +kernel) rfl rfl rfl (by decide +kernel)
set_option maxRecDepth 65536 in
theorem w_c1 : (Jvm.Cond.code ({ cls := "com/example/pennybreak/pennybreak/simplebook/OrderQueueHoldsPinLaw", name := "size", desc := "(I)I" } : Jvm.MethodName) method_2_code (1 : Nat) (Option.some Jvm.ClassFile.FieldType.int)).before args0 about1 = true := code_word (m := ⟨1, 1⟩) (meth := k1m1) (c := k1c1) (by decide +kernel) rfl rfl rfl (by decide +kernel)
set_option maxRecDepth 65536 in
theorem w_c2 : (Jvm.Cond.code ({ cls := "com/example/pennybreak/pennybreak/simplebook/OrderQueue", name := "<init>", desc := "()V" } : Jvm.MethodName) prog_98_method_1_code (1 : Nat) (Option.none : Option Jvm.ClassFile.FieldType)).before args0 about1 = true := code_word (m := ⟨4, 0⟩) (meth := k4m0) (c := k4c0) (by decide +kernel) rfl rfl rfl (by decide +kernel)
set_option maxRecDepth 65536 in
theorem w_c3 : (Jvm.Cond.code ({ cls := "java/lang/Object", name := "<init>", desc := "()V" } : Jvm.MethodName) object_method_1_code (1 : Nat) (Option.none : Option Jvm.ClassFile.FieldType)).before args0 about1 = true := code_word (m := ⟨0, 0⟩) (meth := k0m0) (c := k0c0) (by decide +kernel) rfl rfl rfl (by decide +kernel)
set_option maxRecDepth 65536 in
theorem w_c4 : (Jvm.Cond.code ({ cls := "com/example/pennybreak/pennybreak/simplebook/RestingOrder", name := "<init>", desc := "(Lcom/example/pennybreak/pennybreak/simplebook/Order;JI)V" } : Jvm.MethodName) prog_105_method_1_code (5 : Nat) (Option.none : Option Jvm.ClassFile.FieldType)).before args0 about1 = true := code_word (m := ⟨5, 0⟩) (meth := k5m0) (c := k5c0) (by decide +kernel) rfl rfl rfl (by decide +kernel)
set_option maxRecDepth 65536 in
theorem w_c5 : (Jvm.Cond.code ({ cls := "com/example/pennybreak/pennybreak/simplebook/OrderQueue", name := "holds", desc := "(Lcom/example/pennybreak/pennybreak/simplebook/RestingOrder;)Z" } : Jvm.MethodName) prog_98_method_3_code (2 : Nat) (Option.some Jvm.ClassFile.FieldType.boolean)).before args0 about1 = true := code_word (m := ⟨4, 2⟩) (meth := k4m2) (c := k4c2) (by decide +kernel) rfl rfl rfl (by decide +kernel)
set_option maxRecDepth 65536 in
theorem w_c6 : (Jvm.Cond.code ({ cls := "com/example/pennybreak/pennybreak/simplebook/OrderQueue", name := "add", desc := "(Lcom/example/pennybreak/pennybreak/simplebook/RestingOrder;)V" } : Jvm.MethodName) prog_98_method_2_code (2 : Nat) (Option.none : Option Jvm.ClassFile.FieldType)).before args0 about1 = true := code_word (m := ⟨4, 1⟩) (meth := k4m1) (c := k4c1) (by decide +kernel) rfl rfl rfl (by decide +kernel)
set_option maxRecDepth 65536 in
theorem w_c7 : (Jvm.Cond.code ({ cls := "com/example/pennybreak/pennybreak/simplebook/OrderQueue", name := "reslot", desc := "()V" } : Jvm.MethodName) prog_98_method_12_code (7 : Nat) (Option.none : Option Jvm.ClassFile.FieldType)).before args0 about1 = true := code_word (m := ⟨4, 6⟩) (meth := k4m6) (c := k4c6) (by decide +kernel) rfl rfl rfl (by decide +kernel)
set_option maxRecDepth 65536 in
theorem w_c8 : (Jvm.Cond.code ({ cls := "java/lang/Math", name := "max", desc := "(II)I" } : Jvm.MethodName) jdk_29_method_65_code (2 : Nat) (Option.some Jvm.ClassFile.FieldType.int)).before args0 about1 = true := code_word (m := ⟨6, 1⟩) (meth := k6m1) (c := k6c1) (by decide +kernel) rfl rfl rfl (by decide +kernel)
set_option maxRecDepth 65536 in
theorem w_c9 : (Jvm.Cond.code ({ cls := "com/example/pennybreak/pennybreak/simplebook/OrderQueue", name := "set", desc := "(II)V" } : Jvm.MethodName) prog_98_method_10_code (6 : Nat) (Option.none : Option Jvm.ClassFile.FieldType)).before args0 about1 = true := code_word (m := ⟨4, 4⟩) (meth := k4m4) (c := k4c4) (by decide +kernel) rfl rfl rfl (by decide +kernel)
set_option maxRecDepth 65536 in
theorem w_c10 : (Jvm.Cond.code ({ cls := "com/example/pennybreak/pennybreak/simplebook/OrderQueue", name := "take", desc := "(Lcom/example/pennybreak/pennybreak/simplebook/RestingOrder;I)V" } : Jvm.MethodName) prog_98_method_4_code (3 : Nat) (Option.none : Option Jvm.ClassFile.FieldType)).before args0 about1 = true := code_word (m := ⟨4, 3⟩) (meth := k4m3) (c := k4c3) (by decide +kernel) rfl rfl rfl (by decide +kernel)
set_option maxRecDepth 65536 in
theorem w_c11 : (Jvm.Cond.code ({ cls := "com/example/pennybreak/pennybreak/simplebook/OrderQueue", name := "largestIn", desc := "(I)I" } : Jvm.MethodName) prog_98_method_11_code (5 : Nat) (Option.some Jvm.ClassFile.FieldType.int)).before args0 about1 = true := code_word (m := ⟨4, 5⟩) (meth := k4m5) (c := k4c5) (by decide +kernel) rfl rfl rfl (by decide +kernel)
set_option maxRecDepth 65536 in
theorem w_c12 : (Jvm.Cond.code ({ cls := "java/lang/Math", name := "min", desc := "(II)I" } : Jvm.MethodName) jdk_29_method_69_code (2 : Nat) (Option.some Jvm.ClassFile.FieldType.int)).before args0 about1 = true := code_word (m := ⟨6, 2⟩) (meth := k6m2) (c := k6c2) (by decide +kernel) rfl rfl rfl (by decide +kernel)
def codes1 : List Jvm.Cond := [Jvm.Cond.code x code maxLocals ret, Jvm.Cond.code ({ cls := "com/example/pennybreak/pennybreak/simplebook/OrderQueueHoldsPinLaw", name := "size", desc := "(I)I" } : Jvm.MethodName) method_2_code (1 : Nat) (Option.some Jvm.ClassFile.FieldType.int), Jvm.Cond.code ({ cls := "com/example/pennybreak/pennybreak/simplebook/OrderQueue", name := "<init>", desc := "()V" } : Jvm.MethodName) prog_98_method_1_code (1 : Nat) (Option.none : Option Jvm.ClassFile.FieldType), Jvm.Cond.code ({ cls := "java/lang/Object", name := "<init>", desc := "()V" } : Jvm.MethodName) object_method_1_code (1 : Nat) (Option.none : Option Jvm.ClassFile.FieldType), Jvm.Cond.code ({ cls := "com/example/pennybreak/pennybreak/simplebook/RestingOrder", name := "<init>", desc := "(Lcom/example/pennybreak/pennybreak/simplebook/Order;JI)V" } : Jvm.MethodName) prog_105_method_1_code (5 : Nat) (Option.none : Option Jvm.ClassFile.FieldType), Jvm.Cond.code ({ cls := "com/example/pennybreak/pennybreak/simplebook/OrderQueue", name := "holds", desc := "(Lcom/example/pennybreak/pennybreak/simplebook/RestingOrder;)Z" } : Jvm.MethodName) prog_98_method_3_code (2 : Nat) (Option.some Jvm.ClassFile.FieldType.boolean), Jvm.Cond.code ({ cls := "com/example/pennybreak/pennybreak/simplebook/OrderQueue", name := "add", desc := "(Lcom/example/pennybreak/pennybreak/simplebook/RestingOrder;)V" } : Jvm.MethodName) prog_98_method_2_code (2 : Nat) (Option.none : Option Jvm.ClassFile.FieldType), Jvm.Cond.code ({ cls := "com/example/pennybreak/pennybreak/simplebook/OrderQueue", name := "reslot", desc := "()V" } : Jvm.MethodName) prog_98_method_12_code (7 : Nat) (Option.none : Option Jvm.ClassFile.FieldType), Jvm.Cond.code ({ cls := "java/lang/Math", name := "max", desc := "(II)I" } : Jvm.MethodName) jdk_29_method_65_code (2 : Nat) (Option.some Jvm.ClassFile.FieldType.int), Jvm.Cond.code ({ cls := "com/example/pennybreak/pennybreak/simplebook/OrderQueue", name := "set", desc := "(II)V" } : Jvm.MethodName) prog_98_method_10_code (6 : Nat) (Option.none : Option Jvm.ClassFile.FieldType), Jvm.Cond.code ({ cls := "com/example/pennybreak/pennybreak/simplebook/OrderQueue", name := "take", desc := "(Lcom/example/pennybreak/pennybreak/simplebook/RestingOrder;I)V" } : Jvm.MethodName) prog_98_method_4_code (3 : Nat) (Option.none : Option Jvm.ClassFile.FieldType), Jvm.Cond.code ({ cls := "com/example/pennybreak/pennybreak/simplebook/OrderQueue", name := "largestIn", desc := "(I)I" } : Jvm.MethodName) prog_98_method_11_code (5 : Nat) (Option.some Jvm.ClassFile.FieldType.int), Jvm.Cond.code ({ cls := "java/lang/Math", name := "min", desc := "(II)I" } : Jvm.MethodName) jdk_29_method_69_code (2 : Nat) (Option.some Jvm.ClassFile.FieldType.int)]
set_option maxRecDepth 65536 in
theorem codes_eq : words1.filter isCode = codes1 := rfl
theorem w_codes : ∀ c ∈ words1.filter isCode, c.before args0 about1 = true := by
  rw [codes_eq]
  intro c hc
  simp only [codes1, List.mem_cons, List.not_mem_nil, or_false] at hc
  rcases hc with rfl | rfl | rfl | rfl | rfl | rfl | rfl | rfl | rfl | rfl | rfl | rfl | rfl
  · exact w_c0
  · exact w_c1
  · exact w_c2
  · exact w_c3
  · exact w_c4
  · exact w_c5
  · exact w_c6
  · exact w_c7
  · exact w_c8
  · exact w_c9
  · exact w_c10
  · exact w_c11
  · exact w_c12
set_option maxRecDepth 65536 in
theorem w_t1 : (words1.take 24).all (fun c => isCode c || c.before args0 about1) = true := by decide +kernel
set_option maxRecDepth 65536 in
theorem w_t2 : ((words1.drop 24).take 24).all (fun c => isCode c || c.before args0 about1) = true := by decide +kernel
set_option maxRecDepth 65536 in
theorem w_t3 : (((words1.drop 24).drop 24).take 24).all (fun c => isCode c || c.before args0 about1) = true := by decide +kernel
set_option maxRecDepth 65536 in
theorem w_t4 : (((words1.drop 24).drop 24).drop 24).all (fun c => isCode c || c.before args0 about1) = true := by decide +kernel
theorem w_tables : (allAtoms (Jvm.Cond.code x code maxLocals ret :: tables_1)).before args0 about1 = true := by
  rw [allAtoms_all]
  show words1.all (fun c => c.before args0 about1) = true
  refine all_split ?_ w_codes
  rw [← List.take_append_drop 24 words1, List.all_append, w_t1, ← List.take_append_drop 24 (words1.drop 24), List.all_append, w_t2, ← List.take_append_drop 24 ((words1.drop 24).drop 24), List.all_append, w_t3, w_t4]
  rfl
set_option maxRecDepth 65536 in
theorem w_case : (Jvm.Cond.and given_1 narrow_1).before args0 about1 = true := by decide +kernel
theorem w_applies : (headSpec (Jvm.Cond.code x code maxLocals ret :: tables_1) room_1).applies x e0.platform about1 = true :=
  (Spec.applies_iff w_frames).mpr ⟨w_running, w_runnable, w_alone, w_named, w_hears, w_ripe, w_room, w_tables⟩
theorem atStart : AtStart classFile x code maxLocals ret World_1 tables_1 room_1 Calls_1 rest_1 Pre_1 launch0 p0 e0 about1 theMethod args0 below0 :=
  ⟨lists_1, trivial, launch0.admits_env _ _ _, launch0.least_env, fairChoices_fair.cas, fairChoices_fair.clock, w_frames, w_args, w_heap, w_applies, trivial, trivial, w_case⟩
end start1
theorem witness_1 : WitnessClaimed_1 := ⟨start1.p0, start1.e0, start1.about1, start1.theMethod, start1.args0, start1.below0, start1.atStart⟩
end Jvm.Pilot.@@N@@
