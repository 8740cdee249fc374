import JvmDerived
import JvmDerived.Pilot.@@N@@Statement
import JvmDerived.Pilot.@@N@@Code
set_option linter.unusedVariables false
set_option linter.unusedSimpArgs false
namespace Jvm.Pilot.@@N@@
open Jvm Jvm.ClassFile Sem Op Lib Jvm.Free Jvm.Stand Jvm.LawKit Jvm.RoadKit Bundle Jvm.Pilot.@@N@@.Jvm.D
section OwnKit
variable {p : Program} {l : Launch} {e : Env} {R : Room} {s : State} {m : MethodId} {args : Array Value} {below : List Frame} {meth : Method} {c : Code} {T : State} {locs : List Loc} {cells slots : Nat} {Z : State} {a0 : Array Value} {h : Heap} {Q : Option Value → Heap → List Loc → Prop} {C S : Nat} {F : State → Outcome → Prop}
/-- what is left of a walk: from T with the top frame g the invocation comes to its end, and F holds there -/
def Go (p : Program) (e : Env) (below : List Frame) (F : State → Outcome → Prop) (T : State) (g : JFrame) : Prop :=
  ∃ t o, Steps p.tables e below (T.setTop g) t ∧ t.status = .running ∧ Ended t below o ∧ F t o
/-- it returned, Q holds, and no more has changed than the frame says -/
def FN (s : State) (Q : Option Value → Heap → List Loc → Prop) (C S : Nat) (t : State) (o : Outcome) : Prop := ∃ v L, o = .returned v ∧ Q v t.heap L ∧ FrameEnd s o t L C S
theorem Go.of {T' : State} {g g' : JFrame} (h : ∀ t, Steps p.tables e below (T'.setTop g') t → Steps p.tables e below (T.setTop g) t) (k : Go p e below F T' g') : Go p e below F T g := by
  obtain ⟨t, o, h1, h2⟩ := k
  exact ⟨t, o, h _ h1, h2⟩
theorem Go.cast {g g' : JFrame} (q : g = g') (k : Go p e below F T g') : Go p e below F T g := q ▸ k
theorem Go.ret (X : Stand p l e R s m args below meth c T locs cells slots) {v : Option Value} {g : JFrame} (hlk : meth.locks = false) (hv : meth.sig.returnType = none → v = none)
    (st : ∀ fs, (∀ (f : JFrame) (acts : List Action), f.method = m → f.locked = none → f.entered = [] → (doReturn e (T.setTop f) acts v).1 = T.setFrames fs) → Steps p.tables e below (T.setTop g) (T.setFrames fs))
    (hc : cells ≤ C) (hs : slots ≤ S) (hQ : Q v T.heap locs) : Go p e below (FN s Q C S) T g := by
  obtain ⟨fs, hr, hrun, hended, hW, hsame⟩ := X.leave (v := v) hv hlk
  exact ⟨_, _, st fs hr, hrun, hended, _, _, rfl, hQ, ⟨_, rfl⟩, hW, hsame.mono hc hs⟩
theorem Go.retI (X : Stand p l e R s m args below meth c T locs cells slots) (hx : p.tables.exec = Jvm.exec) (hlk : meth.locks = false) {pc : Nat} {Ls : Array Slot} {z : Int32} {rest : List Value} (hret : meth.sig.returnType = some .int) (hd : decode c.code pc = .ok (.ireturn, 1))
    (hc : cells ≤ C) (hs : slots ≤ S) (hQ : Q (some (.int z)) T.heap locs) : Go p e below (FN s Q C S) T (mkF m pc Ls (.int z :: rest)) :=
  Go.ret X hlk (fun h => by rw [hret] at h; cases h) (fun _ hr => retOut X hx hret rfl (Or.inl ⟨rfl, Or.inl rfl, _, rfl⟩) hd hr) hc hs hQ
theorem Go.retN (X : Stand p l e R s m args below meth c T locs cells slots) (hx : p.tables.exec = Jvm.exec) (hlk : meth.locks = false) {pc : Nat} {Ls : Array Slot} {z : Int32} {rest : List Value} {t : FieldType} (hret : meth.sig.returnType = some t) (ht : t = .boolean ∨ t = .byte ∨ t = .char ∨ t = .short) (hd : decode c.code pc = .ok (.ireturn, 1))
    (hc : cells ≤ C) (hs : slots ≤ S) (hQ : Q (some (.int (nar t z))) T.heap locs) : Go p e below (FN s Q C S) T (mkF m pc Ls (.int z :: rest)) :=
  Go.ret X hlk (fun h => by rw [hret] at h; cases h) (fun _ hr => Jvm.RoadKit.retN X hx hret ht hd hr) hc hs hQ
theorem Go.retV (X : Stand p l e R s m args below meth c T locs cells slots) (hx : p.tables.exec = Jvm.exec) (hlk : meth.locks = false) {pc : Nat} {Ls : Array Slot} (hret : meth.sig.returnType = none) (hd : decode c.code pc = .ok (.return_, 1))
    (hc : cells ≤ C) (hs : slots ≤ S) (hQ : Q none T.heap locs) : Go p e below (FN s Q C S) T (mkF m pc Ls []) :=
  Go.ret X hlk (fun _ => rfl) (fun _ hr => X.returnOut hx hret hd hr) hc hs hQ
/-- a body's contract at given arguments and a given heap -/
def Ct (l : Launch) (y : MethodName) (bytes : ByteArray) (maxL : Nat) (ret : Option FieldType) (rm : Room) (Z : State) (h0 : Heap) (as' : Array Value) (Q : Option Value → Heap → List Loc → Prop) : Prop :=
  ∀ ws, MetFree l y (head1 (Jvm.Cond.code y bytes maxL ret :: ws) rm) (fun a U => a = as' ∧ Z.Warmed39 U.vm ∧ U.heap = h0) (fun _ _ _ _ _ => True) (fun _ U o U' => ∃ v L, o = .returned v ∧ Q v U'.heap L ∧ FrameEnd U o U' L rm.cells rm.slots)
theorem Ct.body {y : MethodName} {bytes : ByteArray} {maxL : Nat} {ret : Option FieldType} {rm : Room} {as' : Array Value} (hpl : plainFor y = true)
    (k : ∀ (p : Program) (e : Env) (s : State) (m : MethodId) (below : List Frame) (meth : Method) (c : Code) (T : State), p.tables.exec = Jvm.exec → c.code = bytes → c.maxLocals = maxL → s.vm.findClass y.cls = some m.cls → meth.name = y.name → meth.sig.returnType = ret → meth.locks = false → Z.Warmed39 s.vm →
      Stand p l e rm s m as' below meth c T [] 0 0 → T.heap = h → Go p e below (FN s Q rm.cells rm.slots) T (entryFrame m as' maxL)) : Ct l y bytes maxL ret rm Z h as' Q := fun ws => by
  refine MetFree.of_bodySF hpl hisR ?_
  intro p e s m args below meth c s₁ Bd hml0 hP hK
  obtain ⟨rfl, hZ, hh⟩ := hP
  exact k p e s m below meth c s₁ Bd.exec Bd.bytes hml0 (findClass_of_methodNamed Bd.named) (name_of_methodNamed Bd.named Bd.method).1 Bd.returns Bd.notSynchronized hZ (Stand.of_body Bd) (by rw [← hh, Bd.state]; rfl)
theorem Go.callS (X : Stand p l e R s m args below meth c T locs cells slots) (hx : p.tables.exec = Jvm.exec) (hZ : Z.Warmed39 s.vm) {own : String} {index : Nat} {y : MethodName} {bytes : ByteArray} {maxL : Nat} {ret : Option FieldType} (hown : s.vm.findClass own = some m.cls)
    (wl : (Jvm.Cond.methodLink own index y).before a0 Z = true) (wst : (Jvm.Cond.static y).before a0 Z = true) (wz : (Jvm.Cond.initialized y.cls).before a0 Z = true) (wc : (Jvm.Cond.code y bytes maxL ret).before a0 Z = true) (hy : y.cls ≠ "java/lang/invoke/MethodHandle" ∧ y.cls ≠ "java/lang/invoke/VarHandle")
    (eT : T.heap = h) {rm : Room} {argsL rest : List Value} {Q' : Option Value → Heap → List Loc → Prop} (hC : Ct l y bytes maxL ret rm Z h argsL.toArray Q') {pc : Nat} {Ls : Array Slot} {st : List Value} (hsz : Ls.size = c.maxLocals)
    (hlen : ∀ sig, parseMethodDescriptor y.desc = some sig → argsL.length = sig.parameters.length) (hst : st = argsL.reverse ++ rest) (hd : decode c.code pc = .ok (.invokestatic index, 3)) (hf : rm.frames + 1 ≤ R.frames) (hl : (rest.map fun v => v.category).sum + (maxL + 11) + rm.locals ≤ R.locals) (hc : cells + rm.cells ≤ R.cells) (hs : slots + rm.slots ≤ R.slots)
    (k : ∀ v T' L, Q' v T'.heap L → Stand p l e R s m args below meth c T' (locs ++ L) (cells + rm.cells) (slots + rm.slots) → Go p e below F T' (mkF m (pc + 3) Ls (v.toList ++ rest))) :
    Go p e below F T (mkF m pc Ls st) := by
  obtain ⟨v, _, ⟨T', L', k', n'⟩, -, X', ⟨L, hQ, l1, y1, z1⟩, stp⟩ := Jvm.LawKit.callS X hx (y := y) hown (mvT hZ wl) (mvT hZ wst) (mvT hZ wz) (mvT hZ wc) hy (backOf (W := (rest.map fun v => v.category).sum) (hC []) hZ wc wz hf hl) (g := mkF m pc Ls st) rfl hsz (argsL := argsL) (rest := rest) hlen hst (by show 2 * 0 + _ ≤ _; exact Nat.le_of_eq (Nat.zero_add _)) hd (fun _ _ => ⟨rfl, eT, hc, hs⟩)
  dsimp only [Pt.U, Pt.locs, Pt.cells, Pt.slots] at X' l1 y1 z1 stp hQ
  subst l1 y1 z1
  exact Go.of stp (k _ _ _ hQ X')
theorem Go.callV (X : Stand p l e R s m args below meth c T locs cells slots) (hx : p.tables.exec = Jvm.exec) (hZ : Z.Warmed39 s.vm) {own K : String} {index : Nat} {y z : MethodName} {bytes : ByteArray} {maxL : Nat} {ret : Option FieldType} (hown : s.vm.findClass own = some m.cls)
    (wl : (Jvm.Cond.methodLink own index y).before a0 Z = true) (wd : (Jvm.Cond.declares y).before a0 Z = true) (nf : NotFace s y) (wsel : (Jvm.Cond.selects K y z).before a0 Z = true) (wim : (Jvm.Cond.instanceMethod z).before a0 Z = true) (wc : (Jvm.Cond.code z bytes maxL ret).before a0 Z = true) (wz : (Jvm.Cond.initialized z.cls).before a0 Z = true) (hy : y.cls ≠ "java/lang/invoke/MethodHandle" ∧ y.cls ≠ "java/lang/invoke/VarHandle")
    (eT : T.heap = h) {b : Addr} (E : Exa Z h b K) {rm : Room} {argsL rest : List Value} {Q' : Option Value → Heap → List Loc → Prop} (hC : Ct l z bytes maxL ret rm Z h (.ref b :: argsL).toArray Q') {pc : Nat} {Ls : Array Slot} {st : List Value} (hsz : Ls.size = c.maxLocals)
    (hlen : ∀ sig, parseMethodDescriptor y.desc = some sig → argsL.length = sig.parameters.length) (hst : st = argsL.reverse ++ .ref b :: rest) (hd : decode c.code pc = .ok (.invokevirtual index, 3)) (hf : rm.frames + 1 ≤ R.frames) (hl : (rest.map fun v => v.category).sum + (maxL + 11) + rm.locals ≤ R.locals) (hc : cells + rm.cells ≤ R.cells) (hs : slots + rm.slots ≤ R.slots)
    (k : ∀ v T' L, Q' v T'.heap L → Stand p l e R s m args below meth c T' (locs ++ L) (cells + rm.cells) (slots + rm.slots) → Go p e below F T' (mkF m (pc + 3) Ls (v.toList ++ rest))) :
    Go p e below F T (mkF m pc Ls st) := by
  obtain ⟨cq, kq, qa, qb, qc⟩ := isOf hZ eT E
  obtain ⟨v, _, ⟨T', L', k', n'⟩, -, X', ⟨L, hQ, l1, y1, z1⟩, stp⟩ := X.virtualBack hx (y := y) (z := z) hown (mvT hZ wl) (mvT hZ wd) nf (mvT hZ wsel) (mvT hZ wim) hy (backOf (W := (rest.map fun v => v.category).sum) (hC []) hZ wc wz hf hl) qa qc (g := mkF m pc Ls st) rfl hsz (Steps.refl _) (argsL := argsL) (rest := rest) hlen hst (by show 2 * 0 + _ ≤ _; exact Nat.le_of_eq (Nat.zero_add _)) hd (fun _ _ => ⟨rfl, eT, hc, hs⟩)
  dsimp only [Pt.U, Pt.locs, Pt.cells, Pt.slots] at X' l1 y1 z1 stp hQ
  subst l1 y1 z1
  exact Go.of (fun t q => stp.trans q) (k _ _ _ hQ X')
theorem Go.callC (X : Stand p l e R s m args below meth c T locs cells slots) (hx : p.tables.exec = Jvm.exec) (hZ : Z.Warmed39 s.vm) {own : String} {index : Nat} {y : MethodName} {bytes : ByteArray} {maxL : Nat} (hy1 : y.name = "<init>") (hown : s.vm.findClass own = some m.cls)
    (wl : (Jvm.Cond.methodLink own index y).before a0 Z = true) (wim : (Jvm.Cond.instanceMethod y).before a0 Z = true) (wc : (Jvm.Cond.code y bytes maxL none).before a0 Z = true) (wz : (Jvm.Cond.initialized y.cls).before a0 Z = true) (hy : y.cls ≠ "java/lang/invoke/MethodHandle" ∧ y.cls ≠ "java/lang/invoke/VarHandle")
    (eT : T.heap = h) {b : Addr} {rm : Room} {argsL rest : List Value} {Q' : Option Value → Heap → List Loc → Prop} (hC : Ct l y bytes maxL none rm Z h (.ref b :: argsL).toArray Q') {pc : Nat} {Ls : Array Slot} {st : List Value} (hsz : Ls.size = c.maxLocals)
    (hlen : ∀ sig, parseMethodDescriptor y.desc = some sig → argsL.length = sig.parameters.length) (hst : st = argsL.reverse ++ .ref b :: rest) (hd : decode c.code pc = .ok (.invokespecial index, 3)) (hf : rm.frames + 1 ≤ R.frames) (hl : (rest.map fun v => v.category).sum + (maxL + 11) + rm.locals ≤ R.locals) (hc : cells + rm.cells ≤ R.cells) (hs : slots + rm.slots ≤ R.slots)
    (k : ∀ v T' L, Q' v T'.heap L → Stand p l e R s m args below meth c T' (locs ++ L) (cells + rm.cells) (slots + rm.slots) → Go p e below F T' (mkF m (pc + 3) Ls (v.toList ++ rest))) :
    Go p e below F T (mkF m pc Ls st) := by
  obtain ⟨v, _, ⟨T', L', k', n'⟩, -, X', ⟨L, hQ, l1, y1, z1⟩, stp⟩ := X.specialBack hx (y := y) hy1 hown (mvT hZ wl) (mvT hZ wim) (mvT hZ wc) hy (backOf (W := (rest.map fun v => v.category).sum) (hC []) hZ wc wz hf hl) (g := mkF m pc Ls st) rfl hsz (Steps.refl _) (a := b) (argsL := argsL) (rest := rest) hlen hst (by show 2 * 0 + _ ≤ _; exact Nat.le_of_eq (Nat.zero_add _)) hd (fun _ _ => ⟨rfl, eT, hc, hs⟩)
  dsimp only [Pt.U, Pt.locs, Pt.cells, Pt.slots] at X' l1 y1 z1 stp hQ
  subst l1 y1 z1
  exact Go.of (fun t q => stp.trans q) (k _ _ _ hQ X')
theorem Go.getF (X : Stand p l e R s m args below meth c T locs cells slots) (hx : p.tables.exec = Jvm.exec) (hZ : Z.Warmed39 s.vm) {own R0 O n d : String} {index : Nat} (hown : s.vm.findClass own = some m.cls) (w : (Jvm.Cond.fieldLink own index R0 n d).before a0 Z = true) (via : Via Z R0 O n d)
    (eT : T.heap = h) {a : Addr} {v : Value} (fF : Fld Z h a O n d v) {pc : Nat} {Ls : Array Slot} {rest : List Value} (hd : decode c.code pc = .ok (.getfield index, 3))
    (k : ∀ T', Stand p l e R s m args below meth c T' locs cells slots → T'.heap = h → Go p e below F T' (mkF m (pc + 3) Ls (v :: rest))) : Go p e below F T (mkF m pc Ls (.ref a :: rest)) := by
  obtain ⟨T', X', e', st⟩ := Jvm.RoadKit.getF X hx hZ hown (host := "") (Or.inl w) via eT fF (g := mkF m pc Ls (.ref a :: rest)) rfl rfl hd
  exact Go.of st (k _ X' e')
theorem Go.putF (X : Stand p l e R s m args below meth c T locs cells slots) (hx : p.tables.exec = Jvm.exec) (hZ : Z.Warmed39 s.vm) {own R0 O n d K : String} {index kk : Nat} {ty : FieldType} (hown : s.vm.findClass own = some m.cls) (w : (Jvm.Cond.fieldLink own index R0 n d).before a0 Z = true) (via : Via Z R0 O n d)
    (eT : T.heap = h) {a : Addr} {v old : Value} (fF : Fld Z h a O n d old) (E : Exa Z h a K) (L : (Jvm.Cond.lays K O n d).before a0 Z = true ∨ ((Jvm.Cond.laysFinal K O n d).before a0 Z = true ∧ own = O ∧ meth.name = "<init>")) (wi : (Jvm.Cond.instantiable K kk).before a0 Z = true)
    (hty : parseFieldDescriptor d = some ty) (hn : narrow ty v = v) (hf : fits ty v = true) {pc : Nat} {Ls : Array Slot} {rest : List Value} (hd : decode c.code pc = .ok (.putfield index, 3))
    (k : ∀ T' h', Stand p l e R s m args below meth c T' (locs ++ [⟨a, Jvm.RoadKit.slotOf Z O n d⟩]) cells slots → T'.heap = h' → Wr h h' a (Jvm.RoadKit.slotOf Z O n d) v → Go p e below F T' (mkF m (pc + 3) Ls rest)) : Go p e below F T (mkF m pc Ls (v :: .ref a :: rest)) := by
  obtain ⟨T', h', X', e', W', st⟩ := Jvm.RoadKit.putF X hx hZ hown (host := "") (Or.inl w) via eT fF E L wi hty hn hf (g := mkF m pc Ls (v :: .ref a :: rest)) rfl rfl hd
  exact Go.of st (k _ _ X' e' W')
theorem Go.newO (X : Stand p l e R s m args below meth c T locs cells slots) (hx : p.tables.exec = Jvm.exec) (hZ : Z.Warmed39 s.vm) {own K : String} {index n : Nat} (hown : s.vm.findClass own = some m.cls) (w : (Jvm.Cond.classLink own index K).before a0 Z = true) (wi : (Jvm.Cond.instantiable K n).before a0 Z = true) (wz : (Jvm.Cond.initialized K).before a0 Z = true) (eT : T.heap = h)
    {pc : Nat} {Ls : Array Slot} {rest : List Value} (hd : decode c.code pc = .ok (.new index, 3)) (hc : cells + 1 ≤ R.cells) (hl : slots + n ≤ R.slots)
    (k : ∀ T' h' a, a = h.size → Stand p l e R s m args below meth c T' locs (cells + 1) (slots + n) → T'.heap = h' → Ext h h' → Exa Z h' a K → (∀ {O nm d : String} {ty : FieldType}, Laid Z a0 K O nm d → parseFieldDescriptor d = some ty → Fld Z h' a O nm d (defaultValue ty)) → Go p e below F T' (mkF m (pc + 3) Ls (.ref a :: rest))) : Go p e below F T (mkF m pc Ls rest) := by
  obtain ⟨T', h', X', e', E', A', D', -, st⟩ := Jvm.RoadKit.newO X hx hZ hown w wi wz eT (g := mkF m pc Ls rest) rfl hd hc hl
  exact Go.of st (k _ _ _ rfl X' e' E' A' D')
theorem Go.initO (X : Stand p l e R s m args below meth c T locs cells slots) (hx : p.tables.exec = Jvm.exec) (hZ : Z.Warmed39 s.vm) {own : String} {idx : Nat} (hown : s.vm.findClass own = some m.cls) (w1 : (Jvm.Cond.methodLink own idx Lib.objectInit).before a0 Z = true) (w2 : (Jvm.Cond.instanceMethod Lib.objectInit).before a0 Z = true)
    (w3 : (Jvm.Cond.code Lib.objectInit ⟨#[0xb1]⟩ 1 none).before a0 Z = true) (eT : T.heap = h) {a : Addr} {pc : Nat} {Ls : Array Slot} {rest : List Value} (hsz : Ls.size = c.maxLocals) (hd : decode c.code pc = .ok (.invokespecial idx, 3)) (hf : 1 ≤ R.frames) (hl : (rest.map fun v => v.category).sum + 12 ≤ R.locals)
    (k : ∀ T', Stand p l e R s m args below meth c T' locs cells slots → T'.heap = h → Go p e below F T' (mkF m (pc + 3) Ls rest)) : Go p e below F T (mkF m pc Ls (.ref a :: rest)) := by
  obtain ⟨T', X', e', st⟩ := Jvm.RoadKit.initO X hx hZ hown w1 w2 w3 eT (g := mkF m pc Ls (.ref a :: rest)) rfl hsz rfl hd hf (W := (rest.map fun v => v.category).sum) (by show 2 * 0 + _ ≤ _; exact Nat.le_of_eq (Nat.zero_add _)) hl
  exact Go.of st (k _ X' e')
end OwnKit
section OwnSteps
variable {p : Program} {l : Launch} {e : Env} {R : Room} {s : State} {m : MethodId} {args : Array Value} {below : List Frame} {meth : Method} {c : Code} {T : State} {locs : List Loc} {cells slots : Nat} {Z : State} {a0 : Array Value} {h : Heap} {F : State → Outcome → Prop}
theorem w_ {Z : State} {a0 : Array Value} {ts : List Jvm.Cond} (hw : ∀ d ∈ ts, d.before a0 Z = true) {d : Jvm.Cond} (i : Nat) (h : ts[i]? = some d) : d.before a0 Z = true := hw _ (List.mem_of_getElem? h)
theorem Go.s_iloadN (X : Stand p l e R s m args below meth c T locs cells slots) (hx : p.tables.exec = Jvm.exec) {pc q : Nat} {Ls : Array Slot} {st : List Value} {k : Fin 4} {v : Int32} (hd : decode c.code pc = .ok (.iload_n k, 1)) (hq : pc + 1 = q) (hl : Ls[k.val]? = some (.val (.int v))) (K : Go p e below F T (mkF m q Ls (.int v :: st))) : Go p e below F T (mkF m pc Ls (st)) := by
  subst hq
  exact Go.of (fun t k => XS.iloadN X.here hx rfl hd hl k) K
theorem Go.s_iload (X : Stand p l e R s m args below meth c T locs cells slots) (hx : p.tables.exec = Jvm.exec) {pc q : Nat} {Ls : Array Slot} {st : List Value} {k : Nat} {v : Int32} (hd : decode c.code pc = .ok (.iload k, 2)) (hq : pc + 2 = q) (hl : Ls[k]? = some (.val (.int v))) (K : Go p e below F T (mkF m q Ls (.int v :: st))) : Go p e below F T (mkF m pc Ls (st)) := by
  subst hq
  exact Go.of (fun t k => XS.iload X.here hx rfl hd hl k) K
theorem Go.s_aloadN (X : Stand p l e R s m args below meth c T locs cells slots) (hx : p.tables.exec = Jvm.exec) {pc q : Nat} {Ls : Array Slot} {st : List Value} {k : Fin 4} {v : Value} (hd : decode c.code pc = .ok (.aload_n k, 1)) (hq : pc + 1 = q) (hl : Ls[k.val]? = some (.val v)) (hv : v.isRef = true) (K : Go p e below F T (mkF m q Ls (v :: st))) : Go p e below F T (mkF m pc Ls (st)) := by
  subst hq
  exact Go.of (fun t k => XS.aloadN X.here hx rfl hd hl hv k) K
theorem Go.s_aload (X : Stand p l e R s m args below meth c T locs cells slots) (hx : p.tables.exec = Jvm.exec) {pc q : Nat} {Ls : Array Slot} {st : List Value} {k : Nat} {v : Value} (hd : decode c.code pc = .ok (.aload k, 2)) (hq : pc + 2 = q) (hl : Ls[k]? = some (.val v)) (hv : v.isRef = true) (K : Go p e below F T (mkF m q Ls (v :: st))) : Go p e below F T (mkF m pc Ls (st)) := by
  subst hq
  exact Go.of (fun t k => XS.aload X.here hx rfl hd hl hv k) K
theorem Go.s_istore (X : Stand p l e R s m args below meth c T locs cells slots) (hx : p.tables.exec = Jvm.exec) {pc q : Nat} {Ls : Array Slot} {st : List Value} {k : Nat} {x : Int32} {l' : Array Slot} (hd : decode c.code pc = .ok (.istore k, 2)) (hq : pc + 2 = q) (hl : storeLocals Ls k (.int x) = some l') (K : Go p e below F T (mkF m q l' (st))) : Go p e below F T (mkF m pc Ls (.int x :: st)) := by
  subst hq
  exact Go.of (fun t k => XS.istore X.here hx rfl hd rfl hl k) K
theorem Go.s_astore (X : Stand p l e R s m args below meth c T locs cells slots) (hx : p.tables.exec = Jvm.exec) {pc q : Nat} {Ls : Array Slot} {st : List Value} {k : Nat} {x : Value} {l' : Array Slot} (hd : decode c.code pc = .ok (.astore k, 2)) (hq : pc + 2 = q) (hv : x.isRef = true) (hl : storeLocals Ls k x = some l') (K : Go p e below F T (mkF m q l' (st))) : Go p e below F T (mkF m pc Ls (x :: st)) := by
  subst hq
  exact Go.of (fun t k => XS.astore X.here hx rfl hd rfl hv hl k) K
theorem Go.s_iconst (X : Stand p l e R s m args below meth c T locs cells slots) (hx : p.tables.exec = Jvm.exec) {pc q : Nat} {Ls : Array Slot} {st : List Value} {i : Int} {z : Int32} (hd : decode c.code pc = .ok (.iconst i, 1)) (hq : pc + 1 = q) (hz : Int32.ofInt i = z) (K : Go p e below F T (mkF m q Ls (.int z :: st))) : Go p e below F T (mkF m pc Ls (st)) := by
  subst hq
  exact Go.of (fun t k => XS.iconst X.here hx rfl hd (hz ▸ k)) K
theorem Go.s_lconst (X : Stand p l e R s m args below meth c T locs cells slots) (hx : p.tables.exec = Jvm.exec) {pc q : Nat} {Ls : Array Slot} {st : List Value} {i : Fin 2} {z : Int64} (hd : decode c.code pc = .ok (.lconst i, 1)) (hq : pc + 1 = q) (hz : Int64.ofNat i = z) (K : Go p e below F T (mkF m q Ls (.long z :: st))) : Go p e below F T (mkF m pc Ls (st)) := by
  subst hq
  exact Go.of (fun t k => XS.lconst X.here hx rfl hd (hz ▸ k)) K
theorem Go.s_iadd (X : Stand p l e R s m args below meth c T locs cells slots) (hx : p.tables.exec = Jvm.exec) {pc q : Nat} {Ls : Array Slot} {st : List Value} {x y : Int32} (hd : decode c.code pc = .ok (.iadd, 1)) (hq : pc + 1 = q)  (K : Go p e below F T (mkF m q Ls (.int (x + y) :: st))) : Go p e below F T (mkF m pc Ls (.int y :: .int x :: st)) := by
  subst hq
  exact Go.of (fun t k => XS.iadd X.here hx rfl hd rfl k) K
theorem Go.s_ladd (X : Stand p l e R s m args below meth c T locs cells slots) (hx : p.tables.exec = Jvm.exec) {pc q : Nat} {Ls : Array Slot} {st : List Value} {x y : Int64} (hd : decode c.code pc = .ok (.ladd, 1)) (hq : pc + 1 = q)  (K : Go p e below F T (mkF m q Ls (.long (x + y) :: st))) : Go p e below F T (mkF m pc Ls (.long y :: .long x :: st)) := by
  subst hq
  exact Go.of (fun t k => XS.ladd X.here hx rfl hd rfl k) K
theorem Go.s_lsub (X : Stand p l e R s m args below meth c T locs cells slots) (hx : p.tables.exec = Jvm.exec) {pc q : Nat} {Ls : Array Slot} {st : List Value} {x y : Int64} (hd : decode c.code pc = .ok (.lsub, 1)) (hq : pc + 1 = q)  (K : Go p e below F T (mkF m q Ls (.long (x - y) :: st))) : Go p e below F T (mkF m pc Ls (.long y :: .long x :: st)) := by
  subst hq
  exact Go.of (fun t k => XS.lsub X.here hx rfl hd rfl k) K
theorem Go.s_iand (X : Stand p l e R s m args below meth c T locs cells slots) (hx : p.tables.exec = Jvm.exec) {pc q : Nat} {Ls : Array Slot} {st : List Value} {x y : Int32} (hd : decode c.code pc = .ok (.iand, 1)) (hq : pc + 1 = q)  (K : Go p e below F T (mkF m q Ls (.int (x &&& y) :: st))) : Go p e below F T (mkF m pc Ls (.int y :: .int x :: st)) := by
  subst hq
  exact Go.of (fun t k => XS.iand X.here hx rfl hd rfl k) K
theorem Go.s_i2l (X : Stand p l e R s m args below meth c T locs cells slots) (hx : p.tables.exec = Jvm.exec) {pc q : Nat} {Ls : Array Slot} {st : List Value} {x : Int32} (hd : decode c.code pc = .ok (.i2l, 1)) (hq : pc + 1 = q)  (K : Go p e below F T (mkF m q Ls (.long (x.toInt64) :: st))) : Go p e below F T (mkF m pc Ls (.int x :: st)) := by
  subst hq
  exact Go.of (fun t k => XS.i2l X.here hx rfl hd rfl k) K
theorem Go.s_l2i (X : Stand p l e R s m args below meth c T locs cells slots) (hx : p.tables.exec = Jvm.exec) {pc q : Nat} {Ls : Array Slot} {st : List Value} {x : Int64} (hd : decode c.code pc = .ok (.l2i, 1)) (hq : pc + 1 = q)  (K : Go p e below F T (mkF m q Ls (.int (x.toInt32) :: st))) : Go p e below F T (mkF m pc Ls (.long x :: st)) := by
  subst hq
  exact Go.of (fun t k => XS.l2i X.here hx rfl hd rfl k) K
theorem Go.s_idiv (X : Stand p l e R s m args below meth c T locs cells slots) (hx : p.tables.exec = Jvm.exec) {pc q : Nat} {Ls : Array Slot} {st : List Value} {x y : Int32} (hd : decode c.code pc = .ok (.idiv, 1)) (hq : pc + 1 = q) (hy : y ≠ 0) (K : Go p e below F T (mkF m q Ls (.int (x / y) :: st))) : Go p e below F T (mkF m pc Ls (.int y :: .int x :: st)) := by
  subst hq
  exact Go.of (fun t k => XS.idiv X.here hx rfl hd rfl hy k) K
theorem Go.s_ldiv (X : Stand p l e R s m args below meth c T locs cells slots) (hx : p.tables.exec = Jvm.exec) {pc q : Nat} {Ls : Array Slot} {st : List Value} {x y : Int64} (hd : decode c.code pc = .ok (.ldiv, 1)) (hq : pc + 1 = q) (hy : y ≠ 0) (K : Go p e below F T (mkF m q Ls (.long (x / y) :: st))) : Go p e below F T (mkF m pc Ls (.long y :: .long x :: st)) := by
  subst hq
  exact Go.of (fun t k => XS.ldiv X.here hx rfl hd rfl hy k) K
theorem Go.s_irem (X : Stand p l e R s m args below meth c T locs cells slots) (hx : p.tables.exec = Jvm.exec) {pc q : Nat} {Ls : Array Slot} {st : List Value} {x y : Int32} (hd : decode c.code pc = .ok (.irem, 1)) (hq : pc + 1 = q) (hy : y ≠ 0) (K : Go p e below F T (mkF m q Ls (.int (x % y) :: st))) : Go p e below F T (mkF m pc Ls (.int y :: .int x :: st)) := by
  subst hq
  exact Go.of (fun t k => iremM X hx rfl hd rfl hy k) K
theorem Go.s_dup (X : Stand p l e R s m args below meth c T locs cells slots) (hx : p.tables.exec = Jvm.exec) {pc q : Nat} {Ls : Array Slot} {st : List Value} {x : Value} (hd : decode c.code pc = .ok (.dup, 1)) (hq : pc + 1 = q) (hc : x.category = 1) (K : Go p e below F T (mkF m q Ls (x :: x :: st))) : Go p e below F T (mkF m pc Ls (x :: st)) := by
  subst hq
  exact Go.of (fun t k => XS.dup X.here hx rfl hd rfl hc k) K
theorem Go.s_goto (X : Stand p l e R s m args below meth c T locs cells slots) (hx : p.tables.exec = Jvm.exec) {pc q : Nat} {Ls : Array Slot} {st : List Value}  {o : Int} (hd : decode c.code pc = .ok (.goto o, 3)) (ho : 0 ≤ (pc : Int) + o) (hp : ((pc : Int) + o).toNat = q)  (K : Go p e below F T (mkF m q Ls st)) : Go p e below F T (mkF m pc Ls (st)) :=
  Go.of (fun t k => XS.goto X.here hx rfl rfl hd ho hp k) K
theorem Go.s_ifYes (X : Stand p l e R s m args below meth c T locs cells slots) (hx : p.tables.exec = Jvm.exec) {pc q : Nat} {Ls : Array Slot} {st : List Value} {cd : ClassFile.Cond} {x : Int32} {o : Int} (hd : decode c.code pc = .ok (.ifCond cd o, 3)) (ho : 0 ≤ (pc : Int) + o) (hp : ((pc : Int) + o).toNat = q) (hc : ifCond.holds cd x = true) (K : Go p e below F T (mkF m q Ls st)) : Go p e below F T (mkF m pc Ls (.int x :: st)) :=
  Go.of (fun t k => XS.ifYes X.here hx rfl rfl hd rfl hc ho hp k) K
theorem Go.s_icmpYes (X : Stand p l e R s m args below meth c T locs cells slots) (hx : p.tables.exec = Jvm.exec) {pc q : Nat} {Ls : Array Slot} {st : List Value} {cd : ClassFile.Cond} {x y : Int32} {o : Int} (hd : decode c.code pc = .ok (.if_icmp cd o, 3)) (ho : 0 ≤ (pc : Int) + o) (hp : ((pc : Int) + o).toNat = q) (hc : if_icmp.holds cd x y = true) (K : Go p e below F T (mkF m q Ls st)) : Go p e below F T (mkF m pc Ls (.int y :: .int x :: st)) :=
  Go.of (fun t k => XS.icmpYes X.here hx rfl rfl hd rfl hc ho hp k) K
theorem Go.s_ifNo (X : Stand p l e R s m args below meth c T locs cells slots) (hx : p.tables.exec = Jvm.exec) {pc q : Nat} {Ls : Array Slot} {st : List Value} {cd : ClassFile.Cond} {o : Int} {x : Int32} (hd : decode c.code pc = .ok (.ifCond cd o, 3)) (hq : pc + 3 = q) (hc : ifCond.holds cd x = false) (K : Go p e below F T (mkF m q Ls (st))) : Go p e below F T (mkF m pc Ls (.int x :: st)) := by
  subst hq
  exact Go.of (fun t k => XS.ifNo X.here hx rfl hd rfl hc k) K
theorem Go.s_icmpNo (X : Stand p l e R s m args below meth c T locs cells slots) (hx : p.tables.exec = Jvm.exec) {pc q : Nat} {Ls : Array Slot} {st : List Value} {cd : ClassFile.Cond} {o : Int} {x y : Int32} (hd : decode c.code pc = .ok (.if_icmp cd o, 3)) (hq : pc + 3 = q) (hc : if_icmp.holds cd x y = false) (K : Go p e below F T (mkF m q Ls (st))) : Go p e below F T (mkF m pc Ls (.int y :: .int x :: st)) := by
  subst hq
  exact Go.of (fun t k => XS.icmpNo X.here hx rfl hd rfl hc k) K
theorem Go.s_ldc (X : Stand p l e R s m args below meth c T locs cells slots) (hx : p.tables.exec = Jvm.exec) {pc q : Nat} {Ls : Array Slot} {st : List Value} {own : String} {index : Nat} {v : Int32} (hd : decode c.code pc = .ok (.ldc index, 2)) (hq : pc + 2 = q) (hown : s.vm.findClass own = some m.cls) (w : (Jvm.Cond.constant own index v).before args s = true) (K : Go p e below F T (mkF m q Ls (.int v :: st))) : Go p e below F T (mkF m pc Ls st) := by
  subst hq
  exact Go.of (X.ldcInt hx hown w (g := mkF m pc Ls st) rfl hd) K
end OwnSteps
theorem mask_nn {x z : Int32} (h : (x &&& (2147483647 : Int32)) = z) : 0 ≤ z.toInt := by
  subst h
  have t2 := c_mask x (2147483647 : Int32) 31 (by decide) (by decide)
  omega
theorem max_one {x r : Int32} (h : ((1 : Int32) < x ∧ r = x) ∨ (¬ ((1 : Int32) < x) ∧ r = (1 : Int32))) : ¬ (r < (1 : Int32)) := by
  rcases h with ⟨h, rfl⟩ | ⟨h, rfl⟩
  · intro q
    have t1 := Int32.lt_iff_toInt_lt.mp q
    have t2 := Int32.lt_iff_toInt_lt.mp h
    omega
  · decide
theorem nz64 {x : Int32} (h : ¬ (x < (1 : Int32))) : x.toInt64 ≠ 0 := by
  intro q
  have t1 := mt Int32.lt_iff_toInt_lt.mpr h
  have t2 := c_i2l x
  have t4 : (1 : Int32).toInt = 1 := by decide
  have t3 : (0 : Int64).toInt = 0 := by decide
  rw [q] at t2
  omega
theorem nz32 {x : Int32} (h : ¬ (x < (1 : Int32))) : x ≠ 0 := by
  intro q
  subst q
  exact h (by decide)
theorem ceil (ev ba got q r : Int32) (h1 : 0 ≤ ev.toInt) (h2 : ¬ (ba < (1 : Int32))) (hg : got = ((((ev.toInt64) + (ba.toInt64)) - (1 : Int64)) / (ba.toInt64)).toInt32) (hq : (ev / ba) = q) (hr : (ev % ba) = r) :
    (r = (0 : Int32) → got = q) ∧ (¬ (r = (0 : Int32)) → got = (q + (1 : Int32))) := by
  have h2 : 1 ≤ ba.toInt := by
    have t1 := mt Int32.lt_iff_toInt_lt.mpr h2
    have t4 : (1 : Int32).toInt = 1 := by decide
    omega
  have r1 := rng32 ev
  have r2 := rng32 ba
  have i1 := c_i2l ev
  have i2 := c_i2l ba
  have k1 : (1 : Int64).toInt = 1 := by decide
  have k2 : (0 : Int32).toInt = 0 := by decide
  have k3 : (1 : Int32).toInt = 1 := by decide
  have a1 := c_ladd ev.toInt64 ba.toInt64
  have a2 := c_lsub (ev.toInt64 + ba.toInt64) (1 : Int64)
  have b1 := rng64 (ev.toInt64 + ba.toInt64)
  have b2 := rng64 (ev.toInt64 + ba.toInt64 - 1)
  have e1 : (ev.toInt64 + ba.toInt64 - 1).toInt = ev.toInt + ba.toInt - 1 := by omega
  have hne : ba.toInt64 ≠ -1 := fun z => by have := congrArg Int64.toInt z; rw [i2] at this; have : (-1 : Int64).toInt = -1 := by decide
                                            omega
  have hne2 : ba ≠ -1 := fun z => by have := congrArg Int32.toInt z; have : (-1 : Int32).toInt = -1 := by decide
                                     omega
  have d0 : ((ev.toInt64 + ba.toInt64 - 1) / ba.toInt64).toInt = (ev.toInt + ba.toInt - 1) / ba.toInt := by
    rw [Int64.toInt_div_of_ne_right _ _ hne, e1, i2]
    exact Int.tdiv_eq_ediv_of_nonneg (by omega)
  have l1 := c_l2i ((ev.toInt64 + ba.toInt64 - 1) / ba.toInt64)
  rw [← hg, d0] at l1
  have q0 : q.toInt = ev.toInt / ba.toInt := by
    rw [← hq, Int32.toInt_div_of_ne_right _ _ hne2]
    exact Int.tdiv_eq_ediv_of_nonneg h1
  have r0 : r.toInt = ev.toInt % ba.toInt := by
    rw [← hr, Int32.toInt_mod]
    exact Int.tmod_eq_emod_of_nonneg h1
  have s1 := Int.emod_add_mul_ediv ev.toInt ba.toInt
  have s2 := Int.emod_nonneg ev.toInt (show ba.toInt ≠ 0 by omega)
  have s3 := Int.emod_lt_of_pos ev.toInt (show 0 < ba.toInt by omega)
  have s4 : 0 ≤ ev.toInt / ba.toInt := Int.ediv_nonneg h1 (by omega)
  have s5 : ev.toInt / ba.toInt ≤ ev.toInt := Int.ediv_le_self _ h1
  have r3 := rng32 got
  have r4 := rng32 q
  have r5 := c_iadd q (1 : Int32)
  have r6 := rng32 (q + (1 : Int32))
  constructor
  · intro z
    have z1 := congrArg Int32.toInt z
    have d1 : (ev.toInt + ba.toInt - 1) / ba.toInt = ev.toInt / ba.toInt := by
      have : ev.toInt + ba.toInt - 1 = (ba.toInt - 1) + ba.toInt * (ev.toInt / ba.toInt) := by omega
      rw [this, Int.add_mul_ediv_left _ _ (by omega), Int.ediv_eq_zero_of_lt (by omega) (by omega)]
      omega
    apply Int32.toInt_inj.mp
    omega
  · intro z
    have z1 := mt Int32.toInt_inj.mp z
    have d1 : (ev.toInt + ba.toInt - 1) / ba.toInt = ev.toInt / ba.toInt + 1 := by
      have : ev.toInt + ba.toInt - 1 = (ev.toInt % ba.toInt - 1) + ba.toInt * (ev.toInt / ba.toInt + 1) := by rw [Int.mul_add]; omega
      rw [this, Int.add_mul_ediv_left _ _ (by omega), Int.ediv_eq_zero_of_lt (by omega) (by omega)]
      omega
    have m5 : 2 ≤ ba.toInt := by omega
    have m6 : ev.toInt / ba.toInt + 1 ≤ 2147483647 := by
      have m7 : 2 * (ev.toInt / ba.toInt) ≤ ba.toInt * (ev.toInt / ba.toInt) := Int.mul_le_mul_of_nonneg_right m5 s4
      generalize ba.toInt * (ev.toInt / ba.toInt) = P at *
      omega
    apply Int32.toInt_inj.mp
    omega
abbrev mn_5 : MethodName := ⟨"com/example/tollbook/tollbook/benchmark/Workload", "requests", "()I"⟩
abbrev mn_2 : MethodName := ⟨"com/example/tollbook/tollbook/benchmark/Workload", "<init>", "(IIII)V"⟩
abbrev mn_3 : MethodName := ⟨"java/lang/Record", "<init>", "()V"⟩
abbrev mn_1 : MethodName := ⟨"java/lang/Math", "max", "(II)I"⟩
theorem d1_0 : decode jdk_29_method_65_code 0 = .ok (.iload_n 0, 1) := by decide +kernel
theorem d1_1 : decode jdk_29_method_65_code 1 = .ok (.iload_n 1, 1) := by decide +kernel
theorem d1_2 : decode jdk_29_method_65_code 2 = .ok (.if_icmp .lt 7, 3) := by decide +kernel
theorem d1_9 : decode jdk_29_method_65_code 9 = .ok (.iload_n 1, 1) := by decide +kernel
theorem d1_10 : decode jdk_29_method_65_code 10 = .ok (.ireturn, 1) := by decide +kernel
theorem d1_5 : decode jdk_29_method_65_code 5 = .ok (.iload_n 0, 1) := by decide +kernel
theorem d1_6 : decode jdk_29_method_65_code 6 = .ok (.goto 4, 3) := by decide +kernel
theorem pn_java_lang_Record : plainName "java/lang/Record" = true := by first | (simp [plainName, overriddenIn]; done) | decide +kernel
theorem d3_0 : decode jdk_30_method_1_code 0 = .ok (.aload_n 0, 1) := by decide +kernel
theorem d3_1 : decode jdk_30_method_1_code 1 = .ok (.invokespecial 1, 3) := by decide +kernel
theorem d3_4 : decode jdk_30_method_1_code 4 = .ok (.return_, 1) := by decide +kernel
theorem pn_com_example_tollbook_tollbook_benchmark_Workload : plainName "com/example/tollbook/tollbook/benchmark/Workload" = true := by first | (simp [plainName, overriddenIn]; done) | decide +kernel
theorem d2_0 : decode prog_9_method_1_code 0 = .ok (.aload_n 0, 1) := by decide +kernel
theorem d2_1 : decode prog_9_method_1_code 1 = .ok (.invokespecial 1, 3) := by decide +kernel
theorem pd_1 : parseMethodDescriptor "()V" = some ⟨[], none⟩ := by decide +kernel
theorem d2_4 : decode prog_9_method_1_code 4 = .ok (.aload_n 0, 1) := by decide +kernel
theorem d2_5 : decode prog_9_method_1_code 5 = .ok (.iload_n 1, 1) := by decide +kernel
theorem d2_6 : decode prog_9_method_1_code 6 = .ok (.putfield 7, 3) := by decide +kernel
theorem d2_9 : decode prog_9_method_1_code 9 = .ok (.aload_n 0, 1) := by decide +kernel
theorem d2_10 : decode prog_9_method_1_code 10 = .ok (.iload_n 2, 1) := by decide +kernel
theorem d2_11 : decode prog_9_method_1_code 11 = .ok (.putfield 13, 3) := by decide +kernel
theorem d2_14 : decode prog_9_method_1_code 14 = .ok (.aload_n 0, 1) := by decide +kernel
theorem d2_15 : decode prog_9_method_1_code 15 = .ok (.iload_n 3, 1) := by decide +kernel
theorem d2_16 : decode prog_9_method_1_code 16 = .ok (.putfield 16, 3) := by decide +kernel
theorem d2_19 : decode prog_9_method_1_code 19 = .ok (.aload_n 0, 1) := by decide +kernel
theorem d2_20 : decode prog_9_method_1_code 20 = .ok (.iload 4, 2) := by decide +kernel
theorem d2_22 : decode prog_9_method_1_code 22 = .ok (.putfield 19, 3) := by decide +kernel
theorem d2_25 : decode prog_9_method_1_code 25 = .ok (.return_, 1) := by decide +kernel
theorem d5_0 : decode prog_9_method_2_code 0 = .ok (.aload_n 0, 1) := by decide +kernel
theorem d5_1 : decode prog_9_method_2_code 1 = .ok (.getfield 7, 3) := by decide +kernel
theorem d5_4 : decode prog_9_method_2_code 4 = .ok (.i2l, 1) := by decide +kernel
theorem d5_5 : decode prog_9_method_2_code 5 = .ok (.aload_n 0, 1) := by decide +kernel
theorem d5_6 : decode prog_9_method_2_code 6 = .ok (.getfield 13, 3) := by decide +kernel
theorem d5_9 : decode prog_9_method_2_code 9 = .ok (.i2l, 1) := by decide +kernel
theorem d5_10 : decode prog_9_method_2_code 10 = .ok (.ladd, 1) := by decide +kernel
theorem d5_11 : decode prog_9_method_2_code 11 = .ok (.lconst 1, 1) := by decide +kernel
theorem d5_12 : decode prog_9_method_2_code 12 = .ok (.lsub, 1) := by decide +kernel
theorem d5_13 : decode prog_9_method_2_code 13 = .ok (.aload_n 0, 1) := by decide +kernel
theorem d5_14 : decode prog_9_method_2_code 14 = .ok (.getfield 13, 3) := by decide +kernel
theorem d5_17 : decode prog_9_method_2_code 17 = .ok (.i2l, 1) := by decide +kernel
theorem d5_18 : decode prog_9_method_2_code 18 = .ok (.ldiv, 1) := by decide +kernel
theorem d5_19 : decode prog_9_method_2_code 19 = .ok (.l2i, 1) := by decide +kernel
theorem d5_20 : decode prog_9_method_2_code 20 = .ok (.ireturn, 1) := by decide +kernel
theorem pn_com_example_tollbook_tollbook_benchmark_WorkloadRequestsPinLaw : plainName "com/example/tollbook/tollbook/benchmark/WorkloadRequestsPinLaw" = true := by first | (simp [plainName, overriddenIn]; done) | decide +kernel
theorem pd_2 : parseMethodDescriptor "(II)I" = some ⟨[.int, .int], some .int⟩ := by decide +kernel
theorem pd_3 : parseMethodDescriptor "(IIII)V" = some ⟨[.int, .int, .int, .int], none⟩ := by decide +kernel
theorem pd_0 : parseMethodDescriptor "()I" = some ⟨[], some .int⟩ := by decide +kernel
theorem ef_mx (m : MethodId) (x0 : Int32) (x1 : Int32) : entryFrame m #[(.int x0), (.int x1)] 2 = mkF m 0 #[.val (.int x0), .val (.int x1)] [] := by first | (simp [entryFrame, mkF, argsToLocals, Value.category]; done) | rfl
set_option maxRecDepth 65536 in
set_option maxHeartbeats 40000000 in
theorem rm_mx (l : Launch) (Z : State) (a0 : Array Value) (hw : ∀ d ∈ tables_1, d.before a0 Z = true) (x0 : Int32) (x1 : Int32) (h0 : Heap)  :
    Ct l mn_1 jdk_29_method_65_code 2 (some .int) ({ frames := 0, cells := 0, slots := 0, locals := 0 } : Room) Z h0 #[(.int x0), (.int x1)] (fun v h L => ∃ r, v = some (.int r) ∧ ((x0 < x1 ∧ r = x1) ∨ (¬ (x0 < x1) ∧ r = x0)) ∧ L = [] ∧ h = h0) := by
  refine Ct.body (Jvm.Free.JP.mathPlain rfl (by decide +kernel)) ?_
  intro p e s m below meth c T0 hx hby hml hown hnm hret hlk hZ X0 e0
  refine Go.cast (ef_mx m x0 x1) ?_
  show Go p e below _ T0 (mkF m 0 #[.val (.int x0), .val (.int x1)] [])
  refine Go.s_iloadN X0 hx (hb hby d1_0) (q := 1) rfl rfl ?_
  refine Go.s_iloadN X0 hx (hb hby d1_1) (q := 2) rfl rfl ?_
  by_cases c2_1 : x0 < x1
  · -- pc 2: x0 < x1
    refine Go.s_icmpYes X0 hx (hb hby d1_2) (q := 9) (by decide) (by decide) (tlt c2_1).1 ?_
    refine Go.s_iloadN X0 hx (hb hby d1_9) (q := 10) rfl rfl ?_
    refine Go.retI X0 hx hlk hret (hb hby d1_10) (by decide) (by decide) ?_
    try rw [e0]
    exact ⟨_, rfl, Or.inl ⟨c2_1, rfl⟩, rfl, rfl⟩
  · -- pc 2: not x0 < x1
    refine Go.s_icmpNo X0 hx (hb hby d1_2) (q := 5) rfl (flt c2_1).1 ?_
    refine Go.s_iloadN X0 hx (hb hby d1_5) (q := 6) rfl rfl ?_
    refine Go.s_goto X0 hx (hb hby d1_6) (q := 10) (by decide) (by decide) ?_
    refine Go.retI X0 hx hlk hret (hb hby d1_10) (by decide) (by decide) ?_
    try rw [e0]
    exact ⟨_, rfl, Or.inr ⟨c2_1, rfl⟩, rfl, rfl⟩
theorem ef_rec (m : MethodId) (x0 : Addr) : entryFrame m #[(.ref x0)] 1 = mkF m 0 #[.val (.ref x0)] [] := by first | (simp [entryFrame, mkF, argsToLocals, Value.category]; done) | rfl
set_option maxRecDepth 65536 in
set_option maxHeartbeats 40000000 in
theorem rm_rec (l : Launch) (Z : State) (a0 : Array Value) (hw : ∀ d ∈ tables_1, d.before a0 Z = true) (a : Addr) (h0 : Heap)  :
    Ct l mn_3 jdk_30_method_1_code 1 none ({ frames := 1, cells := 0, slots := 0, locals := 12 } : Room) Z h0 #[(.ref a)] (fun v h L => v = none ∧ L = [] ∧ h = h0) := by
  refine Ct.body (plainFor_of_name pn_java_lang_Record) ?_
  intro p e s m below meth c T0 hx hby hml hown hnm hret hlk hZ X0 e0
  refine Go.cast (ef_rec m a) ?_
  show Go p e below _ T0 (mkF m 0 #[.val (.ref a)] [])
  refine Go.s_aloadN X0 hx (hb hby d3_0) (q := 1) rfl rfl rfl ?_
  refine Go.initO X0 hx hZ hown (w_ hw 16 rfl) (w_ hw 17 rfl) (w_ hw 18 rfl) e0 (by rw [hml]; rfl) (hb hby d3_1) (by decide) (by decide) ?_
  intro T1 X1 e1
  show Go p e below _ T1 (mkF m 4 #[.val (.ref a)] [])
  refine Go.retV X1 hx hlk hret (hb hby d3_4) (by decide) (by decide) ?_
  try rw [e1]
  exact ⟨rfl, rfl, rfl⟩
theorem ef_ini (m : MethodId) (x0 : Addr) (x1 : Int32) (x2 : Int32) (x3 : Int32) (x4 : Int32) : entryFrame m #[(.ref x0), (.int x1), (.int x2), (.int x3), (.int x4)] 5 = mkF m 0 #[.val (.ref x0), .val (.int x1), .val (.int x2), .val (.int x3), .val (.int x4)] [] := by first | (simp [entryFrame, mkF, argsToLocals, Value.category]; done) | rfl
set_option maxRecDepth 65536 in
set_option maxHeartbeats 40000000 in
theorem rm_ini (l : Launch) (Z : State) (a0 : Array Value) (hw : ∀ d ∈ tables_1, d.before a0 Z = true) (a : Addr) (x1 : Int32) (x2 : Int32) (x3 : Int32) (x4 : Int32) (h0 : Heap) (n0 : Nat) (u1 u2 u3 u4 : Value) (E_a : Exa Z h0 a "com/example/tollbook/tollbook/benchmark/Workload") (F1 : Fld Z h0 a "com/example/tollbook/tollbook/benchmark/Workload" "events" "I" u1) (F2 : Fld Z h0 a "com/example/tollbook/tollbook/benchmark/Workload" "batch" "I" u2) (F3 : Fld Z h0 a "com/example/tollbook/tollbook/benchmark/Workload" "customers" "I" u3) (F4 : Fld Z h0 a "com/example/tollbook/tollbook/benchmark/Workload" "clients" "I" u4) (g_a : n0 ≤ a) :
    Ct l mn_2 prog_9_method_1_code 5 none ({ frames := 2, cells := 0, slots := 0, locals := 24 } : Room) Z h0 #[(.ref a), (.int x1), (.int x2), (.int x3), (.int x4)] (fun v h L => v = none ∧ Fr n0 L ∧ Keep h0 h [a] ∧ Exa Z h a "com/example/tollbook/tollbook/benchmark/Workload" ∧ Fld Z h a "com/example/tollbook/tollbook/benchmark/Workload" "events" "I" (.int x1) ∧ Fld Z h a "com/example/tollbook/tollbook/benchmark/Workload" "batch" "I" (.int x2)) := by
  refine Ct.body (plainFor_of_name pn_com_example_tollbook_tollbook_benchmark_Workload) ?_
  intro p e s m below meth c T0 hx hby hml hown hnm hret hlk hZ X0 e0
  refine Go.cast (ef_ini m a x1 x2 x3 x4) ?_
  show Go p e below _ T0 (mkF m 0 #[.val (.ref a), .val (.int x1), .val (.int x2), .val (.int x3), .val (.int x4)] [])
  refine Go.s_aloadN X0 hx (hb hby d2_0) (q := 1) rfl rfl rfl ?_
  refine Go.callC (y := mn_3) X0 hx hZ rfl hown (w_ hw 11 rfl) (w_ hw 12 rfl) (w_ hw 15 rfl) (w_ hw 14 rfl) (by decide) e0 (b := a) (argsL := []) (rest := []) (rm_rec l Z a0 hw a _) (by rw [hml]; rfl) (lenOf pd_1 rfl) rfl (hb hby d2_1) (by decide) (by decide) (by decide) (by decide) ?_
  intro r1 T1 L1 q1 X1
  obtain ⟨rfl, rfl, e1⟩ := q1
  rw [List.append_nil] at X1
  show Go p e below _ T1 (mkF m 4 #[.val (.ref a), .val (.int x1), .val (.int x2), .val (.int x3), .val (.int x4)] [])
  refine Go.s_aloadN X1 hx (hb hby d2_4) (q := 5) rfl rfl rfl ?_
  refine Go.s_iloadN X1 hx (hb hby d2_5) (q := 6) rfl rfl ?_
  refine Go.putF X1 hx hZ hown (w_ hw 19 rfl) Via.refl e1 F1 E_a (Or.inr ⟨(w_ hw 20 rfl), rfl, hnm⟩) (w_ hw 6 rfl) (ty := .int) (by decide) rfl rfl (hb hby d2_6) ?_
  intro T2 h2 X2 e2 W2
  have N2 := Fr.snoc X2 (Fr.nil n0) g_a
  have E_a_v3 := E_a.wr W2
  have fact_K_v4 := (Keep.refl h0 [a]).wr W2 (Or.inl (by simp))
  have F2_v5 := F2.other W2 (Or.inr (slot_ne (Or.inr (w_ hw 22 rfl)) (Or.inr (w_ hw 20 rfl)) (by decide) (t := .int) (t' := .int) (by decide) (by decide)))
  have F3_v6 := F3.other W2 (Or.inr (slot_ne (Or.inr (w_ hw 24 rfl)) (Or.inr (w_ hw 20 rfl)) (by decide) (t := .int) (t' := .int) (by decide) (by decide)))
  have F4_v7 := F4.other W2 (Or.inr (slot_ne (Or.inr (w_ hw 26 rfl)) (Or.inr (w_ hw 20 rfl)) (by decide) (t := .int) (t' := .int) (by decide) (by decide)))
  have F_events_a_v8 := F1.same W2
  show Go p e below _ T2 (mkF m 9 #[.val (.ref a), .val (.int x1), .val (.int x2), .val (.int x3), .val (.int x4)] [])
  refine Go.s_aloadN X2 hx (hb hby d2_9) (q := 10) rfl rfl rfl ?_
  refine Go.s_iloadN X2 hx (hb hby d2_10) (q := 11) rfl rfl ?_
  refine Go.putF X2 hx hZ hown (w_ hw 21 rfl) Via.refl e2 F2_v5 E_a_v3 (Or.inr ⟨(w_ hw 22 rfl), rfl, hnm⟩) (w_ hw 6 rfl) (ty := .int) (by decide) rfl rfl (hb hby d2_11) ?_
  intro T9 h9 X9 e9 W9
  have N9 := Fr.snoc X9 N2 g_a
  have E_a_v10 := E_a_v3.wr W9
  have fact_K_v11 := fact_K_v4.wr W9 (Or.inl (by simp))
  have F3_v12 := F3_v6.other W9 (Or.inr (slot_ne (Or.inr (w_ hw 24 rfl)) (Or.inr (w_ hw 22 rfl)) (by decide) (t := .int) (t' := .int) (by decide) (by decide)))
  have F4_v13 := F4_v7.other W9 (Or.inr (slot_ne (Or.inr (w_ hw 26 rfl)) (Or.inr (w_ hw 22 rfl)) (by decide) (t := .int) (t' := .int) (by decide) (by decide)))
  have F_events_a_v14 := F_events_a_v8.other W9 (Or.inr (slot_ne (Or.inr (w_ hw 20 rfl)) (Or.inr (w_ hw 22 rfl)) (by decide) (t := .int) (t' := .int) (by decide) (by decide)))
  have F_batch_a_v15 := F2_v5.same W9
  show Go p e below _ T9 (mkF m 14 #[.val (.ref a), .val (.int x1), .val (.int x2), .val (.int x3), .val (.int x4)] [])
  refine Go.s_aloadN X9 hx (hb hby d2_14) (q := 15) rfl rfl rfl ?_
  refine Go.s_iloadN X9 hx (hb hby d2_15) (q := 16) rfl rfl ?_
  refine Go.putF X9 hx hZ hown (w_ hw 23 rfl) Via.refl e9 F3_v12 E_a_v10 (Or.inr ⟨(w_ hw 24 rfl), rfl, hnm⟩) (w_ hw 6 rfl) (ty := .int) (by decide) rfl rfl (hb hby d2_16) ?_
  intro T16 h16 X16 e16 W16
  have N16 := Fr.snoc X16 N9 g_a
  have E_a_v17 := E_a_v10.wr W16
  have fact_K_v18 := fact_K_v11.wr W16 (Or.inl (by simp))
  have F4_v19 := F4_v13.other W16 (Or.inr (slot_ne (Or.inr (w_ hw 26 rfl)) (Or.inr (w_ hw 24 rfl)) (by decide) (t := .int) (t' := .int) (by decide) (by decide)))
  have F_events_a_v20 := F_events_a_v14.other W16 (Or.inr (slot_ne (Or.inr (w_ hw 20 rfl)) (Or.inr (w_ hw 24 rfl)) (by decide) (t := .int) (t' := .int) (by decide) (by decide)))
  have F_batch_a_v21 := F_batch_a_v15.other W16 (Or.inr (slot_ne (Or.inr (w_ hw 22 rfl)) (Or.inr (w_ hw 24 rfl)) (by decide) (t := .int) (t' := .int) (by decide) (by decide)))
  have F_customers_a_v22 := F3_v12.same W16
  show Go p e below _ T16 (mkF m 19 #[.val (.ref a), .val (.int x1), .val (.int x2), .val (.int x3), .val (.int x4)] [])
  refine Go.s_aloadN X16 hx (hb hby d2_19) (q := 20) rfl rfl rfl ?_
  refine Go.s_iload X16 hx (hb hby d2_20) (q := 22) rfl rfl ?_
  refine Go.putF X16 hx hZ hown (w_ hw 25 rfl) Via.refl e16 F4_v19 E_a_v17 (Or.inr ⟨(w_ hw 26 rfl), rfl, hnm⟩) (w_ hw 6 rfl) (ty := .int) (by decide) rfl rfl (hb hby d2_22) ?_
  intro T23 h23 X23 e23 W23
  have N23 := Fr.snoc X23 N16 g_a
  have E_a_v24 := E_a_v17.wr W23
  have fact_K_v25 := fact_K_v18.wr W23 (Or.inl (by simp))
  have F_events_a_v26 := F_events_a_v20.other W23 (Or.inr (slot_ne (Or.inr (w_ hw 20 rfl)) (Or.inr (w_ hw 26 rfl)) (by decide) (t := .int) (t' := .int) (by decide) (by decide)))
  have F_batch_a_v27 := F_batch_a_v21.other W23 (Or.inr (slot_ne (Or.inr (w_ hw 22 rfl)) (Or.inr (w_ hw 26 rfl)) (by decide) (t := .int) (t' := .int) (by decide) (by decide)))
  have F_customers_a_v28 := F_customers_a_v22.other W23 (Or.inr (slot_ne (Or.inr (w_ hw 24 rfl)) (Or.inr (w_ hw 26 rfl)) (by decide) (t := .int) (t' := .int) (by decide) (by decide)))
  have F_clients_a_v29 := F4_v19.same W23
  show Go p e below _ T23 (mkF m 25 #[.val (.ref a), .val (.int x1), .val (.int x2), .val (.int x3), .val (.int x4)] [])
  refine Go.retV X23 hx hlk hret (hb hby d2_25) (by decide) (by decide) ?_
  try rw [e23]
  exact ⟨rfl, N23, fact_K_v25, E_a_v24, F_events_a_v26, F_batch_a_v27⟩
theorem ef_rq (m : MethodId) (x0 : Addr) : entryFrame m #[(.ref x0)] 1 = mkF m 0 #[.val (.ref x0)] [] := by first | (simp [entryFrame, mkF, argsToLocals, Value.category]; done) | rfl
set_option maxRecDepth 65536 in
set_option maxHeartbeats 40000000 in
theorem rm_rq (l : Launch) (Z : State) (a0 : Array Value) (hw : ∀ d ∈ tables_1, d.before a0 Z = true) (a : Addr) (h0 : Heap) (ev ba : Int32) (F_e : Fld Z h0 a "com/example/tollbook/tollbook/benchmark/Workload" "events" "I" (.int ev)) (F_b : Fld Z h0 a "com/example/tollbook/tollbook/benchmark/Workload" "batch" "I" (.int ba)) (hnz : ba.toInt64 ≠ 0) :
    Ct l mn_5 prog_9_method_2_code 1 (some .int) ({ frames := 0, cells := 0, slots := 0, locals := 0 } : Room) Z h0 #[(.ref a)] (fun v h L => ∃ r, v = some (.int r) ∧ r = ((((ev.toInt64) + (ba.toInt64)) - (1 : Int64)) / (ba.toInt64)).toInt32 ∧ L = [] ∧ h = h0) := by
  refine Ct.body (plainFor_of_name pn_com_example_tollbook_tollbook_benchmark_Workload) ?_
  intro p e s m below meth c T0 hx hby hml hown hnm hret hlk hZ X0 e0
  refine Go.cast (ef_rq m a) ?_
  show Go p e below _ T0 (mkF m 0 #[.val (.ref a)] [])
  refine Go.s_aloadN X0 hx (hb hby d5_0) (q := 1) rfl rfl rfl ?_
  refine Go.getF X0 hx hZ hown (w_ hw 19 rfl) Via.refl e0 F_e (hb hby d5_1) ?_
  intro T1 X1 e1
  show Go p e below _ T1 (mkF m 4 #[.val (.ref a)] [(.int ev)])
  refine Go.s_i2l X1 hx (hb hby d5_4) (q := 5) rfl ?_
  refine Go.s_aloadN X1 hx (hb hby d5_5) (q := 6) rfl rfl rfl ?_
  refine Go.getF X1 hx hZ hown (w_ hw 21 rfl) Via.refl e1 F_b (hb hby d5_6) ?_
  intro T2 X2 e2
  show Go p e below _ T2 (mkF m 9 #[.val (.ref a)] [(.int ba), (.long (ev.toInt64))])
  refine Go.s_i2l X2 hx (hb hby d5_9) (q := 10) rfl ?_
  refine Go.s_ladd X2 hx (hb hby d5_10) (q := 11) rfl ?_
  refine Go.s_lconst X2 hx (hb hby d5_11) (q := 12) rfl (z := 1) rfl ?_
  refine Go.s_lsub X2 hx (hb hby d5_12) (q := 13) rfl ?_
  refine Go.s_aloadN X2 hx (hb hby d5_13) (q := 14) rfl rfl rfl ?_
  refine Go.getF X2 hx hZ hown (w_ hw 21 rfl) Via.refl e2 F_b (hb hby d5_14) ?_
  intro T3 X3 e3
  show Go p e below _ T3 (mkF m 17 #[.val (.ref a)] [(.int ba), (.long (((ev.toInt64) + (ba.toInt64)) - (1 : Int64)))])
  refine Go.s_i2l X3 hx (hb hby d5_17) (q := 18) rfl ?_
  refine Go.s_ldiv X3 hx (hb hby d5_18) (q := 19) rfl hnz ?_
  refine Go.s_l2i X3 hx (hb hby d5_19) (q := 20) rfl ?_
  refine Go.retI X3 hx hlk hret (hb hby d5_20) (by decide) (by decide) ?_
  try rw [e3]
  exact ⟨_, rfl, rfl, rfl, rfl⟩
theorem ef_law (m : MethodId) (x0 : Int32) (x1 : Int32) (x2 : Int32) (x3 : Int32) : entryFrame m #[(.int x0), (.int x1), (.int x2), (.int x3)] maxLocals = mkF m 0 #[.val (.int x0), .val (.int x1), .val (.int x2), .val (.int x3), .unset, .unset, .unset, .unset, .unset, .unset, .unset] [] := by first | (simp [entryFrame, mkF, argsToLocals, Value.category, maxLocals]; done) | rfl
set_option maxRecDepth 65536 in
set_option maxHeartbeats 40000000 in
theorem rm_law (l : Launch) (Z : State) (a0 : Array Value) (hw : ∀ d ∈ tables_1, d.before a0 Z = true) (x0 : Int32) (x1 : Int32) (x2 : Int32) (x3 : Int32) (h0 : Heap) (n0 : Nat) (Z0 : n0 ≤ h0.size) :
    Ct l x code maxLocals ret room_1 Z h0 #[(.int x0), (.int x1), (.int x2), (.int x3)] (fun v h L => v = some (.int 1) ∧ Fr n0 L) := by
  refine Ct.body (plainFor_of_name pn_com_example_tollbook_tollbook_benchmark_WorkloadRequestsPinLaw) ?_
  intro p e s m below meth c T0 hx hby hml hown hnm hret hlk hZ X0 e0
  refine Go.cast (ef_law m x0 x1 x2 x3) ?_
  show Go p e below _ T0 (mkF m 0 #[.val (.int x0), .val (.int x1), .val (.int x2), .val (.int x3), .unset, .unset, .unset, .unset, .unset, .unset, .unset] [])
  refine Go.s_iloadN X0 hx (hb hby at_0) (q := 1) rfl rfl ?_
  refine Go.s_ldc X0 hx (hb hby at_1) (q := 3) rfl hown (mvT hZ (w_ hw 0 rfl)) ?_
  refine Go.s_iand X0 hx (hb hby at_3) (q := 4) rfl ?_
  refine Go.s_istore X0 hx (hb hby at_4) (q := 6) rfl (l' := #[.val (.int x0), .val (.int x1), .val (.int x2), .val (.int x3), .val (.int (x0 &&& (2147483647 : Int32))), .unset, .unset, .unset, .unset, .unset, .unset]) rfl ?_
  generalize hv1 : (x0 &&& (2147483647 : Int32)) = v1
  refine Go.s_iconst X0 hx (hb hby at_6) (q := 7) rfl (z := 1) rfl ?_
  refine Go.s_iloadN X0 hx (hb hby at_7) (q := 8) rfl rfl ?_
  refine Go.s_ldc X0 hx (hb hby at_8) (q := 10) rfl hown (mvT hZ (w_ hw 0 rfl)) ?_
  refine Go.s_iand X0 hx (hb hby at_10) (q := 11) rfl ?_
  refine Go.callS (y := mn_1) X0 hx hZ hown (w_ hw 1 rfl) (w_ hw 2 rfl) (w_ hw 3 rfl) (w_ hw 4 rfl) (by decide) e0 (argsL := [(.int (1 : Int32)), (.int (x1 &&& (2147483647 : Int32)))]) (rest := []) (rm_mx l Z a0 hw (1 : Int32) (x1 &&& (2147483647 : Int32)) _) (by rw [hml]; rfl) (lenOf pd_2 rfl) rfl (hb hby at_11) (by decide) (by decide) (by decide) (by decide) ?_
  intro r2 T2 L2 q2 X2
  obtain ⟨w2, rfl, p2, rfl, e2⟩ := q2
  rw [List.append_nil] at X2
  have hge := max_one p2
  show Go p e below _ T2 (mkF m 14 #[.val (.int x0), .val (.int x1), .val (.int x2), .val (.int x3), .val (.int v1), .unset, .unset, .unset, .unset, .unset, .unset] [(.int w2)])
  refine Go.s_istore X2 hx (hb hby at_14) (q := 16) rfl (l' := #[.val (.int x0), .val (.int x1), .val (.int x2), .val (.int x3), .val (.int v1), .val (.int w2), .unset, .unset, .unset, .unset, .unset]) rfl ?_
  refine Go.newO X2 hx hZ hown (w_ hw 5 rfl) (w_ hw 6 rfl) (w_ hw 7 rfl) e2 (hb hby at_16) (by decide) (by decide) ?_
  intro T3 h3 b3 g3 X3 e3 E3 A3 D3
  have g_b3 : n0 ≤ b3 := g3 ▸ Z0
  have Z0_v4 := Nat.le_trans Z0 E3.1
  have F_events_b3 : Fld Z h3 b3 "com/example/tollbook/tollbook/benchmark/Workload" "events" "I" (.int (0 : Int32)) := D3 (Or.inr (w_ hw 20 rfl)) (ty := .int) (by decide)
  have F_batch_b3 : Fld Z h3 b3 "com/example/tollbook/tollbook/benchmark/Workload" "batch" "I" (.int (0 : Int32)) := D3 (Or.inr (w_ hw 22 rfl)) (ty := .int) (by decide)
  have F_customers_b3 : Fld Z h3 b3 "com/example/tollbook/tollbook/benchmark/Workload" "customers" "I" (.int (0 : Int32)) := D3 (Or.inr (w_ hw 24 rfl)) (ty := .int) (by decide)
  have F_clients_b3 : Fld Z h3 b3 "com/example/tollbook/tollbook/benchmark/Workload" "clients" "I" (.int (0 : Int32)) := D3 (Or.inr (w_ hw 26 rfl)) (ty := .int) (by decide)
  show Go p e below _ T3 (mkF m 19 #[.val (.int x0), .val (.int x1), .val (.int x2), .val (.int x3), .val (.int v1), .val (.int w2), .unset, .unset, .unset, .unset, .unset] [(.ref b3)])
  refine Go.s_dup X3 hx (hb hby at_19) (q := 20) rfl rfl ?_
  refine Go.s_iload X3 hx (hb hby at_20) (q := 22) rfl rfl ?_
  refine Go.s_iload X3 hx (hb hby at_22) (q := 24) rfl rfl ?_
  refine Go.s_iloadN X3 hx (hb hby at_24) (q := 25) rfl rfl ?_
  refine Go.s_iloadN X3 hx (hb hby at_25) (q := 26) rfl rfl ?_
  refine Go.callC (y := mn_2) X3 hx hZ rfl hown (w_ hw 8 rfl) (w_ hw 9 rfl) (w_ hw 10 rfl) (w_ hw 7 rfl) (by decide) e3 (b := b3) (argsL := [(.int v1), (.int w2), (.int x2), (.int x3)]) (rest := [(.ref b3)]) (rm_ini l Z a0 hw b3 v1 w2 x2 x3 h3 n0 _ _ _ _ A3 F_events_b3 F_batch_b3 F_customers_b3 F_clients_b3 g_b3) (by rw [hml]; rfl) (lenOf pd_3 rfl) rfl (hb hby at_26) (by first | decide | exact Nat.le_of_ble_eq_true rfl) (by first | decide | exact Nat.le_of_ble_eq_true rfl) (by first | decide | exact Nat.le_of_ble_eq_true rfl) (by first | decide | exact Nat.le_of_ble_eq_true rfl) ?_
  intro r5 T5 L5 q5 X5
  obtain ⟨rfl, N5q, K5, Ea5, Fe5, Fb5⟩ := q5
  have N5 := Fr.app (Fr.nil n0) N5q
  have Z0_v6 := Nat.le_trans Z0_v4 K5.1
  have A3_v7 := A3.keep K5
  show Go p e below _ T5 (mkF m 29 #[.val (.int x0), .val (.int x1), .val (.int x2), .val (.int x3), .val (.int v1), .val (.int w2), .unset, .unset, .unset, .unset, .unset] [(.ref b3)])
  refine Go.s_astore X5 hx (hb hby at_29) (q := 31) rfl rfl (l' := #[.val (.int x0), .val (.int x1), .val (.int x2), .val (.int x3), .val (.int v1), .val (.int w2), .val (.ref b3), .unset, .unset, .unset, .unset]) rfl ?_
  refine Go.s_aload X5 hx (hb hby at_31) (q := 33) rfl rfl rfl ?_
  have hnz := nz64 hge
  refine Go.callV (y := mn_5) (z := mn_5) X5 hx hZ hown (w_ hw 27 rfl) (w_ hw 28 rfl) (notFace_of_selects (args := #[]) (mvT hZ (w_ hw 30 rfl))) (w_ hw 30 rfl) (w_ hw 29 rfl) (w_ hw 31 rfl) (w_ hw 7 rfl) (by decide) rfl Ea5 (argsL := []) (rest := []) (rm_rq l Z a0 hw b3 T5.heap v1 w2 Fe5 Fb5 hnz) (by rw [hml]; rfl) (lenOf pd_0 rfl) rfl (hb hby at_33) (by decide) (by decide) (by decide) (by decide) ?_
  intro r8 T8 L8 q8 X8
  obtain ⟨w8, rfl, p8, rfl, e8⟩ := q8
  rw [List.append_nil] at X8
  show Go p e below _ T8 (mkF m 36 #[.val (.int x0), .val (.int x1), .val (.int x2), .val (.int x3), .val (.int v1), .val (.int w2), .val (.ref b3), .unset, .unset, .unset, .unset] [(.int w8)])
  refine Go.s_istore X8 hx (hb hby at_36) (q := 38) rfl (l' := #[.val (.int x0), .val (.int x1), .val (.int x2), .val (.int x3), .val (.int v1), .val (.int w2), .val (.ref b3), .val (.int w8), .unset, .unset, .unset]) rfl ?_
  refine Go.s_iload X8 hx (hb hby at_38) (q := 40) rfl rfl ?_
  refine Go.s_iload X8 hx (hb hby at_40) (q := 42) rfl rfl ?_
  refine Go.s_idiv X8 hx (hb hby at_42) (q := 43) rfl (nz32 hge) ?_
  refine Go.s_istore X8 hx (hb hby at_43) (q := 45) rfl (l' := #[.val (.int x0), .val (.int x1), .val (.int x2), .val (.int x3), .val (.int v1), .val (.int w2), .val (.ref b3), .val (.int w8), .val (.int (v1 / w2)), .unset, .unset]) rfl ?_
  generalize hv9 : (v1 / w2) = v9
  refine Go.s_iload X8 hx (hb hby at_45) (q := 47) rfl rfl ?_
  refine Go.s_iload X8 hx (hb hby at_47) (q := 49) rfl rfl ?_
  refine Go.s_irem X8 hx (hb hby at_49) (q := 50) rfl (nz32 hge) ?_
  refine Go.s_istore X8 hx (hb hby at_50) (q := 52) rfl (l' := #[.val (.int x0), .val (.int x1), .val (.int x2), .val (.int x3), .val (.int v1), .val (.int w2), .val (.ref b3), .val (.int w8), .val (.int v9), .val (.int (v1 % w2)), .unset]) rfl ?_
  generalize hv10 : (v1 % w2) = v10
  refine Go.s_iload X8 hx (hb hby at_52) (q := 54) rfl rfl ?_
  by_cases c54_11 : v10 = (0 : Int32)
  · -- pc 54: v10 = (0 : Int32)
    refine Go.s_ifNo X8 hx (hb hby at_54) (q := 57) rfl ((if0 _ _).trans (teq c54_11).2) ?_
    refine Go.s_iload X8 hx (hb hby at_57) (q := 59) rfl rfl ?_
    refine Go.s_istore X8 hx (hb hby at_59) (q := 61) rfl (l' := #[.val (.int x0), .val (.int x1), .val (.int x2), .val (.int x3), .val (.int v1), .val (.int w2), .val (.ref b3), .val (.int w8), .val (.int v9), .val (.int v10), .val (.int v9)]) rfl ?_
    refine Go.s_goto X8 hx (hb hby at_61) (q := 70) (by decide) (by decide) ?_
    refine Go.s_iload X8 hx (hb hby at_70) (q := 72) rfl rfl ?_
    refine Go.s_iload X8 hx (hb hby at_72) (q := 74) rfl rfl ?_
    by_cases c74_12 : w8 = v9
    · -- pc 74: w8 = v9
      refine Go.s_icmpNo X8 hx (hb hby at_74) (q := 77) rfl (teq c74_12).2 ?_
      refine Go.s_iconst X8 hx (hb hby at_77) (q := 78) rfl (z := 1) rfl ?_
      refine Go.s_goto X8 hx (hb hby at_78) (q := 82) (by decide) (by decide) ?_
      refine Go.retN X8 hx hlk hret (by simp) (hb hby at_82) (by decide) (by decide) ?_
      try rw [e8]
      exact ⟨by decide, N5⟩
    · -- pc 74: not w8 = v9
      refine Go.s_icmpYes X8 hx (hb hby at_74) (q := 81) (by decide) (by decide) (feq c74_12).2 ?_
      refine Go.s_iconst X8 hx (hb hby at_81) (q := 82) rfl (z := 0) rfl ?_
      refine Go.retN X8 hx hlk hret (by simp) (hb hby at_82) (by decide) (by decide) ?_
      try rw [e8]
      exfalso
      have sh := ceil v1 w2 w8 v9 v10 (mask_nn hv1) hge p8 hv9 hv10
      exact c74_12 (sh.1 c54_11)
  · -- pc 54: not v10 = (0 : Int32)
    refine Go.s_ifYes X8 hx (hb hby at_54) (q := 64) (by decide) (by decide) ((if0 _ _).trans (feq c54_11).2) ?_
    refine Go.s_iload X8 hx (hb hby at_64) (q := 66) rfl rfl ?_
    refine Go.s_iconst X8 hx (hb hby at_66) (q := 67) rfl (z := 1) rfl ?_
    refine Go.s_iadd X8 hx (hb hby at_67) (q := 68) rfl ?_
    refine Go.s_istore X8 hx (hb hby at_68) (q := 70) rfl (l' := #[.val (.int x0), .val (.int x1), .val (.int x2), .val (.int x3), .val (.int v1), .val (.int w2), .val (.ref b3), .val (.int w8), .val (.int v9), .val (.int v10), .val (.int (v9 + (1 : Int32)))]) rfl ?_
    generalize hv13 : (v9 + (1 : Int32)) = v13
    refine Go.s_iload X8 hx (hb hby at_70) (q := 72) rfl rfl ?_
    refine Go.s_iload X8 hx (hb hby at_72) (q := 74) rfl rfl ?_
    by_cases c74_14 : w8 = v13
    · -- pc 74: w8 = v13
      refine Go.s_icmpNo X8 hx (hb hby at_74) (q := 77) rfl (teq c74_14).2 ?_
      refine Go.s_iconst X8 hx (hb hby at_77) (q := 78) rfl (z := 1) rfl ?_
      refine Go.s_goto X8 hx (hb hby at_78) (q := 82) (by decide) (by decide) ?_
      refine Go.retN X8 hx hlk hret (by simp) (hb hby at_82) (by decide) (by decide) ?_
      try rw [e8]
      exact ⟨by decide, N5⟩
    · -- pc 74: not w8 = v13
      refine Go.s_icmpYes X8 hx (hb hby at_74) (q := 81) (by decide) (by decide) (feq c74_14).2 ?_
      refine Go.s_iconst X8 hx (hb hby at_81) (q := 82) rfl (z := 0) rfl ?_
      refine Go.retN X8 hx hlk hret (by simp) (hb hby at_82) (by decide) (by decide) ?_
      try rw [e8]
      exfalso
      have sh := ceil v1 w2 w8 v9 v10 (mask_nn hv1) hge p8 hv9 hv10
      exact c74_14 ((sh.2 c54_11).trans hv13)
set_option maxRecDepth 65536 in
set_option maxHeartbeats 40000000 in
theorem comes_1 {Post : Tables → Env → Array Value → State → Outcome → State → Prop} (hpost : ∀ tb e args s v u, (limb_1_1.after args s (.returned v) u = true ∧ limb_1_2.after args s (.returned v) u = true ∧ True) → FrameEnd s (.returned v) u (Jvm.fieldLocs frame_1_writes args s ++ Jvm.arrayLocs frame_1_arrays args s ++ Jvm.staticLocs frame_1_statics s) 16 128 → Post tb e args s (.returned v) u) :
    ArmFor flags0 classFile x code maxLocals ret World_1 tables_1 room_1 Calls_1 rest_1 Pre_1 Post := by
  intro l hfl _ _ p e ha hc hk s m args below hf hA hF happ hP
  obtain ⟨hcalls, hrest, hpre⟩ := hP
  obtain ⟨-, -, -, hnamed, -, -, -, hat⟩ := (Spec.applies_iff hf).mp happ
  obtain ⟨hg, hn⟩ := and_e (Cond.before_iff.mp (show (Jvm.Cond.and given_1 narrow_1).before args s = true from hpre))
  obtain ⟨hgl, hgr⟩ := and_e hg
  obtain ⟨hgrl, hgrr⟩ := and_e hgr
  obtain ⟨hgrrl, hgrrr⟩ := and_e hgrr
  obtain ⟨hgrrrl, hgrrrr⟩ := and_e hgrrr
  obtain ⟨w0, w1, w2, w3, rfl⟩ : ∃ w0 w1 w2 w3 : Value, args = #[w0, w1, w2, w3] := by
    have hs : args.size = 4 := by simpa [Cond.value, given_1] using hgl
    obtain ⟨L⟩ := args
    match L, hs with
    | [w0, w1, w2, w3], _ => exact ⟨w0, w1, w2, w3, rfl⟩
  have hw := fun d (hd : d ∈ tables_1) => atoms_spec (ws := Jvm.Cond.code x code maxLocals ret :: tables_1) hat d (List.mem_cons_of_mem _ hd)
  obtain ⟨i0, ev0⟩ := is_v hgrl
  obtain rfl : w0 = (.int i0) := Option.some.inj ev0
  obtain ⟨i1, ev1⟩ := is_v hgrrl
  obtain rfl : w1 = (.int i1) := Option.some.inj ev1
  obtain ⟨i2, ev2⟩ := is_v hgrrrl
  obtain rfl : w2 = (.int i2) := Option.some.inj ev2
  obtain ⟨i3, ev3⟩ := is_v hgrrrr
  obtain rfl : w3 = (.int i3) := Option.some.inj ev3
  obtain ⟨n, o, h1, h2, h3, _, L, rfl, ⟨rfl, N⟩, hq⟩ := rm_law l s _ hw i0 i1 i2 i3 s.heap s.heap.size (Nat.le_refl _) tables_1 p e ha hc hk s m _ below hf ((Spec.applies_iff_loose hf).mp happ).1 ⟨rfl, State.Warmed39.refl s, rfl⟩ trivial
  refine ⟨n, _, h1, h2, h3, hpost _ _ _ _ _ _ ⟨Cond.after_iff.mpr rfl, Cond.after_iff.mpr (eq_i res_at (Term.int_eval (1)) rfl), trivial⟩ ⟨hq.1, hq.2.1, (hq.2.2.sift fun y hy => Or.inr (N y hy)).mono (by decide) (by decide)⟩⟩
theorem main_1_1 : Claimed_1_1 := comes_1 fun _ _ _ _ _ _ h hF => ⟨h.1, hF⟩
theorem main_1_2 : Claimed_1_2 := comes_1 fun _ _ _ _ _ _ h hF => ⟨h.2.1, hF⟩
end Jvm.Pilot.@@N@@
namespace Jvm.Pilot.@@N@@
open Jvm Jvm.ClassFile Sem Op Lib Jvm.Free Jvm.Stand Jvm.Pilot.@@N@@.Jvm.D
/-! MADE BY PROGRAM (witnessworld.py) out of the Statement's table words and the real class files: 11 classes; the members and pool entries that the words name. The judged class is class 1, her method 1. -/
namespace start1
open Jvm.ClassFile
def u (s : String) : CpInfo := .utf8 (stringToUtf16 s)
/-- a pool by its gaps: so many unusable entries, then the entry; so many at the end -/
def gap : Nat → List CpInfo → List CpInfo
  | 0, r => r
  | n + 1, r => .unusable :: gap n r
def poolList (es : List (Nat × CpInfo)) (last : Nat) : List CpInfo := es.foldr (fun e r => gap e.1 (e.2 :: r)) (gap last [])
def pool (es : List (Nat × CpInfo)) (last : Nat) : Array CpInfo := ⟨poolList es last⟩
def fileOf (pool : Array CpInfo) (this : Nat) (attrs : Array Attribute := #[]) (ms : Array MethodInfo := #[]) (fl : Nat := 33) (sup : Nat := 0) (ifs : Array Nat := #[]) (fds : Array FieldInfo := #[]) : ClassFile where
  minorVersion := 0
  majorVersion := 65
  constantPool := pool
  accessFlags := fl
  thisClass := this
  superClass := sup
  interfaces := ifs
  fields := fds
  methods := ms
  attributes := attrs
def plain (name : String) (sup : Option ClassId) : Class where
  name := name
  kind := .ordinary
  loader := none
  accessFlags := 33
  super := sup
  interfaces := #[]
  cf := none
  fields := #[]
  methods := #[]
  instanceTypes := #[]
  staticTypes := #[]
  resolved := #[]
  callSites := []
  init := .initialized
  statics := none
  mirror := none

def pool0 : Array CpInfo := pool [(5, u "<init>"), (0, u "()V"), (1, .class_ 10), (1, u "java/lang/Object")] 113

def k0c0 : Code := { maxStack := 0, maxLocals := 1, code := object_method_1_code, exceptionTable := #[], attributes := #[] }
def k0m0 : Method := { name := "<init>", desc := "()V", sig := { parameters := [], returnType := none }, accessFlags := 1, code := some k0c0 }
/-- java/lang/Object -/
def k0 : Class := { plain "java/lang/Object" none with
  accessFlags := 33
  interfaces := #[]
  cf := some (fileOf pool0 8 #[] #[{ accessFlags := 1, nameIndex := 5, descriptorIndex := 6, attributes := #[] }] 33 0 #[] #[])
  fields := #[]
  methods := #[k0m0]
  instanceTypes := #[]
  staticTypes := #[]
  resolved := Array.replicate 124 none
  statics := none }

def pool1 : Array CpInfo := pool [(2, .class_ 4), (1, u "java/lang/Object"), (0, u "<init>"), (0, u "()V"), (0, .integer 2147483647), (0, .methodref 9 10), (0, .class_ 11), (0, .nameAndType 12 13), (0, u "java/lang/Math"), (0, u "max"), (0, u "(II)I"), (0, .class_ 15), (0, u "com/example/tollbook/tollbook/benchmark/Workload"), (0, .methodref 14 17), (0, .nameAndType 5 18), (0, u "(IIII)V"), (0, .methodref 14 20), (0, .nameAndType 21 22), (0, u "requests"), (0, u "()I"), (0, .class_ 24), (0, u "com/example/tollbook/tollbook/benchmark/WorkloadRequestsPinLaw"), (2, u "law"), (0, u "(IIII)Z")] 3

def k1m0 : Method := { name := "<init>", desc := "()V", sig := { parameters := [], returnType := none }, accessFlags := 1, code := none }
def k1c1 : Code := { maxStack := 6, maxLocals := 11, code := code, exceptionTable := #[], attributes := #[] }
def k1m1 : Method := { name := "law", desc := "(IIII)Z", sig := { parameters := [.int, .int, .int, .int], returnType := some .boolean }, accessFlags := 9, code := some k1c1 }
/-- com/example/tollbook/tollbook/benchmark/WorkloadRequestsPinLaw -/
def k1 : Class := { plain "com/example/tollbook/tollbook/benchmark/WorkloadRequestsPinLaw" (some 0) with
  accessFlags := 49
  interfaces := #[]
  cf := some (fileOf pool1 23 #[] #[{ accessFlags := 1, nameIndex := 5, descriptorIndex := 6, attributes := #[] }, { accessFlags := 9, nameIndex := 27, descriptorIndex := 28, attributes := #[] }] 49 2 #[] #[])
  fields := #[]
  methods := #[k1m0, k1m1]
  instanceTypes := #[]
  staticTypes := #[]
  resolved := Array.replicate 32 none
  statics := none }

def pool2 : Array CpInfo := pool [(1, .class_ 2), (0, u "java/lang/Math"), (1, .class_ 6), (1, u "java/lang/Object"), (0, u "<init>"), (0, u "()V"), (89, .class_ 100), (1, u "java/lang/Math$RandomNumberGeneratorHolder"), (71, u "negativeZeroFloatBits"), (0, u "J"), (2, u "negativeZeroDoubleBits"), (21, u "max"), (46, u "$assertionsDisabled"), (0, u "Z"), (88, u "(II)I"), (2, u "twoToTheDoubleScaleDown"), (0, u "D"), (4, u "twoToTheDoubleScaleUp"), (9, u "E"), (3, u "PI"), (2, u "TAU"), (2, u "DEGREES_TO_RADIANS"), (0, u "RADIANS_TO_DEGREES")] 94

def k2m0 : Method := { name := "<init>", desc := "()V", sig := { parameters := [], returnType := none }, accessFlags := 2, code := none }
def k2c1 : Code := { maxStack := 2, maxLocals := 2, code := jdk_29_method_65_code, exceptionTable := #[], attributes := #[] }
def k2m1 : Method := { name := "max", desc := "(II)I", sig := { parameters := [.int, .int], returnType := some .int }, accessFlags := 9, code := some k2c1 }
/-- java/lang/Math -/
def k2 : Class := { plain "java/lang/Math" (some 0) with
  accessFlags := 49
  interfaces := #[]
  cf := some (fileOf pool2 1 #[.nestMembers #[98]] #[{ accessFlags := 2, nameIndex := 7, descriptorIndex := 8, attributes := #[] }, { accessFlags := 9, nameIndex := 198, descriptorIndex := 335, attributes := #[] }] 49 4 #[] #[{ accessFlags := 25, nameIndex := 354, descriptorIndex := 339, attributes := #[] }, { accessFlags := 25, nameIndex := 358, descriptorIndex := 339, attributes := #[] }, { accessFlags := 25, nameIndex := 361, descriptorIndex := 339, attributes := #[] }, { accessFlags := 26, nameIndex := 364, descriptorIndex := 339, attributes := #[] }, { accessFlags := 26, nameIndex := 365, descriptorIndex := 339, attributes := #[] }, { accessFlags := 26, nameIndex := 172, descriptorIndex := 173, attributes := #[] }, { accessFlags := 26, nameIndex := 176, descriptorIndex := 173, attributes := #[] }, { accessFlags := 8, nameIndex := 344, descriptorIndex := 339, attributes := #[] }, { accessFlags := 8, nameIndex := 338, descriptorIndex := 339, attributes := #[] }, { accessFlags := 4120, nameIndex := 245, descriptorIndex := 246, attributes := #[] }])
  fields := #[{ name := "E", type := .double, accessFlags := 25, slot := 0, constantValue := 0 }, { name := "PI", type := .double, accessFlags := 25, slot := 1, constantValue := 0 }, { name := "TAU", type := .double, accessFlags := 25, slot := 2, constantValue := 0 }, { name := "DEGREES_TO_RADIANS", type := .double, accessFlags := 26, slot := 3, constantValue := 0 }, { name := "RADIANS_TO_DEGREES", type := .double, accessFlags := 26, slot := 4, constantValue := 0 }, { name := "negativeZeroFloatBits", type := .long, accessFlags := 26, slot := 5, constantValue := 0 }, { name := "negativeZeroDoubleBits", type := .long, accessFlags := 26, slot := 6, constantValue := 0 }, { name := "twoToTheDoubleScaleUp", type := .double, accessFlags := 8, slot := 7, constantValue := 0 }, { name := "twoToTheDoubleScaleDown", type := .double, accessFlags := 8, slot := 8, constantValue := 0 }, { name := "$assertionsDisabled", type := .boolean, accessFlags := 4120, slot := 9, constantValue := 0 }]
  methods := #[k2m0, k2m1]
  instanceTypes := #[]
  staticTypes := #[.double, .double, .double, .double, .double, .long, .long, .double, .double, .boolean]
  resolved := Array.replicate 460 none
  statics := none }

def pool3 : Array CpInfo := pool [(1, .methodref 2 3), (0, .class_ 4), (0, .nameAndType 5 6), (0, u "java/lang/Object"), (0, u "<init>"), (0, u "()V"), (0, .class_ 8), (0, u "java/lang/Record")] 13

def k3c0 : Code := { maxStack := 1, maxLocals := 1, code := jdk_30_method_1_code, exceptionTable := #[], attributes := #[] }
def k3m0 : Method := { name := "<init>", desc := "()V", sig := { parameters := [], returnType := none }, accessFlags := 4, code := some k3c0 }
/-- java/lang/Record -/
def k3 : Class := { plain "java/lang/Record" (some 0) with
  accessFlags := 1057
  interfaces := #[]
  cf := some (fileOf pool3 7 #[] #[{ accessFlags := 4, nameIndex := 5, descriptorIndex := 6, attributes := #[] }] 1057 2 #[] #[])
  fields := #[]
  methods := #[k3m0]
  instanceTypes := #[]
  staticTypes := #[]
  resolved := Array.replicate 22 none
  statics := none }

def pool4 : Array CpInfo := pool [(1, .methodref 2 3), (0, .class_ 4), (0, .nameAndType 5 6), (0, u "java/lang/Record"), (0, u "<init>"), (0, u "()V"), (0, .fieldref 8 9), (0, .class_ 10), (0, .nameAndType 11 12), (0, u "com/example/tollbook/tollbook/benchmark/Workload"), (0, u "events"), (0, u "I"), (0, .fieldref 8 14), (0, .nameAndType 15 12), (0, u "batch"), (0, .fieldref 8 17), (0, .nameAndType 18 12), (0, u "customers"), (0, .fieldref 8 20), (0, .nameAndType 21 12), (0, u "clients"), (12, u "(IIII)V"), (3, u "requests"), (0, u "()I")] 25

def k4c0 : Code := { maxStack := 2, maxLocals := 5, code := prog_9_method_1_code, exceptionTable := #[], attributes := #[] }
def k4m0 : Method := { name := "<init>", desc := "(IIII)V", sig := { parameters := [.int, .int, .int, .int], returnType := none }, accessFlags := 0, code := some k4c0 }
def k4c1 : Code := { maxStack := 4, maxLocals := 1, code := prog_9_method_2_code, exceptionTable := #[], attributes := #[] }
def k4m1 : Method := { name := "requests", desc := "()I", sig := { parameters := [], returnType := some .int }, accessFlags := 0, code := some k4c1 }
/-- com/example/tollbook/tollbook/benchmark/Workload -/
def k4 : Class := { plain "com/example/tollbook/tollbook/benchmark/Workload" (some 3) with
  accessFlags := 48
  interfaces := #[]
  cf := some (fileOf pool4 8 #[] #[{ accessFlags := 0, nameIndex := 5, descriptorIndex := 34, attributes := #[] }, { accessFlags := 0, nameIndex := 38, descriptorIndex := 39, attributes := #[] }] 48 2 #[] #[{ accessFlags := 18, nameIndex := 11, descriptorIndex := 12, attributes := #[] }, { accessFlags := 18, nameIndex := 15, descriptorIndex := 12, attributes := #[] }, { accessFlags := 18, nameIndex := 18, descriptorIndex := 12, attributes := #[] }, { accessFlags := 18, nameIndex := 21, descriptorIndex := 12, attributes := #[] }])
  fields := #[{ name := "events", type := .int, accessFlags := 18, slot := 0, constantValue := 0 }, { name := "batch", type := .int, accessFlags := 18, slot := 1, constantValue := 0 }, { name := "customers", type := .int, accessFlags := 18, slot := 2, constantValue := 0 }, { name := "clients", type := .int, accessFlags := 18, slot := 3, constantValue := 0 }]
  methods := #[k4m0, k4m1]
  instanceTypes := #[.int, .int, .int, .int]
  staticTypes := #[]
  resolved := Array.replicate 65 none
  statics := none }

def pool5 : Array CpInfo := pool [(1, u "java/lang/Cloneable"), (0, .class_ 1), (0, u "java/lang/Object"), (0, .class_ 3)] 3

/-- java/lang/Cloneable -/
def k5 : Class := { plain "java/lang/Cloneable" (some 0) with
  accessFlags := 1537
  interfaces := #[]
  cf := some (fileOf pool5 2 #[] #[] 1537 4 #[] #[])
  fields := #[]
  methods := #[]
  instanceTypes := #[]
  staticTypes := #[]
  resolved := Array.replicate 8 none
  statics := none }

def pool6 : Array CpInfo := pool [(1, u "java/io/Serializable"), (0, .class_ 1), (0, u "java/lang/Object"), (0, .class_ 3)] 3

/-- java/io/Serializable -/
def k6 : Class := { plain "java/io/Serializable" (some 0) with
  accessFlags := 1537
  interfaces := #[]
  cf := some (fileOf pool6 2 #[] #[] 1537 4 #[] #[])
  fields := #[]
  methods := #[]
  instanceTypes := #[]
  staticTypes := #[]
  resolved := Array.replicate 8 none
  statics := none }

/-- the primitive byte -/
def k7 : Class := { plain "byte" none with kind := .primitive 'B', accessFlags := 0x411 }
/-- [B -/
def k8 : Class := { plain "[B" (some 0) with kind := .array 7 .byte, interfaces := #[5, 6], accessFlags := 1041 }

/-- the primitive int -/
def k9 : Class := { plain "int" none with kind := .primitive 'I', accessFlags := 0x411 }
/-- [I -/
def k10 : Class := { plain "[I" (some 0) with kind := .array 9 .int, interfaces := #[5, 6], accessFlags := 1041 }

def heap : Heap := #[]
def classes : Array Class := #[k0, k1, k2, k3, k4, k5, k6, k7, k8, k9, k10]
def interned : List (Array UInt16 × Addr) := []
def slotsUsed : Nat := 0
def theMethod : MethodId := ⟨1, 1⟩
def args0 : Array Value := #[.int 5, .int 3, .int 2, .int 1]
def aboutOver (below : List Frame) : State where
  vm := { classes := classes, interned := interned.toArray }
  heap := heap
  slotsUsed := slotsUsed
  threads := #[{ frames := .invoking theMethod args0 :: below }]
def below0 : List Frame := [.native { method := ⟨0, 0⟩, args := #[] }]
def about1 : State := aboutOver below0
def p0 : Program := .bare "" "" ""
def e0 : Env := launch0.env 0 0 0
theorem w_frames : about1.frames = Frame.invoking theMethod args0 :: below0 := rfl
set_option maxRecDepth 65536 in
theorem w_args : argsFit about1.vm theMethod args0 = true := by decide +kernel
set_option maxRecDepth 65536 in
theorem w_heap : heapFits about1 = true := by decide +kernel
set_option maxRecDepth 65536 in
theorem w_runnable : about1.curStatus? = some .runnable := by decide +kernel
set_option maxRecDepth 65536 in
theorem w_alone : about1.alone = true := by decide +kernel
set_option maxRecDepth 65536 in
theorem w_named : about1.methodNamed? x = some theMethod := by decide +kernel
set_option maxRecDepth 65536 in
theorem w_hears : about1.hears theMethod below0 = true := by decide +kernel
set_option maxRecDepth 65536 in
theorem w_ripe : about1.ripe theMethod args0 below0 = true := by decide +kernel
theorem w_running : about1.status = .running := rfl
set_option maxRecDepth 65536 in
theorem w_room : about1.hasRoom e0.platform room_1 = true :=
  launch0.hasRoom_least _ room_1 (by decide +kernel) (by decide +kernel) (by decide +kernel) (by decide +kernel) (by decide +kernel) (by decide +kernel)
theorem allAtoms_all (ts : List Jvm.Cond) (a : Array Jvm.Value) (st : Jvm.State) : (allAtoms ts).before a st = ts.all (fun c => c.before a st) := by
  induction ts with
  | nil => rfl
  | cons c t ih =>
    show (Jvm.Cond.and c (allAtoms t)).before a st = _
    rw [Jvm.Cond.before_and, ih, List.all_cons]
def words1 : List Jvm.Cond := Jvm.Cond.code x code maxLocals ret :: tables_1
/-- a 'code' word, met by the world's own term for the bytes: nothing is compared byte by byte -/
theorem code_word {y : MethodName} {bytes : ByteArray} {mx : Nat} {rt : Option FieldType} {a : Array Value} {s : State} {m : MethodId} {meth : Method} {c : Code} (h1 : s.methodNamed? y = some m) (h2 : s.vm.method? m = some meth) (h3 : meth.code = some c) (h4 : c.code = bytes)
    (h5 : (c.maxLocals == mx && c.exceptionTable.isEmpty && decide (c.maxStack ≤ mostOperands) && decide (meth.sig.returnType = rt) && !meth.locks && decide (parseMethodDescriptor y.desc = some meth.sig)) = true) : (Jvm.Cond.code y bytes mx rt).before a s = true := by
  simp only [Bool.and_eq_true, beq_iff_eq, Bool.not_eq_true', decide_eq_true_eq] at h5
  obtain ⟨⟨⟨⟨⟨g1, g2⟩, g3⟩, g4⟩, g5⟩, g6⟩ := h5
  simp [Cond.before, Cond.holds, Cond.value, h1, h2, h3, h4, g1, g2, g3, g4, g5, g6]
def isCode : Jvm.Cond → Bool
  | .code _ _ _ _ => true
  | _ => false
theorem all_split {L : List Jvm.Cond} {P : Jvm.Cond → Bool} (h1 : L.all (fun c => isCode c || P c) = true) (h2 : ∀ c ∈ L.filter isCode, P c = true) : L.all P = true := by
  refine List.all_eq_true.mpr fun c hc => ?_
  have h := List.all_eq_true.mp h1 c hc
  rcases Bool.eq_false_or_eq_true (isCode c) with hi | hi
  · exact h2 c (List.mem_filter.mpr ⟨hc, hi⟩)
  · simpa [hi] using h
set_option maxRecDepth 65536 in
theorem w_c0 : (Jvm.Cond.code x code maxLocals ret).before args0 about1 = true := code_word (m := ⟨1, 1⟩) (meth := k1m1) (c := k1c1) (by decide +kernel) rfl rfl rfl (by decide +kernel)
set_option maxRecDepth 65536 in
theorem w_c1 : (Jvm.Cond.code ({ cls := "java/lang/Math", name := "max", desc := "(II)I" } : Jvm.MethodName) jdk_29_method_65_code (2 : Nat) (Option.some Jvm.ClassFile.FieldType.int)).before args0 about1 = true := code_word (m := ⟨2, 1⟩) (meth := k2m1) (c := k2c1) (by decide +kernel) rfl rfl rfl (by decide +kernel)
set_option maxRecDepth 65536 in
theorem w_c2 : (Jvm.Cond.code ({ cls := "com/example/tollbook/tollbook/benchmark/Workload", name := "<init>", desc := "(IIII)V" } : Jvm.MethodName) prog_9_method_1_code (5 : Nat) (Option.none : Option Jvm.ClassFile.FieldType)).before args0 about1 = true := code_word (m := ⟨4, 0⟩) (meth := k4m0) (c := k4c0) (by decide +kernel) rfl rfl rfl (by decide +kernel)
set_option maxRecDepth 65536 in
theorem w_c3 : (Jvm.Cond.code ({ cls := "java/lang/Record", name := "<init>", desc := "()V" } : Jvm.MethodName) jdk_30_method_1_code (1 : Nat) (Option.none : Option Jvm.ClassFile.FieldType)).before args0 about1 = true := code_word (m := ⟨3, 0⟩) (meth := k3m0) (c := k3c0) (by decide +kernel) rfl rfl rfl (by decide +kernel)
set_option maxRecDepth 65536 in
theorem w_c4 : (Jvm.Cond.code ({ cls := "java/lang/Object", name := "<init>", desc := "()V" } : Jvm.MethodName) object_method_1_code (1 : Nat) (Option.none : Option Jvm.ClassFile.FieldType)).before args0 about1 = true := code_word (m := ⟨0, 0⟩) (meth := k0m0) (c := k0c0) (by decide +kernel) rfl rfl rfl (by decide +kernel)
set_option maxRecDepth 65536 in
theorem w_c5 : (Jvm.Cond.code ({ cls := "com/example/tollbook/tollbook/benchmark/Workload", name := "requests", desc := "()I" } : Jvm.MethodName) prog_9_method_2_code (1 : Nat) (Option.some Jvm.ClassFile.FieldType.int)).before args0 about1 = true := code_word (m := ⟨4, 1⟩) (meth := k4m1) (c := k4c1) (by decide +kernel) rfl rfl rfl (by decide +kernel)
def codes1 : List Jvm.Cond := [Jvm.Cond.code x code maxLocals ret, Jvm.Cond.code ({ cls := "java/lang/Math", name := "max", desc := "(II)I" } : Jvm.MethodName) jdk_29_method_65_code (2 : Nat) (Option.some Jvm.ClassFile.FieldType.int), Jvm.Cond.code ({ cls := "com/example/tollbook/tollbook/benchmark/Workload", name := "<init>", desc := "(IIII)V" } : Jvm.MethodName) prog_9_method_1_code (5 : Nat) (Option.none : Option Jvm.ClassFile.FieldType), Jvm.Cond.code ({ cls := "java/lang/Record", name := "<init>", desc := "()V" } : Jvm.MethodName) jdk_30_method_1_code (1 : Nat) (Option.none : Option Jvm.ClassFile.FieldType), Jvm.Cond.code ({ cls := "java/lang/Object", name := "<init>", desc := "()V" } : Jvm.MethodName) object_method_1_code (1 : Nat) (Option.none : Option Jvm.ClassFile.FieldType), Jvm.Cond.code ({ cls := "com/example/tollbook/tollbook/benchmark/Workload", name := "requests", desc := "()I" } : Jvm.MethodName) prog_9_method_2_code (1 : Nat) (Option.some Jvm.ClassFile.FieldType.int)]
set_option maxRecDepth 65536 in
theorem codes_eq : words1.filter isCode = codes1 := rfl
theorem w_codes : ∀ c ∈ words1.filter isCode, c.before args0 about1 = true := by
  rw [codes_eq]
  intro c hc
  simp only [codes1, List.mem_cons, List.not_mem_nil, or_false] at hc
  rcases hc with rfl | rfl | rfl | rfl | rfl | rfl
  · exact w_c0
  · exact w_c1
  · exact w_c2
  · exact w_c3
  · exact w_c4
  · exact w_c5
set_option maxRecDepth 65536 in
theorem w_t1 : (words1.take 24).all (fun c => isCode c || c.before args0 about1) = true := by decide +kernel
set_option maxRecDepth 65536 in
theorem w_t2 : (words1.drop 24).all (fun c => isCode c || c.before args0 about1) = true := by decide +kernel
theorem w_tables : (allAtoms (Jvm.Cond.code x code maxLocals ret :: tables_1)).before args0 about1 = true := by
  rw [allAtoms_all]
  show words1.all (fun c => c.before args0 about1) = true
  refine all_split ?_ w_codes
  rw [← List.take_append_drop 24 words1, List.all_append, w_t1, w_t2]
  rfl
set_option maxRecDepth 65536 in
theorem w_case : (Jvm.Cond.and given_1 narrow_1).before args0 about1 = true := by decide +kernel
theorem w_applies : (headSpec (Jvm.Cond.code x code maxLocals ret :: tables_1) room_1).applies x e0.platform about1 = true :=
  (Spec.applies_iff w_frames).mpr ⟨w_running, w_runnable, w_alone, w_named, w_hears, w_ripe, w_room, w_tables⟩
theorem atStart : AtStart classFile x code maxLocals ret World_1 tables_1 room_1 Calls_1 rest_1 Pre_1 launch0 p0 e0 about1 theMethod args0 below0 :=
  ⟨lists_1, trivial, launch0.admits_env _ _ _, launch0.least_env, fairChoices_fair.cas, fairChoices_fair.clock, w_frames, w_args, w_heap, w_applies, trivial, trivial, w_case⟩
end start1
theorem witness_1 : WitnessClaimed_1 := ⟨start1.p0, start1.e0, start1.about1, start1.theMethod, start1.args0, start1.below0, start1.atStart⟩
end Jvm.Pilot.@@N@@
