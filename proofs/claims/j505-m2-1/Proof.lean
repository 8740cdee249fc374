import JvmDerived
import JvmDerived.Pilot.@@N@@Statement
import JvmDerived.Pilot.@@N@@Code
set_option linter.unusedVariables false
set_option linter.unusedSimpArgs false
namespace Jvm.Pilot.@@N@@
open Jvm Jvm.ClassFile Sem Op Lib Jvm.Free Jvm.Stand Jvm.LawKit Jvm.RoadKit Bundle Jvm.Pilot.@@N@@.Jvm.D
section OwnKit
variable {p : Program} {l : Launch} {e : Env} {R : Room} {s : State} {m : MethodId} {args : Array Value} {below : List Frame} {meth : Method} {c : Code} {T : State} {locs : List Loc} {cells slots : Nat} {Z : State} {a0 : Array Value} {h : Heap} {Q : Option Value → Heap → List Loc → Prop} {C S : Nat} {F : State → Outcome → Prop}
/-- what is left of a walk: from T with the top frame g the invocation comes to its end, and F holds there -/
def Go (p : Program) (e : Env) (below : List Frame) (F : State → Outcome → Prop) (T : State) (g : JFrame) : Prop :=
  ∃ t o, Steps p.tables e below (T.setTop g) t ∧ t.status = .running ∧ Ended t below o ∧ F t o
/-- it returned, Q holds, and no more has changed than the frame says -/
def FN (s : State) (Q : Option Value → Heap → List Loc → Prop) (C S : Nat) (t : State) (o : Outcome) : Prop := ∃ v L, o = .returned v ∧ Q v t.heap L ∧ FrameEnd s o t L C S
theorem Go.of {T' : State} {g g' : JFrame} (h : ∀ t, Steps p.tables e below (T'.setTop g') t → Steps p.tables e below (T.setTop g) t) (k : Go p e below F T' g') : Go p e below F T g := by
  obtain ⟨t, o, h1, h2⟩ := k
  exact ⟨t, o, h _ h1, h2⟩
theorem Go.cast {g g' : JFrame} (q : g = g') (k : Go p e below F T g') : Go p e below F T g := q ▸ k
theorem Go.ret (X : Stand p l e R s m args below meth c T locs cells slots) {v : Option Value} {g : JFrame} (hlk : meth.locks = false) (hv : meth.sig.returnType = none → v = none)
    (st : ∀ fs, (∀ (f : JFrame) (acts : List Action), f.method = m → f.locked = none → f.entered = [] → (doReturn e (T.setTop f) acts v).1 = T.setFrames fs) → Steps p.tables e below (T.setTop g) (T.setFrames fs))
    (hc : cells ≤ C) (hs : slots ≤ S) (hQ : Q v T.heap locs) : Go p e below (FN s Q C S) T g := by
  obtain ⟨fs, hr, hrun, hended, hW, hsame⟩ := X.leave (v := v) hv hlk
  exact ⟨_, _, st fs hr, hrun, hended, _, _, rfl, hQ, ⟨_, rfl⟩, hW, hsame.mono hc hs⟩
theorem Go.retI (X : Stand p l e R s m args below meth c T locs cells slots) (hx : p.tables.exec = Jvm.exec) (hlk : meth.locks = false) {pc : Nat} {Ls : Array Slot} {z : Int32} {rest : List Value} (hret : meth.sig.returnType = some .int) (hd : decode c.code pc = .ok (.ireturn, 1))
    (hc : cells ≤ C) (hs : slots ≤ S) (hQ : Q (some (.int z)) T.heap locs) : Go p e below (FN s Q C S) T (mkF m pc Ls (.int z :: rest)) :=
  Go.ret X hlk (fun h => by rw [hret] at h; cases h) (fun _ hr => retOut X hx hret rfl (Or.inl ⟨rfl, Or.inl rfl, _, rfl⟩) hd hr) hc hs hQ
theorem Go.retN (X : Stand p l e R s m args below meth c T locs cells slots) (hx : p.tables.exec = Jvm.exec) (hlk : meth.locks = false) {pc : Nat} {Ls : Array Slot} {z : Int32} {rest : List Value} {t : FieldType} (hret : meth.sig.returnType = some t) (ht : t = .boolean ∨ t = .byte ∨ t = .char ∨ t = .short) (hd : decode c.code pc = .ok (.ireturn, 1))
    (hc : cells ≤ C) (hs : slots ≤ S) (hQ : Q (some (.int (nar t z))) T.heap locs) : Go p e below (FN s Q C S) T (mkF m pc Ls (.int z :: rest)) :=
  Go.ret X hlk (fun h => by rw [hret] at h; cases h) (fun _ hr => Jvm.RoadKit.retN X hx hret ht hd hr) hc hs hQ
theorem Go.retV (X : Stand p l e R s m args below meth c T locs cells slots) (hx : p.tables.exec = Jvm.exec) (hlk : meth.locks = false) {pc : Nat} {Ls : Array Slot} (hret : meth.sig.returnType = none) (hd : decode c.code pc = .ok (.return_, 1))
    (hc : cells ≤ C) (hs : slots ≤ S) (hQ : Q none T.heap locs) : Go p e below (FN s Q C S) T (mkF m pc Ls []) :=
  Go.ret X hlk (fun _ => rfl) (fun _ hr => X.returnOut hx hret hd hr) hc hs hQ
/-- a body's contract at given arguments and a given heap -/
def Ct (l : Launch) (y : MethodName) (bytes : ByteArray) (maxL : Nat) (ret : Option FieldType) (rm : Room) (Z : State) (h0 : Heap) (as' : Array Value) (Q : Option Value → Heap → List Loc → Prop) : Prop :=
  ∀ ws, MetFree l y (head1 (Jvm.Cond.code y bytes maxL ret :: ws) rm) (fun a U => a = as' ∧ Z.Warmed39 U.vm ∧ U.heap = h0) (fun _ _ _ _ _ => True) (fun _ U o U' => ∃ v L, o = .returned v ∧ Q v U'.heap L ∧ FrameEnd U o U' L rm.cells rm.slots)
theorem Ct.body {y : MethodName} {bytes : ByteArray} {maxL : Nat} {ret : Option FieldType} {rm : Room} {as' : Array Value} (hpl : plainFor y = true)
    (k : ∀ (p : Program) (e : Env) (s : State) (m : MethodId) (below : List Frame) (meth : Method) (c : Code) (T : State), p.tables.exec = Jvm.exec → c.code = bytes → c.maxLocals = maxL → s.vm.findClass y.cls = some m.cls → meth.name = y.name → meth.sig.returnType = ret → meth.locks = false → Z.Warmed39 s.vm →
      Stand p l e rm s m as' below meth c T [] 0 0 → T.heap = h → Go p e below (FN s Q rm.cells rm.slots) T (entryFrame m as' maxL)) : Ct l y bytes maxL ret rm Z h as' Q := fun ws => by
  refine MetFree.of_bodySF hpl hisR ?_
  intro p e s m args below meth c s₁ Bd hml0 hP hK
  obtain ⟨rfl, hZ, hh⟩ := hP
  exact k p e s m below meth c s₁ Bd.exec Bd.bytes hml0 (findClass_of_methodNamed Bd.named) (name_of_methodNamed Bd.named Bd.method).1 Bd.returns Bd.notSynchronized hZ (Stand.of_body Bd) (by rw [← hh, Bd.state]; rfl)
theorem Go.callV (X : Stand p l e R s m args below meth c T locs cells slots) (hx : p.tables.exec = Jvm.exec) (hZ : Z.Warmed39 s.vm) {own K : String} {index : Nat} {y z : MethodName} {bytes : ByteArray} {maxL : Nat} {ret : Option FieldType} (hown : s.vm.findClass own = some m.cls)
    (wl : (Jvm.Cond.methodLink own index y).before a0 Z = true) (wd : (Jvm.Cond.declares y).before a0 Z = true) (nf : NotFace s y) (wsel : (Jvm.Cond.selects K y z).before a0 Z = true) (wim : (Jvm.Cond.instanceMethod z).before a0 Z = true) (wc : (Jvm.Cond.code z bytes maxL ret).before a0 Z = true) (wz : (Jvm.Cond.initialized z.cls).before a0 Z = true) (hy : y.cls ≠ "java/lang/invoke/MethodHandle" ∧ y.cls ≠ "java/lang/invoke/VarHandle")
    (eT : T.heap = h) {b : Addr} (E : Exa Z h b K) {rm : Room} {argsL rest : List Value} {Q' : Option Value → Heap → List Loc → Prop} (hC : Ct l z bytes maxL ret rm Z h (.ref b :: argsL).toArray Q') {pc : Nat} {Ls : Array Slot} {st : List Value} (hsz : Ls.size = c.maxLocals)
    (hlen : ∀ sig, parseMethodDescriptor y.desc = some sig → argsL.length = sig.parameters.length) (hst : st = argsL.reverse ++ .ref b :: rest) (hd : decode c.code pc = .ok (.invokevirtual index, 3)) (hf : rm.frames + 1 ≤ R.frames) (hl : (rest.map fun v => v.category).sum + (maxL + 11) + rm.locals ≤ R.locals) (hc : cells + rm.cells ≤ R.cells) (hs : slots + rm.slots ≤ R.slots)
    (k : ∀ v T' L, Q' v T'.heap L → Stand p l e R s m args below meth c T' (locs ++ L) (cells + rm.cells) (slots + rm.slots) → Go p e below F T' (mkF m (pc + 3) Ls (v.toList ++ rest))) :
    Go p e below F T (mkF m pc Ls st) := by
  obtain ⟨cq, kq, qa, qb, qc⟩ := isOf hZ eT E
  obtain ⟨v, _, ⟨T', L', k', n'⟩, -, X', ⟨L, hQ, l1, y1, z1⟩, stp⟩ := X.virtualBack hx (y := y) (z := z) hown (mvT hZ wl) (mvT hZ wd) nf (mvT hZ wsel) (mvT hZ wim) hy (backOf (W := (rest.map fun v => v.category).sum) (hC []) hZ wc wz hf hl) qa qc (g := mkF m pc Ls st) rfl hsz (Steps.refl _) (argsL := argsL) (rest := rest) hlen hst (by show 2 * 0 + _ ≤ _; exact Nat.le_of_eq (Nat.zero_add _)) hd (fun _ _ => ⟨rfl, eT, hc, hs⟩)
  dsimp only [Pt.U, Pt.locs, Pt.cells, Pt.slots] at X' l1 y1 z1 stp hQ
  subst l1 y1 z1
  exact Go.of (fun t q => stp.trans q) (k _ _ _ hQ X')
theorem Go.callC (X : Stand p l e R s m args below meth c T locs cells slots) (hx : p.tables.exec = Jvm.exec) (hZ : Z.Warmed39 s.vm) {own : String} {index : Nat} {y : MethodName} {bytes : ByteArray} {maxL : Nat} (hy1 : y.name = "<init>") (hown : s.vm.findClass own = some m.cls)
    (wl : (Jvm.Cond.methodLink own index y).before a0 Z = true) (wim : (Jvm.Cond.instanceMethod y).before a0 Z = true) (wc : (Jvm.Cond.code y bytes maxL none).before a0 Z = true) (wz : (Jvm.Cond.initialized y.cls).before a0 Z = true) (hy : y.cls ≠ "java/lang/invoke/MethodHandle" ∧ y.cls ≠ "java/lang/invoke/VarHandle")
    (eT : T.heap = h) {b : Addr} {rm : Room} {argsL rest : List Value} {Q' : Option Value → Heap → List Loc → Prop} (hC : Ct l y bytes maxL none rm Z h (.ref b :: argsL).toArray Q') {pc : Nat} {Ls : Array Slot} {st : List Value} (hsz : Ls.size = c.maxLocals)
    (hlen : ∀ sig, parseMethodDescriptor y.desc = some sig → argsL.length = sig.parameters.length) (hst : st = argsL.reverse ++ .ref b :: rest) (hd : decode c.code pc = .ok (.invokespecial index, 3)) (hf : rm.frames + 1 ≤ R.frames) (hl : (rest.map fun v => v.category).sum + (maxL + 11) + rm.locals ≤ R.locals) (hc : cells + rm.cells ≤ R.cells) (hs : slots + rm.slots ≤ R.slots)
    (k : ∀ v T' L, Q' v T'.heap L → Stand p l e R s m args below meth c T' (locs ++ L) (cells + rm.cells) (slots + rm.slots) → Go p e below F T' (mkF m (pc + 3) Ls (v.toList ++ rest))) :
    Go p e below F T (mkF m pc Ls st) := by
  obtain ⟨v, _, ⟨T', L', k', n'⟩, -, X', ⟨L, hQ, l1, y1, z1⟩, stp⟩ := X.specialBack hx (y := y) hy1 hown (mvT hZ wl) (mvT hZ wim) (mvT hZ wc) hy (backOf (W := (rest.map fun v => v.category).sum) (hC []) hZ wc wz hf hl) (g := mkF m pc Ls st) rfl hsz (Steps.refl _) (a := b) (argsL := argsL) (rest := rest) hlen hst (by show 2 * 0 + _ ≤ _; exact Nat.le_of_eq (Nat.zero_add _)) hd (fun _ _ => ⟨rfl, eT, hc, hs⟩)
  dsimp only [Pt.U, Pt.locs, Pt.cells, Pt.slots] at X' l1 y1 z1 stp hQ
  subst l1 y1 z1
  exact Go.of (fun t q => stp.trans q) (k _ _ _ hQ X')
theorem Go.getF (X : Stand p l e R s m args below meth c T locs cells slots) (hx : p.tables.exec = Jvm.exec) (hZ : Z.Warmed39 s.vm) {own R0 O n d : String} {index : Nat} (hown : s.vm.findClass own = some m.cls) (w : (Jvm.Cond.fieldLink own index R0 n d).before a0 Z = true) (via : Via Z R0 O n d)
    (eT : T.heap = h) {a : Addr} {v : Value} (fF : Fld Z h a O n d v) {pc : Nat} {Ls : Array Slot} {rest : List Value} (hd : decode c.code pc = .ok (.getfield index, 3))
    (k : ∀ T', Stand p l e R s m args below meth c T' locs cells slots → T'.heap = h → Go p e below F T' (mkF m (pc + 3) Ls (v :: rest))) : Go p e below F T (mkF m pc Ls (.ref a :: rest)) := by
  obtain ⟨T', X', e', st⟩ := Jvm.RoadKit.getF X hx hZ hown (host := "") (Or.inl w) via eT fF (g := mkF m pc Ls (.ref a :: rest)) rfl rfl hd
  exact Go.of st (k _ X' e')
theorem Go.putF (X : Stand p l e R s m args below meth c T locs cells slots) (hx : p.tables.exec = Jvm.exec) (hZ : Z.Warmed39 s.vm) {own R0 O n d K : String} {index kk : Nat} {ty : FieldType} (hown : s.vm.findClass own = some m.cls) (w : (Jvm.Cond.fieldLink own index R0 n d).before a0 Z = true) (via : Via Z R0 O n d)
    (eT : T.heap = h) {a : Addr} {v old : Value} (fF : Fld Z h a O n d old) (E : Exa Z h a K) (L : (Jvm.Cond.lays K O n d).before a0 Z = true ∨ ((Jvm.Cond.laysFinal K O n d).before a0 Z = true ∧ own = O ∧ meth.name = "<init>")) (wi : (Jvm.Cond.instantiable K kk).before a0 Z = true)
    (hty : parseFieldDescriptor d = some ty) (hn : narrow ty v = v) (hf : fits ty v = true) {pc : Nat} {Ls : Array Slot} {rest : List Value} (hd : decode c.code pc = .ok (.putfield index, 3))
    (k : ∀ T' h', Stand p l e R s m args below meth c T' (locs ++ [⟨a, Jvm.RoadKit.slotOf Z O n d⟩]) cells slots → T'.heap = h' → Wr h h' a (Jvm.RoadKit.slotOf Z O n d) v → Go p e below F T' (mkF m (pc + 3) Ls rest)) : Go p e below F T (mkF m pc Ls (v :: .ref a :: rest)) := by
  obtain ⟨T', h', X', e', W', st⟩ := Jvm.RoadKit.putF X hx hZ hown (host := "") (Or.inl w) via eT fF E L wi hty hn hf (g := mkF m pc Ls (v :: .ref a :: rest)) rfl rfl hd
  exact Go.of st (k _ _ X' e' W')
theorem Go.newO (X : Stand p l e R s m args below meth c T locs cells slots) (hx : p.tables.exec = Jvm.exec) (hZ : Z.Warmed39 s.vm) {own K : String} {index n : Nat} (hown : s.vm.findClass own = some m.cls) (w : (Jvm.Cond.classLink own index K).before a0 Z = true) (wi : (Jvm.Cond.instantiable K n).before a0 Z = true) (wz : (Jvm.Cond.initialized K).before a0 Z = true) (eT : T.heap = h)
    {pc : Nat} {Ls : Array Slot} {rest : List Value} (hd : decode c.code pc = .ok (.new index, 3)) (hc : cells + 1 ≤ R.cells) (hl : slots + n ≤ R.slots)
    (k : ∀ T' h' a, a = h.size → Stand p l e R s m args below meth c T' locs (cells + 1) (slots + n) → T'.heap = h' → Ext h h' → Exa Z h' a K → (∀ {O nm d : String} {ty : FieldType}, Laid Z a0 K O nm d → parseFieldDescriptor d = some ty → Fld Z h' a O nm d (defaultValue ty)) → Go p e below F T' (mkF m (pc + 3) Ls (.ref a :: rest))) : Go p e below F T (mkF m pc Ls rest) := by
  obtain ⟨T', h', X', e', E', A', D', -, st⟩ := Jvm.RoadKit.newO X hx hZ hown w wi wz eT (g := mkF m pc Ls rest) rfl hd hc hl
  exact Go.of st (k _ _ _ rfl X' e' E' A' D')
theorem Go.initO (X : Stand p l e R s m args below meth c T locs cells slots) (hx : p.tables.exec = Jvm.exec) (hZ : Z.Warmed39 s.vm) {own : String} {idx : Nat} (hown : s.vm.findClass own = some m.cls) (w1 : (Jvm.Cond.methodLink own idx Lib.objectInit).before a0 Z = true) (w2 : (Jvm.Cond.instanceMethod Lib.objectInit).before a0 Z = true)
    (w3 : (Jvm.Cond.code Lib.objectInit ⟨#[0xb1]⟩ 1 none).before a0 Z = true) (eT : T.heap = h) {a : Addr} {pc : Nat} {Ls : Array Slot} {rest : List Value} (hsz : Ls.size = c.maxLocals) (hd : decode c.code pc = .ok (.invokespecial idx, 3)) (hf : 1 ≤ R.frames) (hl : (rest.map fun v => v.category).sum + 12 ≤ R.locals)
    (k : ∀ T', Stand p l e R s m args below meth c T' locs cells slots → T'.heap = h → Go p e below F T' (mkF m (pc + 3) Ls rest)) : Go p e below F T (mkF m pc Ls (.ref a :: rest)) := by
  obtain ⟨T', X', e', st⟩ := Jvm.RoadKit.initO X hx hZ hown w1 w2 w3 eT (g := mkF m pc Ls (.ref a :: rest)) rfl hsz rfl hd hf (W := (rest.map fun v => v.category).sum) (by show 2 * 0 + _ ≤ _; exact Nat.le_of_eq (Nat.zero_add _)) hl
  exact Go.of st (k _ X' e')
end OwnKit
section OwnSteps
variable {p : Program} {l : Launch} {e : Env} {R : Room} {s : State} {m : MethodId} {args : Array Value} {below : List Frame} {meth : Method} {c : Code} {T : State} {locs : List Loc} {cells slots : Nat} {Z : State} {a0 : Array Value} {h : Heap} {F : State → Outcome → Prop}
theorem w_ {Z : State} {a0 : Array Value} {ts : List Jvm.Cond} (hw : ∀ d ∈ ts, d.before a0 Z = true) {d : Jvm.Cond} (i : Nat) (h : ts[i]? = some d) : d.before a0 Z = true := hw _ (List.mem_of_getElem? h)
theorem Go.s_iloadN (X : Stand p l e R s m args below meth c T locs cells slots) (hx : p.tables.exec = Jvm.exec) {pc q : Nat} {Ls : Array Slot} {st : List Value} {k : Fin 4} {v : Int32} (hd : decode c.code pc = .ok (.iload_n k, 1)) (hq : pc + 1 = q) (hl : Ls[k.val]? = some (.val (.int v))) (K : Go p e below F T (mkF m q Ls (.int v :: st))) : Go p e below F T (mkF m pc Ls (st)) := by
  subst hq
  exact Go.of (fun t k => XS.iloadN X.here hx rfl hd hl k) K
theorem Go.s_iload (X : Stand p l e R s m args below meth c T locs cells slots) (hx : p.tables.exec = Jvm.exec) {pc q : Nat} {Ls : Array Slot} {st : List Value} {k : Nat} {v : Int32} (hd : decode c.code pc = .ok (.iload k, 2)) (hq : pc + 2 = q) (hl : Ls[k]? = some (.val (.int v))) (K : Go p e below F T (mkF m q Ls (.int v :: st))) : Go p e below F T (mkF m pc Ls (st)) := by
  subst hq
  exact Go.of (fun t k => XS.iload X.here hx rfl hd hl k) K
theorem Go.s_lload (X : Stand p l e R s m args below meth c T locs cells slots) (hx : p.tables.exec = Jvm.exec) {pc q : Nat} {Ls : Array Slot} {st : List Value} {k : Nat} {v : Int64} (hd : decode c.code pc = .ok (.lload k, 2)) (hq : pc + 2 = q) (hl : Ls[k]? = some (.val (.long v))) (K : Go p e below F T (mkF m q Ls (.long v :: st))) : Go p e below F T (mkF m pc Ls (st)) := by
  subst hq
  exact Go.of (fun t k => XS.lload X.here hx rfl hd hl k) K
theorem Go.s_aloadN (X : Stand p l e R s m args below meth c T locs cells slots) (hx : p.tables.exec = Jvm.exec) {pc q : Nat} {Ls : Array Slot} {st : List Value} {k : Fin 4} {v : Value} (hd : decode c.code pc = .ok (.aload_n k, 1)) (hq : pc + 1 = q) (hl : Ls[k.val]? = some (.val v)) (hv : v.isRef = true) (K : Go p e below F T (mkF m q Ls (v :: st))) : Go p e below F T (mkF m pc Ls (st)) := by
  subst hq
  exact Go.of (fun t k => XS.aloadN X.here hx rfl hd hl hv k) K
theorem Go.s_aload (X : Stand p l e R s m args below meth c T locs cells slots) (hx : p.tables.exec = Jvm.exec) {pc q : Nat} {Ls : Array Slot} {st : List Value} {k : Nat} {v : Value} (hd : decode c.code pc = .ok (.aload k, 2)) (hq : pc + 2 = q) (hl : Ls[k]? = some (.val v)) (hv : v.isRef = true) (K : Go p e below F T (mkF m q Ls (v :: st))) : Go p e below F T (mkF m pc Ls (st)) := by
  subst hq
  exact Go.of (fun t k => XS.aload X.here hx rfl hd hl hv k) K
theorem Go.s_istoreN (X : Stand p l e R s m args below meth c T locs cells slots) (hx : p.tables.exec = Jvm.exec) {pc q : Nat} {Ls : Array Slot} {st : List Value} {k : Fin 4} {x : Int32} {l' : Array Slot} (hd : decode c.code pc = .ok (.istore_n k, 1)) (hq : pc + 1 = q) (hl : storeLocals Ls k.val (.int x) = some l') (K : Go p e below F T (mkF m q l' (st))) : Go p e below F T (mkF m pc Ls (.int x :: st)) := by
  subst hq
  exact Go.of (fun t k => XS.istoreN X.here hx rfl hd rfl hl k) K
theorem Go.s_istore (X : Stand p l e R s m args below meth c T locs cells slots) (hx : p.tables.exec = Jvm.exec) {pc q : Nat} {Ls : Array Slot} {st : List Value} {k : Nat} {x : Int32} {l' : Array Slot} (hd : decode c.code pc = .ok (.istore k, 2)) (hq : pc + 2 = q) (hl : storeLocals Ls k (.int x) = some l') (K : Go p e below F T (mkF m q l' (st))) : Go p e below F T (mkF m pc Ls (.int x :: st)) := by
  subst hq
  exact Go.of (fun t k => XS.istore X.here hx rfl hd rfl hl k) K
theorem Go.s_lstore (X : Stand p l e R s m args below meth c T locs cells slots) (hx : p.tables.exec = Jvm.exec) {pc q : Nat} {Ls : Array Slot} {st : List Value} {k : Nat} {x : Int64} {l' : Array Slot} (hd : decode c.code pc = .ok (.lstore k, 2)) (hq : pc + 2 = q) (hl : storeLocals Ls k (.long x) = some l') (K : Go p e below F T (mkF m q l' (st))) : Go p e below F T (mkF m pc Ls (.long x :: st)) := by
  subst hq
  exact Go.of (fun t k => XS.lstore X.here hx rfl hd rfl hl k) K
theorem Go.s_astore (X : Stand p l e R s m args below meth c T locs cells slots) (hx : p.tables.exec = Jvm.exec) {pc q : Nat} {Ls : Array Slot} {st : List Value} {k : Nat} {x : Value} {l' : Array Slot} (hd : decode c.code pc = .ok (.astore k, 2)) (hq : pc + 2 = q) (hv : x.isRef = true) (hl : storeLocals Ls k x = some l') (K : Go p e below F T (mkF m q l' (st))) : Go p e below F T (mkF m pc Ls (x :: st)) := by
  subst hq
  exact Go.of (fun t k => XS.astore X.here hx rfl hd rfl hv hl k) K
theorem Go.s_iconst (X : Stand p l e R s m args below meth c T locs cells slots) (hx : p.tables.exec = Jvm.exec) {pc q : Nat} {Ls : Array Slot} {st : List Value} {i : Int} {z : Int32} (hd : decode c.code pc = .ok (.iconst i, 1)) (hq : pc + 1 = q) (hz : Int32.ofInt i = z) (K : Go p e below F T (mkF m q Ls (.int z :: st))) : Go p e below F T (mkF m pc Ls (st)) := by
  subst hq
  exact Go.of (fun t k => XS.iconst X.here hx rfl hd (hz ▸ k)) K
theorem Go.s_lconst (X : Stand p l e R s m args below meth c T locs cells slots) (hx : p.tables.exec = Jvm.exec) {pc q : Nat} {Ls : Array Slot} {st : List Value} {i : Fin 2} {z : Int64} (hd : decode c.code pc = .ok (.lconst i, 1)) (hq : pc + 1 = q) (hz : Int64.ofNat i = z) (K : Go p e below F T (mkF m q Ls (.long z :: st))) : Go p e below F T (mkF m pc Ls (st)) := by
  subst hq
  exact Go.of (fun t k => XS.lconst X.here hx rfl hd (hz ▸ k)) K
theorem Go.s_ladd (X : Stand p l e R s m args below meth c T locs cells slots) (hx : p.tables.exec = Jvm.exec) {pc q : Nat} {Ls : Array Slot} {st : List Value} {x y : Int64} (hd : decode c.code pc = .ok (.ladd, 1)) (hq : pc + 1 = q)  (K : Go p e below F T (mkF m q Ls (.long (x + y) :: st))) : Go p e below F T (mkF m pc Ls (.long y :: .long x :: st)) := by
  subst hq
  exact Go.of (fun t k => XS.ladd X.here hx rfl hd rfl k) K
theorem Go.s_lsub (X : Stand p l e R s m args below meth c T locs cells slots) (hx : p.tables.exec = Jvm.exec) {pc q : Nat} {Ls : Array Slot} {st : List Value} {x y : Int64} (hd : decode c.code pc = .ok (.lsub, 1)) (hq : pc + 1 = q)  (K : Go p e below F T (mkF m q Ls (.long (x - y) :: st))) : Go p e below F T (mkF m pc Ls (.long y :: .long x :: st)) := by
  subst hq
  exact Go.of (fun t k => XS.lsub X.here hx rfl hd rfl k) K
theorem Go.s_lmul (X : Stand p l e R s m args below meth c T locs cells slots) (hx : p.tables.exec = Jvm.exec) {pc q : Nat} {Ls : Array Slot} {st : List Value} {x y : Int64} (hd : decode c.code pc = .ok (.lmul, 1)) (hq : pc + 1 = q)  (K : Go p e below F T (mkF m q Ls (.long (x * y) :: st))) : Go p e below F T (mkF m pc Ls (.long y :: .long x :: st)) := by
  subst hq
  exact Go.of (fun t k => XS.lmul X.here hx rfl hd rfl k) K
theorem Go.s_iand (X : Stand p l e R s m args below meth c T locs cells slots) (hx : p.tables.exec = Jvm.exec) {pc q : Nat} {Ls : Array Slot} {st : List Value} {x y : Int32} (hd : decode c.code pc = .ok (.iand, 1)) (hq : pc + 1 = q)  (K : Go p e below F T (mkF m q Ls (.int (x &&& y) :: st))) : Go p e below F T (mkF m pc Ls (.int y :: .int x :: st)) := by
  subst hq
  exact Go.of (fun t k => XS.iand X.here hx rfl hd rfl k) K
theorem Go.s_i2l (X : Stand p l e R s m args below meth c T locs cells slots) (hx : p.tables.exec = Jvm.exec) {pc q : Nat} {Ls : Array Slot} {st : List Value} {x : Int32} (hd : decode c.code pc = .ok (.i2l, 1)) (hq : pc + 1 = q)  (K : Go p e below F T (mkF m q Ls (.long (x.toInt64) :: st))) : Go p e below F T (mkF m pc Ls (.int x :: st)) := by
  subst hq
  exact Go.of (fun t k => XS.i2l X.here hx rfl hd rfl k) K
theorem Go.s_l2i (X : Stand p l e R s m args below meth c T locs cells slots) (hx : p.tables.exec = Jvm.exec) {pc q : Nat} {Ls : Array Slot} {st : List Value} {x : Int64} (hd : decode c.code pc = .ok (.l2i, 1)) (hq : pc + 1 = q)  (K : Go p e below F T (mkF m q Ls (.int (x.toInt32) :: st))) : Go p e below F T (mkF m pc Ls (.long x :: st)) := by
  subst hq
  exact Go.of (fun t k => XS.l2i X.here hx rfl hd rfl k) K
theorem Go.s_lcmp (X : Stand p l e R s m args below meth c T locs cells slots) (hx : p.tables.exec = Jvm.exec) {pc q : Nat} {Ls : Array Slot} {st : List Value} {x y : Int64} (hd : decode c.code pc = .ok (.lcmp, 1)) (hq : pc + 1 = q)  (K : Go p e below F T (mkF m q Ls (.int (lcmpW x y) :: st))) : Go p e below F T (mkF m pc Ls (.long y :: .long x :: st)) := by
  subst hq
  exact Go.of (fun t k => XS.lcmp X.here hx rfl hd rfl k) K
theorem Go.s_ldiv (X : Stand p l e R s m args below meth c T locs cells slots) (hx : p.tables.exec = Jvm.exec) {pc q : Nat} {Ls : Array Slot} {st : List Value} {x y : Int64} (hd : decode c.code pc = .ok (.ldiv, 1)) (hq : pc + 1 = q) (hy : y ≠ 0) (K : Go p e below F T (mkF m q Ls (.long (x / y) :: st))) : Go p e below F T (mkF m pc Ls (.long y :: .long x :: st)) := by
  subst hq
  exact Go.of (fun t k => XS.ldiv X.here hx rfl hd rfl hy k) K
theorem Go.s_dup (X : Stand p l e R s m args below meth c T locs cells slots) (hx : p.tables.exec = Jvm.exec) {pc q : Nat} {Ls : Array Slot} {st : List Value} {x : Value} (hd : decode c.code pc = .ok (.dup, 1)) (hq : pc + 1 = q) (hc : x.category = 1) (K : Go p e below F T (mkF m q Ls (x :: x :: st))) : Go p e below F T (mkF m pc Ls (x :: st)) := by
  subst hq
  exact Go.of (fun t k => XS.dup X.here hx rfl hd rfl hc k) K
theorem Go.s_goto (X : Stand p l e R s m args below meth c T locs cells slots) (hx : p.tables.exec = Jvm.exec) {pc q : Nat} {Ls : Array Slot} {st : List Value}  {o : Int} (hd : decode c.code pc = .ok (.goto o, 3)) (ho : 0 ≤ (pc : Int) + o) (hp : ((pc : Int) + o).toNat = q)  (K : Go p e below F T (mkF m q Ls st)) : Go p e below F T (mkF m pc Ls (st)) :=
  Go.of (fun t k => XS.goto X.here hx rfl rfl hd ho hp k) K
theorem Go.s_ifYes (X : Stand p l e R s m args below meth c T locs cells slots) (hx : p.tables.exec = Jvm.exec) {pc q : Nat} {Ls : Array Slot} {st : List Value} {cd : ClassFile.Cond} {x : Int32} {o : Int} (hd : decode c.code pc = .ok (.ifCond cd o, 3)) (ho : 0 ≤ (pc : Int) + o) (hp : ((pc : Int) + o).toNat = q) (hc : ifCond.holds cd x = true) (K : Go p e below F T (mkF m q Ls st)) : Go p e below F T (mkF m pc Ls (.int x :: st)) :=
  Go.of (fun t k => XS.ifYes X.here hx rfl rfl hd rfl hc ho hp k) K
theorem Go.s_icmpYes (X : Stand p l e R s m args below meth c T locs cells slots) (hx : p.tables.exec = Jvm.exec) {pc q : Nat} {Ls : Array Slot} {st : List Value} {cd : ClassFile.Cond} {x y : Int32} {o : Int} (hd : decode c.code pc = .ok (.if_icmp cd o, 3)) (ho : 0 ≤ (pc : Int) + o) (hp : ((pc : Int) + o).toNat = q) (hc : if_icmp.holds cd x y = true) (K : Go p e below F T (mkF m q Ls st)) : Go p e below F T (mkF m pc Ls (.int y :: .int x :: st)) :=
  Go.of (fun t k => XS.icmpYes X.here hx rfl rfl hd rfl hc ho hp k) K
theorem Go.s_ifNo (X : Stand p l e R s m args below meth c T locs cells slots) (hx : p.tables.exec = Jvm.exec) {pc q : Nat} {Ls : Array Slot} {st : List Value} {cd : ClassFile.Cond} {o : Int} {x : Int32} (hd : decode c.code pc = .ok (.ifCond cd o, 3)) (hq : pc + 3 = q) (hc : ifCond.holds cd x = false) (K : Go p e below F T (mkF m q Ls (st))) : Go p e below F T (mkF m pc Ls (.int x :: st)) := by
  subst hq
  exact Go.of (fun t k => XS.ifNo X.here hx rfl hd rfl hc k) K
theorem Go.s_ldc (X : Stand p l e R s m args below meth c T locs cells slots) (hx : p.tables.exec = Jvm.exec) {pc q : Nat} {Ls : Array Slot} {st : List Value} {own : String} {index : Nat} {v : Int32} (hd : decode c.code pc = .ok (.ldc index, 2)) (hq : pc + 2 = q) (hown : s.vm.findClass own = some m.cls) (w : (Jvm.Cond.constant own index v).before args s = true) (K : Go p e below F T (mkF m q Ls (.int v :: st))) : Go p e below F T (mkF m pc Ls st) := by
  subst hq
  exact Go.of (X.ldcInt hx hown w (g := mkF m pc Ls st) rfl hd) K
end OwnSteps
theorem one_le {x z : Int32} (h : (x &&& (2147483647 : Int32)) = z) (hz : ¬ (z = (0 : Int32))) : ¬ (z < (1 : Int32)) := by
  subst h
  intro q
  have t1 := Int32.lt_iff_toInt_lt.mp q
  have t2 := c_mask x (2147483647 : Int32) 31 (by decide) (by decide)
  have t3 := mt Int32.toInt_inj.mp hz
  have t4 : (1 : Int32).toInt = 1 := by decide
  have t5 : (0 : Int32).toInt = 0 := by decide
  omega
theorem mask_nn {x z : Int32} (h : (x &&& (2147483647 : Int32)) = z) : 0 ≤ z.toInt := by
  subst h
  have t2 := c_mask x (2147483647 : Int32) 31 (by decide) (by decide)
  omega
theorem nz64 {x : Int32} (h : ¬ (x < (1 : Int32))) : x.toInt64 ≠ 0 := by
  intro q
  have t1 := mt Int32.lt_iff_toInt_lt.mpr h
  have t2 := c_i2l x
  have t4 : (1 : Int32).toInt = 1 := by decide
  have t3 : (0 : Int64).toInt = 0 := by decide
  rw [q] at t2
  omega
theorem share (lim n q : Int32) (h1 : 0 ≤ lim.toInt) (h2 : 1 ≤ n.toInt) (hq : q = ((((lim.toInt64) + (n.toInt64)) - (1 : Int64)) / (n.toInt64)).toInt32) :
    0 ≤ q.toInt ∧ lim.toInt ≤ q.toInt * n.toInt ∧ q.toInt * n.toInt - n.toInt < lim.toInt ∧ ((q.toInt64) * (n.toInt64)).toInt = q.toInt * n.toInt := by
  have r1 := rng32 lim
  have r2 := rng32 n
  have i1 := c_i2l lim
  have i2 := c_i2l n
  have i3 := c_i2l q
  have k1 : (1 : Int64).toInt = 1 := by decide
  have a1 := c_ladd lim.toInt64 n.toInt64
  have a2 := c_lsub (lim.toInt64 + n.toInt64) (1 : Int64)
  have b1 := rng64 (lim.toInt64 + n.toInt64)
  have b2 := rng64 (lim.toInt64 + n.toInt64 - 1)
  have e1 : (lim.toInt64 + n.toInt64 - 1).toInt = lim.toInt + n.toInt - 1 := by omega
  have hne : n.toInt64 ≠ -1 := fun z => by have := congrArg Int64.toInt z; rw [i2] at this; have : (-1 : Int64).toInt = -1 := by decide
                                           omega
  have d0 : ((lim.toInt64 + n.toInt64 - 1) / n.toInt64).toInt = (lim.toInt + n.toInt - 1) / n.toInt := by
    rw [Int64.toInt_div_of_ne_right _ _ hne, e1, i2]
    exact Int.tdiv_eq_ediv_of_nonneg (by omega)
  have l1 := c_l2i ((lim.toInt64 + n.toInt64 - 1) / n.toInt64)
  rw [← hq, d0] at l1
  have m1 : (lim.toInt + n.toInt - 1) / n.toInt * n.toInt ≤ lim.toInt + n.toInt - 1 := Int.ediv_mul_le _ (by omega)
  have m2 : lim.toInt + n.toInt - 1 < ((lim.toInt + n.toInt - 1) / n.toInt + 1) * n.toInt := Int.lt_ediv_add_one_mul_self _ (by omega)
  have m3 : 0 ≤ (lim.toInt + n.toInt - 1) / n.toInt := Int.ediv_nonneg (by omega) (by omega)
  generalize hD : (lim.toInt + n.toInt - 1) / n.toInt = D at *
  rw [Int.add_mul, Int.one_mul] at m2
  have m4 : D ≤ 2147483647 := by
    rcases Int.lt_or_le D 1 with z | z
    · omega
    · have q1 : (D - 1) * 1 ≤ (D - 1) * n.toInt := Int.mul_le_mul_of_nonneg_left h2 (by omega)
      rw [Int.mul_one, Int.sub_mul, Int.one_mul] at q1
      omega
  have r3 := rng32 q
  have e2 : q.toInt = D := by omega
  have p1 := c_lmul q.toInt64 n.toInt64
  have p2 := rng64 (q.toInt64 * n.toInt64)
  rw [i3, i2, e2] at p1
  rw [e2]
  generalize D * n.toInt = P at *
  refine ⟨by omega, by omega, by omega, by omega⟩
abbrev mn_3 : MethodName := ⟨"com/example/irama/irama/Prefilter", "localShare", "(I)I"⟩
abbrev mn_1 : MethodName := ⟨"com/example/irama/irama/Prefilter", "<init>", "(I)V"⟩
theorem pn_com_example_irama_irama_Prefilter : plainName "com/example/irama/irama/Prefilter" = true := by first | (simp [plainName, overriddenIn]; done) | decide +kernel
theorem d1_0 : decode prog_4_method_1_code 0 = .ok (.aload_n 0, 1) := by decide +kernel
theorem d1_1 : decode prog_4_method_1_code 1 = .ok (.invokespecial 1, 3) := by decide +kernel
theorem d1_4 : decode prog_4_method_1_code 4 = .ok (.iload_n 1, 1) := by decide +kernel
theorem d1_5 : decode prog_4_method_1_code 5 = .ok (.iconst 1, 1) := by decide +kernel
theorem d1_6 : decode prog_4_method_1_code 6 = .ok (.if_icmp .ge 17, 3) := by decide +kernel
theorem d1_23 : decode prog_4_method_1_code 23 = .ok (.aload_n 0, 1) := by decide +kernel
theorem d1_24 : decode prog_4_method_1_code 24 = .ok (.iload_n 1, 1) := by decide +kernel
theorem d1_25 : decode prog_4_method_1_code 25 = .ok (.putfield 16, 3) := by decide +kernel
theorem d1_28 : decode prog_4_method_1_code 28 = .ok (.return_, 1) := by decide +kernel
theorem d3_0 : decode prog_4_method_3_code 0 = .ok (.iload_n 1, 1) := by decide +kernel
theorem d3_1 : decode prog_4_method_3_code 1 = .ok (.i2l, 1) := by decide +kernel
theorem d3_2 : decode prog_4_method_3_code 2 = .ok (.aload_n 0, 1) := by decide +kernel
theorem d3_3 : decode prog_4_method_3_code 3 = .ok (.getfield 16, 3) := by decide +kernel
theorem d3_6 : decode prog_4_method_3_code 6 = .ok (.i2l, 1) := by decide +kernel
theorem d3_7 : decode prog_4_method_3_code 7 = .ok (.ladd, 1) := by decide +kernel
theorem d3_8 : decode prog_4_method_3_code 8 = .ok (.lconst 1, 1) := by decide +kernel
theorem d3_9 : decode prog_4_method_3_code 9 = .ok (.lsub, 1) := by decide +kernel
theorem d3_10 : decode prog_4_method_3_code 10 = .ok (.aload_n 0, 1) := by decide +kernel
theorem d3_11 : decode prog_4_method_3_code 11 = .ok (.getfield 16, 3) := by decide +kernel
theorem d3_14 : decode prog_4_method_3_code 14 = .ok (.i2l, 1) := by decide +kernel
theorem d3_15 : decode prog_4_method_3_code 15 = .ok (.ldiv, 1) := by decide +kernel
theorem d3_16 : decode prog_4_method_3_code 16 = .ok (.l2i, 1) := by decide +kernel
theorem d3_17 : decode prog_4_method_3_code 17 = .ok (.ireturn, 1) := by decide +kernel
theorem pn_com_example_irama_irama_PrefilterLocalSharePinLaw : plainName "com/example/irama/irama/PrefilterLocalSharePinLaw" = true := by first | (simp [plainName, overriddenIn]; done) | decide +kernel
theorem pd_2 : parseMethodDescriptor "(I)V" = some ⟨[.int], none⟩ := by decide +kernel
theorem pd_1 : parseMethodDescriptor "(I)I" = some ⟨[.int], some .int⟩ := by decide +kernel
theorem ef_ini (m : MethodId) (x0 : Addr) (x1 : Int32) : entryFrame m #[(.ref x0), (.int x1)] 2 = mkF m 0 #[.val (.ref x0), .val (.int x1)] [] := by first | (simp [entryFrame, mkF, argsToLocals, Value.category]; done) | rfl
set_option maxRecDepth 65536 in
set_option maxHeartbeats 40000000 in
theorem rm_ini (l : Launch) (Z : State) (a0 : Array Value) (hw : ∀ d ∈ tables_1, d.before a0 Z = true) (a : Addr) (x1 : Int32) (h0 : Heap) (n0 : Nat) (u : Value) (E_a : Exa Z h0 a "com/example/irama/irama/Prefilter") (F_a : Fld Z h0 a "com/example/irama/irama/Prefilter" "instances" "I" u) (g_a : n0 ≤ a) (hx1 : ¬ (x1 < (1 : Int32))) :
    Ct l mn_1 prog_4_method_1_code 2 none ({ frames := 1, cells := 0, slots := 0, locals := 12 } : Room) Z h0 #[(.ref a), (.int x1)] (fun v h L => v = none ∧ Fr n0 L ∧ Keep h0 h [a] ∧ Exa Z h a "com/example/irama/irama/Prefilter" ∧ Fld Z h a "com/example/irama/irama/Prefilter" "instances" "I" (.int x1)) := by
  refine Ct.body (plainFor_of_name pn_com_example_irama_irama_Prefilter) ?_
  intro p e s m below meth c T0 hx hby hml hown hnm hret hlk hZ X0 e0
  refine Go.cast (ef_ini m a x1) ?_
  show Go p e below _ T0 (mkF m 0 #[.val (.ref a), .val (.int x1)] [])
  refine Go.s_aloadN X0 hx (hb hby d1_0) (q := 1) rfl rfl rfl ?_
  refine Go.initO X0 hx hZ hown (w_ hw 7 rfl) (w_ hw 8 rfl) (w_ hw 9 rfl) e0 (by rw [hml]; rfl) (hb hby d1_1) (by decide) (by decide) ?_
  intro T1 X1 e1
  show Go p e below _ T1 (mkF m 4 #[.val (.ref a), .val (.int x1)] [])
  refine Go.s_iloadN X1 hx (hb hby d1_4) (q := 5) rfl rfl ?_
  refine Go.s_iconst X1 hx (hb hby d1_5) (q := 6) rfl (z := 1) rfl ?_
  refine Go.s_icmpYes X1 hx (hb hby d1_6) (q := 23) (by decide) (by decide) (flt hx1).2.1 ?_
  refine Go.s_aloadN X1 hx (hb hby d1_23) (q := 24) rfl rfl rfl ?_
  refine Go.s_iloadN X1 hx (hb hby d1_24) (q := 25) rfl rfl ?_
  refine Go.putF X1 hx hZ hown (w_ hw 10 rfl) Via.refl e1 F_a E_a (Or.inr ⟨(w_ hw 11 rfl), rfl, hnm⟩) (w_ hw 2 rfl) (ty := .int) (by decide) rfl rfl (hb hby d1_25) ?_
  intro T2 h2 X2 e2 W2
  have N2 := Fr.snoc X2 (Fr.nil n0) g_a
  have E_a_v3 := E_a.wr W2
  have fact_K_v4 := (Keep.refl h0 [a]).wr W2 (Or.inl (by simp))
  have F_instances_a_v5 := F_a.same W2
  show Go p e below _ T2 (mkF m 28 #[.val (.ref a), .val (.int x1)] [])
  refine Go.retV X2 hx hlk hret (hb hby d1_28) (by decide) (by decide) ?_
  try rw [e2]
  exact ⟨rfl, N2, fact_K_v4, E_a_v3, F_instances_a_v5⟩
theorem ef_ls (m : MethodId) (x0 : Addr) (x1 : Int32) : entryFrame m #[(.ref x0), (.int x1)] 2 = mkF m 0 #[.val (.ref x0), .val (.int x1)] [] := by first | (simp [entryFrame, mkF, argsToLocals, Value.category]; done) | rfl
set_option maxRecDepth 65536 in
set_option maxHeartbeats 40000000 in
theorem rm_ls (l : Launch) (Z : State) (a0 : Array Value) (hw : ∀ d ∈ tables_1, d.before a0 Z = true) (a : Addr) (x1 : Int32) (h0 : Heap) (w : Int32) (F_a : Fld Z h0 a "com/example/irama/irama/Prefilter" "instances" "I" (.int w)) (hnz : w.toInt64 ≠ 0) :
    Ct l mn_3 prog_4_method_3_code 2 (some .int) ({ frames := 0, cells := 0, slots := 0, locals := 0 } : Room) Z h0 #[(.ref a), (.int x1)] (fun v h L => ∃ r, v = some (.int r) ∧ r = ((((x1.toInt64) + (w.toInt64)) - (1 : Int64)) / (w.toInt64)).toInt32 ∧ L = [] ∧ h = h0) := by
  refine Ct.body (plainFor_of_name pn_com_example_irama_irama_Prefilter) ?_
  intro p e s m below meth c T0 hx hby hml hown hnm hret hlk hZ X0 e0
  refine Go.cast (ef_ls m a x1) ?_
  show Go p e below _ T0 (mkF m 0 #[.val (.ref a), .val (.int x1)] [])
  refine Go.s_iloadN X0 hx (hb hby d3_0) (q := 1) rfl rfl ?_
  refine Go.s_i2l X0 hx (hb hby d3_1) (q := 2) rfl ?_
  refine Go.s_aloadN X0 hx (hb hby d3_2) (q := 3) rfl rfl rfl ?_
  refine Go.getF X0 hx hZ hown (w_ hw 10 rfl) Via.refl e0 F_a (hb hby d3_3) ?_
  intro T1 X1 e1
  show Go p e below _ T1 (mkF m 6 #[.val (.ref a), .val (.int x1)] [(.int w), (.long (x1.toInt64))])
  refine Go.s_i2l X1 hx (hb hby d3_6) (q := 7) rfl ?_
  refine Go.s_ladd X1 hx (hb hby d3_7) (q := 8) rfl ?_
  refine Go.s_lconst X1 hx (hb hby d3_8) (q := 9) rfl (z := 1) rfl ?_
  refine Go.s_lsub X1 hx (hb hby d3_9) (q := 10) rfl ?_
  refine Go.s_aloadN X1 hx (hb hby d3_10) (q := 11) rfl rfl rfl ?_
  refine Go.getF X1 hx hZ hown (w_ hw 10 rfl) Via.refl e1 F_a (hb hby d3_11) ?_
  intro T2 X2 e2
  show Go p e below _ T2 (mkF m 14 #[.val (.ref a), .val (.int x1)] [(.int w), (.long (((x1.toInt64) + (w.toInt64)) - (1 : Int64)))])
  refine Go.s_i2l X2 hx (hb hby d3_14) (q := 15) rfl ?_
  refine Go.s_ldiv X2 hx (hb hby d3_15) (q := 16) rfl hnz ?_
  refine Go.s_l2i X2 hx (hb hby d3_16) (q := 17) rfl ?_
  refine Go.retI X2 hx hlk hret (hb hby d3_17) (by decide) (by decide) ?_
  try rw [e2]
  exact ⟨_, rfl, rfl, rfl, rfl⟩
theorem ef_law (m : MethodId) (x0 : Int32) (x1 : Int32) : entryFrame m #[(.int x0), (.int x1)] maxLocals = mkF m 0 #[.val (.int x0), .val (.int x1), .unset, .unset, .unset, .unset, .unset, .unset] [] := by first | (simp [entryFrame, mkF, argsToLocals, Value.category, maxLocals]; done) | rfl
set_option maxRecDepth 65536 in
set_option maxHeartbeats 40000000 in
theorem rm_law (l : Launch) (Z : State) (a0 : Array Value) (hw : ∀ d ∈ tables_1, d.before a0 Z = true) (x0 : Int32) (x1 : Int32) (h0 : Heap) (n0 : Nat) (Z0 : n0 ≤ h0.size) :
    Ct l x code maxLocals ret room_1 Z h0 #[(.int x0), (.int x1)] (fun v h L => v = some (.int 1) ∧ Fr n0 L) := by
  refine Ct.body (plainFor_of_name pn_com_example_irama_irama_PrefilterLocalSharePinLaw) ?_
  intro p e s m below meth c T0 hx hby hml hown hnm hret hlk hZ X0 e0
  refine Go.cast (ef_law m x0 x1) ?_
  show Go p e below _ T0 (mkF m 0 #[.val (.int x0), .val (.int x1), .unset, .unset, .unset, .unset, .unset, .unset] [])
  refine Go.s_iloadN X0 hx (hb hby at_0) (q := 1) rfl rfl ?_
  refine Go.s_ldc X0 hx (hb hby at_1) (q := 3) rfl hown (mvT hZ (w_ hw 0 rfl)) ?_
  refine Go.s_iand X0 hx (hb hby at_3) (q := 4) rfl ?_
  refine Go.s_istoreN X0 hx (hb hby at_4) (q := 5) rfl (l' := #[.val (.int x0), .val (.int x1), .val (.int (x0 &&& (2147483647 : Int32))), .unset, .unset, .unset, .unset, .unset]) rfl ?_
  generalize hv1 : (x0 &&& (2147483647 : Int32)) = v1
  refine Go.s_iloadN X0 hx (hb hby at_5) (q := 6) rfl rfl ?_
  refine Go.s_ldc X0 hx (hb hby at_6) (q := 8) rfl hown (mvT hZ (w_ hw 0 rfl)) ?_
  refine Go.s_iand X0 hx (hb hby at_8) (q := 9) rfl ?_
  refine Go.s_istoreN X0 hx (hb hby at_9) (q := 10) rfl (l' := #[.val (.int x0), .val (.int x1), .val (.int v1), .val (.int (x1 &&& (2147483647 : Int32))), .unset, .unset, .unset, .unset]) rfl ?_
  generalize hv2 : (x1 &&& (2147483647 : Int32)) = v2
  refine Go.s_iloadN X0 hx (hb hby at_10) (q := 11) rfl rfl ?_
  by_cases c11_3 : v2 = (0 : Int32)
  · -- pc 11: v2 = (0 : Int32)
    refine Go.s_ifNo X0 hx (hb hby at_11) (q := 14) rfl ((if0 _ _).trans (teq c11_3).2) ?_
    refine Go.s_iconst X0 hx (hb hby at_14) (q := 15) rfl (z := 1) rfl ?_
    refine Go.s_istoreN X0 hx (hb hby at_15) (q := 16) rfl (l' := #[.val (.int x0), .val (.int x1), .val (.int v1), .val (.int (1 : Int32)), .unset, .unset, .unset, .unset]) rfl ?_
    refine Go.newO X0 hx hZ hown (w_ hw 1 rfl) (w_ hw 2 rfl) (w_ hw 3 rfl) e0 (hb hby at_16) (by decide) (by decide) ?_
    intro T4 h4 b4 g4 X4 e4 E4 A4 D4
    have g_b4 : n0 ≤ b4 := g4 ▸ Z0
    have Z0_v5 := Nat.le_trans Z0 E4.1
    have F_instances_b4 : Fld Z h4 b4 "com/example/irama/irama/Prefilter" "instances" "I" (.int (0 : Int32)) := D4 (Or.inr (w_ hw 11 rfl)) (ty := .int) (by decide)
    show Go p e below _ T4 (mkF m 19 #[.val (.int x0), .val (.int x1), .val (.int v1), .val (.int (1 : Int32)), .unset, .unset, .unset, .unset] [(.ref b4)])
    refine Go.s_dup X4 hx (hb hby at_19) (q := 20) rfl rfl ?_
    refine Go.s_iloadN X4 hx (hb hby at_20) (q := 21) rfl rfl ?_
    have hge : ¬ ((1 : Int32) < (1 : Int32)) := by decide
    refine Go.callC (y := mn_1) X4 hx hZ rfl hown (w_ hw 4 rfl) (w_ hw 5 rfl) (w_ hw 6 rfl) (w_ hw 3 rfl) (by decide) e4 (b := b4) (argsL := [(.int (1 : Int32))]) (rest := [(.ref b4)]) (rm_ini l Z a0 hw b4 (1 : Int32) h4 n0 _ A4 F_instances_b4 g_b4 hge) (by rw [hml]; rfl) (lenOf pd_2 rfl) rfl (hb hby at_21) (by first | decide | exact Nat.le_of_ble_eq_true rfl) (by first | decide | exact Nat.le_of_ble_eq_true rfl) (by first | decide | exact Nat.le_of_ble_eq_true rfl) (by first | decide | exact Nat.le_of_ble_eq_true rfl) ?_
    intro r6 T6 L6 q6 X6
    obtain ⟨rfl, N6q, K6, Ea6, Fa6⟩ := q6
    have N6 := Fr.app (Fr.nil n0) N6q
    have Z0_v7 := Nat.le_trans Z0_v5 K6.1
    have A4_v8 := A4.keep K6
    show Go p e below _ T6 (mkF m 24 #[.val (.int x0), .val (.int x1), .val (.int v1), .val (.int (1 : Int32)), .unset, .unset, .unset, .unset] [(.ref b4)])
    refine Go.s_astore X6 hx (hb hby at_24) (q := 26) rfl rfl (l' := #[.val (.int x0), .val (.int x1), .val (.int v1), .val (.int (1 : Int32)), .val (.ref b4), .unset, .unset, .unset]) rfl ?_
    refine Go.s_aload X6 hx (hb hby at_26) (q := 28) rfl rfl rfl ?_
    refine Go.s_iloadN X6 hx (hb hby at_28) (q := 29) rfl rfl ?_
    have hnz := nz64 hge
    refine Go.callV (y := mn_3) (z := mn_3) X6 hx hZ hown (w_ hw 12 rfl) (w_ hw 13 rfl) (notFace_of_selects (args := #[]) (mvT hZ (w_ hw 15 rfl))) (w_ hw 15 rfl) (w_ hw 14 rfl) (w_ hw 16 rfl) (w_ hw 3 rfl) (by decide) rfl Ea6 (argsL := [(.int v1)]) (rest := []) (rm_ls l Z a0 hw b4 v1 T6.heap (1 : Int32) Fa6 hnz) (by rw [hml]; rfl) (lenOf pd_1 rfl) rfl (hb hby at_29) (by decide) (by decide) (by decide) (by decide) ?_
    intro r9 T9 L9 q9 X9
    obtain ⟨w9, rfl, p9, rfl, e9⟩ := q9
    rw [List.append_nil] at X9
    show Go p e below _ T9 (mkF m 32 #[.val (.int x0), .val (.int x1), .val (.int v1), .val (.int (1 : Int32)), .val (.ref b4), .unset, .unset, .unset] [(.int w9)])
    refine Go.s_istore X9 hx (hb hby at_32) (q := 34) rfl (l' := #[.val (.int x0), .val (.int x1), .val (.int v1), .val (.int (1 : Int32)), .val (.ref b4), .val (.int w9), .unset, .unset]) rfl ?_
    refine Go.s_iload X9 hx (hb hby at_34) (q := 36) rfl rfl ?_
    refine Go.s_i2l X9 hx (hb hby at_36) (q := 37) rfl ?_
    refine Go.s_iloadN X9 hx (hb hby at_37) (q := 38) rfl rfl ?_
    refine Go.s_i2l X9 hx (hb hby at_38) (q := 39) rfl ?_
    refine Go.s_lmul X9 hx (hb hby at_39) (q := 40) rfl ?_
    refine Go.s_lstore X9 hx (hb hby at_40) (q := 42) rfl (l' := #[.val (.int x0), .val (.int x1), .val (.int v1), .val (.int (1 : Int32)), .val (.ref b4), .val (.int w9), .val (.long ((w9.toInt64) * ((1 : Int32).toInt64))), .second]) rfl ?_
    generalize hv10 : ((w9.toInt64) * ((1 : Int32).toInt64)) = v10
    refine Go.s_iload X9 hx (hb hby at_42) (q := 44) rfl rfl ?_
    by_cases c44_11 : w9 < (0 : Int32)
    · -- pc 44: w9 < (0 : Int32)
      refine Go.s_ifYes X9 hx (hb hby at_44) (q := 70) (by decide) (by decide) ((if0 _ _).trans (tlt c44_11).1) ?_
      refine Go.s_iconst X9 hx (hb hby at_70) (q := 71) rfl (z := 0) rfl ?_
      refine Go.retN X9 hx hlk hret (by simp) (hb hby at_71) (by decide) (by decide) ?_
      try rw [e9]
      exfalso
      obtain ⟨s1, s2, s3, s4⟩ := share v1 (1 : Int32) w9 (mask_nn hv1) (by have := mt Int32.lt_iff_toInt_lt.mpr hge; have : (1 : Int32).toInt = 1 := (by decide); omega) p9
      have s5 := congrArg Int64.toInt hv10
      have := Int32.lt_iff_toInt_lt.mp c44_11
      have := rng32 w9
      have := (by decide : ((0 : Int32)).toInt = 0)
      generalize w9.toInt * (1 : Int32).toInt = pr at *
      omega
    · -- pc 44: not w9 < (0 : Int32)
      refine Go.s_ifNo X9 hx (hb hby at_44) (q := 47) rfl ((if0 _ _).trans (flt c44_11).1) ?_
      refine Go.s_lload X9 hx (hb hby at_47) (q := 49) rfl rfl ?_
      refine Go.s_iloadN X9 hx (hb hby at_49) (q := 50) rfl rfl ?_
      refine Go.s_i2l X9 hx (hb hby at_50) (q := 51) rfl ?_
      refine Go.s_lcmp X9 hx (hb hby at_51) (q := 52) rfl ?_
      by_cases c52_12 : v10 < (v1.toInt64)
      · -- pc 52: v10 < (v1.toInt64)
        refine Go.s_ifYes X9 hx (hb hby at_52) (q := 70) (by decide) (by decide) ((if0 _ _).trans (tlt ((lw_lt v10 (v1.toInt64)).mpr c52_12)).1) ?_
        refine Go.s_iconst X9 hx (hb hby at_70) (q := 71) rfl (z := 0) rfl ?_
        refine Go.retN X9 hx hlk hret (by simp) (hb hby at_71) (by decide) (by decide) ?_
        try rw [e9]
        exfalso
        obtain ⟨s1, s2, s3, s4⟩ := share v1 (1 : Int32) w9 (mask_nn hv1) (by have := mt Int32.lt_iff_toInt_lt.mpr hge; have : (1 : Int32).toInt = 1 := (by decide); omega) p9
        have s5 := congrArg Int64.toInt hv10
        have := mt Int32.lt_iff_toInt_lt.mpr c44_11
        have := Int64.lt_iff_toInt_lt.mp c52_12
        have := rng32 w9
        have := (by decide : ((0 : Int32)).toInt = 0)
        have := rng64 v10
        have := rng32 v1
        have := c_i2l (v1)
        generalize w9.toInt * (1 : Int32).toInt = pr at *
        omega
      · -- pc 52: not v10 < (v1.toInt64)
        refine Go.s_ifNo X9 hx (hb hby at_52) (q := 55) rfl ((if0 _ _).trans (flt (fun q => c52_12 ((lw_lt v10 (v1.toInt64)).mp q))).1) ?_
        refine Go.s_lload X9 hx (hb hby at_55) (q := 57) rfl rfl ?_
        refine Go.s_iloadN X9 hx (hb hby at_57) (q := 58) rfl rfl ?_
        refine Go.s_i2l X9 hx (hb hby at_58) (q := 59) rfl ?_
        refine Go.s_lsub X9 hx (hb hby at_59) (q := 60) rfl ?_
        refine Go.s_iloadN X9 hx (hb hby at_60) (q := 61) rfl rfl ?_
        refine Go.s_i2l X9 hx (hb hby at_61) (q := 62) rfl ?_
        refine Go.s_lcmp X9 hx (hb hby at_62) (q := 63) rfl ?_
        by_cases c63_13 : (v10 - ((1 : Int32).toInt64)) < (v1.toInt64)
        · -- pc 63: (v10 - ((1 : Int32).toInt64)) < (v1.toInt64)
          refine Go.s_ifNo X9 hx (hb hby at_63) (q := 66) rfl ((if0 _ _).trans (tlt ((lw_lt (v10 - ((1 : Int32).toInt64)) (v1.toInt64)).mpr c63_13)).2.1) ?_
          refine Go.s_iconst X9 hx (hb hby at_66) (q := 67) rfl (z := 1) rfl ?_
          refine Go.s_goto X9 hx (hb hby at_67) (q := 71) (by decide) (by decide) ?_
          refine Go.retN X9 hx hlk hret (by simp) (hb hby at_71) (by decide) (by decide) ?_
          try rw [e9]
          exact ⟨by decide, N6⟩
        · -- pc 63: not (v10 - ((1 : Int32).toInt64)) < (v1.toInt64)
          refine Go.s_ifYes X9 hx (hb hby at_63) (q := 70) (by decide) (by decide) ((if0 _ _).trans (flt (fun q => c63_13 ((lw_lt (v10 - ((1 : Int32).toInt64)) (v1.toInt64)).mp q))).2.1) ?_
          refine Go.s_iconst X9 hx (hb hby at_70) (q := 71) rfl (z := 0) rfl ?_
          refine Go.retN X9 hx hlk hret (by simp) (hb hby at_71) (by decide) (by decide) ?_
          try rw [e9]
          exfalso
          obtain ⟨s1, s2, s3, s4⟩ := share v1 (1 : Int32) w9 (mask_nn hv1) (by have := mt Int32.lt_iff_toInt_lt.mpr hge; have : (1 : Int32).toInt = 1 := (by decide); omega) p9
          have s5 := congrArg Int64.toInt hv10
          have := mt Int32.lt_iff_toInt_lt.mpr c44_11
          have := mt Int64.lt_iff_toInt_lt.mpr c52_12
          have := mt Int64.lt_iff_toInt_lt.mpr c63_13
          have := rng32 w9
          have := (by decide : ((0 : Int32)).toInt = 0)
          have := rng64 v10
          have := rng32 v1
          have := c_i2l (v1)
          have := (by decide : ((1 : Int32)).toInt = 1)
          have := c_i2l ((1 : Int32))
          have := c_lsub v10 (1 : Int32).toInt64
          have := rng64 (v10 - (1 : Int32).toInt64)
          generalize w9.toInt * (1 : Int32).toInt = pr at *
          omega
  · -- pc 11: not v2 = (0 : Int32)
    refine Go.s_ifYes X0 hx (hb hby at_11) (q := 16) (by decide) (by decide) ((if0 _ _).trans (feq c11_3).2) ?_
    refine Go.newO X0 hx hZ hown (w_ hw 1 rfl) (w_ hw 2 rfl) (w_ hw 3 rfl) e0 (hb hby at_16) (by decide) (by decide) ?_
    intro T14 h14 b14 g14 X14 e14 E14 A14 D14
    have g_b14 : n0 ≤ b14 := g14 ▸ Z0
    have Z0_v15 := Nat.le_trans Z0 E14.1
    have F_instances_b14 : Fld Z h14 b14 "com/example/irama/irama/Prefilter" "instances" "I" (.int (0 : Int32)) := D14 (Or.inr (w_ hw 11 rfl)) (ty := .int) (by decide)
    show Go p e below _ T14 (mkF m 19 #[.val (.int x0), .val (.int x1), .val (.int v1), .val (.int v2), .unset, .unset, .unset, .unset] [(.ref b14)])
    refine Go.s_dup X14 hx (hb hby at_19) (q := 20) rfl rfl ?_
    refine Go.s_iloadN X14 hx (hb hby at_20) (q := 21) rfl rfl ?_
    have hge : ¬ (v2 < (1 : Int32)) := one_le hv2 c11_3
    refine Go.callC (y := mn_1) X14 hx hZ rfl hown (w_ hw 4 rfl) (w_ hw 5 rfl) (w_ hw 6 rfl) (w_ hw 3 rfl) (by decide) e14 (b := b14) (argsL := [(.int v2)]) (rest := [(.ref b14)]) (rm_ini l Z a0 hw b14 v2 h14 n0 _ A14 F_instances_b14 g_b14 hge) (by rw [hml]; rfl) (lenOf pd_2 rfl) rfl (hb hby at_21) (by first | decide | exact Nat.le_of_ble_eq_true rfl) (by first | decide | exact Nat.le_of_ble_eq_true rfl) (by first | decide | exact Nat.le_of_ble_eq_true rfl) (by first | decide | exact Nat.le_of_ble_eq_true rfl) ?_
    intro r16 T16 L16 q16 X16
    obtain ⟨rfl, N16q, K16, Ea16, Fa16⟩ := q16
    have N16 := Fr.app (Fr.nil n0) N16q
    have Z0_v17 := Nat.le_trans Z0_v15 K16.1
    have A14_v18 := A14.keep K16
    show Go p e below _ T16 (mkF m 24 #[.val (.int x0), .val (.int x1), .val (.int v1), .val (.int v2), .unset, .unset, .unset, .unset] [(.ref b14)])
    refine Go.s_astore X16 hx (hb hby at_24) (q := 26) rfl rfl (l' := #[.val (.int x0), .val (.int x1), .val (.int v1), .val (.int v2), .val (.ref b14), .unset, .unset, .unset]) rfl ?_
    refine Go.s_aload X16 hx (hb hby at_26) (q := 28) rfl rfl rfl ?_
    refine Go.s_iloadN X16 hx (hb hby at_28) (q := 29) rfl rfl ?_
    have hnz := nz64 hge
    refine Go.callV (y := mn_3) (z := mn_3) X16 hx hZ hown (w_ hw 12 rfl) (w_ hw 13 rfl) (notFace_of_selects (args := #[]) (mvT hZ (w_ hw 15 rfl))) (w_ hw 15 rfl) (w_ hw 14 rfl) (w_ hw 16 rfl) (w_ hw 3 rfl) (by decide) rfl Ea16 (argsL := [(.int v1)]) (rest := []) (rm_ls l Z a0 hw b14 v1 T16.heap v2 Fa16 hnz) (by rw [hml]; rfl) (lenOf pd_1 rfl) rfl (hb hby at_29) (by decide) (by decide) (by decide) (by decide) ?_
    intro r19 T19 L19 q19 X19
    obtain ⟨w19, rfl, p19, rfl, e19⟩ := q19
    rw [List.append_nil] at X19
    show Go p e below _ T19 (mkF m 32 #[.val (.int x0), .val (.int x1), .val (.int v1), .val (.int v2), .val (.ref b14), .unset, .unset, .unset] [(.int w19)])
    refine Go.s_istore X19 hx (hb hby at_32) (q := 34) rfl (l' := #[.val (.int x0), .val (.int x1), .val (.int v1), .val (.int v2), .val (.ref b14), .val (.int w19), .unset, .unset]) rfl ?_
    refine Go.s_iload X19 hx (hb hby at_34) (q := 36) rfl rfl ?_
    refine Go.s_i2l X19 hx (hb hby at_36) (q := 37) rfl ?_
    refine Go.s_iloadN X19 hx (hb hby at_37) (q := 38) rfl rfl ?_
    refine Go.s_i2l X19 hx (hb hby at_38) (q := 39) rfl ?_
    refine Go.s_lmul X19 hx (hb hby at_39) (q := 40) rfl ?_
    refine Go.s_lstore X19 hx (hb hby at_40) (q := 42) rfl (l' := #[.val (.int x0), .val (.int x1), .val (.int v1), .val (.int v2), .val (.ref b14), .val (.int w19), .val (.long ((w19.toInt64) * (v2.toInt64))), .second]) rfl ?_
    generalize hv20 : ((w19.toInt64) * (v2.toInt64)) = v20
    refine Go.s_iload X19 hx (hb hby at_42) (q := 44) rfl rfl ?_
    by_cases c44_21 : w19 < (0 : Int32)
    · -- pc 44: w19 < (0 : Int32)
      refine Go.s_ifYes X19 hx (hb hby at_44) (q := 70) (by decide) (by decide) ((if0 _ _).trans (tlt c44_21).1) ?_
      refine Go.s_iconst X19 hx (hb hby at_70) (q := 71) rfl (z := 0) rfl ?_
      refine Go.retN X19 hx hlk hret (by simp) (hb hby at_71) (by decide) (by decide) ?_
      try rw [e19]
      exfalso
      obtain ⟨s1, s2, s3, s4⟩ := share v1 v2 w19 (mask_nn hv1) (by have := mt Int32.lt_iff_toInt_lt.mpr hge; have : (1 : Int32).toInt = 1 := (by decide); omega) p19
      have s5 := congrArg Int64.toInt hv20
      have := Int32.lt_iff_toInt_lt.mp c44_21
      have := rng32 w19
      have := (by decide : ((0 : Int32)).toInt = 0)
      generalize w19.toInt * v2.toInt = pr at *
      omega
    · -- pc 44: not w19 < (0 : Int32)
      refine Go.s_ifNo X19 hx (hb hby at_44) (q := 47) rfl ((if0 _ _).trans (flt c44_21).1) ?_
      refine Go.s_lload X19 hx (hb hby at_47) (q := 49) rfl rfl ?_
      refine Go.s_iloadN X19 hx (hb hby at_49) (q := 50) rfl rfl ?_
      refine Go.s_i2l X19 hx (hb hby at_50) (q := 51) rfl ?_
      refine Go.s_lcmp X19 hx (hb hby at_51) (q := 52) rfl ?_
      by_cases c52_22 : v20 < (v1.toInt64)
      · -- pc 52: v20 < (v1.toInt64)
        refine Go.s_ifYes X19 hx (hb hby at_52) (q := 70) (by decide) (by decide) ((if0 _ _).trans (tlt ((lw_lt v20 (v1.toInt64)).mpr c52_22)).1) ?_
        refine Go.s_iconst X19 hx (hb hby at_70) (q := 71) rfl (z := 0) rfl ?_
        refine Go.retN X19 hx hlk hret (by simp) (hb hby at_71) (by decide) (by decide) ?_
        try rw [e19]
        exfalso
        obtain ⟨s1, s2, s3, s4⟩ := share v1 v2 w19 (mask_nn hv1) (by have := mt Int32.lt_iff_toInt_lt.mpr hge; have : (1 : Int32).toInt = 1 := (by decide); omega) p19
        have s5 := congrArg Int64.toInt hv20
        have := mt Int32.lt_iff_toInt_lt.mpr c44_21
        have := Int64.lt_iff_toInt_lt.mp c52_22
        have := rng32 w19
        have := (by decide : ((0 : Int32)).toInt = 0)
        have := rng64 v20
        have := rng32 v1
        have := c_i2l (v1)
        generalize w19.toInt * v2.toInt = pr at *
        omega
      · -- pc 52: not v20 < (v1.toInt64)
        refine Go.s_ifNo X19 hx (hb hby at_52) (q := 55) rfl ((if0 _ _).trans (flt (fun q => c52_22 ((lw_lt v20 (v1.toInt64)).mp q))).1) ?_
        refine Go.s_lload X19 hx (hb hby at_55) (q := 57) rfl rfl ?_
        refine Go.s_iloadN X19 hx (hb hby at_57) (q := 58) rfl rfl ?_
        refine Go.s_i2l X19 hx (hb hby at_58) (q := 59) rfl ?_
        refine Go.s_lsub X19 hx (hb hby at_59) (q := 60) rfl ?_
        refine Go.s_iloadN X19 hx (hb hby at_60) (q := 61) rfl rfl ?_
        refine Go.s_i2l X19 hx (hb hby at_61) (q := 62) rfl ?_
        refine Go.s_lcmp X19 hx (hb hby at_62) (q := 63) rfl ?_
        by_cases c63_23 : (v20 - (v2.toInt64)) < (v1.toInt64)
        · -- pc 63: (v20 - (v2.toInt64)) < (v1.toInt64)
          refine Go.s_ifNo X19 hx (hb hby at_63) (q := 66) rfl ((if0 _ _).trans (tlt ((lw_lt (v20 - (v2.toInt64)) (v1.toInt64)).mpr c63_23)).2.1) ?_
          refine Go.s_iconst X19 hx (hb hby at_66) (q := 67) rfl (z := 1) rfl ?_
          refine Go.s_goto X19 hx (hb hby at_67) (q := 71) (by decide) (by decide) ?_
          refine Go.retN X19 hx hlk hret (by simp) (hb hby at_71) (by decide) (by decide) ?_
          try rw [e19]
          exact ⟨by decide, N16⟩
        · -- pc 63: not (v20 - (v2.toInt64)) < (v1.toInt64)
          refine Go.s_ifYes X19 hx (hb hby at_63) (q := 70) (by decide) (by decide) ((if0 _ _).trans (flt (fun q => c63_23 ((lw_lt (v20 - (v2.toInt64)) (v1.toInt64)).mp q))).2.1) ?_
          refine Go.s_iconst X19 hx (hb hby at_70) (q := 71) rfl (z := 0) rfl ?_
          refine Go.retN X19 hx hlk hret (by simp) (hb hby at_71) (by decide) (by decide) ?_
          try rw [e19]
          exfalso
          obtain ⟨s1, s2, s3, s4⟩ := share v1 v2 w19 (mask_nn hv1) (by have := mt Int32.lt_iff_toInt_lt.mpr hge; have : (1 : Int32).toInt = 1 := (by decide); omega) p19
          have s5 := congrArg Int64.toInt hv20
          have := mt Int32.lt_iff_toInt_lt.mpr c44_21
          have := mt Int64.lt_iff_toInt_lt.mpr c52_22
          have := mt Int64.lt_iff_toInt_lt.mpr c63_23
          have := rng32 w19
          have := (by decide : ((0 : Int32)).toInt = 0)
          have := rng64 v20
          have := rng32 v1
          have := c_i2l (v1)
          have := rng32 v2
          have := c_i2l (v2)
          have := c_lsub v20 v2.toInt64
          have := rng64 (v20 - v2.toInt64)
          generalize w19.toInt * v2.toInt = pr at *
          omega
set_option maxRecDepth 65536 in
set_option maxHeartbeats 40000000 in
theorem comes_1 {Post : Tables → Env → Array Value → State → Outcome → State → Prop} (hpost : ∀ tb e args s v u, (limb_1_1.after args s (.returned v) u = true ∧ limb_1_2.after args s (.returned v) u = true ∧ True) → FrameEnd s (.returned v) u (Jvm.fieldLocs frame_1_writes args s ++ Jvm.arrayLocs frame_1_arrays args s ++ Jvm.staticLocs frame_1_statics s) 16 128 → Post tb e args s (.returned v) u) :
    ArmFor flags0 classFile x code maxLocals ret World_1 tables_1 room_1 Calls_1 rest_1 Pre_1 Post := by
  intro l hfl _ _ p e ha hc hk s m args below hf hA hF happ hP
  obtain ⟨hcalls, hrest, hpre⟩ := hP
  obtain ⟨-, -, -, hnamed, -, -, -, hat⟩ := (Spec.applies_iff hf).mp happ
  obtain ⟨hg, hn⟩ := and_e (Cond.before_iff.mp (show (Jvm.Cond.and given_1 narrow_1).before args s = true from hpre))
  obtain ⟨hgl, hgr⟩ := and_e hg
  obtain ⟨hgrl, hgrr⟩ := and_e hgr
  obtain ⟨w0, w1, rfl⟩ : ∃ w0 w1 : Value, args = #[w0, w1] := by
    have hs : args.size = 2 := by simpa [Cond.value, given_1] using hgl
    obtain ⟨L⟩ := args
    match L, hs with
    | [w0, w1], _ => exact ⟨w0, w1, rfl⟩
  have hw := fun d (hd : d ∈ tables_1) => atoms_spec (ws := Jvm.Cond.code x code maxLocals ret :: tables_1) hat d (List.mem_cons_of_mem _ hd)
  obtain ⟨i0, ev0⟩ := is_v hgrl
  obtain rfl : w0 = (.int i0) := Option.some.inj ev0
  obtain ⟨i1, ev1⟩ := is_v hgrr
  obtain rfl : w1 = (.int i1) := Option.some.inj ev1
  obtain ⟨n, o, h1, h2, h3, _, L, rfl, ⟨rfl, N⟩, hq⟩ := rm_law l s _ hw i0 i1 s.heap s.heap.size (Nat.le_refl _) tables_1 p e ha hc hk s m _ below hf ((Spec.applies_iff_loose hf).mp happ).1 ⟨rfl, State.Warmed39.refl s, rfl⟩ trivial
  refine ⟨n, _, h1, h2, h3, hpost _ _ _ _ _ _ ⟨Cond.after_iff.mpr rfl, Cond.after_iff.mpr (eq_i res_at (Term.int_eval (1)) rfl), trivial⟩ ⟨hq.1, hq.2.1, (hq.2.2.sift fun y hy => Or.inr (N y hy)).mono (by decide) (by decide)⟩⟩
theorem main_1_1 : Claimed_1_1 := comes_1 fun _ _ _ _ _ _ h hF => ⟨h.1, hF⟩
theorem main_1_2 : Claimed_1_2 := comes_1 fun _ _ _ _ _ _ h hF => ⟨h.2.1, hF⟩
end Jvm.Pilot.@@N@@
namespace Jvm.Pilot.@@N@@
open Jvm Jvm.ClassFile Sem Op Lib Jvm.Free Jvm.Stand Jvm.Pilot.@@N@@.Jvm.D
/-! MADE BY PROGRAM (witnessworld.py) out of the Statement's table words and the real class files: 9 classes; the members and pool entries that the words name. The judged class is class 1, her method 1. -/
namespace start1
open Jvm.ClassFile
def u (s : String) : CpInfo := .utf8 (stringToUtf16 s)
/-- a pool by its gaps: so many unusable entries, then the entry; so many at the end -/
def gap : Nat → List CpInfo → List CpInfo
  | 0, r => r
  | n + 1, r => .unusable :: gap n r
def poolList (es : List (Nat × CpInfo)) (last : Nat) : List CpInfo := es.foldr (fun e r => gap e.1 (e.2 :: r)) (gap last [])
def pool (es : List (Nat × CpInfo)) (last : Nat) : Array CpInfo := ⟨poolList es last⟩
def fileOf (pool : Array CpInfo) (this : Nat) (attrs : Array Attribute := #[]) (ms : Array MethodInfo := #[]) (fl : Nat := 33) (sup : Nat := 0) (ifs : Array Nat := #[]) (fds : Array FieldInfo := #[]) : ClassFile where
  minorVersion := 0
  majorVersion := 65
  constantPool := pool
  accessFlags := fl
  thisClass := this
  superClass := sup
  interfaces := ifs
  fields := fds
  methods := ms
  attributes := attrs
def plain (name : String) (sup : Option ClassId) : Class where
  name := name
  kind := .ordinary
  loader := none
  accessFlags := 33
  super := sup
  interfaces := #[]
  cf := none
  fields := #[]
  methods := #[]
  instanceTypes := #[]
  staticTypes := #[]
  resolved := #[]
  callSites := []
  init := .initialized
  statics := none
  mirror := none

def pool0 : Array CpInfo := pool [(5, u "<init>"), (0, u "()V"), (1, .class_ 10), (1, u "java/lang/Object")] 113

def k0c0 : Code := { maxStack := 0, maxLocals := 1, code := object_method_1_code, exceptionTable := #[], attributes := #[] }
def k0m0 : Method := { name := "<init>", desc := "()V", sig := { parameters := [], returnType := none }, accessFlags := 1, code := some k0c0 }
/-- java/lang/Object -/
def k0 : Class := { plain "java/lang/Object" none with
  accessFlags := 33
  interfaces := #[]
  cf := some (fileOf pool0 8 #[] #[{ accessFlags := 1, nameIndex := 5, descriptorIndex := 6, attributes := #[] }] 33 0 #[] #[])
  fields := #[]
  methods := #[k0m0]
  instanceTypes := #[]
  staticTypes := #[]
  resolved := Array.replicate 124 none
  statics := none }

def pool1 : Array CpInfo := pool [(2, .class_ 4), (1, u "java/lang/Object"), (0, u "<init>"), (0, u "()V"), (0, .integer 2147483647), (0, .class_ 9), (0, u "com/example/irama/irama/Prefilter"), (0, .methodref 8 11), (0, .nameAndType 5 12), (0, u "(I)V"), (0, .methodref 8 14), (0, .nameAndType 15 16), (0, u "localShare"), (0, u "(I)I"), (0, .class_ 18), (0, u "com/example/irama/irama/PrefilterLocalSharePinLaw"), (2, u "law"), (0, u "(II)Z")] 3

def k1m0 : Method := { name := "<init>", desc := "()V", sig := { parameters := [], returnType := none }, accessFlags := 1, code := none }
def k1c1 : Code := { maxStack := 4, maxLocals := 8, code := code, exceptionTable := #[], attributes := #[] }
def k1m1 : Method := { name := "law", desc := "(II)Z", sig := { parameters := [.int, .int], returnType := some .boolean }, accessFlags := 9, code := some k1c1 }
/-- com/example/irama/irama/PrefilterLocalSharePinLaw -/
def k1 : Class := { plain "com/example/irama/irama/PrefilterLocalSharePinLaw" (some 0) with
  accessFlags := 49
  interfaces := #[]
  cf := some (fileOf pool1 17 #[] #[{ accessFlags := 1, nameIndex := 5, descriptorIndex := 6, attributes := #[] }, { accessFlags := 9, nameIndex := 21, descriptorIndex := 22, attributes := #[] }] 49 2 #[] #[])
  fields := #[]
  methods := #[k1m0, k1m1]
  instanceTypes := #[]
  staticTypes := #[]
  resolved := Array.replicate 26 none
  statics := none }

def pool2 : Array CpInfo := pool [(1, .methodref 2 3), (0, .class_ 4), (0, .nameAndType 5 6), (0, u "java/lang/Object"), (0, u "<init>"), (0, u "()V"), (9, .fieldref 17 18), (0, .class_ 19), (0, .nameAndType 20 21), (0, u "com/example/irama/irama/Prefilter"), (0, u "instances"), (0, u "I"), (5, u "(I)I"), (7, u "(I)V"), (4, u "localShare")] 25

def k2c0 : Code := { maxStack := 3, maxLocals := 2, code := prog_4_method_1_code, exceptionTable := #[], attributes := #[] }
def k2m0 : Method := { name := "<init>", desc := "(I)V", sig := { parameters := [.int], returnType := none }, accessFlags := 1, code := some k2c0 }
def k2c1 : Code := { maxStack := 4, maxLocals := 2, code := prog_4_method_3_code, exceptionTable := #[], attributes := #[] }
def k2m1 : Method := { name := "localShare", desc := "(I)I", sig := { parameters := [.int], returnType := some .int }, accessFlags := 1, code := some k2c1 }
/-- com/example/irama/irama/Prefilter -/
def k2 : Class := { plain "com/example/irama/irama/Prefilter" (some 0) with
  accessFlags := 49
  interfaces := #[]
  cf := some (fileOf pool2 17 #[] #[{ accessFlags := 1, nameIndex := 5, descriptorIndex := 35, attributes := #[] }, { accessFlags := 1, nameIndex := 40, descriptorIndex := 27, attributes := #[] }] 49 2 #[] #[{ accessFlags := 18, nameIndex := 20, descriptorIndex := 21, attributes := #[] }])
  fields := #[{ name := "instances", type := .int, accessFlags := 18, slot := 0, constantValue := 0 }]
  methods := #[k2m0, k2m1]
  instanceTypes := #[.int]
  staticTypes := #[]
  resolved := Array.replicate 66 none
  statics := none }

def pool3 : Array CpInfo := pool [(1, u "java/lang/Cloneable"), (0, .class_ 1), (0, u "java/lang/Object"), (0, .class_ 3)] 3

/-- java/lang/Cloneable -/
def k3 : Class := { plain "java/lang/Cloneable" (some 0) with
  accessFlags := 1537
  interfaces := #[]
  cf := some (fileOf pool3 2 #[] #[] 1537 4 #[] #[])
  fields := #[]
  methods := #[]
  instanceTypes := #[]
  staticTypes := #[]
  resolved := Array.replicate 8 none
  statics := none }

def pool4 : Array CpInfo := pool [(1, u "java/io/Serializable"), (0, .class_ 1), (0, u "java/lang/Object"), (0, .class_ 3)] 3

/-- java/io/Serializable -/
def k4 : Class := { plain "java/io/Serializable" (some 0) with
  accessFlags := 1537
  interfaces := #[]
  cf := some (fileOf pool4 2 #[] #[] 1537 4 #[] #[])
  fields := #[]
  methods := #[]
  instanceTypes := #[]
  staticTypes := #[]
  resolved := Array.replicate 8 none
  statics := none }

/-- the primitive byte -/
def k5 : Class := { plain "byte" none with kind := .primitive 'B', accessFlags := 0x411 }
/-- [B -/
def k6 : Class := { plain "[B" (some 0) with kind := .array 5 .byte, interfaces := #[3, 4], accessFlags := 1041 }

/-- the primitive int -/
def k7 : Class := { plain "int" none with kind := .primitive 'I', accessFlags := 0x411 }
/-- [I -/
def k8 : Class := { plain "[I" (some 0) with kind := .array 7 .int, interfaces := #[3, 4], accessFlags := 1041 }

def heap : Heap := #[]
def classes : Array Class := #[k0, k1, k2, k3, k4, k5, k6, k7, k8]
def interned : List (Array UInt16 × Addr) := []
def slotsUsed : Nat := 0
def theMethod : MethodId := ⟨1, 1⟩
def args0 : Array Value := #[.int 5, .int 3]
def aboutOver (below : List Frame) : State where
  vm := { classes := classes, interned := interned.toArray }
  heap := heap
  slotsUsed := slotsUsed
  threads := #[{ frames := .invoking theMethod args0 :: below }]
def below0 : List Frame := [.native { method := ⟨0, 0⟩, args := #[] }]
def about1 : State := aboutOver below0
def p0 : Program := .bare "" "" ""
def e0 : Env := launch0.env 0 0 0
theorem w_frames : about1.frames = Frame.invoking theMethod args0 :: below0 := rfl
set_option maxRecDepth 65536 in
theorem w_args : argsFit about1.vm theMethod args0 = true := by decide +kernel
set_option maxRecDepth 65536 in
theorem w_heap : heapFits about1 = true := by decide +kernel
set_option maxRecDepth 65536 in
theorem w_runnable : about1.curStatus? = some .runnable := by decide +kernel
set_option maxRecDepth 65536 in
theorem w_alone : about1.alone = true := by decide +kernel
set_option maxRecDepth 65536 in
theorem w_named : about1.methodNamed? x = some theMethod := by decide +kernel
set_option maxRecDepth 65536 in
theorem w_hears : about1.hears theMethod below0 = true := by decide +kernel
set_option maxRecDepth 65536 in
theorem w_ripe : about1.ripe theMethod args0 below0 = true := by decide +kernel
theorem w_running : about1.status = .running := rfl
set_option maxRecDepth 65536 in
theorem w_room : about1.hasRoom e0.platform room_1 = true :=
  launch0.hasRoom_least _ room_1 (by decide +kernel) (by decide +kernel) (by decide +kernel) (by decide +kernel) (by decide +kernel) (by decide +kernel)
theorem allAtoms_all (ts : List Jvm.Cond) (a : Array Jvm.Value) (st : Jvm.State) : (allAtoms ts).before a st = ts.all (fun c => c.before a st) := by
  induction ts with
  | nil => rfl
  | cons c t ih =>
    show (Jvm.Cond.and c (allAtoms t)).before a st = _
    rw [Jvm.Cond.before_and, ih, List.all_cons]
def words1 : List Jvm.Cond := Jvm.Cond.code x code maxLocals ret :: tables_1
/-- a 'code' word, met by the world's own term for the bytes: nothing is compared byte by byte -/
theorem code_word {y : MethodName} {bytes : ByteArray} {mx : Nat} {rt : Option FieldType} {a : Array Value} {s : State} {m : MethodId} {meth : Method} {c : Code} (h1 : s.methodNamed? y = some m) (h2 : s.vm.method? m = some meth) (h3 : meth.code = some c) (h4 : c.code = bytes)
    (h5 : (c.maxLocals == mx && c.exceptionTable.isEmpty && decide (c.maxStack ≤ mostOperands) && decide (meth.sig.returnType = rt) && !meth.locks && decide (parseMethodDescriptor y.desc = some meth.sig)) = true) : (Jvm.Cond.code y bytes mx rt).before a s = true := by
  simp only [Bool.and_eq_true, beq_iff_eq, Bool.not_eq_true', decide_eq_true_eq] at h5
  obtain ⟨⟨⟨⟨⟨g1, g2⟩, g3⟩, g4⟩, g5⟩, g6⟩ := h5
  simp [Cond.before, Cond.holds, Cond.value, h1, h2, h3, h4, g1, g2, g3, g4, g5, g6]
def isCode : Jvm.Cond → Bool
  | .code _ _ _ _ => true
  | _ => false
theorem all_split {L : List Jvm.Cond} {P : Jvm.Cond → Bool} (h1 : L.all (fun c => isCode c || P c) = true) (h2 : ∀ c ∈ L.filter isCode, P c = true) : L.all P = true := by
  refine List.all_eq_true.mpr fun c hc => ?_
  have h := List.all_eq_true.mp h1 c hc
  rcases Bool.eq_false_or_eq_true (isCode c) with hi | hi
  · exact h2 c (List.mem_filter.mpr ⟨hc, hi⟩)
  · simpa [hi] using h
set_option maxRecDepth 65536 in
theorem w_c0 : (Jvm.Cond.code x code maxLocals ret).before args0 about1 = true := code_word (m := ⟨1, 1⟩) (meth := k1m1) (c := k1c1) (by decide +kernel) rfl rfl rfl (by decide +kernel)
set_option maxRecDepth 65536 in
theorem w_c1 : (Jvm.Cond.code ({ cls := "com/example/irama/irama/Prefilter", name := "<init>", desc := "(I)V" } : Jvm.MethodName) prog_4_method_1_code (2 : Nat) (Option.none : Option Jvm.ClassFile.FieldType)).before args0 about1 = true := code_word (m := ⟨2, 0⟩) (meth := k2m0) (c := k2c0) (by decide +kernel) rfl rfl rfl (by decide +kernel)
set_option maxRecDepth 65536 in
theorem w_c2 : (Jvm.Cond.code ({ cls := "java/lang/Object", name := "<init>", desc := "()V" } : Jvm.MethodName) object_method_1_code (1 : Nat) (Option.none : Option Jvm.ClassFile.FieldType)).before args0 about1 = true := code_word (m := ⟨0, 0⟩) (meth := k0m0) (c := k0c0) (by decide +kernel) rfl rfl rfl (by decide +kernel)
set_option maxRecDepth 65536 in
theorem w_c3 : (Jvm.Cond.code ({ cls := "com/example/irama/irama/Prefilter", name := "localShare", desc := "(I)I" } : Jvm.MethodName) prog_4_method_3_code (2 : Nat) (Option.some Jvm.ClassFile.FieldType.int)).before args0 about1 = true := code_word (m := ⟨2, 1⟩) (meth := k2m1) (c := k2c1) (by decide +kernel) rfl rfl rfl (by decide +kernel)
def codes1 : List Jvm.Cond := [Jvm.Cond.code x code maxLocals ret, Jvm.Cond.code ({ cls := "com/example/irama/irama/Prefilter", name := "<init>", desc := "(I)V" } : Jvm.MethodName) prog_4_method_1_code (2 : Nat) (Option.none : Option Jvm.ClassFile.FieldType), Jvm.Cond.code ({ cls := "java/lang/Object", name := "<init>", desc := "()V" } : Jvm.MethodName) object_method_1_code (1 : Nat) (Option.none : Option Jvm.ClassFile.FieldType), Jvm.Cond.code ({ cls := "com/example/irama/irama/Prefilter", name := "localShare", desc := "(I)I" } : Jvm.MethodName) prog_4_method_3_code (2 : Nat) (Option.some Jvm.ClassFile.FieldType.int)]
set_option maxRecDepth 65536 in
theorem codes_eq : words1.filter isCode = codes1 := rfl
theorem w_codes : ∀ c ∈ words1.filter isCode, c.before args0 about1 = true := by
  rw [codes_eq]
  intro c hc
  simp only [codes1, List.mem_cons, List.not_mem_nil, or_false] at hc
  rcases hc with rfl | rfl | rfl | rfl
  · exact w_c0
  · exact w_c1
  · exact w_c2
  · exact w_c3
set_option maxRecDepth 65536 in
theorem w_t1 : words1.all (fun c => isCode c || c.before args0 about1) = true := by decide +kernel
theorem w_tables : (allAtoms (Jvm.Cond.code x code maxLocals ret :: tables_1)).before args0 about1 = true := by
  rw [allAtoms_all]
  show words1.all (fun c => c.before args0 about1) = true
  refine all_split ?_ w_codes
  rw [w_t1]
set_option maxRecDepth 65536 in
theorem w_case : (Jvm.Cond.and given_1 narrow_1).before args0 about1 = true := by decide +kernel
theorem w_applies : (headSpec (Jvm.Cond.code x code maxLocals ret :: tables_1) room_1).applies x e0.platform about1 = true :=
  (Spec.applies_iff w_frames).mpr ⟨w_running, w_runnable, w_alone, w_named, w_hears, w_ripe, w_room, w_tables⟩
theorem atStart : AtStart classFile x code maxLocals ret World_1 tables_1 room_1 Calls_1 rest_1 Pre_1 launch0 p0 e0 about1 theMethod args0 below0 :=
  ⟨lists_1, trivial, launch0.admits_env _ _ _, launch0.least_env, fairChoices_fair.cas, fairChoices_fair.clock, w_frames, w_args, w_heap, w_applies, trivial, trivial, w_case⟩
end start1
theorem witness_1 : WitnessClaimed_1 := ⟨start1.p0, start1.e0, start1.about1, start1.theMethod, start1.args0, start1.below0, start1.atStart⟩
end Jvm.Pilot.@@N@@
