import JvmDerived
import JvmDerived.Pilot.@@N@@Statement
import JvmDerived.Pilot.@@N@@Code
set_option linter.unusedVariables false
set_option linter.unusedSimpArgs false
namespace Jvm.Pilot.@@N@@
open Jvm Jvm.ClassFile Sem Op Lib Jvm.Free Jvm.Stand Jvm.LawKit Jvm.RoadKit Bundle Jvm.Pilot.@@N@@.Jvm.D
section OwnKit
variable {p : Program} {l : Launch} {e : Env} {R : Room} {s : State} {m : MethodId} {args : Array Value} {below : List Frame} {meth : Method} {c : Code} {T : State} {locs : List Loc} {cells slots : Nat} {Z : State} {a0 : Array Value} {h : Heap} {Q : Option Value → Heap → List Loc → Prop} {C S : Nat} {F : State → Outcome → Prop}
/-- what is left of a walk: from T with the top frame g the invocation comes to its end, and F holds there -/
def Go (p : Program) (e : Env) (below : List Frame) (F : State → Outcome → Prop) (T : State) (g : JFrame) : Prop :=
  ∃ t o, Steps p.tables e below (T.setTop g) t ∧ t.status = .running ∧ Ended t below o ∧ F t o
/-- it returned, Q holds, and no more has changed than the frame says -/
def FN (s : State) (Q : Option Value → Heap → List Loc → Prop) (C S : Nat) (t : State) (o : Outcome) : Prop := ∃ v L, o = .returned v ∧ Q v t.heap L ∧ FrameEnd s o t L C S
theorem Go.of {T' : State} {g g' : JFrame} (h : ∀ t, Steps p.tables e below (T'.setTop g') t → Steps p.tables e below (T.setTop g) t) (k : Go p e below F T' g') : Go p e below F T g := by
  obtain ⟨t, o, h1, h2⟩ := k
  exact ⟨t, o, h _ h1, h2⟩
theorem Go.cast {g g' : JFrame} (q : g = g') (k : Go p e below F T g') : Go p e below F T g := q ▸ k
theorem Go.ret (X : Stand p l e R s m args below meth c T locs cells slots) {v : Option Value} {g : JFrame} (hlk : meth.locks = false) (hv : meth.sig.returnType = none → v = none)
    (st : ∀ fs, (∀ (f : JFrame) (acts : List Action), f.method = m → f.locked = none → f.entered = [] → (doReturn e (T.setTop f) acts v).1 = T.setFrames fs) → Steps p.tables e below (T.setTop g) (T.setFrames fs))
    (hc : cells ≤ C) (hs : slots ≤ S) (hQ : Q v T.heap locs) : Go p e below (FN s Q C S) T g := by
  obtain ⟨fs, hr, hrun, hended, hW, hsame⟩ := X.leave (v := v) hv hlk
  exact ⟨_, _, st fs hr, hrun, hended, _, _, rfl, hQ, ⟨_, rfl⟩, hW, hsame.mono hc hs⟩
theorem Go.retI (X : Stand p l e R s m args below meth c T locs cells slots) (hx : p.tables.exec = Jvm.exec) (hlk : meth.locks = false) {pc : Nat} {Ls : Array Slot} {z : Int32} {rest : List Value} (hret : meth.sig.returnType = some .int) (hd : decode c.code pc = .ok (.ireturn, 1))
    (hc : cells ≤ C) (hs : slots ≤ S) (hQ : Q (some (.int z)) T.heap locs) : Go p e below (FN s Q C S) T (mkF m pc Ls (.int z :: rest)) :=
  Go.ret X hlk (fun h => by rw [hret] at h; cases h) (fun _ hr => retOut X hx hret rfl (Or.inl ⟨rfl, Or.inl rfl, _, rfl⟩) hd hr) hc hs hQ
theorem Go.retN (X : Stand p l e R s m args below meth c T locs cells slots) (hx : p.tables.exec = Jvm.exec) (hlk : meth.locks = false) {pc : Nat} {Ls : Array Slot} {z : Int32} {rest : List Value} {t : FieldType} (hret : meth.sig.returnType = some t) (ht : t = .boolean ∨ t = .byte ∨ t = .char ∨ t = .short) (hd : decode c.code pc = .ok (.ireturn, 1))
    (hc : cells ≤ C) (hs : slots ≤ S) (hQ : Q (some (.int (nar t z))) T.heap locs) : Go p e below (FN s Q C S) T (mkF m pc Ls (.int z :: rest)) :=
  Go.ret X hlk (fun h => by rw [hret] at h; cases h) (fun _ hr => Jvm.RoadKit.retN X hx hret ht hd hr) hc hs hQ
theorem Go.retA (X : Stand p l e R s m args below meth c T locs cells slots) (hx : p.tables.exec = Jvm.exec) (hlk : meth.locks = false) {pc : Nat} {Ls : Array Slot} {w : Value} {rest : List Value} {t : FieldType} (hret : meth.sig.returnType = some t) (ht : t.isReference = true) (hw : w.isRef = true) (hd : decode c.code pc = .ok (.areturn, 1))
    (hc : cells ≤ C) (hs : slots ≤ S) (hQ : Q (some w) T.heap locs) : Go p e below (FN s Q C S) T (mkF m pc Ls (w :: rest)) :=
  Go.ret X hlk (fun h => by rw [hret] at h; cases h) (fun _ hr => retOut X hx hret (by cases t <;> cases w <;> first | rfl | (simp [FieldType.isReference] at ht) | (simp [Value.isRef] at hw)) (Or.inr (Or.inr (Or.inr (Or.inr ⟨rfl, ht, hw⟩)))) hd hr) hc hs hQ
/-- a body's contract at given arguments and a given heap -/
def Ct (l : Launch) (y : MethodName) (bytes : ByteArray) (maxL : Nat) (ret : Option FieldType) (rm : Room) (Z : State) (h0 : Heap) (as' : Array Value) (Q : Option Value → Heap → List Loc → Prop) : Prop :=
  ∀ ws, MetFree l y (head1 (Jvm.Cond.code y bytes maxL ret :: ws) rm) (fun a U => a = as' ∧ Z.Warmed39 U.vm ∧ U.heap = h0) (fun _ _ _ _ _ => True) (fun _ U o U' => ∃ v L, o = .returned v ∧ Q v U'.heap L ∧ FrameEnd U o U' L rm.cells rm.slots)
theorem Ct.body {y : MethodName} {bytes : ByteArray} {maxL : Nat} {ret : Option FieldType} {rm : Room} {as' : Array Value} (hpl : plainFor y = true)
    (k : ∀ (p : Program) (e : Env) (s : State) (m : MethodId) (below : List Frame) (meth : Method) (c : Code) (T : State), p.tables.exec = Jvm.exec → c.code = bytes → c.maxLocals = maxL → s.vm.findClass y.cls = some m.cls → meth.name = y.name → meth.sig.returnType = ret → meth.locks = false → Z.Warmed39 s.vm →
      Stand p l e rm s m as' below meth c T [] 0 0 → T.heap = h → Go p e below (FN s Q rm.cells rm.slots) T (entryFrame m as' maxL)) : Ct l y bytes maxL ret rm Z h as' Q := fun ws => by
  refine MetFree.of_bodySF hpl hisR ?_
  intro p e s m args below meth c s₁ Bd hml0 hP hK
  obtain ⟨rfl, hZ, hh⟩ := hP
  exact k p e s m below meth c s₁ Bd.exec Bd.bytes hml0 (findClass_of_methodNamed Bd.named) (name_of_methodNamed Bd.named Bd.method).1 Bd.returns Bd.notSynchronized hZ (Stand.of_body Bd) (by rw [← hh, Bd.state]; rfl)
theorem Go.callS (X : Stand p l e R s m args below meth c T locs cells slots) (hx : p.tables.exec = Jvm.exec) (hZ : Z.Warmed39 s.vm) {own : String} {index : Nat} {y : MethodName} {bytes : ByteArray} {maxL : Nat} {ret : Option FieldType} (hown : s.vm.findClass own = some m.cls)
    (wl : (Jvm.Cond.methodLink own index y).before a0 Z = true) (wst : (Jvm.Cond.static y).before a0 Z = true) (wz : (Jvm.Cond.initialized y.cls).before a0 Z = true) (wc : (Jvm.Cond.code y bytes maxL ret).before a0 Z = true) (hy : y.cls ≠ "java/lang/invoke/MethodHandle" ∧ y.cls ≠ "java/lang/invoke/VarHandle")
    (eT : T.heap = h) {rm : Room} {argsL rest : List Value} {Q' : Option Value → Heap → List Loc → Prop} (hC : Ct l y bytes maxL ret rm Z h argsL.toArray Q') {pc : Nat} {Ls : Array Slot} {st : List Value} (hsz : Ls.size = c.maxLocals)
    (hlen : ∀ sig, parseMethodDescriptor y.desc = some sig → argsL.length = sig.parameters.length) (hst : st = argsL.reverse ++ rest) (hd : decode c.code pc = .ok (.invokestatic index, 3)) (hf : rm.frames + 1 ≤ R.frames) (hl : (rest.map fun v => v.category).sum + (maxL + 11) + rm.locals ≤ R.locals) (hc : cells + rm.cells ≤ R.cells) (hs : slots + rm.slots ≤ R.slots)
    (k : ∀ v T' L, Q' v T'.heap L → Stand p l e R s m args below meth c T' (locs ++ L) (cells + rm.cells) (slots + rm.slots) → Go p e below F T' (mkF m (pc + 3) Ls (v.toList ++ rest))) :
    Go p e below F T (mkF m pc Ls st) := by
  obtain ⟨v, _, ⟨T', L', k', n'⟩, -, X', ⟨L, hQ, l1, y1, z1⟩, stp⟩ := Jvm.LawKit.callS X hx (y := y) hown (mvT hZ wl) (mvT hZ wst) (mvT hZ wz) (mvT hZ wc) hy (backOf (W := (rest.map fun v => v.category).sum) (hC []) hZ wc wz hf hl) (g := mkF m pc Ls st) rfl hsz (argsL := argsL) (rest := rest) hlen hst (by show 2 * 0 + _ ≤ _; exact Nat.le_of_eq (Nat.zero_add _)) hd (fun _ _ => ⟨rfl, eT, hc, hs⟩)
  dsimp only [Pt.U, Pt.locs, Pt.cells, Pt.slots] at X' l1 y1 z1 stp hQ
  subst l1 y1 z1
  exact Go.of stp (k _ _ _ hQ X')
theorem Go.callV (X : Stand p l e R s m args below meth c T locs cells slots) (hx : p.tables.exec = Jvm.exec) (hZ : Z.Warmed39 s.vm) {own K : String} {index : Nat} {y z : MethodName} {bytes : ByteArray} {maxL : Nat} {ret : Option FieldType} (hown : s.vm.findClass own = some m.cls)
    (wl : (Jvm.Cond.methodLink own index y).before a0 Z = true) (wd : (Jvm.Cond.declares y).before a0 Z = true) (nf : NotFace s y) (wsel : (Jvm.Cond.selects K y z).before a0 Z = true) (wim : (Jvm.Cond.instanceMethod z).before a0 Z = true) (wc : (Jvm.Cond.code z bytes maxL ret).before a0 Z = true) (wz : (Jvm.Cond.initialized z.cls).before a0 Z = true) (hy : y.cls ≠ "java/lang/invoke/MethodHandle" ∧ y.cls ≠ "java/lang/invoke/VarHandle")
    (eT : T.heap = h) {b : Addr} (E : Exa Z h b K) {rm : Room} {argsL rest : List Value} {Q' : Option Value → Heap → List Loc → Prop} (hC : Ct l z bytes maxL ret rm Z h (.ref b :: argsL).toArray Q') {pc : Nat} {Ls : Array Slot} {st : List Value} (hsz : Ls.size = c.maxLocals)
    (hlen : ∀ sig, parseMethodDescriptor y.desc = some sig → argsL.length = sig.parameters.length) (hst : st = argsL.reverse ++ .ref b :: rest) (hd : decode c.code pc = .ok (.invokevirtual index, 3)) (hf : rm.frames + 1 ≤ R.frames) (hl : (rest.map fun v => v.category).sum + (maxL + 11) + rm.locals ≤ R.locals) (hc : cells + rm.cells ≤ R.cells) (hs : slots + rm.slots ≤ R.slots)
    (k : ∀ v T' L, Q' v T'.heap L → Stand p l e R s m args below meth c T' (locs ++ L) (cells + rm.cells) (slots + rm.slots) → Go p e below F T' (mkF m (pc + 3) Ls (v.toList ++ rest))) :
    Go p e below F T (mkF m pc Ls st) := by
  obtain ⟨cq, kq, qa, qb, qc⟩ := isOf hZ eT E
  obtain ⟨v, _, ⟨T', L', k', n'⟩, -, X', ⟨L, hQ, l1, y1, z1⟩, stp⟩ := X.virtualBack hx (y := y) (z := z) hown (mvT hZ wl) (mvT hZ wd) nf (mvT hZ wsel) (mvT hZ wim) hy (backOf (W := (rest.map fun v => v.category).sum) (hC []) hZ wc wz hf hl) qa qc (g := mkF m pc Ls st) rfl hsz (Steps.refl _) (argsL := argsL) (rest := rest) hlen hst (by show 2 * 0 + _ ≤ _; exact Nat.le_of_eq (Nat.zero_add _)) hd (fun _ _ => ⟨rfl, eT, hc, hs⟩)
  dsimp only [Pt.U, Pt.locs, Pt.cells, Pt.slots] at X' l1 y1 z1 stp hQ
  subst l1 y1 z1
  exact Go.of (fun t q => stp.trans q) (k _ _ _ hQ X')
theorem Go.callU (X : Stand p l e R s m args below meth c T locs cells slots) (hx : p.tables.exec = Jvm.exec) (hZ : Z.Warmed39 s.vm) {own K owner : String} {index : Nat} {y z : MethodName} {bytes : ByteArray} {maxL : Nat} {ret : Option FieldType} (hown : s.vm.findClass own = some m.cls)
    (wl : (Jvm.Cond.methodLink own index y).before a0 Z = true) (wsm : (Jvm.Cond.sameMethod y.cls owner y.name y.desc).before a0 Z = true) (wd : (Jvm.Cond.declares ⟨owner, y.name, y.desc⟩).before a0 Z = true) (wsel : (Jvm.Cond.selects K y z).before a0 Z = true) (wim : (Jvm.Cond.instanceMethod z).before a0 Z = true) (wc : (Jvm.Cond.code z bytes maxL ret).before a0 Z = true) (wz : (Jvm.Cond.initialized z.cls).before a0 Z = true) (hy : owner ≠ "java/lang/invoke/MethodHandle" ∧ owner ≠ "java/lang/invoke/VarHandle")
    (eT : T.heap = h) {b : Addr} (E : Exa Z h b K) {rm : Room} {argsL rest : List Value} {Q' : Option Value → Heap → List Loc → Prop} (hC : Ct l z bytes maxL ret rm Z h (.ref b :: argsL).toArray Q') {pc : Nat} {Ls : Array Slot} {st : List Value} (hsz : Ls.size = c.maxLocals)
    (hlen : ∀ sig, parseMethodDescriptor y.desc = some sig → argsL.length = sig.parameters.length) (hst : st = argsL.reverse ++ .ref b :: rest) (hd : decode c.code pc = .ok (.invokevirtual index, 3)) (hf : rm.frames + 1 ≤ R.frames) (hl : (rest.map fun v => v.category).sum + (maxL + 11) + rm.locals ≤ R.locals) (hc : cells + rm.cells ≤ R.cells) (hs : slots + rm.slots ≤ R.slots)
    (k : ∀ v T' L, Q' v T'.heap L → Stand p l e R s m args below meth c T' (locs ++ L) (cells + rm.cells) (slots + rm.slots) → Go p e below F T' (mkF m (pc + 3) Ls (v.toList ++ rest))) :
    Go p e below F T (mkF m pc Ls st) := by
  obtain ⟨cq, kq, qa, qb, qc⟩ := isOf hZ eT E
  obtain ⟨v, _, ⟨T', L', k', n'⟩, -, X', ⟨L, hQ, l1, y1, z1⟩, stp⟩ := X.virtualBackUp hx (x := y) (y := z) hown (mvT hZ wl) (mvT hZ wsm) (mvT hZ wd) hy (mvT hZ wsel) (mvT hZ wim) (backOf (W := (rest.map fun v => v.category).sum) (hC []) hZ wc wz hf hl) qa qc (g := mkF m pc Ls st) rfl hsz (Steps.refl _) (argsL := argsL) (rest := rest) hlen hst (by show 2 * 0 + _ ≤ _; exact Nat.le_of_eq (Nat.zero_add _)) hd (fun _ _ => ⟨rfl, eT, hc, hs⟩)
  dsimp only [Pt.U, Pt.locs, Pt.cells, Pt.slots] at X' l1 y1 z1 stp hQ
  subst l1 y1 z1
  exact Go.of (fun t q => stp.trans q) (k _ _ _ hQ X')
theorem Go.getF (X : Stand p l e R s m args below meth c T locs cells slots) (hx : p.tables.exec = Jvm.exec) (hZ : Z.Warmed39 s.vm) {own R0 O n d : String} {index : Nat} (hown : s.vm.findClass own = some m.cls) (w : (Jvm.Cond.fieldLink own index R0 n d).before a0 Z = true) (via : Via Z R0 O n d)
    (eT : T.heap = h) {a : Addr} {v : Value} (fF : Fld Z h a O n d v) {pc : Nat} {Ls : Array Slot} {rest : List Value} (hd : decode c.code pc = .ok (.getfield index, 3))
    (k : ∀ T', Stand p l e R s m args below meth c T' locs cells slots → T'.heap = h → Go p e below F T' (mkF m (pc + 3) Ls (v :: rest))) : Go p e below F T (mkF m pc Ls (.ref a :: rest)) := by
  obtain ⟨T', X', e', st⟩ := Jvm.RoadKit.getF X hx hZ hown (host := "") (Or.inl w) via eT fF (g := mkF m pc Ls (.ref a :: rest)) rfl rfl hd
  exact Go.of st (k _ X' e')
theorem Go.getS (X : Stand p l e R s m args below meth c T locs cells slots) (hx : p.tables.exec = Jvm.exec) (hZ : Z.Warmed39 s.vm) {own R0 O n d : String} {index : Nat} (hown : s.vm.findClass own = some m.cls) (w : (Jvm.Cond.fieldLink own index R0 n d).before a0 Z = true) (via : Via Z R0 O n d)
    (eT : T.heap = h) {v : Value} (fF : Sta Z h O n d v) {pc : Nat} {Ls : Array Slot} {rest : List Value} (hd : decode c.code pc = .ok (.getstatic index, 3))
    (k : ∀ T', Stand p l e R s m args below meth c T' locs cells slots → T'.heap = h → Go p e below F T' (mkF m (pc + 3) Ls (v :: rest))) : Go p e below F T (mkF m pc Ls rest) := by
  obtain ⟨T', X', e', st⟩ := getS2 X hx hZ hown (host := "") (Or.inl w) via eT fF (g := mkF m pc Ls rest) rfl hd
  exact Go.of st (k _ X' e')
/-- a field of an object that a static names, as the case's words say it -/
theorem fldI {C0 n d : String} {t : Term} {a : Addr} {k : Int32} (ea : t.eval args s none [] s = some (.ref a)) (hq : (Jvm.Cond.eq (.field t C0 n d) (.int k)).value args s none s [] = some true) : Fld s s.heap a C0 n d (.int k) := Fld.start ((fld_at ea).symm.trans (eqv_i (Term.int_eval k) hq))
end OwnKit
section OwnSteps
variable {p : Program} {l : Launch} {e : Env} {R : Room} {s : State} {m : MethodId} {args : Array Value} {below : List Frame} {meth : Method} {c : Code} {T : State} {locs : List Loc} {cells slots : Nat} {Z : State} {a0 : Array Value} {h : Heap} {F : State → Outcome → Prop}
theorem w_ {Z : State} {a0 : Array Value} {ts : List Jvm.Cond} (hw : ∀ d ∈ ts, d.before a0 Z = true) {d : Jvm.Cond} (i : Nat) (h : ts[i]? = some d) : d.before a0 Z = true := hw _ (List.mem_of_getElem? h)
theorem Go.s_iloadN (X : Stand p l e R s m args below meth c T locs cells slots) (hx : p.tables.exec = Jvm.exec) {pc q : Nat} {Ls : Array Slot} {st : List Value} {k : Fin 4} {v : Int32} (hd : decode c.code pc = .ok (.iload_n k, 1)) (hq : pc + 1 = q) (hl : Ls[k.val]? = some (.val (.int v))) (K : Go p e below F T (mkF m q Ls (.int v :: st))) : Go p e below F T (mkF m pc Ls (st)) := by
  subst hq
  exact Go.of (fun t k => XS.iloadN X.here hx rfl hd hl k) K
theorem Go.s_iload (X : Stand p l e R s m args below meth c T locs cells slots) (hx : p.tables.exec = Jvm.exec) {pc q : Nat} {Ls : Array Slot} {st : List Value} {k : Nat} {v : Int32} (hd : decode c.code pc = .ok (.iload k, 2)) (hq : pc + 2 = q) (hl : Ls[k]? = some (.val (.int v))) (K : Go p e below F T (mkF m q Ls (.int v :: st))) : Go p e below F T (mkF m pc Ls (st)) := by
  subst hq
  exact Go.of (fun t k => XS.iload X.here hx rfl hd hl k) K
theorem Go.s_aloadN (X : Stand p l e R s m args below meth c T locs cells slots) (hx : p.tables.exec = Jvm.exec) {pc q : Nat} {Ls : Array Slot} {st : List Value} {k : Fin 4} {v : Value} (hd : decode c.code pc = .ok (.aload_n k, 1)) (hq : pc + 1 = q) (hl : Ls[k.val]? = some (.val v)) (hv : v.isRef = true) (K : Go p e below F T (mkF m q Ls (v :: st))) : Go p e below F T (mkF m pc Ls (st)) := by
  subst hq
  exact Go.of (fun t k => XS.aloadN X.here hx rfl hd hl hv k) K
theorem Go.s_istoreN (X : Stand p l e R s m args below meth c T locs cells slots) (hx : p.tables.exec = Jvm.exec) {pc q : Nat} {Ls : Array Slot} {st : List Value} {k : Fin 4} {x : Int32} {l' : Array Slot} (hd : decode c.code pc = .ok (.istore_n k, 1)) (hq : pc + 1 = q) (hl : storeLocals Ls k.val (.int x) = some l') (K : Go p e below F T (mkF m q l' (st))) : Go p e below F T (mkF m pc Ls (.int x :: st)) := by
  subst hq
  exact Go.of (fun t k => XS.istoreN X.here hx rfl hd rfl hl k) K
theorem Go.s_istore (X : Stand p l e R s m args below meth c T locs cells slots) (hx : p.tables.exec = Jvm.exec) {pc q : Nat} {Ls : Array Slot} {st : List Value} {k : Nat} {x : Int32} {l' : Array Slot} (hd : decode c.code pc = .ok (.istore k, 2)) (hq : pc + 2 = q) (hl : storeLocals Ls k (.int x) = some l') (K : Go p e below F T (mkF m q l' (st))) : Go p e below F T (mkF m pc Ls (.int x :: st)) := by
  subst hq
  exact Go.of (fun t k => XS.istore X.here hx rfl hd rfl hl k) K
theorem Go.s_astoreN (X : Stand p l e R s m args below meth c T locs cells slots) (hx : p.tables.exec = Jvm.exec) {pc q : Nat} {Ls : Array Slot} {st : List Value} {k : Fin 4} {x : Value} {l' : Array Slot} (hd : decode c.code pc = .ok (.astore_n k, 1)) (hq : pc + 1 = q) (hv : x.isRef = true) (hl : storeLocals Ls k.val x = some l') (K : Go p e below F T (mkF m q l' (st))) : Go p e below F T (mkF m pc Ls (x :: st)) := by
  subst hq
  exact Go.of (fun t k => XS.astoreN X.here hx rfl hd rfl hv hl k) K
theorem Go.s_iconst (X : Stand p l e R s m args below meth c T locs cells slots) (hx : p.tables.exec = Jvm.exec) {pc q : Nat} {Ls : Array Slot} {st : List Value} {i : Int} {z : Int32} (hd : decode c.code pc = .ok (.iconst i, 1)) (hq : pc + 1 = q) (hz : Int32.ofInt i = z) (K : Go p e below F T (mkF m q Ls (.int z :: st))) : Go p e below F T (mkF m pc Ls (st)) := by
  subst hq
  exact Go.of (fun t k => XS.iconst X.here hx rfl hd (hz ▸ k)) K
theorem Go.s_iadd (X : Stand p l e R s m args below meth c T locs cells slots) (hx : p.tables.exec = Jvm.exec) {pc q : Nat} {Ls : Array Slot} {st : List Value} {x y : Int32} (hd : decode c.code pc = .ok (.iadd, 1)) (hq : pc + 1 = q)  (K : Go p e below F T (mkF m q Ls (.int (x + y) :: st))) : Go p e below F T (mkF m pc Ls (.int y :: .int x :: st)) := by
  subst hq
  exact Go.of (fun t k => XS.iadd X.here hx rfl hd rfl k) K
theorem Go.s_isub (X : Stand p l e R s m args below meth c T locs cells slots) (hx : p.tables.exec = Jvm.exec) {pc q : Nat} {Ls : Array Slot} {st : List Value} {x y : Int32} (hd : decode c.code pc = .ok (.isub, 1)) (hq : pc + 1 = q)  (K : Go p e below F T (mkF m q Ls (.int (x - y) :: st))) : Go p e below F T (mkF m pc Ls (.int y :: .int x :: st)) := by
  subst hq
  exact Go.of (fun t k => XS.isub X.here hx rfl hd rfl k) K
theorem Go.s_iand (X : Stand p l e R s m args below meth c T locs cells slots) (hx : p.tables.exec = Jvm.exec) {pc q : Nat} {Ls : Array Slot} {st : List Value} {x y : Int32} (hd : decode c.code pc = .ok (.iand, 1)) (hq : pc + 1 = q)  (K : Go p e below F T (mkF m q Ls (.int (x &&& y) :: st))) : Go p e below F T (mkF m pc Ls (.int y :: .int x :: st)) := by
  subst hq
  exact Go.of (fun t k => XS.iand X.here hx rfl hd rfl k) K
theorem Go.s_goto (X : Stand p l e R s m args below meth c T locs cells slots) (hx : p.tables.exec = Jvm.exec) {pc q : Nat} {Ls : Array Slot} {st : List Value}  {o : Int} (hd : decode c.code pc = .ok (.goto o, 3)) (ho : 0 ≤ (pc : Int) + o) (hp : ((pc : Int) + o).toNat = q)  (K : Go p e below F T (mkF m q Ls st)) : Go p e below F T (mkF m pc Ls (st)) :=
  Go.of (fun t k => XS.goto X.here hx rfl rfl hd ho hp k) K
theorem Go.s_ifYes (X : Stand p l e R s m args below meth c T locs cells slots) (hx : p.tables.exec = Jvm.exec) {pc q : Nat} {Ls : Array Slot} {st : List Value} {cd : ClassFile.Cond} {x : Int32} {o : Int} (hd : decode c.code pc = .ok (.ifCond cd o, 3)) (ho : 0 ≤ (pc : Int) + o) (hp : ((pc : Int) + o).toNat = q) (hc : ifCond.holds cd x = true) (K : Go p e below F T (mkF m q Ls st)) : Go p e below F T (mkF m pc Ls (.int x :: st)) :=
  Go.of (fun t k => XS.ifYes X.here hx rfl rfl hd rfl hc ho hp k) K
theorem Go.s_icmpYes (X : Stand p l e R s m args below meth c T locs cells slots) (hx : p.tables.exec = Jvm.exec) {pc q : Nat} {Ls : Array Slot} {st : List Value} {cd : ClassFile.Cond} {x y : Int32} {o : Int} (hd : decode c.code pc = .ok (.if_icmp cd o, 3)) (ho : 0 ≤ (pc : Int) + o) (hp : ((pc : Int) + o).toNat = q) (hc : if_icmp.holds cd x y = true) (K : Go p e below F T (mkF m q Ls st)) : Go p e below F T (mkF m pc Ls (.int y :: .int x :: st)) :=
  Go.of (fun t k => XS.icmpYes X.here hx rfl rfl hd rfl hc ho hp k) K
theorem Go.s_ifNo (X : Stand p l e R s m args below meth c T locs cells slots) (hx : p.tables.exec = Jvm.exec) {pc q : Nat} {Ls : Array Slot} {st : List Value} {cd : ClassFile.Cond} {o : Int} {x : Int32} (hd : decode c.code pc = .ok (.ifCond cd o, 3)) (hq : pc + 3 = q) (hc : ifCond.holds cd x = false) (K : Go p e below F T (mkF m q Ls (st))) : Go p e below F T (mkF m pc Ls (.int x :: st)) := by
  subst hq
  exact Go.of (fun t k => XS.ifNo X.here hx rfl hd rfl hc k) K
theorem Go.s_icmpNo (X : Stand p l e R s m args below meth c T locs cells slots) (hx : p.tables.exec = Jvm.exec) {pc q : Nat} {Ls : Array Slot} {st : List Value} {cd : ClassFile.Cond} {o : Int} {x y : Int32} (hd : decode c.code pc = .ok (.if_icmp cd o, 3)) (hq : pc + 3 = q) (hc : if_icmp.holds cd x y = false) (K : Go p e below F T (mkF m q Ls (st))) : Go p e below F T (mkF m pc Ls (.int y :: .int x :: st)) := by
  subst hq
  exact Go.of (fun t k => XS.icmpNo X.here hx rfl hd rfl hc k) K
theorem Go.s_acmp (X : Stand p l e R s m args below meth c T locs cells slots) (hx : p.tables.exec = Jvm.exec) {pc q : Nat} {Ls : Array Slot} {st : List Value} {cd : ACond} {x y : Value} {o : Int} {same : Bool} (hd : decode c.code pc = .ok (.if_acmp cd o, 3)) (h1 : x.isRef = true) (h2 : y.isRef = true) (hq : decide (x = y) = same) (ho : 0 ≤ (pc : Int) + o) (hp : q = if acV cd same = true then ((pc : Int) + o).toNat else pc + 3) (K : Go p e below F T (mkF m q Ls st)) : Go p e below F T (mkF m pc Ls (y :: x :: st)) :=
  Go.of (fun t k => Jvm.RoadKit.acmp (g := mkF m pc Ls (y :: x :: st)) X hx rfl h1 h2 rfl hd rfl hq ho hp k) K
theorem Go.s_ldc (X : Stand p l e R s m args below meth c T locs cells slots) (hx : p.tables.exec = Jvm.exec) {pc q : Nat} {Ls : Array Slot} {st : List Value} {own : String} {index : Nat} {v : Int32} (hd : decode c.code pc = .ok (.ldc index, 2)) (hq : pc + 2 = q) (hown : s.vm.findClass own = some m.cls) (w : (Jvm.Cond.constant own index v).before args s = true) (K : Go p e below F T (mkF m q Ls (.int v :: st))) : Go p e below F T (mkF m pc Ls st) := by
  subst hq
  exact Go.of (X.ldcInt hx hown w (g := mkF m pc Ls st) rfl hd) K
end OwnSteps
abbrev mn_102 : MethodName := ⟨"com/example/fencerow/fencerow/Sign", "ordinal", "()I"⟩
abbrev mn_3 : MethodName := ⟨"com/example/fencerow/fencerow/Sign", "holds", "(I)Z"⟩
abbrev mn_4 : MethodName := ⟨"java/lang/Enum", "ordinal", "()I"⟩
abbrev mn_2 : MethodName := ⟨"com/example/fencerow/fencerow/Sign", "isMaximum", "()Z"⟩
abbrev mn_1 : MethodName := ⟨"com/example/fencerow/fencerow/SignIsMaximumPinLaw", "pick", "(I)Lcom/example/fencerow/fencerow/Sign;"⟩
theorem pn_com_example_fencerow_fencerow_SignIsMaximumPinLaw : plainName "com/example/fencerow/fencerow/SignIsMaximumPinLaw" = true := by first | (simp [plainName, overriddenIn]; done) | decide +kernel
theorem d1_0 : decode method_2_code 0 = .ok (.iload_n 0, 1) := by decide +kernel
theorem d1_1 : decode method_2_code 1 = .ok (.ifCond .ne 7, 3) := by decide +kernel
theorem d1_4 : decode method_2_code 4 = .ok (.getstatic 7, 3) := by decide +kernel
theorem d1_7 : decode method_2_code 7 = .ok (.areturn, 1) := by decide +kernel
theorem d1_8 : decode method_2_code 8 = .ok (.iload_n 0, 1) := by decide +kernel
theorem d1_9 : decode method_2_code 9 = .ok (.iconst 1, 1) := by decide +kernel
theorem d1_10 : decode method_2_code 10 = .ok (.if_icmp .ne 7, 3) := by decide +kernel
theorem d1_13 : decode method_2_code 13 = .ok (.getstatic 13, 3) := by decide +kernel
theorem d1_16 : decode method_2_code 16 = .ok (.areturn, 1) := by decide +kernel
theorem d1_17 : decode method_2_code 17 = .ok (.iload_n 0, 1) := by decide +kernel
theorem d1_18 : decode method_2_code 18 = .ok (.iconst 2, 1) := by decide +kernel
theorem d1_19 : decode method_2_code 19 = .ok (.if_icmp .ne 7, 3) := by decide +kernel
theorem d1_22 : decode method_2_code 22 = .ok (.getstatic 16, 3) := by decide +kernel
theorem d1_25 : decode method_2_code 25 = .ok (.areturn, 1) := by decide +kernel
theorem d1_26 : decode method_2_code 26 = .ok (.getstatic 19, 3) := by decide +kernel
theorem d1_29 : decode method_2_code 29 = .ok (.areturn, 1) := by decide +kernel
theorem pn_com_example_fencerow_fencerow_Sign : plainName "com/example/fencerow/fencerow/Sign" = true := by first | (simp [plainName, overriddenIn]; done) | decide +kernel
theorem d2_0 : decode prog_138_method_8_code 0 = .ok (.aload_n 0, 1) := by decide +kernel
theorem d2_1 : decode prog_138_method_8_code 1 = .ok (.getstatic 3, 3) := by decide +kernel
theorem d2_4 : decode prog_138_method_8_code 4 = .ok (.if_acmp .eq 10, 3) := by decide +kernel
theorem d2_14 : decode prog_138_method_8_code 14 = .ok (.iconst 1, 1) := by decide +kernel
theorem d2_15 : decode prog_138_method_8_code 15 = .ok (.goto 4, 3) := by decide +kernel
theorem d2_19 : decode prog_138_method_8_code 19 = .ok (.ireturn, 1) := by decide +kernel
theorem pn_java_lang_Enum : plainName "java/lang/Enum" = true := by first | (simp [plainName, overriddenIn]; done) | decide +kernel
theorem d4_0 : decode jdk_37_method_2_code 0 = .ok (.aload_n 0, 1) := by decide +kernel
theorem d4_1 : decode jdk_37_method_2_code 1 = .ok (.getfield 7, 3) := by decide +kernel
theorem d4_4 : decode jdk_37_method_2_code 4 = .ok (.ireturn, 1) := by decide +kernel
theorem d3_0 : decode prog_138_method_7_code 0 = .ok (.aload_n 0, 1) := by decide +kernel
theorem d3_1 : decode prog_138_method_7_code 1 = .ok (.invokevirtual 87, 3) := by decide +kernel
theorem pd_0 : parseMethodDescriptor "()I" = some ⟨[], some .int⟩ := by decide +kernel
theorem d3_4 : decode prog_138_method_7_code 4 = .ok (.tableswitch 32 0 3 #[42, 54, 66, 78], 32) := by decide +kernel
theorem d3_46 : decode prog_138_method_7_code 46 = .ok (.iload_n 1, 1) := by decide +kernel
theorem d3_47 : decode prog_138_method_7_code 47 = .ok (.ifCond .ge 7, 3) := by decide +kernel
theorem d3_50 : decode prog_138_method_7_code 50 = .ok (.iconst 1, 1) := by decide +kernel
theorem d3_51 : decode prog_138_method_7_code 51 = .ok (.goto 40, 3) := by decide +kernel
theorem d3_91 : decode prog_138_method_7_code 91 = .ok (.ireturn, 1) := by decide +kernel
theorem d3_54 : decode prog_138_method_7_code 54 = .ok (.iconst 0, 1) := by decide +kernel
theorem d3_55 : decode prog_138_method_7_code 55 = .ok (.goto 36, 3) := by decide +kernel
theorem d2_7 : decode prog_138_method_8_code 7 = .ok (.aload_n 0, 1) := by decide +kernel
theorem d2_8 : decode prog_138_method_8_code 8 = .ok (.getstatic 7, 3) := by decide +kernel
theorem d2_11 : decode prog_138_method_8_code 11 = .ok (.if_acmp .ne 7, 3) := by decide +kernel
theorem d3_58 : decode prog_138_method_7_code 58 = .ok (.iload_n 1, 1) := by decide +kernel
theorem d3_59 : decode prog_138_method_7_code 59 = .ok (.ifCond .gt 7, 3) := by decide +kernel
theorem d3_66 : decode prog_138_method_7_code 66 = .ok (.iconst 0, 1) := by decide +kernel
theorem d3_67 : decode prog_138_method_7_code 67 = .ok (.goto 24, 3) := by decide +kernel
theorem d3_62 : decode prog_138_method_7_code 62 = .ok (.iconst 1, 1) := by decide +kernel
theorem d3_63 : decode prog_138_method_7_code 63 = .ok (.goto 28, 3) := by decide +kernel
theorem d2_18 : decode prog_138_method_8_code 18 = .ok (.iconst 0, 1) := by decide +kernel
theorem d3_70 : decode prog_138_method_7_code 70 = .ok (.iload_n 1, 1) := by decide +kernel
theorem d3_71 : decode prog_138_method_7_code 71 = .ok (.ifCond .le 7, 3) := by decide +kernel
theorem d3_74 : decode prog_138_method_7_code 74 = .ok (.iconst 1, 1) := by decide +kernel
theorem d3_75 : decode prog_138_method_7_code 75 = .ok (.goto 16, 3) := by decide +kernel
theorem d3_78 : decode prog_138_method_7_code 78 = .ok (.iconst 0, 1) := by decide +kernel
theorem d3_79 : decode prog_138_method_7_code 79 = .ok (.goto 12, 3) := by decide +kernel
theorem d3_82 : decode prog_138_method_7_code 82 = .ok (.iload_n 1, 1) := by decide +kernel
theorem d3_83 : decode prog_138_method_7_code 83 = .ok (.ifCond .lt 7, 3) := by decide +kernel
theorem d3_90 : decode prog_138_method_7_code 90 = .ok (.iconst 0, 1) := by decide +kernel
theorem d3_86 : decode prog_138_method_7_code 86 = .ok (.iconst 1, 1) := by decide +kernel
theorem d3_87 : decode prog_138_method_7_code 87 = .ok (.goto 4, 3) := by decide +kernel
theorem pd_2 : parseMethodDescriptor "(I)Lcom/example/fencerow/fencerow/Sign;" = some ⟨[.int], some (.object "com/example/fencerow/fencerow/Sign")⟩ := by decide +kernel
theorem pd_1 : parseMethodDescriptor "()Z" = some ⟨[], some .boolean⟩ := by decide +kernel
theorem pd_3 : parseMethodDescriptor "(I)Z" = some ⟨[.int], some .boolean⟩ := by decide +kernel
def Ctx (Z : State) (h : Heap) (a_BELOW a_ABOVE a_AT_MOST a_AT_LEAST : Addr) : Prop := Sta Z h "com/example/fencerow/fencerow/Sign" "BELOW" "Lcom/example/fencerow/fencerow/Sign;" (.ref a_BELOW) ∧ Sta Z h "com/example/fencerow/fencerow/Sign" "ABOVE" "Lcom/example/fencerow/fencerow/Sign;" (.ref a_ABOVE) ∧ Sta Z h "com/example/fencerow/fencerow/Sign" "AT_MOST" "Lcom/example/fencerow/fencerow/Sign;" (.ref a_AT_MOST) ∧ Sta Z h "com/example/fencerow/fencerow/Sign" "AT_LEAST" "Lcom/example/fencerow/fencerow/Sign;" (.ref a_AT_LEAST) ∧ Exa Z h a_BELOW "com/example/fencerow/fencerow/Sign" ∧ Exa Z h a_ABOVE "com/example/fencerow/fencerow/Sign" ∧ Exa Z h a_AT_MOST "com/example/fencerow/fencerow/Sign" ∧ Exa Z h a_AT_LEAST "com/example/fencerow/fencerow/Sign" ∧ Fld Z h a_BELOW "java/lang/Enum" "ordinal" "I" (.int (0 : Int32)) ∧ Fld Z h a_ABOVE "java/lang/Enum" "ordinal" "I" (.int (2 : Int32)) ∧ Fld Z h a_AT_MOST "java/lang/Enum" "ordinal" "I" (.int (1 : Int32)) ∧ Fld Z h a_AT_LEAST "java/lang/Enum" "ordinal" "I" (.int (3 : Int32)) ∧ ¬ a_BELOW = a_ABOVE ∧ ¬ a_BELOW = a_AT_MOST ∧ ¬ a_BELOW = a_AT_LEAST ∧ ¬ a_ABOVE = a_AT_MOST ∧ ¬ a_ABOVE = a_AT_LEAST ∧ ¬ a_AT_MOST = a_AT_LEAST
theorem ef_pick (m : MethodId) (x0 : Int32) : entryFrame m #[(.int x0)] 1 = mkF m 0 #[.val (.int x0)] [] := by first | (simp [entryFrame, mkF, argsToLocals, Value.category]; done) | rfl
set_option maxRecDepth 65536 in
set_option maxHeartbeats 40000000 in
theorem rm_pick (l : Launch) (Z : State) (a0 : Array Value) (hw : ∀ d ∈ tables_1, d.before a0 Z = true) (x0 : Int32) (h0 : Heap) (a_BELOW a_ABOVE a_AT_MOST a_AT_LEAST : Addr) (hctx : Ctx Z h0 a_BELOW a_ABOVE a_AT_MOST a_AT_LEAST) :
    Ct l mn_1 method_2_code 1 (some (.object "com/example/fencerow/fencerow/Sign")) ({ frames := 0, cells := 0, slots := 0, locals := 0 } : Room) Z h0 #[(.int x0)] (fun v h L => ∃ r, v = some (.ref r) ∧ ((x0 = (0 : Int32) ∧ r = a_BELOW) ∨ (¬ (x0 = (0 : Int32)) ∧ x0 = (1 : Int32) ∧ r = a_AT_MOST) ∨ (¬ (x0 = (0 : Int32)) ∧ ¬ (x0 = (1 : Int32)) ∧ x0 = (2 : Int32) ∧ r = a_ABOVE) ∨ (¬ (x0 = (0 : Int32)) ∧ ¬ (x0 = (1 : Int32)) ∧ ¬ (x0 = (2 : Int32)) ∧ r = a_AT_LEAST)) ∧ L = [] ∧ h = h0) := by
  refine Ct.body (plainFor_of_name pn_com_example_fencerow_fencerow_SignIsMaximumPinLaw) ?_
  intro p e s m below meth c T0 hx hby hml hown hnm hret hlk hZ X0 e0
  have hctx' := hctx
  obtain ⟨S_BELOW, S_ABOVE, S_AT_MOST, S_AT_LEAST, E_BELOW, E_ABOVE, E_AT_MOST, E_AT_LEAST, F_BELOW_ordinal, F_ABOVE_ordinal, F_AT_MOST_ordinal, F_AT_LEAST_ordinal, ne_BELOW_ABOVE, ne_BELOW_AT_MOST, ne_BELOW_AT_LEAST, ne_ABOVE_AT_MOST, ne_ABOVE_AT_LEAST, ne_AT_MOST_AT_LEAST⟩ := hctx
  refine Go.cast (ef_pick m x0) ?_
  show Go p e below _ T0 (mkF m 0 #[.val (.int x0)] [])
  refine Go.s_iloadN X0 hx (hb hby d1_0) (q := 1) rfl rfl ?_
  by_cases c1_1 : x0 = (0 : Int32)
  · -- pc 1: x0 = (0 : Int32)
    refine Go.s_ifNo X0 hx (hb hby d1_1) (q := 4) rfl ((if0 _ _).trans (teq c1_1).2) ?_
    refine Go.getS X0 hx hZ hown (w_ hw 4 rfl) Via.refl e0 S_BELOW (hb hby d1_4) ?_
    intro T2 X2 e2
    show Go p e below _ T2 (mkF m 7 #[.val (.int x0)] [(.ref a_BELOW)])
    refine Go.retA X2 hx hlk hret rfl rfl (hb hby d1_7) (by decide) (by decide) ?_
    try rw [e2]
    exact ⟨_, rfl, Or.inl ⟨c1_1, rfl⟩, rfl, rfl⟩
  · -- pc 1: not x0 = (0 : Int32)
    refine Go.s_ifYes X0 hx (hb hby d1_1) (q := 8) (by decide) (by decide) ((if0 _ _).trans (feq c1_1).2) ?_
    refine Go.s_iloadN X0 hx (hb hby d1_8) (q := 9) rfl rfl ?_
    refine Go.s_iconst X0 hx (hb hby d1_9) (q := 10) rfl (z := 1) rfl ?_
    by_cases c10_3 : x0 = (1 : Int32)
    · -- pc 10: x0 = (1 : Int32)
      refine Go.s_icmpNo X0 hx (hb hby d1_10) (q := 13) rfl (teq c10_3).2 ?_
      refine Go.getS X0 hx hZ hown (w_ hw 33 rfl) Via.refl e0 S_AT_MOST (hb hby d1_13) ?_
      intro T4 X4 e4
      show Go p e below _ T4 (mkF m 16 #[.val (.int x0)] [(.ref a_AT_MOST)])
      refine Go.retA X4 hx hlk hret rfl rfl (hb hby d1_16) (by decide) (by decide) ?_
      try rw [e4]
      exact ⟨_, rfl, Or.inr (Or.inl ⟨c1_1, c10_3, rfl⟩), rfl, rfl⟩
    · -- pc 10: not x0 = (1 : Int32)
      refine Go.s_icmpYes X0 hx (hb hby d1_10) (q := 17) (by decide) (by decide) (feq c10_3).2 ?_
      refine Go.s_iloadN X0 hx (hb hby d1_17) (q := 18) rfl rfl ?_
      refine Go.s_iconst X0 hx (hb hby d1_18) (q := 19) rfl (z := 2) rfl ?_
      by_cases c19_5 : x0 = (2 : Int32)
      · -- pc 19: x0 = (2 : Int32)
        refine Go.s_icmpNo X0 hx (hb hby d1_19) (q := 22) rfl (teq c19_5).2 ?_
        refine Go.getS X0 hx hZ hown (w_ hw 29 rfl) Via.refl e0 S_ABOVE (hb hby d1_22) ?_
        intro T6 X6 e6
        show Go p e below _ T6 (mkF m 25 #[.val (.int x0)] [(.ref a_ABOVE)])
        refine Go.retA X6 hx hlk hret rfl rfl (hb hby d1_25) (by decide) (by decide) ?_
        try rw [e6]
        exact ⟨_, rfl, Or.inr (Or.inr (Or.inl ⟨c1_1, c10_3, c19_5, rfl⟩)), rfl, rfl⟩
      · -- pc 19: not x0 = (2 : Int32)
        refine Go.s_icmpYes X0 hx (hb hby d1_19) (q := 26) (by decide) (by decide) (feq c19_5).2 ?_
        refine Go.getS X0 hx hZ hown (w_ hw 34 rfl) Via.refl e0 S_AT_LEAST (hb hby d1_26) ?_
        intro T7 X7 e7
        show Go p e below _ T7 (mkF m 29 #[.val (.int x0)] [(.ref a_AT_LEAST)])
        refine Go.retA X7 hx hlk hret rfl rfl (hb hby d1_29) (by decide) (by decide) ?_
        try rw [e7]
        exact ⟨_, rfl, Or.inr (Or.inr (Or.inr (⟨c1_1, c10_3, c19_5, rfl⟩))), rfl, rfl⟩
theorem ef_mxa_BELOW (m : MethodId) (x0 : Addr) : entryFrame m #[(.ref x0)] 1 = mkF m 0 #[.val (.ref x0)] [] := by first | (simp [entryFrame, mkF, argsToLocals, Value.category]; done) | rfl
set_option maxRecDepth 65536 in
set_option maxHeartbeats 40000000 in
theorem rm_mxa_BELOW (l : Launch) (Z : State) (a0 : Array Value) (hw : ∀ d ∈ tables_1, d.before a0 Z = true)  (h0 : Heap) (a_BELOW a_ABOVE a_AT_MOST a_AT_LEAST : Addr) (hctx : Ctx Z h0 a_BELOW a_ABOVE a_AT_MOST a_AT_LEAST) :
    Ct l mn_2 prog_138_method_8_code 1 (some .boolean) ({ frames := 0, cells := 0, slots := 0, locals := 0 } : Room) Z h0 #[(.ref a_BELOW)] (fun v h L => v = some (.int (1 : Int32)) ∧ L = [] ∧ h = h0) := by
  refine Ct.body (plainFor_of_name pn_com_example_fencerow_fencerow_Sign) ?_
  intro p e s m below meth c T0 hx hby hml hown hnm hret hlk hZ X0 e0
  have hctx' := hctx
  obtain ⟨S_BELOW, S_ABOVE, S_AT_MOST, S_AT_LEAST, E_BELOW, E_ABOVE, E_AT_MOST, E_AT_LEAST, F_BELOW_ordinal, F_ABOVE_ordinal, F_AT_MOST_ordinal, F_AT_LEAST_ordinal, ne_BELOW_ABOVE, ne_BELOW_AT_MOST, ne_BELOW_AT_LEAST, ne_ABOVE_AT_MOST, ne_ABOVE_AT_LEAST, ne_AT_MOST_AT_LEAST⟩ := hctx
  refine Go.cast (ef_mxa_BELOW m a_BELOW) ?_
  show Go p e below _ T0 (mkF m 0 #[.val (.ref a_BELOW)] [])
  refine Go.s_aloadN X0 hx (hb hby d2_0) (q := 1) rfl rfl rfl ?_
  refine Go.getS X0 hx hZ hown (w_ hw 12 rfl) Via.refl e0 S_BELOW (hb hby d2_1) ?_
  intro T1 X1 e1
  show Go p e below _ T1 (mkF m 4 #[.val (.ref a_BELOW)] [(.ref a_BELOW), (.ref a_BELOW)])
  refine Go.s_acmp X1 hx (q := 14) (hb hby d2_4) rfl rfl (same := true) (decide_eq_true rfl) (by decide) (by decide) ?_
  refine Go.s_iconst X1 hx (hb hby d2_14) (q := 15) rfl (z := 1) rfl ?_
  refine Go.s_goto X1 hx (hb hby d2_15) (q := 19) (by decide) (by decide) ?_
  refine Go.retN X1 hx hlk hret (by simp) (hb hby d2_19) (by decide) (by decide) ?_
  try rw [e1]
  exact ⟨by decide, rfl, rfl⟩
theorem ef_oda_BELOW (m : MethodId) (x0 : Addr) : entryFrame m #[(.ref x0)] 1 = mkF m 0 #[.val (.ref x0)] [] := by first | (simp [entryFrame, mkF, argsToLocals, Value.category]; done) | rfl
set_option maxRecDepth 65536 in
set_option maxHeartbeats 40000000 in
theorem rm_oda_BELOW (l : Launch) (Z : State) (a0 : Array Value) (hw : ∀ d ∈ tables_1, d.before a0 Z = true)  (h0 : Heap) (a_BELOW a_ABOVE a_AT_MOST a_AT_LEAST : Addr) (hctx : Ctx Z h0 a_BELOW a_ABOVE a_AT_MOST a_AT_LEAST) :
    Ct l mn_4 jdk_37_method_2_code 1 (some .int) ({ frames := 0, cells := 0, slots := 0, locals := 0 } : Room) Z h0 #[(.ref a_BELOW)] (fun v h L => v = some (.int (0 : Int32)) ∧ L = [] ∧ h = h0) := by
  refine Ct.body (plainFor_of_name pn_java_lang_Enum) ?_
  intro p e s m below meth c T0 hx hby hml hown hnm hret hlk hZ X0 e0
  have hctx' := hctx
  obtain ⟨S_BELOW, S_ABOVE, S_AT_MOST, S_AT_LEAST, E_BELOW, E_ABOVE, E_AT_MOST, E_AT_LEAST, F_BELOW_ordinal, F_ABOVE_ordinal, F_AT_MOST_ordinal, F_AT_LEAST_ordinal, ne_BELOW_ABOVE, ne_BELOW_AT_MOST, ne_BELOW_AT_LEAST, ne_ABOVE_AT_MOST, ne_ABOVE_AT_LEAST, ne_AT_MOST_AT_LEAST⟩ := hctx
  refine Go.cast (ef_oda_BELOW m a_BELOW) ?_
  show Go p e below _ T0 (mkF m 0 #[.val (.ref a_BELOW)] [])
  refine Go.s_aloadN X0 hx (hb hby d4_0) (q := 1) rfl rfl rfl ?_
  refine Go.getF X0 hx hZ hown (w_ hw 27 rfl) Via.refl e0 F_BELOW_ordinal (hb hby d4_1) ?_
  intro T1 X1 e1
  show Go p e below _ T1 (mkF m 4 #[.val (.ref a_BELOW)] [(.int (0 : Int32))])
  refine Go.retI X1 hx hlk hret (hb hby d4_4) (by decide) (by decide) ?_
  try rw [e1]
  exact ⟨rfl, rfl, rfl⟩
theorem ef_hoa_BELOW (m : MethodId) (x0 : Addr) (x1 : Int32) : entryFrame m #[(.ref x0), (.int x1)] 2 = mkF m 0 #[.val (.ref x0), .val (.int x1)] [] := by first | (simp [entryFrame, mkF, argsToLocals, Value.category]; done) | rfl
set_option maxRecDepth 65536 in
set_option maxHeartbeats 40000000 in
theorem rm_hoa_BELOW (l : Launch) (Z : State) (a0 : Array Value) (hw : ∀ d ∈ tables_1, d.before a0 Z = true) (x1 : Int32) (h0 : Heap) (a_BELOW a_ABOVE a_AT_MOST a_AT_LEAST : Addr) (hctx : Ctx Z h0 a_BELOW a_ABOVE a_AT_MOST a_AT_LEAST) :
    Ct l mn_3 prog_138_method_7_code 2 (some .boolean) ({ frames := 1, cells := 0, slots := 0, locals := 12 } : Room) Z h0 #[(.ref a_BELOW), (.int x1)] (fun v h L => ∃ r, v = some (.int r) ∧ ((x1 < (0 : Int32) ∧ r = (1 : Int32)) ∨ (¬ (x1 < (0 : Int32)) ∧ r = (0 : Int32))) ∧ L = [] ∧ h = h0) := by
  refine Ct.body (plainFor_of_name pn_com_example_fencerow_fencerow_Sign) ?_
  intro p e s m below meth c T0 hx hby hml hown hnm hret hlk hZ X0 e0
  have hctx' := hctx
  obtain ⟨S_BELOW, S_ABOVE, S_AT_MOST, S_AT_LEAST, E_BELOW, E_ABOVE, E_AT_MOST, E_AT_LEAST, F_BELOW_ordinal, F_ABOVE_ordinal, F_AT_MOST_ordinal, F_AT_LEAST_ordinal, ne_BELOW_ABOVE, ne_BELOW_AT_MOST, ne_BELOW_AT_LEAST, ne_ABOVE_AT_MOST, ne_ABOVE_AT_LEAST, ne_AT_MOST_AT_LEAST⟩ := hctx
  refine Go.cast (ef_hoa_BELOW m a_BELOW x1) ?_
  show Go p e below _ T0 (mkF m 0 #[.val (.ref a_BELOW), .val (.int x1)] [])
  refine Go.s_aloadN X0 hx (hb hby d3_0) (q := 1) rfl rfl rfl ?_
  refine Go.callU (y := mn_102) (z := mn_4) X0 hx hZ hown (w_ hw 20 rfl) (w_ hw 21 rfl) (w_ hw 22 rfl) (w_ hw 24 rfl) (w_ hw 23 rfl) (w_ hw 26 rfl) (w_ hw 25 rfl) (by decide) e0 E_BELOW (argsL := []) (rest := []) (rm_oda_BELOW l Z a0 hw _ a_BELOW a_ABOVE a_AT_MOST a_AT_LEAST hctx') (by rw [hml]; rfl) (lenOf pd_0 rfl) rfl (hb hby d3_1) (by decide) (by decide) (by decide) (Nat.le_of_ble_eq_true rfl) ?_
  intro r1 T1 L1 q1 X1
  obtain ⟨rfl, rfl, e1⟩ := q1
  rw [List.append_nil] at X1
  show Go p e below _ T1 (mkF m 4 #[.val (.ref a_BELOW), .val (.int x1)] [(.int (0 : Int32))])
  refine Go.of (fun t k => XS.tswIn X1.here hx rfl (pc0 := 4) (pc' := 46) rfl (hb hby d3_4) rfl (by decide) (o := 42) rfl (by decide) (by decide) k) ?_
  show Go p e below _ T1 (mkF m 46 #[.val (.ref a_BELOW), .val (.int x1)] [])
  refine Go.s_iloadN X1 hx (hb hby d3_46) (q := 47) rfl rfl ?_
  by_cases c47_2 : x1 < (0 : Int32)
  · -- pc 47: x1 < (0 : Int32)
    refine Go.s_ifNo X1 hx (hb hby d3_47) (q := 50) rfl ((if0 _ _).trans (tlt c47_2).2.1) ?_
    refine Go.s_iconst X1 hx (hb hby d3_50) (q := 51) rfl (z := 1) rfl ?_
    refine Go.s_goto X1 hx (hb hby d3_51) (q := 91) (by decide) (by decide) ?_
    refine Go.retN X1 hx hlk hret (by simp) (hb hby d3_91) (by decide) (by decide) ?_
    try rw [e1]
    exact ⟨_, rfl, Or.inl ⟨c47_2, (by decide)⟩, rfl, rfl⟩
  · -- pc 47: not x1 < (0 : Int32)
    refine Go.s_ifYes X1 hx (hb hby d3_47) (q := 54) (by decide) (by decide) ((if0 _ _).trans (flt c47_2).2.1) ?_
    refine Go.s_iconst X1 hx (hb hby d3_54) (q := 55) rfl (z := 0) rfl ?_
    refine Go.s_goto X1 hx (hb hby d3_55) (q := 91) (by decide) (by decide) ?_
    refine Go.retN X1 hx hlk hret (by simp) (hb hby d3_91) (by decide) (by decide) ?_
    try rw [e1]
    exact ⟨_, rfl, Or.inr (⟨c47_2, (by decide)⟩), rfl, rfl⟩
theorem ef_mxa_AT_MOST (m : MethodId) (x0 : Addr) : entryFrame m #[(.ref x0)] 1 = mkF m 0 #[.val (.ref x0)] [] := by first | (simp [entryFrame, mkF, argsToLocals, Value.category]; done) | rfl
set_option maxRecDepth 65536 in
set_option maxHeartbeats 40000000 in
theorem rm_mxa_AT_MOST (l : Launch) (Z : State) (a0 : Array Value) (hw : ∀ d ∈ tables_1, d.before a0 Z = true)  (h0 : Heap) (a_BELOW a_ABOVE a_AT_MOST a_AT_LEAST : Addr) (hctx : Ctx Z h0 a_BELOW a_ABOVE a_AT_MOST a_AT_LEAST) :
    Ct l mn_2 prog_138_method_8_code 1 (some .boolean) ({ frames := 0, cells := 0, slots := 0, locals := 0 } : Room) Z h0 #[(.ref a_AT_MOST)] (fun v h L => v = some (.int (1 : Int32)) ∧ L = [] ∧ h = h0) := by
  refine Ct.body (plainFor_of_name pn_com_example_fencerow_fencerow_Sign) ?_
  intro p e s m below meth c T0 hx hby hml hown hnm hret hlk hZ X0 e0
  have hctx' := hctx
  obtain ⟨S_BELOW, S_ABOVE, S_AT_MOST, S_AT_LEAST, E_BELOW, E_ABOVE, E_AT_MOST, E_AT_LEAST, F_BELOW_ordinal, F_ABOVE_ordinal, F_AT_MOST_ordinal, F_AT_LEAST_ordinal, ne_BELOW_ABOVE, ne_BELOW_AT_MOST, ne_BELOW_AT_LEAST, ne_ABOVE_AT_MOST, ne_ABOVE_AT_LEAST, ne_AT_MOST_AT_LEAST⟩ := hctx
  refine Go.cast (ef_mxa_AT_MOST m a_AT_MOST) ?_
  show Go p e below _ T0 (mkF m 0 #[.val (.ref a_AT_MOST)] [])
  refine Go.s_aloadN X0 hx (hb hby d2_0) (q := 1) rfl rfl rfl ?_
  refine Go.getS X0 hx hZ hown (w_ hw 12 rfl) Via.refl e0 S_BELOW (hb hby d2_1) ?_
  intro T1 X1 e1
  show Go p e below _ T1 (mkF m 4 #[.val (.ref a_AT_MOST)] [(.ref a_BELOW), (.ref a_AT_MOST)])
  refine Go.s_acmp X1 hx (q := 7) (hb hby d2_4) rfl rfl (same := false) (decide_eq_false fun q => ne_BELOW_AT_MOST (Value.ref.inj q).symm) (by decide) (by decide) ?_
  refine Go.s_aloadN X1 hx (hb hby d2_7) (q := 8) rfl rfl rfl ?_
  refine Go.getS X1 hx hZ hown (w_ hw 31 rfl) Via.refl e1 S_AT_MOST (hb hby d2_8) ?_
  intro T2 X2 e2
  show Go p e below _ T2 (mkF m 11 #[.val (.ref a_AT_MOST)] [(.ref a_AT_MOST), (.ref a_AT_MOST)])
  refine Go.s_acmp X2 hx (q := 14) (hb hby d2_11) rfl rfl (same := true) (decide_eq_true rfl) (by decide) (by decide) ?_
  refine Go.s_iconst X2 hx (hb hby d2_14) (q := 15) rfl (z := 1) rfl ?_
  refine Go.s_goto X2 hx (hb hby d2_15) (q := 19) (by decide) (by decide) ?_
  refine Go.retN X2 hx hlk hret (by simp) (hb hby d2_19) (by decide) (by decide) ?_
  try rw [e2]
  exact ⟨by decide, rfl, rfl⟩
theorem ef_oda_AT_MOST (m : MethodId) (x0 : Addr) : entryFrame m #[(.ref x0)] 1 = mkF m 0 #[.val (.ref x0)] [] := by first | (simp [entryFrame, mkF, argsToLocals, Value.category]; done) | rfl
set_option maxRecDepth 65536 in
set_option maxHeartbeats 40000000 in
theorem rm_oda_AT_MOST (l : Launch) (Z : State) (a0 : Array Value) (hw : ∀ d ∈ tables_1, d.before a0 Z = true)  (h0 : Heap) (a_BELOW a_ABOVE a_AT_MOST a_AT_LEAST : Addr) (hctx : Ctx Z h0 a_BELOW a_ABOVE a_AT_MOST a_AT_LEAST) :
    Ct l mn_4 jdk_37_method_2_code 1 (some .int) ({ frames := 0, cells := 0, slots := 0, locals := 0 } : Room) Z h0 #[(.ref a_AT_MOST)] (fun v h L => v = some (.int (1 : Int32)) ∧ L = [] ∧ h = h0) := by
  refine Ct.body (plainFor_of_name pn_java_lang_Enum) ?_
  intro p e s m below meth c T0 hx hby hml hown hnm hret hlk hZ X0 e0
  have hctx' := hctx
  obtain ⟨S_BELOW, S_ABOVE, S_AT_MOST, S_AT_LEAST, E_BELOW, E_ABOVE, E_AT_MOST, E_AT_LEAST, F_BELOW_ordinal, F_ABOVE_ordinal, F_AT_MOST_ordinal, F_AT_LEAST_ordinal, ne_BELOW_ABOVE, ne_BELOW_AT_MOST, ne_BELOW_AT_LEAST, ne_ABOVE_AT_MOST, ne_ABOVE_AT_LEAST, ne_AT_MOST_AT_LEAST⟩ := hctx
  refine Go.cast (ef_oda_AT_MOST m a_AT_MOST) ?_
  show Go p e below _ T0 (mkF m 0 #[.val (.ref a_AT_MOST)] [])
  refine Go.s_aloadN X0 hx (hb hby d4_0) (q := 1) rfl rfl rfl ?_
  refine Go.getF X0 hx hZ hown (w_ hw 27 rfl) Via.refl e0 F_AT_MOST_ordinal (hb hby d4_1) ?_
  intro T1 X1 e1
  show Go p e below _ T1 (mkF m 4 #[.val (.ref a_AT_MOST)] [(.int (1 : Int32))])
  refine Go.retI X1 hx hlk hret (hb hby d4_4) (by decide) (by decide) ?_
  try rw [e1]
  exact ⟨rfl, rfl, rfl⟩
theorem ef_hoa_AT_MOST (m : MethodId) (x0 : Addr) (x1 : Int32) : entryFrame m #[(.ref x0), (.int x1)] 2 = mkF m 0 #[.val (.ref x0), .val (.int x1)] [] := by first | (simp [entryFrame, mkF, argsToLocals, Value.category]; done) | rfl
set_option maxRecDepth 65536 in
set_option maxHeartbeats 40000000 in
theorem rm_hoa_AT_MOST (l : Launch) (Z : State) (a0 : Array Value) (hw : ∀ d ∈ tables_1, d.before a0 Z = true) (x1 : Int32) (h0 : Heap) (a_BELOW a_ABOVE a_AT_MOST a_AT_LEAST : Addr) (hctx : Ctx Z h0 a_BELOW a_ABOVE a_AT_MOST a_AT_LEAST) :
    Ct l mn_3 prog_138_method_7_code 2 (some .boolean) ({ frames := 1, cells := 0, slots := 0, locals := 12 } : Room) Z h0 #[(.ref a_AT_MOST), (.int x1)] (fun v h L => ∃ r, v = some (.int r) ∧ (((0 : Int32) < x1 ∧ r = (0 : Int32)) ∨ (¬ ((0 : Int32) < x1) ∧ r = (1 : Int32))) ∧ L = [] ∧ h = h0) := by
  refine Ct.body (plainFor_of_name pn_com_example_fencerow_fencerow_Sign) ?_
  intro p e s m below meth c T0 hx hby hml hown hnm hret hlk hZ X0 e0
  have hctx' := hctx
  obtain ⟨S_BELOW, S_ABOVE, S_AT_MOST, S_AT_LEAST, E_BELOW, E_ABOVE, E_AT_MOST, E_AT_LEAST, F_BELOW_ordinal, F_ABOVE_ordinal, F_AT_MOST_ordinal, F_AT_LEAST_ordinal, ne_BELOW_ABOVE, ne_BELOW_AT_MOST, ne_BELOW_AT_LEAST, ne_ABOVE_AT_MOST, ne_ABOVE_AT_LEAST, ne_AT_MOST_AT_LEAST⟩ := hctx
  refine Go.cast (ef_hoa_AT_MOST m a_AT_MOST x1) ?_
  show Go p e below _ T0 (mkF m 0 #[.val (.ref a_AT_MOST), .val (.int x1)] [])
  refine Go.s_aloadN X0 hx (hb hby d3_0) (q := 1) rfl rfl rfl ?_
  refine Go.callU (y := mn_102) (z := mn_4) X0 hx hZ hown (w_ hw 20 rfl) (w_ hw 21 rfl) (w_ hw 22 rfl) (w_ hw 24 rfl) (w_ hw 23 rfl) (w_ hw 26 rfl) (w_ hw 25 rfl) (by decide) e0 E_AT_MOST (argsL := []) (rest := []) (rm_oda_AT_MOST l Z a0 hw _ a_BELOW a_ABOVE a_AT_MOST a_AT_LEAST hctx') (by rw [hml]; rfl) (lenOf pd_0 rfl) rfl (hb hby d3_1) (by decide) (by decide) (by decide) (Nat.le_of_ble_eq_true rfl) ?_
  intro r1 T1 L1 q1 X1
  obtain ⟨rfl, rfl, e1⟩ := q1
  rw [List.append_nil] at X1
  show Go p e below _ T1 (mkF m 4 #[.val (.ref a_AT_MOST), .val (.int x1)] [(.int (1 : Int32))])
  refine Go.of (fun t k => XS.tswIn X1.here hx rfl (pc0 := 4) (pc' := 58) rfl (hb hby d3_4) rfl (by decide) (o := 54) rfl (by decide) (by decide) k) ?_
  show Go p e below _ T1 (mkF m 58 #[.val (.ref a_AT_MOST), .val (.int x1)] [])
  refine Go.s_iloadN X1 hx (hb hby d3_58) (q := 59) rfl rfl ?_
  by_cases c59_2 : (0 : Int32) < x1
  · -- pc 59: (0 : Int32) < x1
    refine Go.s_ifYes X1 hx (hb hby d3_59) (q := 66) (by decide) (by decide) ((if0 _ _).trans (tlt c59_2).2.2.1) ?_
    refine Go.s_iconst X1 hx (hb hby d3_66) (q := 67) rfl (z := 0) rfl ?_
    refine Go.s_goto X1 hx (hb hby d3_67) (q := 91) (by decide) (by decide) ?_
    refine Go.retN X1 hx hlk hret (by simp) (hb hby d3_91) (by decide) (by decide) ?_
    try rw [e1]
    exact ⟨_, rfl, Or.inl ⟨c59_2, (by decide)⟩, rfl, rfl⟩
  · -- pc 59: not (0 : Int32) < x1
    refine Go.s_ifNo X1 hx (hb hby d3_59) (q := 62) rfl ((if0 _ _).trans (flt c59_2).2.2.1) ?_
    refine Go.s_iconst X1 hx (hb hby d3_62) (q := 63) rfl (z := 1) rfl ?_
    refine Go.s_goto X1 hx (hb hby d3_63) (q := 91) (by decide) (by decide) ?_
    refine Go.retN X1 hx hlk hret (by simp) (hb hby d3_91) (by decide) (by decide) ?_
    try rw [e1]
    exact ⟨_, rfl, Or.inr (⟨c59_2, (by decide)⟩), rfl, rfl⟩
theorem ef_mxa_ABOVE (m : MethodId) (x0 : Addr) : entryFrame m #[(.ref x0)] 1 = mkF m 0 #[.val (.ref x0)] [] := by first | (simp [entryFrame, mkF, argsToLocals, Value.category]; done) | rfl
set_option maxRecDepth 65536 in
set_option maxHeartbeats 40000000 in
theorem rm_mxa_ABOVE (l : Launch) (Z : State) (a0 : Array Value) (hw : ∀ d ∈ tables_1, d.before a0 Z = true)  (h0 : Heap) (a_BELOW a_ABOVE a_AT_MOST a_AT_LEAST : Addr) (hctx : Ctx Z h0 a_BELOW a_ABOVE a_AT_MOST a_AT_LEAST) :
    Ct l mn_2 prog_138_method_8_code 1 (some .boolean) ({ frames := 0, cells := 0, slots := 0, locals := 0 } : Room) Z h0 #[(.ref a_ABOVE)] (fun v h L => v = some (.int (0 : Int32)) ∧ L = [] ∧ h = h0) := by
  refine Ct.body (plainFor_of_name pn_com_example_fencerow_fencerow_Sign) ?_
  intro p e s m below meth c T0 hx hby hml hown hnm hret hlk hZ X0 e0
  have hctx' := hctx
  obtain ⟨S_BELOW, S_ABOVE, S_AT_MOST, S_AT_LEAST, E_BELOW, E_ABOVE, E_AT_MOST, E_AT_LEAST, F_BELOW_ordinal, F_ABOVE_ordinal, F_AT_MOST_ordinal, F_AT_LEAST_ordinal, ne_BELOW_ABOVE, ne_BELOW_AT_MOST, ne_BELOW_AT_LEAST, ne_ABOVE_AT_MOST, ne_ABOVE_AT_LEAST, ne_AT_MOST_AT_LEAST⟩ := hctx
  refine Go.cast (ef_mxa_ABOVE m a_ABOVE) ?_
  show Go p e below _ T0 (mkF m 0 #[.val (.ref a_ABOVE)] [])
  refine Go.s_aloadN X0 hx (hb hby d2_0) (q := 1) rfl rfl rfl ?_
  refine Go.getS X0 hx hZ hown (w_ hw 12 rfl) Via.refl e0 S_BELOW (hb hby d2_1) ?_
  intro T1 X1 e1
  show Go p e below _ T1 (mkF m 4 #[.val (.ref a_ABOVE)] [(.ref a_BELOW), (.ref a_ABOVE)])
  refine Go.s_acmp X1 hx (q := 7) (hb hby d2_4) rfl rfl (same := false) (decide_eq_false fun q => ne_BELOW_ABOVE (Value.ref.inj q).symm) (by decide) (by decide) ?_
  refine Go.s_aloadN X1 hx (hb hby d2_7) (q := 8) rfl rfl rfl ?_
  refine Go.getS X1 hx hZ hown (w_ hw 31 rfl) Via.refl e1 S_AT_MOST (hb hby d2_8) ?_
  intro T2 X2 e2
  show Go p e below _ T2 (mkF m 11 #[.val (.ref a_ABOVE)] [(.ref a_AT_MOST), (.ref a_ABOVE)])
  refine Go.s_acmp X2 hx (q := 18) (hb hby d2_11) rfl rfl (same := false) (decide_eq_false fun q => ne_ABOVE_AT_MOST (Value.ref.inj q)) (by decide) (by decide) ?_
  refine Go.s_iconst X2 hx (hb hby d2_18) (q := 19) rfl (z := 0) rfl ?_
  refine Go.retN X2 hx hlk hret (by simp) (hb hby d2_19) (by decide) (by decide) ?_
  try rw [e2]
  exact ⟨by decide, rfl, rfl⟩
theorem ef_oda_ABOVE (m : MethodId) (x0 : Addr) : entryFrame m #[(.ref x0)] 1 = mkF m 0 #[.val (.ref x0)] [] := by first | (simp [entryFrame, mkF, argsToLocals, Value.category]; done) | rfl
set_option maxRecDepth 65536 in
set_option maxHeartbeats 40000000 in
theorem rm_oda_ABOVE (l : Launch) (Z : State) (a0 : Array Value) (hw : ∀ d ∈ tables_1, d.before a0 Z = true)  (h0 : Heap) (a_BELOW a_ABOVE a_AT_MOST a_AT_LEAST : Addr) (hctx : Ctx Z h0 a_BELOW a_ABOVE a_AT_MOST a_AT_LEAST) :
    Ct l mn_4 jdk_37_method_2_code 1 (some .int) ({ frames := 0, cells := 0, slots := 0, locals := 0 } : Room) Z h0 #[(.ref a_ABOVE)] (fun v h L => v = some (.int (2 : Int32)) ∧ L = [] ∧ h = h0) := by
  refine Ct.body (plainFor_of_name pn_java_lang_Enum) ?_
  intro p e s m below meth c T0 hx hby hml hown hnm hret hlk hZ X0 e0
  have hctx' := hctx
  obtain ⟨S_BELOW, S_ABOVE, S_AT_MOST, S_AT_LEAST, E_BELOW, E_ABOVE, E_AT_MOST, E_AT_LEAST, F_BELOW_ordinal, F_ABOVE_ordinal, F_AT_MOST_ordinal, F_AT_LEAST_ordinal, ne_BELOW_ABOVE, ne_BELOW_AT_MOST, ne_BELOW_AT_LEAST, ne_ABOVE_AT_MOST, ne_ABOVE_AT_LEAST, ne_AT_MOST_AT_LEAST⟩ := hctx
  refine Go.cast (ef_oda_ABOVE m a_ABOVE) ?_
  show Go p e below _ T0 (mkF m 0 #[.val (.ref a_ABOVE)] [])
  refine Go.s_aloadN X0 hx (hb hby d4_0) (q := 1) rfl rfl rfl ?_
  refine Go.getF X0 hx hZ hown (w_ hw 27 rfl) Via.refl e0 F_ABOVE_ordinal (hb hby d4_1) ?_
  intro T1 X1 e1
  show Go p e below _ T1 (mkF m 4 #[.val (.ref a_ABOVE)] [(.int (2 : Int32))])
  refine Go.retI X1 hx hlk hret (hb hby d4_4) (by decide) (by decide) ?_
  try rw [e1]
  exact ⟨rfl, rfl, rfl⟩
theorem ef_hoa_ABOVE (m : MethodId) (x0 : Addr) (x1 : Int32) : entryFrame m #[(.ref x0), (.int x1)] 2 = mkF m 0 #[.val (.ref x0), .val (.int x1)] [] := by first | (simp [entryFrame, mkF, argsToLocals, Value.category]; done) | rfl
set_option maxRecDepth 65536 in
set_option maxHeartbeats 40000000 in
theorem rm_hoa_ABOVE (l : Launch) (Z : State) (a0 : Array Value) (hw : ∀ d ∈ tables_1, d.before a0 Z = true) (x1 : Int32) (h0 : Heap) (a_BELOW a_ABOVE a_AT_MOST a_AT_LEAST : Addr) (hctx : Ctx Z h0 a_BELOW a_ABOVE a_AT_MOST a_AT_LEAST) :
    Ct l mn_3 prog_138_method_7_code 2 (some .boolean) ({ frames := 1, cells := 0, slots := 0, locals := 12 } : Room) Z h0 #[(.ref a_ABOVE), (.int x1)] (fun v h L => ∃ r, v = some (.int r) ∧ (((0 : Int32) < x1 ∧ r = (1 : Int32)) ∨ (¬ ((0 : Int32) < x1) ∧ r = (0 : Int32))) ∧ L = [] ∧ h = h0) := by
  refine Ct.body (plainFor_of_name pn_com_example_fencerow_fencerow_Sign) ?_
  intro p e s m below meth c T0 hx hby hml hown hnm hret hlk hZ X0 e0
  have hctx' := hctx
  obtain ⟨S_BELOW, S_ABOVE, S_AT_MOST, S_AT_LEAST, E_BELOW, E_ABOVE, E_AT_MOST, E_AT_LEAST, F_BELOW_ordinal, F_ABOVE_ordinal, F_AT_MOST_ordinal, F_AT_LEAST_ordinal, ne_BELOW_ABOVE, ne_BELOW_AT_MOST, ne_BELOW_AT_LEAST, ne_ABOVE_AT_MOST, ne_ABOVE_AT_LEAST, ne_AT_MOST_AT_LEAST⟩ := hctx
  refine Go.cast (ef_hoa_ABOVE m a_ABOVE x1) ?_
  show Go p e below _ T0 (mkF m 0 #[.val (.ref a_ABOVE), .val (.int x1)] [])
  refine Go.s_aloadN X0 hx (hb hby d3_0) (q := 1) rfl rfl rfl ?_
  refine Go.callU (y := mn_102) (z := mn_4) X0 hx hZ hown (w_ hw 20 rfl) (w_ hw 21 rfl) (w_ hw 22 rfl) (w_ hw 24 rfl) (w_ hw 23 rfl) (w_ hw 26 rfl) (w_ hw 25 rfl) (by decide) e0 E_ABOVE (argsL := []) (rest := []) (rm_oda_ABOVE l Z a0 hw _ a_BELOW a_ABOVE a_AT_MOST a_AT_LEAST hctx') (by rw [hml]; rfl) (lenOf pd_0 rfl) rfl (hb hby d3_1) (by decide) (by decide) (by decide) (Nat.le_of_ble_eq_true rfl) ?_
  intro r1 T1 L1 q1 X1
  obtain ⟨rfl, rfl, e1⟩ := q1
  rw [List.append_nil] at X1
  show Go p e below _ T1 (mkF m 4 #[.val (.ref a_ABOVE), .val (.int x1)] [(.int (2 : Int32))])
  refine Go.of (fun t k => XS.tswIn X1.here hx rfl (pc0 := 4) (pc' := 70) rfl (hb hby d3_4) rfl (by decide) (o := 66) rfl (by decide) (by decide) k) ?_
  show Go p e below _ T1 (mkF m 70 #[.val (.ref a_ABOVE), .val (.int x1)] [])
  refine Go.s_iloadN X1 hx (hb hby d3_70) (q := 71) rfl rfl ?_
  by_cases c71_2 : (0 : Int32) < x1
  · -- pc 71: (0 : Int32) < x1
    refine Go.s_ifNo X1 hx (hb hby d3_71) (q := 74) rfl ((if0 _ _).trans (tlt c71_2).2.2.2) ?_
    refine Go.s_iconst X1 hx (hb hby d3_74) (q := 75) rfl (z := 1) rfl ?_
    refine Go.s_goto X1 hx (hb hby d3_75) (q := 91) (by decide) (by decide) ?_
    refine Go.retN X1 hx hlk hret (by simp) (hb hby d3_91) (by decide) (by decide) ?_
    try rw [e1]
    exact ⟨_, rfl, Or.inl ⟨c71_2, (by decide)⟩, rfl, rfl⟩
  · -- pc 71: not (0 : Int32) < x1
    refine Go.s_ifYes X1 hx (hb hby d3_71) (q := 78) (by decide) (by decide) ((if0 _ _).trans (flt c71_2).2.2.2) ?_
    refine Go.s_iconst X1 hx (hb hby d3_78) (q := 79) rfl (z := 0) rfl ?_
    refine Go.s_goto X1 hx (hb hby d3_79) (q := 91) (by decide) (by decide) ?_
    refine Go.retN X1 hx hlk hret (by simp) (hb hby d3_91) (by decide) (by decide) ?_
    try rw [e1]
    exact ⟨_, rfl, Or.inr (⟨c71_2, (by decide)⟩), rfl, rfl⟩
theorem ef_mxa_AT_LEAST (m : MethodId) (x0 : Addr) : entryFrame m #[(.ref x0)] 1 = mkF m 0 #[.val (.ref x0)] [] := by first | (simp [entryFrame, mkF, argsToLocals, Value.category]; done) | rfl
set_option maxRecDepth 65536 in
set_option maxHeartbeats 40000000 in
theorem rm_mxa_AT_LEAST (l : Launch) (Z : State) (a0 : Array Value) (hw : ∀ d ∈ tables_1, d.before a0 Z = true)  (h0 : Heap) (a_BELOW a_ABOVE a_AT_MOST a_AT_LEAST : Addr) (hctx : Ctx Z h0 a_BELOW a_ABOVE a_AT_MOST a_AT_LEAST) :
    Ct l mn_2 prog_138_method_8_code 1 (some .boolean) ({ frames := 0, cells := 0, slots := 0, locals := 0 } : Room) Z h0 #[(.ref a_AT_LEAST)] (fun v h L => v = some (.int (0 : Int32)) ∧ L = [] ∧ h = h0) := by
  refine Ct.body (plainFor_of_name pn_com_example_fencerow_fencerow_Sign) ?_
  intro p e s m below meth c T0 hx hby hml hown hnm hret hlk hZ X0 e0
  have hctx' := hctx
  obtain ⟨S_BELOW, S_ABOVE, S_AT_MOST, S_AT_LEAST, E_BELOW, E_ABOVE, E_AT_MOST, E_AT_LEAST, F_BELOW_ordinal, F_ABOVE_ordinal, F_AT_MOST_ordinal, F_AT_LEAST_ordinal, ne_BELOW_ABOVE, ne_BELOW_AT_MOST, ne_BELOW_AT_LEAST, ne_ABOVE_AT_MOST, ne_ABOVE_AT_LEAST, ne_AT_MOST_AT_LEAST⟩ := hctx
  refine Go.cast (ef_mxa_AT_LEAST m a_AT_LEAST) ?_
  show Go p e below _ T0 (mkF m 0 #[.val (.ref a_AT_LEAST)] [])
  refine Go.s_aloadN X0 hx (hb hby d2_0) (q := 1) rfl rfl rfl ?_
  refine Go.getS X0 hx hZ hown (w_ hw 12 rfl) Via.refl e0 S_BELOW (hb hby d2_1) ?_
  intro T1 X1 e1
  show Go p e below _ T1 (mkF m 4 #[.val (.ref a_AT_LEAST)] [(.ref a_BELOW), (.ref a_AT_LEAST)])
  refine Go.s_acmp X1 hx (q := 7) (hb hby d2_4) rfl rfl (same := false) (decide_eq_false fun q => ne_BELOW_AT_LEAST (Value.ref.inj q).symm) (by decide) (by decide) ?_
  refine Go.s_aloadN X1 hx (hb hby d2_7) (q := 8) rfl rfl rfl ?_
  refine Go.getS X1 hx hZ hown (w_ hw 31 rfl) Via.refl e1 S_AT_MOST (hb hby d2_8) ?_
  intro T2 X2 e2
  show Go p e below _ T2 (mkF m 11 #[.val (.ref a_AT_LEAST)] [(.ref a_AT_MOST), (.ref a_AT_LEAST)])
  refine Go.s_acmp X2 hx (q := 18) (hb hby d2_11) rfl rfl (same := false) (decide_eq_false fun q => ne_AT_MOST_AT_LEAST (Value.ref.inj q).symm) (by decide) (by decide) ?_
  refine Go.s_iconst X2 hx (hb hby d2_18) (q := 19) rfl (z := 0) rfl ?_
  refine Go.retN X2 hx hlk hret (by simp) (hb hby d2_19) (by decide) (by decide) ?_
  try rw [e2]
  exact ⟨by decide, rfl, rfl⟩
theorem ef_oda_AT_LEAST (m : MethodId) (x0 : Addr) : entryFrame m #[(.ref x0)] 1 = mkF m 0 #[.val (.ref x0)] [] := by first | (simp [entryFrame, mkF, argsToLocals, Value.category]; done) | rfl
set_option maxRecDepth 65536 in
set_option maxHeartbeats 40000000 in
theorem rm_oda_AT_LEAST (l : Launch) (Z : State) (a0 : Array Value) (hw : ∀ d ∈ tables_1, d.before a0 Z = true)  (h0 : Heap) (a_BELOW a_ABOVE a_AT_MOST a_AT_LEAST : Addr) (hctx : Ctx Z h0 a_BELOW a_ABOVE a_AT_MOST a_AT_LEAST) :
    Ct l mn_4 jdk_37_method_2_code 1 (some .int) ({ frames := 0, cells := 0, slots := 0, locals := 0 } : Room) Z h0 #[(.ref a_AT_LEAST)] (fun v h L => v = some (.int (3 : Int32)) ∧ L = [] ∧ h = h0) := by
  refine Ct.body (plainFor_of_name pn_java_lang_Enum) ?_
  intro p e s m below meth c T0 hx hby hml hown hnm hret hlk hZ X0 e0
  have hctx' := hctx
  obtain ⟨S_BELOW, S_ABOVE, S_AT_MOST, S_AT_LEAST, E_BELOW, E_ABOVE, E_AT_MOST, E_AT_LEAST, F_BELOW_ordinal, F_ABOVE_ordinal, F_AT_MOST_ordinal, F_AT_LEAST_ordinal, ne_BELOW_ABOVE, ne_BELOW_AT_MOST, ne_BELOW_AT_LEAST, ne_ABOVE_AT_MOST, ne_ABOVE_AT_LEAST, ne_AT_MOST_AT_LEAST⟩ := hctx
  refine Go.cast (ef_oda_AT_LEAST m a_AT_LEAST) ?_
  show Go p e below _ T0 (mkF m 0 #[.val (.ref a_AT_LEAST)] [])
  refine Go.s_aloadN X0 hx (hb hby d4_0) (q := 1) rfl rfl rfl ?_
  refine Go.getF X0 hx hZ hown (w_ hw 27 rfl) Via.refl e0 F_AT_LEAST_ordinal (hb hby d4_1) ?_
  intro T1 X1 e1
  show Go p e below _ T1 (mkF m 4 #[.val (.ref a_AT_LEAST)] [(.int (3 : Int32))])
  refine Go.retI X1 hx hlk hret (hb hby d4_4) (by decide) (by decide) ?_
  try rw [e1]
  exact ⟨rfl, rfl, rfl⟩
theorem ef_hoa_AT_LEAST (m : MethodId) (x0 : Addr) (x1 : Int32) : entryFrame m #[(.ref x0), (.int x1)] 2 = mkF m 0 #[.val (.ref x0), .val (.int x1)] [] := by first | (simp [entryFrame, mkF, argsToLocals, Value.category]; done) | rfl
set_option maxRecDepth 65536 in
set_option maxHeartbeats 40000000 in
theorem rm_hoa_AT_LEAST (l : Launch) (Z : State) (a0 : Array Value) (hw : ∀ d ∈ tables_1, d.before a0 Z = true) (x1 : Int32) (h0 : Heap) (a_BELOW a_ABOVE a_AT_MOST a_AT_LEAST : Addr) (hctx : Ctx Z h0 a_BELOW a_ABOVE a_AT_MOST a_AT_LEAST) :
    Ct l mn_3 prog_138_method_7_code 2 (some .boolean) ({ frames := 1, cells := 0, slots := 0, locals := 12 } : Room) Z h0 #[(.ref a_AT_LEAST), (.int x1)] (fun v h L => ∃ r, v = some (.int r) ∧ ((x1 < (0 : Int32) ∧ r = (0 : Int32)) ∨ (¬ (x1 < (0 : Int32)) ∧ r = (1 : Int32))) ∧ L = [] ∧ h = h0) := by
  refine Ct.body (plainFor_of_name pn_com_example_fencerow_fencerow_Sign) ?_
  intro p e s m below meth c T0 hx hby hml hown hnm hret hlk hZ X0 e0
  have hctx' := hctx
  obtain ⟨S_BELOW, S_ABOVE, S_AT_MOST, S_AT_LEAST, E_BELOW, E_ABOVE, E_AT_MOST, E_AT_LEAST, F_BELOW_ordinal, F_ABOVE_ordinal, F_AT_MOST_ordinal, F_AT_LEAST_ordinal, ne_BELOW_ABOVE, ne_BELOW_AT_MOST, ne_BELOW_AT_LEAST, ne_ABOVE_AT_MOST, ne_ABOVE_AT_LEAST, ne_AT_MOST_AT_LEAST⟩ := hctx
  refine Go.cast (ef_hoa_AT_LEAST m a_AT_LEAST x1) ?_
  show Go p e below _ T0 (mkF m 0 #[.val (.ref a_AT_LEAST), .val (.int x1)] [])
  refine Go.s_aloadN X0 hx (hb hby d3_0) (q := 1) rfl rfl rfl ?_
  refine Go.callU (y := mn_102) (z := mn_4) X0 hx hZ hown (w_ hw 20 rfl) (w_ hw 21 rfl) (w_ hw 22 rfl) (w_ hw 24 rfl) (w_ hw 23 rfl) (w_ hw 26 rfl) (w_ hw 25 rfl) (by decide) e0 E_AT_LEAST (argsL := []) (rest := []) (rm_oda_AT_LEAST l Z a0 hw _ a_BELOW a_ABOVE a_AT_MOST a_AT_LEAST hctx') (by rw [hml]; rfl) (lenOf pd_0 rfl) rfl (hb hby d3_1) (by decide) (by decide) (by decide) (Nat.le_of_ble_eq_true rfl) ?_
  intro r1 T1 L1 q1 X1
  obtain ⟨rfl, rfl, e1⟩ := q1
  rw [List.append_nil] at X1
  show Go p e below _ T1 (mkF m 4 #[.val (.ref a_AT_LEAST), .val (.int x1)] [(.int (3 : Int32))])
  refine Go.of (fun t k => XS.tswIn X1.here hx rfl (pc0 := 4) (pc' := 82) rfl (hb hby d3_4) rfl (by decide) (o := 78) rfl (by decide) (by decide) k) ?_
  show Go p e below _ T1 (mkF m 82 #[.val (.ref a_AT_LEAST), .val (.int x1)] [])
  refine Go.s_iloadN X1 hx (hb hby d3_82) (q := 83) rfl rfl ?_
  by_cases c83_2 : x1 < (0 : Int32)
  · -- pc 83: x1 < (0 : Int32)
    refine Go.s_ifYes X1 hx (hb hby d3_83) (q := 90) (by decide) (by decide) ((if0 _ _).trans (tlt c83_2).1) ?_
    refine Go.s_iconst X1 hx (hb hby d3_90) (q := 91) rfl (z := 0) rfl ?_
    refine Go.retN X1 hx hlk hret (by simp) (hb hby d3_91) (by decide) (by decide) ?_
    try rw [e1]
    exact ⟨_, rfl, Or.inl ⟨c83_2, (by decide)⟩, rfl, rfl⟩
  · -- pc 83: not x1 < (0 : Int32)
    refine Go.s_ifNo X1 hx (hb hby d3_83) (q := 86) rfl ((if0 _ _).trans (flt c83_2).1) ?_
    refine Go.s_iconst X1 hx (hb hby d3_86) (q := 87) rfl (z := 1) rfl ?_
    refine Go.s_goto X1 hx (hb hby d3_87) (q := 91) (by decide) (by decide) ?_
    refine Go.retN X1 hx hlk hret (by simp) (hb hby d3_91) (by decide) (by decide) ?_
    try rw [e1]
    exact ⟨_, rfl, Or.inr (⟨c83_2, (by decide)⟩), rfl, rfl⟩
theorem ef_law (m : MethodId) (x0 : Int32) (x1 : Int32) : entryFrame m #[(.int x0), (.int x1)] maxLocals = mkF m 0 #[.val (.int x0), .val (.int x1), .unset, .unset, .unset, .unset, .unset, .unset] [] := by first | (simp [entryFrame, mkF, argsToLocals, Value.category, maxLocals]; done) | rfl
set_option maxRecDepth 65536 in
set_option maxHeartbeats 40000000 in
theorem rm_law (l : Launch) (Z : State) (a0 : Array Value) (hw : ∀ d ∈ tables_1, d.before a0 Z = true) (x0 : Int32) (x1 : Int32) (h0 : Heap) (a_BELOW a_ABOVE a_AT_MOST a_AT_LEAST : Addr) (hctx : Ctx Z h0 a_BELOW a_ABOVE a_AT_MOST a_AT_LEAST) :
    Ct l x code maxLocals ret room_1 Z h0 #[(.int x0), (.int x1)] (fun v h L => v = some (.int 1) ∧ L = []) := by
  refine Ct.body (plainFor_of_name pn_com_example_fencerow_fencerow_SignIsMaximumPinLaw) ?_
  intro p e s m below meth c T0 hx hby hml hown hnm hret hlk hZ X0 e0
  have hctx' := hctx
  obtain ⟨S_BELOW, S_ABOVE, S_AT_MOST, S_AT_LEAST, E_BELOW, E_ABOVE, E_AT_MOST, E_AT_LEAST, F_BELOW_ordinal, F_ABOVE_ordinal, F_AT_MOST_ordinal, F_AT_LEAST_ordinal, ne_BELOW_ABOVE, ne_BELOW_AT_MOST, ne_BELOW_AT_LEAST, ne_ABOVE_AT_MOST, ne_ABOVE_AT_LEAST, ne_AT_MOST_AT_LEAST⟩ := hctx
  refine Go.cast (ef_law m x0 x1) ?_
  show Go p e below _ T0 (mkF m 0 #[.val (.int x0), .val (.int x1), .unset, .unset, .unset, .unset, .unset, .unset] [])
  refine Go.s_iloadN X0 hx (hb hby at_0) (q := 1) rfl rfl ?_
  refine Go.s_iconst X0 hx (hb hby at_1) (q := 2) rfl (z := 3) rfl ?_
  refine Go.s_iand X0 hx (hb hby at_2) (q := 3) rfl ?_
  refine Go.s_istoreN X0 hx (hb hby at_3) (q := 4) rfl (l' := #[.val (.int x0), .val (.int x1), .val (.int (x0 &&& (3 : Int32))), .unset, .unset, .unset, .unset, .unset]) rfl ?_
  generalize hv1 : (x0 &&& (3 : Int32)) = v1
  refine Go.s_iloadN X0 hx (hb hby at_4) (q := 5) rfl rfl ?_
  refine Go.callS (y := mn_1) X0 hx hZ hown (w_ hw 0 rfl) (w_ hw 1 rfl) (w_ hw 2 rfl) (w_ hw 3 rfl) (by decide) e0 (argsL := [(.int v1)]) (rest := []) (rm_pick l Z a0 hw v1 _ a_BELOW a_ABOVE a_AT_MOST a_AT_LEAST hctx') (by rw [hml]; rfl) (lenOf pd_2 rfl) rfl (hb hby at_5) (by decide) (by decide) (by decide) (Nat.le_of_ble_eq_true rfl) ?_
  intro r2 T2 L2 q2 X2
  obtain ⟨w2, rfl, p2, rfl, e2⟩ := q2
  rw [List.append_nil] at X2
  rcases p2 with ⟨u2_0_0, z2⟩ | ⟨u2_1_0, u2_1_1, z2⟩ | ⟨u2_2_0, u2_2_1, u2_2_2, z2⟩ | ⟨u2_3_0, u2_3_1, u2_3_2, z2⟩
  · -- a_BELOW
    subst w2
    subst u2_0_0
    show Go p e below _ T2 (mkF m 8 #[.val (.int x0), .val (.int x1), .val (.int (0 : Int32)), .unset, .unset, .unset, .unset, .unset] [(.ref a_BELOW)])
    refine Go.s_astoreN X2 hx (hb hby at_8) (q := 9) rfl rfl (l' := #[.val (.int x0), .val (.int x1), .val (.int (0 : Int32)), .val (.ref a_BELOW), .unset, .unset, .unset, .unset]) rfl ?_
    refine Go.s_iloadN X2 hx (hb hby at_9) (q := 10) rfl rfl ?_
    refine Go.s_iconst X2 hx (hb hby at_10) (q := 11) rfl (z := 2) rfl ?_
    refine Go.s_icmpNo X2 hx (hb hby at_11) (q := 14) rfl (tlt (by decide : (0 : Int32) < (2 : Int32))).2.1 ?_
    refine Go.s_iconst X2 hx (hb hby at_14) (q := 15) rfl (z := 1) rfl ?_
    refine Go.s_goto X2 hx (hb hby at_15) (q := 19) (by decide) (by decide) ?_
    refine Go.s_istore X2 hx (hb hby at_19) (q := 21) rfl (l' := #[.val (.int x0), .val (.int x1), .val (.int (0 : Int32)), .val (.ref a_BELOW), .val (.int (1 : Int32)), .unset, .unset, .unset]) rfl ?_
    refine Go.s_aloadN X2 hx (hb hby at_21) (q := 22) rfl rfl rfl ?_
    refine Go.callV (y := mn_2) (z := mn_2) X2 hx hZ hown (w_ hw 7 rfl) (w_ hw 8 rfl) (notFace_of_selects (args := #[]) (mvT hZ (w_ hw 10 rfl))) (w_ hw 10 rfl) (w_ hw 9 rfl) (w_ hw 11 rfl) (w_ hw 5 rfl) (by decide) e2 E_BELOW (argsL := []) (rest := []) (rm_mxa_BELOW l Z a0 hw _ a_BELOW a_ABOVE a_AT_MOST a_AT_LEAST hctx') (by rw [hml]; rfl) (lenOf pd_1 rfl) rfl (hb hby at_22) (by decide) (by decide) (by decide) (Nat.le_of_ble_eq_true rfl) ?_
    intro r3 T3 L3 q3 X3
    obtain ⟨rfl, rfl, e3⟩ := q3
    rw [List.append_nil] at X3
    show Go p e below _ T3 (mkF m 25 #[.val (.int x0), .val (.int x1), .val (.int (0 : Int32)), .val (.ref a_BELOW), .val (.int (1 : Int32)), .unset, .unset, .unset] [(.int (1 : Int32))])
    refine Go.s_istore X3 hx (hb hby at_25) (q := 27) rfl (l' := #[.val (.int x0), .val (.int x1), .val (.int (0 : Int32)), .val (.ref a_BELOW), .val (.int (1 : Int32)), .val (.int (1 : Int32)), .unset, .unset]) rfl ?_
    refine Go.s_iload X3 hx (hb hby at_27) (q := 29) rfl rfl ?_
    refine Go.s_iload X3 hx (hb hby at_29) (q := 31) rfl rfl ?_
    refine Go.s_icmpYes X3 hx (hb hby at_31) (q := 36) (by decide) (by decide) (teq (by decide : (1 : Int32) = (1 : Int32))).1 ?_
    refine Go.s_iconst X3 hx (hb hby at_36) (q := 37) rfl (z := -1) rfl ?_
    refine Go.s_iloadN X3 hx (hb hby at_37) (q := 38) rfl rfl ?_
    refine Go.s_ldc X3 hx (hb hby at_38) (q := 40) rfl hown (mvT hZ (w_ hw 13 rfl)) ?_
    refine Go.s_iand X3 hx (hb hby at_40) (q := 41) rfl ?_
    refine Go.s_isub X3 hx (hb hby at_41) (q := 42) rfl ?_
    refine Go.s_istore X3 hx (hb hby at_42) (q := 44) rfl (l' := #[.val (.int x0), .val (.int x1), .val (.int (0 : Int32)), .val (.ref a_BELOW), .val (.int (1 : Int32)), .val (.int (1 : Int32)), .val (.int ((-1 : Int32) - (x1 &&& (2147483647 : Int32)))), .unset]) rfl ?_
    generalize hv4 : ((-1 : Int32) - (x1 &&& (2147483647 : Int32))) = v4
    refine Go.s_iconst X3 hx (hb hby at_44) (q := 45) rfl (z := 1) rfl ?_
    refine Go.s_iloadN X3 hx (hb hby at_45) (q := 46) rfl rfl ?_
    refine Go.s_ldc X3 hx (hb hby at_46) (q := 48) rfl hown (mvT hZ (w_ hw 14 rfl)) ?_
    refine Go.s_iand X3 hx (hb hby at_48) (q := 49) rfl ?_
    refine Go.s_iadd X3 hx (hb hby at_49) (q := 50) rfl ?_
    refine Go.s_istore X3 hx (hb hby at_50) (q := 52) rfl (l' := #[.val (.int x0), .val (.int x1), .val (.int (0 : Int32)), .val (.ref a_BELOW), .val (.int (1 : Int32)), .val (.int (1 : Int32)), .val (.int v4), .val (.int ((1 : Int32) + (x1 &&& (1073741823 : Int32))))]) rfl ?_
    generalize hv5 : ((1 : Int32) + (x1 &&& (1073741823 : Int32))) = v5
    refine Go.s_aloadN X3 hx (hb hby at_52) (q := 53) rfl rfl rfl ?_
    refine Go.s_iload X3 hx (hb hby at_53) (q := 55) rfl rfl ?_
    refine Go.callV (y := mn_3) (z := mn_3) X3 hx hZ hown (w_ hw 15 rfl) (w_ hw 16 rfl) (notFace_of_selects (args := #[]) (mvT hZ (w_ hw 18 rfl))) (w_ hw 18 rfl) (w_ hw 17 rfl) (w_ hw 19 rfl) (w_ hw 5 rfl) (by decide) e3 E_BELOW (argsL := [(.int v4)]) (rest := []) (rm_hoa_BELOW l Z a0 hw v4 _ a_BELOW a_ABOVE a_AT_MOST a_AT_LEAST hctx') (by rw [hml]; rfl) (lenOf pd_3 rfl) rfl (hb hby at_55) (by decide) (by decide) (by decide) (Nat.le_of_ble_eq_true rfl) ?_
    intro r6 T6 L6 q6 X6
    obtain ⟨w6, rfl, p6, rfl, e6⟩ := q6
    rw [List.append_nil] at X6
    rcases p6 with ⟨u6_0_0, z6⟩ | ⟨u6_1_0, z6⟩
    · -- (1 : Int32)
      subst w6
      show Go p e below _ T6 (mkF m 58 #[.val (.int x0), .val (.int x1), .val (.int (0 : Int32)), .val (.ref a_BELOW), .val (.int (1 : Int32)), .val (.int (1 : Int32)), .val (.int v4), .val (.int v5)] [(.int (1 : Int32))])
      refine Go.s_iload X6 hx (hb hby at_58) (q := 60) rfl rfl ?_
      refine Go.s_icmpNo X6 hx (hb hby at_60) (q := 63) rfl (teq (by decide : (1 : Int32) = (1 : Int32))).2 ?_
      refine Go.s_aloadN X6 hx (hb hby at_63) (q := 64) rfl rfl rfl ?_
      refine Go.s_iload X6 hx (hb hby at_64) (q := 66) rfl rfl ?_
      refine Go.callV (y := mn_3) (z := mn_3) X6 hx hZ hown (w_ hw 15 rfl) (w_ hw 16 rfl) (notFace_of_selects (args := #[]) (mvT hZ (w_ hw 18 rfl))) (w_ hw 18 rfl) (w_ hw 17 rfl) (w_ hw 19 rfl) (w_ hw 5 rfl) (by decide) e6 E_BELOW (argsL := [(.int v5)]) (rest := []) (rm_hoa_BELOW l Z a0 hw v5 _ a_BELOW a_ABOVE a_AT_MOST a_AT_LEAST hctx') (by rw [hml]; rfl) (lenOf pd_3 rfl) rfl (hb hby at_66) (by decide) (by decide) (by decide) (Nat.le_of_ble_eq_true rfl) ?_
      intro r7 T7 L7 q7 X7
      obtain ⟨w7, rfl, p7, rfl, e7⟩ := q7
      rw [List.append_nil] at X7
      rcases p7 with ⟨u7_0_0, z7⟩ | ⟨u7_1_0, z7⟩
      · -- (1 : Int32)
        subst w7
        exfalso
        have t0 := rng32 v5
        have t1 := (by decide : ((0 : Int32)).toInt = 0)
        have t2 := (by decide : ((1 : Int32)).toInt = 1)
        have t3 := rng32 x1
        have t4 := c_mask x1 (1073741823 : Int32) 30 (by decide) (by decide)
        have t5 := c_iadd (1 : Int32) (x1 &&& (1073741823 : Int32))
        have t6 := rng32 ((1 : Int32) + (x1 &&& (1073741823 : Int32)))
        have t7 := Int32.lt_iff_toInt_lt.mp u7_0_0
        have t8 := congrArg Int32.toInt hv5
        omega
      · -- (0 : Int32)
        subst w7
        show Go p e below _ T7 (mkF m 69 #[.val (.int x0), .val (.int x1), .val (.int (0 : Int32)), .val (.ref a_BELOW), .val (.int (1 : Int32)), .val (.int (1 : Int32)), .val (.int v4), .val (.int v5)] [(.int (0 : Int32))])
        refine Go.s_iload X7 hx (hb hby at_69) (q := 71) rfl rfl ?_
        refine Go.s_ifYes X7 hx (hb hby at_71) (q := 78) (by decide) (by decide) ((if0 _ _).trans (feq (by decide : ¬ ((1 : Int32) = (0 : Int32)))).2) ?_
        refine Go.s_iconst X7 hx (hb hby at_78) (q := 79) rfl (z := 0) rfl ?_
        refine Go.s_icmpNo X7 hx (hb hby at_79) (q := 82) rfl (teq (by decide : (0 : Int32) = (0 : Int32))).2 ?_
        refine Go.s_iconst X7 hx (hb hby at_82) (q := 83) rfl (z := 1) rfl ?_
        refine Go.s_goto X7 hx (hb hby at_83) (q := 87) (by decide) (by decide) ?_
        refine Go.retN X7 hx hlk hret (by simp) (hb hby at_87) (by decide) (by decide) ?_
        try rw [e7]
        exact ⟨by decide, rfl⟩
    · -- (0 : Int32)
      subst w6
      exfalso
      have t0 := rng32 v4
      have t1 := (by decide : ((0 : Int32)).toInt = 0)
      have t2 := (by decide : ((-1 : Int32)).toInt = -1)
      have t3 := rng32 x1
      have t4 := c_mask x1 (2147483647 : Int32) 31 (by decide) (by decide)
      have t5 := c_isub (-1 : Int32) (x1 &&& (2147483647 : Int32))
      have t6 := rng32 ((-1 : Int32) - (x1 &&& (2147483647 : Int32)))
      have t7 := mt Int32.lt_iff_toInt_lt.mpr u6_1_0
      have t8 := congrArg Int32.toInt hv4
      omega
  · -- a_AT_MOST
    subst w2
    subst u2_1_1
    show Go p e below _ T2 (mkF m 8 #[.val (.int x0), .val (.int x1), .val (.int (1 : Int32)), .unset, .unset, .unset, .unset, .unset] [(.ref a_AT_MOST)])
    refine Go.s_astoreN X2 hx (hb hby at_8) (q := 9) rfl rfl (l' := #[.val (.int x0), .val (.int x1), .val (.int (1 : Int32)), .val (.ref a_AT_MOST), .unset, .unset, .unset, .unset]) rfl ?_
    refine Go.s_iloadN X2 hx (hb hby at_9) (q := 10) rfl rfl ?_
    refine Go.s_iconst X2 hx (hb hby at_10) (q := 11) rfl (z := 2) rfl ?_
    refine Go.s_icmpNo X2 hx (hb hby at_11) (q := 14) rfl (tlt (by decide : (1 : Int32) < (2 : Int32))).2.1 ?_
    refine Go.s_iconst X2 hx (hb hby at_14) (q := 15) rfl (z := 1) rfl ?_
    refine Go.s_goto X2 hx (hb hby at_15) (q := 19) (by decide) (by decide) ?_
    refine Go.s_istore X2 hx (hb hby at_19) (q := 21) rfl (l' := #[.val (.int x0), .val (.int x1), .val (.int (1 : Int32)), .val (.ref a_AT_MOST), .val (.int (1 : Int32)), .unset, .unset, .unset]) rfl ?_
    refine Go.s_aloadN X2 hx (hb hby at_21) (q := 22) rfl rfl rfl ?_
    refine Go.callV (y := mn_2) (z := mn_2) X2 hx hZ hown (w_ hw 7 rfl) (w_ hw 8 rfl) (notFace_of_selects (args := #[]) (mvT hZ (w_ hw 10 rfl))) (w_ hw 10 rfl) (w_ hw 9 rfl) (w_ hw 11 rfl) (w_ hw 5 rfl) (by decide) e2 E_AT_MOST (argsL := []) (rest := []) (rm_mxa_AT_MOST l Z a0 hw _ a_BELOW a_ABOVE a_AT_MOST a_AT_LEAST hctx') (by rw [hml]; rfl) (lenOf pd_1 rfl) rfl (hb hby at_22) (by decide) (by decide) (by decide) (Nat.le_of_ble_eq_true rfl) ?_
    intro r8 T8 L8 q8 X8
    obtain ⟨rfl, rfl, e8⟩ := q8
    rw [List.append_nil] at X8
    show Go p e below _ T8 (mkF m 25 #[.val (.int x0), .val (.int x1), .val (.int (1 : Int32)), .val (.ref a_AT_MOST), .val (.int (1 : Int32)), .unset, .unset, .unset] [(.int (1 : Int32))])
    refine Go.s_istore X8 hx (hb hby at_25) (q := 27) rfl (l' := #[.val (.int x0), .val (.int x1), .val (.int (1 : Int32)), .val (.ref a_AT_MOST), .val (.int (1 : Int32)), .val (.int (1 : Int32)), .unset, .unset]) rfl ?_
    refine Go.s_iload X8 hx (hb hby at_27) (q := 29) rfl rfl ?_
    refine Go.s_iload X8 hx (hb hby at_29) (q := 31) rfl rfl ?_
    refine Go.s_icmpYes X8 hx (hb hby at_31) (q := 36) (by decide) (by decide) (teq (by decide : (1 : Int32) = (1 : Int32))).1 ?_
    refine Go.s_iconst X8 hx (hb hby at_36) (q := 37) rfl (z := -1) rfl ?_
    refine Go.s_iloadN X8 hx (hb hby at_37) (q := 38) rfl rfl ?_
    refine Go.s_ldc X8 hx (hb hby at_38) (q := 40) rfl hown (mvT hZ (w_ hw 13 rfl)) ?_
    refine Go.s_iand X8 hx (hb hby at_40) (q := 41) rfl ?_
    refine Go.s_isub X8 hx (hb hby at_41) (q := 42) rfl ?_
    refine Go.s_istore X8 hx (hb hby at_42) (q := 44) rfl (l' := #[.val (.int x0), .val (.int x1), .val (.int (1 : Int32)), .val (.ref a_AT_MOST), .val (.int (1 : Int32)), .val (.int (1 : Int32)), .val (.int ((-1 : Int32) - (x1 &&& (2147483647 : Int32)))), .unset]) rfl ?_
    generalize hv9 : ((-1 : Int32) - (x1 &&& (2147483647 : Int32))) = v9
    refine Go.s_iconst X8 hx (hb hby at_44) (q := 45) rfl (z := 1) rfl ?_
    refine Go.s_iloadN X8 hx (hb hby at_45) (q := 46) rfl rfl ?_
    refine Go.s_ldc X8 hx (hb hby at_46) (q := 48) rfl hown (mvT hZ (w_ hw 14 rfl)) ?_
    refine Go.s_iand X8 hx (hb hby at_48) (q := 49) rfl ?_
    refine Go.s_iadd X8 hx (hb hby at_49) (q := 50) rfl ?_
    refine Go.s_istore X8 hx (hb hby at_50) (q := 52) rfl (l' := #[.val (.int x0), .val (.int x1), .val (.int (1 : Int32)), .val (.ref a_AT_MOST), .val (.int (1 : Int32)), .val (.int (1 : Int32)), .val (.int v9), .val (.int ((1 : Int32) + (x1 &&& (1073741823 : Int32))))]) rfl ?_
    generalize hv10 : ((1 : Int32) + (x1 &&& (1073741823 : Int32))) = v10
    refine Go.s_aloadN X8 hx (hb hby at_52) (q := 53) rfl rfl rfl ?_
    refine Go.s_iload X8 hx (hb hby at_53) (q := 55) rfl rfl ?_
    refine Go.callV (y := mn_3) (z := mn_3) X8 hx hZ hown (w_ hw 15 rfl) (w_ hw 16 rfl) (notFace_of_selects (args := #[]) (mvT hZ (w_ hw 18 rfl))) (w_ hw 18 rfl) (w_ hw 17 rfl) (w_ hw 19 rfl) (w_ hw 5 rfl) (by decide) e8 E_AT_MOST (argsL := [(.int v9)]) (rest := []) (rm_hoa_AT_MOST l Z a0 hw v9 _ a_BELOW a_ABOVE a_AT_MOST a_AT_LEAST hctx') (by rw [hml]; rfl) (lenOf pd_3 rfl) rfl (hb hby at_55) (by decide) (by decide) (by decide) (Nat.le_of_ble_eq_true rfl) ?_
    intro r11 T11 L11 q11 X11
    obtain ⟨w11, rfl, p11, rfl, e11⟩ := q11
    rw [List.append_nil] at X11
    rcases p11 with ⟨u11_0_0, z11⟩ | ⟨u11_1_0, z11⟩
    · -- (0 : Int32)
      subst w11
      exfalso
      have t0 := (by decide : ((0 : Int32)).toInt = 0)
      have t1 := rng32 v9
      have t2 := (by decide : ((-1 : Int32)).toInt = -1)
      have t3 := rng32 x1
      have t4 := c_mask x1 (2147483647 : Int32) 31 (by decide) (by decide)
      have t5 := c_isub (-1 : Int32) (x1 &&& (2147483647 : Int32))
      have t6 := rng32 ((-1 : Int32) - (x1 &&& (2147483647 : Int32)))
      have t7 := Int32.lt_iff_toInt_lt.mp u11_0_0
      have t8 := congrArg Int32.toInt hv9
      omega
    · -- (1 : Int32)
      subst w11
      show Go p e below _ T11 (mkF m 58 #[.val (.int x0), .val (.int x1), .val (.int (1 : Int32)), .val (.ref a_AT_MOST), .val (.int (1 : Int32)), .val (.int (1 : Int32)), .val (.int v9), .val (.int v10)] [(.int (1 : Int32))])
      refine Go.s_iload X11 hx (hb hby at_58) (q := 60) rfl rfl ?_
      refine Go.s_icmpNo X11 hx (hb hby at_60) (q := 63) rfl (teq (by decide : (1 : Int32) = (1 : Int32))).2 ?_
      refine Go.s_aloadN X11 hx (hb hby at_63) (q := 64) rfl rfl rfl ?_
      refine Go.s_iload X11 hx (hb hby at_64) (q := 66) rfl rfl ?_
      refine Go.callV (y := mn_3) (z := mn_3) X11 hx hZ hown (w_ hw 15 rfl) (w_ hw 16 rfl) (notFace_of_selects (args := #[]) (mvT hZ (w_ hw 18 rfl))) (w_ hw 18 rfl) (w_ hw 17 rfl) (w_ hw 19 rfl) (w_ hw 5 rfl) (by decide) e11 E_AT_MOST (argsL := [(.int v10)]) (rest := []) (rm_hoa_AT_MOST l Z a0 hw v10 _ a_BELOW a_ABOVE a_AT_MOST a_AT_LEAST hctx') (by rw [hml]; rfl) (lenOf pd_3 rfl) rfl (hb hby at_66) (by decide) (by decide) (by decide) (Nat.le_of_ble_eq_true rfl) ?_
      intro r12 T12 L12 q12 X12
      obtain ⟨w12, rfl, p12, rfl, e12⟩ := q12
      rw [List.append_nil] at X12
      rcases p12 with ⟨u12_0_0, z12⟩ | ⟨u12_1_0, z12⟩
      · -- (0 : Int32)
        subst w12
        show Go p e below _ T12 (mkF m 69 #[.val (.int x0), .val (.int x1), .val (.int (1 : Int32)), .val (.ref a_AT_MOST), .val (.int (1 : Int32)), .val (.int (1 : Int32)), .val (.int v9), .val (.int v10)] [(.int (0 : Int32))])
        refine Go.s_iload X12 hx (hb hby at_69) (q := 71) rfl rfl ?_
        refine Go.s_ifYes X12 hx (hb hby at_71) (q := 78) (by decide) (by decide) ((if0 _ _).trans (feq (by decide : ¬ ((1 : Int32) = (0 : Int32)))).2) ?_
        refine Go.s_iconst X12 hx (hb hby at_78) (q := 79) rfl (z := 0) rfl ?_
        refine Go.s_icmpNo X12 hx (hb hby at_79) (q := 82) rfl (teq (by decide : (0 : Int32) = (0 : Int32))).2 ?_
        refine Go.s_iconst X12 hx (hb hby at_82) (q := 83) rfl (z := 1) rfl ?_
        refine Go.s_goto X12 hx (hb hby at_83) (q := 87) (by decide) (by decide) ?_
        refine Go.retN X12 hx hlk hret (by simp) (hb hby at_87) (by decide) (by decide) ?_
        try rw [e12]
        exact ⟨by decide, rfl⟩
      · -- (1 : Int32)
        subst w12
        exfalso
        have t0 := (by decide : ((0 : Int32)).toInt = 0)
        have t1 := rng32 v10
        have t2 := (by decide : ((1 : Int32)).toInt = 1)
        have t3 := rng32 x1
        have t4 := c_mask x1 (1073741823 : Int32) 30 (by decide) (by decide)
        have t5 := c_iadd (1 : Int32) (x1 &&& (1073741823 : Int32))
        have t6 := rng32 ((1 : Int32) + (x1 &&& (1073741823 : Int32)))
        have t7 := mt Int32.lt_iff_toInt_lt.mpr u12_1_0
        have t8 := congrArg Int32.toInt hv10
        omega
  · -- a_ABOVE
    subst w2
    subst u2_2_2
    show Go p e below _ T2 (mkF m 8 #[.val (.int x0), .val (.int x1), .val (.int (2 : Int32)), .unset, .unset, .unset, .unset, .unset] [(.ref a_ABOVE)])
    refine Go.s_astoreN X2 hx (hb hby at_8) (q := 9) rfl rfl (l' := #[.val (.int x0), .val (.int x1), .val (.int (2 : Int32)), .val (.ref a_ABOVE), .unset, .unset, .unset, .unset]) rfl ?_
    refine Go.s_iloadN X2 hx (hb hby at_9) (q := 10) rfl rfl ?_
    refine Go.s_iconst X2 hx (hb hby at_10) (q := 11) rfl (z := 2) rfl ?_
    refine Go.s_icmpYes X2 hx (hb hby at_11) (q := 18) (by decide) (by decide) (flt (by decide : ¬ ((2 : Int32) < (2 : Int32)))).2.1 ?_
    refine Go.s_iconst X2 hx (hb hby at_18) (q := 19) rfl (z := 0) rfl ?_
    refine Go.s_istore X2 hx (hb hby at_19) (q := 21) rfl (l' := #[.val (.int x0), .val (.int x1), .val (.int (2 : Int32)), .val (.ref a_ABOVE), .val (.int (0 : Int32)), .unset, .unset, .unset]) rfl ?_
    refine Go.s_aloadN X2 hx (hb hby at_21) (q := 22) rfl rfl rfl ?_
    refine Go.callV (y := mn_2) (z := mn_2) X2 hx hZ hown (w_ hw 7 rfl) (w_ hw 8 rfl) (notFace_of_selects (args := #[]) (mvT hZ (w_ hw 10 rfl))) (w_ hw 10 rfl) (w_ hw 9 rfl) (w_ hw 11 rfl) (w_ hw 5 rfl) (by decide) e2 E_ABOVE (argsL := []) (rest := []) (rm_mxa_ABOVE l Z a0 hw _ a_BELOW a_ABOVE a_AT_MOST a_AT_LEAST hctx') (by rw [hml]; rfl) (lenOf pd_1 rfl) rfl (hb hby at_22) (by decide) (by decide) (by decide) (Nat.le_of_ble_eq_true rfl) ?_
    intro r13 T13 L13 q13 X13
    obtain ⟨rfl, rfl, e13⟩ := q13
    rw [List.append_nil] at X13
    show Go p e below _ T13 (mkF m 25 #[.val (.int x0), .val (.int x1), .val (.int (2 : Int32)), .val (.ref a_ABOVE), .val (.int (0 : Int32)), .unset, .unset, .unset] [(.int (0 : Int32))])
    refine Go.s_istore X13 hx (hb hby at_25) (q := 27) rfl (l' := #[.val (.int x0), .val (.int x1), .val (.int (2 : Int32)), .val (.ref a_ABOVE), .val (.int (0 : Int32)), .val (.int (0 : Int32)), .unset, .unset]) rfl ?_
    refine Go.s_iload X13 hx (hb hby at_27) (q := 29) rfl rfl ?_
    refine Go.s_iload X13 hx (hb hby at_29) (q := 31) rfl rfl ?_
    refine Go.s_icmpYes X13 hx (hb hby at_31) (q := 36) (by decide) (by decide) (teq (by decide : (0 : Int32) = (0 : Int32))).1 ?_
    refine Go.s_iconst X13 hx (hb hby at_36) (q := 37) rfl (z := -1) rfl ?_
    refine Go.s_iloadN X13 hx (hb hby at_37) (q := 38) rfl rfl ?_
    refine Go.s_ldc X13 hx (hb hby at_38) (q := 40) rfl hown (mvT hZ (w_ hw 13 rfl)) ?_
    refine Go.s_iand X13 hx (hb hby at_40) (q := 41) rfl ?_
    refine Go.s_isub X13 hx (hb hby at_41) (q := 42) rfl ?_
    refine Go.s_istore X13 hx (hb hby at_42) (q := 44) rfl (l' := #[.val (.int x0), .val (.int x1), .val (.int (2 : Int32)), .val (.ref a_ABOVE), .val (.int (0 : Int32)), .val (.int (0 : Int32)), .val (.int ((-1 : Int32) - (x1 &&& (2147483647 : Int32)))), .unset]) rfl ?_
    generalize hv14 : ((-1 : Int32) - (x1 &&& (2147483647 : Int32))) = v14
    refine Go.s_iconst X13 hx (hb hby at_44) (q := 45) rfl (z := 1) rfl ?_
    refine Go.s_iloadN X13 hx (hb hby at_45) (q := 46) rfl rfl ?_
    refine Go.s_ldc X13 hx (hb hby at_46) (q := 48) rfl hown (mvT hZ (w_ hw 14 rfl)) ?_
    refine Go.s_iand X13 hx (hb hby at_48) (q := 49) rfl ?_
    refine Go.s_iadd X13 hx (hb hby at_49) (q := 50) rfl ?_
    refine Go.s_istore X13 hx (hb hby at_50) (q := 52) rfl (l' := #[.val (.int x0), .val (.int x1), .val (.int (2 : Int32)), .val (.ref a_ABOVE), .val (.int (0 : Int32)), .val (.int (0 : Int32)), .val (.int v14), .val (.int ((1 : Int32) + (x1 &&& (1073741823 : Int32))))]) rfl ?_
    generalize hv15 : ((1 : Int32) + (x1 &&& (1073741823 : Int32))) = v15
    refine Go.s_aloadN X13 hx (hb hby at_52) (q := 53) rfl rfl rfl ?_
    refine Go.s_iload X13 hx (hb hby at_53) (q := 55) rfl rfl ?_
    refine Go.callV (y := mn_3) (z := mn_3) X13 hx hZ hown (w_ hw 15 rfl) (w_ hw 16 rfl) (notFace_of_selects (args := #[]) (mvT hZ (w_ hw 18 rfl))) (w_ hw 18 rfl) (w_ hw 17 rfl) (w_ hw 19 rfl) (w_ hw 5 rfl) (by decide) e13 E_ABOVE (argsL := [(.int v14)]) (rest := []) (rm_hoa_ABOVE l Z a0 hw v14 _ a_BELOW a_ABOVE a_AT_MOST a_AT_LEAST hctx') (by rw [hml]; rfl) (lenOf pd_3 rfl) rfl (hb hby at_55) (by decide) (by decide) (by decide) (Nat.le_of_ble_eq_true rfl) ?_
    intro r16 T16 L16 q16 X16
    obtain ⟨w16, rfl, p16, rfl, e16⟩ := q16
    rw [List.append_nil] at X16
    rcases p16 with ⟨u16_0_0, z16⟩ | ⟨u16_1_0, z16⟩
    · -- (1 : Int32)
      subst w16
      exfalso
      have t0 := (by decide : ((0 : Int32)).toInt = 0)
      have t1 := rng32 v14
      have t2 := (by decide : ((-1 : Int32)).toInt = -1)
      have t3 := rng32 x1
      have t4 := c_mask x1 (2147483647 : Int32) 31 (by decide) (by decide)
      have t5 := c_isub (-1 : Int32) (x1 &&& (2147483647 : Int32))
      have t6 := rng32 ((-1 : Int32) - (x1 &&& (2147483647 : Int32)))
      have t7 := Int32.lt_iff_toInt_lt.mp u16_0_0
      have t8 := congrArg Int32.toInt hv14
      omega
    · -- (0 : Int32)
      subst w16
      show Go p e below _ T16 (mkF m 58 #[.val (.int x0), .val (.int x1), .val (.int (2 : Int32)), .val (.ref a_ABOVE), .val (.int (0 : Int32)), .val (.int (0 : Int32)), .val (.int v14), .val (.int v15)] [(.int (0 : Int32))])
      refine Go.s_iload X16 hx (hb hby at_58) (q := 60) rfl rfl ?_
      refine Go.s_icmpNo X16 hx (hb hby at_60) (q := 63) rfl (teq (by decide : (0 : Int32) = (0 : Int32))).2 ?_
      refine Go.s_aloadN X16 hx (hb hby at_63) (q := 64) rfl rfl rfl ?_
      refine Go.s_iload X16 hx (hb hby at_64) (q := 66) rfl rfl ?_
      refine Go.callV (y := mn_3) (z := mn_3) X16 hx hZ hown (w_ hw 15 rfl) (w_ hw 16 rfl) (notFace_of_selects (args := #[]) (mvT hZ (w_ hw 18 rfl))) (w_ hw 18 rfl) (w_ hw 17 rfl) (w_ hw 19 rfl) (w_ hw 5 rfl) (by decide) e16 E_ABOVE (argsL := [(.int v15)]) (rest := []) (rm_hoa_ABOVE l Z a0 hw v15 _ a_BELOW a_ABOVE a_AT_MOST a_AT_LEAST hctx') (by rw [hml]; rfl) (lenOf pd_3 rfl) rfl (hb hby at_66) (by decide) (by decide) (by decide) (Nat.le_of_ble_eq_true rfl) ?_
      intro r17 T17 L17 q17 X17
      obtain ⟨w17, rfl, p17, rfl, e17⟩ := q17
      rw [List.append_nil] at X17
      rcases p17 with ⟨u17_0_0, z17⟩ | ⟨u17_1_0, z17⟩
      · -- (1 : Int32)
        subst w17
        show Go p e below _ T17 (mkF m 69 #[.val (.int x0), .val (.int x1), .val (.int (2 : Int32)), .val (.ref a_ABOVE), .val (.int (0 : Int32)), .val (.int (0 : Int32)), .val (.int v14), .val (.int v15)] [(.int (1 : Int32))])
        refine Go.s_iload X17 hx (hb hby at_69) (q := 71) rfl rfl ?_
        refine Go.s_ifNo X17 hx (hb hby at_71) (q := 74) rfl ((if0 _ _).trans (teq (by decide : (0 : Int32) = (0 : Int32))).2) ?_
        refine Go.s_iconst X17 hx (hb hby at_74) (q := 75) rfl (z := 1) rfl ?_
        refine Go.s_goto X17 hx (hb hby at_75) (q := 79) (by decide) (by decide) ?_
        refine Go.s_icmpNo X17 hx (hb hby at_79) (q := 82) rfl (teq (by decide : (1 : Int32) = (1 : Int32))).2 ?_
        refine Go.s_iconst X17 hx (hb hby at_82) (q := 83) rfl (z := 1) rfl ?_
        refine Go.s_goto X17 hx (hb hby at_83) (q := 87) (by decide) (by decide) ?_
        refine Go.retN X17 hx hlk hret (by simp) (hb hby at_87) (by decide) (by decide) ?_
        try rw [e17]
        exact ⟨by decide, rfl⟩
      · -- (0 : Int32)
        subst w17
        exfalso
        have t0 := (by decide : ((0 : Int32)).toInt = 0)
        have t1 := rng32 v15
        have t2 := (by decide : ((1 : Int32)).toInt = 1)
        have t3 := rng32 x1
        have t4 := c_mask x1 (1073741823 : Int32) 30 (by decide) (by decide)
        have t5 := c_iadd (1 : Int32) (x1 &&& (1073741823 : Int32))
        have t6 := rng32 ((1 : Int32) + (x1 &&& (1073741823 : Int32)))
        have t7 := mt Int32.lt_iff_toInt_lt.mpr u17_1_0
        have t8 := congrArg Int32.toInt hv15
        omega
  · -- a_AT_LEAST
    subst w2
    have u3 : v1 = (3 : Int32) := by
      apply Int32.toInt_inj.mp
      have t0 := rng32 v1
      have t1 := (by decide : ((0 : Int32)).toInt = 0)
      have t2 := (by decide : ((1 : Int32)).toInt = 1)
      have t3 := (by decide : ((2 : Int32)).toInt = 2)
      have t4 := rng32 x0
      have t5 := c_mask x0 (3 : Int32) 2 (by decide) (by decide)
      have t6 := mt Int32.toInt_inj.mp u2_3_0
      have t7 := mt Int32.toInt_inj.mp u2_3_1
      have t8 := mt Int32.toInt_inj.mp u2_3_2
      have t9 := congrArg Int32.toInt hv1
      have t10 := (by decide : (3 : Int32).toInt = 3)
      omega
    subst u3
    show Go p e below _ T2 (mkF m 8 #[.val (.int x0), .val (.int x1), .val (.int (3 : Int32)), .unset, .unset, .unset, .unset, .unset] [(.ref a_AT_LEAST)])
    refine Go.s_astoreN X2 hx (hb hby at_8) (q := 9) rfl rfl (l' := #[.val (.int x0), .val (.int x1), .val (.int (3 : Int32)), .val (.ref a_AT_LEAST), .unset, .unset, .unset, .unset]) rfl ?_
    refine Go.s_iloadN X2 hx (hb hby at_9) (q := 10) rfl rfl ?_
    refine Go.s_iconst X2 hx (hb hby at_10) (q := 11) rfl (z := 2) rfl ?_
    refine Go.s_icmpYes X2 hx (hb hby at_11) (q := 18) (by decide) (by decide) (flt (by decide : ¬ ((3 : Int32) < (2 : Int32)))).2.1 ?_
    refine Go.s_iconst X2 hx (hb hby at_18) (q := 19) rfl (z := 0) rfl ?_
    refine Go.s_istore X2 hx (hb hby at_19) (q := 21) rfl (l' := #[.val (.int x0), .val (.int x1), .val (.int (3 : Int32)), .val (.ref a_AT_LEAST), .val (.int (0 : Int32)), .unset, .unset, .unset]) rfl ?_
    refine Go.s_aloadN X2 hx (hb hby at_21) (q := 22) rfl rfl rfl ?_
    refine Go.callV (y := mn_2) (z := mn_2) X2 hx hZ hown (w_ hw 7 rfl) (w_ hw 8 rfl) (notFace_of_selects (args := #[]) (mvT hZ (w_ hw 10 rfl))) (w_ hw 10 rfl) (w_ hw 9 rfl) (w_ hw 11 rfl) (w_ hw 5 rfl) (by decide) e2 E_AT_LEAST (argsL := []) (rest := []) (rm_mxa_AT_LEAST l Z a0 hw _ a_BELOW a_ABOVE a_AT_MOST a_AT_LEAST hctx') (by rw [hml]; rfl) (lenOf pd_1 rfl) rfl (hb hby at_22) (by decide) (by decide) (by decide) (Nat.le_of_ble_eq_true rfl) ?_
    intro r18 T18 L18 q18 X18
    obtain ⟨rfl, rfl, e18⟩ := q18
    rw [List.append_nil] at X18
    show Go p e below _ T18 (mkF m 25 #[.val (.int x0), .val (.int x1), .val (.int (3 : Int32)), .val (.ref a_AT_LEAST), .val (.int (0 : Int32)), .unset, .unset, .unset] [(.int (0 : Int32))])
    refine Go.s_istore X18 hx (hb hby at_25) (q := 27) rfl (l' := #[.val (.int x0), .val (.int x1), .val (.int (3 : Int32)), .val (.ref a_AT_LEAST), .val (.int (0 : Int32)), .val (.int (0 : Int32)), .unset, .unset]) rfl ?_
    refine Go.s_iload X18 hx (hb hby at_27) (q := 29) rfl rfl ?_
    refine Go.s_iload X18 hx (hb hby at_29) (q := 31) rfl rfl ?_
    refine Go.s_icmpYes X18 hx (hb hby at_31) (q := 36) (by decide) (by decide) (teq (by decide : (0 : Int32) = (0 : Int32))).1 ?_
    refine Go.s_iconst X18 hx (hb hby at_36) (q := 37) rfl (z := -1) rfl ?_
    refine Go.s_iloadN X18 hx (hb hby at_37) (q := 38) rfl rfl ?_
    refine Go.s_ldc X18 hx (hb hby at_38) (q := 40) rfl hown (mvT hZ (w_ hw 13 rfl)) ?_
    refine Go.s_iand X18 hx (hb hby at_40) (q := 41) rfl ?_
    refine Go.s_isub X18 hx (hb hby at_41) (q := 42) rfl ?_
    refine Go.s_istore X18 hx (hb hby at_42) (q := 44) rfl (l' := #[.val (.int x0), .val (.int x1), .val (.int (3 : Int32)), .val (.ref a_AT_LEAST), .val (.int (0 : Int32)), .val (.int (0 : Int32)), .val (.int ((-1 : Int32) - (x1 &&& (2147483647 : Int32)))), .unset]) rfl ?_
    generalize hv19 : ((-1 : Int32) - (x1 &&& (2147483647 : Int32))) = v19
    refine Go.s_iconst X18 hx (hb hby at_44) (q := 45) rfl (z := 1) rfl ?_
    refine Go.s_iloadN X18 hx (hb hby at_45) (q := 46) rfl rfl ?_
    refine Go.s_ldc X18 hx (hb hby at_46) (q := 48) rfl hown (mvT hZ (w_ hw 14 rfl)) ?_
    refine Go.s_iand X18 hx (hb hby at_48) (q := 49) rfl ?_
    refine Go.s_iadd X18 hx (hb hby at_49) (q := 50) rfl ?_
    refine Go.s_istore X18 hx (hb hby at_50) (q := 52) rfl (l' := #[.val (.int x0), .val (.int x1), .val (.int (3 : Int32)), .val (.ref a_AT_LEAST), .val (.int (0 : Int32)), .val (.int (0 : Int32)), .val (.int v19), .val (.int ((1 : Int32) + (x1 &&& (1073741823 : Int32))))]) rfl ?_
    generalize hv20 : ((1 : Int32) + (x1 &&& (1073741823 : Int32))) = v20
    refine Go.s_aloadN X18 hx (hb hby at_52) (q := 53) rfl rfl rfl ?_
    refine Go.s_iload X18 hx (hb hby at_53) (q := 55) rfl rfl ?_
    refine Go.callV (y := mn_3) (z := mn_3) X18 hx hZ hown (w_ hw 15 rfl) (w_ hw 16 rfl) (notFace_of_selects (args := #[]) (mvT hZ (w_ hw 18 rfl))) (w_ hw 18 rfl) (w_ hw 17 rfl) (w_ hw 19 rfl) (w_ hw 5 rfl) (by decide) e18 E_AT_LEAST (argsL := [(.int v19)]) (rest := []) (rm_hoa_AT_LEAST l Z a0 hw v19 _ a_BELOW a_ABOVE a_AT_MOST a_AT_LEAST hctx') (by rw [hml]; rfl) (lenOf pd_3 rfl) rfl (hb hby at_55) (by decide) (by decide) (by decide) (Nat.le_of_ble_eq_true rfl) ?_
    intro r21 T21 L21 q21 X21
    obtain ⟨w21, rfl, p21, rfl, e21⟩ := q21
    rw [List.append_nil] at X21
    rcases p21 with ⟨u21_0_0, z21⟩ | ⟨u21_1_0, z21⟩
    · -- (0 : Int32)
      subst w21
      show Go p e below _ T21 (mkF m 58 #[.val (.int x0), .val (.int x1), .val (.int (3 : Int32)), .val (.ref a_AT_LEAST), .val (.int (0 : Int32)), .val (.int (0 : Int32)), .val (.int v19), .val (.int v20)] [(.int (0 : Int32))])
      refine Go.s_iload X21 hx (hb hby at_58) (q := 60) rfl rfl ?_
      refine Go.s_icmpNo X21 hx (hb hby at_60) (q := 63) rfl (teq (by decide : (0 : Int32) = (0 : Int32))).2 ?_
      refine Go.s_aloadN X21 hx (hb hby at_63) (q := 64) rfl rfl rfl ?_
      refine Go.s_iload X21 hx (hb hby at_64) (q := 66) rfl rfl ?_
      refine Go.callV (y := mn_3) (z := mn_3) X21 hx hZ hown (w_ hw 15 rfl) (w_ hw 16 rfl) (notFace_of_selects (args := #[]) (mvT hZ (w_ hw 18 rfl))) (w_ hw 18 rfl) (w_ hw 17 rfl) (w_ hw 19 rfl) (w_ hw 5 rfl) (by decide) e21 E_AT_LEAST (argsL := [(.int v20)]) (rest := []) (rm_hoa_AT_LEAST l Z a0 hw v20 _ a_BELOW a_ABOVE a_AT_MOST a_AT_LEAST hctx') (by rw [hml]; rfl) (lenOf pd_3 rfl) rfl (hb hby at_66) (by decide) (by decide) (by decide) (Nat.le_of_ble_eq_true rfl) ?_
      intro r22 T22 L22 q22 X22
      obtain ⟨w22, rfl, p22, rfl, e22⟩ := q22
      rw [List.append_nil] at X22
      rcases p22 with ⟨u22_0_0, z22⟩ | ⟨u22_1_0, z22⟩
      · -- (0 : Int32)
        subst w22
        exfalso
        have t0 := rng32 v20
        have t1 := (by decide : ((0 : Int32)).toInt = 0)
        have t2 := (by decide : ((1 : Int32)).toInt = 1)
        have t3 := rng32 x1
        have t4 := c_mask x1 (1073741823 : Int32) 30 (by decide) (by decide)
        have t5 := c_iadd (1 : Int32) (x1 &&& (1073741823 : Int32))
        have t6 := rng32 ((1 : Int32) + (x1 &&& (1073741823 : Int32)))
        have t7 := Int32.lt_iff_toInt_lt.mp u22_0_0
        have t8 := congrArg Int32.toInt hv20
        omega
      · -- (1 : Int32)
        subst w22
        show Go p e below _ T22 (mkF m 69 #[.val (.int x0), .val (.int x1), .val (.int (3 : Int32)), .val (.ref a_AT_LEAST), .val (.int (0 : Int32)), .val (.int (0 : Int32)), .val (.int v19), .val (.int v20)] [(.int (1 : Int32))])
        refine Go.s_iload X22 hx (hb hby at_69) (q := 71) rfl rfl ?_
        refine Go.s_ifNo X22 hx (hb hby at_71) (q := 74) rfl ((if0 _ _).trans (teq (by decide : (0 : Int32) = (0 : Int32))).2) ?_
        refine Go.s_iconst X22 hx (hb hby at_74) (q := 75) rfl (z := 1) rfl ?_
        refine Go.s_goto X22 hx (hb hby at_75) (q := 79) (by decide) (by decide) ?_
        refine Go.s_icmpNo X22 hx (hb hby at_79) (q := 82) rfl (teq (by decide : (1 : Int32) = (1 : Int32))).2 ?_
        refine Go.s_iconst X22 hx (hb hby at_82) (q := 83) rfl (z := 1) rfl ?_
        refine Go.s_goto X22 hx (hb hby at_83) (q := 87) (by decide) (by decide) ?_
        refine Go.retN X22 hx hlk hret (by simp) (hb hby at_87) (by decide) (by decide) ?_
        try rw [e22]
        exact ⟨by decide, rfl⟩
    · -- (1 : Int32)
      subst w21
      exfalso
      have t0 := rng32 v19
      have t1 := (by decide : ((0 : Int32)).toInt = 0)
      have t2 := (by decide : ((-1 : Int32)).toInt = -1)
      have t3 := rng32 x1
      have t4 := c_mask x1 (2147483647 : Int32) 31 (by decide) (by decide)
      have t5 := c_isub (-1 : Int32) (x1 &&& (2147483647 : Int32))
      have t6 := rng32 ((-1 : Int32) - (x1 &&& (2147483647 : Int32)))
      have t7 := mt Int32.lt_iff_toInt_lt.mpr u21_1_0
      have t8 := congrArg Int32.toInt hv19
      omega
set_option maxRecDepth 65536 in
set_option maxHeartbeats 40000000 in
theorem comes_1 {Post : Tables → Env → Array Value → State → Outcome → State → Prop} (hpost : ∀ tb e args s v u, (limb_1_1.after args s (.returned v) u = true ∧ limb_1_2.after args s (.returned v) u = true ∧ True) → FrameEnd s (.returned v) u (Jvm.fieldLocs frame_1_writes args s ++ Jvm.arrayLocs frame_1_arrays args s ++ Jvm.staticLocs frame_1_statics s) 0 0 → Post tb e args s (.returned v) u) :
    ArmFor flags0 classFile x code maxLocals ret World_1 tables_1 room_1 Calls_1 rest_1 Pre_1 Post := by
  intro l hfl _ _ p e ha hc hk s m args below hf hA hF happ hP
  obtain ⟨hcalls, hrest, hpre⟩ := hP
  obtain ⟨-, -, -, hnamed, -, -, -, hat⟩ := (Spec.applies_iff hf).mp happ
  obtain ⟨hg, hn⟩ := and_e (Cond.before_iff.mp (show (Jvm.Cond.and given_1 narrow_1).before args s = true from hpre))
  obtain ⟨hgl, hgr⟩ := and_e hg
  obtain ⟨hgrl, hgrr⟩ := and_e hgr
  obtain ⟨w0, w1, rfl⟩ : ∃ w0 w1 : Value, args = #[w0, w1] := by
    have hs : args.size = 2 := by simpa [Cond.value, given_1] using hgl
    obtain ⟨L⟩ := args
    match L, hs with
    | [w0, w1], _ => exact ⟨w0, w1, rfl⟩
  have hw := fun d (hd : d ∈ tables_1) => atoms_spec (ws := Jvm.Cond.code x code maxLocals ret :: tables_1) hat d (List.mem_cons_of_mem _ hd)
  obtain ⟨i0, ev0⟩ := is_v hgrl
  obtain rfl : w0 = (.int i0) := Option.some.inj ev0
  obtain ⟨i1, ev1⟩ := is_v hgrr
  obtain rfl : w1 = (.int i1) := Option.some.inj ev1
  obtain ⟨hnl, hnr⟩ := and_e hn
  obtain ⟨hnrl, hnrr⟩ := and_e hnr
  obtain ⟨hnrrl, hnrrr⟩ := and_e hnrr
  obtain ⟨hnrrrl, hnrrrr⟩ := and_e hnrrr
  obtain ⟨hnrrrrl, hnrrrrr⟩ := and_e hnrrrr
  obtain ⟨hnrrrrrl, hnrrrrrr⟩ := and_e hnrrrrr
  obtain ⟨hnrrrrrrl, hnrrrrrrr⟩ := and_e hnrrrrrr
  obtain ⟨a_BELOW, ea_BELOW⟩ := exa_v hnl
  have S_BELOW := Sta.start ea_BELOW (Or.inr ⟨(w_ hw 5 rfl), (w_ hw 6 rfl)⟩)
  have E_BELOW := Exa.start ea_BELOW hnl
  obtain ⟨a_ABOVE, ea_ABOVE⟩ := exa_v hnrrl
  have S_ABOVE := Sta.start ea_ABOVE (Or.inr ⟨(w_ hw 5 rfl), (w_ hw 30 rfl)⟩)
  have E_ABOVE := Exa.start ea_ABOVE hnrrl
  obtain ⟨a_AT_MOST, ea_AT_MOST⟩ := exa_v hnrrrrl
  have S_AT_MOST := Sta.start ea_AT_MOST (Or.inr ⟨(w_ hw 5 rfl), (w_ hw 32 rfl)⟩)
  have E_AT_MOST := Exa.start ea_AT_MOST hnrrrrl
  obtain ⟨a_AT_LEAST, ea_AT_LEAST⟩ := exa_v hnrrrrrrl
  have S_AT_LEAST := Sta.start ea_AT_LEAST (Or.inr ⟨(w_ hw 5 rfl), (w_ hw 35 rfl)⟩)
  have E_AT_LEAST := Exa.start ea_AT_LEAST hnrrrrrrl
  have F_BELOW_ordinal := fldI ea_BELOW hnrl
  have F_ABOVE_ordinal := fldI ea_ABOVE hnrrrl
  have F_AT_MOST_ordinal := fldI ea_AT_MOST hnrrrrrl
  have F_AT_LEAST_ordinal := fldI ea_AT_LEAST hnrrrrrrr
  have ne_BELOW_ABOVE : ¬ a_BELOW = a_ABOVE := Fld.ne F_BELOW_ordinal F_ABOVE_ordinal (fun q => absurd (Value.int.inj q) (by decide))
  have ne_BELOW_AT_MOST : ¬ a_BELOW = a_AT_MOST := Fld.ne F_BELOW_ordinal F_AT_MOST_ordinal (fun q => absurd (Value.int.inj q) (by decide))
  have ne_BELOW_AT_LEAST : ¬ a_BELOW = a_AT_LEAST := Fld.ne F_BELOW_ordinal F_AT_LEAST_ordinal (fun q => absurd (Value.int.inj q) (by decide))
  have ne_ABOVE_AT_MOST : ¬ a_ABOVE = a_AT_MOST := Fld.ne F_ABOVE_ordinal F_AT_MOST_ordinal (fun q => absurd (Value.int.inj q) (by decide))
  have ne_ABOVE_AT_LEAST : ¬ a_ABOVE = a_AT_LEAST := Fld.ne F_ABOVE_ordinal F_AT_LEAST_ordinal (fun q => absurd (Value.int.inj q) (by decide))
  have ne_AT_MOST_AT_LEAST : ¬ a_AT_MOST = a_AT_LEAST := Fld.ne F_AT_MOST_ordinal F_AT_LEAST_ordinal (fun q => absurd (Value.int.inj q) (by decide))
  have hctx : Ctx s s.heap a_BELOW a_ABOVE a_AT_MOST a_AT_LEAST := ⟨S_BELOW, S_ABOVE, S_AT_MOST, S_AT_LEAST, E_BELOW, E_ABOVE, E_AT_MOST, E_AT_LEAST, F_BELOW_ordinal, F_ABOVE_ordinal, F_AT_MOST_ordinal, F_AT_LEAST_ordinal, ne_BELOW_ABOVE, ne_BELOW_AT_MOST, ne_BELOW_AT_LEAST, ne_ABOVE_AT_MOST, ne_ABOVE_AT_LEAST, ne_AT_MOST_AT_LEAST⟩
  obtain ⟨n, o, h1, h2, h3, _, L, rfl, ⟨rfl, rfl⟩, hq⟩ := rm_law l s _ hw i0 i1 s.heap a_BELOW a_ABOVE a_AT_MOST a_AT_LEAST hctx tables_1 p e ha hc hk s m _ below hf ((Spec.applies_iff_loose hf).mp happ).1 ⟨rfl, State.Warmed39.refl s, rfl⟩ trivial
  refine ⟨n, _, h1, h2, h3, hpost _ _ _ _ _ _ ⟨Cond.after_iff.mpr rfl, Cond.after_iff.mpr (eq_i res_at (Term.int_eval (1)) rfl), trivial⟩ ⟨hq.1, hq.2.1, (hq.2.2.sift fun y hy => nomatch hy).mono (by decide) (by decide)⟩⟩
theorem main_1_1 : Claimed_1_1 := comes_1 fun _ _ _ _ _ _ h hF => ⟨h.1, hF⟩
theorem main_1_2 : Claimed_1_2 := comes_1 fun _ _ _ _ _ _ h hF => ⟨h.2.1, hF⟩
end Jvm.Pilot.@@N@@
namespace Jvm.Pilot.@@N@@
open Jvm Jvm.ClassFile Sem Op Lib Jvm.Free Jvm.Stand Jvm.Pilot.@@N@@.Jvm.D
/-! MADE BY PROGRAM (witnessworld.py) out of the Statement's table words and the real class files: 12 classes; the members and pool entries that the words name. The judged class is class 1, her method 2. -/
namespace start1
open Jvm.ClassFile
def u (s : String) : CpInfo := .utf8 (stringToUtf16 s)
/-- a pool by its gaps: so many unusable entries, then the entry; so many at the end -/
def gap : Nat → List CpInfo → List CpInfo
  | 0, r => r
  | n + 1, r => .unusable :: gap n r
def poolList (es : List (Nat × CpInfo)) (last : Nat) : List CpInfo := es.foldr (fun e r => gap e.1 (e.2 :: r)) (gap last [])
def pool (es : List (Nat × CpInfo)) (last : Nat) : Array CpInfo := ⟨poolList es last⟩
def fileOf (pool : Array CpInfo) (this : Nat) (attrs : Array Attribute := #[]) (ms : Array MethodInfo := #[]) (fl : Nat := 33) (sup : Nat := 0) (ifs : Array Nat := #[]) (fds : Array FieldInfo := #[]) : ClassFile where
  minorVersion := 0
  majorVersion := 65
  constantPool := pool
  accessFlags := fl
  thisClass := this
  superClass := sup
  interfaces := ifs
  fields := fds
  methods := ms
  attributes := attrs
def plain (name : String) (sup : Option ClassId) : Class where
  name := name
  kind := .ordinary
  loader := none
  accessFlags := 33
  super := sup
  interfaces := #[]
  cf := none
  fields := #[]
  methods := #[]
  instanceTypes := #[]
  staticTypes := #[]
  resolved := #[]
  callSites := []
  init := .initialized
  statics := none
  mirror := none

def pool0 : Array CpInfo := pool [(5, u "<init>"), (0, u "()V"), (1, .class_ 10), (1, u "java/lang/Object")] 113

def k0m0 : Method := { name := "<init>", desc := "()V", sig := { parameters := [], returnType := none }, accessFlags := 1, code := none }
/-- java/lang/Object -/
def k0 : Class := { plain "java/lang/Object" none with
  accessFlags := 33
  interfaces := #[]
  cf := some (fileOf pool0 8 #[] #[{ accessFlags := 1, nameIndex := 5, descriptorIndex := 6, attributes := #[] }] 33 0 #[] #[])
  fields := #[]
  methods := #[k0m0]
  instanceTypes := #[]
  staticTypes := #[]
  resolved := Array.replicate 124 none
  statics := none }

def pool1 : Array CpInfo := pool [(2, .class_ 4), (1, u "java/lang/Object"), (0, u "<init>"), (0, u "()V"), (0, .fieldref 8 9), (0, .class_ 10), (0, .nameAndType 11 12), (0, u "com/example/fencerow/fencerow/Sign"), (0, u "BELOW"), (0, u "Lcom/example/fencerow/fencerow/Sign;"), (0, .fieldref 8 14), (0, .nameAndType 15 12), (0, u "AT_MOST"), (0, .fieldref 8 17), (0, .nameAndType 18 12), (0, u "ABOVE"), (0, .fieldref 8 20), (0, .nameAndType 21 12), (0, u "AT_LEAST"), (0, .methodref 23 24), (0, .class_ 25), (0, .nameAndType 26 27), (0, u "com/example/fencerow/fencerow/SignIsMaximumPinLaw"), (0, u "pick"), (0, u "(I)Lcom/example/fencerow/fencerow/Sign;"), (0, .methodref 8 29), (0, .nameAndType 30 31), (0, u "isMaximum"), (0, u "()Z"), (0, .integer 2147483647), (0, .integer 1073741823), (0, .methodref 8 35), (0, .nameAndType 36 37), (0, u "holds"), (0, u "(I)Z"), (3, u "law"), (0, u "(II)Z")] 2

def k1m0 : Method := { name := "<init>", desc := "()V", sig := { parameters := [], returnType := none }, accessFlags := 1, code := none }
def k1c1 : Code := { maxStack := 2, maxLocals := 1, code := method_2_code, exceptionTable := #[], attributes := #[] }
def k1m1 : Method := { name := "pick", desc := "(I)Lcom/example/fencerow/fencerow/Sign;", sig := { parameters := [.int], returnType := some (.object "com/example/fencerow/fencerow/Sign") }, accessFlags := 10, code := some k1c1 }
def k1c2 : Code := { maxStack := 3, maxLocals := 8, code := code, exceptionTable := #[], attributes := #[] }
def k1m2 : Method := { name := "law", desc := "(II)Z", sig := { parameters := [.int, .int], returnType := some .boolean }, accessFlags := 9, code := some k1c2 }
/-- com/example/fencerow/fencerow/SignIsMaximumPinLaw -/
def k1 : Class := { plain "com/example/fencerow/fencerow/SignIsMaximumPinLaw" (some 0) with
  accessFlags := 49
  interfaces := #[]
  cf := some (fileOf pool1 23 #[] #[{ accessFlags := 1, nameIndex := 5, descriptorIndex := 6, attributes := #[] }, { accessFlags := 10, nameIndex := 26, descriptorIndex := 27, attributes := #[] }, { accessFlags := 9, nameIndex := 41, descriptorIndex := 42, attributes := #[] }] 49 2 #[] #[])
  fields := #[]
  methods := #[k1m0, k1m1, k1m2]
  instanceTypes := #[]
  staticTypes := #[]
  resolved := Array.replicate 45 none
  statics := none }

def pool2 : Array CpInfo := pool [(1, .class_ 2), (0, u "java/lang/constant/Constable"), (0, .class_ 4), (0, u "java/lang/Object")] 6

/-- java/lang/constant/Constable -/
def k2 : Class := { plain "java/lang/constant/Constable" (some 0) with
  accessFlags := 1537
  interfaces := #[]
  cf := some (fileOf pool2 1 #[] #[] 1537 3 #[] #[])
  fields := #[]
  methods := #[]
  instanceTypes := #[]
  staticTypes := #[]
  resolved := Array.replicate 11 none
  statics := none }

def pool3 : Array CpInfo := pool [(1, .class_ 2), (0, u "java/lang/Comparable"), (0, .class_ 4), (0, u "java/lang/Object")] 7

/-- java/lang/Comparable -/
def k3 : Class := { plain "java/lang/Comparable" (some 0) with
  accessFlags := 1537
  interfaces := #[]
  cf := some (fileOf pool3 1 #[] #[] 1537 3 #[] #[])
  fields := #[]
  methods := #[]
  instanceTypes := #[]
  staticTypes := #[]
  resolved := Array.replicate 12 none
  statics := none }

def pool4 : Array CpInfo := pool [(1, .class_ 2), (0, u "java/io/Serializable"), (0, .class_ 4), (0, u "java/lang/Object")] 2

/-- java/io/Serializable -/
def k4 : Class := { plain "java/io/Serializable" (some 0) with
  accessFlags := 1537
  interfaces := #[]
  cf := some (fileOf pool4 1 #[] #[] 1537 3 #[] #[])
  fields := #[]
  methods := #[]
  instanceTypes := #[]
  staticTypes := #[]
  resolved := Array.replicate 7 none
  statics := none }

def pool5 : Array CpInfo := pool [(2, .class_ 4), (1, u "java/lang/Enum"), (0, u "name"), (0, u "Ljava/lang/String;"), (0, .fieldref 2 8), (0, .nameAndType 9 10), (0, u "ordinal"), (0, u "I"), (1, .class_ 14), (1, u "java/lang/Object"), (4, u "hash"), (86, .class_ 108), (1, u "java/lang/Enum$EnumDesc"), (2, .class_ 112), (0, u "java/lang/constant/Constable"), (0, .class_ 114), (0, u "java/lang/Comparable"), (0, .class_ 116), (0, u "java/io/Serializable"), (9, u "()I")] 77

def k5c0 : Code := { maxStack := 1, maxLocals := 1, code := jdk_37_method_2_code, exceptionTable := #[], attributes := #[] }
def k5m0 : Method := { name := "ordinal", desc := "()I", sig := { parameters := [], returnType := some .int }, accessFlags := 17, code := some k5c0 }
/-- java/lang/Enum -/
def k5 : Class := { plain "java/lang/Enum" (some 0) with
  accessFlags := 1057
  interfaces := #[2, 3, 4]
  cf := some (fileOf pool5 2 #[.nestMembers #[106]] #[{ accessFlags := 17, nameIndex := 9, descriptorIndex := 126, attributes := #[] }] 1057 12 #[111, 113, 115] #[{ accessFlags := 18, nameIndex := 5, descriptorIndex := 6, attributes := #[] }, { accessFlags := 18, nameIndex := 9, descriptorIndex := 10, attributes := #[] }, { accessFlags := 2, nameIndex := 19, descriptorIndex := 10, attributes := #[] }])
  fields := #[{ name := "name", type := (.object "java/lang/String"), accessFlags := 18, slot := 0, constantValue := 0 }, { name := "ordinal", type := .int, accessFlags := 18, slot := 1, constantValue := 0 }, { name := "hash", type := .int, accessFlags := 2, slot := 2, constantValue := 0 }]
  methods := #[k5m0]
  instanceTypes := #[(.object "java/lang/String"), .int, .int]
  staticTypes := #[]
  resolved := Array.replicate 204 none
  statics := none }

def pool6 : Array CpInfo := pool [(1, .class_ 2), (0, u "com/example/fencerow/fencerow/Sign"), (0, .fieldref 1 4), (0, .nameAndType 5 6), (0, u "BELOW"), (0, u "Lcom/example/fencerow/fencerow/Sign;"), (0, .fieldref 1 8), (0, .nameAndType 9 6), (0, u "AT_MOST"), (2, u "ABOVE"), (2, u "AT_LEAST"), (2, u "$VALUES"), (0, u "[Lcom/example/fencerow/fencerow/Sign;"), (6, .class_ 28), (1, u "java/lang/Enum"), (8, u "symbol"), (0, u "Ljava/lang/String;"), (48, .methodref 1 88), (0, .nameAndType 89 90), (0, u "ordinal"), (0, u "()I"), (35, u "holds"), (0, u "(I)Z"), (0, u "isMaximum"), (0, u "()Z")] 27

def k6c0 : Code := { maxStack := 4, maxLocals := 2, code := prog_138_method_7_code, exceptionTable := #[], attributes := #[] }
def k6m0 : Method := { name := "holds", desc := "(I)Z", sig := { parameters := [.int], returnType := some .boolean }, accessFlags := 1, code := some k6c0 }
def k6c1 : Code := { maxStack := 2, maxLocals := 1, code := prog_138_method_8_code, exceptionTable := #[], attributes := #[] }
def k6m1 : Method := { name := "isMaximum", desc := "()Z", sig := { parameters := [], returnType := some .boolean }, accessFlags := 1, code := some k6c1 }
/-- com/example/fencerow/fencerow/Sign -/
def k6 : Class := { plain "com/example/fencerow/fencerow/Sign" (some 5) with
  accessFlags := 16433
  interfaces := #[]
  cf := some (fileOf pool6 1 #[] #[{ accessFlags := 1, nameIndex := 126, descriptorIndex := 127, attributes := #[] }, { accessFlags := 1, nameIndex := 128, descriptorIndex := 129, attributes := #[] }] 16433 26 #[] #[{ accessFlags := 16409, nameIndex := 5, descriptorIndex := 6, attributes := #[] }, { accessFlags := 16409, nameIndex := 9, descriptorIndex := 6, attributes := #[] }, { accessFlags := 16409, nameIndex := 12, descriptorIndex := 6, attributes := #[] }, { accessFlags := 16409, nameIndex := 15, descriptorIndex := 6, attributes := #[] }, { accessFlags := 18, nameIndex := 37, descriptorIndex := 38, attributes := #[] }, { accessFlags := 4122, nameIndex := 18, descriptorIndex := 19, attributes := #[] }])
  fields := #[{ name := "BELOW", type := (.object "com/example/fencerow/fencerow/Sign"), accessFlags := 16409, slot := 0, constantValue := 0 }, { name := "AT_MOST", type := (.object "com/example/fencerow/fencerow/Sign"), accessFlags := 16409, slot := 1, constantValue := 0 }, { name := "ABOVE", type := (.object "com/example/fencerow/fencerow/Sign"), accessFlags := 16409, slot := 2, constantValue := 0 }, { name := "AT_LEAST", type := (.object "com/example/fencerow/fencerow/Sign"), accessFlags := 16409, slot := 3, constantValue := 0 }, { name := "symbol", type := (.object "java/lang/String"), accessFlags := 18, slot := 3, constantValue := 0 }, { name := "$VALUES", type := (.array (.object "com/example/fencerow/fencerow/Sign")), accessFlags := 4122, slot := 4, constantValue := 0 }]
  methods := #[k6m0, k6m1]
  instanceTypes := #[(.object "java/lang/String"), .int, .int, (.object "java/lang/String")]
  staticTypes := #[(.object "com/example/fencerow/fencerow/Sign"), (.object "com/example/fencerow/fencerow/Sign"), (.object "com/example/fencerow/fencerow/Sign"), (.object "com/example/fencerow/fencerow/Sign"), (.array (.object "com/example/fencerow/fencerow/Sign"))]
  resolved := Array.replicate 157 none
  statics := some 0 }

def pool7 : Array CpInfo := pool [(1, u "java/lang/Cloneable"), (0, .class_ 1), (0, u "java/lang/Object"), (0, .class_ 3)] 3

/-- java/lang/Cloneable -/
def k7 : Class := { plain "java/lang/Cloneable" (some 0) with
  accessFlags := 1537
  interfaces := #[]
  cf := some (fileOf pool7 2 #[] #[] 1537 4 #[] #[])
  fields := #[]
  methods := #[]
  instanceTypes := #[]
  staticTypes := #[]
  resolved := Array.replicate 8 none
  statics := none }

/-- the primitive byte -/
def k8 : Class := { plain "byte" none with kind := .primitive 'B', accessFlags := 0x411 }
/-- [B -/
def k9 : Class := { plain "[B" (some 0) with kind := .array 8 .byte, interfaces := #[7, 4], accessFlags := 1041 }

/-- the primitive int -/
def k10 : Class := { plain "int" none with kind := .primitive 'I', accessFlags := 0x411 }
/-- [I -/
def k11 : Class := { plain "[I" (some 0) with kind := .array 10 .int, interfaces := #[7, 4], accessFlags := 1041 }

def heap : Heap := #[{ cls := 6, slots := #[.ref 1, .ref 3, .ref 2, .ref 4, .null], vm := .statics 6 },
  { cls := 6, slots := #[.null, .int 0, .int 0, .null], vm := .none },
  { cls := 6, slots := #[.null, .int 2, .int 0, .null], vm := .none },
  { cls := 6, slots := #[.null, .int 1, .int 0, .null], vm := .none },
  { cls := 6, slots := #[.null, .int 3, .int 0, .null], vm := .none }]
def classes : Array Class := #[k0, k1, k2, k3, k4, k5, k6, k7, k8, k9, k10, k11]
def interned : List (Array UInt16 × Addr) := []
def slotsUsed : Nat := 21
def theMethod : MethodId := ⟨1, 2⟩
def args0 : Array Value := #[.int 1, .int 2]
def aboutOver (below : List Frame) : State where
  vm := { classes := classes, interned := interned.toArray }
  heap := heap
  slotsUsed := slotsUsed
  threads := #[{ frames := .invoking theMethod args0 :: below }]
def below0 : List Frame := [.native { method := ⟨0, 0⟩, args := #[] }]
def about1 : State := aboutOver below0
def p0 : Program := .bare "" "" ""
def e0 : Env := launch0.env 0 0 0
theorem w_frames : about1.frames = Frame.invoking theMethod args0 :: below0 := rfl
set_option maxRecDepth 65536 in
theorem w_args : argsFit about1.vm theMethod args0 = true := by decide +kernel
set_option maxRecDepth 65536 in
theorem w_heap : heapFits about1 = true := by decide +kernel
set_option maxRecDepth 65536 in
theorem w_runnable : about1.curStatus? = some .runnable := by decide +kernel
set_option maxRecDepth 65536 in
theorem w_alone : about1.alone = true := by decide +kernel
set_option maxRecDepth 65536 in
theorem w_named : about1.methodNamed? x = some theMethod := by decide +kernel
set_option maxRecDepth 65536 in
theorem w_hears : about1.hears theMethod below0 = true := by decide +kernel
set_option maxRecDepth 65536 in
theorem w_ripe : about1.ripe theMethod args0 below0 = true := by decide +kernel
theorem w_running : about1.status = .running := rfl
set_option maxRecDepth 65536 in
theorem w_room : about1.hasRoom e0.platform room_1 = true :=
  launch0.hasRoom_least _ room_1 (by decide +kernel) (by decide +kernel) (by decide +kernel) (by decide +kernel) (by decide +kernel) (by decide +kernel)
theorem allAtoms_all (ts : List Jvm.Cond) (a : Array Jvm.Value) (st : Jvm.State) : (allAtoms ts).before a st = ts.all (fun c => c.before a st) := by
  induction ts with
  | nil => rfl
  | cons c t ih =>
    show (Jvm.Cond.and c (allAtoms t)).before a st = _
    rw [Jvm.Cond.before_and, ih, List.all_cons]
def words1 : List Jvm.Cond := Jvm.Cond.code x code maxLocals ret :: tables_1
/-- a 'code' word, met by the world's own term for the bytes: nothing is compared byte by byte -/
theorem code_word {y : MethodName} {bytes : ByteArray} {mx : Nat} {rt : Option FieldType} {a : Array Value} {s : State} {m : MethodId} {meth : Method} {c : Code} (h1 : s.methodNamed? y = some m) (h2 : s.vm.method? m = some meth) (h3 : meth.code = some c) (h4 : c.code = bytes)
    (h5 : (c.maxLocals == mx && c.exceptionTable.isEmpty && decide (c.maxStack ≤ mostOperands) && decide (meth.sig.returnType = rt) && !meth.locks && decide (parseMethodDescriptor y.desc = some meth.sig)) = true) : (Jvm.Cond.code y bytes mx rt).before a s = true := by
  simp only [Bool.and_eq_true, beq_iff_eq, Bool.not_eq_true', decide_eq_true_eq] at h5
  obtain ⟨⟨⟨⟨⟨g1, g2⟩, g3⟩, g4⟩, g5⟩, g6⟩ := h5
  simp [Cond.before, Cond.holds, Cond.value, h1, h2, h3, h4, g1, g2, g3, g4, g5, g6]
def isCode : Jvm.Cond → Bool
  | .code _ _ _ _ => true
  | _ => false
theorem all_split {L : List Jvm.Cond} {P : Jvm.Cond → Bool} (h1 : L.all (fun c => isCode c || P c) = true) (h2 : ∀ c ∈ L.filter isCode, P c = true) : L.all P = true := by
  refine List.all_eq_true.mpr fun c hc => ?_
  have h := List.all_eq_true.mp h1 c hc
  rcases Bool.eq_false_or_eq_true (isCode c) with hi | hi
  · exact h2 c (List.mem_filter.mpr ⟨hc, hi⟩)
  · simpa [hi] using h
set_option maxRecDepth 65536 in
theorem w_c0 : (Jvm.Cond.code x code maxLocals ret).before args0 about1 = true := code_word (m := ⟨1, 2⟩) (meth := k1m2) (c := k1c2) (by decide +kernel) rfl rfl rfl (by decide +kernel)
set_option maxRecDepth 65536 in
theorem w_c1 : (Jvm.Cond.code ({ cls := "com/example/fencerow/fencerow/SignIsMaximumPinLaw", name := "pick", desc := "(I)Lcom/example/fencerow/fencerow/Sign;" } : Jvm.MethodName) method_2_code (1 : Nat) (Option.some (Jvm.ClassFile.FieldType.object "com/example/fencerow/fencerow/Sign"))).before args0 about1 = true := code_word (m := ⟨1, 1⟩) (meth := k1m1) (c := k1c1) (by decide +kernel) rfl rfl rfl (by decide +kernel)
set_option maxRecDepth 65536 in
theorem w_c2 : (Jvm.Cond.code ({ cls := "com/example/fencerow/fencerow/Sign", name := "isMaximum", desc := "()Z" } : Jvm.MethodName) prog_138_method_8_code (1 : Nat) (Option.some Jvm.ClassFile.FieldType.boolean)).before args0 about1 = true := code_word (m := ⟨6, 1⟩) (meth := k6m1) (c := k6c1) (by decide +kernel) rfl rfl rfl (by decide +kernel)
set_option maxRecDepth 65536 in
theorem w_c3 : (Jvm.Cond.code ({ cls := "com/example/fencerow/fencerow/Sign", name := "holds", desc := "(I)Z" } : Jvm.MethodName) prog_138_method_7_code (2 : Nat) (Option.some Jvm.ClassFile.FieldType.boolean)).before args0 about1 = true := code_word (m := ⟨6, 0⟩) (meth := k6m0) (c := k6c0) (by decide +kernel) rfl rfl rfl (by decide +kernel)
set_option maxRecDepth 65536 in
theorem w_c4 : (Jvm.Cond.code ({ cls := "java/lang/Enum", name := "ordinal", desc := "()I" } : Jvm.MethodName) jdk_37_method_2_code (1 : Nat) (Option.some Jvm.ClassFile.FieldType.int)).before args0 about1 = true := code_word (m := ⟨5, 0⟩) (meth := k5m0) (c := k5c0) (by decide +kernel) rfl rfl rfl (by decide +kernel)
def codes1 : List Jvm.Cond := [Jvm.Cond.code x code maxLocals ret, Jvm.Cond.code ({ cls := "com/example/fencerow/fencerow/SignIsMaximumPinLaw", name := "pick", desc := "(I)Lcom/example/fencerow/fencerow/Sign;" } : Jvm.MethodName) method_2_code (1 : Nat) (Option.some (Jvm.ClassFile.FieldType.object "com/example/fencerow/fencerow/Sign")), Jvm.Cond.code ({ cls := "com/example/fencerow/fencerow/Sign", name := "isMaximum", desc := "()Z" } : Jvm.MethodName) prog_138_method_8_code (1 : Nat) (Option.some Jvm.ClassFile.FieldType.boolean), Jvm.Cond.code ({ cls := "com/example/fencerow/fencerow/Sign", name := "holds", desc := "(I)Z" } : Jvm.MethodName) prog_138_method_7_code (2 : Nat) (Option.some Jvm.ClassFile.FieldType.boolean), Jvm.Cond.code ({ cls := "java/lang/Enum", name := "ordinal", desc := "()I" } : Jvm.MethodName) jdk_37_method_2_code (1 : Nat) (Option.some Jvm.ClassFile.FieldType.int)]
set_option maxRecDepth 65536 in
theorem codes_eq : words1.filter isCode = codes1 := rfl
theorem w_codes : ∀ c ∈ words1.filter isCode, c.before args0 about1 = true := by
  rw [codes_eq]
  intro c hc
  simp only [codes1, List.mem_cons, List.not_mem_nil, or_false] at hc
  rcases hc with rfl | rfl | rfl | rfl | rfl
  · exact w_c0
  · exact w_c1
  · exact w_c2
  · exact w_c3
  · exact w_c4
set_option maxRecDepth 65536 in
theorem w_t1 : (words1.take 24).all (fun c => isCode c || c.before args0 about1) = true := by decide +kernel
set_option maxRecDepth 65536 in
theorem w_t2 : (words1.drop 24).all (fun c => isCode c || c.before args0 about1) = true := by decide +kernel
theorem w_tables : (allAtoms (Jvm.Cond.code x code maxLocals ret :: tables_1)).before args0 about1 = true := by
  rw [allAtoms_all]
  show words1.all (fun c => c.before args0 about1) = true
  refine all_split ?_ w_codes
  rw [← List.take_append_drop 24 words1, List.all_append, w_t1, w_t2]
  rfl
set_option maxRecDepth 65536 in
theorem w_case : (Jvm.Cond.and given_1 narrow_1).before args0 about1 = true := by decide +kernel
theorem w_applies : (headSpec (Jvm.Cond.code x code maxLocals ret :: tables_1) room_1).applies x e0.platform about1 = true :=
  (Spec.applies_iff w_frames).mpr ⟨w_running, w_runnable, w_alone, w_named, w_hears, w_ripe, w_room, w_tables⟩
theorem atStart : AtStart classFile x code maxLocals ret World_1 tables_1 room_1 Calls_1 rest_1 Pre_1 launch0 p0 e0 about1 theMethod args0 below0 :=
  ⟨lists_1, trivial, launch0.admits_env _ _ _, launch0.least_env, fairChoices_fair.cas, fairChoices_fair.clock, w_frames, w_args, w_heap, w_applies, trivial, trivial, w_case⟩
end start1
theorem witness_1 : WitnessClaimed_1 := ⟨start1.p0, start1.e0, start1.about1, start1.theMethod, start1.args0, start1.below0, start1.atStart⟩
end Jvm.Pilot.@@N@@
