import JvmDerived
import JvmDerived.Pilot.@@N@@Statement
import JvmDerived.Pilot.@@N@@Code
set_option linter.unusedVariables false
set_option linter.unusedSimpArgs false
namespace Jvm.Pilot.@@N@@
open Jvm Jvm.ClassFile Sem Op Lib Jvm.Free Jvm.Stand Jvm.LawKit Jvm.RoadKit Bundle Jvm.Pilot.@@N@@.Jvm.D
section OwnKit
variable {p : Program} {l : Launch} {e : Env} {R : Room} {s : State} {m : MethodId} {args : Array Value} {below : List Frame} {meth : Method} {c : Code} {T : State} {locs : List Loc} {cells slots : Nat} {Z : State} {a0 : Array Value} {h : Heap} {Q : Option Value → Heap → List Loc → Prop} {C S : Nat} {F : State → Outcome → Prop}
/-- what is left of a walk: from T with the top frame g the invocation comes to its end, and F holds there -/
def Go (p : Program) (e : Env) (below : List Frame) (F : State → Outcome → Prop) (T : State) (g : JFrame) : Prop :=
  ∃ t o, Steps p.tables e below (T.setTop g) t ∧ t.status = .running ∧ Ended t below o ∧ F t o
/-- it returned, Q holds, and no more has changed than the frame says -/
def FN (s : State) (Q : Option Value → Heap → List Loc → Prop) (C S : Nat) (t : State) (o : Outcome) : Prop := ∃ v L, o = .returned v ∧ Q v t.heap L ∧ FrameEnd s o t L C S
theorem Go.of {T' : State} {g g' : JFrame} (h : ∀ t, Steps p.tables e below (T'.setTop g') t → Steps p.tables e below (T.setTop g) t) (k : Go p e below F T' g') : Go p e below F T g := by
  obtain ⟨t, o, h1, h2⟩ := k
  exact ⟨t, o, h _ h1, h2⟩
theorem Go.cast {g g' : JFrame} (q : g = g') (k : Go p e below F T g') : Go p e below F T g := q ▸ k
theorem Go.ret (X : Stand p l e R s m args below meth c T locs cells slots) {v : Option Value} {g : JFrame} (hlk : meth.locks = false) (hv : meth.sig.returnType = none → v = none)
    (st : ∀ fs, (∀ (f : JFrame) (acts : List Action), f.method = m → f.locked = none → f.entered = [] → (doReturn e (T.setTop f) acts v).1 = T.setFrames fs) → Steps p.tables e below (T.setTop g) (T.setFrames fs))
    (hc : cells ≤ C) (hs : slots ≤ S) (hQ : Q v T.heap locs) : Go p e below (FN s Q C S) T g := by
  obtain ⟨fs, hr, hrun, hended, hW, hsame⟩ := X.leave (v := v) hv hlk
  exact ⟨_, _, st fs hr, hrun, hended, _, _, rfl, hQ, ⟨_, rfl⟩, hW, hsame.mono hc hs⟩
theorem Go.retI (X : Stand p l e R s m args below meth c T locs cells slots) (hx : p.tables.exec = Jvm.exec) (hlk : meth.locks = false) {pc : Nat} {Ls : Array Slot} {z : Int32} {rest : List Value} (hret : meth.sig.returnType = some .int) (hd : decode c.code pc = .ok (.ireturn, 1))
    (hc : cells ≤ C) (hs : slots ≤ S) (hQ : Q (some (.int z)) T.heap locs) : Go p e below (FN s Q C S) T (mkF m pc Ls (.int z :: rest)) :=
  Go.ret X hlk (fun h => by rw [hret] at h; cases h) (fun _ hr => retOut X hx hret rfl (Or.inl ⟨rfl, Or.inl rfl, _, rfl⟩) hd hr) hc hs hQ
theorem Go.retN (X : Stand p l e R s m args below meth c T locs cells slots) (hx : p.tables.exec = Jvm.exec) (hlk : meth.locks = false) {pc : Nat} {Ls : Array Slot} {z : Int32} {rest : List Value} {t : FieldType} (hret : meth.sig.returnType = some t) (ht : t = .boolean ∨ t = .byte ∨ t = .char ∨ t = .short) (hd : decode c.code pc = .ok (.ireturn, 1))
    (hc : cells ≤ C) (hs : slots ≤ S) (hQ : Q (some (.int (nar t z))) T.heap locs) : Go p e below (FN s Q C S) T (mkF m pc Ls (.int z :: rest)) :=
  Go.ret X hlk (fun h => by rw [hret] at h; cases h) (fun _ hr => Jvm.RoadKit.retN X hx hret ht hd hr) hc hs hQ
/-- a body's contract at given arguments and a given heap -/
def Ct (l : Launch) (y : MethodName) (bytes : ByteArray) (maxL : Nat) (ret : Option FieldType) (rm : Room) (Z : State) (h0 : Heap) (as' : Array Value) (Q : Option Value → Heap → List Loc → Prop) : Prop :=
  ∀ ws, MetFree l y (head1 (Jvm.Cond.code y bytes maxL ret :: ws) rm) (fun a U => a = as' ∧ Z.Warmed39 U.vm ∧ U.heap = h0) (fun _ _ _ _ _ => True) (fun _ U o U' => ∃ v L, o = .returned v ∧ Q v U'.heap L ∧ FrameEnd U o U' L rm.cells rm.slots)
theorem Ct.body {y : MethodName} {bytes : ByteArray} {maxL : Nat} {ret : Option FieldType} {rm : Room} {as' : Array Value} (hpl : plainFor y = true)
    (k : ∀ (p : Program) (e : Env) (s : State) (m : MethodId) (below : List Frame) (meth : Method) (c : Code) (T : State), p.tables.exec = Jvm.exec → c.code = bytes → c.maxLocals = maxL → s.vm.findClass y.cls = some m.cls → meth.name = y.name → meth.sig.returnType = ret → meth.locks = false → Z.Warmed39 s.vm →
      Stand p l e rm s m as' below meth c T [] 0 0 → T.heap = h → Go p e below (FN s Q rm.cells rm.slots) T (entryFrame m as' maxL)) : Ct l y bytes maxL ret rm Z h as' Q := fun ws => by
  refine MetFree.of_bodySF hpl hisR ?_
  intro p e s m args below meth c s₁ Bd hml0 hP hK
  obtain ⟨rfl, hZ, hh⟩ := hP
  exact k p e s m below meth c s₁ Bd.exec Bd.bytes hml0 (findClass_of_methodNamed Bd.named) (name_of_methodNamed Bd.named Bd.method).1 Bd.returns Bd.notSynchronized hZ (Stand.of_body Bd) (by rw [← hh, Bd.state]; rfl)
theorem Go.callS (X : Stand p l e R s m args below meth c T locs cells slots) (hx : p.tables.exec = Jvm.exec) (hZ : Z.Warmed39 s.vm) {own : String} {index : Nat} {y : MethodName} {bytes : ByteArray} {maxL : Nat} {ret : Option FieldType} (hown : s.vm.findClass own = some m.cls)
    (wl : (Jvm.Cond.methodLink own index y).before a0 Z = true) (wst : (Jvm.Cond.static y).before a0 Z = true) (wz : (Jvm.Cond.initialized y.cls).before a0 Z = true) (wc : (Jvm.Cond.code y bytes maxL ret).before a0 Z = true) (hy : y.cls ≠ "java/lang/invoke/MethodHandle" ∧ y.cls ≠ "java/lang/invoke/VarHandle")
    (eT : T.heap = h) {rm : Room} {argsL rest : List Value} {Q' : Option Value → Heap → List Loc → Prop} (hC : Ct l y bytes maxL ret rm Z h argsL.toArray Q') {pc : Nat} {Ls : Array Slot} {st : List Value} (hsz : Ls.size = c.maxLocals)
    (hlen : ∀ sig, parseMethodDescriptor y.desc = some sig → argsL.length = sig.parameters.length) (hst : st = argsL.reverse ++ rest) (hd : decode c.code pc = .ok (.invokestatic index, 3)) (hf : rm.frames + 1 ≤ R.frames) (hl : (rest.map fun v => v.category).sum + (maxL + 11) + rm.locals ≤ R.locals) (hc : cells + rm.cells ≤ R.cells) (hs : slots + rm.slots ≤ R.slots)
    (k : ∀ v T' L, Q' v T'.heap L → Stand p l e R s m args below meth c T' (locs ++ L) (cells + rm.cells) (slots + rm.slots) → Go p e below F T' (mkF m (pc + 3) Ls (v.toList ++ rest))) :
    Go p e below F T (mkF m pc Ls st) := by
  obtain ⟨v, _, ⟨T', L', k', n'⟩, -, X', ⟨L, hQ, l1, y1, z1⟩, stp⟩ := Jvm.LawKit.callS X hx (y := y) hown (mvT hZ wl) (mvT hZ wst) (mvT hZ wz) (mvT hZ wc) hy (backOf (W := (rest.map fun v => v.category).sum) (hC []) hZ wc wz hf hl) (g := mkF m pc Ls st) rfl hsz (argsL := argsL) (rest := rest) hlen hst (by show 2 * 0 + _ ≤ _; exact Nat.le_of_eq (Nat.zero_add _)) hd (fun _ _ => ⟨rfl, eT, hc, hs⟩)
  dsimp only [Pt.U, Pt.locs, Pt.cells, Pt.slots] at X' l1 y1 z1 stp hQ
  subst l1 y1 z1
  exact Go.of stp (k _ _ _ hQ X')
end OwnKit
section OwnSteps
variable {p : Program} {l : Launch} {e : Env} {R : Room} {s : State} {m : MethodId} {args : Array Value} {below : List Frame} {meth : Method} {c : Code} {T : State} {locs : List Loc} {cells slots : Nat} {Z : State} {a0 : Array Value} {h : Heap} {F : State → Outcome → Prop}
theorem w_ {Z : State} {a0 : Array Value} {ts : List Jvm.Cond} (hw : ∀ d ∈ ts, d.before a0 Z = true) {d : Jvm.Cond} (i : Nat) (h : ts[i]? = some d) : d.before a0 Z = true := hw _ (List.mem_of_getElem? h)
theorem Go.s_iloadN (X : Stand p l e R s m args below meth c T locs cells slots) (hx : p.tables.exec = Jvm.exec) {pc q : Nat} {Ls : Array Slot} {st : List Value} {k : Fin 4} {v : Int32} (hd : decode c.code pc = .ok (.iload_n k, 1)) (hq : pc + 1 = q) (hl : Ls[k.val]? = some (.val (.int v))) (K : Go p e below F T (mkF m q Ls (.int v :: st))) : Go p e below F T (mkF m pc Ls (st)) := by
  subst hq
  exact Go.of (fun t k => XS.iloadN X.here hx rfl hd hl k) K
theorem Go.s_iload (X : Stand p l e R s m args below meth c T locs cells slots) (hx : p.tables.exec = Jvm.exec) {pc q : Nat} {Ls : Array Slot} {st : List Value} {k : Nat} {v : Int32} (hd : decode c.code pc = .ok (.iload k, 2)) (hq : pc + 2 = q) (hl : Ls[k]? = some (.val (.int v))) (K : Go p e below F T (mkF m q Ls (.int v :: st))) : Go p e below F T (mkF m pc Ls (st)) := by
  subst hq
  exact Go.of (fun t k => XS.iload X.here hx rfl hd hl k) K
theorem Go.s_aloadN (X : Stand p l e R s m args below meth c T locs cells slots) (hx : p.tables.exec = Jvm.exec) {pc q : Nat} {Ls : Array Slot} {st : List Value} {k : Fin 4} {v : Value} (hd : decode c.code pc = .ok (.aload_n k, 1)) (hq : pc + 1 = q) (hl : Ls[k.val]? = some (.val v)) (hv : v.isRef = true) (K : Go p e below F T (mkF m q Ls (v :: st))) : Go p e below F T (mkF m pc Ls (st)) := by
  subst hq
  exact Go.of (fun t k => XS.aloadN X.here hx rfl hd hl hv k) K
theorem Go.s_aload (X : Stand p l e R s m args below meth c T locs cells slots) (hx : p.tables.exec = Jvm.exec) {pc q : Nat} {Ls : Array Slot} {st : List Value} {k : Nat} {v : Value} (hd : decode c.code pc = .ok (.aload k, 2)) (hq : pc + 2 = q) (hl : Ls[k]? = some (.val v)) (hv : v.isRef = true) (K : Go p e below F T (mkF m q Ls (v :: st))) : Go p e below F T (mkF m pc Ls (st)) := by
  subst hq
  exact Go.of (fun t k => XS.aload X.here hx rfl hd hl hv k) K
theorem Go.s_istoreN (X : Stand p l e R s m args below meth c T locs cells slots) (hx : p.tables.exec = Jvm.exec) {pc q : Nat} {Ls : Array Slot} {st : List Value} {k : Fin 4} {x : Int32} {l' : Array Slot} (hd : decode c.code pc = .ok (.istore_n k, 1)) (hq : pc + 1 = q) (hl : storeLocals Ls k.val (.int x) = some l') (K : Go p e below F T (mkF m q l' (st))) : Go p e below F T (mkF m pc Ls (.int x :: st)) := by
  subst hq
  exact Go.of (fun t k => XS.istoreN X.here hx rfl hd rfl hl k) K
theorem Go.s_istore (X : Stand p l e R s m args below meth c T locs cells slots) (hx : p.tables.exec = Jvm.exec) {pc q : Nat} {Ls : Array Slot} {st : List Value} {k : Nat} {x : Int32} {l' : Array Slot} (hd : decode c.code pc = .ok (.istore k, 2)) (hq : pc + 2 = q) (hl : storeLocals Ls k (.int x) = some l') (K : Go p e below F T (mkF m q l' (st))) : Go p e below F T (mkF m pc Ls (.int x :: st)) := by
  subst hq
  exact Go.of (fun t k => XS.istore X.here hx rfl hd rfl hl k) K
theorem Go.s_astore (X : Stand p l e R s m args below meth c T locs cells slots) (hx : p.tables.exec = Jvm.exec) {pc q : Nat} {Ls : Array Slot} {st : List Value} {k : Nat} {x : Value} {l' : Array Slot} (hd : decode c.code pc = .ok (.astore k, 2)) (hq : pc + 2 = q) (hv : x.isRef = true) (hl : storeLocals Ls k x = some l') (K : Go p e below F T (mkF m q l' (st))) : Go p e below F T (mkF m pc Ls (x :: st)) := by
  subst hq
  exact Go.of (fun t k => XS.astore X.here hx rfl hd rfl hv hl k) K
theorem Go.s_istoreS (X : Stand p l e R s m args below meth c T locs cells slots) (hx : p.tables.exec = Jvm.exec) {pc q : Nat} {Ls : Array Slot} {st : List Value} {k : Nat} {x : Int32} {o : Slot} {l' : Array Slot} (hd : decode c.code pc = .ok (.istore k, 2)) (hq : pc + 2 = q) (hold : Ls[k]? = some o) (ho : o = .unset ∨ ∃ w, o = .val w ∧ w.category = 1) (hl : Ls.setIfInBounds k (.val (.int x)) = l') (K : Go p e below F T (mkF m q l' (st))) : Go p e below F T (mkF m pc Ls (.int x :: st)) := by
  subst hq
  exact Go.of (fun t k => XS.istoreS X.here hx rfl hd rfl hold ho (hl ▸ k)) K
theorem Go.s_iconst (X : Stand p l e R s m args below meth c T locs cells slots) (hx : p.tables.exec = Jvm.exec) {pc q : Nat} {Ls : Array Slot} {st : List Value} {i : Int} {z : Int32} (hd : decode c.code pc = .ok (.iconst i, 1)) (hq : pc + 1 = q) (hz : Int32.ofInt i = z) (K : Go p e below F T (mkF m q Ls (.int z :: st))) : Go p e below F T (mkF m pc Ls (st)) := by
  subst hq
  exact Go.of (fun t k => XS.iconst X.here hx rfl hd (hz ▸ k)) K
theorem Go.s_bipush (X : Stand p l e R s m args below meth c T locs cells slots) (hx : p.tables.exec = Jvm.exec) {pc q : Nat} {Ls : Array Slot} {st : List Value} {i : Int} {z : Int32} (hd : decode c.code pc = .ok (.bipush i, 2)) (hq : pc + 2 = q) (hz : (Int8.ofInt i).toInt32 = z) (K : Go p e below F T (mkF m q Ls (.int z :: st))) : Go p e below F T (mkF m pc Ls (st)) := by
  subst hq
  exact Go.of (fun t k => XS.bipush X.here hx rfl hd (hz ▸ k)) K
theorem Go.s_sipush (X : Stand p l e R s m args below meth c T locs cells slots) (hx : p.tables.exec = Jvm.exec) {pc q : Nat} {Ls : Array Slot} {st : List Value} {i : Int} {z : Int32} (hd : decode c.code pc = .ok (.sipush i, 3)) (hq : pc + 3 = q) (hz : (Int16.ofInt i).toInt32 = z) (K : Go p e below F T (mkF m q Ls (.int z :: st))) : Go p e below F T (mkF m pc Ls (st)) := by
  subst hq
  exact Go.of (fun t k => XS.sipush X.here hx rfl hd (hz ▸ k)) K
theorem Go.s_iadd (X : Stand p l e R s m args below meth c T locs cells slots) (hx : p.tables.exec = Jvm.exec) {pc q : Nat} {Ls : Array Slot} {st : List Value} {x y : Int32} (hd : decode c.code pc = .ok (.iadd, 1)) (hq : pc + 1 = q)  (K : Go p e below F T (mkF m q Ls (.int (x + y) :: st))) : Go p e below F T (mkF m pc Ls (.int y :: .int x :: st)) := by
  subst hq
  exact Go.of (fun t k => XS.iadd X.here hx rfl hd rfl k) K
theorem Go.s_isub (X : Stand p l e R s m args below meth c T locs cells slots) (hx : p.tables.exec = Jvm.exec) {pc q : Nat} {Ls : Array Slot} {st : List Value} {x y : Int32} (hd : decode c.code pc = .ok (.isub, 1)) (hq : pc + 1 = q)  (K : Go p e below F T (mkF m q Ls (.int (x - y) :: st))) : Go p e below F T (mkF m pc Ls (.int y :: .int x :: st)) := by
  subst hq
  exact Go.of (fun t k => XS.isub X.here hx rfl hd rfl k) K
theorem Go.s_iand (X : Stand p l e R s m args below meth c T locs cells slots) (hx : p.tables.exec = Jvm.exec) {pc q : Nat} {Ls : Array Slot} {st : List Value} {x y : Int32} (hd : decode c.code pc = .ok (.iand, 1)) (hq : pc + 1 = q)  (K : Go p e below F T (mkF m q Ls (.int (x &&& y) :: st))) : Go p e below F T (mkF m pc Ls (.int y :: .int x :: st)) := by
  subst hq
  exact Go.of (fun t k => XS.iand X.here hx rfl hd rfl k) K
theorem Go.s_ior (X : Stand p l e R s m args below meth c T locs cells slots) (hx : p.tables.exec = Jvm.exec) {pc q : Nat} {Ls : Array Slot} {st : List Value} {x y : Int32} (hd : decode c.code pc = .ok (.ior, 1)) (hq : pc + 1 = q)  (K : Go p e below F T (mkF m q Ls (.int (x ||| y) :: st))) : Go p e below F T (mkF m pc Ls (.int y :: .int x :: st)) := by
  subst hq
  exact Go.of (fun t k => XS.ior X.here hx rfl hd rfl k) K
theorem Go.s_ishl (X : Stand p l e R s m args below meth c T locs cells slots) (hx : p.tables.exec = Jvm.exec) {pc q : Nat} {Ls : Array Slot} {st : List Value} {x y : Int32} (hd : decode c.code pc = .ok (.ishl, 1)) (hq : pc + 1 = q)  (K : Go p e below F T (mkF m q Ls (.int (x <<< (y &&& 31)) :: st))) : Go p e below F T (mkF m pc Ls (.int y :: .int x :: st)) := by
  subst hq
  exact Go.of (fun t k => XS.ishl X.here hx rfl hd rfl k) K
theorem Go.s_ishr (X : Stand p l e R s m args below meth c T locs cells slots) (hx : p.tables.exec = Jvm.exec) {pc q : Nat} {Ls : Array Slot} {st : List Value} {x y : Int32} (hd : decode c.code pc = .ok (.ishr, 1)) (hq : pc + 1 = q)  (K : Go p e below F T (mkF m q Ls (.int (x >>> (y &&& 31)) :: st))) : Go p e below F T (mkF m pc Ls (.int y :: .int x :: st)) := by
  subst hq
  exact Go.of (fun t k => XS.ishr X.here hx rfl hd rfl k) K
theorem Go.s_iushr (X : Stand p l e R s m args below meth c T locs cells slots) (hx : p.tables.exec = Jvm.exec) {pc q : Nat} {Ls : Array Slot} {st : List Value} {x y : Int32} (hd : decode c.code pc = .ok (.iushr, 1)) (hq : pc + 1 = q)  (K : Go p e below F T (mkF m q Ls (.int ((x.toUInt32 >>> (y &&& 31).toUInt32).toInt32) :: st))) : Go p e below F T (mkF m pc Ls (.int y :: .int x :: st)) := by
  subst hq
  exact Go.of (fun t k => XS.iushr X.here hx rfl hd rfl k) K
theorem Go.s_i2b (X : Stand p l e R s m args below meth c T locs cells slots) (hx : p.tables.exec = Jvm.exec) {pc q : Nat} {Ls : Array Slot} {st : List Value} {x : Int32} (hd : decode c.code pc = .ok (.i2b, 1)) (hq : pc + 1 = q)  (K : Go p e below F T (mkF m q Ls (.int (x.toInt8.toInt32) :: st))) : Go p e below F T (mkF m pc Ls (.int x :: st)) := by
  subst hq
  exact Go.of (fun t k => XS.i2b X.here hx rfl hd rfl k) K
theorem Go.s_irem (X : Stand p l e R s m args below meth c T locs cells slots) (hx : p.tables.exec = Jvm.exec) {pc q : Nat} {Ls : Array Slot} {st : List Value} {x y : Int32} (hd : decode c.code pc = .ok (.irem, 1)) (hq : pc + 1 = q) (hy : y ≠ 0) (K : Go p e below F T (mkF m q Ls (.int (x % y) :: st))) : Go p e below F T (mkF m pc Ls (.int y :: .int x :: st)) := by
  subst hq
  exact Go.of (fun t k => iremM X hx rfl hd rfl hy k) K
theorem Go.s_iinc (X : Stand p l e R s m args below meth c T locs cells slots) (hx : p.tables.exec = Jvm.exec) {pc q : Nat} {Ls : Array Slot} {st : List Value} {k : Nat} {cst : Int} {x : Int32} {l' : Array Slot} (hd : decode c.code pc = .ok (.iinc k cst, 3)) (hq : pc + 3 = q) (hl : Ls[k]? = some (.val (.int x))) (hl' : storeLocals Ls k (.int (x + Int32.ofInt cst)) = some l') (K : Go p e below F T (mkF m q l' (st))) : Go p e below F T (mkF m pc Ls (st)) := by
  subst hq
  exact Go.of (fun t k => XS.iinc X.here hx rfl hd hl hl' k) K
theorem Go.s_goto (X : Stand p l e R s m args below meth c T locs cells slots) (hx : p.tables.exec = Jvm.exec) {pc q : Nat} {Ls : Array Slot} {st : List Value}  {o : Int} (hd : decode c.code pc = .ok (.goto o, 3)) (ho : 0 ≤ (pc : Int) + o) (hp : ((pc : Int) + o).toNat = q)  (K : Go p e below F T (mkF m q Ls st)) : Go p e below F T (mkF m pc Ls (st)) :=
  Go.of (fun t k => XS.goto X.here hx rfl rfl hd ho hp k) K
theorem Go.s_ifYes (X : Stand p l e R s m args below meth c T locs cells slots) (hx : p.tables.exec = Jvm.exec) {pc q : Nat} {Ls : Array Slot} {st : List Value} {cd : ClassFile.Cond} {x : Int32} {o : Int} (hd : decode c.code pc = .ok (.ifCond cd o, 3)) (ho : 0 ≤ (pc : Int) + o) (hp : ((pc : Int) + o).toNat = q) (hc : ifCond.holds cd x = true) (K : Go p e below F T (mkF m q Ls st)) : Go p e below F T (mkF m pc Ls (.int x :: st)) :=
  Go.of (fun t k => XS.ifYes X.here hx rfl rfl hd rfl hc ho hp k) K
theorem Go.s_icmpYes (X : Stand p l e R s m args below meth c T locs cells slots) (hx : p.tables.exec = Jvm.exec) {pc q : Nat} {Ls : Array Slot} {st : List Value} {cd : ClassFile.Cond} {x y : Int32} {o : Int} (hd : decode c.code pc = .ok (.if_icmp cd o, 3)) (ho : 0 ≤ (pc : Int) + o) (hp : ((pc : Int) + o).toNat = q) (hc : if_icmp.holds cd x y = true) (K : Go p e below F T (mkF m q Ls st)) : Go p e below F T (mkF m pc Ls (.int y :: .int x :: st)) :=
  Go.of (fun t k => XS.icmpYes X.here hx rfl rfl hd rfl hc ho hp k) K
theorem Go.s_ifNo (X : Stand p l e R s m args below meth c T locs cells slots) (hx : p.tables.exec = Jvm.exec) {pc q : Nat} {Ls : Array Slot} {st : List Value} {cd : ClassFile.Cond} {o : Int} {x : Int32} (hd : decode c.code pc = .ok (.ifCond cd o, 3)) (hq : pc + 3 = q) (hc : ifCond.holds cd x = false) (K : Go p e below F T (mkF m q Ls (st))) : Go p e below F T (mkF m pc Ls (.int x :: st)) := by
  subst hq
  exact Go.of (fun t k => XS.ifNo X.here hx rfl hd rfl hc k) K
theorem Go.s_icmpNo (X : Stand p l e R s m args below meth c T locs cells slots) (hx : p.tables.exec = Jvm.exec) {pc q : Nat} {Ls : Array Slot} {st : List Value} {cd : ClassFile.Cond} {o : Int} {x y : Int32} (hd : decode c.code pc = .ok (.if_icmp cd o, 3)) (hq : pc + 3 = q) (hc : if_icmp.holds cd x y = false) (K : Go p e below F T (mkF m q Ls (st))) : Go p e below F T (mkF m pc Ls (.int y :: .int x :: st)) := by
  subst hq
  exact Go.of (fun t k => XS.icmpNo X.here hx rfl hd rfl hc k) K
theorem Go.s_ldc (X : Stand p l e R s m args below meth c T locs cells slots) (hx : p.tables.exec = Jvm.exec) {pc q : Nat} {Ls : Array Slot} {st : List Value} {own : String} {index : Nat} {v : Int32} (hd : decode c.code pc = .ok (.ldc index, 2)) (hq : pc + 2 = q) (hown : s.vm.findClass own = some m.cls) (w : (Jvm.Cond.constant own index v).before args s = true) (K : Go p e below F T (mkF m q Ls (.int v :: st))) : Go p e below F T (mkF m pc Ls st) := by
  subst hq
  exact Go.of (X.ldcInt hx hown w (g := mkF m pc Ls st) rfl hd) K
end OwnSteps
section OwnArr
variable {p : Program} {l : Launch} {e : Env} {R : Room} {s : State} {m : MethodId} {args : Array Value} {below : List Frame} {meth : Method} {c : Code} {T : State} {locs : List Loc} {cells slots : Nat} {Z : State} {a0 : Array Value} {h : Heap} {F : State → Outcome → Prop}
theorem Go.newP (X : Stand p l e R s m args below meth c T locs cells slots) (hx : p.tables.exec = Jvm.exec) (hZ : Z.Warmed39 s.vm) {aty : ArrayType} (w : (Jvm.Cond.arrayClass (newarray.typeOf aty)).before a0 Z = true) (eT : T.heap = h) {pc : Nat} {Ls : Array Slot} {n : Int32} {rest : List Value} (hd : decode c.code pc = .ok (.newarray aty, 2))
    (hn : ¬ n < 0) {cap : Nat} (hcap : n.toNatClampNeg ≤ cap) (hb : cap * 8 ≤ 536870912) (hc : cells + 1 ≤ R.cells) (hl : slots + cap ≤ R.slots)
    (k : ∀ T' h' a kc, a = h.size → Stand p l e R s m args below meth c T' locs (cells + 1) (slots + cap) → T'.heap = h' → Ext h h' → Arv Z h' a kc (newarray.typeOf aty) n [] (defaultValue (newarray.typeOf aty)) → Go p e below F T' (mkF m (pc + 2) Ls (.ref a :: rest))) : Go p e below F T (mkF m pc Ls (.int n :: rest)) := by
  obtain ⟨T', h', kc, X', e', E', A', st⟩ := Jvm.RoadKit.newP X hx hZ w eT (g := mkF m pc Ls (.int n :: rest)) rfl hd rfl hn hcap hb hc hl
  exact Go.of st (k _ _ _ kc rfl X' e' E' (Arv.new A' hn))
theorem Go.stB (X : Stand p l e R s m args below meth c T locs cells slots) (hx : p.tables.exec = Jvm.exec) (hZ : Z.Warmed39 s.vm) (eT : T.heap = h) {a : Addr} {kc : ClassId} {z j x : Int32} {vs : List Value} {dv : Value} (V : Arv Z h a kc .byte z vs dv) (hj : ¬ j < 0 ∧ j < z) (i : Nat) (hji : j.toNatClampNeg = i) (hi : i < vs.length) {pc : Nat} {Ls : Array Slot} {rest : List Value} (hd : decode c.code pc = .ok (.bastore, 1))
    (k : ∀ T' h', Stand p l e R s m args below meth c T' (locs ++ [⟨a, j.toNatClampNeg⟩]) cells slots → T'.heap = h' → Wr h h' a j.toNatClampNeg (.int (nar .byte x)) → Arv Z h' a kc .byte z (vs.set i (.int (nar .byte x))) dv → Go p e below F T' (mkF m (pc + 1) Ls rest)) : Go p e below F T (mkF m pc Ls (.int x :: .int j :: .ref a :: rest)) := by
  obtain ⟨cl, A, q1, S1, q3, H, G⟩ := V
  obtain ⟨T', h', X', e', W', st⟩ := Jvm.RoadKit.stB X hx hZ eT A (x := x) (inb_of S1 hj) (g := mkF m pc Ls (.int x :: .int j :: .ref a :: rest)) rfl rfl hd
  exact Go.of st (k _ _ X' e' W' (Arv.set A q1 S1 q3 H G (fits_nar_byte x) W' i hji hi))
theorem Go.ldB (X : Stand p l e R s m args below meth c T locs cells slots) (hx : p.tables.exec = Jvm.exec) (hZ : Z.Warmed39 s.vm) (eT : T.heap = h) {a : Addr} {kc : ClassId} {z j : Int32} {vs : List Value} {dv w : Value} (V : Arv Z h a kc .byte z vs dv) (hj : ¬ j < 0 ∧ j < z) (hw : vs.getD j.toNatClampNeg dv = w) {pc : Nat} {Ls : Array Slot} {rest : List Value} (hd : decode c.code pc = .ok (.baload, 1))
    (k : Go p e below F T (mkF m (pc + 1) Ls (w :: rest))) : Go p e below F T (mkF m pc Ls (.int j :: .ref a :: rest)) := by
  obtain ⟨cl, A, q1, S1, q3, H, G⟩ := V
  exact Go.of (fun t q => X.baloadBytes hx (by rw [eT]; exact A.1) (State.isArrayOf_alike hZ.alike A.2.1) A.2.2 (inb_of S1 hj) (H.at (inb_of S1 hj) hw) (g := mkF m pc Ls (.int j :: .ref a :: rest)) rfl rfl hd t q) k
theorem getD_mapI (bs : List Int32) (i : Nat) : (bs.map Value.int).getD i (.int 0) = .int (bs.getD i 0) := by
  rw [List.getD_eq_getElem?_getD, List.getD_eq_getElem?_getD, List.getElem?_map]
  cases bs[i]? <;> rfl
end OwnArr
def uu (bs : List Int32) (k : Nat) : Int := ((bs.getD k 0) &&& (255 : Int32)).toInt
def wf (u : Nat → Int) (i : Nat) (n : Int) : Int :=
  if u i < 128 then 1
  else if 194 ≤ u i ∧ u i ≤ 223 then (if 2 ≤ n ∧ 128 ≤ u (i + 1) ∧ u (i + 1) ≤ 191 then 2 else 0)
  else if 224 ≤ u i ∧ u i ≤ 239 then (if 3 ≤ n ∧ 128 ≤ u (i + 1) ∧ u (i + 1) ≤ 191 ∧ (u i = 224 → 160 ≤ u (i + 1)) ∧ (u i = 237 → u (i + 1) ≤ 159) ∧ 128 ≤ u (i + 2) ∧ u (i + 2) ≤ 191 then 3 else 0)
  else if 240 ≤ u i ∧ u i ≤ 244 then (if 4 ≤ n ∧ 128 ≤ u (i + 1) ∧ u (i + 1) ≤ 191 ∧ (u i = 240 → 144 ≤ u (i + 1)) ∧ (u i = 244 → u (i + 1) ≤ 143) ∧ 128 ≤ u (i + 2) ∧ u (i + 2) ≤ 191 ∧ 128 ≤ u (i + 3) ∧ u (i + 3) ≤ 191 then 4 else 0)
  else 0
theorem last_neg {act s6 ex : Int32} (fin : act.toInt = (if s6.toInt < 0 then -1 - s6.toInt else -1)) (h : s6 < (0 : Int32)) (hex : ((-1 : Int32) - s6) = ex) (hne : ¬ (act = ex)) : False := by
  have h1 := Int32.lt_iff_toInt_lt.mp h
  have k0 := (by decide : (0 : Int32).toInt = 0)
  have k1 := (by decide : (-1 : Int32).toInt = -1)
  have h2 := congrArg Int32.toInt hex
  have h3 := mt Int32.toInt_inj.mp hne
  have h4 := c_isub (-1 : Int32) s6
  have h5 := rng32 ((-1 : Int32) - s6)
  have h6 := rng32 s6
  rw [if_pos (by omega)] at fin
  omega
theorem last_pos {act s6 : Int32} (fin : act.toInt = (if s6.toInt < 0 then -1 - s6.toInt else -1)) (h : ¬ (s6 < (0 : Int32))) (hne : ¬ (act = (-1 : Int32))) : False := by
  have h1 := mt Int32.lt_iff_toInt_lt.mpr h
  have k0 := (by decide : (0 : Int32).toInt = 0)
  have k1 := (by decide : (-1 : Int32).toInt = -1)
  have h3 := mt Int32.toInt_inj.mp hne
  rw [if_neg (by omega)] at fin
  omega
theorem le_six {fr to : Int32} {F : Nat} (hF : fr.toInt = (F : Int)) (h0 : 0 ≤ fr.toInt) (h6 : to.toInt ≤ 6) : to.toInt - (F : Int) ≤ 6 := by omega
theorem tn (x : Int32) : x.toInt.toNat = x.toNatClampNeg := rfl
theorem wf_rng (u : Nat → Int) (i : Nat) (n : Int) : 0 ≤ wf u i n ∧ wf u i n ≤ 4 ∧ (1 ≤ n → wf u i n ≤ n) := by
  simp only [wf]
  repeat' split
  all_goals omega
def fmal (u : Nat → Int) (to : Int) : Nat → Nat → Int
  | 0, _ => -1
  | n + 1, i => if (i : Int) < to then (if wf u i (to - i) = 0 then (i : Int) else fmal u to n (i + (wf u i (to - i)).toNat)) else -1
theorem fmal_end {u : Nat → Int} {to : Int} {n i : Nat} (h : ¬ ((i : Int) < to)) : fmal u to n i = -1 := by
  cases n with
  | zero => rfl
  | succ n => simp only [fmal, if_neg h]
theorem fmal_bad {u : Nat → Int} {to : Int} {n i : Nat} (h : (i : Int) < to) (hw : wf u i (to - i) = 0) : fmal u to (n + 1) i = (i : Int) := by simp only [fmal, if_pos h, if_pos hw]
theorem fmal_step {u : Nat → Int} {to : Int} {n i k : Nat} (h : (i : Int) < to) (hw : wf u i (to - i) = (k : Int)) (hk : k ≠ 0) : fmal u to (n + 1) i = fmal u to n (i + k) := by
  have h2 : ¬ (wf u i (to - i) = 0) := by omega
  simp only [fmal, if_pos h, if_neg h2]
  rw [hw, Int.toNat_natCast]
def stp (u : Nat → Int) (to s : Int) : Int := if s < 0 ∨ to ≤ s then s else if wf u s.toNat (to - s) = 0 then -1 - s else s + wf u s.toNat (to - s)
def fin1 (s : Int) : Int := if s < 0 then -1 - s else -1
def iter (u : Nat → Int) (to : Int) : Nat → Int → Int
  | 0, s => s
  | n + 1, s => iter u to n (stp u to s)
theorem iter_stay {u : Nat → Int} {to s : Int} (h : s < 0 ∨ to ≤ s) : ∀ n, iter u to n s = s
  | 0 => rfl
  | n + 1 => by
    have e : stp u to s = s := by simp only [stp, if_pos h]
    rw [iter, e]
    exact iter_stay h n
theorem fmal_iter {u : Nat → Int} {to : Int} : ∀ (n i : Nat), to - (i : Int) ≤ n → fmal u to n i = fin1 (iter u to n i)
  | 0, i, h => by
    show -1 = if (i : Int) < 0 then -1 - (i : Int) else -1
    rw [if_neg (by omega)]
  | n + 1, i, h => by
    by_cases hl : (i : Int) < to
    · by_cases hz : wf u i (to - i) = 0
      · have e : stp u to i = -1 - i := by
          have : ¬ ((i : Int) < 0 ∨ to ≤ (i : Int)) := by omega
          simp only [stp, if_neg this, Int.toNat_natCast, if_pos hz]
        rw [fmal_bad hl hz, iter, e, iter_stay (Or.inl (by omega))]
        simp only [fin1, if_pos (show (-1 - (i : Int)) < 0 by omega)]
        omega
      · have r := wf_rng u i (to - i)
        have e : stp u to i = ((i + (wf u i (to - i)).toNat : Nat) : Int) := by
          have : ¬ ((i : Int) < 0 ∨ to ≤ (i : Int)) := by omega
          simp only [stp, if_neg this, Int.toNat_natCast, if_neg hz]
          omega
        rw [fmal_step (k := (wf u i (to - i)).toNat) hl (by omega) (by omega), iter, e]
        exact fmal_iter n _ (by omega)
    · rw [fmal_end hl, iter_stay (Or.inr (by omega))]
      simp only [fin1, if_neg (show ¬ ((i : Int) < 0) by omega)]
theorem rng8 (b : Int32) : 0 ≤ (b &&& (255 : Int32)).toInt ∧ (b &&& (255 : Int32)).toInt ≤ 255 := by
  have := c_mask b (255 : Int32) 8 (by decide) (by decide)
  omega
theorem of255 {x : Int32} (h0 : 0 ≤ x.toInt) (h1 : x.toInt ≤ 255) : ∃ k : Fin 256, x = Int32.ofNat k.val := by
  refine ⟨⟨x.toInt.toNat, by omega⟩, ?_⟩
  apply Int32.toInt_inj.mp
  rw [Int32.toInt_ofNat_of_lt (by omega)]
  show x.toInt = ((x.toInt.toNat : Nat) : Int)
  omega
theorem m128 {x : Int32} (h0 : 0 ≤ x.toInt) (h1 : x.toInt ≤ 255) : (x &&& (128 : Int32)) = (0 : Int32) ↔ x.toInt < 128 := by
  obtain ⟨k, rfl⟩ := of255 h0 h1
  revert k
  decide +kernel
theorem m224 {x : Int32} (h0 : 0 ≤ x.toInt) (h1 : x.toInt ≤ 255) : (x &&& (224 : Int32)) = (192 : Int32) ↔ 192 ≤ x.toInt ∧ x.toInt ≤ 223 := by
  obtain ⟨k, rfl⟩ := of255 h0 h1
  revert k
  decide +kernel
theorem m240 {x : Int32} (h0 : 0 ≤ x.toInt) (h1 : x.toInt ≤ 255) : (x &&& (240 : Int32)) = (224 : Int32) ↔ 224 ≤ x.toInt ∧ x.toInt ≤ 239 := by
  obtain ⟨k, rfl⟩ := of255 h0 h1
  revert k
  decide +kernel
theorem m248 {x : Int32} (h0 : 0 ≤ x.toInt) (h1 : x.toInt ≤ 255) : (x &&& (248 : Int32)) = (240 : Int32) ↔ 240 ≤ x.toInt ∧ x.toInt ≤ 247 := by
  obtain ⟨k, rfl⟩ := of255 h0 h1
  revert k
  decide +kernel
theorem m192 {x : Int32} (h0 : 0 ≤ x.toInt) (h1 : x.toInt ≤ 255) : (x &&& (192 : Int32)) = (128 : Int32) ↔ 128 ≤ x.toInt ∧ x.toInt ≤ 191 := by
  obtain ⟨k, rfl⟩ := of255 h0 h1
  revert k
  decide +kernel
theorem cpt {x y z : Int32} (h0 : 0 ≤ x.toInt) (h1 : x.toInt < 65536) (h : ((x <<< ((6 : Int32) &&& 31)) ||| (y &&& (63 : Int32))) = z) : z.toInt = x.toInt * 64 + y.toInt % 64 := by
  have t1 := c_ishl x (6 : Int32) 6 (by decide)
  have t2 := c_mask y (63 : Int32) 6 (by decide) (by decide)
  have t3 := rng32 (x <<< ((6 : Int32) &&& 31))
  have t4 := c_or (x <<< ((6 : Int32) &&& 31)) (y &&& (63 : Int32)) 6 (by decide) 64 (by decide) (by omega) (by omega) (by omega)
  rw [h] at t4
  have t5 := rng32 z
  omega
theorem ix0 {i : Int32} {I : Nat} (h : i.toInt = (I : Int)) (hb : (I : Int) < 6) : (¬ i < 0 ∧ i < (6 : Int32)) ∧ i.toNatClampNeg = I := by
  have k0 : (0 : Int32).toInt = 0 := by decide
  have k6 : (6 : Int32).toInt = 6 := by decide
  have n0 : ¬ i < 0 := fun q => by have := Int32.lt_iff_toInt_lt.mp q; omega
  refine ⟨⟨n0, Int32.lt_iff_toInt_lt.mpr (by omega)⟩, ?_⟩
  have := nat_of n0
  omega
theorem ix2 {i k : Int32} {I K : Nat} (h : i.toInt = (I : Int)) (hk : k.toInt = (K : Int)) (hb : ((I + K : Nat) : Int) ≤ 6) : (i + k).toInt = ((I + K : Nat) : Int) := by
  have t := c_iadd i k
  have t2 := rng32 (i + k)
  omega
theorem ix {i k : Int32} {I K : Nat} (h : i.toInt = (I : Int)) (hk : k.toInt = (K : Int)) (hb : ((I + K : Nat) : Int) < 6) : (¬ (i + k) < 0 ∧ (i + k) < (6 : Int32)) ∧ (i + k).toNatClampNeg = I + K := ix0 (ix2 h hk (by omega)) hb
theorem avail {i to len : Int32} {I : Nat} (h : i.toInt = (I : Int)) (hlt : (I : Int) < to.toInt) (hto : to.toInt ≤ 6) (hc : ¬ ((to - i) < len)) (hl : 0 ≤ len.toInt) : (I : Int) + len.toInt ≤ to.toInt := by
  have t1 := c_isub to i
  have t2 := rng32 (to - i)
  have t3 := mt Int32.lt_iff_toInt_lt.mpr hc
  omega
theorem bounds {x y fr to : Int32} (hf : ((x &&& (2147483647 : Int32)) % (7 : Int32)) = fr) (ht : (fr + ((y &&& (2147483647 : Int32)) % ((7 : Int32) - fr))) = to) : 0 ≤ fr.toInt ∧ fr.toInt ≤ to.toInt ∧ to.toInt ≤ 6 := by
  have t1 := c_mask x (2147483647 : Int32) 31 (by decide) (by decide)
  have t2 := c_mask y (2147483647 : Int32) 31 (by decide) (by decide)
  have t3 := c_irem (x &&& (2147483647 : Int32)) (7 : Int32) 7 (by decide)
  have t4 := c_iremV (y &&& (2147483647 : Int32)) ((7 : Int32) - fr)
  have t5 := c_isub (7 : Int32) fr
  have t6 := rng32 ((7 : Int32) - fr)
  have t7 : (7 : Int32).toInt = 7 := by decide
  have t8 := c_iadd fr ((y &&& (2147483647 : Int32)) % ((7 : Int32) - fr))
  have t9 := rng32 to
  rw [hf] at t3
  rw [ht] at t8
  omega
theorem sub_nz {x fr : Int32} (hf : ((x &&& (2147483647 : Int32)) % (7 : Int32)) = fr) : ((7 : Int32) - fr) ≠ 0 := by
  have t1 := c_mask x (2147483647 : Int32) 31 (by decide) (by decide)
  have t3 := c_irem (x &&& (2147483647 : Int32)) (7 : Int32) 7 (by decide)
  have t5 := c_isub (7 : Int32) fr
  have t6 := rng32 ((7 : Int32) - fr)
  have t7 : (7 : Int32).toInt = 7 := by decide
  have t8 : (0 : Int32).toInt = 0 := by decide
  rw [hf] at t3
  intro q
  have t9 := congrArg Int32.toInt q
  omega
theorem six (u : Nat → Int) {fr to act s1 s2 s3 s4 s5 s6 : Int32} {F : Nat} (hF : fr.toInt = (F : Int)) (h0 : 0 ≤ fr.toInt) (ht : to.toInt - (F : Int) ≤ 6) (ha : act.toInt = fmal u to.toInt 6 F)
    (h1 : s1.toInt = stp u to.toInt fr.toInt) (h2 : s2.toInt = stp u to.toInt s1.toInt) (h3 : s3.toInt = stp u to.toInt s2.toInt) (h4 : s4.toInt = stp u to.toInt s3.toInt) (h5 : s5.toInt = stp u to.toInt s4.toInt) (h6 : s6.toInt = stp u to.toInt s5.toInt) : act.toInt = fin1 s6.toInt := by
  rw [ha, fmal_iter 6 F (by omega)]
  show fin1 (stp u to.toInt (stp u to.toInt (stp u to.toInt (stp u to.toInt (stp u to.toInt (stp u to.toInt (F : Int))))))) = _
  rw [← hF, ← h1, ← h2, ← h3, ← h4, ← h5, ← h6]
abbrev mn_2 : MethodName := ⟨"com/example/tally3/tally3/usage/Utf8FirstMalformedPinLaw", "step", "([BII)I"⟩
abbrev mn_1 : MethodName := ⟨"com/example/tally3/tally3/usage/Utf8", "firstMalformed", "([BII)I"⟩
abbrev mn_3 : MethodName := ⟨"com/example/tally3/tally3/usage/Utf8FirstMalformedPinLaw", "wellFormedLength", "([BII)I"⟩
abbrev mn_4 : MethodName := ⟨"com/example/tally3/tally3/usage/Utf8", "isBetween", "(BII)Z"⟩
theorem pn_com_example_tally3_tally3_usage_Utf8 : plainName "com/example/tally3/tally3/usage/Utf8" = true := by first | (simp [plainName, overriddenIn]; done) | decide +kernel
theorem d4_0 : decode prog_58_method_3_code 0 = .ok (.iload_n 0, 1) := by decide +kernel
theorem d4_1 : decode prog_58_method_3_code 1 = .ok (.sipush 255, 3) := by decide +kernel
theorem d4_4 : decode prog_58_method_3_code 4 = .ok (.iand, 1) := by decide +kernel
theorem d4_5 : decode prog_58_method_3_code 5 = .ok (.istore_n 3, 1) := by decide +kernel
theorem d4_6 : decode prog_58_method_3_code 6 = .ok (.iload_n 3, 1) := by decide +kernel
theorem d4_7 : decode prog_58_method_3_code 7 = .ok (.iload_n 1, 1) := by decide +kernel
theorem d4_8 : decode prog_58_method_3_code 8 = .ok (.if_icmp .lt 12, 3) := by decide +kernel
theorem d4_20 : decode prog_58_method_3_code 20 = .ok (.iconst 0, 1) := by decide +kernel
theorem d4_21 : decode prog_58_method_3_code 21 = .ok (.ireturn, 1) := by decide +kernel
theorem d4_11 : decode prog_58_method_3_code 11 = .ok (.iload_n 3, 1) := by decide +kernel
theorem d4_12 : decode prog_58_method_3_code 12 = .ok (.iload_n 2, 1) := by decide +kernel
theorem d4_13 : decode prog_58_method_3_code 13 = .ok (.if_icmp .gt 7, 3) := by decide +kernel
theorem d4_16 : decode prog_58_method_3_code 16 = .ok (.iconst 1, 1) := by decide +kernel
theorem d4_17 : decode prog_58_method_3_code 17 = .ok (.goto 4, 3) := by decide +kernel
theorem pn_com_example_tally3_tally3_usage_Utf8FirstMalformedPinLaw : plainName "com/example/tally3/tally3/usage/Utf8FirstMalformedPinLaw" = true := by first | (simp [plainName, overriddenIn]; done) | decide +kernel
theorem d3_0 : decode method_4_code 0 = .ok (.aload_n 0, 1) := by decide +kernel
theorem d3_1 : decode method_4_code 1 = .ok (.iload_n 1, 1) := by decide +kernel
theorem d3_2 : decode method_4_code 2 = .ok (.baload, 1) := by decide +kernel
theorem d3_3 : decode method_4_code 3 = .ok (.sipush 255, 3) := by decide +kernel
theorem d3_6 : decode method_4_code 6 = .ok (.iand, 1) := by decide +kernel
theorem d3_7 : decode method_4_code 7 = .ok (.istore_n 3, 1) := by decide +kernel
theorem d3_8 : decode method_4_code 8 = .ok (.iload_n 3, 1) := by decide +kernel
theorem d3_9 : decode method_4_code 9 = .ok (.sipush 128, 3) := by decide +kernel
theorem d3_12 : decode method_4_code 12 = .ok (.iand, 1) := by decide +kernel
theorem d3_13 : decode method_4_code 13 = .ok (.ifCond .ne 5, 3) := by decide +kernel
theorem d3_16 : decode method_4_code 16 = .ok (.iconst 1, 1) := by decide +kernel
theorem d3_17 : decode method_4_code 17 = .ok (.ireturn, 1) := by decide +kernel
theorem d3_18 : decode method_4_code 18 = .ok (.iload_n 3, 1) := by decide +kernel
theorem d3_19 : decode method_4_code 19 = .ok (.sipush 224, 3) := by decide +kernel
theorem d3_22 : decode method_4_code 22 = .ok (.iand, 1) := by decide +kernel
theorem d3_23 : decode method_4_code 23 = .ok (.sipush 192, 3) := by decide +kernel
theorem d3_26 : decode method_4_code 26 = .ok (.if_icmp .ne 15, 3) := by decide +kernel
theorem d3_29 : decode method_4_code 29 = .ok (.iconst 2, 1) := by decide +kernel
theorem d3_30 : decode method_4_code 30 = .ok (.istore 4, 2) := by decide +kernel
theorem d3_32 : decode method_4_code 32 = .ok (.iload_n 3, 1) := by decide +kernel
theorem d3_33 : decode method_4_code 33 = .ok (.bipush 31, 2) := by decide +kernel
theorem d3_35 : decode method_4_code 35 = .ok (.iand, 1) := by decide +kernel
theorem d3_36 : decode method_4_code 36 = .ok (.istore 5, 2) := by decide +kernel
theorem d3_38 : decode method_4_code 38 = .ok (.goto 51, 3) := by decide +kernel
theorem d3_89 : decode method_4_code 89 = .ok (.iload_n 2, 1) := by decide +kernel
theorem d3_90 : decode method_4_code 90 = .ok (.iload_n 1, 1) := by decide +kernel
theorem d3_91 : decode method_4_code 91 = .ok (.isub, 1) := by decide +kernel
theorem d3_92 : decode method_4_code 92 = .ok (.iload 4, 2) := by decide +kernel
theorem d3_94 : decode method_4_code 94 = .ok (.if_icmp .ge 5, 3) := by decide +kernel
theorem d3_97 : decode method_4_code 97 = .ok (.iconst 0, 1) := by decide +kernel
theorem d3_98 : decode method_4_code 98 = .ok (.ireturn, 1) := by decide +kernel
theorem d3_99 : decode method_4_code 99 = .ok (.aload_n 0, 1) := by decide +kernel
theorem d3_100 : decode method_4_code 100 = .ok (.iload_n 1, 1) := by decide +kernel
theorem d3_101 : decode method_4_code 101 = .ok (.iconst 1, 1) := by decide +kernel
theorem d3_102 : decode method_4_code 102 = .ok (.iadd, 1) := by decide +kernel
theorem d3_103 : decode method_4_code 103 = .ok (.baload, 1) := by decide +kernel
theorem d3_104 : decode method_4_code 104 = .ok (.sipush 255, 3) := by decide +kernel
theorem d3_107 : decode method_4_code 107 = .ok (.iand, 1) := by decide +kernel
theorem d3_108 : decode method_4_code 108 = .ok (.istore 6, 2) := by decide +kernel
theorem d3_110 : decode method_4_code 110 = .ok (.iload 6, 2) := by decide +kernel
theorem d3_112 : decode method_4_code 112 = .ok (.sipush 192, 3) := by decide +kernel
theorem d3_115 : decode method_4_code 115 = .ok (.iand, 1) := by decide +kernel
theorem d3_116 : decode method_4_code 116 = .ok (.sipush 128, 3) := by decide +kernel
theorem d3_119 : decode method_4_code 119 = .ok (.if_icmp .eq 5, 3) := by decide +kernel
theorem d3_124 : decode method_4_code 124 = .ok (.iload 5, 2) := by decide +kernel
theorem d3_126 : decode method_4_code 126 = .ok (.bipush 6, 2) := by decide +kernel
theorem d3_128 : decode method_4_code 128 = .ok (.ishl, 1) := by decide +kernel
theorem d3_129 : decode method_4_code 129 = .ok (.iload 6, 2) := by decide +kernel
theorem d3_131 : decode method_4_code 131 = .ok (.bipush 63, 2) := by decide +kernel
theorem d3_133 : decode method_4_code 133 = .ok (.iand, 1) := by decide +kernel
theorem d3_134 : decode method_4_code 134 = .ok (.ior, 1) := by decide +kernel
theorem d3_135 : decode method_4_code 135 = .ok (.istore 5, 2) := by decide +kernel
theorem d3_137 : decode method_4_code 137 = .ok (.iload 4, 2) := by decide +kernel
theorem d3_139 : decode method_4_code 139 = .ok (.iconst 3, 1) := by decide +kernel
theorem d3_140 : decode method_4_code 140 = .ok (.if_icmp .lt 41, 3) := by decide +kernel
theorem d3_181 : decode method_4_code 181 = .ok (.iload 4, 2) := by decide +kernel
theorem d3_183 : decode method_4_code 183 = .ok (.iconst 4, 1) := by decide +kernel
theorem d3_184 : decode method_4_code 184 = .ok (.if_icmp .ne 41, 3) := by decide +kernel
theorem d3_225 : decode method_4_code 225 = .ok (.iload 4, 2) := by decide +kernel
theorem d3_227 : decode method_4_code 227 = .ok (.iconst 2, 1) := by decide +kernel
theorem d3_228 : decode method_4_code 228 = .ok (.if_icmp .ne 9, 3) := by decide +kernel
theorem d3_231 : decode method_4_code 231 = .ok (.sipush 128, 3) := by decide +kernel
theorem d3_234 : decode method_4_code 234 = .ok (.goto 17, 3) := by decide +kernel
theorem d3_251 : decode method_4_code 251 = .ok (.istore 7, 2) := by decide +kernel
theorem d3_253 : decode method_4_code 253 = .ok (.iload 5, 2) := by decide +kernel
theorem d3_255 : decode method_4_code 255 = .ok (.iload 7, 2) := by decide +kernel
theorem d3_257 : decode method_4_code 257 = .ok (.if_icmp .lt 24, 3) := by decide +kernel
theorem d3_281 : decode method_4_code 281 = .ok (.iconst 0, 1) := by decide +kernel
theorem d3_282 : decode method_4_code 282 = .ok (.ireturn, 1) := by decide +kernel
theorem d3_260 : decode method_4_code 260 = .ok (.iload 5, 2) := by decide +kernel
theorem d3_262 : decode method_4_code 262 = .ok (.ldc 23, 2) := by decide +kernel
theorem d3_264 : decode method_4_code 264 = .ok (.if_icmp .gt 17, 3) := by decide +kernel
theorem d3_267 : decode method_4_code 267 = .ok (.iload 5, 2) := by decide +kernel
theorem d3_269 : decode method_4_code 269 = .ok (.ldc 24, 2) := by decide +kernel
theorem d3_271 : decode method_4_code 271 = .ok (.if_icmp .lt 12, 3) := by decide +kernel
theorem d3_283 : decode method_4_code 283 = .ok (.iload 4, 2) := by decide +kernel
theorem d3_285 : decode method_4_code 285 = .ok (.ireturn, 1) := by decide +kernel
theorem d3_274 : decode method_4_code 274 = .ok (.iload 5, 2) := by decide +kernel
theorem d3_276 : decode method_4_code 276 = .ok (.ldc 25, 2) := by decide +kernel
theorem d3_278 : decode method_4_code 278 = .ok (.if_icmp .gt 5, 3) := by decide +kernel
theorem d3_122 : decode method_4_code 122 = .ok (.iconst 0, 1) := by decide +kernel
theorem d3_123 : decode method_4_code 123 = .ok (.ireturn, 1) := by decide +kernel
theorem d3_41 : decode method_4_code 41 = .ok (.iload_n 3, 1) := by decide +kernel
theorem d3_42 : decode method_4_code 42 = .ok (.sipush 240, 3) := by decide +kernel
theorem d3_45 : decode method_4_code 45 = .ok (.iand, 1) := by decide +kernel
theorem d3_46 : decode method_4_code 46 = .ok (.sipush 224, 3) := by decide +kernel
theorem d3_49 : decode method_4_code 49 = .ok (.if_icmp .ne 15, 3) := by decide +kernel
theorem d3_52 : decode method_4_code 52 = .ok (.iconst 3, 1) := by decide +kernel
theorem d3_53 : decode method_4_code 53 = .ok (.istore 4, 2) := by decide +kernel
theorem d3_55 : decode method_4_code 55 = .ok (.iload_n 3, 1) := by decide +kernel
theorem d3_56 : decode method_4_code 56 = .ok (.bipush 15, 2) := by decide +kernel
theorem d3_58 : decode method_4_code 58 = .ok (.iand, 1) := by decide +kernel
theorem d3_59 : decode method_4_code 59 = .ok (.istore 5, 2) := by decide +kernel
theorem d3_61 : decode method_4_code 61 = .ok (.goto 28, 3) := by decide +kernel
theorem d3_143 : decode method_4_code 143 = .ok (.aload_n 0, 1) := by decide +kernel
theorem d3_144 : decode method_4_code 144 = .ok (.iload_n 1, 1) := by decide +kernel
theorem d3_145 : decode method_4_code 145 = .ok (.iconst 2, 1) := by decide +kernel
theorem d3_146 : decode method_4_code 146 = .ok (.iadd, 1) := by decide +kernel
theorem d3_147 : decode method_4_code 147 = .ok (.baload, 1) := by decide +kernel
theorem d3_148 : decode method_4_code 148 = .ok (.sipush 255, 3) := by decide +kernel
theorem d3_151 : decode method_4_code 151 = .ok (.iand, 1) := by decide +kernel
theorem d3_152 : decode method_4_code 152 = .ok (.istore 7, 2) := by decide +kernel
theorem d3_154 : decode method_4_code 154 = .ok (.iload 7, 2) := by decide +kernel
theorem d3_156 : decode method_4_code 156 = .ok (.sipush 192, 3) := by decide +kernel
theorem d3_159 : decode method_4_code 159 = .ok (.iand, 1) := by decide +kernel
theorem d3_160 : decode method_4_code 160 = .ok (.sipush 128, 3) := by decide +kernel
theorem d3_163 : decode method_4_code 163 = .ok (.if_icmp .eq 5, 3) := by decide +kernel
theorem d3_168 : decode method_4_code 168 = .ok (.iload 5, 2) := by decide +kernel
theorem d3_170 : decode method_4_code 170 = .ok (.bipush 6, 2) := by decide +kernel
theorem d3_172 : decode method_4_code 172 = .ok (.ishl, 1) := by decide +kernel
theorem d3_173 : decode method_4_code 173 = .ok (.iload 7, 2) := by decide +kernel
theorem d3_175 : decode method_4_code 175 = .ok (.bipush 63, 2) := by decide +kernel
theorem d3_177 : decode method_4_code 177 = .ok (.iand, 1) := by decide +kernel
theorem d3_178 : decode method_4_code 178 = .ok (.ior, 1) := by decide +kernel
theorem d3_179 : decode method_4_code 179 = .ok (.istore 5, 2) := by decide +kernel
theorem d3_237 : decode method_4_code 237 = .ok (.iload 4, 2) := by decide +kernel
theorem d3_239 : decode method_4_code 239 = .ok (.iconst 3, 1) := by decide +kernel
theorem d3_240 : decode method_4_code 240 = .ok (.if_icmp .ne 9, 3) := by decide +kernel
theorem d3_243 : decode method_4_code 243 = .ok (.sipush 2048, 3) := by decide +kernel
theorem d3_246 : decode method_4_code 246 = .ok (.goto 5, 3) := by decide +kernel
theorem d3_166 : decode method_4_code 166 = .ok (.iconst 0, 1) := by decide +kernel
theorem d3_167 : decode method_4_code 167 = .ok (.ireturn, 1) := by decide +kernel
theorem d3_64 : decode method_4_code 64 = .ok (.iload_n 3, 1) := by decide +kernel
theorem d3_65 : decode method_4_code 65 = .ok (.sipush 248, 3) := by decide +kernel
theorem d3_68 : decode method_4_code 68 = .ok (.iand, 1) := by decide +kernel
theorem d3_69 : decode method_4_code 69 = .ok (.sipush 240, 3) := by decide +kernel
theorem d3_72 : decode method_4_code 72 = .ok (.if_icmp .ne 15, 3) := by decide +kernel
theorem d3_75 : decode method_4_code 75 = .ok (.iconst 4, 1) := by decide +kernel
theorem d3_76 : decode method_4_code 76 = .ok (.istore 4, 2) := by decide +kernel
theorem d3_78 : decode method_4_code 78 = .ok (.iload_n 3, 1) := by decide +kernel
theorem d3_79 : decode method_4_code 79 = .ok (.bipush 7, 2) := by decide +kernel
theorem d3_81 : decode method_4_code 81 = .ok (.iand, 1) := by decide +kernel
theorem d3_82 : decode method_4_code 82 = .ok (.istore 5, 2) := by decide +kernel
theorem d3_84 : decode method_4_code 84 = .ok (.goto 5, 3) := by decide +kernel
theorem d3_187 : decode method_4_code 187 = .ok (.aload_n 0, 1) := by decide +kernel
theorem d3_188 : decode method_4_code 188 = .ok (.iload_n 1, 1) := by decide +kernel
theorem d3_189 : decode method_4_code 189 = .ok (.iconst 3, 1) := by decide +kernel
theorem d3_190 : decode method_4_code 190 = .ok (.iadd, 1) := by decide +kernel
theorem d3_191 : decode method_4_code 191 = .ok (.baload, 1) := by decide +kernel
theorem d3_192 : decode method_4_code 192 = .ok (.sipush 255, 3) := by decide +kernel
theorem d3_195 : decode method_4_code 195 = .ok (.iand, 1) := by decide +kernel
theorem d3_196 : decode method_4_code 196 = .ok (.istore 7, 2) := by decide +kernel
theorem d3_198 : decode method_4_code 198 = .ok (.iload 7, 2) := by decide +kernel
theorem d3_200 : decode method_4_code 200 = .ok (.sipush 192, 3) := by decide +kernel
theorem d3_203 : decode method_4_code 203 = .ok (.iand, 1) := by decide +kernel
theorem d3_204 : decode method_4_code 204 = .ok (.sipush 128, 3) := by decide +kernel
theorem d3_207 : decode method_4_code 207 = .ok (.if_icmp .eq 5, 3) := by decide +kernel
theorem d3_212 : decode method_4_code 212 = .ok (.iload 5, 2) := by decide +kernel
theorem d3_214 : decode method_4_code 214 = .ok (.bipush 6, 2) := by decide +kernel
theorem d3_216 : decode method_4_code 216 = .ok (.ishl, 1) := by decide +kernel
theorem d3_217 : decode method_4_code 217 = .ok (.iload 7, 2) := by decide +kernel
theorem d3_219 : decode method_4_code 219 = .ok (.bipush 63, 2) := by decide +kernel
theorem d3_221 : decode method_4_code 221 = .ok (.iand, 1) := by decide +kernel
theorem d3_222 : decode method_4_code 222 = .ok (.ior, 1) := by decide +kernel
theorem d3_223 : decode method_4_code 223 = .ok (.istore 5, 2) := by decide +kernel
theorem d3_249 : decode method_4_code 249 = .ok (.ldc 22, 2) := by decide +kernel
theorem d3_210 : decode method_4_code 210 = .ok (.iconst 0, 1) := by decide +kernel
theorem d3_211 : decode method_4_code 211 = .ok (.ireturn, 1) := by decide +kernel
theorem d3_87 : decode method_4_code 87 = .ok (.iconst 0, 1) := by decide +kernel
theorem d3_88 : decode method_4_code 88 = .ok (.ireturn, 1) := by decide +kernel
theorem d1_2 : decode prog_58_method_2_code 2 = .ok (.iload_n 3, 1) := by decide +kernel
theorem d1_3 : decode prog_58_method_2_code 3 = .ok (.iload_n 2, 1) := by decide +kernel
theorem d1_4 : decode prog_58_method_2_code 4 = .ok (.if_icmp .ge 245, 3) := by decide +kernel
theorem d1_249 : decode prog_58_method_2_code 249 = .ok (.iconst (-1), 1) := by decide +kernel
theorem d1_250 : decode prog_58_method_2_code 250 = .ok (.ireturn, 1) := by decide +kernel
theorem d1_7 : decode prog_58_method_2_code 7 = .ok (.aload_n 0, 1) := by decide +kernel
theorem d1_8 : decode prog_58_method_2_code 8 = .ok (.iload_n 3, 1) := by decide +kernel
theorem d1_9 : decode prog_58_method_2_code 9 = .ok (.baload, 1) := by decide +kernel
theorem d1_10 : decode prog_58_method_2_code 10 = .ok (.sipush 255, 3) := by decide +kernel
theorem d1_13 : decode prog_58_method_2_code 13 = .ok (.iand, 1) := by decide +kernel
theorem d1_14 : decode prog_58_method_2_code 14 = .ok (.istore 4, 2) := by decide +kernel
theorem d1_16 : decode prog_58_method_2_code 16 = .ok (.iload 4, 2) := by decide +kernel
theorem d1_18 : decode prog_58_method_2_code 18 = .ok (.sipush 128, 3) := by decide +kernel
theorem d1_21 : decode prog_58_method_2_code 21 = .ok (.if_icmp .ge 9, 3) := by decide +kernel
theorem d1_24 : decode prog_58_method_2_code 24 = .ok (.iinc 3 1, 3) := by decide +kernel
theorem d1_27 : decode prog_58_method_2_code 27 = .ok (.goto (-25), 3) := by decide +kernel
theorem d1_30 : decode prog_58_method_2_code 30 = .ok (.sipush 128, 3) := by decide +kernel
theorem d1_33 : decode prog_58_method_2_code 33 = .ok (.istore 6, 2) := by decide +kernel
theorem d1_35 : decode prog_58_method_2_code 35 = .ok (.sipush 191, 3) := by decide +kernel
theorem d1_38 : decode prog_58_method_2_code 38 = .ok (.istore 7, 2) := by decide +kernel
theorem d1_40 : decode prog_58_method_2_code 40 = .ok (.iload 4, 2) := by decide +kernel
theorem d1_42 : decode prog_58_method_2_code 42 = .ok (.sipush 194, 3) := by decide +kernel
theorem d1_45 : decode prog_58_method_2_code 45 = .ok (.if_icmp .lt 17, 3) := by decide +kernel
theorem d1_62 : decode prog_58_method_2_code 62 = .ok (.iload 4, 2) := by decide +kernel
theorem d1_64 : decode prog_58_method_2_code 64 = .ok (.sipush 224, 3) := by decide +kernel
theorem d1_67 : decode prog_58_method_2_code 67 = .ok (.if_icmp .lt 53, 3) := by decide +kernel
theorem d1_120 : decode prog_58_method_2_code 120 = .ok (.iload 4, 2) := by decide +kernel
theorem d1_122 : decode prog_58_method_2_code 122 = .ok (.sipush 240, 3) := by decide +kernel
theorem d1_125 : decode prog_58_method_2_code 125 = .ok (.if_icmp .lt 53, 3) := by decide +kernel
theorem d1_178 : decode prog_58_method_2_code 178 = .ok (.iload_n 3, 1) := by decide +kernel
theorem d1_179 : decode prog_58_method_2_code 179 = .ok (.ireturn, 1) := by decide +kernel
theorem d1_48 : decode prog_58_method_2_code 48 = .ok (.iload 4, 2) := by decide +kernel
theorem d1_50 : decode prog_58_method_2_code 50 = .ok (.sipush 223, 3) := by decide +kernel
theorem d1_53 : decode prog_58_method_2_code 53 = .ok (.if_icmp .gt 9, 3) := by decide +kernel
theorem d1_70 : decode prog_58_method_2_code 70 = .ok (.iload 4, 2) := by decide +kernel
theorem d1_72 : decode prog_58_method_2_code 72 = .ok (.sipush 239, 3) := by decide +kernel
theorem d1_75 : decode prog_58_method_2_code 75 = .ok (.if_icmp .gt 45, 3) := by decide +kernel
theorem d1_128 : decode prog_58_method_2_code 128 = .ok (.iload 4, 2) := by decide +kernel
theorem d1_130 : decode prog_58_method_2_code 130 = .ok (.sipush 244, 3) := by decide +kernel
theorem d1_133 : decode prog_58_method_2_code 133 = .ok (.if_icmp .gt 45, 3) := by decide +kernel
theorem d1_136 : decode prog_58_method_2_code 136 = .ok (.iconst 4, 1) := by decide +kernel
theorem d1_137 : decode prog_58_method_2_code 137 = .ok (.istore 5, 2) := by decide +kernel
theorem d1_139 : decode prog_58_method_2_code 139 = .ok (.iload 4, 2) := by decide +kernel
theorem d1_141 : decode prog_58_method_2_code 141 = .ok (.sipush 240, 3) := by decide +kernel
theorem d1_144 : decode prog_58_method_2_code 144 = .ok (.if_icmp .ne 9, 3) := by decide +kernel
theorem d1_147 : decode prog_58_method_2_code 147 = .ok (.sipush 144, 3) := by decide +kernel
theorem d1_150 : decode prog_58_method_2_code 150 = .ok (.goto 5, 3) := by decide +kernel
theorem d1_155 : decode prog_58_method_2_code 155 = .ok (.istore 6, 2) := by decide +kernel
theorem d1_157 : decode prog_58_method_2_code 157 = .ok (.iload 4, 2) := by decide +kernel
theorem d1_159 : decode prog_58_method_2_code 159 = .ok (.sipush 244, 3) := by decide +kernel
theorem d1_162 : decode prog_58_method_2_code 162 = .ok (.if_icmp .ne 9, 3) := by decide +kernel
theorem d1_171 : decode prog_58_method_2_code 171 = .ok (.iload 7, 2) := by decide +kernel
theorem d1_173 : decode prog_58_method_2_code 173 = .ok (.istore 7, 2) := by decide +kernel
theorem d1_175 : decode prog_58_method_2_code 175 = .ok (.goto 5, 3) := by decide +kernel
theorem d1_180 : decode prog_58_method_2_code 180 = .ok (.iload_n 2, 1) := by decide +kernel
theorem d1_181 : decode prog_58_method_2_code 181 = .ok (.iload_n 3, 1) := by decide +kernel
theorem d1_182 : decode prog_58_method_2_code 182 = .ok (.isub, 1) := by decide +kernel
theorem d1_183 : decode prog_58_method_2_code 183 = .ok (.iload 5, 2) := by decide +kernel
theorem d1_185 : decode prog_58_method_2_code 185 = .ok (.if_icmp .lt 18, 3) := by decide +kernel
theorem d1_203 : decode prog_58_method_2_code 203 = .ok (.iload_n 3, 1) := by decide +kernel
theorem d1_204 : decode prog_58_method_2_code 204 = .ok (.ireturn, 1) := by decide +kernel
theorem d1_188 : decode prog_58_method_2_code 188 = .ok (.aload_n 0, 1) := by decide +kernel
theorem d1_189 : decode prog_58_method_2_code 189 = .ok (.iload_n 3, 1) := by decide +kernel
theorem d1_190 : decode prog_58_method_2_code 190 = .ok (.iconst 1, 1) := by decide +kernel
theorem d1_191 : decode prog_58_method_2_code 191 = .ok (.iadd, 1) := by decide +kernel
theorem d1_192 : decode prog_58_method_2_code 192 = .ok (.baload, 1) := by decide +kernel
theorem d1_193 : decode prog_58_method_2_code 193 = .ok (.iload 6, 2) := by decide +kernel
theorem d1_195 : decode prog_58_method_2_code 195 = .ok (.iload 7, 2) := by decide +kernel
theorem d1_197 : decode prog_58_method_2_code 197 = .ok (.invokestatic 9, 3) := by decide +kernel
theorem pd_0 : parseMethodDescriptor "(BII)Z" = some ⟨[.byte, .int, .int], some .boolean⟩ := by decide +kernel
theorem d1_200 : decode prog_58_method_2_code 200 = .ok (.ifCond .ne 5, 3) := by decide +kernel
theorem d1_205 : decode prog_58_method_2_code 205 = .ok (.iconst 2, 1) := by decide +kernel
theorem d1_206 : decode prog_58_method_2_code 206 = .ok (.istore 8, 2) := by decide +kernel
theorem d1_208 : decode prog_58_method_2_code 208 = .ok (.iload 8, 2) := by decide +kernel
theorem d1_210 : decode prog_58_method_2_code 210 = .ok (.iload 5, 2) := by decide +kernel
theorem d1_212 : decode prog_58_method_2_code 212 = .ok (.if_icmp .ge 29, 3) := by decide +kernel
theorem d1_215 : decode prog_58_method_2_code 215 = .ok (.aload_n 0, 1) := by decide +kernel
theorem d1_216 : decode prog_58_method_2_code 216 = .ok (.iload_n 3, 1) := by decide +kernel
theorem d1_217 : decode prog_58_method_2_code 217 = .ok (.iload 8, 2) := by decide +kernel
theorem d1_219 : decode prog_58_method_2_code 219 = .ok (.iadd, 1) := by decide +kernel
theorem d1_220 : decode prog_58_method_2_code 220 = .ok (.baload, 1) := by decide +kernel
theorem d1_221 : decode prog_58_method_2_code 221 = .ok (.sipush 128, 3) := by decide +kernel
theorem d1_224 : decode prog_58_method_2_code 224 = .ok (.sipush 191, 3) := by decide +kernel
theorem d1_227 : decode prog_58_method_2_code 227 = .ok (.invokestatic 9, 3) := by decide +kernel
theorem d1_230 : decode prog_58_method_2_code 230 = .ok (.ifCond .ne 5, 3) := by decide +kernel
theorem d1_233 : decode prog_58_method_2_code 233 = .ok (.iload_n 3, 1) := by decide +kernel
theorem d1_234 : decode prog_58_method_2_code 234 = .ok (.ireturn, 1) := by decide +kernel
theorem d1_235 : decode prog_58_method_2_code 235 = .ok (.iinc 8 1, 3) := by decide +kernel
theorem d1_238 : decode prog_58_method_2_code 238 = .ok (.goto (-30), 3) := by decide +kernel
theorem d1_241 : decode prog_58_method_2_code 241 = .ok (.iload_n 3, 1) := by decide +kernel
theorem d1_242 : decode prog_58_method_2_code 242 = .ok (.iload 5, 2) := by decide +kernel
theorem d1_244 : decode prog_58_method_2_code 244 = .ok (.iadd, 1) := by decide +kernel
theorem d1_245 : decode prog_58_method_2_code 245 = .ok (.istore_n 3, 1) := by decide +kernel
theorem d1_246 : decode prog_58_method_2_code 246 = .ok (.goto (-244), 3) := by decide +kernel
theorem d1_153 : decode prog_58_method_2_code 153 = .ok (.iload 6, 2) := by decide +kernel
theorem d1_165 : decode prog_58_method_2_code 165 = .ok (.sipush 143, 3) := by decide +kernel
theorem d1_168 : decode prog_58_method_2_code 168 = .ok (.goto 5, 3) := by decide +kernel
theorem d1_78 : decode prog_58_method_2_code 78 = .ok (.iconst 3, 1) := by decide +kernel
theorem d1_79 : decode prog_58_method_2_code 79 = .ok (.istore 5, 2) := by decide +kernel
theorem d1_81 : decode prog_58_method_2_code 81 = .ok (.iload 4, 2) := by decide +kernel
theorem d1_83 : decode prog_58_method_2_code 83 = .ok (.sipush 224, 3) := by decide +kernel
theorem d1_86 : decode prog_58_method_2_code 86 = .ok (.if_icmp .ne 9, 3) := by decide +kernel
theorem d1_89 : decode prog_58_method_2_code 89 = .ok (.sipush 160, 3) := by decide +kernel
theorem d1_92 : decode prog_58_method_2_code 92 = .ok (.goto 5, 3) := by decide +kernel
theorem d1_97 : decode prog_58_method_2_code 97 = .ok (.istore 6, 2) := by decide +kernel
theorem d1_99 : decode prog_58_method_2_code 99 = .ok (.iload 4, 2) := by decide +kernel
theorem d1_101 : decode prog_58_method_2_code 101 = .ok (.sipush 237, 3) := by decide +kernel
theorem d1_104 : decode prog_58_method_2_code 104 = .ok (.if_icmp .ne 9, 3) := by decide +kernel
theorem d1_113 : decode prog_58_method_2_code 113 = .ok (.iload 7, 2) := by decide +kernel
theorem d1_115 : decode prog_58_method_2_code 115 = .ok (.istore 7, 2) := by decide +kernel
theorem d1_117 : decode prog_58_method_2_code 117 = .ok (.goto 63, 3) := by decide +kernel
theorem d1_95 : decode prog_58_method_2_code 95 = .ok (.iload 6, 2) := by decide +kernel
theorem d1_107 : decode prog_58_method_2_code 107 = .ok (.sipush 159, 3) := by decide +kernel
theorem d1_110 : decode prog_58_method_2_code 110 = .ok (.goto 5, 3) := by decide +kernel
theorem d1_56 : decode prog_58_method_2_code 56 = .ok (.iconst 2, 1) := by decide +kernel
theorem d1_57 : decode prog_58_method_2_code 57 = .ok (.istore 5, 2) := by decide +kernel
theorem d1_59 : decode prog_58_method_2_code 59 = .ok (.goto 121, 3) := by decide +kernel
theorem d1_0 : decode prog_58_method_2_code 0 = .ok (.iload_n 1, 1) := by decide +kernel
theorem d1_1 : decode prog_58_method_2_code 1 = .ok (.istore_n 3, 1) := by decide +kernel
theorem d2_0 : decode method_3_code 0 = .ok (.iload_n 1, 1) := by decide +kernel
theorem d2_1 : decode method_3_code 1 = .ok (.ifCond .lt 8, 3) := by decide +kernel
theorem d2_9 : decode method_3_code 9 = .ok (.iload_n 1, 1) := by decide +kernel
theorem d2_10 : decode method_3_code 10 = .ok (.ireturn, 1) := by decide +kernel
theorem d2_4 : decode method_3_code 4 = .ok (.iload_n 1, 1) := by decide +kernel
theorem d2_5 : decode method_3_code 5 = .ok (.iload_n 2, 1) := by decide +kernel
theorem d2_6 : decode method_3_code 6 = .ok (.if_icmp .lt 5, 3) := by decide +kernel
theorem d2_11 : decode method_3_code 11 = .ok (.aload_n 0, 1) := by decide +kernel
theorem d2_12 : decode method_3_code 12 = .ok (.iload_n 1, 1) := by decide +kernel
theorem d2_13 : decode method_3_code 13 = .ok (.iload_n 2, 1) := by decide +kernel
theorem d2_14 : decode method_3_code 14 = .ok (.invokestatic 19, 3) := by decide +kernel
theorem pd_1 : parseMethodDescriptor "([BII)I" = some ⟨[(.array .byte), .int, .int], some .int⟩ := by decide +kernel
theorem d2_17 : decode method_3_code 17 = .ok (.istore_n 3, 1) := by decide +kernel
theorem d2_18 : decode method_3_code 18 = .ok (.iload_n 3, 1) := by decide +kernel
theorem d2_19 : decode method_3_code 19 = .ok (.ifCond .ne 7, 3) := by decide +kernel
theorem d2_22 : decode method_3_code 22 = .ok (.iconst (-1), 1) := by decide +kernel
theorem d2_23 : decode method_3_code 23 = .ok (.iload_n 1, 1) := by decide +kernel
theorem d2_24 : decode method_3_code 24 = .ok (.isub, 1) := by decide +kernel
theorem d2_25 : decode method_3_code 25 = .ok (.ireturn, 1) := by decide +kernel
theorem d2_26 : decode method_3_code 26 = .ok (.iload_n 1, 1) := by decide +kernel
theorem d2_27 : decode method_3_code 27 = .ok (.iload_n 3, 1) := by decide +kernel
theorem d2_28 : decode method_3_code 28 = .ok (.iadd, 1) := by decide +kernel
theorem d2_29 : decode method_3_code 29 = .ok (.ireturn, 1) := by decide +kernel
theorem ef_ib (m : MethodId) (x0 : Int32) (x1 : Int32) (x2 : Int32) : entryFrame m #[(.int x0), (.int x1), (.int x2)] 4 = mkF m 0 #[.val (.int x0), .val (.int x1), .val (.int x2), .unset] [] := by first | (simp [entryFrame, mkF, argsToLocals, Value.category]; done) | rfl
set_option maxRecDepth 65536 in
set_option maxHeartbeats 40000000 in
theorem rm_ib (l : Launch) (Z : State) (a0 : Array Value) (hw : ∀ d ∈ tables_1, d.before a0 Z = true) (x0 : Int32) (x1 : Int32) (x2 : Int32) (h0 : Heap)  :
    Ct l mn_4 prog_58_method_3_code 4 (some .boolean) ({ frames := 0, cells := 0, slots := 0, locals := 0 } : Room) Z h0 #[(.int x0), (.int x1), (.int x2)] (fun v h L => ∃ r, v = some (.int r) ∧ (((x0 &&& (255 : Int32)) < x1 ∧ r = (0 : Int32)) ∨ (¬ ((x0 &&& (255 : Int32)) < x1) ∧ x2 < (x0 &&& (255 : Int32)) ∧ r = (0 : Int32)) ∨ (¬ ((x0 &&& (255 : Int32)) < x1) ∧ ¬ (x2 < (x0 &&& (255 : Int32))) ∧ r = (1 : Int32))) ∧ L = [] ∧ h = h0) := by
  refine Ct.body (plainFor_of_name pn_com_example_tally3_tally3_usage_Utf8) ?_
  intro p e s m below meth c T0 hx hby hml hown hnm hret hlk hZ X0 e0
  refine Go.cast (ef_ib m x0 x1 x2) ?_
  show Go p e below _ T0 (mkF m 0 #[.val (.int x0), .val (.int x1), .val (.int x2), .unset] [])
  refine Go.s_iloadN X0 hx (hb hby d4_0) (q := 1) rfl rfl ?_
  refine Go.s_sipush X0 hx (hb hby d4_1) (q := 4) rfl (z := 255) rfl ?_
  refine Go.s_iand X0 hx (hb hby d4_4) (q := 5) rfl ?_
  refine Go.s_istoreN X0 hx (hb hby d4_5) (q := 6) rfl (l' := #[.val (.int x0), .val (.int x1), .val (.int x2), .val (.int (x0 &&& (255 : Int32)))]) rfl ?_
  refine Go.s_iloadN X0 hx (hb hby d4_6) (q := 7) rfl rfl ?_
  refine Go.s_iloadN X0 hx (hb hby d4_7) (q := 8) rfl rfl ?_
  by_cases c8_1 : (x0 &&& (255 : Int32)) < x1
  · -- pc 8: (x0 &&& (255 : Int32)) < x1
    refine Go.s_icmpYes X0 hx (hb hby d4_8) (q := 20) (by decide) (by decide) (tlt c8_1).1 ?_
    refine Go.s_iconst X0 hx (hb hby d4_20) (q := 21) rfl (z := 0) rfl ?_
    refine Go.retN X0 hx hlk hret (by simp) (hb hby d4_21) (by decide) (by decide) ?_
    try rw [e0]
    exact ⟨_, rfl, Or.inl ⟨c8_1, (by decide)⟩, rfl, rfl⟩
  · -- pc 8: not (x0 &&& (255 : Int32)) < x1
    refine Go.s_icmpNo X0 hx (hb hby d4_8) (q := 11) rfl (flt c8_1).1 ?_
    refine Go.s_iloadN X0 hx (hb hby d4_11) (q := 12) rfl rfl ?_
    refine Go.s_iloadN X0 hx (hb hby d4_12) (q := 13) rfl rfl ?_
    by_cases c13_2 : x2 < (x0 &&& (255 : Int32))
    · -- pc 13: x2 < (x0 &&& (255 : Int32))
      refine Go.s_icmpYes X0 hx (hb hby d4_13) (q := 20) (by decide) (by decide) (tlt c13_2).2.2.1 ?_
      refine Go.s_iconst X0 hx (hb hby d4_20) (q := 21) rfl (z := 0) rfl ?_
      refine Go.retN X0 hx hlk hret (by simp) (hb hby d4_21) (by decide) (by decide) ?_
      try rw [e0]
      exact ⟨_, rfl, Or.inr (Or.inl ⟨c8_1, c13_2, (by decide)⟩), rfl, rfl⟩
    · -- pc 13: not x2 < (x0 &&& (255 : Int32))
      refine Go.s_icmpNo X0 hx (hb hby d4_13) (q := 16) rfl (flt c13_2).2.2.1 ?_
      refine Go.s_iconst X0 hx (hb hby d4_16) (q := 17) rfl (z := 1) rfl ?_
      refine Go.s_goto X0 hx (hb hby d4_17) (q := 21) (by decide) (by decide) ?_
      refine Go.retN X0 hx hlk hret (by simp) (hb hby d4_21) (by decide) (by decide) ?_
      try rw [e0]
      exact ⟨_, rfl, Or.inr (Or.inr (⟨c8_1, c13_2, (by decide)⟩)), rfl, rfl⟩
theorem ef_wl (m : MethodId) (x0 : Addr) (x1 : Int32) (x2 : Int32) : entryFrame m #[(.ref x0), (.int x1), (.int x2)] 8 = mkF m 0 #[.val (.ref x0), .val (.int x1), .val (.int x2), .unset, .unset, .unset, .unset, .unset] [] := by first | (simp [entryFrame, mkF, argsToLocals, Value.category]; done) | rfl
set_option maxRecDepth 65536 in
set_option maxHeartbeats 40000000 in
theorem rm_wl (l : Launch) (Z : State) (a0 : Array Value) (hw : ∀ d ∈ tables_1, d.before a0 Z = true) (a : Addr) (i : Int32) (to : Int32) (h0 : Heap) (kc : ClassId) (bs : List Int32) (I : Nat) (V_a : Arv Z h0 a kc .byte (6 : Int32) (bs.map Value.int) (.int 0)) (hiI : i.toInt = (I : Int)) (hlt : (I : Int) < to.toInt) (hto : to.toInt ≤ 6) :
    Ct l mn_3 method_4_code 8 (some .int) ({ frames := 0, cells := 0, slots := 0, locals := 0 } : Room) Z h0 #[(.ref a), (.int i), (.int to)] (fun v h L => ∃ r, v = some (.int r) ∧ r.toInt = wf (uu bs) I (to.toInt - I) ∧ L = [] ∧ h = h0) := by
  refine Ct.body (plainFor_of_name pn_com_example_tally3_tally3_usage_Utf8FirstMalformedPinLaw) ?_
  intro p e s m below meth c T0 hx hby hml hown hnm hret hlk hZ X0 e0
  refine Go.cast (ef_wl m a i to) ?_
  show Go p e below _ T0 (mkF m 0 #[.val (.ref a), .val (.int i), .val (.int to), .unset, .unset, .unset, .unset, .unset] [])
  refine Go.s_aloadN X0 hx (hb hby d3_0) (q := 1) rfl rfl rfl ?_
  refine Go.s_iloadN X0 hx (hb hby d3_1) (q := 2) rfl rfl ?_
  obtain ⟨hj1, hn1⟩ := ix0 hiI (by omega)
  refine Go.ldB X0 hx hZ e0 V_a hj1 (w := (.int (bs.getD I 0))) (by rw [hn1]; exact getD_mapI bs _) (hb hby d3_2) ?_
  show Go p e below _ T0 (mkF m 3 #[.val (.ref a), .val (.int i), .val (.int to), .unset, .unset, .unset, .unset, .unset] [(.int (bs.getD I 0))])
  refine Go.s_sipush X0 hx (hb hby d3_3) (q := 6) rfl (z := 255) rfl ?_
  refine Go.s_iand X0 hx (hb hby d3_6) (q := 7) rfl ?_
  refine Go.s_istoreN X0 hx (hb hby d3_7) (q := 8) rfl (l' := #[.val (.ref a), .val (.int i), .val (.int to), .val (.int ((bs.getD I 0) &&& (255 : Int32))), .unset, .unset, .unset, .unset]) rfl ?_
  generalize hv2 : ((bs.getD I 0) &&& (255 : Int32)) = v2
  refine Go.s_iloadN X0 hx (hb hby d3_8) (q := 9) rfl rfl ?_
  refine Go.s_sipush X0 hx (hb hby d3_9) (q := 12) rfl (z := 128) rfl ?_
  refine Go.s_iand X0 hx (hb hby d3_12) (q := 13) rfl ?_
  by_cases c13_3 : (v2 &&& (128 : Int32)) = (0 : Int32)
  · -- pc 13: (v2 &&& (128 : Int32)) = (0 : Int32)
    refine Go.s_ifNo X0 hx (hb hby d3_13) (q := 16) rfl ((if0 _ _).trans (teq c13_3).2) ?_
    refine Go.s_iconst X0 hx (hb hby d3_16) (q := 17) rfl (z := 1) rfl ?_
    refine Go.retI X0 hx hlk hret (hb hby d3_17) (by decide) (by decide) ?_
    try rw [e0]
    refine ⟨_, rfl, ?_, rfl, rfl⟩
    have := congrArg Int32.toInt hv2
    have := rng8 (bs.getD I 0)
    have := (by decide : (0 : Int32).toInt = 0)
    have := (by decide : (1 : Int32).toInt = 1)
    have := (by decide : (128 : Int32).toInt = 128)
    have := (m128 (x := v2) (by omega) (by omega)).mp c13_3
    simp only [wf, uu]
    repeat' split
    all_goals omega
  · -- pc 13: not (v2 &&& (128 : Int32)) = (0 : Int32)
    refine Go.s_ifYes X0 hx (hb hby d3_13) (q := 18) (by decide) (by decide) ((if0 _ _).trans (feq c13_3).2) ?_
    refine Go.s_iloadN X0 hx (hb hby d3_18) (q := 19) rfl rfl ?_
    refine Go.s_sipush X0 hx (hb hby d3_19) (q := 22) rfl (z := 224) rfl ?_
    refine Go.s_iand X0 hx (hb hby d3_22) (q := 23) rfl ?_
    refine Go.s_sipush X0 hx (hb hby d3_23) (q := 26) rfl (z := 192) rfl ?_
    by_cases c26_4 : (v2 &&& (224 : Int32)) = (192 : Int32)
    · -- pc 26: (v2 &&& (224 : Int32)) = (192 : Int32)
      refine Go.s_icmpNo X0 hx (hb hby d3_26) (q := 29) rfl (teq c26_4).2 ?_
      refine Go.s_iconst X0 hx (hb hby d3_29) (q := 30) rfl (z := 2) rfl ?_
      refine Go.s_istore X0 hx (hb hby d3_30) (q := 32) rfl (l' := #[.val (.ref a), .val (.int i), .val (.int to), .val (.int v2), .val (.int (2 : Int32)), .unset, .unset, .unset]) rfl ?_
      refine Go.s_iloadN X0 hx (hb hby d3_32) (q := 33) rfl rfl ?_
      refine Go.s_bipush X0 hx (hb hby d3_33) (q := 35) rfl (z := 31) rfl ?_
      refine Go.s_iand X0 hx (hb hby d3_35) (q := 36) rfl ?_
      refine Go.s_istore X0 hx (hb hby d3_36) (q := 38) rfl (l' := #[.val (.ref a), .val (.int i), .val (.int to), .val (.int v2), .val (.int (2 : Int32)), .val (.int (v2 &&& (31 : Int32))), .unset, .unset]) rfl ?_
      generalize hv5 : (v2 &&& (31 : Int32)) = v5
      refine Go.s_goto X0 hx (hb hby d3_38) (q := 89) (by decide) (by decide) ?_
      refine Go.s_iloadN X0 hx (hb hby d3_89) (q := 90) rfl rfl ?_
      refine Go.s_iloadN X0 hx (hb hby d3_90) (q := 91) rfl rfl ?_
      refine Go.s_isub X0 hx (hb hby d3_91) (q := 92) rfl ?_
      refine Go.s_iload X0 hx (hb hby d3_92) (q := 94) rfl rfl ?_
      by_cases c94_6 : (to - i) < (2 : Int32)
      · -- pc 94: (to - i) < (2 : Int32)
        refine Go.s_icmpNo X0 hx (hb hby d3_94) (q := 97) rfl (tlt c94_6).2.1 ?_
        refine Go.s_iconst X0 hx (hb hby d3_97) (q := 98) rfl (z := 0) rfl ?_
        refine Go.retI X0 hx hlk hret (hb hby d3_98) (by decide) (by decide) ?_
        try rw [e0]
        refine ⟨_, rfl, ?_, rfl, rfl⟩
        have := congrArg Int32.toInt hv2
        have := rng8 (bs.getD I 0)
        have := congrArg Int32.toInt hv5
        have := c_mask v2 (31 : Int32) 5 (by decide) (by decide)
        have := (by decide : (0 : Int32).toInt = 0)
        have := (by decide : (2 : Int32).toInt = 2)
        have := (by decide : (128 : Int32).toInt = 128)
        have := (by decide : (192 : Int32).toInt = 192)
        have := (by decide : (224 : Int32).toInt = 224)
        have := mt (m128 (x := v2) (by omega) (by omega)).mpr c13_3
        have := (m224 (x := v2) (by omega) (by omega)).mp c26_4
        have := c_isub to i
        have := rng32 (to - i)
        have := Int32.lt_iff_toInt_lt.mp c94_6
        simp only [wf, uu]
        repeat' split
        all_goals omega
      · -- pc 94: not (to - i) < (2 : Int32)
        refine Go.s_icmpYes X0 hx (hb hby d3_94) (q := 99) (by decide) (by decide) (flt c94_6).2.1 ?_
        have nb := avail hiI hlt hto c94_6 (by decide)
        have kk2 : (2 : Int32).toInt = 2 := by decide
        have kk3 : (3 : Int32).toInt = 3 := by decide
        have kk4 : (4 : Int32).toInt = 4 := by decide
        refine Go.s_aloadN X0 hx (hb hby d3_99) (q := 100) rfl rfl rfl ?_
        refine Go.s_iloadN X0 hx (hb hby d3_100) (q := 101) rfl rfl ?_
        refine Go.s_iconst X0 hx (hb hby d3_101) (q := 102) rfl (z := 1) rfl ?_
        refine Go.s_iadd X0 hx (hb hby d3_102) (q := 103) rfl ?_
        obtain ⟨hj7, hn7⟩ := ix (k := (1 : Int32)) (K := 1) hiI (by decide) (by omega)
        refine Go.ldB X0 hx hZ e0 V_a hj7 (w := (.int (bs.getD (I + 1) 0))) (by rw [hn7]; exact getD_mapI bs _) (hb hby d3_103) ?_
        show Go p e below _ T0 (mkF m 104 #[.val (.ref a), .val (.int i), .val (.int to), .val (.int v2), .val (.int (2 : Int32)), .val (.int v5), .unset, .unset] [(.int (bs.getD (I + 1) 0))])
        refine Go.s_sipush X0 hx (hb hby d3_104) (q := 107) rfl (z := 255) rfl ?_
        refine Go.s_iand X0 hx (hb hby d3_107) (q := 108) rfl ?_
        refine Go.s_istore X0 hx (hb hby d3_108) (q := 110) rfl (l' := #[.val (.ref a), .val (.int i), .val (.int to), .val (.int v2), .val (.int (2 : Int32)), .val (.int v5), .val (.int ((bs.getD (I + 1) 0) &&& (255 : Int32))), .unset]) rfl ?_
        generalize hv8 : ((bs.getD (I + 1) 0) &&& (255 : Int32)) = v8
        refine Go.s_iload X0 hx (hb hby d3_110) (q := 112) rfl rfl ?_
        refine Go.s_sipush X0 hx (hb hby d3_112) (q := 115) rfl (z := 192) rfl ?_
        refine Go.s_iand X0 hx (hb hby d3_115) (q := 116) rfl ?_
        refine Go.s_sipush X0 hx (hb hby d3_116) (q := 119) rfl (z := 128) rfl ?_
        by_cases c119_9 : (v8 &&& (192 : Int32)) = (128 : Int32)
        · -- pc 119: (v8 &&& (192 : Int32)) = (128 : Int32)
          refine Go.s_icmpYes X0 hx (hb hby d3_119) (q := 124) (by decide) (by decide) (teq c119_9).1 ?_
          refine Go.s_iload X0 hx (hb hby d3_124) (q := 126) rfl rfl ?_
          refine Go.s_bipush X0 hx (hb hby d3_126) (q := 128) rfl (z := 6) rfl ?_
          refine Go.s_ishl X0 hx (hb hby d3_128) (q := 129) rfl ?_
          refine Go.s_iload X0 hx (hb hby d3_129) (q := 131) rfl rfl ?_
          refine Go.s_bipush X0 hx (hb hby d3_131) (q := 133) rfl (z := 63) rfl ?_
          refine Go.s_iand X0 hx (hb hby d3_133) (q := 134) rfl ?_
          refine Go.s_ior X0 hx (hb hby d3_134) (q := 135) rfl ?_
          refine Go.s_istore X0 hx (hb hby d3_135) (q := 137) rfl (l' := #[.val (.ref a), .val (.int i), .val (.int to), .val (.int v2), .val (.int (2 : Int32)), .val (.int ((v5 <<< ((6 : Int32) &&& 31)) ||| (v8 &&& (63 : Int32)))), .val (.int v8), .unset]) rfl ?_
          generalize hv10 : ((v5 <<< ((6 : Int32) &&& 31)) ||| (v8 &&& (63 : Int32))) = v10
          refine Go.s_iload X0 hx (hb hby d3_137) (q := 139) rfl rfl ?_
          refine Go.s_iconst X0 hx (hb hby d3_139) (q := 140) rfl (z := 3) rfl ?_
          refine Go.s_icmpYes X0 hx (hb hby d3_140) (q := 181) (by decide) (by decide) (tlt (by decide : (2 : Int32) < (3 : Int32))).1 ?_
          refine Go.s_iload X0 hx (hb hby d3_181) (q := 183) rfl rfl ?_
          refine Go.s_iconst X0 hx (hb hby d3_183) (q := 184) rfl (z := 4) rfl ?_
          refine Go.s_icmpYes X0 hx (hb hby d3_184) (q := 225) (by decide) (by decide) (feq (by decide : ¬ ((2 : Int32) = (4 : Int32)))).2 ?_
          refine Go.s_iload X0 hx (hb hby d3_225) (q := 227) rfl rfl ?_
          refine Go.s_iconst X0 hx (hb hby d3_227) (q := 228) rfl (z := 2) rfl ?_
          refine Go.s_icmpNo X0 hx (hb hby d3_228) (q := 231) rfl (teq (by decide : (2 : Int32) = (2 : Int32))).2 ?_
          refine Go.s_sipush X0 hx (hb hby d3_231) (q := 234) rfl (z := 128) rfl ?_
          refine Go.s_goto X0 hx (hb hby d3_234) (q := 251) (by decide) (by decide) ?_
          refine Go.s_istore X0 hx (hb hby d3_251) (q := 253) rfl (l' := #[.val (.ref a), .val (.int i), .val (.int to), .val (.int v2), .val (.int (2 : Int32)), .val (.int v10), .val (.int v8), .val (.int (128 : Int32))]) rfl ?_
          refine Go.s_iload X0 hx (hb hby d3_253) (q := 255) rfl rfl ?_
          refine Go.s_iload X0 hx (hb hby d3_255) (q := 257) rfl rfl ?_
          by_cases c257_11 : v10 < (128 : Int32)
          · -- pc 257: v10 < (128 : Int32)
            refine Go.s_icmpYes X0 hx (hb hby d3_257) (q := 281) (by decide) (by decide) (tlt c257_11).1 ?_
            refine Go.s_iconst X0 hx (hb hby d3_281) (q := 282) rfl (z := 0) rfl ?_
            refine Go.retI X0 hx hlk hret (hb hby d3_282) (by decide) (by decide) ?_
            try rw [e0]
            refine ⟨_, rfl, ?_, rfl, rfl⟩
            have := congrArg Int32.toInt hv2
            have := rng8 (bs.getD I 0)
            have := congrArg Int32.toInt hv5
            have := c_mask v2 (31 : Int32) 5 (by decide) (by decide)
            have := congrArg Int32.toInt hv8
            have := rng8 (bs.getD (I + 1) 0)
            have := c_mask v8 (63 : Int32) 6 (by decide) (by decide)
            have := (by decide : (0 : Int32).toInt = 0)
            have := (by decide : (2 : Int32).toInt = 2)
            have := (by decide : (128 : Int32).toInt = 128)
            have := (by decide : (192 : Int32).toInt = 192)
            have := (by decide : (224 : Int32).toInt = 224)
            have := mt (m128 (x := v2) (by omega) (by omega)).mpr c13_3
            have := (m224 (x := v2) (by omega) (by omega)).mp c26_4
            have := c_isub to i
            have := rng32 (to - i)
            have := mt Int32.lt_iff_toInt_lt.mpr c94_6
            have := (m192 (x := v8) (by omega) (by omega)).mp c119_9
            have := Int32.lt_iff_toInt_lt.mp c257_11
            have := cpt (by omega) (by omega) hv10
            simp only [wf, uu]
            repeat' split
            all_goals omega
          · -- pc 257: not v10 < (128 : Int32)
            refine Go.s_icmpNo X0 hx (hb hby d3_257) (q := 260) rfl (flt c257_11).1 ?_
            refine Go.s_iload X0 hx (hb hby d3_260) (q := 262) rfl rfl ?_
            refine Go.s_ldc X0 hx (hb hby d3_262) (q := 264) rfl hown (mvT hZ (w_ hw 16 rfl)) ?_
            by_cases c264_12 : (1114111 : Int32) < v10
            · -- pc 264: (1114111 : Int32) < v10
              refine Go.s_icmpYes X0 hx (hb hby d3_264) (q := 281) (by decide) (by decide) (tlt c264_12).2.2.1 ?_
              refine Go.s_iconst X0 hx (hb hby d3_281) (q := 282) rfl (z := 0) rfl ?_
              refine Go.retI X0 hx hlk hret (hb hby d3_282) (by decide) (by decide) ?_
              try rw [e0]
              refine ⟨_, rfl, ?_, rfl, rfl⟩
              have := congrArg Int32.toInt hv2
              have := rng8 (bs.getD I 0)
              have := congrArg Int32.toInt hv5
              have := c_mask v2 (31 : Int32) 5 (by decide) (by decide)
              have := congrArg Int32.toInt hv8
              have := rng8 (bs.getD (I + 1) 0)
              have := c_mask v8 (63 : Int32) 6 (by decide) (by decide)
              have := (by decide : (0 : Int32).toInt = 0)
              have := (by decide : (2 : Int32).toInt = 2)
              have := (by decide : (128 : Int32).toInt = 128)
              have := (by decide : (192 : Int32).toInt = 192)
              have := (by decide : (224 : Int32).toInt = 224)
              have := (by decide : (1114111 : Int32).toInt = 1114111)
              have := mt (m128 (x := v2) (by omega) (by omega)).mpr c13_3
              have := (m224 (x := v2) (by omega) (by omega)).mp c26_4
              have := c_isub to i
              have := rng32 (to - i)
              have := mt Int32.lt_iff_toInt_lt.mpr c94_6
              have := (m192 (x := v8) (by omega) (by omega)).mp c119_9
              have := mt Int32.lt_iff_toInt_lt.mpr c257_11
              have := Int32.lt_iff_toInt_lt.mp c264_12
              have := cpt (by omega) (by omega) hv10
              simp only [wf, uu]
              repeat' split
              all_goals omega
            · -- pc 264: not (1114111 : Int32) < v10
              refine Go.s_icmpNo X0 hx (hb hby d3_264) (q := 267) rfl (flt c264_12).2.2.1 ?_
              refine Go.s_iload X0 hx (hb hby d3_267) (q := 269) rfl rfl ?_
              refine Go.s_ldc X0 hx (hb hby d3_269) (q := 271) rfl hown (mvT hZ (w_ hw 17 rfl)) ?_
              by_cases c271_13 : v10 < (55296 : Int32)
              · -- pc 271: v10 < (55296 : Int32)
                refine Go.s_icmpYes X0 hx (hb hby d3_271) (q := 283) (by decide) (by decide) (tlt c271_13).1 ?_
                refine Go.s_iload X0 hx (hb hby d3_283) (q := 285) rfl rfl ?_
                refine Go.retI X0 hx hlk hret (hb hby d3_285) (by decide) (by decide) ?_
                try rw [e0]
                refine ⟨_, rfl, ?_, rfl, rfl⟩
                have := congrArg Int32.toInt hv2
                have := rng8 (bs.getD I 0)
                have := congrArg Int32.toInt hv5
                have := c_mask v2 (31 : Int32) 5 (by decide) (by decide)
                have := congrArg Int32.toInt hv8
                have := rng8 (bs.getD (I + 1) 0)
                have := c_mask v8 (63 : Int32) 6 (by decide) (by decide)
                have := (by decide : (0 : Int32).toInt = 0)
                have := (by decide : (2 : Int32).toInt = 2)
                have := (by decide : (128 : Int32).toInt = 128)
                have := (by decide : (192 : Int32).toInt = 192)
                have := (by decide : (224 : Int32).toInt = 224)
                have := (by decide : (55296 : Int32).toInt = 55296)
                have := (by decide : (1114111 : Int32).toInt = 1114111)
                have := mt (m128 (x := v2) (by omega) (by omega)).mpr c13_3
                have := (m224 (x := v2) (by omega) (by omega)).mp c26_4
                have := c_isub to i
                have := rng32 (to - i)
                have := mt Int32.lt_iff_toInt_lt.mpr c94_6
                have := (m192 (x := v8) (by omega) (by omega)).mp c119_9
                have := mt Int32.lt_iff_toInt_lt.mpr c257_11
                have := mt Int32.lt_iff_toInt_lt.mpr c264_12
                have := Int32.lt_iff_toInt_lt.mp c271_13
                have := cpt (by omega) (by omega) hv10
                simp only [wf, uu]
                repeat' split
                all_goals omega
              · -- pc 271: not v10 < (55296 : Int32)
                refine Go.s_icmpNo X0 hx (hb hby d3_271) (q := 274) rfl (flt c271_13).1 ?_
                refine Go.s_iload X0 hx (hb hby d3_274) (q := 276) rfl rfl ?_
                refine Go.s_ldc X0 hx (hb hby d3_276) (q := 278) rfl hown (mvT hZ (w_ hw 19 rfl)) ?_
                by_cases c278_14 : (57343 : Int32) < v10
                · -- pc 278: (57343 : Int32) < v10
                  refine Go.s_icmpYes X0 hx (hb hby d3_278) (q := 283) (by decide) (by decide) (tlt c278_14).2.2.1 ?_
                  refine Go.s_iload X0 hx (hb hby d3_283) (q := 285) rfl rfl ?_
                  refine Go.retI X0 hx hlk hret (hb hby d3_285) (by decide) (by decide) ?_
                  try rw [e0]
                  refine ⟨_, rfl, ?_, rfl, rfl⟩
                  have := congrArg Int32.toInt hv2
                  have := rng8 (bs.getD I 0)
                  have := congrArg Int32.toInt hv5
                  have := c_mask v2 (31 : Int32) 5 (by decide) (by decide)
                  have := congrArg Int32.toInt hv8
                  have := rng8 (bs.getD (I + 1) 0)
                  have := c_mask v8 (63 : Int32) 6 (by decide) (by decide)
                  have := (by decide : (0 : Int32).toInt = 0)
                  have := (by decide : (2 : Int32).toInt = 2)
                  have := (by decide : (128 : Int32).toInt = 128)
                  have := (by decide : (192 : Int32).toInt = 192)
                  have := (by decide : (224 : Int32).toInt = 224)
                  have := (by decide : (55296 : Int32).toInt = 55296)
                  have := (by decide : (57343 : Int32).toInt = 57343)
                  have := (by decide : (1114111 : Int32).toInt = 1114111)
                  have := mt (m128 (x := v2) (by omega) (by omega)).mpr c13_3
                  have := (m224 (x := v2) (by omega) (by omega)).mp c26_4
                  have := c_isub to i
                  have := rng32 (to - i)
                  have := mt Int32.lt_iff_toInt_lt.mpr c94_6
                  have := (m192 (x := v8) (by omega) (by omega)).mp c119_9
                  have := mt Int32.lt_iff_toInt_lt.mpr c257_11
                  have := mt Int32.lt_iff_toInt_lt.mpr c264_12
                  have := mt Int32.lt_iff_toInt_lt.mpr c271_13
                  have := Int32.lt_iff_toInt_lt.mp c278_14
                  have := cpt (by omega) (by omega) hv10
                  simp only [wf, uu]
                  repeat' split
                  all_goals omega
                · -- pc 278: not (57343 : Int32) < v10
                  refine Go.s_icmpNo X0 hx (hb hby d3_278) (q := 281) rfl (flt c278_14).2.2.1 ?_
                  refine Go.s_iconst X0 hx (hb hby d3_281) (q := 282) rfl (z := 0) rfl ?_
                  refine Go.retI X0 hx hlk hret (hb hby d3_282) (by decide) (by decide) ?_
                  try rw [e0]
                  refine ⟨_, rfl, ?_, rfl, rfl⟩
                  have := congrArg Int32.toInt hv2
                  have := rng8 (bs.getD I 0)
                  have := congrArg Int32.toInt hv5
                  have := c_mask v2 (31 : Int32) 5 (by decide) (by decide)
                  have := congrArg Int32.toInt hv8
                  have := rng8 (bs.getD (I + 1) 0)
                  have := c_mask v8 (63 : Int32) 6 (by decide) (by decide)
                  have := (by decide : (0 : Int32).toInt = 0)
                  have := (by decide : (2 : Int32).toInt = 2)
                  have := (by decide : (128 : Int32).toInt = 128)
                  have := (by decide : (192 : Int32).toInt = 192)
                  have := (by decide : (224 : Int32).toInt = 224)
                  have := (by decide : (55296 : Int32).toInt = 55296)
                  have := (by decide : (57343 : Int32).toInt = 57343)
                  have := (by decide : (1114111 : Int32).toInt = 1114111)
                  have := mt (m128 (x := v2) (by omega) (by omega)).mpr c13_3
                  have := (m224 (x := v2) (by omega) (by omega)).mp c26_4
                  have := c_isub to i
                  have := rng32 (to - i)
                  have := mt Int32.lt_iff_toInt_lt.mpr c94_6
                  have := (m192 (x := v8) (by omega) (by omega)).mp c119_9
                  have := mt Int32.lt_iff_toInt_lt.mpr c257_11
                  have := mt Int32.lt_iff_toInt_lt.mpr c264_12
                  have := mt Int32.lt_iff_toInt_lt.mpr c271_13
                  have := mt Int32.lt_iff_toInt_lt.mpr c278_14
                  have := cpt (by omega) (by omega) hv10
                  simp only [wf, uu]
                  repeat' split
                  all_goals omega
        · -- pc 119: not (v8 &&& (192 : Int32)) = (128 : Int32)
          refine Go.s_icmpNo X0 hx (hb hby d3_119) (q := 122) rfl (feq c119_9).1 ?_
          refine Go.s_iconst X0 hx (hb hby d3_122) (q := 123) rfl (z := 0) rfl ?_
          refine Go.retI X0 hx hlk hret (hb hby d3_123) (by decide) (by decide) ?_
          try rw [e0]
          refine ⟨_, rfl, ?_, rfl, rfl⟩
          have := congrArg Int32.toInt hv2
          have := rng8 (bs.getD I 0)
          have := congrArg Int32.toInt hv5
          have := c_mask v2 (31 : Int32) 5 (by decide) (by decide)
          have := congrArg Int32.toInt hv8
          have := rng8 (bs.getD (I + 1) 0)
          have := (by decide : (0 : Int32).toInt = 0)
          have := (by decide : (2 : Int32).toInt = 2)
          have := (by decide : (128 : Int32).toInt = 128)
          have := (by decide : (192 : Int32).toInt = 192)
          have := (by decide : (224 : Int32).toInt = 224)
          have := mt (m128 (x := v2) (by omega) (by omega)).mpr c13_3
          have := (m224 (x := v2) (by omega) (by omega)).mp c26_4
          have := c_isub to i
          have := rng32 (to - i)
          have := mt Int32.lt_iff_toInt_lt.mpr c94_6
          have := mt (m192 (x := v8) (by omega) (by omega)).mpr c119_9
          simp only [wf, uu]
          repeat' split
          all_goals omega
    · -- pc 26: not (v2 &&& (224 : Int32)) = (192 : Int32)
      refine Go.s_icmpYes X0 hx (hb hby d3_26) (q := 41) (by decide) (by decide) (feq c26_4).2 ?_
      refine Go.s_iloadN X0 hx (hb hby d3_41) (q := 42) rfl rfl ?_
      refine Go.s_sipush X0 hx (hb hby d3_42) (q := 45) rfl (z := 240) rfl ?_
      refine Go.s_iand X0 hx (hb hby d3_45) (q := 46) rfl ?_
      refine Go.s_sipush X0 hx (hb hby d3_46) (q := 49) rfl (z := 224) rfl ?_
      by_cases c49_15 : (v2 &&& (240 : Int32)) = (224 : Int32)
      · -- pc 49: (v2 &&& (240 : Int32)) = (224 : Int32)
        refine Go.s_icmpNo X0 hx (hb hby d3_49) (q := 52) rfl (teq c49_15).2 ?_
        refine Go.s_iconst X0 hx (hb hby d3_52) (q := 53) rfl (z := 3) rfl ?_
        refine Go.s_istore X0 hx (hb hby d3_53) (q := 55) rfl (l' := #[.val (.ref a), .val (.int i), .val (.int to), .val (.int v2), .val (.int (3 : Int32)), .unset, .unset, .unset]) rfl ?_
        refine Go.s_iloadN X0 hx (hb hby d3_55) (q := 56) rfl rfl ?_
        refine Go.s_bipush X0 hx (hb hby d3_56) (q := 58) rfl (z := 15) rfl ?_
        refine Go.s_iand X0 hx (hb hby d3_58) (q := 59) rfl ?_
        refine Go.s_istore X0 hx (hb hby d3_59) (q := 61) rfl (l' := #[.val (.ref a), .val (.int i), .val (.int to), .val (.int v2), .val (.int (3 : Int32)), .val (.int (v2 &&& (15 : Int32))), .unset, .unset]) rfl ?_
        generalize hv16 : (v2 &&& (15 : Int32)) = v16
        refine Go.s_goto X0 hx (hb hby d3_61) (q := 89) (by decide) (by decide) ?_
        refine Go.s_iloadN X0 hx (hb hby d3_89) (q := 90) rfl rfl ?_
        refine Go.s_iloadN X0 hx (hb hby d3_90) (q := 91) rfl rfl ?_
        refine Go.s_isub X0 hx (hb hby d3_91) (q := 92) rfl ?_
        refine Go.s_iload X0 hx (hb hby d3_92) (q := 94) rfl rfl ?_
        by_cases c94_17 : (to - i) < (3 : Int32)
        · -- pc 94: (to - i) < (3 : Int32)
          refine Go.s_icmpNo X0 hx (hb hby d3_94) (q := 97) rfl (tlt c94_17).2.1 ?_
          refine Go.s_iconst X0 hx (hb hby d3_97) (q := 98) rfl (z := 0) rfl ?_
          refine Go.retI X0 hx hlk hret (hb hby d3_98) (by decide) (by decide) ?_
          try rw [e0]
          refine ⟨_, rfl, ?_, rfl, rfl⟩
          have := congrArg Int32.toInt hv2
          have := rng8 (bs.getD I 0)
          have := congrArg Int32.toInt hv16
          have := c_mask v2 (15 : Int32) 4 (by decide) (by decide)
          have := (by decide : (0 : Int32).toInt = 0)
          have := (by decide : (3 : Int32).toInt = 3)
          have := (by decide : (128 : Int32).toInt = 128)
          have := (by decide : (192 : Int32).toInt = 192)
          have := (by decide : (224 : Int32).toInt = 224)
          have := (by decide : (240 : Int32).toInt = 240)
          have := mt (m128 (x := v2) (by omega) (by omega)).mpr c13_3
          have := mt (m224 (x := v2) (by omega) (by omega)).mpr c26_4
          have := (m240 (x := v2) (by omega) (by omega)).mp c49_15
          have := c_isub to i
          have := rng32 (to - i)
          have := Int32.lt_iff_toInt_lt.mp c94_17
          simp only [wf, uu]
          repeat' split
          all_goals omega
        · -- pc 94: not (to - i) < (3 : Int32)
          refine Go.s_icmpYes X0 hx (hb hby d3_94) (q := 99) (by decide) (by decide) (flt c94_17).2.1 ?_
          have nb := avail hiI hlt hto c94_17 (by decide)
          have kk2 : (2 : Int32).toInt = 2 := by decide
          have kk3 : (3 : Int32).toInt = 3 := by decide
          have kk4 : (4 : Int32).toInt = 4 := by decide
          refine Go.s_aloadN X0 hx (hb hby d3_99) (q := 100) rfl rfl rfl ?_
          refine Go.s_iloadN X0 hx (hb hby d3_100) (q := 101) rfl rfl ?_
          refine Go.s_iconst X0 hx (hb hby d3_101) (q := 102) rfl (z := 1) rfl ?_
          refine Go.s_iadd X0 hx (hb hby d3_102) (q := 103) rfl ?_
          obtain ⟨hj18, hn18⟩ := ix (k := (1 : Int32)) (K := 1) hiI (by decide) (by omega)
          refine Go.ldB X0 hx hZ e0 V_a hj18 (w := (.int (bs.getD (I + 1) 0))) (by rw [hn18]; exact getD_mapI bs _) (hb hby d3_103) ?_
          show Go p e below _ T0 (mkF m 104 #[.val (.ref a), .val (.int i), .val (.int to), .val (.int v2), .val (.int (3 : Int32)), .val (.int v16), .unset, .unset] [(.int (bs.getD (I + 1) 0))])
          refine Go.s_sipush X0 hx (hb hby d3_104) (q := 107) rfl (z := 255) rfl ?_
          refine Go.s_iand X0 hx (hb hby d3_107) (q := 108) rfl ?_
          refine Go.s_istore X0 hx (hb hby d3_108) (q := 110) rfl (l' := #[.val (.ref a), .val (.int i), .val (.int to), .val (.int v2), .val (.int (3 : Int32)), .val (.int v16), .val (.int ((bs.getD (I + 1) 0) &&& (255 : Int32))), .unset]) rfl ?_
          generalize hv19 : ((bs.getD (I + 1) 0) &&& (255 : Int32)) = v19
          refine Go.s_iload X0 hx (hb hby d3_110) (q := 112) rfl rfl ?_
          refine Go.s_sipush X0 hx (hb hby d3_112) (q := 115) rfl (z := 192) rfl ?_
          refine Go.s_iand X0 hx (hb hby d3_115) (q := 116) rfl ?_
          refine Go.s_sipush X0 hx (hb hby d3_116) (q := 119) rfl (z := 128) rfl ?_
          by_cases c119_20 : (v19 &&& (192 : Int32)) = (128 : Int32)
          · -- pc 119: (v19 &&& (192 : Int32)) = (128 : Int32)
            refine Go.s_icmpYes X0 hx (hb hby d3_119) (q := 124) (by decide) (by decide) (teq c119_20).1 ?_
            refine Go.s_iload X0 hx (hb hby d3_124) (q := 126) rfl rfl ?_
            refine Go.s_bipush X0 hx (hb hby d3_126) (q := 128) rfl (z := 6) rfl ?_
            refine Go.s_ishl X0 hx (hb hby d3_128) (q := 129) rfl ?_
            refine Go.s_iload X0 hx (hb hby d3_129) (q := 131) rfl rfl ?_
            refine Go.s_bipush X0 hx (hb hby d3_131) (q := 133) rfl (z := 63) rfl ?_
            refine Go.s_iand X0 hx (hb hby d3_133) (q := 134) rfl ?_
            refine Go.s_ior X0 hx (hb hby d3_134) (q := 135) rfl ?_
            refine Go.s_istore X0 hx (hb hby d3_135) (q := 137) rfl (l' := #[.val (.ref a), .val (.int i), .val (.int to), .val (.int v2), .val (.int (3 : Int32)), .val (.int ((v16 <<< ((6 : Int32) &&& 31)) ||| (v19 &&& (63 : Int32)))), .val (.int v19), .unset]) rfl ?_
            generalize hv21 : ((v16 <<< ((6 : Int32) &&& 31)) ||| (v19 &&& (63 : Int32))) = v21
            refine Go.s_iload X0 hx (hb hby d3_137) (q := 139) rfl rfl ?_
            refine Go.s_iconst X0 hx (hb hby d3_139) (q := 140) rfl (z := 3) rfl ?_
            refine Go.s_icmpNo X0 hx (hb hby d3_140) (q := 143) rfl (flt (by decide : ¬ ((3 : Int32) < (3 : Int32)))).1 ?_
            refine Go.s_aloadN X0 hx (hb hby d3_143) (q := 144) rfl rfl rfl ?_
            refine Go.s_iloadN X0 hx (hb hby d3_144) (q := 145) rfl rfl ?_
            refine Go.s_iconst X0 hx (hb hby d3_145) (q := 146) rfl (z := 2) rfl ?_
            refine Go.s_iadd X0 hx (hb hby d3_146) (q := 147) rfl ?_
            obtain ⟨hj22, hn22⟩ := ix (k := (2 : Int32)) (K := 2) hiI (by decide) (by omega)
            refine Go.ldB X0 hx hZ e0 V_a hj22 (w := (.int (bs.getD (I + 2) 0))) (by rw [hn22]; exact getD_mapI bs _) (hb hby d3_147) ?_
            show Go p e below _ T0 (mkF m 148 #[.val (.ref a), .val (.int i), .val (.int to), .val (.int v2), .val (.int (3 : Int32)), .val (.int v21), .val (.int v19), .unset] [(.int (bs.getD (I + 2) 0))])
            refine Go.s_sipush X0 hx (hb hby d3_148) (q := 151) rfl (z := 255) rfl ?_
            refine Go.s_iand X0 hx (hb hby d3_151) (q := 152) rfl ?_
            refine Go.s_istore X0 hx (hb hby d3_152) (q := 154) rfl (l' := #[.val (.ref a), .val (.int i), .val (.int to), .val (.int v2), .val (.int (3 : Int32)), .val (.int v21), .val (.int v19), .val (.int ((bs.getD (I + 2) 0) &&& (255 : Int32)))]) rfl ?_
            generalize hv23 : ((bs.getD (I + 2) 0) &&& (255 : Int32)) = v23
            refine Go.s_iload X0 hx (hb hby d3_154) (q := 156) rfl rfl ?_
            refine Go.s_sipush X0 hx (hb hby d3_156) (q := 159) rfl (z := 192) rfl ?_
            refine Go.s_iand X0 hx (hb hby d3_159) (q := 160) rfl ?_
            refine Go.s_sipush X0 hx (hb hby d3_160) (q := 163) rfl (z := 128) rfl ?_
            by_cases c163_24 : (v23 &&& (192 : Int32)) = (128 : Int32)
            · -- pc 163: (v23 &&& (192 : Int32)) = (128 : Int32)
              refine Go.s_icmpYes X0 hx (hb hby d3_163) (q := 168) (by decide) (by decide) (teq c163_24).1 ?_
              refine Go.s_iload X0 hx (hb hby d3_168) (q := 170) rfl rfl ?_
              refine Go.s_bipush X0 hx (hb hby d3_170) (q := 172) rfl (z := 6) rfl ?_
              refine Go.s_ishl X0 hx (hb hby d3_172) (q := 173) rfl ?_
              refine Go.s_iload X0 hx (hb hby d3_173) (q := 175) rfl rfl ?_
              refine Go.s_bipush X0 hx (hb hby d3_175) (q := 177) rfl (z := 63) rfl ?_
              refine Go.s_iand X0 hx (hb hby d3_177) (q := 178) rfl ?_
              refine Go.s_ior X0 hx (hb hby d3_178) (q := 179) rfl ?_
              refine Go.s_istore X0 hx (hb hby d3_179) (q := 181) rfl (l' := #[.val (.ref a), .val (.int i), .val (.int to), .val (.int v2), .val (.int (3 : Int32)), .val (.int ((v21 <<< ((6 : Int32) &&& 31)) ||| (v23 &&& (63 : Int32)))), .val (.int v19), .val (.int v23)]) rfl ?_
              generalize hv25 : ((v21 <<< ((6 : Int32) &&& 31)) ||| (v23 &&& (63 : Int32))) = v25
              refine Go.s_iload X0 hx (hb hby d3_181) (q := 183) rfl rfl ?_
              refine Go.s_iconst X0 hx (hb hby d3_183) (q := 184) rfl (z := 4) rfl ?_
              refine Go.s_icmpYes X0 hx (hb hby d3_184) (q := 225) (by decide) (by decide) (feq (by decide : ¬ ((3 : Int32) = (4 : Int32)))).2 ?_
              refine Go.s_iload X0 hx (hb hby d3_225) (q := 227) rfl rfl ?_
              refine Go.s_iconst X0 hx (hb hby d3_227) (q := 228) rfl (z := 2) rfl ?_
              refine Go.s_icmpYes X0 hx (hb hby d3_228) (q := 237) (by decide) (by decide) (feq (by decide : ¬ ((3 : Int32) = (2 : Int32)))).2 ?_
              refine Go.s_iload X0 hx (hb hby d3_237) (q := 239) rfl rfl ?_
              refine Go.s_iconst X0 hx (hb hby d3_239) (q := 240) rfl (z := 3) rfl ?_
              refine Go.s_icmpNo X0 hx (hb hby d3_240) (q := 243) rfl (teq (by decide : (3 : Int32) = (3 : Int32))).2 ?_
              refine Go.s_sipush X0 hx (hb hby d3_243) (q := 246) rfl (z := 2048) rfl ?_
              refine Go.s_goto X0 hx (hb hby d3_246) (q := 251) (by decide) (by decide) ?_
              refine Go.s_istore X0 hx (hb hby d3_251) (q := 253) rfl (l' := #[.val (.ref a), .val (.int i), .val (.int to), .val (.int v2), .val (.int (3 : Int32)), .val (.int v25), .val (.int v19), .val (.int (2048 : Int32))]) rfl ?_
              refine Go.s_iload X0 hx (hb hby d3_253) (q := 255) rfl rfl ?_
              refine Go.s_iload X0 hx (hb hby d3_255) (q := 257) rfl rfl ?_
              by_cases c257_26 : v25 < (2048 : Int32)
              · -- pc 257: v25 < (2048 : Int32)
                refine Go.s_icmpYes X0 hx (hb hby d3_257) (q := 281) (by decide) (by decide) (tlt c257_26).1 ?_
                refine Go.s_iconst X0 hx (hb hby d3_281) (q := 282) rfl (z := 0) rfl ?_
                refine Go.retI X0 hx hlk hret (hb hby d3_282) (by decide) (by decide) ?_
                try rw [e0]
                refine ⟨_, rfl, ?_, rfl, rfl⟩
                have := congrArg Int32.toInt hv2
                have := rng8 (bs.getD I 0)
                have := congrArg Int32.toInt hv16
                have := c_mask v2 (15 : Int32) 4 (by decide) (by decide)
                have := congrArg Int32.toInt hv19
                have := rng8 (bs.getD (I + 1) 0)
                have := c_mask v19 (63 : Int32) 6 (by decide) (by decide)
                have := congrArg Int32.toInt hv23
                have := rng8 (bs.getD (I + 2) 0)
                have := c_mask v23 (63 : Int32) 6 (by decide) (by decide)
                have := (by decide : (0 : Int32).toInt = 0)
                have := (by decide : (3 : Int32).toInt = 3)
                have := (by decide : (128 : Int32).toInt = 128)
                have := (by decide : (192 : Int32).toInt = 192)
                have := (by decide : (224 : Int32).toInt = 224)
                have := (by decide : (240 : Int32).toInt = 240)
                have := (by decide : (2048 : Int32).toInt = 2048)
                have := mt (m128 (x := v2) (by omega) (by omega)).mpr c13_3
                have := mt (m224 (x := v2) (by omega) (by omega)).mpr c26_4
                have := (m240 (x := v2) (by omega) (by omega)).mp c49_15
                have := c_isub to i
                have := rng32 (to - i)
                have := mt Int32.lt_iff_toInt_lt.mpr c94_17
                have := (m192 (x := v19) (by omega) (by omega)).mp c119_20
                have := (m192 (x := v23) (by omega) (by omega)).mp c163_24
                have := Int32.lt_iff_toInt_lt.mp c257_26
                have := cpt (by omega) (by omega) hv21
                have := cpt (by omega) (by omega) hv25
                simp only [wf, uu]
                repeat' split
                all_goals omega
              · -- pc 257: not v25 < (2048 : Int32)
                refine Go.s_icmpNo X0 hx (hb hby d3_257) (q := 260) rfl (flt c257_26).1 ?_
                refine Go.s_iload X0 hx (hb hby d3_260) (q := 262) rfl rfl ?_
                refine Go.s_ldc X0 hx (hb hby d3_262) (q := 264) rfl hown (mvT hZ (w_ hw 16 rfl)) ?_
                by_cases c264_27 : (1114111 : Int32) < v25
                · -- pc 264: (1114111 : Int32) < v25
                  refine Go.s_icmpYes X0 hx (hb hby d3_264) (q := 281) (by decide) (by decide) (tlt c264_27).2.2.1 ?_
                  refine Go.s_iconst X0 hx (hb hby d3_281) (q := 282) rfl (z := 0) rfl ?_
                  refine Go.retI X0 hx hlk hret (hb hby d3_282) (by decide) (by decide) ?_
                  try rw [e0]
                  refine ⟨_, rfl, ?_, rfl, rfl⟩
                  have := congrArg Int32.toInt hv2
                  have := rng8 (bs.getD I 0)
                  have := congrArg Int32.toInt hv16
                  have := c_mask v2 (15 : Int32) 4 (by decide) (by decide)
                  have := congrArg Int32.toInt hv19
                  have := rng8 (bs.getD (I + 1) 0)
                  have := c_mask v19 (63 : Int32) 6 (by decide) (by decide)
                  have := congrArg Int32.toInt hv23
                  have := rng8 (bs.getD (I + 2) 0)
                  have := c_mask v23 (63 : Int32) 6 (by decide) (by decide)
                  have := (by decide : (0 : Int32).toInt = 0)
                  have := (by decide : (3 : Int32).toInt = 3)
                  have := (by decide : (128 : Int32).toInt = 128)
                  have := (by decide : (192 : Int32).toInt = 192)
                  have := (by decide : (224 : Int32).toInt = 224)
                  have := (by decide : (240 : Int32).toInt = 240)
                  have := (by decide : (2048 : Int32).toInt = 2048)
                  have := (by decide : (1114111 : Int32).toInt = 1114111)
                  have := mt (m128 (x := v2) (by omega) (by omega)).mpr c13_3
                  have := mt (m224 (x := v2) (by omega) (by omega)).mpr c26_4
                  have := (m240 (x := v2) (by omega) (by omega)).mp c49_15
                  have := c_isub to i
                  have := rng32 (to - i)
                  have := mt Int32.lt_iff_toInt_lt.mpr c94_17
                  have := (m192 (x := v19) (by omega) (by omega)).mp c119_20
                  have := (m192 (x := v23) (by omega) (by omega)).mp c163_24
                  have := mt Int32.lt_iff_toInt_lt.mpr c257_26
                  have := Int32.lt_iff_toInt_lt.mp c264_27
                  have := cpt (by omega) (by omega) hv21
                  have := cpt (by omega) (by omega) hv25
                  simp only [wf, uu]
                  repeat' split
                  all_goals omega
                · -- pc 264: not (1114111 : Int32) < v25
                  refine Go.s_icmpNo X0 hx (hb hby d3_264) (q := 267) rfl (flt c264_27).2.2.1 ?_
                  refine Go.s_iload X0 hx (hb hby d3_267) (q := 269) rfl rfl ?_
                  refine Go.s_ldc X0 hx (hb hby d3_269) (q := 271) rfl hown (mvT hZ (w_ hw 17 rfl)) ?_
                  by_cases c271_28 : v25 < (55296 : Int32)
                  · -- pc 271: v25 < (55296 : Int32)
                    refine Go.s_icmpYes X0 hx (hb hby d3_271) (q := 283) (by decide) (by decide) (tlt c271_28).1 ?_
                    refine Go.s_iload X0 hx (hb hby d3_283) (q := 285) rfl rfl ?_
                    refine Go.retI X0 hx hlk hret (hb hby d3_285) (by decide) (by decide) ?_
                    try rw [e0]
                    refine ⟨_, rfl, ?_, rfl, rfl⟩
                    have := congrArg Int32.toInt hv2
                    have := rng8 (bs.getD I 0)
                    have := congrArg Int32.toInt hv16
                    have := c_mask v2 (15 : Int32) 4 (by decide) (by decide)
                    have := congrArg Int32.toInt hv19
                    have := rng8 (bs.getD (I + 1) 0)
                    have := c_mask v19 (63 : Int32) 6 (by decide) (by decide)
                    have := congrArg Int32.toInt hv23
                    have := rng8 (bs.getD (I + 2) 0)
                    have := c_mask v23 (63 : Int32) 6 (by decide) (by decide)
                    have := (by decide : (0 : Int32).toInt = 0)
                    have := (by decide : (3 : Int32).toInt = 3)
                    have := (by decide : (128 : Int32).toInt = 128)
                    have := (by decide : (192 : Int32).toInt = 192)
                    have := (by decide : (224 : Int32).toInt = 224)
                    have := (by decide : (240 : Int32).toInt = 240)
                    have := (by decide : (2048 : Int32).toInt = 2048)
                    have := (by decide : (55296 : Int32).toInt = 55296)
                    have := (by decide : (1114111 : Int32).toInt = 1114111)
                    have := mt (m128 (x := v2) (by omega) (by omega)).mpr c13_3
                    have := mt (m224 (x := v2) (by omega) (by omega)).mpr c26_4
                    have := (m240 (x := v2) (by omega) (by omega)).mp c49_15
                    have := c_isub to i
                    have := rng32 (to - i)
                    have := mt Int32.lt_iff_toInt_lt.mpr c94_17
                    have := (m192 (x := v19) (by omega) (by omega)).mp c119_20
                    have := (m192 (x := v23) (by omega) (by omega)).mp c163_24
                    have := mt Int32.lt_iff_toInt_lt.mpr c257_26
                    have := mt Int32.lt_iff_toInt_lt.mpr c264_27
                    have := Int32.lt_iff_toInt_lt.mp c271_28
                    have := cpt (by omega) (by omega) hv21
                    have := cpt (by omega) (by omega) hv25
                    simp only [wf, uu]
                    repeat' split
                    all_goals omega
                  · -- pc 271: not v25 < (55296 : Int32)
                    refine Go.s_icmpNo X0 hx (hb hby d3_271) (q := 274) rfl (flt c271_28).1 ?_
                    refine Go.s_iload X0 hx (hb hby d3_274) (q := 276) rfl rfl ?_
                    refine Go.s_ldc X0 hx (hb hby d3_276) (q := 278) rfl hown (mvT hZ (w_ hw 19 rfl)) ?_
                    by_cases c278_29 : (57343 : Int32) < v25
                    · -- pc 278: (57343 : Int32) < v25
                      refine Go.s_icmpYes X0 hx (hb hby d3_278) (q := 283) (by decide) (by decide) (tlt c278_29).2.2.1 ?_
                      refine Go.s_iload X0 hx (hb hby d3_283) (q := 285) rfl rfl ?_
                      refine Go.retI X0 hx hlk hret (hb hby d3_285) (by decide) (by decide) ?_
                      try rw [e0]
                      refine ⟨_, rfl, ?_, rfl, rfl⟩
                      have := congrArg Int32.toInt hv2
                      have := rng8 (bs.getD I 0)
                      have := congrArg Int32.toInt hv16
                      have := c_mask v2 (15 : Int32) 4 (by decide) (by decide)
                      have := congrArg Int32.toInt hv19
                      have := rng8 (bs.getD (I + 1) 0)
                      have := c_mask v19 (63 : Int32) 6 (by decide) (by decide)
                      have := congrArg Int32.toInt hv23
                      have := rng8 (bs.getD (I + 2) 0)
                      have := c_mask v23 (63 : Int32) 6 (by decide) (by decide)
                      have := (by decide : (0 : Int32).toInt = 0)
                      have := (by decide : (3 : Int32).toInt = 3)
                      have := (by decide : (128 : Int32).toInt = 128)
                      have := (by decide : (192 : Int32).toInt = 192)
                      have := (by decide : (224 : Int32).toInt = 224)
                      have := (by decide : (240 : Int32).toInt = 240)
                      have := (by decide : (2048 : Int32).toInt = 2048)
                      have := (by decide : (55296 : Int32).toInt = 55296)
                      have := (by decide : (57343 : Int32).toInt = 57343)
                      have := (by decide : (1114111 : Int32).toInt = 1114111)
                      have := mt (m128 (x := v2) (by omega) (by omega)).mpr c13_3
                      have := mt (m224 (x := v2) (by omega) (by omega)).mpr c26_4
                      have := (m240 (x := v2) (by omega) (by omega)).mp c49_15
                      have := c_isub to i
                      have := rng32 (to - i)
                      have := mt Int32.lt_iff_toInt_lt.mpr c94_17
                      have := (m192 (x := v19) (by omega) (by omega)).mp c119_20
                      have := (m192 (x := v23) (by omega) (by omega)).mp c163_24
                      have := mt Int32.lt_iff_toInt_lt.mpr c257_26
                      have := mt Int32.lt_iff_toInt_lt.mpr c264_27
                      have := mt Int32.lt_iff_toInt_lt.mpr c271_28
                      have := Int32.lt_iff_toInt_lt.mp c278_29
                      have := cpt (by omega) (by omega) hv21
                      have := cpt (by omega) (by omega) hv25
                      simp only [wf, uu]
                      repeat' split
                      all_goals omega
                    · -- pc 278: not (57343 : Int32) < v25
                      refine Go.s_icmpNo X0 hx (hb hby d3_278) (q := 281) rfl (flt c278_29).2.2.1 ?_
                      refine Go.s_iconst X0 hx (hb hby d3_281) (q := 282) rfl (z := 0) rfl ?_
                      refine Go.retI X0 hx hlk hret (hb hby d3_282) (by decide) (by decide) ?_
                      try rw [e0]
                      refine ⟨_, rfl, ?_, rfl, rfl⟩
                      have := congrArg Int32.toInt hv2
                      have := rng8 (bs.getD I 0)
                      have := congrArg Int32.toInt hv16
                      have := c_mask v2 (15 : Int32) 4 (by decide) (by decide)
                      have := congrArg Int32.toInt hv19
                      have := rng8 (bs.getD (I + 1) 0)
                      have := c_mask v19 (63 : Int32) 6 (by decide) (by decide)
                      have := congrArg Int32.toInt hv23
                      have := rng8 (bs.getD (I + 2) 0)
                      have := c_mask v23 (63 : Int32) 6 (by decide) (by decide)
                      have := (by decide : (0 : Int32).toInt = 0)
                      have := (by decide : (3 : Int32).toInt = 3)
                      have := (by decide : (128 : Int32).toInt = 128)
                      have := (by decide : (192 : Int32).toInt = 192)
                      have := (by decide : (224 : Int32).toInt = 224)
                      have := (by decide : (240 : Int32).toInt = 240)
                      have := (by decide : (2048 : Int32).toInt = 2048)
                      have := (by decide : (55296 : Int32).toInt = 55296)
                      have := (by decide : (57343 : Int32).toInt = 57343)
                      have := (by decide : (1114111 : Int32).toInt = 1114111)
                      have := mt (m128 (x := v2) (by omega) (by omega)).mpr c13_3
                      have := mt (m224 (x := v2) (by omega) (by omega)).mpr c26_4
                      have := (m240 (x := v2) (by omega) (by omega)).mp c49_15
                      have := c_isub to i
                      have := rng32 (to - i)
                      have := mt Int32.lt_iff_toInt_lt.mpr c94_17
                      have := (m192 (x := v19) (by omega) (by omega)).mp c119_20
                      have := (m192 (x := v23) (by omega) (by omega)).mp c163_24
                      have := mt Int32.lt_iff_toInt_lt.mpr c257_26
                      have := mt Int32.lt_iff_toInt_lt.mpr c264_27
                      have := mt Int32.lt_iff_toInt_lt.mpr c271_28
                      have := mt Int32.lt_iff_toInt_lt.mpr c278_29
                      have := cpt (by omega) (by omega) hv21
                      have := cpt (by omega) (by omega) hv25
                      simp only [wf, uu]
                      repeat' split
                      all_goals omega
            · -- pc 163: not (v23 &&& (192 : Int32)) = (128 : Int32)
              refine Go.s_icmpNo X0 hx (hb hby d3_163) (q := 166) rfl (feq c163_24).1 ?_
              refine Go.s_iconst X0 hx (hb hby d3_166) (q := 167) rfl (z := 0) rfl ?_
              refine Go.retI X0 hx hlk hret (hb hby d3_167) (by decide) (by decide) ?_
              try rw [e0]
              refine ⟨_, rfl, ?_, rfl, rfl⟩
              have := congrArg Int32.toInt hv2
              have := rng8 (bs.getD I 0)
              have := congrArg Int32.toInt hv16
              have := c_mask v2 (15 : Int32) 4 (by decide) (by decide)
              have := congrArg Int32.toInt hv19
              have := rng8 (bs.getD (I + 1) 0)
              have := c_mask v19 (63 : Int32) 6 (by decide) (by decide)
              have := congrArg Int32.toInt hv23
              have := rng8 (bs.getD (I + 2) 0)
              have := (by decide : (0 : Int32).toInt = 0)
              have := (by decide : (3 : Int32).toInt = 3)
              have := (by decide : (128 : Int32).toInt = 128)
              have := (by decide : (192 : Int32).toInt = 192)
              have := (by decide : (224 : Int32).toInt = 224)
              have := (by decide : (240 : Int32).toInt = 240)
              have := mt (m128 (x := v2) (by omega) (by omega)).mpr c13_3
              have := mt (m224 (x := v2) (by omega) (by omega)).mpr c26_4
              have := (m240 (x := v2) (by omega) (by omega)).mp c49_15
              have := c_isub to i
              have := rng32 (to - i)
              have := mt Int32.lt_iff_toInt_lt.mpr c94_17
              have := (m192 (x := v19) (by omega) (by omega)).mp c119_20
              have := mt (m192 (x := v23) (by omega) (by omega)).mpr c163_24
              have := cpt (by omega) (by omega) hv21
              simp only [wf, uu]
              repeat' split
              all_goals omega
          · -- pc 119: not (v19 &&& (192 : Int32)) = (128 : Int32)
            refine Go.s_icmpNo X0 hx (hb hby d3_119) (q := 122) rfl (feq c119_20).1 ?_
            refine Go.s_iconst X0 hx (hb hby d3_122) (q := 123) rfl (z := 0) rfl ?_
            refine Go.retI X0 hx hlk hret (hb hby d3_123) (by decide) (by decide) ?_
            try rw [e0]
            refine ⟨_, rfl, ?_, rfl, rfl⟩
            have := congrArg Int32.toInt hv2
            have := rng8 (bs.getD I 0)
            have := congrArg Int32.toInt hv16
            have := c_mask v2 (15 : Int32) 4 (by decide) (by decide)
            have := congrArg Int32.toInt hv19
            have := rng8 (bs.getD (I + 1) 0)
            have := (by decide : (0 : Int32).toInt = 0)
            have := (by decide : (3 : Int32).toInt = 3)
            have := (by decide : (128 : Int32).toInt = 128)
            have := (by decide : (192 : Int32).toInt = 192)
            have := (by decide : (224 : Int32).toInt = 224)
            have := (by decide : (240 : Int32).toInt = 240)
            have := mt (m128 (x := v2) (by omega) (by omega)).mpr c13_3
            have := mt (m224 (x := v2) (by omega) (by omega)).mpr c26_4
            have := (m240 (x := v2) (by omega) (by omega)).mp c49_15
            have := c_isub to i
            have := rng32 (to - i)
            have := mt Int32.lt_iff_toInt_lt.mpr c94_17
            have := mt (m192 (x := v19) (by omega) (by omega)).mpr c119_20
            simp only [wf, uu]
            repeat' split
            all_goals omega
      · -- pc 49: not (v2 &&& (240 : Int32)) = (224 : Int32)
        refine Go.s_icmpYes X0 hx (hb hby d3_49) (q := 64) (by decide) (by decide) (feq c49_15).2 ?_
        refine Go.s_iloadN X0 hx (hb hby d3_64) (q := 65) rfl rfl ?_
        refine Go.s_sipush X0 hx (hb hby d3_65) (q := 68) rfl (z := 248) rfl ?_
        refine Go.s_iand X0 hx (hb hby d3_68) (q := 69) rfl ?_
        refine Go.s_sipush X0 hx (hb hby d3_69) (q := 72) rfl (z := 240) rfl ?_
        by_cases c72_30 : (v2 &&& (248 : Int32)) = (240 : Int32)
        · -- pc 72: (v2 &&& (248 : Int32)) = (240 : Int32)
          refine Go.s_icmpNo X0 hx (hb hby d3_72) (q := 75) rfl (teq c72_30).2 ?_
          refine Go.s_iconst X0 hx (hb hby d3_75) (q := 76) rfl (z := 4) rfl ?_
          refine Go.s_istore X0 hx (hb hby d3_76) (q := 78) rfl (l' := #[.val (.ref a), .val (.int i), .val (.int to), .val (.int v2), .val (.int (4 : Int32)), .unset, .unset, .unset]) rfl ?_
          refine Go.s_iloadN X0 hx (hb hby d3_78) (q := 79) rfl rfl ?_
          refine Go.s_bipush X0 hx (hb hby d3_79) (q := 81) rfl (z := 7) rfl ?_
          refine Go.s_iand X0 hx (hb hby d3_81) (q := 82) rfl ?_
          refine Go.s_istore X0 hx (hb hby d3_82) (q := 84) rfl (l' := #[.val (.ref a), .val (.int i), .val (.int to), .val (.int v2), .val (.int (4 : Int32)), .val (.int (v2 &&& (7 : Int32))), .unset, .unset]) rfl ?_
          generalize hv31 : (v2 &&& (7 : Int32)) = v31
          refine Go.s_goto X0 hx (hb hby d3_84) (q := 89) (by decide) (by decide) ?_
          refine Go.s_iloadN X0 hx (hb hby d3_89) (q := 90) rfl rfl ?_
          refine Go.s_iloadN X0 hx (hb hby d3_90) (q := 91) rfl rfl ?_
          refine Go.s_isub X0 hx (hb hby d3_91) (q := 92) rfl ?_
          refine Go.s_iload X0 hx (hb hby d3_92) (q := 94) rfl rfl ?_
          by_cases c94_32 : (to - i) < (4 : Int32)
          · -- pc 94: (to - i) < (4 : Int32)
            refine Go.s_icmpNo X0 hx (hb hby d3_94) (q := 97) rfl (tlt c94_32).2.1 ?_
            refine Go.s_iconst X0 hx (hb hby d3_97) (q := 98) rfl (z := 0) rfl ?_
            refine Go.retI X0 hx hlk hret (hb hby d3_98) (by decide) (by decide) ?_
            try rw [e0]
            refine ⟨_, rfl, ?_, rfl, rfl⟩
            have := congrArg Int32.toInt hv2
            have := rng8 (bs.getD I 0)
            have := congrArg Int32.toInt hv31
            have := c_mask v2 (7 : Int32) 3 (by decide) (by decide)
            have := (by decide : (0 : Int32).toInt = 0)
            have := (by decide : (4 : Int32).toInt = 4)
            have := (by decide : (128 : Int32).toInt = 128)
            have := (by decide : (192 : Int32).toInt = 192)
            have := (by decide : (224 : Int32).toInt = 224)
            have := (by decide : (240 : Int32).toInt = 240)
            have := (by decide : (248 : Int32).toInt = 248)
            have := mt (m128 (x := v2) (by omega) (by omega)).mpr c13_3
            have := mt (m224 (x := v2) (by omega) (by omega)).mpr c26_4
            have := mt (m240 (x := v2) (by omega) (by omega)).mpr c49_15
            have := (m248 (x := v2) (by omega) (by omega)).mp c72_30
            have := c_isub to i
            have := rng32 (to - i)
            have := Int32.lt_iff_toInt_lt.mp c94_32
            simp only [wf, uu]
            repeat' split
            all_goals omega
          · -- pc 94: not (to - i) < (4 : Int32)
            refine Go.s_icmpYes X0 hx (hb hby d3_94) (q := 99) (by decide) (by decide) (flt c94_32).2.1 ?_
            have nb := avail hiI hlt hto c94_32 (by decide)
            have kk2 : (2 : Int32).toInt = 2 := by decide
            have kk3 : (3 : Int32).toInt = 3 := by decide
            have kk4 : (4 : Int32).toInt = 4 := by decide
            refine Go.s_aloadN X0 hx (hb hby d3_99) (q := 100) rfl rfl rfl ?_
            refine Go.s_iloadN X0 hx (hb hby d3_100) (q := 101) rfl rfl ?_
            refine Go.s_iconst X0 hx (hb hby d3_101) (q := 102) rfl (z := 1) rfl ?_
            refine Go.s_iadd X0 hx (hb hby d3_102) (q := 103) rfl ?_
            obtain ⟨hj33, hn33⟩ := ix (k := (1 : Int32)) (K := 1) hiI (by decide) (by omega)
            refine Go.ldB X0 hx hZ e0 V_a hj33 (w := (.int (bs.getD (I + 1) 0))) (by rw [hn33]; exact getD_mapI bs _) (hb hby d3_103) ?_
            show Go p e below _ T0 (mkF m 104 #[.val (.ref a), .val (.int i), .val (.int to), .val (.int v2), .val (.int (4 : Int32)), .val (.int v31), .unset, .unset] [(.int (bs.getD (I + 1) 0))])
            refine Go.s_sipush X0 hx (hb hby d3_104) (q := 107) rfl (z := 255) rfl ?_
            refine Go.s_iand X0 hx (hb hby d3_107) (q := 108) rfl ?_
            refine Go.s_istore X0 hx (hb hby d3_108) (q := 110) rfl (l' := #[.val (.ref a), .val (.int i), .val (.int to), .val (.int v2), .val (.int (4 : Int32)), .val (.int v31), .val (.int ((bs.getD (I + 1) 0) &&& (255 : Int32))), .unset]) rfl ?_
            generalize hv34 : ((bs.getD (I + 1) 0) &&& (255 : Int32)) = v34
            refine Go.s_iload X0 hx (hb hby d3_110) (q := 112) rfl rfl ?_
            refine Go.s_sipush X0 hx (hb hby d3_112) (q := 115) rfl (z := 192) rfl ?_
            refine Go.s_iand X0 hx (hb hby d3_115) (q := 116) rfl ?_
            refine Go.s_sipush X0 hx (hb hby d3_116) (q := 119) rfl (z := 128) rfl ?_
            by_cases c119_35 : (v34 &&& (192 : Int32)) = (128 : Int32)
            · -- pc 119: (v34 &&& (192 : Int32)) = (128 : Int32)
              refine Go.s_icmpYes X0 hx (hb hby d3_119) (q := 124) (by decide) (by decide) (teq c119_35).1 ?_
              refine Go.s_iload X0 hx (hb hby d3_124) (q := 126) rfl rfl ?_
              refine Go.s_bipush X0 hx (hb hby d3_126) (q := 128) rfl (z := 6) rfl ?_
              refine Go.s_ishl X0 hx (hb hby d3_128) (q := 129) rfl ?_
              refine Go.s_iload X0 hx (hb hby d3_129) (q := 131) rfl rfl ?_
              refine Go.s_bipush X0 hx (hb hby d3_131) (q := 133) rfl (z := 63) rfl ?_
              refine Go.s_iand X0 hx (hb hby d3_133) (q := 134) rfl ?_
              refine Go.s_ior X0 hx (hb hby d3_134) (q := 135) rfl ?_
              refine Go.s_istore X0 hx (hb hby d3_135) (q := 137) rfl (l' := #[.val (.ref a), .val (.int i), .val (.int to), .val (.int v2), .val (.int (4 : Int32)), .val (.int ((v31 <<< ((6 : Int32) &&& 31)) ||| (v34 &&& (63 : Int32)))), .val (.int v34), .unset]) rfl ?_
              generalize hv36 : ((v31 <<< ((6 : Int32) &&& 31)) ||| (v34 &&& (63 : Int32))) = v36
              refine Go.s_iload X0 hx (hb hby d3_137) (q := 139) rfl rfl ?_
              refine Go.s_iconst X0 hx (hb hby d3_139) (q := 140) rfl (z := 3) rfl ?_
              refine Go.s_icmpNo X0 hx (hb hby d3_140) (q := 143) rfl (flt (by decide : ¬ ((4 : Int32) < (3 : Int32)))).1 ?_
              refine Go.s_aloadN X0 hx (hb hby d3_143) (q := 144) rfl rfl rfl ?_
              refine Go.s_iloadN X0 hx (hb hby d3_144) (q := 145) rfl rfl ?_
              refine Go.s_iconst X0 hx (hb hby d3_145) (q := 146) rfl (z := 2) rfl ?_
              refine Go.s_iadd X0 hx (hb hby d3_146) (q := 147) rfl ?_
              obtain ⟨hj37, hn37⟩ := ix (k := (2 : Int32)) (K := 2) hiI (by decide) (by omega)
              refine Go.ldB X0 hx hZ e0 V_a hj37 (w := (.int (bs.getD (I + 2) 0))) (by rw [hn37]; exact getD_mapI bs _) (hb hby d3_147) ?_
              show Go p e below _ T0 (mkF m 148 #[.val (.ref a), .val (.int i), .val (.int to), .val (.int v2), .val (.int (4 : Int32)), .val (.int v36), .val (.int v34), .unset] [(.int (bs.getD (I + 2) 0))])
              refine Go.s_sipush X0 hx (hb hby d3_148) (q := 151) rfl (z := 255) rfl ?_
              refine Go.s_iand X0 hx (hb hby d3_151) (q := 152) rfl ?_
              refine Go.s_istore X0 hx (hb hby d3_152) (q := 154) rfl (l' := #[.val (.ref a), .val (.int i), .val (.int to), .val (.int v2), .val (.int (4 : Int32)), .val (.int v36), .val (.int v34), .val (.int ((bs.getD (I + 2) 0) &&& (255 : Int32)))]) rfl ?_
              generalize hv38 : ((bs.getD (I + 2) 0) &&& (255 : Int32)) = v38
              refine Go.s_iload X0 hx (hb hby d3_154) (q := 156) rfl rfl ?_
              refine Go.s_sipush X0 hx (hb hby d3_156) (q := 159) rfl (z := 192) rfl ?_
              refine Go.s_iand X0 hx (hb hby d3_159) (q := 160) rfl ?_
              refine Go.s_sipush X0 hx (hb hby d3_160) (q := 163) rfl (z := 128) rfl ?_
              by_cases c163_39 : (v38 &&& (192 : Int32)) = (128 : Int32)
              · -- pc 163: (v38 &&& (192 : Int32)) = (128 : Int32)
                refine Go.s_icmpYes X0 hx (hb hby d3_163) (q := 168) (by decide) (by decide) (teq c163_39).1 ?_
                refine Go.s_iload X0 hx (hb hby d3_168) (q := 170) rfl rfl ?_
                refine Go.s_bipush X0 hx (hb hby d3_170) (q := 172) rfl (z := 6) rfl ?_
                refine Go.s_ishl X0 hx (hb hby d3_172) (q := 173) rfl ?_
                refine Go.s_iload X0 hx (hb hby d3_173) (q := 175) rfl rfl ?_
                refine Go.s_bipush X0 hx (hb hby d3_175) (q := 177) rfl (z := 63) rfl ?_
                refine Go.s_iand X0 hx (hb hby d3_177) (q := 178) rfl ?_
                refine Go.s_ior X0 hx (hb hby d3_178) (q := 179) rfl ?_
                refine Go.s_istore X0 hx (hb hby d3_179) (q := 181) rfl (l' := #[.val (.ref a), .val (.int i), .val (.int to), .val (.int v2), .val (.int (4 : Int32)), .val (.int ((v36 <<< ((6 : Int32) &&& 31)) ||| (v38 &&& (63 : Int32)))), .val (.int v34), .val (.int v38)]) rfl ?_
                generalize hv40 : ((v36 <<< ((6 : Int32) &&& 31)) ||| (v38 &&& (63 : Int32))) = v40
                refine Go.s_iload X0 hx (hb hby d3_181) (q := 183) rfl rfl ?_
                refine Go.s_iconst X0 hx (hb hby d3_183) (q := 184) rfl (z := 4) rfl ?_
                refine Go.s_icmpNo X0 hx (hb hby d3_184) (q := 187) rfl (teq (by decide : (4 : Int32) = (4 : Int32))).2 ?_
                refine Go.s_aloadN X0 hx (hb hby d3_187) (q := 188) rfl rfl rfl ?_
                refine Go.s_iloadN X0 hx (hb hby d3_188) (q := 189) rfl rfl ?_
                refine Go.s_iconst X0 hx (hb hby d3_189) (q := 190) rfl (z := 3) rfl ?_
                refine Go.s_iadd X0 hx (hb hby d3_190) (q := 191) rfl ?_
                obtain ⟨hj41, hn41⟩ := ix (k := (3 : Int32)) (K := 3) hiI (by decide) (by omega)
                refine Go.ldB X0 hx hZ e0 V_a hj41 (w := (.int (bs.getD (I + 3) 0))) (by rw [hn41]; exact getD_mapI bs _) (hb hby d3_191) ?_
                show Go p e below _ T0 (mkF m 192 #[.val (.ref a), .val (.int i), .val (.int to), .val (.int v2), .val (.int (4 : Int32)), .val (.int v40), .val (.int v34), .val (.int v38)] [(.int (bs.getD (I + 3) 0))])
                refine Go.s_sipush X0 hx (hb hby d3_192) (q := 195) rfl (z := 255) rfl ?_
                refine Go.s_iand X0 hx (hb hby d3_195) (q := 196) rfl ?_
                refine Go.s_istore X0 hx (hb hby d3_196) (q := 198) rfl (l' := #[.val (.ref a), .val (.int i), .val (.int to), .val (.int v2), .val (.int (4 : Int32)), .val (.int v40), .val (.int v34), .val (.int ((bs.getD (I + 3) 0) &&& (255 : Int32)))]) rfl ?_
                generalize hv42 : ((bs.getD (I + 3) 0) &&& (255 : Int32)) = v42
                refine Go.s_iload X0 hx (hb hby d3_198) (q := 200) rfl rfl ?_
                refine Go.s_sipush X0 hx (hb hby d3_200) (q := 203) rfl (z := 192) rfl ?_
                refine Go.s_iand X0 hx (hb hby d3_203) (q := 204) rfl ?_
                refine Go.s_sipush X0 hx (hb hby d3_204) (q := 207) rfl (z := 128) rfl ?_
                by_cases c207_43 : (v42 &&& (192 : Int32)) = (128 : Int32)
                · -- pc 207: (v42 &&& (192 : Int32)) = (128 : Int32)
                  refine Go.s_icmpYes X0 hx (hb hby d3_207) (q := 212) (by decide) (by decide) (teq c207_43).1 ?_
                  refine Go.s_iload X0 hx (hb hby d3_212) (q := 214) rfl rfl ?_
                  refine Go.s_bipush X0 hx (hb hby d3_214) (q := 216) rfl (z := 6) rfl ?_
                  refine Go.s_ishl X0 hx (hb hby d3_216) (q := 217) rfl ?_
                  refine Go.s_iload X0 hx (hb hby d3_217) (q := 219) rfl rfl ?_
                  refine Go.s_bipush X0 hx (hb hby d3_219) (q := 221) rfl (z := 63) rfl ?_
                  refine Go.s_iand X0 hx (hb hby d3_221) (q := 222) rfl ?_
                  refine Go.s_ior X0 hx (hb hby d3_222) (q := 223) rfl ?_
                  refine Go.s_istore X0 hx (hb hby d3_223) (q := 225) rfl (l' := #[.val (.ref a), .val (.int i), .val (.int to), .val (.int v2), .val (.int (4 : Int32)), .val (.int ((v40 <<< ((6 : Int32) &&& 31)) ||| (v42 &&& (63 : Int32)))), .val (.int v34), .val (.int v42)]) rfl ?_
                  generalize hv44 : ((v40 <<< ((6 : Int32) &&& 31)) ||| (v42 &&& (63 : Int32))) = v44
                  refine Go.s_iload X0 hx (hb hby d3_225) (q := 227) rfl rfl ?_
                  refine Go.s_iconst X0 hx (hb hby d3_227) (q := 228) rfl (z := 2) rfl ?_
                  refine Go.s_icmpYes X0 hx (hb hby d3_228) (q := 237) (by decide) (by decide) (feq (by decide : ¬ ((4 : Int32) = (2 : Int32)))).2 ?_
                  refine Go.s_iload X0 hx (hb hby d3_237) (q := 239) rfl rfl ?_
                  refine Go.s_iconst X0 hx (hb hby d3_239) (q := 240) rfl (z := 3) rfl ?_
                  refine Go.s_icmpYes X0 hx (hb hby d3_240) (q := 249) (by decide) (by decide) (feq (by decide : ¬ ((4 : Int32) = (3 : Int32)))).2 ?_
                  refine Go.s_ldc X0 hx (hb hby d3_249) (q := 251) rfl hown (mvT hZ (w_ hw 18 rfl)) ?_
                  refine Go.s_istore X0 hx (hb hby d3_251) (q := 253) rfl (l' := #[.val (.ref a), .val (.int i), .val (.int to), .val (.int v2), .val (.int (4 : Int32)), .val (.int v44), .val (.int v34), .val (.int (65536 : Int32))]) rfl ?_
                  refine Go.s_iload X0 hx (hb hby d3_253) (q := 255) rfl rfl ?_
                  refine Go.s_iload X0 hx (hb hby d3_255) (q := 257) rfl rfl ?_
                  by_cases c257_45 : v44 < (65536 : Int32)
                  · -- pc 257: v44 < (65536 : Int32)
                    refine Go.s_icmpYes X0 hx (hb hby d3_257) (q := 281) (by decide) (by decide) (tlt c257_45).1 ?_
                    refine Go.s_iconst X0 hx (hb hby d3_281) (q := 282) rfl (z := 0) rfl ?_
                    refine Go.retI X0 hx hlk hret (hb hby d3_282) (by decide) (by decide) ?_
                    try rw [e0]
                    refine ⟨_, rfl, ?_, rfl, rfl⟩
                    have := congrArg Int32.toInt hv2
                    have := rng8 (bs.getD I 0)
                    have := congrArg Int32.toInt hv31
                    have := c_mask v2 (7 : Int32) 3 (by decide) (by decide)
                    have := congrArg Int32.toInt hv34
                    have := rng8 (bs.getD (I + 1) 0)
                    have := c_mask v34 (63 : Int32) 6 (by decide) (by decide)
                    have := congrArg Int32.toInt hv38
                    have := rng8 (bs.getD (I + 2) 0)
                    have := c_mask v38 (63 : Int32) 6 (by decide) (by decide)
                    have := congrArg Int32.toInt hv42
                    have := rng8 (bs.getD (I + 3) 0)
                    have := c_mask v42 (63 : Int32) 6 (by decide) (by decide)
                    have := (by decide : (0 : Int32).toInt = 0)
                    have := (by decide : (4 : Int32).toInt = 4)
                    have := (by decide : (128 : Int32).toInt = 128)
                    have := (by decide : (192 : Int32).toInt = 192)
                    have := (by decide : (224 : Int32).toInt = 224)
                    have := (by decide : (240 : Int32).toInt = 240)
                    have := (by decide : (248 : Int32).toInt = 248)
                    have := (by decide : (65536 : Int32).toInt = 65536)
                    have := mt (m128 (x := v2) (by omega) (by omega)).mpr c13_3
                    have := mt (m224 (x := v2) (by omega) (by omega)).mpr c26_4
                    have := mt (m240 (x := v2) (by omega) (by omega)).mpr c49_15
                    have := (m248 (x := v2) (by omega) (by omega)).mp c72_30
                    have := c_isub to i
                    have := rng32 (to - i)
                    have := mt Int32.lt_iff_toInt_lt.mpr c94_32
                    have := (m192 (x := v34) (by omega) (by omega)).mp c119_35
                    have := (m192 (x := v38) (by omega) (by omega)).mp c163_39
                    have := (m192 (x := v42) (by omega) (by omega)).mp c207_43
                    have := Int32.lt_iff_toInt_lt.mp c257_45
                    have := cpt (by omega) (by omega) hv36
                    have := cpt (by omega) (by omega) hv40
                    have := cpt (by omega) (by omega) hv44
                    simp only [wf, uu]
                    repeat' split
                    all_goals omega
                  · -- pc 257: not v44 < (65536 : Int32)
                    refine Go.s_icmpNo X0 hx (hb hby d3_257) (q := 260) rfl (flt c257_45).1 ?_
                    refine Go.s_iload X0 hx (hb hby d3_260) (q := 262) rfl rfl ?_
                    refine Go.s_ldc X0 hx (hb hby d3_262) (q := 264) rfl hown (mvT hZ (w_ hw 16 rfl)) ?_
                    by_cases c264_46 : (1114111 : Int32) < v44
                    · -- pc 264: (1114111 : Int32) < v44
                      refine Go.s_icmpYes X0 hx (hb hby d3_264) (q := 281) (by decide) (by decide) (tlt c264_46).2.2.1 ?_
                      refine Go.s_iconst X0 hx (hb hby d3_281) (q := 282) rfl (z := 0) rfl ?_
                      refine Go.retI X0 hx hlk hret (hb hby d3_282) (by decide) (by decide) ?_
                      try rw [e0]
                      refine ⟨_, rfl, ?_, rfl, rfl⟩
                      have := congrArg Int32.toInt hv2
                      have := rng8 (bs.getD I 0)
                      have := congrArg Int32.toInt hv31
                      have := c_mask v2 (7 : Int32) 3 (by decide) (by decide)
                      have := congrArg Int32.toInt hv34
                      have := rng8 (bs.getD (I + 1) 0)
                      have := c_mask v34 (63 : Int32) 6 (by decide) (by decide)
                      have := congrArg Int32.toInt hv38
                      have := rng8 (bs.getD (I + 2) 0)
                      have := c_mask v38 (63 : Int32) 6 (by decide) (by decide)
                      have := congrArg Int32.toInt hv42
                      have := rng8 (bs.getD (I + 3) 0)
                      have := c_mask v42 (63 : Int32) 6 (by decide) (by decide)
                      have := (by decide : (0 : Int32).toInt = 0)
                      have := (by decide : (4 : Int32).toInt = 4)
                      have := (by decide : (128 : Int32).toInt = 128)
                      have := (by decide : (192 : Int32).toInt = 192)
                      have := (by decide : (224 : Int32).toInt = 224)
                      have := (by decide : (240 : Int32).toInt = 240)
                      have := (by decide : (248 : Int32).toInt = 248)
                      have := (by decide : (65536 : Int32).toInt = 65536)
                      have := (by decide : (1114111 : Int32).toInt = 1114111)
                      have := mt (m128 (x := v2) (by omega) (by omega)).mpr c13_3
                      have := mt (m224 (x := v2) (by omega) (by omega)).mpr c26_4
                      have := mt (m240 (x := v2) (by omega) (by omega)).mpr c49_15
                      have := (m248 (x := v2) (by omega) (by omega)).mp c72_30
                      have := c_isub to i
                      have := rng32 (to - i)
                      have := mt Int32.lt_iff_toInt_lt.mpr c94_32
                      have := (m192 (x := v34) (by omega) (by omega)).mp c119_35
                      have := (m192 (x := v38) (by omega) (by omega)).mp c163_39
                      have := (m192 (x := v42) (by omega) (by omega)).mp c207_43
                      have := mt Int32.lt_iff_toInt_lt.mpr c257_45
                      have := Int32.lt_iff_toInt_lt.mp c264_46
                      have := cpt (by omega) (by omega) hv36
                      have := cpt (by omega) (by omega) hv40
                      have := cpt (by omega) (by omega) hv44
                      simp only [wf, uu]
                      repeat' split
                      all_goals omega
                    · -- pc 264: not (1114111 : Int32) < v44
                      refine Go.s_icmpNo X0 hx (hb hby d3_264) (q := 267) rfl (flt c264_46).2.2.1 ?_
                      refine Go.s_iload X0 hx (hb hby d3_267) (q := 269) rfl rfl ?_
                      refine Go.s_ldc X0 hx (hb hby d3_269) (q := 271) rfl hown (mvT hZ (w_ hw 17 rfl)) ?_
                      have i271_47 : ¬ (v44 < (55296 : Int32)) := by
                        intro qq
                        have := mt Int32.lt_iff_toInt_lt.mpr c257_45
                        have := mt Int32.lt_iff_toInt_lt.mpr c264_46
                        have := (by decide : (55296 : Int32).toInt = 55296)
                        have := (by decide : (65536 : Int32).toInt = 65536)
                        have := (by decide : (1114111 : Int32).toInt = 1114111)
                        have := Int32.lt_iff_toInt_lt.mp qq
                        omega
                      refine Go.s_icmpNo X0 hx (hb hby d3_271) (q := 274) rfl (flt i271_47).1 ?_
                      refine Go.s_iload X0 hx (hb hby d3_274) (q := 276) rfl rfl ?_
                      refine Go.s_ldc X0 hx (hb hby d3_276) (q := 278) rfl hown (mvT hZ (w_ hw 19 rfl)) ?_
                      have i278_48 : (57343 : Int32) < v44 := by
                        have := mt Int32.lt_iff_toInt_lt.mpr c257_45
                        have := mt Int32.lt_iff_toInt_lt.mpr c264_46
                        have := mt Int32.lt_iff_toInt_lt.mpr i271_47
                        have := (by decide : (55296 : Int32).toInt = 55296)
                        have := (by decide : (57343 : Int32).toInt = 57343)
                        have := (by decide : (65536 : Int32).toInt = 65536)
                        have := (by decide : (1114111 : Int32).toInt = 1114111)
                        exact Int32.lt_iff_toInt_lt.mpr (by omega)
                      refine Go.s_icmpYes X0 hx (hb hby d3_278) (q := 283) (by decide) (by decide) (tlt i278_48).2.2.1 ?_
                      refine Go.s_iload X0 hx (hb hby d3_283) (q := 285) rfl rfl ?_
                      refine Go.retI X0 hx hlk hret (hb hby d3_285) (by decide) (by decide) ?_
                      try rw [e0]
                      refine ⟨_, rfl, ?_, rfl, rfl⟩
                      have := congrArg Int32.toInt hv2
                      have := rng8 (bs.getD I 0)
                      have := congrArg Int32.toInt hv31
                      have := c_mask v2 (7 : Int32) 3 (by decide) (by decide)
                      have := congrArg Int32.toInt hv34
                      have := rng8 (bs.getD (I + 1) 0)
                      have := c_mask v34 (63 : Int32) 6 (by decide) (by decide)
                      have := congrArg Int32.toInt hv38
                      have := rng8 (bs.getD (I + 2) 0)
                      have := c_mask v38 (63 : Int32) 6 (by decide) (by decide)
                      have := congrArg Int32.toInt hv42
                      have := rng8 (bs.getD (I + 3) 0)
                      have := c_mask v42 (63 : Int32) 6 (by decide) (by decide)
                      have := (by decide : (0 : Int32).toInt = 0)
                      have := (by decide : (4 : Int32).toInt = 4)
                      have := (by decide : (128 : Int32).toInt = 128)
                      have := (by decide : (192 : Int32).toInt = 192)
                      have := (by decide : (224 : Int32).toInt = 224)
                      have := (by decide : (240 : Int32).toInt = 240)
                      have := (by decide : (248 : Int32).toInt = 248)
                      have := (by decide : (65536 : Int32).toInt = 65536)
                      have := (by decide : (1114111 : Int32).toInt = 1114111)
                      have := mt (m128 (x := v2) (by omega) (by omega)).mpr c13_3
                      have := mt (m224 (x := v2) (by omega) (by omega)).mpr c26_4
                      have := mt (m240 (x := v2) (by omega) (by omega)).mpr c49_15
                      have := (m248 (x := v2) (by omega) (by omega)).mp c72_30
                      have := c_isub to i
                      have := rng32 (to - i)
                      have := mt Int32.lt_iff_toInt_lt.mpr c94_32
                      have := (m192 (x := v34) (by omega) (by omega)).mp c119_35
                      have := (m192 (x := v38) (by omega) (by omega)).mp c163_39
                      have := (m192 (x := v42) (by omega) (by omega)).mp c207_43
                      have := mt Int32.lt_iff_toInt_lt.mpr c257_45
                      have := mt Int32.lt_iff_toInt_lt.mpr c264_46
                      have := cpt (by omega) (by omega) hv36
                      have := cpt (by omega) (by omega) hv40
                      have := cpt (by omega) (by omega) hv44
                      simp only [wf, uu]
                      repeat' split
                      all_goals omega
                · -- pc 207: not (v42 &&& (192 : Int32)) = (128 : Int32)
                  refine Go.s_icmpNo X0 hx (hb hby d3_207) (q := 210) rfl (feq c207_43).1 ?_
                  refine Go.s_iconst X0 hx (hb hby d3_210) (q := 211) rfl (z := 0) rfl ?_
                  refine Go.retI X0 hx hlk hret (hb hby d3_211) (by decide) (by decide) ?_
                  try rw [e0]
                  refine ⟨_, rfl, ?_, rfl, rfl⟩
                  have := congrArg Int32.toInt hv2
                  have := rng8 (bs.getD I 0)
                  have := congrArg Int32.toInt hv31
                  have := c_mask v2 (7 : Int32) 3 (by decide) (by decide)
                  have := congrArg Int32.toInt hv34
                  have := rng8 (bs.getD (I + 1) 0)
                  have := c_mask v34 (63 : Int32) 6 (by decide) (by decide)
                  have := congrArg Int32.toInt hv38
                  have := rng8 (bs.getD (I + 2) 0)
                  have := c_mask v38 (63 : Int32) 6 (by decide) (by decide)
                  have := congrArg Int32.toInt hv42
                  have := rng8 (bs.getD (I + 3) 0)
                  have := (by decide : (0 : Int32).toInt = 0)
                  have := (by decide : (4 : Int32).toInt = 4)
                  have := (by decide : (128 : Int32).toInt = 128)
                  have := (by decide : (192 : Int32).toInt = 192)
                  have := (by decide : (224 : Int32).toInt = 224)
                  have := (by decide : (240 : Int32).toInt = 240)
                  have := (by decide : (248 : Int32).toInt = 248)
                  have := mt (m128 (x := v2) (by omega) (by omega)).mpr c13_3
                  have := mt (m224 (x := v2) (by omega) (by omega)).mpr c26_4
                  have := mt (m240 (x := v2) (by omega) (by omega)).mpr c49_15
                  have := (m248 (x := v2) (by omega) (by omega)).mp c72_30
                  have := c_isub to i
                  have := rng32 (to - i)
                  have := mt Int32.lt_iff_toInt_lt.mpr c94_32
                  have := (m192 (x := v34) (by omega) (by omega)).mp c119_35
                  have := (m192 (x := v38) (by omega) (by omega)).mp c163_39
                  have := mt (m192 (x := v42) (by omega) (by omega)).mpr c207_43
                  have := cpt (by omega) (by omega) hv36
                  have := cpt (by omega) (by omega) hv40
                  simp only [wf, uu]
                  repeat' split
                  all_goals omega
              · -- pc 163: not (v38 &&& (192 : Int32)) = (128 : Int32)
                refine Go.s_icmpNo X0 hx (hb hby d3_163) (q := 166) rfl (feq c163_39).1 ?_
                refine Go.s_iconst X0 hx (hb hby d3_166) (q := 167) rfl (z := 0) rfl ?_
                refine Go.retI X0 hx hlk hret (hb hby d3_167) (by decide) (by decide) ?_
                try rw [e0]
                refine ⟨_, rfl, ?_, rfl, rfl⟩
                have := congrArg Int32.toInt hv2
                have := rng8 (bs.getD I 0)
                have := congrArg Int32.toInt hv31
                have := c_mask v2 (7 : Int32) 3 (by decide) (by decide)
                have := congrArg Int32.toInt hv34
                have := rng8 (bs.getD (I + 1) 0)
                have := c_mask v34 (63 : Int32) 6 (by decide) (by decide)
                have := congrArg Int32.toInt hv38
                have := rng8 (bs.getD (I + 2) 0)
                have := (by decide : (0 : Int32).toInt = 0)
                have := (by decide : (4 : Int32).toInt = 4)
                have := (by decide : (128 : Int32).toInt = 128)
                have := (by decide : (192 : Int32).toInt = 192)
                have := (by decide : (224 : Int32).toInt = 224)
                have := (by decide : (240 : Int32).toInt = 240)
                have := (by decide : (248 : Int32).toInt = 248)
                have := mt (m128 (x := v2) (by omega) (by omega)).mpr c13_3
                have := mt (m224 (x := v2) (by omega) (by omega)).mpr c26_4
                have := mt (m240 (x := v2) (by omega) (by omega)).mpr c49_15
                have := (m248 (x := v2) (by omega) (by omega)).mp c72_30
                have := c_isub to i
                have := rng32 (to - i)
                have := mt Int32.lt_iff_toInt_lt.mpr c94_32
                have := (m192 (x := v34) (by omega) (by omega)).mp c119_35
                have := mt (m192 (x := v38) (by omega) (by omega)).mpr c163_39
                have := cpt (by omega) (by omega) hv36
                simp only [wf, uu]
                repeat' split
                all_goals omega
            · -- pc 119: not (v34 &&& (192 : Int32)) = (128 : Int32)
              refine Go.s_icmpNo X0 hx (hb hby d3_119) (q := 122) rfl (feq c119_35).1 ?_
              refine Go.s_iconst X0 hx (hb hby d3_122) (q := 123) rfl (z := 0) rfl ?_
              refine Go.retI X0 hx hlk hret (hb hby d3_123) (by decide) (by decide) ?_
              try rw [e0]
              refine ⟨_, rfl, ?_, rfl, rfl⟩
              have := congrArg Int32.toInt hv2
              have := rng8 (bs.getD I 0)
              have := congrArg Int32.toInt hv31
              have := c_mask v2 (7 : Int32) 3 (by decide) (by decide)
              have := congrArg Int32.toInt hv34
              have := rng8 (bs.getD (I + 1) 0)
              have := (by decide : (0 : Int32).toInt = 0)
              have := (by decide : (4 : Int32).toInt = 4)
              have := (by decide : (128 : Int32).toInt = 128)
              have := (by decide : (192 : Int32).toInt = 192)
              have := (by decide : (224 : Int32).toInt = 224)
              have := (by decide : (240 : Int32).toInt = 240)
              have := (by decide : (248 : Int32).toInt = 248)
              have := mt (m128 (x := v2) (by omega) (by omega)).mpr c13_3
              have := mt (m224 (x := v2) (by omega) (by omega)).mpr c26_4
              have := mt (m240 (x := v2) (by omega) (by omega)).mpr c49_15
              have := (m248 (x := v2) (by omega) (by omega)).mp c72_30
              have := c_isub to i
              have := rng32 (to - i)
              have := mt Int32.lt_iff_toInt_lt.mpr c94_32
              have := mt (m192 (x := v34) (by omega) (by omega)).mpr c119_35
              simp only [wf, uu]
              repeat' split
              all_goals omega
        · -- pc 72: not (v2 &&& (248 : Int32)) = (240 : Int32)
          refine Go.s_icmpYes X0 hx (hb hby d3_72) (q := 87) (by decide) (by decide) (feq c72_30).2 ?_
          refine Go.s_iconst X0 hx (hb hby d3_87) (q := 88) rfl (z := 0) rfl ?_
          refine Go.retI X0 hx hlk hret (hb hby d3_88) (by decide) (by decide) ?_
          try rw [e0]
          refine ⟨_, rfl, ?_, rfl, rfl⟩
          have := congrArg Int32.toInt hv2
          have := rng8 (bs.getD I 0)
          have := (by decide : (0 : Int32).toInt = 0)
          have := (by decide : (128 : Int32).toInt = 128)
          have := (by decide : (192 : Int32).toInt = 192)
          have := (by decide : (224 : Int32).toInt = 224)
          have := (by decide : (240 : Int32).toInt = 240)
          have := (by decide : (248 : Int32).toInt = 248)
          have := mt (m128 (x := v2) (by omega) (by omega)).mpr c13_3
          have := mt (m224 (x := v2) (by omega) (by omega)).mpr c26_4
          have := mt (m240 (x := v2) (by omega) (by omega)).mpr c49_15
          have := mt (m248 (x := v2) (by omega) (by omega)).mpr c72_30
          simp only [wf, uu]
          repeat' split
          all_goals omega
set_option maxRecDepth 65536 in
set_option maxHeartbeats 40000000 in
theorem lp_fm {p : Program} {l : Launch} {e : Env} {R : Room} {s : State} {m : MethodId} {args : Array Value} {below : List Frame} {meth : Method} {c : Code} {Z : State} {a0 : Array Value} {h0 : Heap} (hw : ∀ d ∈ tables_1, d.before a0 Z = true) (hx : p.tables.exec = Jvm.exec) (hby : c.code = prog_58_method_2_code) (hml : c.maxLocals = 9) (hown : s.vm.findClass "com/example/tally3/tally3/usage/Utf8" = some m.cls) (hret : meth.sig.returnType = some .int) (hlk : meth.locks = false) (hZ : Z.Warmed39 s.vm) (hRf : 1 ≤ R.frames) (hRl : 19 ≤ R.locals) {a : Addr} {fr to : Int32} {kc : ClassId} {bs : List Int32} (V_a : Arv Z h0 a kc .byte (6 : Int32) (bs.map Value.int) (.int 0)) (hto : to.toInt ≤ 6) {C S : Nat} (n : Nat) :
    ∀ {T0 : State} (X0 : Stand p l e R s m args below meth c T0 [] 0 0) (e0 : T0.heap = h0) (i : Int32) (I : Nat) (s4 s5 s6 s7 s8 : Slot) (hiI : i.toInt = (I : Int)) (hn : to.toInt - I ≤ n) (hs4 : One s4) (hs5 : One s5) (hs6 : One s6) (hs7 : One s7) (hs8 : One s8), Go p e below (FN s (fun v h L => ∃ r, v = some (.int r) ∧ r.toInt = fmal (uu bs) to.toInt n I ∧ L = [] ∧ h = h0) C S) T0 (mkF m 2 #[.val (.ref a), .val (.int fr), .val (.int to), .val (.int i), s4, s5, s6, s7, s8] []) := by
  induction n with
  | zero =>
    intro T0 X0 e0 i I s4 s5 s6 s7 s8 hiI hn hs4 hs5 hs6 hs7 hs8
    have hnl : ¬ (i < to) := fun q => by have := Int32.lt_iff_toInt_lt.mp q; omega
    show Go p e below _ T0 (mkF m 2 #[.val (.ref a), .val (.int fr), .val (.int to), .val (.int i), s4, s5, s6, s7, s8] [])
    refine Go.s_iloadN X0 hx (hb hby d1_2) (q := 3) rfl rfl ?_
    refine Go.s_iloadN X0 hx (hb hby d1_3) (q := 4) rfl rfl ?_
    refine Go.s_icmpYes X0 hx (hb hby d1_4) (q := 249) (by decide) (by decide) (flt hnl).2.1 ?_
    refine Go.s_iconst X0 hx (hb hby d1_249) (q := 250) rfl (z := -1) rfl ?_
    refine Go.retI X0 hx hlk hret (hb hby d1_250) (Nat.zero_le _) (Nat.zero_le _) ?_
    try rw [e0]
    exact ⟨_, rfl, by rw [fmal_end (by omega)]; decide, rfl, rfl⟩
  | succ n ih =>
    intro T0 X0 e0 i I s4 s5 s6 s7 s8 hiI hn hs4 hs5 hs6 hs7 hs8
    by_cases hil : i < to
    ·
      have hlt : (I : Int) < to.toInt := by have := Int32.lt_iff_toInt_lt.mp hil; omega
      show Go p e below _ T0 (mkF m 2 #[.val (.ref a), .val (.int fr), .val (.int to), .val (.int i), s4, s5, s6, s7, s8] [])
      refine Go.s_iloadN X0 hx (hb hby d1_2) (q := 3) rfl rfl ?_
      refine Go.s_iloadN X0 hx (hb hby d1_3) (q := 4) rfl rfl ?_
      refine Go.s_icmpNo X0 hx (hb hby d1_4) (q := 7) rfl (tlt hil).2.1 ?_
      refine Go.s_aloadN X0 hx (hb hby d1_7) (q := 8) rfl rfl rfl ?_
      refine Go.s_iloadN X0 hx (hb hby d1_8) (q := 9) rfl rfl ?_
      obtain ⟨hj1, hn1⟩ := ix0 hiI (by omega)
      refine Go.ldB X0 hx hZ e0 V_a hj1 (w := (.int (bs.getD I 0))) (by rw [hn1]; exact getD_mapI bs _) (hb hby d1_9) ?_
      show Go p e below _ T0 (mkF m 10 #[.val (.ref a), .val (.int fr), .val (.int to), .val (.int i), s4, s5, s6, s7, s8] [(.int (bs.getD I 0))])
      refine Go.s_sipush X0 hx (hb hby d1_10) (q := 13) rfl (z := 255) rfl ?_
      refine Go.s_iand X0 hx (hb hby d1_13) (q := 14) rfl ?_
      refine Go.s_istoreS X0 hx (hb hby d1_14) (q := 16) rfl (o := s4) rfl hs4 (l' := #[.val (.ref a), .val (.int fr), .val (.int to), .val (.int i), .val (.int ((bs.getD I 0) &&& (255 : Int32))), s5, s6, s7, s8]) rfl ?_
      refine Go.s_iload X0 hx (hb hby d1_16) (q := 18) rfl rfl ?_
      refine Go.s_sipush X0 hx (hb hby d1_18) (q := 21) rfl (z := 128) rfl ?_
      by_cases c21_2 : ((bs.getD I 0) &&& (255 : Int32)) < (128 : Int32)
      · -- pc 21: ((bs.getD I 0) &&& (255 : Int32)) < (128 : Int32)
        refine Go.s_icmpNo X0 hx (hb hby d1_21) (q := 24) rfl (tlt c21_2).2.1 ?_
        refine Go.s_iinc X0 hx (hb hby d1_24) (q := 27) rfl rfl (l' := #[.val (.ref a), .val (.int fr), .val (.int to), .val (.int (i + (1 : Int32))), .val (.int ((bs.getD I 0) &&& (255 : Int32))), s5, s6, s7, s8]) rfl ?_
        refine Go.s_goto X0 hx (hb hby d1_27) (q := 2) (by decide) (by decide) ?_
        have hwf : wf (uu bs) I (to.toInt - I) = 1 := by
          have := rng8 (bs.getD I 0)
          have := (by decide : (128 : Int32).toInt = 128)
          have := (by decide : (255 : Int32).toInt = 255)
          have := Int32.lt_iff_toInt_lt.mp c21_2
          simp only [wf, uu]
          repeat' split
          all_goals omega
        have hix := ix2 (k := (1 : Int32)) (K := 1) hiI (by decide) (by omega)
        have hst : fmal (uu bs) to.toInt (n + 1) I = fmal (uu bs) to.toInt n (I + 1) := fmal_step hlt hwf (by decide)
        rw [hst]
        exact ih X0 e0 _ _ _ _ _ _ _ hix (by omega) (One.val rfl) (hs5) (hs6) (hs7) (hs8)
      · -- pc 21: not ((bs.getD I 0) &&& (255 : Int32)) < (128 : Int32)
        refine Go.s_icmpYes X0 hx (hb hby d1_21) (q := 30) (by decide) (by decide) (flt c21_2).2.1 ?_
        refine Go.s_sipush X0 hx (hb hby d1_30) (q := 33) rfl (z := 128) rfl ?_
        refine Go.s_istoreS X0 hx (hb hby d1_33) (q := 35) rfl (o := s6) rfl hs6 (l' := #[.val (.ref a), .val (.int fr), .val (.int to), .val (.int i), .val (.int ((bs.getD I 0) &&& (255 : Int32))), s5, .val (.int (128 : Int32)), s7, s8]) rfl ?_
        refine Go.s_sipush X0 hx (hb hby d1_35) (q := 38) rfl (z := 191) rfl ?_
        refine Go.s_istoreS X0 hx (hb hby d1_38) (q := 40) rfl (o := s7) rfl hs7 (l' := #[.val (.ref a), .val (.int fr), .val (.int to), .val (.int i), .val (.int ((bs.getD I 0) &&& (255 : Int32))), s5, .val (.int (128 : Int32)), .val (.int (191 : Int32)), s8]) rfl ?_
        refine Go.s_iload X0 hx (hb hby d1_40) (q := 42) rfl rfl ?_
        refine Go.s_sipush X0 hx (hb hby d1_42) (q := 45) rfl (z := 194) rfl ?_
        by_cases c45_3 : ((bs.getD I 0) &&& (255 : Int32)) < (194 : Int32)
        · -- pc 45: ((bs.getD I 0) &&& (255 : Int32)) < (194 : Int32)
          refine Go.s_icmpYes X0 hx (hb hby d1_45) (q := 62) (by decide) (by decide) (tlt c45_3).1 ?_
          refine Go.s_iload X0 hx (hb hby d1_62) (q := 64) rfl rfl ?_
          refine Go.s_sipush X0 hx (hb hby d1_64) (q := 67) rfl (z := 224) rfl ?_
          have i67_4 : ((bs.getD I 0) &&& (255 : Int32)) < (224 : Int32) := by
            have := mt Int32.lt_iff_toInt_lt.mpr c21_2
            have := Int32.lt_iff_toInt_lt.mp c45_3
            have := (by decide : (128 : Int32).toInt = 128)
            have := (by decide : (194 : Int32).toInt = 194)
            have := (by decide : (224 : Int32).toInt = 224)
            exact Int32.lt_iff_toInt_lt.mpr (by omega)
          refine Go.s_icmpYes X0 hx (hb hby d1_67) (q := 120) (by decide) (by decide) (tlt i67_4).1 ?_
          refine Go.s_iload X0 hx (hb hby d1_120) (q := 122) rfl rfl ?_
          refine Go.s_sipush X0 hx (hb hby d1_122) (q := 125) rfl (z := 240) rfl ?_
          have i125_5 : ((bs.getD I 0) &&& (255 : Int32)) < (240 : Int32) := by
            have := mt Int32.lt_iff_toInt_lt.mpr c21_2
            have := Int32.lt_iff_toInt_lt.mp c45_3
            have := Int32.lt_iff_toInt_lt.mp i67_4
            have := (by decide : (128 : Int32).toInt = 128)
            have := (by decide : (194 : Int32).toInt = 194)
            have := (by decide : (224 : Int32).toInt = 224)
            have := (by decide : (240 : Int32).toInt = 240)
            exact Int32.lt_iff_toInt_lt.mpr (by omega)
          refine Go.s_icmpYes X0 hx (hb hby d1_125) (q := 178) (by decide) (by decide) (tlt i125_5).1 ?_
          refine Go.s_iloadN X0 hx (hb hby d1_178) (q := 179) rfl rfl ?_
          refine Go.retI X0 hx hlk hret (hb hby d1_179) (Nat.zero_le _) (Nat.zero_le _) ?_
          try rw [e0]
          have hwf : wf (uu bs) I (to.toInt - I) = 0 := by
            have := rng8 (bs.getD I 0)
            have := (by decide : (128 : Int32).toInt = 128)
            have := (by decide : (194 : Int32).toInt = 194)
            have := (by decide : (255 : Int32).toInt = 255)
            have := mt Int32.lt_iff_toInt_lt.mpr c21_2
            have := Int32.lt_iff_toInt_lt.mp c45_3
            simp only [wf, uu]
            repeat' split
            all_goals omega
          exact ⟨_, rfl, by rw [fmal_bad hlt hwf]; exact hiI, rfl, rfl⟩
        · -- pc 45: not ((bs.getD I 0) &&& (255 : Int32)) < (194 : Int32)
          refine Go.s_icmpNo X0 hx (hb hby d1_45) (q := 48) rfl (flt c45_3).1 ?_
          refine Go.s_iload X0 hx (hb hby d1_48) (q := 50) rfl rfl ?_
          refine Go.s_sipush X0 hx (hb hby d1_50) (q := 53) rfl (z := 223) rfl ?_
          by_cases c53_6 : (223 : Int32) < ((bs.getD I 0) &&& (255 : Int32))
          · -- pc 53: (223 : Int32) < ((bs.getD I 0) &&& (255 : Int32))
            refine Go.s_icmpYes X0 hx (hb hby d1_53) (q := 62) (by decide) (by decide) (tlt c53_6).2.2.1 ?_
            refine Go.s_iload X0 hx (hb hby d1_62) (q := 64) rfl rfl ?_
            refine Go.s_sipush X0 hx (hb hby d1_64) (q := 67) rfl (z := 224) rfl ?_
            have i67_7 : ¬ (((bs.getD I 0) &&& (255 : Int32)) < (224 : Int32)) := by
              intro qq
              have := mt Int32.lt_iff_toInt_lt.mpr c21_2
              have := mt Int32.lt_iff_toInt_lt.mpr c45_3
              have := Int32.lt_iff_toInt_lt.mp c53_6
              have := (by decide : (128 : Int32).toInt = 128)
              have := (by decide : (194 : Int32).toInt = 194)
              have := (by decide : (223 : Int32).toInt = 223)
              have := (by decide : (224 : Int32).toInt = 224)
              have := Int32.lt_iff_toInt_lt.mp qq
              omega
            refine Go.s_icmpNo X0 hx (hb hby d1_67) (q := 70) rfl (flt i67_7).1 ?_
            refine Go.s_iload X0 hx (hb hby d1_70) (q := 72) rfl rfl ?_
            refine Go.s_sipush X0 hx (hb hby d1_72) (q := 75) rfl (z := 239) rfl ?_
            by_cases c75_8 : (239 : Int32) < ((bs.getD I 0) &&& (255 : Int32))
            · -- pc 75: (239 : Int32) < ((bs.getD I 0) &&& (255 : Int32))
              refine Go.s_icmpYes X0 hx (hb hby d1_75) (q := 120) (by decide) (by decide) (tlt c75_8).2.2.1 ?_
              refine Go.s_iload X0 hx (hb hby d1_120) (q := 122) rfl rfl ?_
              refine Go.s_sipush X0 hx (hb hby d1_122) (q := 125) rfl (z := 240) rfl ?_
              have i125_9 : ¬ (((bs.getD I 0) &&& (255 : Int32)) < (240 : Int32)) := by
                intro qq
                have := mt Int32.lt_iff_toInt_lt.mpr c21_2
                have := mt Int32.lt_iff_toInt_lt.mpr c45_3
                have := Int32.lt_iff_toInt_lt.mp c53_6
                have := mt Int32.lt_iff_toInt_lt.mpr i67_7
                have := Int32.lt_iff_toInt_lt.mp c75_8
                have := (by decide : (128 : Int32).toInt = 128)
                have := (by decide : (194 : Int32).toInt = 194)
                have := (by decide : (223 : Int32).toInt = 223)
                have := (by decide : (224 : Int32).toInt = 224)
                have := (by decide : (239 : Int32).toInt = 239)
                have := (by decide : (240 : Int32).toInt = 240)
                have := Int32.lt_iff_toInt_lt.mp qq
                omega
              refine Go.s_icmpNo X0 hx (hb hby d1_125) (q := 128) rfl (flt i125_9).1 ?_
              refine Go.s_iload X0 hx (hb hby d1_128) (q := 130) rfl rfl ?_
              refine Go.s_sipush X0 hx (hb hby d1_130) (q := 133) rfl (z := 244) rfl ?_
              by_cases c133_10 : (244 : Int32) < ((bs.getD I 0) &&& (255 : Int32))
              · -- pc 133: (244 : Int32) < ((bs.getD I 0) &&& (255 : Int32))
                refine Go.s_icmpYes X0 hx (hb hby d1_133) (q := 178) (by decide) (by decide) (tlt c133_10).2.2.1 ?_
                refine Go.s_iloadN X0 hx (hb hby d1_178) (q := 179) rfl rfl ?_
                refine Go.retI X0 hx hlk hret (hb hby d1_179) (Nat.zero_le _) (Nat.zero_le _) ?_
                try rw [e0]
                have hwf : wf (uu bs) I (to.toInt - I) = 0 := by
                  have := rng8 (bs.getD I 0)
                  have := (by decide : (128 : Int32).toInt = 128)
                  have := (by decide : (194 : Int32).toInt = 194)
                  have := (by decide : (223 : Int32).toInt = 223)
                  have := (by decide : (239 : Int32).toInt = 239)
                  have := (by decide : (244 : Int32).toInt = 244)
                  have := (by decide : (255 : Int32).toInt = 255)
                  have := mt Int32.lt_iff_toInt_lt.mpr c21_2
                  have := mt Int32.lt_iff_toInt_lt.mpr c45_3
                  have := Int32.lt_iff_toInt_lt.mp c53_6
                  have := Int32.lt_iff_toInt_lt.mp c75_8
                  have := Int32.lt_iff_toInt_lt.mp c133_10
                  simp only [wf, uu]
                  repeat' split
                  all_goals omega
                exact ⟨_, rfl, by rw [fmal_bad hlt hwf]; exact hiI, rfl, rfl⟩
              · -- pc 133: not (244 : Int32) < ((bs.getD I 0) &&& (255 : Int32))
                refine Go.s_icmpNo X0 hx (hb hby d1_133) (q := 136) rfl (flt c133_10).2.2.1 ?_
                refine Go.s_iconst X0 hx (hb hby d1_136) (q := 137) rfl (z := 4) rfl ?_
                refine Go.s_istoreS X0 hx (hb hby d1_137) (q := 139) rfl (o := s5) rfl hs5 (l' := #[.val (.ref a), .val (.int fr), .val (.int to), .val (.int i), .val (.int ((bs.getD I 0) &&& (255 : Int32))), .val (.int (4 : Int32)), .val (.int (128 : Int32)), .val (.int (191 : Int32)), s8]) rfl ?_
                refine Go.s_iload X0 hx (hb hby d1_139) (q := 141) rfl rfl ?_
                refine Go.s_sipush X0 hx (hb hby d1_141) (q := 144) rfl (z := 240) rfl ?_
                by_cases c144_11 : ((bs.getD I 0) &&& (255 : Int32)) = (240 : Int32)
                · -- pc 144: ((bs.getD I 0) &&& (255 : Int32)) = (240 : Int32)
                  refine Go.s_icmpNo X0 hx (hb hby d1_144) (q := 147) rfl (teq c144_11).2 ?_
                  refine Go.s_sipush X0 hx (hb hby d1_147) (q := 150) rfl (z := 144) rfl ?_
                  refine Go.s_goto X0 hx (hb hby d1_150) (q := 155) (by decide) (by decide) ?_
                  refine Go.s_istore X0 hx (hb hby d1_155) (q := 157) rfl (l' := #[.val (.ref a), .val (.int fr), .val (.int to), .val (.int i), .val (.int ((bs.getD I 0) &&& (255 : Int32))), .val (.int (4 : Int32)), .val (.int (144 : Int32)), .val (.int (191 : Int32)), s8]) rfl ?_
                  refine Go.s_iload X0 hx (hb hby d1_157) (q := 159) rfl rfl ?_
                  refine Go.s_sipush X0 hx (hb hby d1_159) (q := 162) rfl (z := 244) rfl ?_
                  have i162_12 : ¬ (((bs.getD I 0) &&& (255 : Int32)) = (244 : Int32)) := by
                    intro qq
                    have := mt Int32.lt_iff_toInt_lt.mpr c21_2
                    have := mt Int32.lt_iff_toInt_lt.mpr c45_3
                    have := Int32.lt_iff_toInt_lt.mp c53_6
                    have := mt Int32.lt_iff_toInt_lt.mpr i67_7
                    have := Int32.lt_iff_toInt_lt.mp c75_8
                    have := mt Int32.lt_iff_toInt_lt.mpr i125_9
                    have := mt Int32.lt_iff_toInt_lt.mpr c133_10
                    have := congrArg Int32.toInt c144_11
                    have := (by decide : (128 : Int32).toInt = 128)
                    have := (by decide : (194 : Int32).toInt = 194)
                    have := (by decide : (223 : Int32).toInt = 223)
                    have := (by decide : (224 : Int32).toInt = 224)
                    have := (by decide : (239 : Int32).toInt = 239)
                    have := (by decide : (240 : Int32).toInt = 240)
                    have := (by decide : (244 : Int32).toInt = 244)
                    have := congrArg Int32.toInt qq
                    omega
                  refine Go.s_icmpYes X0 hx (hb hby d1_162) (q := 171) (by decide) (by decide) (feq i162_12).2 ?_
                  refine Go.s_iload X0 hx (hb hby d1_171) (q := 173) rfl rfl ?_
                  refine Go.s_istore X0 hx (hb hby d1_173) (q := 175) rfl (l' := #[.val (.ref a), .val (.int fr), .val (.int to), .val (.int i), .val (.int ((bs.getD I 0) &&& (255 : Int32))), .val (.int (4 : Int32)), .val (.int (144 : Int32)), .val (.int (191 : Int32)), s8]) rfl ?_
                  refine Go.s_goto X0 hx (hb hby d1_175) (q := 180) (by decide) (by decide) ?_
                  refine Go.s_iloadN X0 hx (hb hby d1_180) (q := 181) rfl rfl ?_
                  refine Go.s_iloadN X0 hx (hb hby d1_181) (q := 182) rfl rfl ?_
                  refine Go.s_isub X0 hx (hb hby d1_182) (q := 183) rfl ?_
                  refine Go.s_iload X0 hx (hb hby d1_183) (q := 185) rfl rfl ?_
                  by_cases c185_13 : (to - i) < (4 : Int32)
                  · -- pc 185: (to - i) < (4 : Int32)
                    refine Go.s_icmpYes X0 hx (hb hby d1_185) (q := 203) (by decide) (by decide) (tlt c185_13).1 ?_
                    refine Go.s_iloadN X0 hx (hb hby d1_203) (q := 204) rfl rfl ?_
                    refine Go.retI X0 hx hlk hret (hb hby d1_204) (Nat.zero_le _) (Nat.zero_le _) ?_
                    try rw [e0]
                    have hwf : wf (uu bs) I (to.toInt - I) = 0 := by
                      have := rng8 (bs.getD I 0)
                      have := (by decide : (4 : Int32).toInt = 4)
                      have := (by decide : (128 : Int32).toInt = 128)
                      have := (by decide : (194 : Int32).toInt = 194)
                      have := (by decide : (223 : Int32).toInt = 223)
                      have := (by decide : (239 : Int32).toInt = 239)
                      have := (by decide : (240 : Int32).toInt = 240)
                      have := (by decide : (244 : Int32).toInt = 244)
                      have := (by decide : (255 : Int32).toInt = 255)
                      have := c_isub to i
                      have := rng32 (to - i)
                      have := mt Int32.lt_iff_toInt_lt.mpr c21_2
                      have := mt Int32.lt_iff_toInt_lt.mpr c45_3
                      have := Int32.lt_iff_toInt_lt.mp c53_6
                      have := Int32.lt_iff_toInt_lt.mp c75_8
                      have := mt Int32.lt_iff_toInt_lt.mpr c133_10
                      have := congrArg Int32.toInt c144_11
                      have := Int32.lt_iff_toInt_lt.mp c185_13
                      simp only [wf, uu]
                      repeat' split
                      all_goals omega
                    exact ⟨_, rfl, by rw [fmal_bad hlt hwf]; exact hiI, rfl, rfl⟩
                  · -- pc 185: not (to - i) < (4 : Int32)
                    refine Go.s_icmpNo X0 hx (hb hby d1_185) (q := 188) rfl (flt c185_13).1 ?_
                    have nb := avail hiI hlt hto c185_13 (by decide)
                    have kk2 : (2 : Int32).toInt = 2 := by decide
                    have kk3 : (3 : Int32).toInt = 3 := by decide
                    have kk4 : (4 : Int32).toInt = 4 := by decide
                    refine Go.s_aloadN X0 hx (hb hby d1_188) (q := 189) rfl rfl rfl ?_
                    refine Go.s_iloadN X0 hx (hb hby d1_189) (q := 190) rfl rfl ?_
                    refine Go.s_iconst X0 hx (hb hby d1_190) (q := 191) rfl (z := 1) rfl ?_
                    refine Go.s_iadd X0 hx (hb hby d1_191) (q := 192) rfl ?_
                    obtain ⟨hj14, hn14⟩ := ix (k := (1 : Int32)) (K := 1) hiI (by decide) (by omega)
                    refine Go.ldB X0 hx hZ e0 V_a hj14 (w := (.int (bs.getD (I + 1) 0))) (by rw [hn14]; exact getD_mapI bs _) (hb hby d1_192) ?_
                    show Go p e below _ T0 (mkF m 193 #[.val (.ref a), .val (.int fr), .val (.int to), .val (.int i), .val (.int ((bs.getD I 0) &&& (255 : Int32))), .val (.int (4 : Int32)), .val (.int (144 : Int32)), .val (.int (191 : Int32)), s8] [(.int (bs.getD (I + 1) 0))])
                    refine Go.s_iload X0 hx (hb hby d1_193) (q := 195) rfl rfl ?_
                    refine Go.s_iload X0 hx (hb hby d1_195) (q := 197) rfl rfl ?_
                    refine Go.callS (y := mn_4) X0 hx hZ hown (w_ hw 13 rfl) (w_ hw 14 rfl) (w_ hw 4 rfl) (w_ hw 15 rfl) (by decide) e0 (argsL := [(.int (bs.getD (I + 1) 0)), (.int (144 : Int32)), (.int (191 : Int32))]) (rest := []) (rm_ib l Z a0 hw (bs.getD (I + 1) 0) (144 : Int32) (191 : Int32) _) (by rw [hml]; rfl) (lenOf pd_0 rfl) rfl (hb hby d1_197) hRf (Nat.le_trans (Nat.le_of_ble_eq_true rfl) hRl) (Nat.zero_le _) (Nat.zero_le _) ?_
                    intro r15 T15 L15 q15 X15
                    obtain ⟨w15, rfl, p15, rfl, e15⟩ := q15
                    rw [List.append_nil] at X15
                    rcases p15 with ⟨u15_0_0, z15⟩ | ⟨u15_1_0, u15_1_1, z15⟩ | ⟨u15_2_0, u15_2_1, z15⟩
                    · -- (0 : Int32)
                      subst w15
                      show Go p e below _ T15 (mkF m 200 #[.val (.ref a), .val (.int fr), .val (.int to), .val (.int i), .val (.int ((bs.getD I 0) &&& (255 : Int32))), .val (.int (4 : Int32)), .val (.int (144 : Int32)), .val (.int (191 : Int32)), s8] [(.int (0 : Int32))])
                      refine Go.s_ifNo X15 hx (hb hby d1_200) (q := 203) rfl ((if0 _ _).trans (teq (by decide : (0 : Int32) = (0 : Int32))).2) ?_
                      refine Go.s_iloadN X15 hx (hb hby d1_203) (q := 204) rfl rfl ?_
                      refine Go.retI X15 hx hlk hret (hb hby d1_204) (Nat.zero_le _) (Nat.zero_le _) ?_
                      try rw [e15]
                      have hwf : wf (uu bs) I (to.toInt - I) = 0 := by
                        have := rng8 (bs.getD I 0)
                        have := rng8 (bs.getD (I + 1) 0)
                        have := (by decide : (4 : Int32).toInt = 4)
                        have := (by decide : (128 : Int32).toInt = 128)
                        have := (by decide : (144 : Int32).toInt = 144)
                        have := (by decide : (194 : Int32).toInt = 194)
                        have := (by decide : (223 : Int32).toInt = 223)
                        have := (by decide : (239 : Int32).toInt = 239)
                        have := (by decide : (240 : Int32).toInt = 240)
                        have := (by decide : (244 : Int32).toInt = 244)
                        have := (by decide : (255 : Int32).toInt = 255)
                        have := c_isub to i
                        have := rng32 (to - i)
                        have := mt Int32.lt_iff_toInt_lt.mpr c21_2
                        have := mt Int32.lt_iff_toInt_lt.mpr c45_3
                        have := Int32.lt_iff_toInt_lt.mp c53_6
                        have := Int32.lt_iff_toInt_lt.mp c75_8
                        have := mt Int32.lt_iff_toInt_lt.mpr c133_10
                        have := congrArg Int32.toInt c144_11
                        have := mt Int32.lt_iff_toInt_lt.mpr c185_13
                        have := Int32.lt_iff_toInt_lt.mp u15_0_0
                        simp only [wf, uu]
                        repeat' split
                        all_goals omega
                      exact ⟨_, rfl, by rw [fmal_bad hlt hwf]; exact hiI, rfl, rfl⟩
                    · -- (0 : Int32)
                      subst w15
                      show Go p e below _ T15 (mkF m 200 #[.val (.ref a), .val (.int fr), .val (.int to), .val (.int i), .val (.int ((bs.getD I 0) &&& (255 : Int32))), .val (.int (4 : Int32)), .val (.int (144 : Int32)), .val (.int (191 : Int32)), s8] [(.int (0 : Int32))])
                      refine Go.s_ifNo X15 hx (hb hby d1_200) (q := 203) rfl ((if0 _ _).trans (teq (by decide : (0 : Int32) = (0 : Int32))).2) ?_
                      refine Go.s_iloadN X15 hx (hb hby d1_203) (q := 204) rfl rfl ?_
                      refine Go.retI X15 hx hlk hret (hb hby d1_204) (Nat.zero_le _) (Nat.zero_le _) ?_
                      try rw [e15]
                      have hwf : wf (uu bs) I (to.toInt - I) = 0 := by
                        have := rng8 (bs.getD I 0)
                        have := rng8 (bs.getD (I + 1) 0)
                        have := (by decide : (4 : Int32).toInt = 4)
                        have := (by decide : (128 : Int32).toInt = 128)
                        have := (by decide : (144 : Int32).toInt = 144)
                        have := (by decide : (191 : Int32).toInt = 191)
                        have := (by decide : (194 : Int32).toInt = 194)
                        have := (by decide : (223 : Int32).toInt = 223)
                        have := (by decide : (239 : Int32).toInt = 239)
                        have := (by decide : (240 : Int32).toInt = 240)
                        have := (by decide : (244 : Int32).toInt = 244)
                        have := (by decide : (255 : Int32).toInt = 255)
                        have := c_isub to i
                        have := rng32 (to - i)
                        have := mt Int32.lt_iff_toInt_lt.mpr c21_2
                        have := mt Int32.lt_iff_toInt_lt.mpr c45_3
                        have := Int32.lt_iff_toInt_lt.mp c53_6
                        have := Int32.lt_iff_toInt_lt.mp c75_8
                        have := mt Int32.lt_iff_toInt_lt.mpr c133_10
                        have := congrArg Int32.toInt c144_11
                        have := mt Int32.lt_iff_toInt_lt.mpr c185_13
                        have := mt Int32.lt_iff_toInt_lt.mpr u15_1_0
                        have := Int32.lt_iff_toInt_lt.mp u15_1_1
                        simp only [wf, uu]
                        repeat' split
                        all_goals omega
                      exact ⟨_, rfl, by rw [fmal_bad hlt hwf]; exact hiI, rfl, rfl⟩
                    · -- (1 : Int32)
                      subst w15
                      show Go p e below _ T15 (mkF m 200 #[.val (.ref a), .val (.int fr), .val (.int to), .val (.int i), .val (.int ((bs.getD I 0) &&& (255 : Int32))), .val (.int (4 : Int32)), .val (.int (144 : Int32)), .val (.int (191 : Int32)), s8] [(.int (1 : Int32))])
                      refine Go.s_ifYes X15 hx (hb hby d1_200) (q := 205) (by decide) (by decide) ((if0 _ _).trans (feq (by decide : ¬ ((1 : Int32) = (0 : Int32)))).2) ?_
                      refine Go.s_iconst X15 hx (hb hby d1_205) (q := 206) rfl (z := 2) rfl ?_
                      refine Go.s_istoreS X15 hx (hb hby d1_206) (q := 208) rfl (o := s8) rfl hs8 (l' := #[.val (.ref a), .val (.int fr), .val (.int to), .val (.int i), .val (.int ((bs.getD I 0) &&& (255 : Int32))), .val (.int (4 : Int32)), .val (.int (144 : Int32)), .val (.int (191 : Int32)), .val (.int (2 : Int32))]) rfl ?_
                      refine Go.s_iload X15 hx (hb hby d1_208) (q := 210) rfl rfl ?_
                      refine Go.s_iload X15 hx (hb hby d1_210) (q := 212) rfl rfl ?_
                      refine Go.s_icmpNo X15 hx (hb hby d1_212) (q := 215) rfl (tlt (by decide : (2 : Int32) < (4 : Int32))).2.1 ?_
                      refine Go.s_aloadN X15 hx (hb hby d1_215) (q := 216) rfl rfl rfl ?_
                      refine Go.s_iloadN X15 hx (hb hby d1_216) (q := 217) rfl rfl ?_
                      refine Go.s_iload X15 hx (hb hby d1_217) (q := 219) rfl rfl ?_
                      refine Go.s_iadd X15 hx (hb hby d1_219) (q := 220) rfl ?_
                      obtain ⟨hj16, hn16⟩ := ix (k := (2 : Int32)) (K := 2) hiI (by decide) (by omega)
                      refine Go.ldB X15 hx hZ e15 V_a hj16 (w := (.int (bs.getD (I + 2) 0))) (by rw [hn16]; exact getD_mapI bs _) (hb hby d1_220) ?_
                      show Go p e below _ T15 (mkF m 221 #[.val (.ref a), .val (.int fr), .val (.int to), .val (.int i), .val (.int ((bs.getD I 0) &&& (255 : Int32))), .val (.int (4 : Int32)), .val (.int (144 : Int32)), .val (.int (191 : Int32)), .val (.int (2 : Int32))] [(.int (bs.getD (I + 2) 0))])
                      refine Go.s_sipush X15 hx (hb hby d1_221) (q := 224) rfl (z := 128) rfl ?_
                      refine Go.s_sipush X15 hx (hb hby d1_224) (q := 227) rfl (z := 191) rfl ?_
                      refine Go.callS (y := mn_4) X15 hx hZ hown (w_ hw 13 rfl) (w_ hw 14 rfl) (w_ hw 4 rfl) (w_ hw 15 rfl) (by decide) e15 (argsL := [(.int (bs.getD (I + 2) 0)), (.int (128 : Int32)), (.int (191 : Int32))]) (rest := []) (rm_ib l Z a0 hw (bs.getD (I + 2) 0) (128 : Int32) (191 : Int32) _) (by rw [hml]; rfl) (lenOf pd_0 rfl) rfl (hb hby d1_227) hRf (Nat.le_trans (Nat.le_of_ble_eq_true rfl) hRl) (Nat.zero_le _) (Nat.zero_le _) ?_
                      intro r17 T17 L17 q17 X17
                      obtain ⟨w17, rfl, p17, rfl, e17⟩ := q17
                      rw [List.append_nil] at X17
                      rcases p17 with ⟨u17_0_0, z17⟩ | ⟨u17_1_0, u17_1_1, z17⟩ | ⟨u17_2_0, u17_2_1, z17⟩
                      · -- (0 : Int32)
                        subst w17
                        show Go p e below _ T17 (mkF m 230 #[.val (.ref a), .val (.int fr), .val (.int to), .val (.int i), .val (.int ((bs.getD I 0) &&& (255 : Int32))), .val (.int (4 : Int32)), .val (.int (144 : Int32)), .val (.int (191 : Int32)), .val (.int (2 : Int32))] [(.int (0 : Int32))])
                        refine Go.s_ifNo X17 hx (hb hby d1_230) (q := 233) rfl ((if0 _ _).trans (teq (by decide : (0 : Int32) = (0 : Int32))).2) ?_
                        refine Go.s_iloadN X17 hx (hb hby d1_233) (q := 234) rfl rfl ?_
                        refine Go.retI X17 hx hlk hret (hb hby d1_234) (Nat.zero_le _) (Nat.zero_le _) ?_
                        try rw [e17]
                        have hwf : wf (uu bs) I (to.toInt - I) = 0 := by
                          have := rng8 (bs.getD I 0)
                          have := rng8 (bs.getD (I + 1) 0)
                          have := rng8 (bs.getD (I + 2) 0)
                          have := (by decide : (4 : Int32).toInt = 4)
                          have := (by decide : (128 : Int32).toInt = 128)
                          have := (by decide : (144 : Int32).toInt = 144)
                          have := (by decide : (191 : Int32).toInt = 191)
                          have := (by decide : (194 : Int32).toInt = 194)
                          have := (by decide : (223 : Int32).toInt = 223)
                          have := (by decide : (239 : Int32).toInt = 239)
                          have := (by decide : (240 : Int32).toInt = 240)
                          have := (by decide : (244 : Int32).toInt = 244)
                          have := (by decide : (255 : Int32).toInt = 255)
                          have := c_isub to i
                          have := rng32 (to - i)
                          have := mt Int32.lt_iff_toInt_lt.mpr c21_2
                          have := mt Int32.lt_iff_toInt_lt.mpr c45_3
                          have := Int32.lt_iff_toInt_lt.mp c53_6
                          have := Int32.lt_iff_toInt_lt.mp c75_8
                          have := mt Int32.lt_iff_toInt_lt.mpr c133_10
                          have := congrArg Int32.toInt c144_11
                          have := mt Int32.lt_iff_toInt_lt.mpr c185_13
                          have := mt Int32.lt_iff_toInt_lt.mpr u15_2_0
                          have := mt Int32.lt_iff_toInt_lt.mpr u15_2_1
                          have := Int32.lt_iff_toInt_lt.mp u17_0_0
                          simp only [wf, uu]
                          repeat' split
                          all_goals omega
                        exact ⟨_, rfl, by rw [fmal_bad hlt hwf]; exact hiI, rfl, rfl⟩
                      · -- (0 : Int32)
                        subst w17
                        show Go p e below _ T17 (mkF m 230 #[.val (.ref a), .val (.int fr), .val (.int to), .val (.int i), .val (.int ((bs.getD I 0) &&& (255 : Int32))), .val (.int (4 : Int32)), .val (.int (144 : Int32)), .val (.int (191 : Int32)), .val (.int (2 : Int32))] [(.int (0 : Int32))])
                        refine Go.s_ifNo X17 hx (hb hby d1_230) (q := 233) rfl ((if0 _ _).trans (teq (by decide : (0 : Int32) = (0 : Int32))).2) ?_
                        refine Go.s_iloadN X17 hx (hb hby d1_233) (q := 234) rfl rfl ?_
                        refine Go.retI X17 hx hlk hret (hb hby d1_234) (Nat.zero_le _) (Nat.zero_le _) ?_
                        try rw [e17]
                        have hwf : wf (uu bs) I (to.toInt - I) = 0 := by
                          have := rng8 (bs.getD I 0)
                          have := rng8 (bs.getD (I + 1) 0)
                          have := rng8 (bs.getD (I + 2) 0)
                          have := (by decide : (4 : Int32).toInt = 4)
                          have := (by decide : (128 : Int32).toInt = 128)
                          have := (by decide : (144 : Int32).toInt = 144)
                          have := (by decide : (191 : Int32).toInt = 191)
                          have := (by decide : (194 : Int32).toInt = 194)
                          have := (by decide : (223 : Int32).toInt = 223)
                          have := (by decide : (239 : Int32).toInt = 239)
                          have := (by decide : (240 : Int32).toInt = 240)
                          have := (by decide : (244 : Int32).toInt = 244)
                          have := (by decide : (255 : Int32).toInt = 255)
                          have := c_isub to i
                          have := rng32 (to - i)
                          have := mt Int32.lt_iff_toInt_lt.mpr c21_2
                          have := mt Int32.lt_iff_toInt_lt.mpr c45_3
                          have := Int32.lt_iff_toInt_lt.mp c53_6
                          have := Int32.lt_iff_toInt_lt.mp c75_8
                          have := mt Int32.lt_iff_toInt_lt.mpr c133_10
                          have := congrArg Int32.toInt c144_11
                          have := mt Int32.lt_iff_toInt_lt.mpr c185_13
                          have := mt Int32.lt_iff_toInt_lt.mpr u15_2_0
                          have := mt Int32.lt_iff_toInt_lt.mpr u15_2_1
                          have := mt Int32.lt_iff_toInt_lt.mpr u17_1_0
                          have := Int32.lt_iff_toInt_lt.mp u17_1_1
                          simp only [wf, uu]
                          repeat' split
                          all_goals omega
                        exact ⟨_, rfl, by rw [fmal_bad hlt hwf]; exact hiI, rfl, rfl⟩
                      · -- (1 : Int32)
                        subst w17
                        show Go p e below _ T17 (mkF m 230 #[.val (.ref a), .val (.int fr), .val (.int to), .val (.int i), .val (.int ((bs.getD I 0) &&& (255 : Int32))), .val (.int (4 : Int32)), .val (.int (144 : Int32)), .val (.int (191 : Int32)), .val (.int (2 : Int32))] [(.int (1 : Int32))])
                        refine Go.s_ifYes X17 hx (hb hby d1_230) (q := 235) (by decide) (by decide) ((if0 _ _).trans (feq (by decide : ¬ ((1 : Int32) = (0 : Int32)))).2) ?_
                        refine Go.s_iinc X17 hx (hb hby d1_235) (q := 238) rfl rfl (l' := #[.val (.ref a), .val (.int fr), .val (.int to), .val (.int i), .val (.int ((bs.getD I 0) &&& (255 : Int32))), .val (.int (4 : Int32)), .val (.int (144 : Int32)), .val (.int (191 : Int32)), .val (.int ((2 : Int32) + (1 : Int32)))]) rfl ?_
                        rw [(by decide : ((2 : Int32) + (1 : Int32)) = (3 : Int32))]
                        refine Go.s_goto X17 hx (hb hby d1_238) (q := 208) (by decide) (by decide) ?_
                        refine Go.s_iload X17 hx (hb hby d1_208) (q := 210) rfl rfl ?_
                        refine Go.s_iload X17 hx (hb hby d1_210) (q := 212) rfl rfl ?_
                        refine Go.s_icmpNo X17 hx (hb hby d1_212) (q := 215) rfl (tlt (by decide : (3 : Int32) < (4 : Int32))).2.1 ?_
                        refine Go.s_aloadN X17 hx (hb hby d1_215) (q := 216) rfl rfl rfl ?_
                        refine Go.s_iloadN X17 hx (hb hby d1_216) (q := 217) rfl rfl ?_
                        refine Go.s_iload X17 hx (hb hby d1_217) (q := 219) rfl rfl ?_
                        refine Go.s_iadd X17 hx (hb hby d1_219) (q := 220) rfl ?_
                        obtain ⟨hj18, hn18⟩ := ix (k := (3 : Int32)) (K := 3) hiI (by decide) (by omega)
                        refine Go.ldB X17 hx hZ e17 V_a hj18 (w := (.int (bs.getD (I + 3) 0))) (by rw [hn18]; exact getD_mapI bs _) (hb hby d1_220) ?_
                        show Go p e below _ T17 (mkF m 221 #[.val (.ref a), .val (.int fr), .val (.int to), .val (.int i), .val (.int ((bs.getD I 0) &&& (255 : Int32))), .val (.int (4 : Int32)), .val (.int (144 : Int32)), .val (.int (191 : Int32)), .val (.int (3 : Int32))] [(.int (bs.getD (I + 3) 0))])
                        refine Go.s_sipush X17 hx (hb hby d1_221) (q := 224) rfl (z := 128) rfl ?_
                        refine Go.s_sipush X17 hx (hb hby d1_224) (q := 227) rfl (z := 191) rfl ?_
                        refine Go.callS (y := mn_4) X17 hx hZ hown (w_ hw 13 rfl) (w_ hw 14 rfl) (w_ hw 4 rfl) (w_ hw 15 rfl) (by decide) e17 (argsL := [(.int (bs.getD (I + 3) 0)), (.int (128 : Int32)), (.int (191 : Int32))]) (rest := []) (rm_ib l Z a0 hw (bs.getD (I + 3) 0) (128 : Int32) (191 : Int32) _) (by rw [hml]; rfl) (lenOf pd_0 rfl) rfl (hb hby d1_227) hRf (Nat.le_trans (Nat.le_of_ble_eq_true rfl) hRl) (Nat.zero_le _) (Nat.zero_le _) ?_
                        intro r19 T19 L19 q19 X19
                        obtain ⟨w19, rfl, p19, rfl, e19⟩ := q19
                        rw [List.append_nil] at X19
                        rcases p19 with ⟨u19_0_0, z19⟩ | ⟨u19_1_0, u19_1_1, z19⟩ | ⟨u19_2_0, u19_2_1, z19⟩
                        · -- (0 : Int32)
                          subst w19
                          show Go p e below _ T19 (mkF m 230 #[.val (.ref a), .val (.int fr), .val (.int to), .val (.int i), .val (.int ((bs.getD I 0) &&& (255 : Int32))), .val (.int (4 : Int32)), .val (.int (144 : Int32)), .val (.int (191 : Int32)), .val (.int (3 : Int32))] [(.int (0 : Int32))])
                          refine Go.s_ifNo X19 hx (hb hby d1_230) (q := 233) rfl ((if0 _ _).trans (teq (by decide : (0 : Int32) = (0 : Int32))).2) ?_
                          refine Go.s_iloadN X19 hx (hb hby d1_233) (q := 234) rfl rfl ?_
                          refine Go.retI X19 hx hlk hret (hb hby d1_234) (Nat.zero_le _) (Nat.zero_le _) ?_
                          try rw [e19]
                          have hwf : wf (uu bs) I (to.toInt - I) = 0 := by
                            have := rng8 (bs.getD I 0)
                            have := rng8 (bs.getD (I + 1) 0)
                            have := rng8 (bs.getD (I + 2) 0)
                            have := rng8 (bs.getD (I + 3) 0)
                            have := (by decide : (4 : Int32).toInt = 4)
                            have := (by decide : (128 : Int32).toInt = 128)
                            have := (by decide : (144 : Int32).toInt = 144)
                            have := (by decide : (191 : Int32).toInt = 191)
                            have := (by decide : (194 : Int32).toInt = 194)
                            have := (by decide : (223 : Int32).toInt = 223)
                            have := (by decide : (239 : Int32).toInt = 239)
                            have := (by decide : (240 : Int32).toInt = 240)
                            have := (by decide : (244 : Int32).toInt = 244)
                            have := (by decide : (255 : Int32).toInt = 255)
                            have := c_isub to i
                            have := rng32 (to - i)
                            have := mt Int32.lt_iff_toInt_lt.mpr c21_2
                            have := mt Int32.lt_iff_toInt_lt.mpr c45_3
                            have := Int32.lt_iff_toInt_lt.mp c53_6
                            have := Int32.lt_iff_toInt_lt.mp c75_8
                            have := mt Int32.lt_iff_toInt_lt.mpr c133_10
                            have := congrArg Int32.toInt c144_11
                            have := mt Int32.lt_iff_toInt_lt.mpr c185_13
                            have := mt Int32.lt_iff_toInt_lt.mpr u15_2_0
                            have := mt Int32.lt_iff_toInt_lt.mpr u15_2_1
                            have := mt Int32.lt_iff_toInt_lt.mpr u17_2_0
                            have := mt Int32.lt_iff_toInt_lt.mpr u17_2_1
                            have := Int32.lt_iff_toInt_lt.mp u19_0_0
                            simp only [wf, uu]
                            repeat' split
                            all_goals omega
                          exact ⟨_, rfl, by rw [fmal_bad hlt hwf]; exact hiI, rfl, rfl⟩
                        · -- (0 : Int32)
                          subst w19
                          show Go p e below _ T19 (mkF m 230 #[.val (.ref a), .val (.int fr), .val (.int to), .val (.int i), .val (.int ((bs.getD I 0) &&& (255 : Int32))), .val (.int (4 : Int32)), .val (.int (144 : Int32)), .val (.int (191 : Int32)), .val (.int (3 : Int32))] [(.int (0 : Int32))])
                          refine Go.s_ifNo X19 hx (hb hby d1_230) (q := 233) rfl ((if0 _ _).trans (teq (by decide : (0 : Int32) = (0 : Int32))).2) ?_
                          refine Go.s_iloadN X19 hx (hb hby d1_233) (q := 234) rfl rfl ?_
                          refine Go.retI X19 hx hlk hret (hb hby d1_234) (Nat.zero_le _) (Nat.zero_le _) ?_
                          try rw [e19]
                          have hwf : wf (uu bs) I (to.toInt - I) = 0 := by
                            have := rng8 (bs.getD I 0)
                            have := rng8 (bs.getD (I + 1) 0)
                            have := rng8 (bs.getD (I + 2) 0)
                            have := rng8 (bs.getD (I + 3) 0)
                            have := (by decide : (4 : Int32).toInt = 4)
                            have := (by decide : (128 : Int32).toInt = 128)
                            have := (by decide : (144 : Int32).toInt = 144)
                            have := (by decide : (191 : Int32).toInt = 191)
                            have := (by decide : (194 : Int32).toInt = 194)
                            have := (by decide : (223 : Int32).toInt = 223)
                            have := (by decide : (239 : Int32).toInt = 239)
                            have := (by decide : (240 : Int32).toInt = 240)
                            have := (by decide : (244 : Int32).toInt = 244)
                            have := (by decide : (255 : Int32).toInt = 255)
                            have := c_isub to i
                            have := rng32 (to - i)
                            have := mt Int32.lt_iff_toInt_lt.mpr c21_2
                            have := mt Int32.lt_iff_toInt_lt.mpr c45_3
                            have := Int32.lt_iff_toInt_lt.mp c53_6
                            have := Int32.lt_iff_toInt_lt.mp c75_8
                            have := mt Int32.lt_iff_toInt_lt.mpr c133_10
                            have := congrArg Int32.toInt c144_11
                            have := mt Int32.lt_iff_toInt_lt.mpr c185_13
                            have := mt Int32.lt_iff_toInt_lt.mpr u15_2_0
                            have := mt Int32.lt_iff_toInt_lt.mpr u15_2_1
                            have := mt Int32.lt_iff_toInt_lt.mpr u17_2_0
                            have := mt Int32.lt_iff_toInt_lt.mpr u17_2_1
                            have := mt Int32.lt_iff_toInt_lt.mpr u19_1_0
                            have := Int32.lt_iff_toInt_lt.mp u19_1_1
                            simp only [wf, uu]
                            repeat' split
                            all_goals omega
                          exact ⟨_, rfl, by rw [fmal_bad hlt hwf]; exact hiI, rfl, rfl⟩
                        · -- (1 : Int32)
                          subst w19
                          show Go p e below _ T19 (mkF m 230 #[.val (.ref a), .val (.int fr), .val (.int to), .val (.int i), .val (.int ((bs.getD I 0) &&& (255 : Int32))), .val (.int (4 : Int32)), .val (.int (144 : Int32)), .val (.int (191 : Int32)), .val (.int (3 : Int32))] [(.int (1 : Int32))])
                          refine Go.s_ifYes X19 hx (hb hby d1_230) (q := 235) (by decide) (by decide) ((if0 _ _).trans (feq (by decide : ¬ ((1 : Int32) = (0 : Int32)))).2) ?_
                          refine Go.s_iinc X19 hx (hb hby d1_235) (q := 238) rfl rfl (l' := #[.val (.ref a), .val (.int fr), .val (.int to), .val (.int i), .val (.int ((bs.getD I 0) &&& (255 : Int32))), .val (.int (4 : Int32)), .val (.int (144 : Int32)), .val (.int (191 : Int32)), .val (.int ((3 : Int32) + (1 : Int32)))]) rfl ?_
                          rw [(by decide : ((3 : Int32) + (1 : Int32)) = (4 : Int32))]
                          refine Go.s_goto X19 hx (hb hby d1_238) (q := 208) (by decide) (by decide) ?_
                          refine Go.s_iload X19 hx (hb hby d1_208) (q := 210) rfl rfl ?_
                          refine Go.s_iload X19 hx (hb hby d1_210) (q := 212) rfl rfl ?_
                          refine Go.s_icmpYes X19 hx (hb hby d1_212) (q := 241) (by decide) (by decide) (flt (by decide : ¬ ((4 : Int32) < (4 : Int32)))).2.1 ?_
                          refine Go.s_iloadN X19 hx (hb hby d1_241) (q := 242) rfl rfl ?_
                          refine Go.s_iload X19 hx (hb hby d1_242) (q := 244) rfl rfl ?_
                          refine Go.s_iadd X19 hx (hb hby d1_244) (q := 245) rfl ?_
                          refine Go.s_istoreN X19 hx (hb hby d1_245) (q := 246) rfl (l' := #[.val (.ref a), .val (.int fr), .val (.int to), .val (.int (i + (4 : Int32))), .val (.int ((bs.getD I 0) &&& (255 : Int32))), .val (.int (4 : Int32)), .val (.int (144 : Int32)), .val (.int (191 : Int32)), .val (.int (4 : Int32))]) rfl ?_
                          refine Go.s_goto X19 hx (hb hby d1_246) (q := 2) (by decide) (by decide) ?_
                          have hwf : wf (uu bs) I (to.toInt - I) = 4 := by
                            have := rng8 (bs.getD I 0)
                            have := rng8 (bs.getD (I + 1) 0)
                            have := rng8 (bs.getD (I + 2) 0)
                            have := rng8 (bs.getD (I + 3) 0)
                            have := (by decide : (4 : Int32).toInt = 4)
                            have := (by decide : (128 : Int32).toInt = 128)
                            have := (by decide : (144 : Int32).toInt = 144)
                            have := (by decide : (191 : Int32).toInt = 191)
                            have := (by decide : (194 : Int32).toInt = 194)
                            have := (by decide : (223 : Int32).toInt = 223)
                            have := (by decide : (239 : Int32).toInt = 239)
                            have := (by decide : (240 : Int32).toInt = 240)
                            have := (by decide : (244 : Int32).toInt = 244)
                            have := (by decide : (255 : Int32).toInt = 255)
                            have := c_isub to i
                            have := rng32 (to - i)
                            have := mt Int32.lt_iff_toInt_lt.mpr c21_2
                            have := mt Int32.lt_iff_toInt_lt.mpr c45_3
                            have := Int32.lt_iff_toInt_lt.mp c53_6
                            have := Int32.lt_iff_toInt_lt.mp c75_8
                            have := mt Int32.lt_iff_toInt_lt.mpr c133_10
                            have := congrArg Int32.toInt c144_11
                            have := mt Int32.lt_iff_toInt_lt.mpr c185_13
                            have := mt Int32.lt_iff_toInt_lt.mpr u15_2_0
                            have := mt Int32.lt_iff_toInt_lt.mpr u15_2_1
                            have := mt Int32.lt_iff_toInt_lt.mpr u17_2_0
                            have := mt Int32.lt_iff_toInt_lt.mpr u17_2_1
                            have := mt Int32.lt_iff_toInt_lt.mpr u19_2_0
                            have := mt Int32.lt_iff_toInt_lt.mpr u19_2_1
                            simp only [wf, uu]
                            repeat' split
                            all_goals omega
                          have hix := ix2 (k := (4 : Int32)) (K := 4) hiI (by decide) (by omega)
                          have hst : fmal (uu bs) to.toInt (n + 1) I = fmal (uu bs) to.toInt n (I + 4) := fmal_step hlt hwf (by decide)
                          rw [hst]
                          exact ih X19 e19 _ _ _ _ _ _ _ hix (by omega) (One.val rfl) (One.val rfl) (One.val rfl) (One.val rfl) (One.val rfl)
                · -- pc 144: not ((bs.getD I 0) &&& (255 : Int32)) = (240 : Int32)
                  refine Go.s_icmpYes X0 hx (hb hby d1_144) (q := 153) (by decide) (by decide) (feq c144_11).2 ?_
                  refine Go.s_iload X0 hx (hb hby d1_153) (q := 155) rfl rfl ?_
                  refine Go.s_istore X0 hx (hb hby d1_155) (q := 157) rfl (l' := #[.val (.ref a), .val (.int fr), .val (.int to), .val (.int i), .val (.int ((bs.getD I 0) &&& (255 : Int32))), .val (.int (4 : Int32)), .val (.int (128 : Int32)), .val (.int (191 : Int32)), s8]) rfl ?_
                  refine Go.s_iload X0 hx (hb hby d1_157) (q := 159) rfl rfl ?_
                  refine Go.s_sipush X0 hx (hb hby d1_159) (q := 162) rfl (z := 244) rfl ?_
                  by_cases c162_20 : ((bs.getD I 0) &&& (255 : Int32)) = (244 : Int32)
                  · -- pc 162: ((bs.getD I 0) &&& (255 : Int32)) = (244 : Int32)
                    refine Go.s_icmpNo X0 hx (hb hby d1_162) (q := 165) rfl (teq c162_20).2 ?_
                    refine Go.s_sipush X0 hx (hb hby d1_165) (q := 168) rfl (z := 143) rfl ?_
                    refine Go.s_goto X0 hx (hb hby d1_168) (q := 173) (by decide) (by decide) ?_
                    refine Go.s_istore X0 hx (hb hby d1_173) (q := 175) rfl (l' := #[.val (.ref a), .val (.int fr), .val (.int to), .val (.int i), .val (.int ((bs.getD I 0) &&& (255 : Int32))), .val (.int (4 : Int32)), .val (.int (128 : Int32)), .val (.int (143 : Int32)), s8]) rfl ?_
                    refine Go.s_goto X0 hx (hb hby d1_175) (q := 180) (by decide) (by decide) ?_
                    refine Go.s_iloadN X0 hx (hb hby d1_180) (q := 181) rfl rfl ?_
                    refine Go.s_iloadN X0 hx (hb hby d1_181) (q := 182) rfl rfl ?_
                    refine Go.s_isub X0 hx (hb hby d1_182) (q := 183) rfl ?_
                    refine Go.s_iload X0 hx (hb hby d1_183) (q := 185) rfl rfl ?_
                    by_cases c185_21 : (to - i) < (4 : Int32)
                    · -- pc 185: (to - i) < (4 : Int32)
                      refine Go.s_icmpYes X0 hx (hb hby d1_185) (q := 203) (by decide) (by decide) (tlt c185_21).1 ?_
                      refine Go.s_iloadN X0 hx (hb hby d1_203) (q := 204) rfl rfl ?_
                      refine Go.retI X0 hx hlk hret (hb hby d1_204) (Nat.zero_le _) (Nat.zero_le _) ?_
                      try rw [e0]
                      have hwf : wf (uu bs) I (to.toInt - I) = 0 := by
                        have := rng8 (bs.getD I 0)
                        have := (by decide : (4 : Int32).toInt = 4)
                        have := (by decide : (128 : Int32).toInt = 128)
                        have := (by decide : (194 : Int32).toInt = 194)
                        have := (by decide : (223 : Int32).toInt = 223)
                        have := (by decide : (239 : Int32).toInt = 239)
                        have := (by decide : (240 : Int32).toInt = 240)
                        have := (by decide : (244 : Int32).toInt = 244)
                        have := (by decide : (255 : Int32).toInt = 255)
                        have := c_isub to i
                        have := rng32 (to - i)
                        have := mt Int32.lt_iff_toInt_lt.mpr c21_2
                        have := mt Int32.lt_iff_toInt_lt.mpr c45_3
                        have := Int32.lt_iff_toInt_lt.mp c53_6
                        have := Int32.lt_iff_toInt_lt.mp c75_8
                        have := mt Int32.lt_iff_toInt_lt.mpr c133_10
                        have := mt Int32.toInt_inj.mp c144_11
                        have := congrArg Int32.toInt c162_20
                        have := Int32.lt_iff_toInt_lt.mp c185_21
                        simp only [wf, uu]
                        repeat' split
                        all_goals omega
                      exact ⟨_, rfl, by rw [fmal_bad hlt hwf]; exact hiI, rfl, rfl⟩
                    · -- pc 185: not (to - i) < (4 : Int32)
                      refine Go.s_icmpNo X0 hx (hb hby d1_185) (q := 188) rfl (flt c185_21).1 ?_
                      have nb := avail hiI hlt hto c185_21 (by decide)
                      have kk2 : (2 : Int32).toInt = 2 := by decide
                      have kk3 : (3 : Int32).toInt = 3 := by decide
                      have kk4 : (4 : Int32).toInt = 4 := by decide
                      refine Go.s_aloadN X0 hx (hb hby d1_188) (q := 189) rfl rfl rfl ?_
                      refine Go.s_iloadN X0 hx (hb hby d1_189) (q := 190) rfl rfl ?_
                      refine Go.s_iconst X0 hx (hb hby d1_190) (q := 191) rfl (z := 1) rfl ?_
                      refine Go.s_iadd X0 hx (hb hby d1_191) (q := 192) rfl ?_
                      obtain ⟨hj22, hn22⟩ := ix (k := (1 : Int32)) (K := 1) hiI (by decide) (by omega)
                      refine Go.ldB X0 hx hZ e0 V_a hj22 (w := (.int (bs.getD (I + 1) 0))) (by rw [hn22]; exact getD_mapI bs _) (hb hby d1_192) ?_
                      show Go p e below _ T0 (mkF m 193 #[.val (.ref a), .val (.int fr), .val (.int to), .val (.int i), .val (.int ((bs.getD I 0) &&& (255 : Int32))), .val (.int (4 : Int32)), .val (.int (128 : Int32)), .val (.int (143 : Int32)), s8] [(.int (bs.getD (I + 1) 0))])
                      refine Go.s_iload X0 hx (hb hby d1_193) (q := 195) rfl rfl ?_
                      refine Go.s_iload X0 hx (hb hby d1_195) (q := 197) rfl rfl ?_
                      refine Go.callS (y := mn_4) X0 hx hZ hown (w_ hw 13 rfl) (w_ hw 14 rfl) (w_ hw 4 rfl) (w_ hw 15 rfl) (by decide) e0 (argsL := [(.int (bs.getD (I + 1) 0)), (.int (128 : Int32)), (.int (143 : Int32))]) (rest := []) (rm_ib l Z a0 hw (bs.getD (I + 1) 0) (128 : Int32) (143 : Int32) _) (by rw [hml]; rfl) (lenOf pd_0 rfl) rfl (hb hby d1_197) hRf (Nat.le_trans (Nat.le_of_ble_eq_true rfl) hRl) (Nat.zero_le _) (Nat.zero_le _) ?_
                      intro r23 T23 L23 q23 X23
                      obtain ⟨w23, rfl, p23, rfl, e23⟩ := q23
                      rw [List.append_nil] at X23
                      rcases p23 with ⟨u23_0_0, z23⟩ | ⟨u23_1_0, u23_1_1, z23⟩ | ⟨u23_2_0, u23_2_1, z23⟩
                      · -- (0 : Int32)
                        subst w23
                        show Go p e below _ T23 (mkF m 200 #[.val (.ref a), .val (.int fr), .val (.int to), .val (.int i), .val (.int ((bs.getD I 0) &&& (255 : Int32))), .val (.int (4 : Int32)), .val (.int (128 : Int32)), .val (.int (143 : Int32)), s8] [(.int (0 : Int32))])
                        refine Go.s_ifNo X23 hx (hb hby d1_200) (q := 203) rfl ((if0 _ _).trans (teq (by decide : (0 : Int32) = (0 : Int32))).2) ?_
                        refine Go.s_iloadN X23 hx (hb hby d1_203) (q := 204) rfl rfl ?_
                        refine Go.retI X23 hx hlk hret (hb hby d1_204) (Nat.zero_le _) (Nat.zero_le _) ?_
                        try rw [e23]
                        have hwf : wf (uu bs) I (to.toInt - I) = 0 := by
                          have := rng8 (bs.getD I 0)
                          have := rng8 (bs.getD (I + 1) 0)
                          have := (by decide : (4 : Int32).toInt = 4)
                          have := (by decide : (128 : Int32).toInt = 128)
                          have := (by decide : (194 : Int32).toInt = 194)
                          have := (by decide : (223 : Int32).toInt = 223)
                          have := (by decide : (239 : Int32).toInt = 239)
                          have := (by decide : (240 : Int32).toInt = 240)
                          have := (by decide : (244 : Int32).toInt = 244)
                          have := (by decide : (255 : Int32).toInt = 255)
                          have := c_isub to i
                          have := rng32 (to - i)
                          have := mt Int32.lt_iff_toInt_lt.mpr c21_2
                          have := mt Int32.lt_iff_toInt_lt.mpr c45_3
                          have := Int32.lt_iff_toInt_lt.mp c53_6
                          have := Int32.lt_iff_toInt_lt.mp c75_8
                          have := mt Int32.lt_iff_toInt_lt.mpr c133_10
                          have := mt Int32.toInt_inj.mp c144_11
                          have := congrArg Int32.toInt c162_20
                          have := mt Int32.lt_iff_toInt_lt.mpr c185_21
                          have := Int32.lt_iff_toInt_lt.mp u23_0_0
                          simp only [wf, uu]
                          repeat' split
                          all_goals omega
                        exact ⟨_, rfl, by rw [fmal_bad hlt hwf]; exact hiI, rfl, rfl⟩
                      · -- (0 : Int32)
                        subst w23
                        show Go p e below _ T23 (mkF m 200 #[.val (.ref a), .val (.int fr), .val (.int to), .val (.int i), .val (.int ((bs.getD I 0) &&& (255 : Int32))), .val (.int (4 : Int32)), .val (.int (128 : Int32)), .val (.int (143 : Int32)), s8] [(.int (0 : Int32))])
                        refine Go.s_ifNo X23 hx (hb hby d1_200) (q := 203) rfl ((if0 _ _).trans (teq (by decide : (0 : Int32) = (0 : Int32))).2) ?_
                        refine Go.s_iloadN X23 hx (hb hby d1_203) (q := 204) rfl rfl ?_
                        refine Go.retI X23 hx hlk hret (hb hby d1_204) (Nat.zero_le _) (Nat.zero_le _) ?_
                        try rw [e23]
                        have hwf : wf (uu bs) I (to.toInt - I) = 0 := by
                          have := rng8 (bs.getD I 0)
                          have := rng8 (bs.getD (I + 1) 0)
                          have := (by decide : (4 : Int32).toInt = 4)
                          have := (by decide : (128 : Int32).toInt = 128)
                          have := (by decide : (143 : Int32).toInt = 143)
                          have := (by decide : (194 : Int32).toInt = 194)
                          have := (by decide : (223 : Int32).toInt = 223)
                          have := (by decide : (239 : Int32).toInt = 239)
                          have := (by decide : (240 : Int32).toInt = 240)
                          have := (by decide : (244 : Int32).toInt = 244)
                          have := (by decide : (255 : Int32).toInt = 255)
                          have := c_isub to i
                          have := rng32 (to - i)
                          have := mt Int32.lt_iff_toInt_lt.mpr c21_2
                          have := mt Int32.lt_iff_toInt_lt.mpr c45_3
                          have := Int32.lt_iff_toInt_lt.mp c53_6
                          have := Int32.lt_iff_toInt_lt.mp c75_8
                          have := mt Int32.lt_iff_toInt_lt.mpr c133_10
                          have := mt Int32.toInt_inj.mp c144_11
                          have := congrArg Int32.toInt c162_20
                          have := mt Int32.lt_iff_toInt_lt.mpr c185_21
                          have := mt Int32.lt_iff_toInt_lt.mpr u23_1_0
                          have := Int32.lt_iff_toInt_lt.mp u23_1_1
                          simp only [wf, uu]
                          repeat' split
                          all_goals omega
                        exact ⟨_, rfl, by rw [fmal_bad hlt hwf]; exact hiI, rfl, rfl⟩
                      · -- (1 : Int32)
                        subst w23
                        show Go p e below _ T23 (mkF m 200 #[.val (.ref a), .val (.int fr), .val (.int to), .val (.int i), .val (.int ((bs.getD I 0) &&& (255 : Int32))), .val (.int (4 : Int32)), .val (.int (128 : Int32)), .val (.int (143 : Int32)), s8] [(.int (1 : Int32))])
                        refine Go.s_ifYes X23 hx (hb hby d1_200) (q := 205) (by decide) (by decide) ((if0 _ _).trans (feq (by decide : ¬ ((1 : Int32) = (0 : Int32)))).2) ?_
                        refine Go.s_iconst X23 hx (hb hby d1_205) (q := 206) rfl (z := 2) rfl ?_
                        refine Go.s_istoreS X23 hx (hb hby d1_206) (q := 208) rfl (o := s8) rfl hs8 (l' := #[.val (.ref a), .val (.int fr), .val (.int to), .val (.int i), .val (.int ((bs.getD I 0) &&& (255 : Int32))), .val (.int (4 : Int32)), .val (.int (128 : Int32)), .val (.int (143 : Int32)), .val (.int (2 : Int32))]) rfl ?_
                        refine Go.s_iload X23 hx (hb hby d1_208) (q := 210) rfl rfl ?_
                        refine Go.s_iload X23 hx (hb hby d1_210) (q := 212) rfl rfl ?_
                        refine Go.s_icmpNo X23 hx (hb hby d1_212) (q := 215) rfl (tlt (by decide : (2 : Int32) < (4 : Int32))).2.1 ?_
                        refine Go.s_aloadN X23 hx (hb hby d1_215) (q := 216) rfl rfl rfl ?_
                        refine Go.s_iloadN X23 hx (hb hby d1_216) (q := 217) rfl rfl ?_
                        refine Go.s_iload X23 hx (hb hby d1_217) (q := 219) rfl rfl ?_
                        refine Go.s_iadd X23 hx (hb hby d1_219) (q := 220) rfl ?_
                        obtain ⟨hj24, hn24⟩ := ix (k := (2 : Int32)) (K := 2) hiI (by decide) (by omega)
                        refine Go.ldB X23 hx hZ e23 V_a hj24 (w := (.int (bs.getD (I + 2) 0))) (by rw [hn24]; exact getD_mapI bs _) (hb hby d1_220) ?_
                        show Go p e below _ T23 (mkF m 221 #[.val (.ref a), .val (.int fr), .val (.int to), .val (.int i), .val (.int ((bs.getD I 0) &&& (255 : Int32))), .val (.int (4 : Int32)), .val (.int (128 : Int32)), .val (.int (143 : Int32)), .val (.int (2 : Int32))] [(.int (bs.getD (I + 2) 0))])
                        refine Go.s_sipush X23 hx (hb hby d1_221) (q := 224) rfl (z := 128) rfl ?_
                        refine Go.s_sipush X23 hx (hb hby d1_224) (q := 227) rfl (z := 191) rfl ?_
                        refine Go.callS (y := mn_4) X23 hx hZ hown (w_ hw 13 rfl) (w_ hw 14 rfl) (w_ hw 4 rfl) (w_ hw 15 rfl) (by decide) e23 (argsL := [(.int (bs.getD (I + 2) 0)), (.int (128 : Int32)), (.int (191 : Int32))]) (rest := []) (rm_ib l Z a0 hw (bs.getD (I + 2) 0) (128 : Int32) (191 : Int32) _) (by rw [hml]; rfl) (lenOf pd_0 rfl) rfl (hb hby d1_227) hRf (Nat.le_trans (Nat.le_of_ble_eq_true rfl) hRl) (Nat.zero_le _) (Nat.zero_le _) ?_
                        intro r25 T25 L25 q25 X25
                        obtain ⟨w25, rfl, p25, rfl, e25⟩ := q25
                        rw [List.append_nil] at X25
                        rcases p25 with ⟨u25_0_0, z25⟩ | ⟨u25_1_0, u25_1_1, z25⟩ | ⟨u25_2_0, u25_2_1, z25⟩
                        · -- (0 : Int32)
                          subst w25
                          show Go p e below _ T25 (mkF m 230 #[.val (.ref a), .val (.int fr), .val (.int to), .val (.int i), .val (.int ((bs.getD I 0) &&& (255 : Int32))), .val (.int (4 : Int32)), .val (.int (128 : Int32)), .val (.int (143 : Int32)), .val (.int (2 : Int32))] [(.int (0 : Int32))])
                          refine Go.s_ifNo X25 hx (hb hby d1_230) (q := 233) rfl ((if0 _ _).trans (teq (by decide : (0 : Int32) = (0 : Int32))).2) ?_
                          refine Go.s_iloadN X25 hx (hb hby d1_233) (q := 234) rfl rfl ?_
                          refine Go.retI X25 hx hlk hret (hb hby d1_234) (Nat.zero_le _) (Nat.zero_le _) ?_
                          try rw [e25]
                          have hwf : wf (uu bs) I (to.toInt - I) = 0 := by
                            have := rng8 (bs.getD I 0)
                            have := rng8 (bs.getD (I + 1) 0)
                            have := rng8 (bs.getD (I + 2) 0)
                            have := (by decide : (4 : Int32).toInt = 4)
                            have := (by decide : (128 : Int32).toInt = 128)
                            have := (by decide : (143 : Int32).toInt = 143)
                            have := (by decide : (194 : Int32).toInt = 194)
                            have := (by decide : (223 : Int32).toInt = 223)
                            have := (by decide : (239 : Int32).toInt = 239)
                            have := (by decide : (240 : Int32).toInt = 240)
                            have := (by decide : (244 : Int32).toInt = 244)
                            have := (by decide : (255 : Int32).toInt = 255)
                            have := c_isub to i
                            have := rng32 (to - i)
                            have := mt Int32.lt_iff_toInt_lt.mpr c21_2
                            have := mt Int32.lt_iff_toInt_lt.mpr c45_3
                            have := Int32.lt_iff_toInt_lt.mp c53_6
                            have := Int32.lt_iff_toInt_lt.mp c75_8
                            have := mt Int32.lt_iff_toInt_lt.mpr c133_10
                            have := mt Int32.toInt_inj.mp c144_11
                            have := congrArg Int32.toInt c162_20
                            have := mt Int32.lt_iff_toInt_lt.mpr c185_21
                            have := mt Int32.lt_iff_toInt_lt.mpr u23_2_0
                            have := mt Int32.lt_iff_toInt_lt.mpr u23_2_1
                            have := Int32.lt_iff_toInt_lt.mp u25_0_0
                            simp only [wf, uu]
                            repeat' split
                            all_goals omega
                          exact ⟨_, rfl, by rw [fmal_bad hlt hwf]; exact hiI, rfl, rfl⟩
                        · -- (0 : Int32)
                          subst w25
                          show Go p e below _ T25 (mkF m 230 #[.val (.ref a), .val (.int fr), .val (.int to), .val (.int i), .val (.int ((bs.getD I 0) &&& (255 : Int32))), .val (.int (4 : Int32)), .val (.int (128 : Int32)), .val (.int (143 : Int32)), .val (.int (2 : Int32))] [(.int (0 : Int32))])
                          refine Go.s_ifNo X25 hx (hb hby d1_230) (q := 233) rfl ((if0 _ _).trans (teq (by decide : (0 : Int32) = (0 : Int32))).2) ?_
                          refine Go.s_iloadN X25 hx (hb hby d1_233) (q := 234) rfl rfl ?_
                          refine Go.retI X25 hx hlk hret (hb hby d1_234) (Nat.zero_le _) (Nat.zero_le _) ?_
                          try rw [e25]
                          have hwf : wf (uu bs) I (to.toInt - I) = 0 := by
                            have := rng8 (bs.getD I 0)
                            have := rng8 (bs.getD (I + 1) 0)
                            have := rng8 (bs.getD (I + 2) 0)
                            have := (by decide : (4 : Int32).toInt = 4)
                            have := (by decide : (128 : Int32).toInt = 128)
                            have := (by decide : (143 : Int32).toInt = 143)
                            have := (by decide : (191 : Int32).toInt = 191)
                            have := (by decide : (194 : Int32).toInt = 194)
                            have := (by decide : (223 : Int32).toInt = 223)
                            have := (by decide : (239 : Int32).toInt = 239)
                            have := (by decide : (240 : Int32).toInt = 240)
                            have := (by decide : (244 : Int32).toInt = 244)
                            have := (by decide : (255 : Int32).toInt = 255)
                            have := c_isub to i
                            have := rng32 (to - i)
                            have := mt Int32.lt_iff_toInt_lt.mpr c21_2
                            have := mt Int32.lt_iff_toInt_lt.mpr c45_3
                            have := Int32.lt_iff_toInt_lt.mp c53_6
                            have := Int32.lt_iff_toInt_lt.mp c75_8
                            have := mt Int32.lt_iff_toInt_lt.mpr c133_10
                            have := mt Int32.toInt_inj.mp c144_11
                            have := congrArg Int32.toInt c162_20
                            have := mt Int32.lt_iff_toInt_lt.mpr c185_21
                            have := mt Int32.lt_iff_toInt_lt.mpr u23_2_0
                            have := mt Int32.lt_iff_toInt_lt.mpr u23_2_1
                            have := mt Int32.lt_iff_toInt_lt.mpr u25_1_0
                            have := Int32.lt_iff_toInt_lt.mp u25_1_1
                            simp only [wf, uu]
                            repeat' split
                            all_goals omega
                          exact ⟨_, rfl, by rw [fmal_bad hlt hwf]; exact hiI, rfl, rfl⟩
                        · -- (1 : Int32)
                          subst w25
                          show Go p e below _ T25 (mkF m 230 #[.val (.ref a), .val (.int fr), .val (.int to), .val (.int i), .val (.int ((bs.getD I 0) &&& (255 : Int32))), .val (.int (4 : Int32)), .val (.int (128 : Int32)), .val (.int (143 : Int32)), .val (.int (2 : Int32))] [(.int (1 : Int32))])
                          refine Go.s_ifYes X25 hx (hb hby d1_230) (q := 235) (by decide) (by decide) ((if0 _ _).trans (feq (by decide : ¬ ((1 : Int32) = (0 : Int32)))).2) ?_
                          refine Go.s_iinc X25 hx (hb hby d1_235) (q := 238) rfl rfl (l' := #[.val (.ref a), .val (.int fr), .val (.int to), .val (.int i), .val (.int ((bs.getD I 0) &&& (255 : Int32))), .val (.int (4 : Int32)), .val (.int (128 : Int32)), .val (.int (143 : Int32)), .val (.int ((2 : Int32) + (1 : Int32)))]) rfl ?_
                          rw [(by decide : ((2 : Int32) + (1 : Int32)) = (3 : Int32))]
                          refine Go.s_goto X25 hx (hb hby d1_238) (q := 208) (by decide) (by decide) ?_
                          refine Go.s_iload X25 hx (hb hby d1_208) (q := 210) rfl rfl ?_
                          refine Go.s_iload X25 hx (hb hby d1_210) (q := 212) rfl rfl ?_
                          refine Go.s_icmpNo X25 hx (hb hby d1_212) (q := 215) rfl (tlt (by decide : (3 : Int32) < (4 : Int32))).2.1 ?_
                          refine Go.s_aloadN X25 hx (hb hby d1_215) (q := 216) rfl rfl rfl ?_
                          refine Go.s_iloadN X25 hx (hb hby d1_216) (q := 217) rfl rfl ?_
                          refine Go.s_iload X25 hx (hb hby d1_217) (q := 219) rfl rfl ?_
                          refine Go.s_iadd X25 hx (hb hby d1_219) (q := 220) rfl ?_
                          obtain ⟨hj26, hn26⟩ := ix (k := (3 : Int32)) (K := 3) hiI (by decide) (by omega)
                          refine Go.ldB X25 hx hZ e25 V_a hj26 (w := (.int (bs.getD (I + 3) 0))) (by rw [hn26]; exact getD_mapI bs _) (hb hby d1_220) ?_
                          show Go p e below _ T25 (mkF m 221 #[.val (.ref a), .val (.int fr), .val (.int to), .val (.int i), .val (.int ((bs.getD I 0) &&& (255 : Int32))), .val (.int (4 : Int32)), .val (.int (128 : Int32)), .val (.int (143 : Int32)), .val (.int (3 : Int32))] [(.int (bs.getD (I + 3) 0))])
                          refine Go.s_sipush X25 hx (hb hby d1_221) (q := 224) rfl (z := 128) rfl ?_
                          refine Go.s_sipush X25 hx (hb hby d1_224) (q := 227) rfl (z := 191) rfl ?_
                          refine Go.callS (y := mn_4) X25 hx hZ hown (w_ hw 13 rfl) (w_ hw 14 rfl) (w_ hw 4 rfl) (w_ hw 15 rfl) (by decide) e25 (argsL := [(.int (bs.getD (I + 3) 0)), (.int (128 : Int32)), (.int (191 : Int32))]) (rest := []) (rm_ib l Z a0 hw (bs.getD (I + 3) 0) (128 : Int32) (191 : Int32) _) (by rw [hml]; rfl) (lenOf pd_0 rfl) rfl (hb hby d1_227) hRf (Nat.le_trans (Nat.le_of_ble_eq_true rfl) hRl) (Nat.zero_le _) (Nat.zero_le _) ?_
                          intro r27 T27 L27 q27 X27
                          obtain ⟨w27, rfl, p27, rfl, e27⟩ := q27
                          rw [List.append_nil] at X27
                          rcases p27 with ⟨u27_0_0, z27⟩ | ⟨u27_1_0, u27_1_1, z27⟩ | ⟨u27_2_0, u27_2_1, z27⟩
                          · -- (0 : Int32)
                            subst w27
                            show Go p e below _ T27 (mkF m 230 #[.val (.ref a), .val (.int fr), .val (.int to), .val (.int i), .val (.int ((bs.getD I 0) &&& (255 : Int32))), .val (.int (4 : Int32)), .val (.int (128 : Int32)), .val (.int (143 : Int32)), .val (.int (3 : Int32))] [(.int (0 : Int32))])
                            refine Go.s_ifNo X27 hx (hb hby d1_230) (q := 233) rfl ((if0 _ _).trans (teq (by decide : (0 : Int32) = (0 : Int32))).2) ?_
                            refine Go.s_iloadN X27 hx (hb hby d1_233) (q := 234) rfl rfl ?_
                            refine Go.retI X27 hx hlk hret (hb hby d1_234) (Nat.zero_le _) (Nat.zero_le _) ?_
                            try rw [e27]
                            have hwf : wf (uu bs) I (to.toInt - I) = 0 := by
                              have := rng8 (bs.getD I 0)
                              have := rng8 (bs.getD (I + 1) 0)
                              have := rng8 (bs.getD (I + 2) 0)
                              have := rng8 (bs.getD (I + 3) 0)
                              have := (by decide : (4 : Int32).toInt = 4)
                              have := (by decide : (128 : Int32).toInt = 128)
                              have := (by decide : (143 : Int32).toInt = 143)
                              have := (by decide : (191 : Int32).toInt = 191)
                              have := (by decide : (194 : Int32).toInt = 194)
                              have := (by decide : (223 : Int32).toInt = 223)
                              have := (by decide : (239 : Int32).toInt = 239)
                              have := (by decide : (240 : Int32).toInt = 240)
                              have := (by decide : (244 : Int32).toInt = 244)
                              have := (by decide : (255 : Int32).toInt = 255)
                              have := c_isub to i
                              have := rng32 (to - i)
                              have := mt Int32.lt_iff_toInt_lt.mpr c21_2
                              have := mt Int32.lt_iff_toInt_lt.mpr c45_3
                              have := Int32.lt_iff_toInt_lt.mp c53_6
                              have := Int32.lt_iff_toInt_lt.mp c75_8
                              have := mt Int32.lt_iff_toInt_lt.mpr c133_10
                              have := mt Int32.toInt_inj.mp c144_11
                              have := congrArg Int32.toInt c162_20
                              have := mt Int32.lt_iff_toInt_lt.mpr c185_21
                              have := mt Int32.lt_iff_toInt_lt.mpr u23_2_0
                              have := mt Int32.lt_iff_toInt_lt.mpr u23_2_1
                              have := mt Int32.lt_iff_toInt_lt.mpr u25_2_0
                              have := mt Int32.lt_iff_toInt_lt.mpr u25_2_1
                              have := Int32.lt_iff_toInt_lt.mp u27_0_0
                              simp only [wf, uu]
                              repeat' split
                              all_goals omega
                            exact ⟨_, rfl, by rw [fmal_bad hlt hwf]; exact hiI, rfl, rfl⟩
                          · -- (0 : Int32)
                            subst w27
                            show Go p e below _ T27 (mkF m 230 #[.val (.ref a), .val (.int fr), .val (.int to), .val (.int i), .val (.int ((bs.getD I 0) &&& (255 : Int32))), .val (.int (4 : Int32)), .val (.int (128 : Int32)), .val (.int (143 : Int32)), .val (.int (3 : Int32))] [(.int (0 : Int32))])
                            refine Go.s_ifNo X27 hx (hb hby d1_230) (q := 233) rfl ((if0 _ _).trans (teq (by decide : (0 : Int32) = (0 : Int32))).2) ?_
                            refine Go.s_iloadN X27 hx (hb hby d1_233) (q := 234) rfl rfl ?_
                            refine Go.retI X27 hx hlk hret (hb hby d1_234) (Nat.zero_le _) (Nat.zero_le _) ?_
                            try rw [e27]
                            have hwf : wf (uu bs) I (to.toInt - I) = 0 := by
                              have := rng8 (bs.getD I 0)
                              have := rng8 (bs.getD (I + 1) 0)
                              have := rng8 (bs.getD (I + 2) 0)
                              have := rng8 (bs.getD (I + 3) 0)
                              have := (by decide : (4 : Int32).toInt = 4)
                              have := (by decide : (128 : Int32).toInt = 128)
                              have := (by decide : (143 : Int32).toInt = 143)
                              have := (by decide : (191 : Int32).toInt = 191)
                              have := (by decide : (194 : Int32).toInt = 194)
                              have := (by decide : (223 : Int32).toInt = 223)
                              have := (by decide : (239 : Int32).toInt = 239)
                              have := (by decide : (240 : Int32).toInt = 240)
                              have := (by decide : (244 : Int32).toInt = 244)
                              have := (by decide : (255 : Int32).toInt = 255)
                              have := c_isub to i
                              have := rng32 (to - i)
                              have := mt Int32.lt_iff_toInt_lt.mpr c21_2
                              have := mt Int32.lt_iff_toInt_lt.mpr c45_3
                              have := Int32.lt_iff_toInt_lt.mp c53_6
                              have := Int32.lt_iff_toInt_lt.mp c75_8
                              have := mt Int32.lt_iff_toInt_lt.mpr c133_10
                              have := mt Int32.toInt_inj.mp c144_11
                              have := congrArg Int32.toInt c162_20
                              have := mt Int32.lt_iff_toInt_lt.mpr c185_21
                              have := mt Int32.lt_iff_toInt_lt.mpr u23_2_0
                              have := mt Int32.lt_iff_toInt_lt.mpr u23_2_1
                              have := mt Int32.lt_iff_toInt_lt.mpr u25_2_0
                              have := mt Int32.lt_iff_toInt_lt.mpr u25_2_1
                              have := mt Int32.lt_iff_toInt_lt.mpr u27_1_0
                              have := Int32.lt_iff_toInt_lt.mp u27_1_1
                              simp only [wf, uu]
                              repeat' split
                              all_goals omega
                            exact ⟨_, rfl, by rw [fmal_bad hlt hwf]; exact hiI, rfl, rfl⟩
                          · -- (1 : Int32)
                            subst w27
                            show Go p e below _ T27 (mkF m 230 #[.val (.ref a), .val (.int fr), .val (.int to), .val (.int i), .val (.int ((bs.getD I 0) &&& (255 : Int32))), .val (.int (4 : Int32)), .val (.int (128 : Int32)), .val (.int (143 : Int32)), .val (.int (3 : Int32))] [(.int (1 : Int32))])
                            refine Go.s_ifYes X27 hx (hb hby d1_230) (q := 235) (by decide) (by decide) ((if0 _ _).trans (feq (by decide : ¬ ((1 : Int32) = (0 : Int32)))).2) ?_
                            refine Go.s_iinc X27 hx (hb hby d1_235) (q := 238) rfl rfl (l' := #[.val (.ref a), .val (.int fr), .val (.int to), .val (.int i), .val (.int ((bs.getD I 0) &&& (255 : Int32))), .val (.int (4 : Int32)), .val (.int (128 : Int32)), .val (.int (143 : Int32)), .val (.int ((3 : Int32) + (1 : Int32)))]) rfl ?_
                            rw [(by decide : ((3 : Int32) + (1 : Int32)) = (4 : Int32))]
                            refine Go.s_goto X27 hx (hb hby d1_238) (q := 208) (by decide) (by decide) ?_
                            refine Go.s_iload X27 hx (hb hby d1_208) (q := 210) rfl rfl ?_
                            refine Go.s_iload X27 hx (hb hby d1_210) (q := 212) rfl rfl ?_
                            refine Go.s_icmpYes X27 hx (hb hby d1_212) (q := 241) (by decide) (by decide) (flt (by decide : ¬ ((4 : Int32) < (4 : Int32)))).2.1 ?_
                            refine Go.s_iloadN X27 hx (hb hby d1_241) (q := 242) rfl rfl ?_
                            refine Go.s_iload X27 hx (hb hby d1_242) (q := 244) rfl rfl ?_
                            refine Go.s_iadd X27 hx (hb hby d1_244) (q := 245) rfl ?_
                            refine Go.s_istoreN X27 hx (hb hby d1_245) (q := 246) rfl (l' := #[.val (.ref a), .val (.int fr), .val (.int to), .val (.int (i + (4 : Int32))), .val (.int ((bs.getD I 0) &&& (255 : Int32))), .val (.int (4 : Int32)), .val (.int (128 : Int32)), .val (.int (143 : Int32)), .val (.int (4 : Int32))]) rfl ?_
                            refine Go.s_goto X27 hx (hb hby d1_246) (q := 2) (by decide) (by decide) ?_
                            have hwf : wf (uu bs) I (to.toInt - I) = 4 := by
                              have := rng8 (bs.getD I 0)
                              have := rng8 (bs.getD (I + 1) 0)
                              have := rng8 (bs.getD (I + 2) 0)
                              have := rng8 (bs.getD (I + 3) 0)
                              have := (by decide : (4 : Int32).toInt = 4)
                              have := (by decide : (128 : Int32).toInt = 128)
                              have := (by decide : (143 : Int32).toInt = 143)
                              have := (by decide : (191 : Int32).toInt = 191)
                              have := (by decide : (194 : Int32).toInt = 194)
                              have := (by decide : (223 : Int32).toInt = 223)
                              have := (by decide : (239 : Int32).toInt = 239)
                              have := (by decide : (240 : Int32).toInt = 240)
                              have := (by decide : (244 : Int32).toInt = 244)
                              have := (by decide : (255 : Int32).toInt = 255)
                              have := c_isub to i
                              have := rng32 (to - i)
                              have := mt Int32.lt_iff_toInt_lt.mpr c21_2
                              have := mt Int32.lt_iff_toInt_lt.mpr c45_3
                              have := Int32.lt_iff_toInt_lt.mp c53_6
                              have := Int32.lt_iff_toInt_lt.mp c75_8
                              have := mt Int32.lt_iff_toInt_lt.mpr c133_10
                              have := mt Int32.toInt_inj.mp c144_11
                              have := congrArg Int32.toInt c162_20
                              have := mt Int32.lt_iff_toInt_lt.mpr c185_21
                              have := mt Int32.lt_iff_toInt_lt.mpr u23_2_0
                              have := mt Int32.lt_iff_toInt_lt.mpr u23_2_1
                              have := mt Int32.lt_iff_toInt_lt.mpr u25_2_0
                              have := mt Int32.lt_iff_toInt_lt.mpr u25_2_1
                              have := mt Int32.lt_iff_toInt_lt.mpr u27_2_0
                              have := mt Int32.lt_iff_toInt_lt.mpr u27_2_1
                              simp only [wf, uu]
                              repeat' split
                              all_goals omega
                            have hix := ix2 (k := (4 : Int32)) (K := 4) hiI (by decide) (by omega)
                            have hst : fmal (uu bs) to.toInt (n + 1) I = fmal (uu bs) to.toInt n (I + 4) := fmal_step hlt hwf (by decide)
                            rw [hst]
                            exact ih X27 e27 _ _ _ _ _ _ _ hix (by omega) (One.val rfl) (One.val rfl) (One.val rfl) (One.val rfl) (One.val rfl)
                  · -- pc 162: not ((bs.getD I 0) &&& (255 : Int32)) = (244 : Int32)
                    refine Go.s_icmpYes X0 hx (hb hby d1_162) (q := 171) (by decide) (by decide) (feq c162_20).2 ?_
                    refine Go.s_iload X0 hx (hb hby d1_171) (q := 173) rfl rfl ?_
                    refine Go.s_istore X0 hx (hb hby d1_173) (q := 175) rfl (l' := #[.val (.ref a), .val (.int fr), .val (.int to), .val (.int i), .val (.int ((bs.getD I 0) &&& (255 : Int32))), .val (.int (4 : Int32)), .val (.int (128 : Int32)), .val (.int (191 : Int32)), s8]) rfl ?_
                    refine Go.s_goto X0 hx (hb hby d1_175) (q := 180) (by decide) (by decide) ?_
                    refine Go.s_iloadN X0 hx (hb hby d1_180) (q := 181) rfl rfl ?_
                    refine Go.s_iloadN X0 hx (hb hby d1_181) (q := 182) rfl rfl ?_
                    refine Go.s_isub X0 hx (hb hby d1_182) (q := 183) rfl ?_
                    refine Go.s_iload X0 hx (hb hby d1_183) (q := 185) rfl rfl ?_
                    by_cases c185_28 : (to - i) < (4 : Int32)
                    · -- pc 185: (to - i) < (4 : Int32)
                      refine Go.s_icmpYes X0 hx (hb hby d1_185) (q := 203) (by decide) (by decide) (tlt c185_28).1 ?_
                      refine Go.s_iloadN X0 hx (hb hby d1_203) (q := 204) rfl rfl ?_
                      refine Go.retI X0 hx hlk hret (hb hby d1_204) (Nat.zero_le _) (Nat.zero_le _) ?_
                      try rw [e0]
                      have hwf : wf (uu bs) I (to.toInt - I) = 0 := by
                        have := rng8 (bs.getD I 0)
                        have := (by decide : (4 : Int32).toInt = 4)
                        have := (by decide : (128 : Int32).toInt = 128)
                        have := (by decide : (194 : Int32).toInt = 194)
                        have := (by decide : (223 : Int32).toInt = 223)
                        have := (by decide : (239 : Int32).toInt = 239)
                        have := (by decide : (240 : Int32).toInt = 240)
                        have := (by decide : (244 : Int32).toInt = 244)
                        have := (by decide : (255 : Int32).toInt = 255)
                        have := c_isub to i
                        have := rng32 (to - i)
                        have := mt Int32.lt_iff_toInt_lt.mpr c21_2
                        have := mt Int32.lt_iff_toInt_lt.mpr c45_3
                        have := Int32.lt_iff_toInt_lt.mp c53_6
                        have := Int32.lt_iff_toInt_lt.mp c75_8
                        have := mt Int32.lt_iff_toInt_lt.mpr c133_10
                        have := mt Int32.toInt_inj.mp c144_11
                        have := mt Int32.toInt_inj.mp c162_20
                        have := Int32.lt_iff_toInt_lt.mp c185_28
                        simp only [wf, uu]
                        repeat' split
                        all_goals omega
                      exact ⟨_, rfl, by rw [fmal_bad hlt hwf]; exact hiI, rfl, rfl⟩
                    · -- pc 185: not (to - i) < (4 : Int32)
                      refine Go.s_icmpNo X0 hx (hb hby d1_185) (q := 188) rfl (flt c185_28).1 ?_
                      have nb := avail hiI hlt hto c185_28 (by decide)
                      have kk2 : (2 : Int32).toInt = 2 := by decide
                      have kk3 : (3 : Int32).toInt = 3 := by decide
                      have kk4 : (4 : Int32).toInt = 4 := by decide
                      refine Go.s_aloadN X0 hx (hb hby d1_188) (q := 189) rfl rfl rfl ?_
                      refine Go.s_iloadN X0 hx (hb hby d1_189) (q := 190) rfl rfl ?_
                      refine Go.s_iconst X0 hx (hb hby d1_190) (q := 191) rfl (z := 1) rfl ?_
                      refine Go.s_iadd X0 hx (hb hby d1_191) (q := 192) rfl ?_
                      obtain ⟨hj29, hn29⟩ := ix (k := (1 : Int32)) (K := 1) hiI (by decide) (by omega)
                      refine Go.ldB X0 hx hZ e0 V_a hj29 (w := (.int (bs.getD (I + 1) 0))) (by rw [hn29]; exact getD_mapI bs _) (hb hby d1_192) ?_
                      show Go p e below _ T0 (mkF m 193 #[.val (.ref a), .val (.int fr), .val (.int to), .val (.int i), .val (.int ((bs.getD I 0) &&& (255 : Int32))), .val (.int (4 : Int32)), .val (.int (128 : Int32)), .val (.int (191 : Int32)), s8] [(.int (bs.getD (I + 1) 0))])
                      refine Go.s_iload X0 hx (hb hby d1_193) (q := 195) rfl rfl ?_
                      refine Go.s_iload X0 hx (hb hby d1_195) (q := 197) rfl rfl ?_
                      refine Go.callS (y := mn_4) X0 hx hZ hown (w_ hw 13 rfl) (w_ hw 14 rfl) (w_ hw 4 rfl) (w_ hw 15 rfl) (by decide) e0 (argsL := [(.int (bs.getD (I + 1) 0)), (.int (128 : Int32)), (.int (191 : Int32))]) (rest := []) (rm_ib l Z a0 hw (bs.getD (I + 1) 0) (128 : Int32) (191 : Int32) _) (by rw [hml]; rfl) (lenOf pd_0 rfl) rfl (hb hby d1_197) hRf (Nat.le_trans (Nat.le_of_ble_eq_true rfl) hRl) (Nat.zero_le _) (Nat.zero_le _) ?_
                      intro r30 T30 L30 q30 X30
                      obtain ⟨w30, rfl, p30, rfl, e30⟩ := q30
                      rw [List.append_nil] at X30
                      rcases p30 with ⟨u30_0_0, z30⟩ | ⟨u30_1_0, u30_1_1, z30⟩ | ⟨u30_2_0, u30_2_1, z30⟩
                      · -- (0 : Int32)
                        subst w30
                        show Go p e below _ T30 (mkF m 200 #[.val (.ref a), .val (.int fr), .val (.int to), .val (.int i), .val (.int ((bs.getD I 0) &&& (255 : Int32))), .val (.int (4 : Int32)), .val (.int (128 : Int32)), .val (.int (191 : Int32)), s8] [(.int (0 : Int32))])
                        refine Go.s_ifNo X30 hx (hb hby d1_200) (q := 203) rfl ((if0 _ _).trans (teq (by decide : (0 : Int32) = (0 : Int32))).2) ?_
                        refine Go.s_iloadN X30 hx (hb hby d1_203) (q := 204) rfl rfl ?_
                        refine Go.retI X30 hx hlk hret (hb hby d1_204) (Nat.zero_le _) (Nat.zero_le _) ?_
                        try rw [e30]
                        have hwf : wf (uu bs) I (to.toInt - I) = 0 := by
                          have := rng8 (bs.getD I 0)
                          have := rng8 (bs.getD (I + 1) 0)
                          have := (by decide : (4 : Int32).toInt = 4)
                          have := (by decide : (128 : Int32).toInt = 128)
                          have := (by decide : (194 : Int32).toInt = 194)
                          have := (by decide : (223 : Int32).toInt = 223)
                          have := (by decide : (239 : Int32).toInt = 239)
                          have := (by decide : (240 : Int32).toInt = 240)
                          have := (by decide : (244 : Int32).toInt = 244)
                          have := (by decide : (255 : Int32).toInt = 255)
                          have := c_isub to i
                          have := rng32 (to - i)
                          have := mt Int32.lt_iff_toInt_lt.mpr c21_2
                          have := mt Int32.lt_iff_toInt_lt.mpr c45_3
                          have := Int32.lt_iff_toInt_lt.mp c53_6
                          have := Int32.lt_iff_toInt_lt.mp c75_8
                          have := mt Int32.lt_iff_toInt_lt.mpr c133_10
                          have := mt Int32.toInt_inj.mp c144_11
                          have := mt Int32.toInt_inj.mp c162_20
                          have := mt Int32.lt_iff_toInt_lt.mpr c185_28
                          have := Int32.lt_iff_toInt_lt.mp u30_0_0
                          simp only [wf, uu]
                          repeat' split
                          all_goals omega
                        exact ⟨_, rfl, by rw [fmal_bad hlt hwf]; exact hiI, rfl, rfl⟩
                      · -- (0 : Int32)
                        subst w30
                        show Go p e below _ T30 (mkF m 200 #[.val (.ref a), .val (.int fr), .val (.int to), .val (.int i), .val (.int ((bs.getD I 0) &&& (255 : Int32))), .val (.int (4 : Int32)), .val (.int (128 : Int32)), .val (.int (191 : Int32)), s8] [(.int (0 : Int32))])
                        refine Go.s_ifNo X30 hx (hb hby d1_200) (q := 203) rfl ((if0 _ _).trans (teq (by decide : (0 : Int32) = (0 : Int32))).2) ?_
                        refine Go.s_iloadN X30 hx (hb hby d1_203) (q := 204) rfl rfl ?_
                        refine Go.retI X30 hx hlk hret (hb hby d1_204) (Nat.zero_le _) (Nat.zero_le _) ?_
                        try rw [e30]
                        have hwf : wf (uu bs) I (to.toInt - I) = 0 := by
                          have := rng8 (bs.getD I 0)
                          have := rng8 (bs.getD (I + 1) 0)
                          have := (by decide : (4 : Int32).toInt = 4)
                          have := (by decide : (128 : Int32).toInt = 128)
                          have := (by decide : (191 : Int32).toInt = 191)
                          have := (by decide : (194 : Int32).toInt = 194)
                          have := (by decide : (223 : Int32).toInt = 223)
                          have := (by decide : (239 : Int32).toInt = 239)
                          have := (by decide : (240 : Int32).toInt = 240)
                          have := (by decide : (244 : Int32).toInt = 244)
                          have := (by decide : (255 : Int32).toInt = 255)
                          have := c_isub to i
                          have := rng32 (to - i)
                          have := mt Int32.lt_iff_toInt_lt.mpr c21_2
                          have := mt Int32.lt_iff_toInt_lt.mpr c45_3
                          have := Int32.lt_iff_toInt_lt.mp c53_6
                          have := Int32.lt_iff_toInt_lt.mp c75_8
                          have := mt Int32.lt_iff_toInt_lt.mpr c133_10
                          have := mt Int32.toInt_inj.mp c144_11
                          have := mt Int32.toInt_inj.mp c162_20
                          have := mt Int32.lt_iff_toInt_lt.mpr c185_28
                          have := mt Int32.lt_iff_toInt_lt.mpr u30_1_0
                          have := Int32.lt_iff_toInt_lt.mp u30_1_1
                          simp only [wf, uu]
                          repeat' split
                          all_goals omega
                        exact ⟨_, rfl, by rw [fmal_bad hlt hwf]; exact hiI, rfl, rfl⟩
                      · -- (1 : Int32)
                        subst w30
                        show Go p e below _ T30 (mkF m 200 #[.val (.ref a), .val (.int fr), .val (.int to), .val (.int i), .val (.int ((bs.getD I 0) &&& (255 : Int32))), .val (.int (4 : Int32)), .val (.int (128 : Int32)), .val (.int (191 : Int32)), s8] [(.int (1 : Int32))])
                        refine Go.s_ifYes X30 hx (hb hby d1_200) (q := 205) (by decide) (by decide) ((if0 _ _).trans (feq (by decide : ¬ ((1 : Int32) = (0 : Int32)))).2) ?_
                        refine Go.s_iconst X30 hx (hb hby d1_205) (q := 206) rfl (z := 2) rfl ?_
                        refine Go.s_istoreS X30 hx (hb hby d1_206) (q := 208) rfl (o := s8) rfl hs8 (l' := #[.val (.ref a), .val (.int fr), .val (.int to), .val (.int i), .val (.int ((bs.getD I 0) &&& (255 : Int32))), .val (.int (4 : Int32)), .val (.int (128 : Int32)), .val (.int (191 : Int32)), .val (.int (2 : Int32))]) rfl ?_
                        refine Go.s_iload X30 hx (hb hby d1_208) (q := 210) rfl rfl ?_
                        refine Go.s_iload X30 hx (hb hby d1_210) (q := 212) rfl rfl ?_
                        refine Go.s_icmpNo X30 hx (hb hby d1_212) (q := 215) rfl (tlt (by decide : (2 : Int32) < (4 : Int32))).2.1 ?_
                        refine Go.s_aloadN X30 hx (hb hby d1_215) (q := 216) rfl rfl rfl ?_
                        refine Go.s_iloadN X30 hx (hb hby d1_216) (q := 217) rfl rfl ?_
                        refine Go.s_iload X30 hx (hb hby d1_217) (q := 219) rfl rfl ?_
                        refine Go.s_iadd X30 hx (hb hby d1_219) (q := 220) rfl ?_
                        obtain ⟨hj31, hn31⟩ := ix (k := (2 : Int32)) (K := 2) hiI (by decide) (by omega)
                        refine Go.ldB X30 hx hZ e30 V_a hj31 (w := (.int (bs.getD (I + 2) 0))) (by rw [hn31]; exact getD_mapI bs _) (hb hby d1_220) ?_
                        show Go p e below _ T30 (mkF m 221 #[.val (.ref a), .val (.int fr), .val (.int to), .val (.int i), .val (.int ((bs.getD I 0) &&& (255 : Int32))), .val (.int (4 : Int32)), .val (.int (128 : Int32)), .val (.int (191 : Int32)), .val (.int (2 : Int32))] [(.int (bs.getD (I + 2) 0))])
                        refine Go.s_sipush X30 hx (hb hby d1_221) (q := 224) rfl (z := 128) rfl ?_
                        refine Go.s_sipush X30 hx (hb hby d1_224) (q := 227) rfl (z := 191) rfl ?_
                        refine Go.callS (y := mn_4) X30 hx hZ hown (w_ hw 13 rfl) (w_ hw 14 rfl) (w_ hw 4 rfl) (w_ hw 15 rfl) (by decide) e30 (argsL := [(.int (bs.getD (I + 2) 0)), (.int (128 : Int32)), (.int (191 : Int32))]) (rest := []) (rm_ib l Z a0 hw (bs.getD (I + 2) 0) (128 : Int32) (191 : Int32) _) (by rw [hml]; rfl) (lenOf pd_0 rfl) rfl (hb hby d1_227) hRf (Nat.le_trans (Nat.le_of_ble_eq_true rfl) hRl) (Nat.zero_le _) (Nat.zero_le _) ?_
                        intro r32 T32 L32 q32 X32
                        obtain ⟨w32, rfl, p32, rfl, e32⟩ := q32
                        rw [List.append_nil] at X32
                        rcases p32 with ⟨u32_0_0, z32⟩ | ⟨u32_1_0, u32_1_1, z32⟩ | ⟨u32_2_0, u32_2_1, z32⟩
                        · -- (0 : Int32)
                          subst w32
                          show Go p e below _ T32 (mkF m 230 #[.val (.ref a), .val (.int fr), .val (.int to), .val (.int i), .val (.int ((bs.getD I 0) &&& (255 : Int32))), .val (.int (4 : Int32)), .val (.int (128 : Int32)), .val (.int (191 : Int32)), .val (.int (2 : Int32))] [(.int (0 : Int32))])
                          refine Go.s_ifNo X32 hx (hb hby d1_230) (q := 233) rfl ((if0 _ _).trans (teq (by decide : (0 : Int32) = (0 : Int32))).2) ?_
                          refine Go.s_iloadN X32 hx (hb hby d1_233) (q := 234) rfl rfl ?_
                          refine Go.retI X32 hx hlk hret (hb hby d1_234) (Nat.zero_le _) (Nat.zero_le _) ?_
                          try rw [e32]
                          have hwf : wf (uu bs) I (to.toInt - I) = 0 := by
                            have := rng8 (bs.getD I 0)
                            have := rng8 (bs.getD (I + 1) 0)
                            have := rng8 (bs.getD (I + 2) 0)
                            have := (by decide : (4 : Int32).toInt = 4)
                            have := (by decide : (128 : Int32).toInt = 128)
                            have := (by decide : (191 : Int32).toInt = 191)
                            have := (by decide : (194 : Int32).toInt = 194)
                            have := (by decide : (223 : Int32).toInt = 223)
                            have := (by decide : (239 : Int32).toInt = 239)
                            have := (by decide : (240 : Int32).toInt = 240)
                            have := (by decide : (244 : Int32).toInt = 244)
                            have := (by decide : (255 : Int32).toInt = 255)
                            have := c_isub to i
                            have := rng32 (to - i)
                            have := mt Int32.lt_iff_toInt_lt.mpr c21_2
                            have := mt Int32.lt_iff_toInt_lt.mpr c45_3
                            have := Int32.lt_iff_toInt_lt.mp c53_6
                            have := Int32.lt_iff_toInt_lt.mp c75_8
                            have := mt Int32.lt_iff_toInt_lt.mpr c133_10
                            have := mt Int32.toInt_inj.mp c144_11
                            have := mt Int32.toInt_inj.mp c162_20
                            have := mt Int32.lt_iff_toInt_lt.mpr c185_28
                            have := mt Int32.lt_iff_toInt_lt.mpr u30_2_0
                            have := mt Int32.lt_iff_toInt_lt.mpr u30_2_1
                            have := Int32.lt_iff_toInt_lt.mp u32_0_0
                            simp only [wf, uu]
                            repeat' split
                            all_goals omega
                          exact ⟨_, rfl, by rw [fmal_bad hlt hwf]; exact hiI, rfl, rfl⟩
                        · -- (0 : Int32)
                          subst w32
                          show Go p e below _ T32 (mkF m 230 #[.val (.ref a), .val (.int fr), .val (.int to), .val (.int i), .val (.int ((bs.getD I 0) &&& (255 : Int32))), .val (.int (4 : Int32)), .val (.int (128 : Int32)), .val (.int (191 : Int32)), .val (.int (2 : Int32))] [(.int (0 : Int32))])
                          refine Go.s_ifNo X32 hx (hb hby d1_230) (q := 233) rfl ((if0 _ _).trans (teq (by decide : (0 : Int32) = (0 : Int32))).2) ?_
                          refine Go.s_iloadN X32 hx (hb hby d1_233) (q := 234) rfl rfl ?_
                          refine Go.retI X32 hx hlk hret (hb hby d1_234) (Nat.zero_le _) (Nat.zero_le _) ?_
                          try rw [e32]
                          have hwf : wf (uu bs) I (to.toInt - I) = 0 := by
                            have := rng8 (bs.getD I 0)
                            have := rng8 (bs.getD (I + 1) 0)
                            have := rng8 (bs.getD (I + 2) 0)
                            have := (by decide : (4 : Int32).toInt = 4)
                            have := (by decide : (128 : Int32).toInt = 128)
                            have := (by decide : (191 : Int32).toInt = 191)
                            have := (by decide : (194 : Int32).toInt = 194)
                            have := (by decide : (223 : Int32).toInt = 223)
                            have := (by decide : (239 : Int32).toInt = 239)
                            have := (by decide : (240 : Int32).toInt = 240)
                            have := (by decide : (244 : Int32).toInt = 244)
                            have := (by decide : (255 : Int32).toInt = 255)
                            have := c_isub to i
                            have := rng32 (to - i)
                            have := mt Int32.lt_iff_toInt_lt.mpr c21_2
                            have := mt Int32.lt_iff_toInt_lt.mpr c45_3
                            have := Int32.lt_iff_toInt_lt.mp c53_6
                            have := Int32.lt_iff_toInt_lt.mp c75_8
                            have := mt Int32.lt_iff_toInt_lt.mpr c133_10
                            have := mt Int32.toInt_inj.mp c144_11
                            have := mt Int32.toInt_inj.mp c162_20
                            have := mt Int32.lt_iff_toInt_lt.mpr c185_28
                            have := mt Int32.lt_iff_toInt_lt.mpr u30_2_0
                            have := mt Int32.lt_iff_toInt_lt.mpr u30_2_1
                            have := mt Int32.lt_iff_toInt_lt.mpr u32_1_0
                            have := Int32.lt_iff_toInt_lt.mp u32_1_1
                            simp only [wf, uu]
                            repeat' split
                            all_goals omega
                          exact ⟨_, rfl, by rw [fmal_bad hlt hwf]; exact hiI, rfl, rfl⟩
                        · -- (1 : Int32)
                          subst w32
                          show Go p e below _ T32 (mkF m 230 #[.val (.ref a), .val (.int fr), .val (.int to), .val (.int i), .val (.int ((bs.getD I 0) &&& (255 : Int32))), .val (.int (4 : Int32)), .val (.int (128 : Int32)), .val (.int (191 : Int32)), .val (.int (2 : Int32))] [(.int (1 : Int32))])
                          refine Go.s_ifYes X32 hx (hb hby d1_230) (q := 235) (by decide) (by decide) ((if0 _ _).trans (feq (by decide : ¬ ((1 : Int32) = (0 : Int32)))).2) ?_
                          refine Go.s_iinc X32 hx (hb hby d1_235) (q := 238) rfl rfl (l' := #[.val (.ref a), .val (.int fr), .val (.int to), .val (.int i), .val (.int ((bs.getD I 0) &&& (255 : Int32))), .val (.int (4 : Int32)), .val (.int (128 : Int32)), .val (.int (191 : Int32)), .val (.int ((2 : Int32) + (1 : Int32)))]) rfl ?_
                          rw [(by decide : ((2 : Int32) + (1 : Int32)) = (3 : Int32))]
                          refine Go.s_goto X32 hx (hb hby d1_238) (q := 208) (by decide) (by decide) ?_
                          refine Go.s_iload X32 hx (hb hby d1_208) (q := 210) rfl rfl ?_
                          refine Go.s_iload X32 hx (hb hby d1_210) (q := 212) rfl rfl ?_
                          refine Go.s_icmpNo X32 hx (hb hby d1_212) (q := 215) rfl (tlt (by decide : (3 : Int32) < (4 : Int32))).2.1 ?_
                          refine Go.s_aloadN X32 hx (hb hby d1_215) (q := 216) rfl rfl rfl ?_
                          refine Go.s_iloadN X32 hx (hb hby d1_216) (q := 217) rfl rfl ?_
                          refine Go.s_iload X32 hx (hb hby d1_217) (q := 219) rfl rfl ?_
                          refine Go.s_iadd X32 hx (hb hby d1_219) (q := 220) rfl ?_
                          obtain ⟨hj33, hn33⟩ := ix (k := (3 : Int32)) (K := 3) hiI (by decide) (by omega)
                          refine Go.ldB X32 hx hZ e32 V_a hj33 (w := (.int (bs.getD (I + 3) 0))) (by rw [hn33]; exact getD_mapI bs _) (hb hby d1_220) ?_
                          show Go p e below _ T32 (mkF m 221 #[.val (.ref a), .val (.int fr), .val (.int to), .val (.int i), .val (.int ((bs.getD I 0) &&& (255 : Int32))), .val (.int (4 : Int32)), .val (.int (128 : Int32)), .val (.int (191 : Int32)), .val (.int (3 : Int32))] [(.int (bs.getD (I + 3) 0))])
                          refine Go.s_sipush X32 hx (hb hby d1_221) (q := 224) rfl (z := 128) rfl ?_
                          refine Go.s_sipush X32 hx (hb hby d1_224) (q := 227) rfl (z := 191) rfl ?_
                          refine Go.callS (y := mn_4) X32 hx hZ hown (w_ hw 13 rfl) (w_ hw 14 rfl) (w_ hw 4 rfl) (w_ hw 15 rfl) (by decide) e32 (argsL := [(.int (bs.getD (I + 3) 0)), (.int (128 : Int32)), (.int (191 : Int32))]) (rest := []) (rm_ib l Z a0 hw (bs.getD (I + 3) 0) (128 : Int32) (191 : Int32) _) (by rw [hml]; rfl) (lenOf pd_0 rfl) rfl (hb hby d1_227) hRf (Nat.le_trans (Nat.le_of_ble_eq_true rfl) hRl) (Nat.zero_le _) (Nat.zero_le _) ?_
                          intro r34 T34 L34 q34 X34
                          obtain ⟨w34, rfl, p34, rfl, e34⟩ := q34
                          rw [List.append_nil] at X34
                          rcases p34 with ⟨u34_0_0, z34⟩ | ⟨u34_1_0, u34_1_1, z34⟩ | ⟨u34_2_0, u34_2_1, z34⟩
                          · -- (0 : Int32)
                            subst w34
                            show Go p e below _ T34 (mkF m 230 #[.val (.ref a), .val (.int fr), .val (.int to), .val (.int i), .val (.int ((bs.getD I 0) &&& (255 : Int32))), .val (.int (4 : Int32)), .val (.int (128 : Int32)), .val (.int (191 : Int32)), .val (.int (3 : Int32))] [(.int (0 : Int32))])
                            refine Go.s_ifNo X34 hx (hb hby d1_230) (q := 233) rfl ((if0 _ _).trans (teq (by decide : (0 : Int32) = (0 : Int32))).2) ?_
                            refine Go.s_iloadN X34 hx (hb hby d1_233) (q := 234) rfl rfl ?_
                            refine Go.retI X34 hx hlk hret (hb hby d1_234) (Nat.zero_le _) (Nat.zero_le _) ?_
                            try rw [e34]
                            have hwf : wf (uu bs) I (to.toInt - I) = 0 := by
                              have := rng8 (bs.getD I 0)
                              have := rng8 (bs.getD (I + 1) 0)
                              have := rng8 (bs.getD (I + 2) 0)
                              have := rng8 (bs.getD (I + 3) 0)
                              have := (by decide : (4 : Int32).toInt = 4)
                              have := (by decide : (128 : Int32).toInt = 128)
                              have := (by decide : (191 : Int32).toInt = 191)
                              have := (by decide : (194 : Int32).toInt = 194)
                              have := (by decide : (223 : Int32).toInt = 223)
                              have := (by decide : (239 : Int32).toInt = 239)
                              have := (by decide : (240 : Int32).toInt = 240)
                              have := (by decide : (244 : Int32).toInt = 244)
                              have := (by decide : (255 : Int32).toInt = 255)
                              have := c_isub to i
                              have := rng32 (to - i)
                              have := mt Int32.lt_iff_toInt_lt.mpr c21_2
                              have := mt Int32.lt_iff_toInt_lt.mpr c45_3
                              have := Int32.lt_iff_toInt_lt.mp c53_6
                              have := Int32.lt_iff_toInt_lt.mp c75_8
                              have := mt Int32.lt_iff_toInt_lt.mpr c133_10
                              have := mt Int32.toInt_inj.mp c144_11
                              have := mt Int32.toInt_inj.mp c162_20
                              have := mt Int32.lt_iff_toInt_lt.mpr c185_28
                              have := mt Int32.lt_iff_toInt_lt.mpr u30_2_0
                              have := mt Int32.lt_iff_toInt_lt.mpr u30_2_1
                              have := mt Int32.lt_iff_toInt_lt.mpr u32_2_0
                              have := mt Int32.lt_iff_toInt_lt.mpr u32_2_1
                              have := Int32.lt_iff_toInt_lt.mp u34_0_0
                              simp only [wf, uu]
                              repeat' split
                              all_goals omega
                            exact ⟨_, rfl, by rw [fmal_bad hlt hwf]; exact hiI, rfl, rfl⟩
                          · -- (0 : Int32)
                            subst w34
                            show Go p e below _ T34 (mkF m 230 #[.val (.ref a), .val (.int fr), .val (.int to), .val (.int i), .val (.int ((bs.getD I 0) &&& (255 : Int32))), .val (.int (4 : Int32)), .val (.int (128 : Int32)), .val (.int (191 : Int32)), .val (.int (3 : Int32))] [(.int (0 : Int32))])
                            refine Go.s_ifNo X34 hx (hb hby d1_230) (q := 233) rfl ((if0 _ _).trans (teq (by decide : (0 : Int32) = (0 : Int32))).2) ?_
                            refine Go.s_iloadN X34 hx (hb hby d1_233) (q := 234) rfl rfl ?_
                            refine Go.retI X34 hx hlk hret (hb hby d1_234) (Nat.zero_le _) (Nat.zero_le _) ?_
                            try rw [e34]
                            have hwf : wf (uu bs) I (to.toInt - I) = 0 := by
                              have := rng8 (bs.getD I 0)
                              have := rng8 (bs.getD (I + 1) 0)
                              have := rng8 (bs.getD (I + 2) 0)
                              have := rng8 (bs.getD (I + 3) 0)
                              have := (by decide : (4 : Int32).toInt = 4)
                              have := (by decide : (128 : Int32).toInt = 128)
                              have := (by decide : (191 : Int32).toInt = 191)
                              have := (by decide : (194 : Int32).toInt = 194)
                              have := (by decide : (223 : Int32).toInt = 223)
                              have := (by decide : (239 : Int32).toInt = 239)
                              have := (by decide : (240 : Int32).toInt = 240)
                              have := (by decide : (244 : Int32).toInt = 244)
                              have := (by decide : (255 : Int32).toInt = 255)
                              have := c_isub to i
                              have := rng32 (to - i)
                              have := mt Int32.lt_iff_toInt_lt.mpr c21_2
                              have := mt Int32.lt_iff_toInt_lt.mpr c45_3
                              have := Int32.lt_iff_toInt_lt.mp c53_6
                              have := Int32.lt_iff_toInt_lt.mp c75_8
                              have := mt Int32.lt_iff_toInt_lt.mpr c133_10
                              have := mt Int32.toInt_inj.mp c144_11
                              have := mt Int32.toInt_inj.mp c162_20
                              have := mt Int32.lt_iff_toInt_lt.mpr c185_28
                              have := mt Int32.lt_iff_toInt_lt.mpr u30_2_0
                              have := mt Int32.lt_iff_toInt_lt.mpr u30_2_1
                              have := mt Int32.lt_iff_toInt_lt.mpr u32_2_0
                              have := mt Int32.lt_iff_toInt_lt.mpr u32_2_1
                              have := mt Int32.lt_iff_toInt_lt.mpr u34_1_0
                              have := Int32.lt_iff_toInt_lt.mp u34_1_1
                              simp only [wf, uu]
                              repeat' split
                              all_goals omega
                            exact ⟨_, rfl, by rw [fmal_bad hlt hwf]; exact hiI, rfl, rfl⟩
                          · -- (1 : Int32)
                            subst w34
                            show Go p e below _ T34 (mkF m 230 #[.val (.ref a), .val (.int fr), .val (.int to), .val (.int i), .val (.int ((bs.getD I 0) &&& (255 : Int32))), .val (.int (4 : Int32)), .val (.int (128 : Int32)), .val (.int (191 : Int32)), .val (.int (3 : Int32))] [(.int (1 : Int32))])
                            refine Go.s_ifYes X34 hx (hb hby d1_230) (q := 235) (by decide) (by decide) ((if0 _ _).trans (feq (by decide : ¬ ((1 : Int32) = (0 : Int32)))).2) ?_
                            refine Go.s_iinc X34 hx (hb hby d1_235) (q := 238) rfl rfl (l' := #[.val (.ref a), .val (.int fr), .val (.int to), .val (.int i), .val (.int ((bs.getD I 0) &&& (255 : Int32))), .val (.int (4 : Int32)), .val (.int (128 : Int32)), .val (.int (191 : Int32)), .val (.int ((3 : Int32) + (1 : Int32)))]) rfl ?_
                            rw [(by decide : ((3 : Int32) + (1 : Int32)) = (4 : Int32))]
                            refine Go.s_goto X34 hx (hb hby d1_238) (q := 208) (by decide) (by decide) ?_
                            refine Go.s_iload X34 hx (hb hby d1_208) (q := 210) rfl rfl ?_
                            refine Go.s_iload X34 hx (hb hby d1_210) (q := 212) rfl rfl ?_
                            refine Go.s_icmpYes X34 hx (hb hby d1_212) (q := 241) (by decide) (by decide) (flt (by decide : ¬ ((4 : Int32) < (4 : Int32)))).2.1 ?_
                            refine Go.s_iloadN X34 hx (hb hby d1_241) (q := 242) rfl rfl ?_
                            refine Go.s_iload X34 hx (hb hby d1_242) (q := 244) rfl rfl ?_
                            refine Go.s_iadd X34 hx (hb hby d1_244) (q := 245) rfl ?_
                            refine Go.s_istoreN X34 hx (hb hby d1_245) (q := 246) rfl (l' := #[.val (.ref a), .val (.int fr), .val (.int to), .val (.int (i + (4 : Int32))), .val (.int ((bs.getD I 0) &&& (255 : Int32))), .val (.int (4 : Int32)), .val (.int (128 : Int32)), .val (.int (191 : Int32)), .val (.int (4 : Int32))]) rfl ?_
                            refine Go.s_goto X34 hx (hb hby d1_246) (q := 2) (by decide) (by decide) ?_
                            have hwf : wf (uu bs) I (to.toInt - I) = 4 := by
                              have := rng8 (bs.getD I 0)
                              have := rng8 (bs.getD (I + 1) 0)
                              have := rng8 (bs.getD (I + 2) 0)
                              have := rng8 (bs.getD (I + 3) 0)
                              have := (by decide : (4 : Int32).toInt = 4)
                              have := (by decide : (128 : Int32).toInt = 128)
                              have := (by decide : (191 : Int32).toInt = 191)
                              have := (by decide : (194 : Int32).toInt = 194)
                              have := (by decide : (223 : Int32).toInt = 223)
                              have := (by decide : (239 : Int32).toInt = 239)
                              have := (by decide : (240 : Int32).toInt = 240)
                              have := (by decide : (244 : Int32).toInt = 244)
                              have := (by decide : (255 : Int32).toInt = 255)
                              have := c_isub to i
                              have := rng32 (to - i)
                              have := mt Int32.lt_iff_toInt_lt.mpr c21_2
                              have := mt Int32.lt_iff_toInt_lt.mpr c45_3
                              have := Int32.lt_iff_toInt_lt.mp c53_6
                              have := Int32.lt_iff_toInt_lt.mp c75_8
                              have := mt Int32.lt_iff_toInt_lt.mpr c133_10
                              have := mt Int32.toInt_inj.mp c144_11
                              have := mt Int32.toInt_inj.mp c162_20
                              have := mt Int32.lt_iff_toInt_lt.mpr c185_28
                              have := mt Int32.lt_iff_toInt_lt.mpr u30_2_0
                              have := mt Int32.lt_iff_toInt_lt.mpr u30_2_1
                              have := mt Int32.lt_iff_toInt_lt.mpr u32_2_0
                              have := mt Int32.lt_iff_toInt_lt.mpr u32_2_1
                              have := mt Int32.lt_iff_toInt_lt.mpr u34_2_0
                              have := mt Int32.lt_iff_toInt_lt.mpr u34_2_1
                              simp only [wf, uu]
                              repeat' split
                              all_goals omega
                            have hix := ix2 (k := (4 : Int32)) (K := 4) hiI (by decide) (by omega)
                            have hst : fmal (uu bs) to.toInt (n + 1) I = fmal (uu bs) to.toInt n (I + 4) := fmal_step hlt hwf (by decide)
                            rw [hst]
                            exact ih X34 e34 _ _ _ _ _ _ _ hix (by omega) (One.val rfl) (One.val rfl) (One.val rfl) (One.val rfl) (One.val rfl)
            · -- pc 75: not (239 : Int32) < ((bs.getD I 0) &&& (255 : Int32))
              refine Go.s_icmpNo X0 hx (hb hby d1_75) (q := 78) rfl (flt c75_8).2.2.1 ?_
              refine Go.s_iconst X0 hx (hb hby d1_78) (q := 79) rfl (z := 3) rfl ?_
              refine Go.s_istoreS X0 hx (hb hby d1_79) (q := 81) rfl (o := s5) rfl hs5 (l' := #[.val (.ref a), .val (.int fr), .val (.int to), .val (.int i), .val (.int ((bs.getD I 0) &&& (255 : Int32))), .val (.int (3 : Int32)), .val (.int (128 : Int32)), .val (.int (191 : Int32)), s8]) rfl ?_
              refine Go.s_iload X0 hx (hb hby d1_81) (q := 83) rfl rfl ?_
              refine Go.s_sipush X0 hx (hb hby d1_83) (q := 86) rfl (z := 224) rfl ?_
              by_cases c86_35 : ((bs.getD I 0) &&& (255 : Int32)) = (224 : Int32)
              · -- pc 86: ((bs.getD I 0) &&& (255 : Int32)) = (224 : Int32)
                refine Go.s_icmpNo X0 hx (hb hby d1_86) (q := 89) rfl (teq c86_35).2 ?_
                refine Go.s_sipush X0 hx (hb hby d1_89) (q := 92) rfl (z := 160) rfl ?_
                refine Go.s_goto X0 hx (hb hby d1_92) (q := 97) (by decide) (by decide) ?_
                refine Go.s_istore X0 hx (hb hby d1_97) (q := 99) rfl (l' := #[.val (.ref a), .val (.int fr), .val (.int to), .val (.int i), .val (.int ((bs.getD I 0) &&& (255 : Int32))), .val (.int (3 : Int32)), .val (.int (160 : Int32)), .val (.int (191 : Int32)), s8]) rfl ?_
                refine Go.s_iload X0 hx (hb hby d1_99) (q := 101) rfl rfl ?_
                refine Go.s_sipush X0 hx (hb hby d1_101) (q := 104) rfl (z := 237) rfl ?_
                have i104_36 : ¬ (((bs.getD I 0) &&& (255 : Int32)) = (237 : Int32)) := by
                  intro qq
                  have := mt Int32.lt_iff_toInt_lt.mpr c21_2
                  have := mt Int32.lt_iff_toInt_lt.mpr c45_3
                  have := Int32.lt_iff_toInt_lt.mp c53_6
                  have := mt Int32.lt_iff_toInt_lt.mpr i67_7
                  have := mt Int32.lt_iff_toInt_lt.mpr c75_8
                  have := congrArg Int32.toInt c86_35
                  have := (by decide : (128 : Int32).toInt = 128)
                  have := (by decide : (194 : Int32).toInt = 194)
                  have := (by decide : (223 : Int32).toInt = 223)
                  have := (by decide : (224 : Int32).toInt = 224)
                  have := (by decide : (237 : Int32).toInt = 237)
                  have := (by decide : (239 : Int32).toInt = 239)
                  have := congrArg Int32.toInt qq
                  omega
                refine Go.s_icmpYes X0 hx (hb hby d1_104) (q := 113) (by decide) (by decide) (feq i104_36).2 ?_
                refine Go.s_iload X0 hx (hb hby d1_113) (q := 115) rfl rfl ?_
                refine Go.s_istore X0 hx (hb hby d1_115) (q := 117) rfl (l' := #[.val (.ref a), .val (.int fr), .val (.int to), .val (.int i), .val (.int ((bs.getD I 0) &&& (255 : Int32))), .val (.int (3 : Int32)), .val (.int (160 : Int32)), .val (.int (191 : Int32)), s8]) rfl ?_
                refine Go.s_goto X0 hx (hb hby d1_117) (q := 180) (by decide) (by decide) ?_
                refine Go.s_iloadN X0 hx (hb hby d1_180) (q := 181) rfl rfl ?_
                refine Go.s_iloadN X0 hx (hb hby d1_181) (q := 182) rfl rfl ?_
                refine Go.s_isub X0 hx (hb hby d1_182) (q := 183) rfl ?_
                refine Go.s_iload X0 hx (hb hby d1_183) (q := 185) rfl rfl ?_
                by_cases c185_37 : (to - i) < (3 : Int32)
                · -- pc 185: (to - i) < (3 : Int32)
                  refine Go.s_icmpYes X0 hx (hb hby d1_185) (q := 203) (by decide) (by decide) (tlt c185_37).1 ?_
                  refine Go.s_iloadN X0 hx (hb hby d1_203) (q := 204) rfl rfl ?_
                  refine Go.retI X0 hx hlk hret (hb hby d1_204) (Nat.zero_le _) (Nat.zero_le _) ?_
                  try rw [e0]
                  have hwf : wf (uu bs) I (to.toInt - I) = 0 := by
                    have := rng8 (bs.getD I 0)
                    have := (by decide : (3 : Int32).toInt = 3)
                    have := (by decide : (128 : Int32).toInt = 128)
                    have := (by decide : (194 : Int32).toInt = 194)
                    have := (by decide : (223 : Int32).toInt = 223)
                    have := (by decide : (224 : Int32).toInt = 224)
                    have := (by decide : (239 : Int32).toInt = 239)
                    have := (by decide : (255 : Int32).toInt = 255)
                    have := c_isub to i
                    have := rng32 (to - i)
                    have := mt Int32.lt_iff_toInt_lt.mpr c21_2
                    have := mt Int32.lt_iff_toInt_lt.mpr c45_3
                    have := Int32.lt_iff_toInt_lt.mp c53_6
                    have := mt Int32.lt_iff_toInt_lt.mpr c75_8
                    have := congrArg Int32.toInt c86_35
                    have := Int32.lt_iff_toInt_lt.mp c185_37
                    simp only [wf, uu]
                    repeat' split
                    all_goals omega
                  exact ⟨_, rfl, by rw [fmal_bad hlt hwf]; exact hiI, rfl, rfl⟩
                · -- pc 185: not (to - i) < (3 : Int32)
                  refine Go.s_icmpNo X0 hx (hb hby d1_185) (q := 188) rfl (flt c185_37).1 ?_
                  have nb := avail hiI hlt hto c185_37 (by decide)
                  have kk2 : (2 : Int32).toInt = 2 := by decide
                  have kk3 : (3 : Int32).toInt = 3 := by decide
                  have kk4 : (4 : Int32).toInt = 4 := by decide
                  refine Go.s_aloadN X0 hx (hb hby d1_188) (q := 189) rfl rfl rfl ?_
                  refine Go.s_iloadN X0 hx (hb hby d1_189) (q := 190) rfl rfl ?_
                  refine Go.s_iconst X0 hx (hb hby d1_190) (q := 191) rfl (z := 1) rfl ?_
                  refine Go.s_iadd X0 hx (hb hby d1_191) (q := 192) rfl ?_
                  obtain ⟨hj38, hn38⟩ := ix (k := (1 : Int32)) (K := 1) hiI (by decide) (by omega)
                  refine Go.ldB X0 hx hZ e0 V_a hj38 (w := (.int (bs.getD (I + 1) 0))) (by rw [hn38]; exact getD_mapI bs _) (hb hby d1_192) ?_
                  show Go p e below _ T0 (mkF m 193 #[.val (.ref a), .val (.int fr), .val (.int to), .val (.int i), .val (.int ((bs.getD I 0) &&& (255 : Int32))), .val (.int (3 : Int32)), .val (.int (160 : Int32)), .val (.int (191 : Int32)), s8] [(.int (bs.getD (I + 1) 0))])
                  refine Go.s_iload X0 hx (hb hby d1_193) (q := 195) rfl rfl ?_
                  refine Go.s_iload X0 hx (hb hby d1_195) (q := 197) rfl rfl ?_
                  refine Go.callS (y := mn_4) X0 hx hZ hown (w_ hw 13 rfl) (w_ hw 14 rfl) (w_ hw 4 rfl) (w_ hw 15 rfl) (by decide) e0 (argsL := [(.int (bs.getD (I + 1) 0)), (.int (160 : Int32)), (.int (191 : Int32))]) (rest := []) (rm_ib l Z a0 hw (bs.getD (I + 1) 0) (160 : Int32) (191 : Int32) _) (by rw [hml]; rfl) (lenOf pd_0 rfl) rfl (hb hby d1_197) hRf (Nat.le_trans (Nat.le_of_ble_eq_true rfl) hRl) (Nat.zero_le _) (Nat.zero_le _) ?_
                  intro r39 T39 L39 q39 X39
                  obtain ⟨w39, rfl, p39, rfl, e39⟩ := q39
                  rw [List.append_nil] at X39
                  rcases p39 with ⟨u39_0_0, z39⟩ | ⟨u39_1_0, u39_1_1, z39⟩ | ⟨u39_2_0, u39_2_1, z39⟩
                  · -- (0 : Int32)
                    subst w39
                    show Go p e below _ T39 (mkF m 200 #[.val (.ref a), .val (.int fr), .val (.int to), .val (.int i), .val (.int ((bs.getD I 0) &&& (255 : Int32))), .val (.int (3 : Int32)), .val (.int (160 : Int32)), .val (.int (191 : Int32)), s8] [(.int (0 : Int32))])
                    refine Go.s_ifNo X39 hx (hb hby d1_200) (q := 203) rfl ((if0 _ _).trans (teq (by decide : (0 : Int32) = (0 : Int32))).2) ?_
                    refine Go.s_iloadN X39 hx (hb hby d1_203) (q := 204) rfl rfl ?_
                    refine Go.retI X39 hx hlk hret (hb hby d1_204) (Nat.zero_le _) (Nat.zero_le _) ?_
                    try rw [e39]
                    have hwf : wf (uu bs) I (to.toInt - I) = 0 := by
                      have := rng8 (bs.getD I 0)
                      have := rng8 (bs.getD (I + 1) 0)
                      have := (by decide : (3 : Int32).toInt = 3)
                      have := (by decide : (128 : Int32).toInt = 128)
                      have := (by decide : (160 : Int32).toInt = 160)
                      have := (by decide : (194 : Int32).toInt = 194)
                      have := (by decide : (223 : Int32).toInt = 223)
                      have := (by decide : (224 : Int32).toInt = 224)
                      have := (by decide : (239 : Int32).toInt = 239)
                      have := (by decide : (255 : Int32).toInt = 255)
                      have := c_isub to i
                      have := rng32 (to - i)
                      have := mt Int32.lt_iff_toInt_lt.mpr c21_2
                      have := mt Int32.lt_iff_toInt_lt.mpr c45_3
                      have := Int32.lt_iff_toInt_lt.mp c53_6
                      have := mt Int32.lt_iff_toInt_lt.mpr c75_8
                      have := congrArg Int32.toInt c86_35
                      have := mt Int32.lt_iff_toInt_lt.mpr c185_37
                      have := Int32.lt_iff_toInt_lt.mp u39_0_0
                      simp only [wf, uu]
                      repeat' split
                      all_goals omega
                    exact ⟨_, rfl, by rw [fmal_bad hlt hwf]; exact hiI, rfl, rfl⟩
                  · -- (0 : Int32)
                    subst w39
                    show Go p e below _ T39 (mkF m 200 #[.val (.ref a), .val (.int fr), .val (.int to), .val (.int i), .val (.int ((bs.getD I 0) &&& (255 : Int32))), .val (.int (3 : Int32)), .val (.int (160 : Int32)), .val (.int (191 : Int32)), s8] [(.int (0 : Int32))])
                    refine Go.s_ifNo X39 hx (hb hby d1_200) (q := 203) rfl ((if0 _ _).trans (teq (by decide : (0 : Int32) = (0 : Int32))).2) ?_
                    refine Go.s_iloadN X39 hx (hb hby d1_203) (q := 204) rfl rfl ?_
                    refine Go.retI X39 hx hlk hret (hb hby d1_204) (Nat.zero_le _) (Nat.zero_le _) ?_
                    try rw [e39]
                    have hwf : wf (uu bs) I (to.toInt - I) = 0 := by
                      have := rng8 (bs.getD I 0)
                      have := rng8 (bs.getD (I + 1) 0)
                      have := (by decide : (3 : Int32).toInt = 3)
                      have := (by decide : (128 : Int32).toInt = 128)
                      have := (by decide : (160 : Int32).toInt = 160)
                      have := (by decide : (191 : Int32).toInt = 191)
                      have := (by decide : (194 : Int32).toInt = 194)
                      have := (by decide : (223 : Int32).toInt = 223)
                      have := (by decide : (224 : Int32).toInt = 224)
                      have := (by decide : (239 : Int32).toInt = 239)
                      have := (by decide : (255 : Int32).toInt = 255)
                      have := c_isub to i
                      have := rng32 (to - i)
                      have := mt Int32.lt_iff_toInt_lt.mpr c21_2
                      have := mt Int32.lt_iff_toInt_lt.mpr c45_3
                      have := Int32.lt_iff_toInt_lt.mp c53_6
                      have := mt Int32.lt_iff_toInt_lt.mpr c75_8
                      have := congrArg Int32.toInt c86_35
                      have := mt Int32.lt_iff_toInt_lt.mpr c185_37
                      have := mt Int32.lt_iff_toInt_lt.mpr u39_1_0
                      have := Int32.lt_iff_toInt_lt.mp u39_1_1
                      simp only [wf, uu]
                      repeat' split
                      all_goals omega
                    exact ⟨_, rfl, by rw [fmal_bad hlt hwf]; exact hiI, rfl, rfl⟩
                  · -- (1 : Int32)
                    subst w39
                    show Go p e below _ T39 (mkF m 200 #[.val (.ref a), .val (.int fr), .val (.int to), .val (.int i), .val (.int ((bs.getD I 0) &&& (255 : Int32))), .val (.int (3 : Int32)), .val (.int (160 : Int32)), .val (.int (191 : Int32)), s8] [(.int (1 : Int32))])
                    refine Go.s_ifYes X39 hx (hb hby d1_200) (q := 205) (by decide) (by decide) ((if0 _ _).trans (feq (by decide : ¬ ((1 : Int32) = (0 : Int32)))).2) ?_
                    refine Go.s_iconst X39 hx (hb hby d1_205) (q := 206) rfl (z := 2) rfl ?_
                    refine Go.s_istoreS X39 hx (hb hby d1_206) (q := 208) rfl (o := s8) rfl hs8 (l' := #[.val (.ref a), .val (.int fr), .val (.int to), .val (.int i), .val (.int ((bs.getD I 0) &&& (255 : Int32))), .val (.int (3 : Int32)), .val (.int (160 : Int32)), .val (.int (191 : Int32)), .val (.int (2 : Int32))]) rfl ?_
                    refine Go.s_iload X39 hx (hb hby d1_208) (q := 210) rfl rfl ?_
                    refine Go.s_iload X39 hx (hb hby d1_210) (q := 212) rfl rfl ?_
                    refine Go.s_icmpNo X39 hx (hb hby d1_212) (q := 215) rfl (tlt (by decide : (2 : Int32) < (3 : Int32))).2.1 ?_
                    refine Go.s_aloadN X39 hx (hb hby d1_215) (q := 216) rfl rfl rfl ?_
                    refine Go.s_iloadN X39 hx (hb hby d1_216) (q := 217) rfl rfl ?_
                    refine Go.s_iload X39 hx (hb hby d1_217) (q := 219) rfl rfl ?_
                    refine Go.s_iadd X39 hx (hb hby d1_219) (q := 220) rfl ?_
                    obtain ⟨hj40, hn40⟩ := ix (k := (2 : Int32)) (K := 2) hiI (by decide) (by omega)
                    refine Go.ldB X39 hx hZ e39 V_a hj40 (w := (.int (bs.getD (I + 2) 0))) (by rw [hn40]; exact getD_mapI bs _) (hb hby d1_220) ?_
                    show Go p e below _ T39 (mkF m 221 #[.val (.ref a), .val (.int fr), .val (.int to), .val (.int i), .val (.int ((bs.getD I 0) &&& (255 : Int32))), .val (.int (3 : Int32)), .val (.int (160 : Int32)), .val (.int (191 : Int32)), .val (.int (2 : Int32))] [(.int (bs.getD (I + 2) 0))])
                    refine Go.s_sipush X39 hx (hb hby d1_221) (q := 224) rfl (z := 128) rfl ?_
                    refine Go.s_sipush X39 hx (hb hby d1_224) (q := 227) rfl (z := 191) rfl ?_
                    refine Go.callS (y := mn_4) X39 hx hZ hown (w_ hw 13 rfl) (w_ hw 14 rfl) (w_ hw 4 rfl) (w_ hw 15 rfl) (by decide) e39 (argsL := [(.int (bs.getD (I + 2) 0)), (.int (128 : Int32)), (.int (191 : Int32))]) (rest := []) (rm_ib l Z a0 hw (bs.getD (I + 2) 0) (128 : Int32) (191 : Int32) _) (by rw [hml]; rfl) (lenOf pd_0 rfl) rfl (hb hby d1_227) hRf (Nat.le_trans (Nat.le_of_ble_eq_true rfl) hRl) (Nat.zero_le _) (Nat.zero_le _) ?_
                    intro r41 T41 L41 q41 X41
                    obtain ⟨w41, rfl, p41, rfl, e41⟩ := q41
                    rw [List.append_nil] at X41
                    rcases p41 with ⟨u41_0_0, z41⟩ | ⟨u41_1_0, u41_1_1, z41⟩ | ⟨u41_2_0, u41_2_1, z41⟩
                    · -- (0 : Int32)
                      subst w41
                      show Go p e below _ T41 (mkF m 230 #[.val (.ref a), .val (.int fr), .val (.int to), .val (.int i), .val (.int ((bs.getD I 0) &&& (255 : Int32))), .val (.int (3 : Int32)), .val (.int (160 : Int32)), .val (.int (191 : Int32)), .val (.int (2 : Int32))] [(.int (0 : Int32))])
                      refine Go.s_ifNo X41 hx (hb hby d1_230) (q := 233) rfl ((if0 _ _).trans (teq (by decide : (0 : Int32) = (0 : Int32))).2) ?_
                      refine Go.s_iloadN X41 hx (hb hby d1_233) (q := 234) rfl rfl ?_
                      refine Go.retI X41 hx hlk hret (hb hby d1_234) (Nat.zero_le _) (Nat.zero_le _) ?_
                      try rw [e41]
                      have hwf : wf (uu bs) I (to.toInt - I) = 0 := by
                        have := rng8 (bs.getD I 0)
                        have := rng8 (bs.getD (I + 1) 0)
                        have := rng8 (bs.getD (I + 2) 0)
                        have := (by decide : (3 : Int32).toInt = 3)
                        have := (by decide : (128 : Int32).toInt = 128)
                        have := (by decide : (160 : Int32).toInt = 160)
                        have := (by decide : (191 : Int32).toInt = 191)
                        have := (by decide : (194 : Int32).toInt = 194)
                        have := (by decide : (223 : Int32).toInt = 223)
                        have := (by decide : (224 : Int32).toInt = 224)
                        have := (by decide : (239 : Int32).toInt = 239)
                        have := (by decide : (255 : Int32).toInt = 255)
                        have := c_isub to i
                        have := rng32 (to - i)
                        have := mt Int32.lt_iff_toInt_lt.mpr c21_2
                        have := mt Int32.lt_iff_toInt_lt.mpr c45_3
                        have := Int32.lt_iff_toInt_lt.mp c53_6
                        have := mt Int32.lt_iff_toInt_lt.mpr c75_8
                        have := congrArg Int32.toInt c86_35
                        have := mt Int32.lt_iff_toInt_lt.mpr c185_37
                        have := mt Int32.lt_iff_toInt_lt.mpr u39_2_0
                        have := mt Int32.lt_iff_toInt_lt.mpr u39_2_1
                        have := Int32.lt_iff_toInt_lt.mp u41_0_0
                        simp only [wf, uu]
                        repeat' split
                        all_goals omega
                      exact ⟨_, rfl, by rw [fmal_bad hlt hwf]; exact hiI, rfl, rfl⟩
                    · -- (0 : Int32)
                      subst w41
                      show Go p e below _ T41 (mkF m 230 #[.val (.ref a), .val (.int fr), .val (.int to), .val (.int i), .val (.int ((bs.getD I 0) &&& (255 : Int32))), .val (.int (3 : Int32)), .val (.int (160 : Int32)), .val (.int (191 : Int32)), .val (.int (2 : Int32))] [(.int (0 : Int32))])
                      refine Go.s_ifNo X41 hx (hb hby d1_230) (q := 233) rfl ((if0 _ _).trans (teq (by decide : (0 : Int32) = (0 : Int32))).2) ?_
                      refine Go.s_iloadN X41 hx (hb hby d1_233) (q := 234) rfl rfl ?_
                      refine Go.retI X41 hx hlk hret (hb hby d1_234) (Nat.zero_le _) (Nat.zero_le _) ?_
                      try rw [e41]
                      have hwf : wf (uu bs) I (to.toInt - I) = 0 := by
                        have := rng8 (bs.getD I 0)
                        have := rng8 (bs.getD (I + 1) 0)
                        have := rng8 (bs.getD (I + 2) 0)
                        have := (by decide : (3 : Int32).toInt = 3)
                        have := (by decide : (128 : Int32).toInt = 128)
                        have := (by decide : (160 : Int32).toInt = 160)
                        have := (by decide : (191 : Int32).toInt = 191)
                        have := (by decide : (194 : Int32).toInt = 194)
                        have := (by decide : (223 : Int32).toInt = 223)
                        have := (by decide : (224 : Int32).toInt = 224)
                        have := (by decide : (239 : Int32).toInt = 239)
                        have := (by decide : (255 : Int32).toInt = 255)
                        have := c_isub to i
                        have := rng32 (to - i)
                        have := mt Int32.lt_iff_toInt_lt.mpr c21_2
                        have := mt Int32.lt_iff_toInt_lt.mpr c45_3
                        have := Int32.lt_iff_toInt_lt.mp c53_6
                        have := mt Int32.lt_iff_toInt_lt.mpr c75_8
                        have := congrArg Int32.toInt c86_35
                        have := mt Int32.lt_iff_toInt_lt.mpr c185_37
                        have := mt Int32.lt_iff_toInt_lt.mpr u39_2_0
                        have := mt Int32.lt_iff_toInt_lt.mpr u39_2_1
                        have := mt Int32.lt_iff_toInt_lt.mpr u41_1_0
                        have := Int32.lt_iff_toInt_lt.mp u41_1_1
                        simp only [wf, uu]
                        repeat' split
                        all_goals omega
                      exact ⟨_, rfl, by rw [fmal_bad hlt hwf]; exact hiI, rfl, rfl⟩
                    · -- (1 : Int32)
                      subst w41
                      show Go p e below _ T41 (mkF m 230 #[.val (.ref a), .val (.int fr), .val (.int to), .val (.int i), .val (.int ((bs.getD I 0) &&& (255 : Int32))), .val (.int (3 : Int32)), .val (.int (160 : Int32)), .val (.int (191 : Int32)), .val (.int (2 : Int32))] [(.int (1 : Int32))])
                      refine Go.s_ifYes X41 hx (hb hby d1_230) (q := 235) (by decide) (by decide) ((if0 _ _).trans (feq (by decide : ¬ ((1 : Int32) = (0 : Int32)))).2) ?_
                      refine Go.s_iinc X41 hx (hb hby d1_235) (q := 238) rfl rfl (l' := #[.val (.ref a), .val (.int fr), .val (.int to), .val (.int i), .val (.int ((bs.getD I 0) &&& (255 : Int32))), .val (.int (3 : Int32)), .val (.int (160 : Int32)), .val (.int (191 : Int32)), .val (.int ((2 : Int32) + (1 : Int32)))]) rfl ?_
                      rw [(by decide : ((2 : Int32) + (1 : Int32)) = (3 : Int32))]
                      refine Go.s_goto X41 hx (hb hby d1_238) (q := 208) (by decide) (by decide) ?_
                      refine Go.s_iload X41 hx (hb hby d1_208) (q := 210) rfl rfl ?_
                      refine Go.s_iload X41 hx (hb hby d1_210) (q := 212) rfl rfl ?_
                      refine Go.s_icmpYes X41 hx (hb hby d1_212) (q := 241) (by decide) (by decide) (flt (by decide : ¬ ((3 : Int32) < (3 : Int32)))).2.1 ?_
                      refine Go.s_iloadN X41 hx (hb hby d1_241) (q := 242) rfl rfl ?_
                      refine Go.s_iload X41 hx (hb hby d1_242) (q := 244) rfl rfl ?_
                      refine Go.s_iadd X41 hx (hb hby d1_244) (q := 245) rfl ?_
                      refine Go.s_istoreN X41 hx (hb hby d1_245) (q := 246) rfl (l' := #[.val (.ref a), .val (.int fr), .val (.int to), .val (.int (i + (3 : Int32))), .val (.int ((bs.getD I 0) &&& (255 : Int32))), .val (.int (3 : Int32)), .val (.int (160 : Int32)), .val (.int (191 : Int32)), .val (.int (3 : Int32))]) rfl ?_
                      refine Go.s_goto X41 hx (hb hby d1_246) (q := 2) (by decide) (by decide) ?_
                      have hwf : wf (uu bs) I (to.toInt - I) = 3 := by
                        have := rng8 (bs.getD I 0)
                        have := rng8 (bs.getD (I + 1) 0)
                        have := rng8 (bs.getD (I + 2) 0)
                        have := (by decide : (3 : Int32).toInt = 3)
                        have := (by decide : (128 : Int32).toInt = 128)
                        have := (by decide : (160 : Int32).toInt = 160)
                        have := (by decide : (191 : Int32).toInt = 191)
                        have := (by decide : (194 : Int32).toInt = 194)
                        have := (by decide : (223 : Int32).toInt = 223)
                        have := (by decide : (224 : Int32).toInt = 224)
                        have := (by decide : (239 : Int32).toInt = 239)
                        have := (by decide : (255 : Int32).toInt = 255)
                        have := c_isub to i
                        have := rng32 (to - i)
                        have := mt Int32.lt_iff_toInt_lt.mpr c21_2
                        have := mt Int32.lt_iff_toInt_lt.mpr c45_3
                        have := Int32.lt_iff_toInt_lt.mp c53_6
                        have := mt Int32.lt_iff_toInt_lt.mpr c75_8
                        have := congrArg Int32.toInt c86_35
                        have := mt Int32.lt_iff_toInt_lt.mpr c185_37
                        have := mt Int32.lt_iff_toInt_lt.mpr u39_2_0
                        have := mt Int32.lt_iff_toInt_lt.mpr u39_2_1
                        have := mt Int32.lt_iff_toInt_lt.mpr u41_2_0
                        have := mt Int32.lt_iff_toInt_lt.mpr u41_2_1
                        simp only [wf, uu]
                        repeat' split
                        all_goals omega
                      have hix := ix2 (k := (3 : Int32)) (K := 3) hiI (by decide) (by omega)
                      have hst : fmal (uu bs) to.toInt (n + 1) I = fmal (uu bs) to.toInt n (I + 3) := fmal_step hlt hwf (by decide)
                      rw [hst]
                      exact ih X41 e41 _ _ _ _ _ _ _ hix (by omega) (One.val rfl) (One.val rfl) (One.val rfl) (One.val rfl) (One.val rfl)
              · -- pc 86: not ((bs.getD I 0) &&& (255 : Int32)) = (224 : Int32)
                refine Go.s_icmpYes X0 hx (hb hby d1_86) (q := 95) (by decide) (by decide) (feq c86_35).2 ?_
                refine Go.s_iload X0 hx (hb hby d1_95) (q := 97) rfl rfl ?_
                refine Go.s_istore X0 hx (hb hby d1_97) (q := 99) rfl (l' := #[.val (.ref a), .val (.int fr), .val (.int to), .val (.int i), .val (.int ((bs.getD I 0) &&& (255 : Int32))), .val (.int (3 : Int32)), .val (.int (128 : Int32)), .val (.int (191 : Int32)), s8]) rfl ?_
                refine Go.s_iload X0 hx (hb hby d1_99) (q := 101) rfl rfl ?_
                refine Go.s_sipush X0 hx (hb hby d1_101) (q := 104) rfl (z := 237) rfl ?_
                by_cases c104_42 : ((bs.getD I 0) &&& (255 : Int32)) = (237 : Int32)
                · -- pc 104: ((bs.getD I 0) &&& (255 : Int32)) = (237 : Int32)
                  refine Go.s_icmpNo X0 hx (hb hby d1_104) (q := 107) rfl (teq c104_42).2 ?_
                  refine Go.s_sipush X0 hx (hb hby d1_107) (q := 110) rfl (z := 159) rfl ?_
                  refine Go.s_goto X0 hx (hb hby d1_110) (q := 115) (by decide) (by decide) ?_
                  refine Go.s_istore X0 hx (hb hby d1_115) (q := 117) rfl (l' := #[.val (.ref a), .val (.int fr), .val (.int to), .val (.int i), .val (.int ((bs.getD I 0) &&& (255 : Int32))), .val (.int (3 : Int32)), .val (.int (128 : Int32)), .val (.int (159 : Int32)), s8]) rfl ?_
                  refine Go.s_goto X0 hx (hb hby d1_117) (q := 180) (by decide) (by decide) ?_
                  refine Go.s_iloadN X0 hx (hb hby d1_180) (q := 181) rfl rfl ?_
                  refine Go.s_iloadN X0 hx (hb hby d1_181) (q := 182) rfl rfl ?_
                  refine Go.s_isub X0 hx (hb hby d1_182) (q := 183) rfl ?_
                  refine Go.s_iload X0 hx (hb hby d1_183) (q := 185) rfl rfl ?_
                  by_cases c185_43 : (to - i) < (3 : Int32)
                  · -- pc 185: (to - i) < (3 : Int32)
                    refine Go.s_icmpYes X0 hx (hb hby d1_185) (q := 203) (by decide) (by decide) (tlt c185_43).1 ?_
                    refine Go.s_iloadN X0 hx (hb hby d1_203) (q := 204) rfl rfl ?_
                    refine Go.retI X0 hx hlk hret (hb hby d1_204) (Nat.zero_le _) (Nat.zero_le _) ?_
                    try rw [e0]
                    have hwf : wf (uu bs) I (to.toInt - I) = 0 := by
                      have := rng8 (bs.getD I 0)
                      have := (by decide : (3 : Int32).toInt = 3)
                      have := (by decide : (128 : Int32).toInt = 128)
                      have := (by decide : (194 : Int32).toInt = 194)
                      have := (by decide : (223 : Int32).toInt = 223)
                      have := (by decide : (224 : Int32).toInt = 224)
                      have := (by decide : (237 : Int32).toInt = 237)
                      have := (by decide : (239 : Int32).toInt = 239)
                      have := (by decide : (255 : Int32).toInt = 255)
                      have := c_isub to i
                      have := rng32 (to - i)
                      have := mt Int32.lt_iff_toInt_lt.mpr c21_2
                      have := mt Int32.lt_iff_toInt_lt.mpr c45_3
                      have := Int32.lt_iff_toInt_lt.mp c53_6
                      have := mt Int32.lt_iff_toInt_lt.mpr c75_8
                      have := mt Int32.toInt_inj.mp c86_35
                      have := congrArg Int32.toInt c104_42
                      have := Int32.lt_iff_toInt_lt.mp c185_43
                      simp only [wf, uu]
                      repeat' split
                      all_goals omega
                    exact ⟨_, rfl, by rw [fmal_bad hlt hwf]; exact hiI, rfl, rfl⟩
                  · -- pc 185: not (to - i) < (3 : Int32)
                    refine Go.s_icmpNo X0 hx (hb hby d1_185) (q := 188) rfl (flt c185_43).1 ?_
                    have nb := avail hiI hlt hto c185_43 (by decide)
                    have kk2 : (2 : Int32).toInt = 2 := by decide
                    have kk3 : (3 : Int32).toInt = 3 := by decide
                    have kk4 : (4 : Int32).toInt = 4 := by decide
                    refine Go.s_aloadN X0 hx (hb hby d1_188) (q := 189) rfl rfl rfl ?_
                    refine Go.s_iloadN X0 hx (hb hby d1_189) (q := 190) rfl rfl ?_
                    refine Go.s_iconst X0 hx (hb hby d1_190) (q := 191) rfl (z := 1) rfl ?_
                    refine Go.s_iadd X0 hx (hb hby d1_191) (q := 192) rfl ?_
                    obtain ⟨hj44, hn44⟩ := ix (k := (1 : Int32)) (K := 1) hiI (by decide) (by omega)
                    refine Go.ldB X0 hx hZ e0 V_a hj44 (w := (.int (bs.getD (I + 1) 0))) (by rw [hn44]; exact getD_mapI bs _) (hb hby d1_192) ?_
                    show Go p e below _ T0 (mkF m 193 #[.val (.ref a), .val (.int fr), .val (.int to), .val (.int i), .val (.int ((bs.getD I 0) &&& (255 : Int32))), .val (.int (3 : Int32)), .val (.int (128 : Int32)), .val (.int (159 : Int32)), s8] [(.int (bs.getD (I + 1) 0))])
                    refine Go.s_iload X0 hx (hb hby d1_193) (q := 195) rfl rfl ?_
                    refine Go.s_iload X0 hx (hb hby d1_195) (q := 197) rfl rfl ?_
                    refine Go.callS (y := mn_4) X0 hx hZ hown (w_ hw 13 rfl) (w_ hw 14 rfl) (w_ hw 4 rfl) (w_ hw 15 rfl) (by decide) e0 (argsL := [(.int (bs.getD (I + 1) 0)), (.int (128 : Int32)), (.int (159 : Int32))]) (rest := []) (rm_ib l Z a0 hw (bs.getD (I + 1) 0) (128 : Int32) (159 : Int32) _) (by rw [hml]; rfl) (lenOf pd_0 rfl) rfl (hb hby d1_197) hRf (Nat.le_trans (Nat.le_of_ble_eq_true rfl) hRl) (Nat.zero_le _) (Nat.zero_le _) ?_
                    intro r45 T45 L45 q45 X45
                    obtain ⟨w45, rfl, p45, rfl, e45⟩ := q45
                    rw [List.append_nil] at X45
                    rcases p45 with ⟨u45_0_0, z45⟩ | ⟨u45_1_0, u45_1_1, z45⟩ | ⟨u45_2_0, u45_2_1, z45⟩
                    · -- (0 : Int32)
                      subst w45
                      show Go p e below _ T45 (mkF m 200 #[.val (.ref a), .val (.int fr), .val (.int to), .val (.int i), .val (.int ((bs.getD I 0) &&& (255 : Int32))), .val (.int (3 : Int32)), .val (.int (128 : Int32)), .val (.int (159 : Int32)), s8] [(.int (0 : Int32))])
                      refine Go.s_ifNo X45 hx (hb hby d1_200) (q := 203) rfl ((if0 _ _).trans (teq (by decide : (0 : Int32) = (0 : Int32))).2) ?_
                      refine Go.s_iloadN X45 hx (hb hby d1_203) (q := 204) rfl rfl ?_
                      refine Go.retI X45 hx hlk hret (hb hby d1_204) (Nat.zero_le _) (Nat.zero_le _) ?_
                      try rw [e45]
                      have hwf : wf (uu bs) I (to.toInt - I) = 0 := by
                        have := rng8 (bs.getD I 0)
                        have := rng8 (bs.getD (I + 1) 0)
                        have := (by decide : (3 : Int32).toInt = 3)
                        have := (by decide : (128 : Int32).toInt = 128)
                        have := (by decide : (194 : Int32).toInt = 194)
                        have := (by decide : (223 : Int32).toInt = 223)
                        have := (by decide : (224 : Int32).toInt = 224)
                        have := (by decide : (237 : Int32).toInt = 237)
                        have := (by decide : (239 : Int32).toInt = 239)
                        have := (by decide : (255 : Int32).toInt = 255)
                        have := c_isub to i
                        have := rng32 (to - i)
                        have := mt Int32.lt_iff_toInt_lt.mpr c21_2
                        have := mt Int32.lt_iff_toInt_lt.mpr c45_3
                        have := Int32.lt_iff_toInt_lt.mp c53_6
                        have := mt Int32.lt_iff_toInt_lt.mpr c75_8
                        have := mt Int32.toInt_inj.mp c86_35
                        have := congrArg Int32.toInt c104_42
                        have := mt Int32.lt_iff_toInt_lt.mpr c185_43
                        have := Int32.lt_iff_toInt_lt.mp u45_0_0
                        simp only [wf, uu]
                        repeat' split
                        all_goals omega
                      exact ⟨_, rfl, by rw [fmal_bad hlt hwf]; exact hiI, rfl, rfl⟩
                    · -- (0 : Int32)
                      subst w45
                      show Go p e below _ T45 (mkF m 200 #[.val (.ref a), .val (.int fr), .val (.int to), .val (.int i), .val (.int ((bs.getD I 0) &&& (255 : Int32))), .val (.int (3 : Int32)), .val (.int (128 : Int32)), .val (.int (159 : Int32)), s8] [(.int (0 : Int32))])
                      refine Go.s_ifNo X45 hx (hb hby d1_200) (q := 203) rfl ((if0 _ _).trans (teq (by decide : (0 : Int32) = (0 : Int32))).2) ?_
                      refine Go.s_iloadN X45 hx (hb hby d1_203) (q := 204) rfl rfl ?_
                      refine Go.retI X45 hx hlk hret (hb hby d1_204) (Nat.zero_le _) (Nat.zero_le _) ?_
                      try rw [e45]
                      have hwf : wf (uu bs) I (to.toInt - I) = 0 := by
                        have := rng8 (bs.getD I 0)
                        have := rng8 (bs.getD (I + 1) 0)
                        have := (by decide : (3 : Int32).toInt = 3)
                        have := (by decide : (128 : Int32).toInt = 128)
                        have := (by decide : (159 : Int32).toInt = 159)
                        have := (by decide : (194 : Int32).toInt = 194)
                        have := (by decide : (223 : Int32).toInt = 223)
                        have := (by decide : (224 : Int32).toInt = 224)
                        have := (by decide : (237 : Int32).toInt = 237)
                        have := (by decide : (239 : Int32).toInt = 239)
                        have := (by decide : (255 : Int32).toInt = 255)
                        have := c_isub to i
                        have := rng32 (to - i)
                        have := mt Int32.lt_iff_toInt_lt.mpr c21_2
                        have := mt Int32.lt_iff_toInt_lt.mpr c45_3
                        have := Int32.lt_iff_toInt_lt.mp c53_6
                        have := mt Int32.lt_iff_toInt_lt.mpr c75_8
                        have := mt Int32.toInt_inj.mp c86_35
                        have := congrArg Int32.toInt c104_42
                        have := mt Int32.lt_iff_toInt_lt.mpr c185_43
                        have := mt Int32.lt_iff_toInt_lt.mpr u45_1_0
                        have := Int32.lt_iff_toInt_lt.mp u45_1_1
                        simp only [wf, uu]
                        repeat' split
                        all_goals omega
                      exact ⟨_, rfl, by rw [fmal_bad hlt hwf]; exact hiI, rfl, rfl⟩
                    · -- (1 : Int32)
                      subst w45
                      show Go p e below _ T45 (mkF m 200 #[.val (.ref a), .val (.int fr), .val (.int to), .val (.int i), .val (.int ((bs.getD I 0) &&& (255 : Int32))), .val (.int (3 : Int32)), .val (.int (128 : Int32)), .val (.int (159 : Int32)), s8] [(.int (1 : Int32))])
                      refine Go.s_ifYes X45 hx (hb hby d1_200) (q := 205) (by decide) (by decide) ((if0 _ _).trans (feq (by decide : ¬ ((1 : Int32) = (0 : Int32)))).2) ?_
                      refine Go.s_iconst X45 hx (hb hby d1_205) (q := 206) rfl (z := 2) rfl ?_
                      refine Go.s_istoreS X45 hx (hb hby d1_206) (q := 208) rfl (o := s8) rfl hs8 (l' := #[.val (.ref a), .val (.int fr), .val (.int to), .val (.int i), .val (.int ((bs.getD I 0) &&& (255 : Int32))), .val (.int (3 : Int32)), .val (.int (128 : Int32)), .val (.int (159 : Int32)), .val (.int (2 : Int32))]) rfl ?_
                      refine Go.s_iload X45 hx (hb hby d1_208) (q := 210) rfl rfl ?_
                      refine Go.s_iload X45 hx (hb hby d1_210) (q := 212) rfl rfl ?_
                      refine Go.s_icmpNo X45 hx (hb hby d1_212) (q := 215) rfl (tlt (by decide : (2 : Int32) < (3 : Int32))).2.1 ?_
                      refine Go.s_aloadN X45 hx (hb hby d1_215) (q := 216) rfl rfl rfl ?_
                      refine Go.s_iloadN X45 hx (hb hby d1_216) (q := 217) rfl rfl ?_
                      refine Go.s_iload X45 hx (hb hby d1_217) (q := 219) rfl rfl ?_
                      refine Go.s_iadd X45 hx (hb hby d1_219) (q := 220) rfl ?_
                      obtain ⟨hj46, hn46⟩ := ix (k := (2 : Int32)) (K := 2) hiI (by decide) (by omega)
                      refine Go.ldB X45 hx hZ e45 V_a hj46 (w := (.int (bs.getD (I + 2) 0))) (by rw [hn46]; exact getD_mapI bs _) (hb hby d1_220) ?_
                      show Go p e below _ T45 (mkF m 221 #[.val (.ref a), .val (.int fr), .val (.int to), .val (.int i), .val (.int ((bs.getD I 0) &&& (255 : Int32))), .val (.int (3 : Int32)), .val (.int (128 : Int32)), .val (.int (159 : Int32)), .val (.int (2 : Int32))] [(.int (bs.getD (I + 2) 0))])
                      refine Go.s_sipush X45 hx (hb hby d1_221) (q := 224) rfl (z := 128) rfl ?_
                      refine Go.s_sipush X45 hx (hb hby d1_224) (q := 227) rfl (z := 191) rfl ?_
                      refine Go.callS (y := mn_4) X45 hx hZ hown (w_ hw 13 rfl) (w_ hw 14 rfl) (w_ hw 4 rfl) (w_ hw 15 rfl) (by decide) e45 (argsL := [(.int (bs.getD (I + 2) 0)), (.int (128 : Int32)), (.int (191 : Int32))]) (rest := []) (rm_ib l Z a0 hw (bs.getD (I + 2) 0) (128 : Int32) (191 : Int32) _) (by rw [hml]; rfl) (lenOf pd_0 rfl) rfl (hb hby d1_227) hRf (Nat.le_trans (Nat.le_of_ble_eq_true rfl) hRl) (Nat.zero_le _) (Nat.zero_le _) ?_
                      intro r47 T47 L47 q47 X47
                      obtain ⟨w47, rfl, p47, rfl, e47⟩ := q47
                      rw [List.append_nil] at X47
                      rcases p47 with ⟨u47_0_0, z47⟩ | ⟨u47_1_0, u47_1_1, z47⟩ | ⟨u47_2_0, u47_2_1, z47⟩
                      · -- (0 : Int32)
                        subst w47
                        show Go p e below _ T47 (mkF m 230 #[.val (.ref a), .val (.int fr), .val (.int to), .val (.int i), .val (.int ((bs.getD I 0) &&& (255 : Int32))), .val (.int (3 : Int32)), .val (.int (128 : Int32)), .val (.int (159 : Int32)), .val (.int (2 : Int32))] [(.int (0 : Int32))])
                        refine Go.s_ifNo X47 hx (hb hby d1_230) (q := 233) rfl ((if0 _ _).trans (teq (by decide : (0 : Int32) = (0 : Int32))).2) ?_
                        refine Go.s_iloadN X47 hx (hb hby d1_233) (q := 234) rfl rfl ?_
                        refine Go.retI X47 hx hlk hret (hb hby d1_234) (Nat.zero_le _) (Nat.zero_le _) ?_
                        try rw [e47]
                        have hwf : wf (uu bs) I (to.toInt - I) = 0 := by
                          have := rng8 (bs.getD I 0)
                          have := rng8 (bs.getD (I + 1) 0)
                          have := rng8 (bs.getD (I + 2) 0)
                          have := (by decide : (3 : Int32).toInt = 3)
                          have := (by decide : (128 : Int32).toInt = 128)
                          have := (by decide : (159 : Int32).toInt = 159)
                          have := (by decide : (194 : Int32).toInt = 194)
                          have := (by decide : (223 : Int32).toInt = 223)
                          have := (by decide : (224 : Int32).toInt = 224)
                          have := (by decide : (237 : Int32).toInt = 237)
                          have := (by decide : (239 : Int32).toInt = 239)
                          have := (by decide : (255 : Int32).toInt = 255)
                          have := c_isub to i
                          have := rng32 (to - i)
                          have := mt Int32.lt_iff_toInt_lt.mpr c21_2
                          have := mt Int32.lt_iff_toInt_lt.mpr c45_3
                          have := Int32.lt_iff_toInt_lt.mp c53_6
                          have := mt Int32.lt_iff_toInt_lt.mpr c75_8
                          have := mt Int32.toInt_inj.mp c86_35
                          have := congrArg Int32.toInt c104_42
                          have := mt Int32.lt_iff_toInt_lt.mpr c185_43
                          have := mt Int32.lt_iff_toInt_lt.mpr u45_2_0
                          have := mt Int32.lt_iff_toInt_lt.mpr u45_2_1
                          have := Int32.lt_iff_toInt_lt.mp u47_0_0
                          simp only [wf, uu]
                          repeat' split
                          all_goals omega
                        exact ⟨_, rfl, by rw [fmal_bad hlt hwf]; exact hiI, rfl, rfl⟩
                      · -- (0 : Int32)
                        subst w47
                        show Go p e below _ T47 (mkF m 230 #[.val (.ref a), .val (.int fr), .val (.int to), .val (.int i), .val (.int ((bs.getD I 0) &&& (255 : Int32))), .val (.int (3 : Int32)), .val (.int (128 : Int32)), .val (.int (159 : Int32)), .val (.int (2 : Int32))] [(.int (0 : Int32))])
                        refine Go.s_ifNo X47 hx (hb hby d1_230) (q := 233) rfl ((if0 _ _).trans (teq (by decide : (0 : Int32) = (0 : Int32))).2) ?_
                        refine Go.s_iloadN X47 hx (hb hby d1_233) (q := 234) rfl rfl ?_
                        refine Go.retI X47 hx hlk hret (hb hby d1_234) (Nat.zero_le _) (Nat.zero_le _) ?_
                        try rw [e47]
                        have hwf : wf (uu bs) I (to.toInt - I) = 0 := by
                          have := rng8 (bs.getD I 0)
                          have := rng8 (bs.getD (I + 1) 0)
                          have := rng8 (bs.getD (I + 2) 0)
                          have := (by decide : (3 : Int32).toInt = 3)
                          have := (by decide : (128 : Int32).toInt = 128)
                          have := (by decide : (159 : Int32).toInt = 159)
                          have := (by decide : (191 : Int32).toInt = 191)
                          have := (by decide : (194 : Int32).toInt = 194)
                          have := (by decide : (223 : Int32).toInt = 223)
                          have := (by decide : (224 : Int32).toInt = 224)
                          have := (by decide : (237 : Int32).toInt = 237)
                          have := (by decide : (239 : Int32).toInt = 239)
                          have := (by decide : (255 : Int32).toInt = 255)
                          have := c_isub to i
                          have := rng32 (to - i)
                          have := mt Int32.lt_iff_toInt_lt.mpr c21_2
                          have := mt Int32.lt_iff_toInt_lt.mpr c45_3
                          have := Int32.lt_iff_toInt_lt.mp c53_6
                          have := mt Int32.lt_iff_toInt_lt.mpr c75_8
                          have := mt Int32.toInt_inj.mp c86_35
                          have := congrArg Int32.toInt c104_42
                          have := mt Int32.lt_iff_toInt_lt.mpr c185_43
                          have := mt Int32.lt_iff_toInt_lt.mpr u45_2_0
                          have := mt Int32.lt_iff_toInt_lt.mpr u45_2_1
                          have := mt Int32.lt_iff_toInt_lt.mpr u47_1_0
                          have := Int32.lt_iff_toInt_lt.mp u47_1_1
                          simp only [wf, uu]
                          repeat' split
                          all_goals omega
                        exact ⟨_, rfl, by rw [fmal_bad hlt hwf]; exact hiI, rfl, rfl⟩
                      · -- (1 : Int32)
                        subst w47
                        show Go p e below _ T47 (mkF m 230 #[.val (.ref a), .val (.int fr), .val (.int to), .val (.int i), .val (.int ((bs.getD I 0) &&& (255 : Int32))), .val (.int (3 : Int32)), .val (.int (128 : Int32)), .val (.int (159 : Int32)), .val (.int (2 : Int32))] [(.int (1 : Int32))])
                        refine Go.s_ifYes X47 hx (hb hby d1_230) (q := 235) (by decide) (by decide) ((if0 _ _).trans (feq (by decide : ¬ ((1 : Int32) = (0 : Int32)))).2) ?_
                        refine Go.s_iinc X47 hx (hb hby d1_235) (q := 238) rfl rfl (l' := #[.val (.ref a), .val (.int fr), .val (.int to), .val (.int i), .val (.int ((bs.getD I 0) &&& (255 : Int32))), .val (.int (3 : Int32)), .val (.int (128 : Int32)), .val (.int (159 : Int32)), .val (.int ((2 : Int32) + (1 : Int32)))]) rfl ?_
                        rw [(by decide : ((2 : Int32) + (1 : Int32)) = (3 : Int32))]
                        refine Go.s_goto X47 hx (hb hby d1_238) (q := 208) (by decide) (by decide) ?_
                        refine Go.s_iload X47 hx (hb hby d1_208) (q := 210) rfl rfl ?_
                        refine Go.s_iload X47 hx (hb hby d1_210) (q := 212) rfl rfl ?_
                        refine Go.s_icmpYes X47 hx (hb hby d1_212) (q := 241) (by decide) (by decide) (flt (by decide : ¬ ((3 : Int32) < (3 : Int32)))).2.1 ?_
                        refine Go.s_iloadN X47 hx (hb hby d1_241) (q := 242) rfl rfl ?_
                        refine Go.s_iload X47 hx (hb hby d1_242) (q := 244) rfl rfl ?_
                        refine Go.s_iadd X47 hx (hb hby d1_244) (q := 245) rfl ?_
                        refine Go.s_istoreN X47 hx (hb hby d1_245) (q := 246) rfl (l' := #[.val (.ref a), .val (.int fr), .val (.int to), .val (.int (i + (3 : Int32))), .val (.int ((bs.getD I 0) &&& (255 : Int32))), .val (.int (3 : Int32)), .val (.int (128 : Int32)), .val (.int (159 : Int32)), .val (.int (3 : Int32))]) rfl ?_
                        refine Go.s_goto X47 hx (hb hby d1_246) (q := 2) (by decide) (by decide) ?_
                        have hwf : wf (uu bs) I (to.toInt - I) = 3 := by
                          have := rng8 (bs.getD I 0)
                          have := rng8 (bs.getD (I + 1) 0)
                          have := rng8 (bs.getD (I + 2) 0)
                          have := (by decide : (3 : Int32).toInt = 3)
                          have := (by decide : (128 : Int32).toInt = 128)
                          have := (by decide : (159 : Int32).toInt = 159)
                          have := (by decide : (191 : Int32).toInt = 191)
                          have := (by decide : (194 : Int32).toInt = 194)
                          have := (by decide : (223 : Int32).toInt = 223)
                          have := (by decide : (224 : Int32).toInt = 224)
                          have := (by decide : (237 : Int32).toInt = 237)
                          have := (by decide : (239 : Int32).toInt = 239)
                          have := (by decide : (255 : Int32).toInt = 255)
                          have := c_isub to i
                          have := rng32 (to - i)
                          have := mt Int32.lt_iff_toInt_lt.mpr c21_2
                          have := mt Int32.lt_iff_toInt_lt.mpr c45_3
                          have := Int32.lt_iff_toInt_lt.mp c53_6
                          have := mt Int32.lt_iff_toInt_lt.mpr c75_8
                          have := mt Int32.toInt_inj.mp c86_35
                          have := congrArg Int32.toInt c104_42
                          have := mt Int32.lt_iff_toInt_lt.mpr c185_43
                          have := mt Int32.lt_iff_toInt_lt.mpr u45_2_0
                          have := mt Int32.lt_iff_toInt_lt.mpr u45_2_1
                          have := mt Int32.lt_iff_toInt_lt.mpr u47_2_0
                          have := mt Int32.lt_iff_toInt_lt.mpr u47_2_1
                          simp only [wf, uu]
                          repeat' split
                          all_goals omega
                        have hix := ix2 (k := (3 : Int32)) (K := 3) hiI (by decide) (by omega)
                        have hst : fmal (uu bs) to.toInt (n + 1) I = fmal (uu bs) to.toInt n (I + 3) := fmal_step hlt hwf (by decide)
                        rw [hst]
                        exact ih X47 e47 _ _ _ _ _ _ _ hix (by omega) (One.val rfl) (One.val rfl) (One.val rfl) (One.val rfl) (One.val rfl)
                · -- pc 104: not ((bs.getD I 0) &&& (255 : Int32)) = (237 : Int32)
                  refine Go.s_icmpYes X0 hx (hb hby d1_104) (q := 113) (by decide) (by decide) (feq c104_42).2 ?_
                  refine Go.s_iload X0 hx (hb hby d1_113) (q := 115) rfl rfl ?_
                  refine Go.s_istore X0 hx (hb hby d1_115) (q := 117) rfl (l' := #[.val (.ref a), .val (.int fr), .val (.int to), .val (.int i), .val (.int ((bs.getD I 0) &&& (255 : Int32))), .val (.int (3 : Int32)), .val (.int (128 : Int32)), .val (.int (191 : Int32)), s8]) rfl ?_
                  refine Go.s_goto X0 hx (hb hby d1_117) (q := 180) (by decide) (by decide) ?_
                  refine Go.s_iloadN X0 hx (hb hby d1_180) (q := 181) rfl rfl ?_
                  refine Go.s_iloadN X0 hx (hb hby d1_181) (q := 182) rfl rfl ?_
                  refine Go.s_isub X0 hx (hb hby d1_182) (q := 183) rfl ?_
                  refine Go.s_iload X0 hx (hb hby d1_183) (q := 185) rfl rfl ?_
                  by_cases c185_48 : (to - i) < (3 : Int32)
                  · -- pc 185: (to - i) < (3 : Int32)
                    refine Go.s_icmpYes X0 hx (hb hby d1_185) (q := 203) (by decide) (by decide) (tlt c185_48).1 ?_
                    refine Go.s_iloadN X0 hx (hb hby d1_203) (q := 204) rfl rfl ?_
                    refine Go.retI X0 hx hlk hret (hb hby d1_204) (Nat.zero_le _) (Nat.zero_le _) ?_
                    try rw [e0]
                    have hwf : wf (uu bs) I (to.toInt - I) = 0 := by
                      have := rng8 (bs.getD I 0)
                      have := (by decide : (3 : Int32).toInt = 3)
                      have := (by decide : (128 : Int32).toInt = 128)
                      have := (by decide : (194 : Int32).toInt = 194)
                      have := (by decide : (223 : Int32).toInt = 223)
                      have := (by decide : (224 : Int32).toInt = 224)
                      have := (by decide : (237 : Int32).toInt = 237)
                      have := (by decide : (239 : Int32).toInt = 239)
                      have := (by decide : (255 : Int32).toInt = 255)
                      have := c_isub to i
                      have := rng32 (to - i)
                      have := mt Int32.lt_iff_toInt_lt.mpr c21_2
                      have := mt Int32.lt_iff_toInt_lt.mpr c45_3
                      have := Int32.lt_iff_toInt_lt.mp c53_6
                      have := mt Int32.lt_iff_toInt_lt.mpr c75_8
                      have := mt Int32.toInt_inj.mp c86_35
                      have := mt Int32.toInt_inj.mp c104_42
                      have := Int32.lt_iff_toInt_lt.mp c185_48
                      simp only [wf, uu]
                      repeat' split
                      all_goals omega
                    exact ⟨_, rfl, by rw [fmal_bad hlt hwf]; exact hiI, rfl, rfl⟩
                  · -- pc 185: not (to - i) < (3 : Int32)
                    refine Go.s_icmpNo X0 hx (hb hby d1_185) (q := 188) rfl (flt c185_48).1 ?_
                    have nb := avail hiI hlt hto c185_48 (by decide)
                    have kk2 : (2 : Int32).toInt = 2 := by decide
                    have kk3 : (3 : Int32).toInt = 3 := by decide
                    have kk4 : (4 : Int32).toInt = 4 := by decide
                    refine Go.s_aloadN X0 hx (hb hby d1_188) (q := 189) rfl rfl rfl ?_
                    refine Go.s_iloadN X0 hx (hb hby d1_189) (q := 190) rfl rfl ?_
                    refine Go.s_iconst X0 hx (hb hby d1_190) (q := 191) rfl (z := 1) rfl ?_
                    refine Go.s_iadd X0 hx (hb hby d1_191) (q := 192) rfl ?_
                    obtain ⟨hj49, hn49⟩ := ix (k := (1 : Int32)) (K := 1) hiI (by decide) (by omega)
                    refine Go.ldB X0 hx hZ e0 V_a hj49 (w := (.int (bs.getD (I + 1) 0))) (by rw [hn49]; exact getD_mapI bs _) (hb hby d1_192) ?_
                    show Go p e below _ T0 (mkF m 193 #[.val (.ref a), .val (.int fr), .val (.int to), .val (.int i), .val (.int ((bs.getD I 0) &&& (255 : Int32))), .val (.int (3 : Int32)), .val (.int (128 : Int32)), .val (.int (191 : Int32)), s8] [(.int (bs.getD (I + 1) 0))])
                    refine Go.s_iload X0 hx (hb hby d1_193) (q := 195) rfl rfl ?_
                    refine Go.s_iload X0 hx (hb hby d1_195) (q := 197) rfl rfl ?_
                    refine Go.callS (y := mn_4) X0 hx hZ hown (w_ hw 13 rfl) (w_ hw 14 rfl) (w_ hw 4 rfl) (w_ hw 15 rfl) (by decide) e0 (argsL := [(.int (bs.getD (I + 1) 0)), (.int (128 : Int32)), (.int (191 : Int32))]) (rest := []) (rm_ib l Z a0 hw (bs.getD (I + 1) 0) (128 : Int32) (191 : Int32) _) (by rw [hml]; rfl) (lenOf pd_0 rfl) rfl (hb hby d1_197) hRf (Nat.le_trans (Nat.le_of_ble_eq_true rfl) hRl) (Nat.zero_le _) (Nat.zero_le _) ?_
                    intro r50 T50 L50 q50 X50
                    obtain ⟨w50, rfl, p50, rfl, e50⟩ := q50
                    rw [List.append_nil] at X50
                    rcases p50 with ⟨u50_0_0, z50⟩ | ⟨u50_1_0, u50_1_1, z50⟩ | ⟨u50_2_0, u50_2_1, z50⟩
                    · -- (0 : Int32)
                      subst w50
                      show Go p e below _ T50 (mkF m 200 #[.val (.ref a), .val (.int fr), .val (.int to), .val (.int i), .val (.int ((bs.getD I 0) &&& (255 : Int32))), .val (.int (3 : Int32)), .val (.int (128 : Int32)), .val (.int (191 : Int32)), s8] [(.int (0 : Int32))])
                      refine Go.s_ifNo X50 hx (hb hby d1_200) (q := 203) rfl ((if0 _ _).trans (teq (by decide : (0 : Int32) = (0 : Int32))).2) ?_
                      refine Go.s_iloadN X50 hx (hb hby d1_203) (q := 204) rfl rfl ?_
                      refine Go.retI X50 hx hlk hret (hb hby d1_204) (Nat.zero_le _) (Nat.zero_le _) ?_
                      try rw [e50]
                      have hwf : wf (uu bs) I (to.toInt - I) = 0 := by
                        have := rng8 (bs.getD I 0)
                        have := rng8 (bs.getD (I + 1) 0)
                        have := (by decide : (3 : Int32).toInt = 3)
                        have := (by decide : (128 : Int32).toInt = 128)
                        have := (by decide : (194 : Int32).toInt = 194)
                        have := (by decide : (223 : Int32).toInt = 223)
                        have := (by decide : (224 : Int32).toInt = 224)
                        have := (by decide : (237 : Int32).toInt = 237)
                        have := (by decide : (239 : Int32).toInt = 239)
                        have := (by decide : (255 : Int32).toInt = 255)
                        have := c_isub to i
                        have := rng32 (to - i)
                        have := mt Int32.lt_iff_toInt_lt.mpr c21_2
                        have := mt Int32.lt_iff_toInt_lt.mpr c45_3
                        have := Int32.lt_iff_toInt_lt.mp c53_6
                        have := mt Int32.lt_iff_toInt_lt.mpr c75_8
                        have := mt Int32.toInt_inj.mp c86_35
                        have := mt Int32.toInt_inj.mp c104_42
                        have := mt Int32.lt_iff_toInt_lt.mpr c185_48
                        have := Int32.lt_iff_toInt_lt.mp u50_0_0
                        simp only [wf, uu]
                        repeat' split
                        all_goals omega
                      exact ⟨_, rfl, by rw [fmal_bad hlt hwf]; exact hiI, rfl, rfl⟩
                    · -- (0 : Int32)
                      subst w50
                      show Go p e below _ T50 (mkF m 200 #[.val (.ref a), .val (.int fr), .val (.int to), .val (.int i), .val (.int ((bs.getD I 0) &&& (255 : Int32))), .val (.int (3 : Int32)), .val (.int (128 : Int32)), .val (.int (191 : Int32)), s8] [(.int (0 : Int32))])
                      refine Go.s_ifNo X50 hx (hb hby d1_200) (q := 203) rfl ((if0 _ _).trans (teq (by decide : (0 : Int32) = (0 : Int32))).2) ?_
                      refine Go.s_iloadN X50 hx (hb hby d1_203) (q := 204) rfl rfl ?_
                      refine Go.retI X50 hx hlk hret (hb hby d1_204) (Nat.zero_le _) (Nat.zero_le _) ?_
                      try rw [e50]
                      have hwf : wf (uu bs) I (to.toInt - I) = 0 := by
                        have := rng8 (bs.getD I 0)
                        have := rng8 (bs.getD (I + 1) 0)
                        have := (by decide : (3 : Int32).toInt = 3)
                        have := (by decide : (128 : Int32).toInt = 128)
                        have := (by decide : (191 : Int32).toInt = 191)
                        have := (by decide : (194 : Int32).toInt = 194)
                        have := (by decide : (223 : Int32).toInt = 223)
                        have := (by decide : (224 : Int32).toInt = 224)
                        have := (by decide : (237 : Int32).toInt = 237)
                        have := (by decide : (239 : Int32).toInt = 239)
                        have := (by decide : (255 : Int32).toInt = 255)
                        have := c_isub to i
                        have := rng32 (to - i)
                        have := mt Int32.lt_iff_toInt_lt.mpr c21_2
                        have := mt Int32.lt_iff_toInt_lt.mpr c45_3
                        have := Int32.lt_iff_toInt_lt.mp c53_6
                        have := mt Int32.lt_iff_toInt_lt.mpr c75_8
                        have := mt Int32.toInt_inj.mp c86_35
                        have := mt Int32.toInt_inj.mp c104_42
                        have := mt Int32.lt_iff_toInt_lt.mpr c185_48
                        have := mt Int32.lt_iff_toInt_lt.mpr u50_1_0
                        have := Int32.lt_iff_toInt_lt.mp u50_1_1
                        simp only [wf, uu]
                        repeat' split
                        all_goals omega
                      exact ⟨_, rfl, by rw [fmal_bad hlt hwf]; exact hiI, rfl, rfl⟩
                    · -- (1 : Int32)
                      subst w50
                      show Go p e below _ T50 (mkF m 200 #[.val (.ref a), .val (.int fr), .val (.int to), .val (.int i), .val (.int ((bs.getD I 0) &&& (255 : Int32))), .val (.int (3 : Int32)), .val (.int (128 : Int32)), .val (.int (191 : Int32)), s8] [(.int (1 : Int32))])
                      refine Go.s_ifYes X50 hx (hb hby d1_200) (q := 205) (by decide) (by decide) ((if0 _ _).trans (feq (by decide : ¬ ((1 : Int32) = (0 : Int32)))).2) ?_
                      refine Go.s_iconst X50 hx (hb hby d1_205) (q := 206) rfl (z := 2) rfl ?_
                      refine Go.s_istoreS X50 hx (hb hby d1_206) (q := 208) rfl (o := s8) rfl hs8 (l' := #[.val (.ref a), .val (.int fr), .val (.int to), .val (.int i), .val (.int ((bs.getD I 0) &&& (255 : Int32))), .val (.int (3 : Int32)), .val (.int (128 : Int32)), .val (.int (191 : Int32)), .val (.int (2 : Int32))]) rfl ?_
                      refine Go.s_iload X50 hx (hb hby d1_208) (q := 210) rfl rfl ?_
                      refine Go.s_iload X50 hx (hb hby d1_210) (q := 212) rfl rfl ?_
                      refine Go.s_icmpNo X50 hx (hb hby d1_212) (q := 215) rfl (tlt (by decide : (2 : Int32) < (3 : Int32))).2.1 ?_
                      refine Go.s_aloadN X50 hx (hb hby d1_215) (q := 216) rfl rfl rfl ?_
                      refine Go.s_iloadN X50 hx (hb hby d1_216) (q := 217) rfl rfl ?_
                      refine Go.s_iload X50 hx (hb hby d1_217) (q := 219) rfl rfl ?_
                      refine Go.s_iadd X50 hx (hb hby d1_219) (q := 220) rfl ?_
                      obtain ⟨hj51, hn51⟩ := ix (k := (2 : Int32)) (K := 2) hiI (by decide) (by omega)
                      refine Go.ldB X50 hx hZ e50 V_a hj51 (w := (.int (bs.getD (I + 2) 0))) (by rw [hn51]; exact getD_mapI bs _) (hb hby d1_220) ?_
                      show Go p e below _ T50 (mkF m 221 #[.val (.ref a), .val (.int fr), .val (.int to), .val (.int i), .val (.int ((bs.getD I 0) &&& (255 : Int32))), .val (.int (3 : Int32)), .val (.int (128 : Int32)), .val (.int (191 : Int32)), .val (.int (2 : Int32))] [(.int (bs.getD (I + 2) 0))])
                      refine Go.s_sipush X50 hx (hb hby d1_221) (q := 224) rfl (z := 128) rfl ?_
                      refine Go.s_sipush X50 hx (hb hby d1_224) (q := 227) rfl (z := 191) rfl ?_
                      refine Go.callS (y := mn_4) X50 hx hZ hown (w_ hw 13 rfl) (w_ hw 14 rfl) (w_ hw 4 rfl) (w_ hw 15 rfl) (by decide) e50 (argsL := [(.int (bs.getD (I + 2) 0)), (.int (128 : Int32)), (.int (191 : Int32))]) (rest := []) (rm_ib l Z a0 hw (bs.getD (I + 2) 0) (128 : Int32) (191 : Int32) _) (by rw [hml]; rfl) (lenOf pd_0 rfl) rfl (hb hby d1_227) hRf (Nat.le_trans (Nat.le_of_ble_eq_true rfl) hRl) (Nat.zero_le _) (Nat.zero_le _) ?_
                      intro r52 T52 L52 q52 X52
                      obtain ⟨w52, rfl, p52, rfl, e52⟩ := q52
                      rw [List.append_nil] at X52
                      rcases p52 with ⟨u52_0_0, z52⟩ | ⟨u52_1_0, u52_1_1, z52⟩ | ⟨u52_2_0, u52_2_1, z52⟩
                      · -- (0 : Int32)
                        subst w52
                        show Go p e below _ T52 (mkF m 230 #[.val (.ref a), .val (.int fr), .val (.int to), .val (.int i), .val (.int ((bs.getD I 0) &&& (255 : Int32))), .val (.int (3 : Int32)), .val (.int (128 : Int32)), .val (.int (191 : Int32)), .val (.int (2 : Int32))] [(.int (0 : Int32))])
                        refine Go.s_ifNo X52 hx (hb hby d1_230) (q := 233) rfl ((if0 _ _).trans (teq (by decide : (0 : Int32) = (0 : Int32))).2) ?_
                        refine Go.s_iloadN X52 hx (hb hby d1_233) (q := 234) rfl rfl ?_
                        refine Go.retI X52 hx hlk hret (hb hby d1_234) (Nat.zero_le _) (Nat.zero_le _) ?_
                        try rw [e52]
                        have hwf : wf (uu bs) I (to.toInt - I) = 0 := by
                          have := rng8 (bs.getD I 0)
                          have := rng8 (bs.getD (I + 1) 0)
                          have := rng8 (bs.getD (I + 2) 0)
                          have := (by decide : (3 : Int32).toInt = 3)
                          have := (by decide : (128 : Int32).toInt = 128)
                          have := (by decide : (191 : Int32).toInt = 191)
                          have := (by decide : (194 : Int32).toInt = 194)
                          have := (by decide : (223 : Int32).toInt = 223)
                          have := (by decide : (224 : Int32).toInt = 224)
                          have := (by decide : (237 : Int32).toInt = 237)
                          have := (by decide : (239 : Int32).toInt = 239)
                          have := (by decide : (255 : Int32).toInt = 255)
                          have := c_isub to i
                          have := rng32 (to - i)
                          have := mt Int32.lt_iff_toInt_lt.mpr c21_2
                          have := mt Int32.lt_iff_toInt_lt.mpr c45_3
                          have := Int32.lt_iff_toInt_lt.mp c53_6
                          have := mt Int32.lt_iff_toInt_lt.mpr c75_8
                          have := mt Int32.toInt_inj.mp c86_35
                          have := mt Int32.toInt_inj.mp c104_42
                          have := mt Int32.lt_iff_toInt_lt.mpr c185_48
                          have := mt Int32.lt_iff_toInt_lt.mpr u50_2_0
                          have := mt Int32.lt_iff_toInt_lt.mpr u50_2_1
                          have := Int32.lt_iff_toInt_lt.mp u52_0_0
                          simp only [wf, uu]
                          repeat' split
                          all_goals omega
                        exact ⟨_, rfl, by rw [fmal_bad hlt hwf]; exact hiI, rfl, rfl⟩
                      · -- (0 : Int32)
                        subst w52
                        show Go p e below _ T52 (mkF m 230 #[.val (.ref a), .val (.int fr), .val (.int to), .val (.int i), .val (.int ((bs.getD I 0) &&& (255 : Int32))), .val (.int (3 : Int32)), .val (.int (128 : Int32)), .val (.int (191 : Int32)), .val (.int (2 : Int32))] [(.int (0 : Int32))])
                        refine Go.s_ifNo X52 hx (hb hby d1_230) (q := 233) rfl ((if0 _ _).trans (teq (by decide : (0 : Int32) = (0 : Int32))).2) ?_
                        refine Go.s_iloadN X52 hx (hb hby d1_233) (q := 234) rfl rfl ?_
                        refine Go.retI X52 hx hlk hret (hb hby d1_234) (Nat.zero_le _) (Nat.zero_le _) ?_
                        try rw [e52]
                        have hwf : wf (uu bs) I (to.toInt - I) = 0 := by
                          have := rng8 (bs.getD I 0)
                          have := rng8 (bs.getD (I + 1) 0)
                          have := rng8 (bs.getD (I + 2) 0)
                          have := (by decide : (3 : Int32).toInt = 3)
                          have := (by decide : (128 : Int32).toInt = 128)
                          have := (by decide : (191 : Int32).toInt = 191)
                          have := (by decide : (194 : Int32).toInt = 194)
                          have := (by decide : (223 : Int32).toInt = 223)
                          have := (by decide : (224 : Int32).toInt = 224)
                          have := (by decide : (237 : Int32).toInt = 237)
                          have := (by decide : (239 : Int32).toInt = 239)
                          have := (by decide : (255 : Int32).toInt = 255)
                          have := c_isub to i
                          have := rng32 (to - i)
                          have := mt Int32.lt_iff_toInt_lt.mpr c21_2
                          have := mt Int32.lt_iff_toInt_lt.mpr c45_3
                          have := Int32.lt_iff_toInt_lt.mp c53_6
                          have := mt Int32.lt_iff_toInt_lt.mpr c75_8
                          have := mt Int32.toInt_inj.mp c86_35
                          have := mt Int32.toInt_inj.mp c104_42
                          have := mt Int32.lt_iff_toInt_lt.mpr c185_48
                          have := mt Int32.lt_iff_toInt_lt.mpr u50_2_0
                          have := mt Int32.lt_iff_toInt_lt.mpr u50_2_1
                          have := mt Int32.lt_iff_toInt_lt.mpr u52_1_0
                          have := Int32.lt_iff_toInt_lt.mp u52_1_1
                          simp only [wf, uu]
                          repeat' split
                          all_goals omega
                        exact ⟨_, rfl, by rw [fmal_bad hlt hwf]; exact hiI, rfl, rfl⟩
                      · -- (1 : Int32)
                        subst w52
                        show Go p e below _ T52 (mkF m 230 #[.val (.ref a), .val (.int fr), .val (.int to), .val (.int i), .val (.int ((bs.getD I 0) &&& (255 : Int32))), .val (.int (3 : Int32)), .val (.int (128 : Int32)), .val (.int (191 : Int32)), .val (.int (2 : Int32))] [(.int (1 : Int32))])
                        refine Go.s_ifYes X52 hx (hb hby d1_230) (q := 235) (by decide) (by decide) ((if0 _ _).trans (feq (by decide : ¬ ((1 : Int32) = (0 : Int32)))).2) ?_
                        refine Go.s_iinc X52 hx (hb hby d1_235) (q := 238) rfl rfl (l' := #[.val (.ref a), .val (.int fr), .val (.int to), .val (.int i), .val (.int ((bs.getD I 0) &&& (255 : Int32))), .val (.int (3 : Int32)), .val (.int (128 : Int32)), .val (.int (191 : Int32)), .val (.int ((2 : Int32) + (1 : Int32)))]) rfl ?_
                        rw [(by decide : ((2 : Int32) + (1 : Int32)) = (3 : Int32))]
                        refine Go.s_goto X52 hx (hb hby d1_238) (q := 208) (by decide) (by decide) ?_
                        refine Go.s_iload X52 hx (hb hby d1_208) (q := 210) rfl rfl ?_
                        refine Go.s_iload X52 hx (hb hby d1_210) (q := 212) rfl rfl ?_
                        refine Go.s_icmpYes X52 hx (hb hby d1_212) (q := 241) (by decide) (by decide) (flt (by decide : ¬ ((3 : Int32) < (3 : Int32)))).2.1 ?_
                        refine Go.s_iloadN X52 hx (hb hby d1_241) (q := 242) rfl rfl ?_
                        refine Go.s_iload X52 hx (hb hby d1_242) (q := 244) rfl rfl ?_
                        refine Go.s_iadd X52 hx (hb hby d1_244) (q := 245) rfl ?_
                        refine Go.s_istoreN X52 hx (hb hby d1_245) (q := 246) rfl (l' := #[.val (.ref a), .val (.int fr), .val (.int to), .val (.int (i + (3 : Int32))), .val (.int ((bs.getD I 0) &&& (255 : Int32))), .val (.int (3 : Int32)), .val (.int (128 : Int32)), .val (.int (191 : Int32)), .val (.int (3 : Int32))]) rfl ?_
                        refine Go.s_goto X52 hx (hb hby d1_246) (q := 2) (by decide) (by decide) ?_
                        have hwf : wf (uu bs) I (to.toInt - I) = 3 := by
                          have := rng8 (bs.getD I 0)
                          have := rng8 (bs.getD (I + 1) 0)
                          have := rng8 (bs.getD (I + 2) 0)
                          have := (by decide : (3 : Int32).toInt = 3)
                          have := (by decide : (128 : Int32).toInt = 128)
                          have := (by decide : (191 : Int32).toInt = 191)
                          have := (by decide : (194 : Int32).toInt = 194)
                          have := (by decide : (223 : Int32).toInt = 223)
                          have := (by decide : (224 : Int32).toInt = 224)
                          have := (by decide : (237 : Int32).toInt = 237)
                          have := (by decide : (239 : Int32).toInt = 239)
                          have := (by decide : (255 : Int32).toInt = 255)
                          have := c_isub to i
                          have := rng32 (to - i)
                          have := mt Int32.lt_iff_toInt_lt.mpr c21_2
                          have := mt Int32.lt_iff_toInt_lt.mpr c45_3
                          have := Int32.lt_iff_toInt_lt.mp c53_6
                          have := mt Int32.lt_iff_toInt_lt.mpr c75_8
                          have := mt Int32.toInt_inj.mp c86_35
                          have := mt Int32.toInt_inj.mp c104_42
                          have := mt Int32.lt_iff_toInt_lt.mpr c185_48
                          have := mt Int32.lt_iff_toInt_lt.mpr u50_2_0
                          have := mt Int32.lt_iff_toInt_lt.mpr u50_2_1
                          have := mt Int32.lt_iff_toInt_lt.mpr u52_2_0
                          have := mt Int32.lt_iff_toInt_lt.mpr u52_2_1
                          simp only [wf, uu]
                          repeat' split
                          all_goals omega
                        have hix := ix2 (k := (3 : Int32)) (K := 3) hiI (by decide) (by omega)
                        have hst : fmal (uu bs) to.toInt (n + 1) I = fmal (uu bs) to.toInt n (I + 3) := fmal_step hlt hwf (by decide)
                        rw [hst]
                        exact ih X52 e52 _ _ _ _ _ _ _ hix (by omega) (One.val rfl) (One.val rfl) (One.val rfl) (One.val rfl) (One.val rfl)
          · -- pc 53: not (223 : Int32) < ((bs.getD I 0) &&& (255 : Int32))
            refine Go.s_icmpNo X0 hx (hb hby d1_53) (q := 56) rfl (flt c53_6).2.2.1 ?_
            refine Go.s_iconst X0 hx (hb hby d1_56) (q := 57) rfl (z := 2) rfl ?_
            refine Go.s_istoreS X0 hx (hb hby d1_57) (q := 59) rfl (o := s5) rfl hs5 (l' := #[.val (.ref a), .val (.int fr), .val (.int to), .val (.int i), .val (.int ((bs.getD I 0) &&& (255 : Int32))), .val (.int (2 : Int32)), .val (.int (128 : Int32)), .val (.int (191 : Int32)), s8]) rfl ?_
            refine Go.s_goto X0 hx (hb hby d1_59) (q := 180) (by decide) (by decide) ?_
            refine Go.s_iloadN X0 hx (hb hby d1_180) (q := 181) rfl rfl ?_
            refine Go.s_iloadN X0 hx (hb hby d1_181) (q := 182) rfl rfl ?_
            refine Go.s_isub X0 hx (hb hby d1_182) (q := 183) rfl ?_
            refine Go.s_iload X0 hx (hb hby d1_183) (q := 185) rfl rfl ?_
            by_cases c185_53 : (to - i) < (2 : Int32)
            · -- pc 185: (to - i) < (2 : Int32)
              refine Go.s_icmpYes X0 hx (hb hby d1_185) (q := 203) (by decide) (by decide) (tlt c185_53).1 ?_
              refine Go.s_iloadN X0 hx (hb hby d1_203) (q := 204) rfl rfl ?_
              refine Go.retI X0 hx hlk hret (hb hby d1_204) (Nat.zero_le _) (Nat.zero_le _) ?_
              try rw [e0]
              have hwf : wf (uu bs) I (to.toInt - I) = 0 := by
                have := rng8 (bs.getD I 0)
                have := (by decide : (2 : Int32).toInt = 2)
                have := (by decide : (128 : Int32).toInt = 128)
                have := (by decide : (194 : Int32).toInt = 194)
                have := (by decide : (223 : Int32).toInt = 223)
                have := (by decide : (255 : Int32).toInt = 255)
                have := c_isub to i
                have := rng32 (to - i)
                have := mt Int32.lt_iff_toInt_lt.mpr c21_2
                have := mt Int32.lt_iff_toInt_lt.mpr c45_3
                have := mt Int32.lt_iff_toInt_lt.mpr c53_6
                have := Int32.lt_iff_toInt_lt.mp c185_53
                simp only [wf, uu]
                repeat' split
                all_goals omega
              exact ⟨_, rfl, by rw [fmal_bad hlt hwf]; exact hiI, rfl, rfl⟩
            · -- pc 185: not (to - i) < (2 : Int32)
              refine Go.s_icmpNo X0 hx (hb hby d1_185) (q := 188) rfl (flt c185_53).1 ?_
              have nb := avail hiI hlt hto c185_53 (by decide)
              have kk2 : (2 : Int32).toInt = 2 := by decide
              have kk3 : (3 : Int32).toInt = 3 := by decide
              have kk4 : (4 : Int32).toInt = 4 := by decide
              refine Go.s_aloadN X0 hx (hb hby d1_188) (q := 189) rfl rfl rfl ?_
              refine Go.s_iloadN X0 hx (hb hby d1_189) (q := 190) rfl rfl ?_
              refine Go.s_iconst X0 hx (hb hby d1_190) (q := 191) rfl (z := 1) rfl ?_
              refine Go.s_iadd X0 hx (hb hby d1_191) (q := 192) rfl ?_
              obtain ⟨hj54, hn54⟩ := ix (k := (1 : Int32)) (K := 1) hiI (by decide) (by omega)
              refine Go.ldB X0 hx hZ e0 V_a hj54 (w := (.int (bs.getD (I + 1) 0))) (by rw [hn54]; exact getD_mapI bs _) (hb hby d1_192) ?_
              show Go p e below _ T0 (mkF m 193 #[.val (.ref a), .val (.int fr), .val (.int to), .val (.int i), .val (.int ((bs.getD I 0) &&& (255 : Int32))), .val (.int (2 : Int32)), .val (.int (128 : Int32)), .val (.int (191 : Int32)), s8] [(.int (bs.getD (I + 1) 0))])
              refine Go.s_iload X0 hx (hb hby d1_193) (q := 195) rfl rfl ?_
              refine Go.s_iload X0 hx (hb hby d1_195) (q := 197) rfl rfl ?_
              refine Go.callS (y := mn_4) X0 hx hZ hown (w_ hw 13 rfl) (w_ hw 14 rfl) (w_ hw 4 rfl) (w_ hw 15 rfl) (by decide) e0 (argsL := [(.int (bs.getD (I + 1) 0)), (.int (128 : Int32)), (.int (191 : Int32))]) (rest := []) (rm_ib l Z a0 hw (bs.getD (I + 1) 0) (128 : Int32) (191 : Int32) _) (by rw [hml]; rfl) (lenOf pd_0 rfl) rfl (hb hby d1_197) hRf (Nat.le_trans (Nat.le_of_ble_eq_true rfl) hRl) (Nat.zero_le _) (Nat.zero_le _) ?_
              intro r55 T55 L55 q55 X55
              obtain ⟨w55, rfl, p55, rfl, e55⟩ := q55
              rw [List.append_nil] at X55
              rcases p55 with ⟨u55_0_0, z55⟩ | ⟨u55_1_0, u55_1_1, z55⟩ | ⟨u55_2_0, u55_2_1, z55⟩
              · -- (0 : Int32)
                subst w55
                show Go p e below _ T55 (mkF m 200 #[.val (.ref a), .val (.int fr), .val (.int to), .val (.int i), .val (.int ((bs.getD I 0) &&& (255 : Int32))), .val (.int (2 : Int32)), .val (.int (128 : Int32)), .val (.int (191 : Int32)), s8] [(.int (0 : Int32))])
                refine Go.s_ifNo X55 hx (hb hby d1_200) (q := 203) rfl ((if0 _ _).trans (teq (by decide : (0 : Int32) = (0 : Int32))).2) ?_
                refine Go.s_iloadN X55 hx (hb hby d1_203) (q := 204) rfl rfl ?_
                refine Go.retI X55 hx hlk hret (hb hby d1_204) (Nat.zero_le _) (Nat.zero_le _) ?_
                try rw [e55]
                have hwf : wf (uu bs) I (to.toInt - I) = 0 := by
                  have := rng8 (bs.getD I 0)
                  have := rng8 (bs.getD (I + 1) 0)
                  have := (by decide : (2 : Int32).toInt = 2)
                  have := (by decide : (128 : Int32).toInt = 128)
                  have := (by decide : (194 : Int32).toInt = 194)
                  have := (by decide : (223 : Int32).toInt = 223)
                  have := (by decide : (255 : Int32).toInt = 255)
                  have := c_isub to i
                  have := rng32 (to - i)
                  have := mt Int32.lt_iff_toInt_lt.mpr c21_2
                  have := mt Int32.lt_iff_toInt_lt.mpr c45_3
                  have := mt Int32.lt_iff_toInt_lt.mpr c53_6
                  have := mt Int32.lt_iff_toInt_lt.mpr c185_53
                  have := Int32.lt_iff_toInt_lt.mp u55_0_0
                  simp only [wf, uu]
                  repeat' split
                  all_goals omega
                exact ⟨_, rfl, by rw [fmal_bad hlt hwf]; exact hiI, rfl, rfl⟩
              · -- (0 : Int32)
                subst w55
                show Go p e below _ T55 (mkF m 200 #[.val (.ref a), .val (.int fr), .val (.int to), .val (.int i), .val (.int ((bs.getD I 0) &&& (255 : Int32))), .val (.int (2 : Int32)), .val (.int (128 : Int32)), .val (.int (191 : Int32)), s8] [(.int (0 : Int32))])
                refine Go.s_ifNo X55 hx (hb hby d1_200) (q := 203) rfl ((if0 _ _).trans (teq (by decide : (0 : Int32) = (0 : Int32))).2) ?_
                refine Go.s_iloadN X55 hx (hb hby d1_203) (q := 204) rfl rfl ?_
                refine Go.retI X55 hx hlk hret (hb hby d1_204) (Nat.zero_le _) (Nat.zero_le _) ?_
                try rw [e55]
                have hwf : wf (uu bs) I (to.toInt - I) = 0 := by
                  have := rng8 (bs.getD I 0)
                  have := rng8 (bs.getD (I + 1) 0)
                  have := (by decide : (2 : Int32).toInt = 2)
                  have := (by decide : (128 : Int32).toInt = 128)
                  have := (by decide : (191 : Int32).toInt = 191)
                  have := (by decide : (194 : Int32).toInt = 194)
                  have := (by decide : (223 : Int32).toInt = 223)
                  have := (by decide : (255 : Int32).toInt = 255)
                  have := c_isub to i
                  have := rng32 (to - i)
                  have := mt Int32.lt_iff_toInt_lt.mpr c21_2
                  have := mt Int32.lt_iff_toInt_lt.mpr c45_3
                  have := mt Int32.lt_iff_toInt_lt.mpr c53_6
                  have := mt Int32.lt_iff_toInt_lt.mpr c185_53
                  have := mt Int32.lt_iff_toInt_lt.mpr u55_1_0
                  have := Int32.lt_iff_toInt_lt.mp u55_1_1
                  simp only [wf, uu]
                  repeat' split
                  all_goals omega
                exact ⟨_, rfl, by rw [fmal_bad hlt hwf]; exact hiI, rfl, rfl⟩
              · -- (1 : Int32)
                subst w55
                show Go p e below _ T55 (mkF m 200 #[.val (.ref a), .val (.int fr), .val (.int to), .val (.int i), .val (.int ((bs.getD I 0) &&& (255 : Int32))), .val (.int (2 : Int32)), .val (.int (128 : Int32)), .val (.int (191 : Int32)), s8] [(.int (1 : Int32))])
                refine Go.s_ifYes X55 hx (hb hby d1_200) (q := 205) (by decide) (by decide) ((if0 _ _).trans (feq (by decide : ¬ ((1 : Int32) = (0 : Int32)))).2) ?_
                refine Go.s_iconst X55 hx (hb hby d1_205) (q := 206) rfl (z := 2) rfl ?_
                refine Go.s_istoreS X55 hx (hb hby d1_206) (q := 208) rfl (o := s8) rfl hs8 (l' := #[.val (.ref a), .val (.int fr), .val (.int to), .val (.int i), .val (.int ((bs.getD I 0) &&& (255 : Int32))), .val (.int (2 : Int32)), .val (.int (128 : Int32)), .val (.int (191 : Int32)), .val (.int (2 : Int32))]) rfl ?_
                refine Go.s_iload X55 hx (hb hby d1_208) (q := 210) rfl rfl ?_
                refine Go.s_iload X55 hx (hb hby d1_210) (q := 212) rfl rfl ?_
                refine Go.s_icmpYes X55 hx (hb hby d1_212) (q := 241) (by decide) (by decide) (flt (by decide : ¬ ((2 : Int32) < (2 : Int32)))).2.1 ?_
                refine Go.s_iloadN X55 hx (hb hby d1_241) (q := 242) rfl rfl ?_
                refine Go.s_iload X55 hx (hb hby d1_242) (q := 244) rfl rfl ?_
                refine Go.s_iadd X55 hx (hb hby d1_244) (q := 245) rfl ?_
                refine Go.s_istoreN X55 hx (hb hby d1_245) (q := 246) rfl (l' := #[.val (.ref a), .val (.int fr), .val (.int to), .val (.int (i + (2 : Int32))), .val (.int ((bs.getD I 0) &&& (255 : Int32))), .val (.int (2 : Int32)), .val (.int (128 : Int32)), .val (.int (191 : Int32)), .val (.int (2 : Int32))]) rfl ?_
                refine Go.s_goto X55 hx (hb hby d1_246) (q := 2) (by decide) (by decide) ?_
                have hwf : wf (uu bs) I (to.toInt - I) = 2 := by
                  have := rng8 (bs.getD I 0)
                  have := rng8 (bs.getD (I + 1) 0)
                  have := (by decide : (2 : Int32).toInt = 2)
                  have := (by decide : (128 : Int32).toInt = 128)
                  have := (by decide : (191 : Int32).toInt = 191)
                  have := (by decide : (194 : Int32).toInt = 194)
                  have := (by decide : (223 : Int32).toInt = 223)
                  have := (by decide : (255 : Int32).toInt = 255)
                  have := c_isub to i
                  have := rng32 (to - i)
                  have := mt Int32.lt_iff_toInt_lt.mpr c21_2
                  have := mt Int32.lt_iff_toInt_lt.mpr c45_3
                  have := mt Int32.lt_iff_toInt_lt.mpr c53_6
                  have := mt Int32.lt_iff_toInt_lt.mpr c185_53
                  have := mt Int32.lt_iff_toInt_lt.mpr u55_2_0
                  have := mt Int32.lt_iff_toInt_lt.mpr u55_2_1
                  simp only [wf, uu]
                  repeat' split
                  all_goals omega
                have hix := ix2 (k := (2 : Int32)) (K := 2) hiI (by decide) (by omega)
                have hst : fmal (uu bs) to.toInt (n + 1) I = fmal (uu bs) to.toInt n (I + 2) := fmal_step hlt hwf (by decide)
                rw [hst]
                exact ih X55 e55 _ _ _ _ _ _ _ hix (by omega) (One.val rfl) (One.val rfl) (One.val rfl) (One.val rfl) (One.val rfl)
    ·
      have hnlt : ¬ ((I : Int) < to.toInt) := fun q => hil (Int32.lt_iff_toInt_lt.mpr (by omega))
      show Go p e below _ T0 (mkF m 2 #[.val (.ref a), .val (.int fr), .val (.int to), .val (.int i), s4, s5, s6, s7, s8] [])
      refine Go.s_iloadN X0 hx (hb hby d1_2) (q := 3) rfl rfl ?_
      refine Go.s_iloadN X0 hx (hb hby d1_3) (q := 4) rfl rfl ?_
      refine Go.s_icmpYes X0 hx (hb hby d1_4) (q := 249) (by decide) (by decide) (flt hil).2.1 ?_
      refine Go.s_iconst X0 hx (hb hby d1_249) (q := 250) rfl (z := -1) rfl ?_
      refine Go.retI X0 hx hlk hret (hb hby d1_250) (Nat.zero_le _) (Nat.zero_le _) ?_
      try rw [e0]
      exact ⟨_, rfl, by rw [fmal_end (by omega)]; decide, rfl, rfl⟩
theorem ef_fm (m : MethodId) (x0 : Addr) (x1 : Int32) (x2 : Int32) : entryFrame m #[(.ref x0), (.int x1), (.int x2)] 9 = mkF m 0 #[.val (.ref x0), .val (.int x1), .val (.int x2), .unset, .unset, .unset, .unset, .unset, .unset] [] := by first | (simp [entryFrame, mkF, argsToLocals, Value.category]; done) | rfl
set_option maxRecDepth 65536 in
set_option maxHeartbeats 40000000 in
theorem rm_fm (l : Launch) (Z : State) (a0 : Array Value) (hw : ∀ d ∈ tables_1, d.before a0 Z = true) (a : Addr) (fr : Int32) (to : Int32) (h0 : Heap) (kc : ClassId) (bs : List Int32) (I : Nat) (V_a : Arv Z h0 a kc .byte (6 : Int32) (bs.map Value.int) (.int 0)) (hiI : fr.toInt = (I : Int)) (hto : to.toInt ≤ 6) :
    Ct l mn_1 prog_58_method_2_code 9 (some .int) ({ frames := 1, cells := 0, slots := 0, locals := 19 } : Room) Z h0 #[(.ref a), (.int fr), (.int to)] (fun v h L => ∃ r, v = some (.int r) ∧ r.toInt = fmal (uu bs) to.toInt 6 I ∧ L = [] ∧ h = h0) := by
  refine Ct.body (plainFor_of_name pn_com_example_tally3_tally3_usage_Utf8) ?_
  intro p e s m below meth c T0 hx hby hml hown hnm hret hlk hZ X0 e0
  refine Go.cast (ef_fm m a fr to) ?_
  show Go p e below _ T0 (mkF m 0 #[.val (.ref a), .val (.int fr), .val (.int to), .unset, .unset, .unset, .unset, .unset, .unset] [])
  refine Go.s_iloadN X0 hx (hb hby d1_0) (q := 1) rfl rfl ?_
  refine Go.s_istoreN X0 hx (hb hby d1_1) (q := 2) rfl (l' := #[.val (.ref a), .val (.int fr), .val (.int to), .val (.int fr), .unset, .unset, .unset, .unset, .unset]) rfl ?_
  exact lp_fm hw hx hby hml hown hret hlk hZ (by decide) (by decide) V_a hto 6 X0 e0 fr I _ _ _ _ _ hiI (by omega) One.u One.u One.u One.u One.u
theorem ef_sp (m : MethodId) (x0 : Addr) (x1 : Int32) (x2 : Int32) : entryFrame m #[(.ref x0), (.int x1), (.int x2)] 4 = mkF m 0 #[.val (.ref x0), .val (.int x1), .val (.int x2), .unset] [] := by first | (simp [entryFrame, mkF, argsToLocals, Value.category]; done) | rfl
set_option maxRecDepth 65536 in
set_option maxHeartbeats 40000000 in
theorem rm_sp (l : Launch) (Z : State) (a0 : Array Value) (hw : ∀ d ∈ tables_1, d.before a0 Z = true) (a : Addr) (i : Int32) (to : Int32) (h0 : Heap) (kc : ClassId) (bs : List Int32) (V_a : Arv Z h0 a kc .byte (6 : Int32) (bs.map Value.int) (.int 0)) (hto : to.toInt ≤ 6) :
    Ct l mn_2 method_3_code 4 (some .int) ({ frames := 1, cells := 0, slots := 0, locals := 19 } : Room) Z h0 #[(.ref a), (.int i), (.int to)] (fun v h L => ∃ r, v = some (.int r) ∧ r.toInt = stp (uu bs) to.toInt i.toInt ∧ L = [] ∧ h = h0) := by
  refine Ct.body (plainFor_of_name pn_com_example_tally3_tally3_usage_Utf8FirstMalformedPinLaw) ?_
  intro p e s m below meth c T0 hx hby hml hown hnm hret hlk hZ X0 e0
  refine Go.cast (ef_sp m a i to) ?_
  show Go p e below _ T0 (mkF m 0 #[.val (.ref a), .val (.int i), .val (.int to), .unset] [])
  refine Go.s_iloadN X0 hx (hb hby d2_0) (q := 1) rfl rfl ?_
  by_cases c1_1 : i < (0 : Int32)
  · -- pc 1: i < (0 : Int32)
    refine Go.s_ifYes X0 hx (hb hby d2_1) (q := 9) (by decide) (by decide) ((if0 _ _).trans (tlt c1_1).1) ?_
    refine Go.s_iloadN X0 hx (hb hby d2_9) (q := 10) rfl rfl ?_
    refine Go.retI X0 hx hlk hret (hb hby d2_10) (by decide) (by decide) ?_
    try rw [e0]
    refine ⟨_, rfl, ?_, rfl, rfl⟩
    have := (by decide : (0 : Int32).toInt = 0)
    have := (by decide : (-1 : Int32).toInt = -1)
    have := Int32.lt_iff_toInt_lt.mp c1_1
    have := rng32 i
    have := rng32 (i)
    simp only [stp, tn]
    repeat' split
    all_goals omega
  · -- pc 1: not i < (0 : Int32)
    refine Go.s_ifNo X0 hx (hb hby d2_1) (q := 4) rfl ((if0 _ _).trans (flt c1_1).1) ?_
    refine Go.s_iloadN X0 hx (hb hby d2_4) (q := 5) rfl rfl ?_
    refine Go.s_iloadN X0 hx (hb hby d2_5) (q := 6) rfl rfl ?_
    by_cases c6_2 : i < to
    · -- pc 6: i < to
      refine Go.s_icmpYes X0 hx (hb hby d2_6) (q := 11) (by decide) (by decide) (tlt c6_2).1 ?_
      refine Go.s_aloadN X0 hx (hb hby d2_11) (q := 12) rfl rfl rfl ?_
      refine Go.s_iloadN X0 hx (hb hby d2_12) (q := 13) rfl rfl ?_
      refine Go.s_iloadN X0 hx (hb hby d2_13) (q := 14) rfl rfl ?_
      have hnn : ¬ (i < (0 : Int32)) := c1_1
      have hii := nat_of hnn
      have hlt2 := Int32.lt_iff_toInt_lt.mp c6_2
      refine Go.callS (y := mn_3) X0 hx hZ hown (w_ hw 10 rfl) (w_ hw 11 rfl) (w_ hw 8 rfl) (w_ hw 12 rfl) (by decide) e0 (argsL := [(.ref a), (.int i), (.int to)]) (rest := []) (rm_wl l Z a0 hw a i to _ kc bs i.toNatClampNeg V_a hii (by rw [← hii]; exact hlt2) hto) (by rw [hml]; rfl) (lenOf pd_1 rfl) rfl (hb hby d2_14) (by decide) (by decide) (by decide) (by decide) ?_
      intro r3 T3 L3 q3 X3
      obtain ⟨w3, rfl, p3, rfl, e3⟩ := q3
      rw [List.append_nil] at X3
      rw [← hii] at p3
      show Go p e below _ T3 (mkF m 17 #[.val (.ref a), .val (.int i), .val (.int to), .unset] [(.int w3)])
      refine Go.s_istoreN X3 hx (hb hby d2_17) (q := 18) rfl (l' := #[.val (.ref a), .val (.int i), .val (.int to), .val (.int w3)]) rfl ?_
      refine Go.s_iloadN X3 hx (hb hby d2_18) (q := 19) rfl rfl ?_
      by_cases c19_4 : w3 = (0 : Int32)
      · -- pc 19: w3 = (0 : Int32)
        refine Go.s_ifNo X3 hx (hb hby d2_19) (q := 22) rfl ((if0 _ _).trans (teq c19_4).2) ?_
        refine Go.s_iconst X3 hx (hb hby d2_22) (q := 23) rfl (z := -1) rfl ?_
        refine Go.s_iloadN X3 hx (hb hby d2_23) (q := 24) rfl rfl ?_
        refine Go.s_isub X3 hx (hb hby d2_24) (q := 25) rfl ?_
        refine Go.retI X3 hx hlk hret (hb hby d2_25) (by decide) (by decide) ?_
        try rw [e3]
        refine ⟨_, rfl, ?_, rfl, rfl⟩
        have := (by decide : (0 : Int32).toInt = 0)
        have := (by decide : (-1 : Int32).toInt = -1)
        have := mt Int32.lt_iff_toInt_lt.mpr c1_1
        have := Int32.lt_iff_toInt_lt.mp c6_2
        have := congrArg Int32.toInt c19_4
        have := (by decide : ((-1 : Int32)).toInt = -1)
        have := rng32 i
        have := c_isub (-1 : Int32) i
        have := rng32 ((-1 : Int32) - i)
        have := rng32 (((-1 : Int32) - i))
        simp only [stp, tn]
        have hb := wf_rng (uu bs) i.toNatClampNeg (to.toInt - i.toInt)
        repeat' split
        all_goals omega
      · -- pc 19: not w3 = (0 : Int32)
        refine Go.s_ifYes X3 hx (hb hby d2_19) (q := 26) (by decide) (by decide) ((if0 _ _).trans (feq c19_4).2) ?_
        refine Go.s_iloadN X3 hx (hb hby d2_26) (q := 27) rfl rfl ?_
        refine Go.s_iloadN X3 hx (hb hby d2_27) (q := 28) rfl rfl ?_
        refine Go.s_iadd X3 hx (hb hby d2_28) (q := 29) rfl ?_
        refine Go.retI X3 hx hlk hret (hb hby d2_29) (by decide) (by decide) ?_
        try rw [e3]
        refine ⟨_, rfl, ?_, rfl, rfl⟩
        have := (by decide : (0 : Int32).toInt = 0)
        have := (by decide : (-1 : Int32).toInt = -1)
        have := mt Int32.lt_iff_toInt_lt.mpr c1_1
        have := Int32.lt_iff_toInt_lt.mp c6_2
        have := mt Int32.toInt_inj.mp c19_4
        have := rng32 i
        have := rng32 w3
        have := c_iadd i w3
        have := rng32 (i + w3)
        have := rng32 ((i + w3))
        simp only [stp, tn]
        have hb := wf_rng (uu bs) i.toNatClampNeg (to.toInt - i.toInt)
        repeat' split
        all_goals omega
    · -- pc 6: not i < to
      refine Go.s_icmpNo X0 hx (hb hby d2_6) (q := 9) rfl (flt c6_2).1 ?_
      refine Go.s_iloadN X0 hx (hb hby d2_9) (q := 10) rfl rfl ?_
      refine Go.retI X0 hx hlk hret (hb hby d2_10) (by decide) (by decide) ?_
      try rw [e0]
      refine ⟨_, rfl, ?_, rfl, rfl⟩
      have := (by decide : (0 : Int32).toInt = 0)
      have := (by decide : (-1 : Int32).toInt = -1)
      have := mt Int32.lt_iff_toInt_lt.mpr c1_1
      have := mt Int32.lt_iff_toInt_lt.mpr c6_2
      have := rng32 i
      have := rng32 (i)
      simp only [stp, tn]
      repeat' split
      all_goals omega
theorem ef_law (m : MethodId) (x0 : Int32) (x1 : Int32) (x2 : Int32) (x3 : Int32) : entryFrame m #[(.int x0), (.int x1), (.int x2), (.int x3)] maxLocals = mkF m 0 #[.val (.int x0), .val (.int x1), .val (.int x2), .val (.int x3), .unset, .unset, .unset, .unset, .unset, .unset] [] := by first | (simp [entryFrame, mkF, argsToLocals, Value.category, maxLocals]; done) | rfl
set_option maxRecDepth 65536 in
set_option maxHeartbeats 40000000 in
theorem rm_law (l : Launch) (Z : State) (a0 : Array Value) (hw : ∀ d ∈ tables_1, d.before a0 Z = true) (x0 : Int32) (x1 : Int32) (x2 : Int32) (x3 : Int32) (h0 : Heap) (n0 : Nat) (Z0 : n0 ≤ h0.size) :
    Ct l x code maxLocals ret room_1 Z h0 #[(.int x0), (.int x1), (.int x2), (.int x3)] (fun v h L => v = some (.int 1) ∧ Fr n0 L) := by
  refine Ct.body (plainFor_of_name pn_com_example_tally3_tally3_usage_Utf8FirstMalformedPinLaw) ?_
  intro p e s m below meth c T0 hx hby hml hown hnm hret hlk hZ X0 e0
  refine Go.cast (ef_law m x0 x1 x2 x3) ?_
  show Go p e below _ T0 (mkF m 0 #[.val (.int x0), .val (.int x1), .val (.int x2), .val (.int x3), .unset, .unset, .unset, .unset, .unset, .unset] [])
  refine Go.s_bipush X0 hx (hb hby at_0) (q := 2) rfl (z := 6) rfl ?_
  refine Go.newP X0 hx hZ (w_ hw 0 rfl) e0 (hb hby at_2) (by decide) (cap := 6) (by decide) (by decide) (by decide) (by decide) ?_
  intro T1 h1 b1 k1 g1 X1 e1 E1 V1
  have g_b1 : n0 ≤ b1 := g1 ▸ Z0
  have Z0_v2 := Nat.le_trans Z0 E1.1
  have V1_3 : Arv Z h1 b1 k1 .byte (6 : Int32) [(.int (0 : Int32)), (.int (0 : Int32)), (.int (0 : Int32)), (.int (0 : Int32)), (.int (0 : Int32)), (.int (0 : Int32))] (.int (0 : Int32)) := V1.pad (pad_rep [] (.int (0 : Int32)) 6)
  show Go p e below _ T1 (mkF m 4 #[.val (.int x0), .val (.int x1), .val (.int x2), .val (.int x3), .unset, .unset, .unset, .unset, .unset, .unset] [(.ref b1)])
  refine Go.s_astore X1 hx (hb hby at_4) (q := 6) rfl rfl (l' := #[.val (.int x0), .val (.int x1), .val (.int x2), .val (.int x3), .val (.ref b1), .unset, .unset, .unset, .unset, .unset]) rfl ?_
  refine Go.s_aload X1 hx (hb hby at_6) (q := 8) rfl rfl rfl ?_
  refine Go.s_iconst X1 hx (hb hby at_8) (q := 9) rfl (z := 0) rfl ?_
  refine Go.s_iloadN X1 hx (hb hby at_9) (q := 10) rfl rfl ?_
  refine Go.s_i2b X1 hx (hb hby at_10) (q := 11) rfl ?_
  refine Go.stB X1 hx hZ e1 V1_3 ⟨by decide, by decide⟩ 0 rfl (by first | decide | exact Nat.le_of_ble_eq_true rfl) (hb hby at_11) ?_
  intro T4 h4 X4 e4 W4 V4
  have N4 := Fr.snoc X4 (Fr.nil n0) g_b1
  have Z0_v5 := Nat.le_trans Z0_v2 (Keep.of_wr W4).1
  have V4_6 : Arv Z h4 b1 k1 .byte (6 : Int32) [(.int (nar .byte (x0.toInt8.toInt32))), (.int (0 : Int32)), (.int (0 : Int32)), (.int (0 : Int32)), (.int (0 : Int32)), (.int (0 : Int32))] (.int (0 : Int32)) := V4
  show Go p e below _ T4 (mkF m 12 #[.val (.int x0), .val (.int x1), .val (.int x2), .val (.int x3), .val (.ref b1), .unset, .unset, .unset, .unset, .unset] [])
  refine Go.s_aload X4 hx (hb hby at_12) (q := 14) rfl rfl rfl ?_
  refine Go.s_iconst X4 hx (hb hby at_14) (q := 15) rfl (z := 1) rfl ?_
  refine Go.s_iloadN X4 hx (hb hby at_15) (q := 16) rfl rfl ?_
  refine Go.s_bipush X4 hx (hb hby at_16) (q := 18) rfl (z := 8) rfl ?_
  refine Go.s_ishr X4 hx (hb hby at_18) (q := 19) rfl ?_
  refine Go.s_i2b X4 hx (hb hby at_19) (q := 20) rfl ?_
  refine Go.stB X4 hx hZ e4 V4_6 ⟨by decide, by decide⟩ 1 rfl (by first | decide | exact Nat.le_of_ble_eq_true rfl) (hb hby at_20) ?_
  intro T7 h7 X7 e7 W7 V7
  have N7 := Fr.snoc X7 N4 g_b1
  have Z0_v8 := Nat.le_trans Z0_v5 (Keep.of_wr W7).1
  have V7_9 : Arv Z h7 b1 k1 .byte (6 : Int32) [(.int (nar .byte (x0.toInt8.toInt32))), (.int (nar .byte ((x0 >>> ((8 : Int32) &&& 31)).toInt8.toInt32))), (.int (0 : Int32)), (.int (0 : Int32)), (.int (0 : Int32)), (.int (0 : Int32))] (.int (0 : Int32)) := V7
  show Go p e below _ T7 (mkF m 21 #[.val (.int x0), .val (.int x1), .val (.int x2), .val (.int x3), .val (.ref b1), .unset, .unset, .unset, .unset, .unset] [])
  refine Go.s_aload X7 hx (hb hby at_21) (q := 23) rfl rfl rfl ?_
  refine Go.s_iconst X7 hx (hb hby at_23) (q := 24) rfl (z := 2) rfl ?_
  refine Go.s_iloadN X7 hx (hb hby at_24) (q := 25) rfl rfl ?_
  refine Go.s_bipush X7 hx (hb hby at_25) (q := 27) rfl (z := 16) rfl ?_
  refine Go.s_ishr X7 hx (hb hby at_27) (q := 28) rfl ?_
  refine Go.s_i2b X7 hx (hb hby at_28) (q := 29) rfl ?_
  refine Go.stB X7 hx hZ e7 V7_9 ⟨by decide, by decide⟩ 2 rfl (by first | decide | exact Nat.le_of_ble_eq_true rfl) (hb hby at_29) ?_
  intro T10 h10 X10 e10 W10 V10
  have N10 := Fr.snoc X10 N7 g_b1
  have Z0_v11 := Nat.le_trans Z0_v8 (Keep.of_wr W10).1
  have V10_12 : Arv Z h10 b1 k1 .byte (6 : Int32) [(.int (nar .byte (x0.toInt8.toInt32))), (.int (nar .byte ((x0 >>> ((8 : Int32) &&& 31)).toInt8.toInt32))), (.int (nar .byte ((x0 >>> ((16 : Int32) &&& 31)).toInt8.toInt32))), (.int (0 : Int32)), (.int (0 : Int32)), (.int (0 : Int32))] (.int (0 : Int32)) := V10
  show Go p e below _ T10 (mkF m 30 #[.val (.int x0), .val (.int x1), .val (.int x2), .val (.int x3), .val (.ref b1), .unset, .unset, .unset, .unset, .unset] [])
  refine Go.s_aload X10 hx (hb hby at_30) (q := 32) rfl rfl rfl ?_
  refine Go.s_iconst X10 hx (hb hby at_32) (q := 33) rfl (z := 3) rfl ?_
  refine Go.s_iloadN X10 hx (hb hby at_33) (q := 34) rfl rfl ?_
  refine Go.s_bipush X10 hx (hb hby at_34) (q := 36) rfl (z := 24) rfl ?_
  refine Go.s_iushr X10 hx (hb hby at_36) (q := 37) rfl ?_
  refine Go.s_i2b X10 hx (hb hby at_37) (q := 38) rfl ?_
  refine Go.stB X10 hx hZ e10 V10_12 ⟨by decide, by decide⟩ 3 rfl (by first | decide | exact Nat.le_of_ble_eq_true rfl) (hb hby at_38) ?_
  intro T13 h13 X13 e13 W13 V13
  have N13 := Fr.snoc X13 N10 g_b1
  have Z0_v14 := Nat.le_trans Z0_v11 (Keep.of_wr W13).1
  have V13_15 : Arv Z h13 b1 k1 .byte (6 : Int32) [(.int (nar .byte (x0.toInt8.toInt32))), (.int (nar .byte ((x0 >>> ((8 : Int32) &&& 31)).toInt8.toInt32))), (.int (nar .byte ((x0 >>> ((16 : Int32) &&& 31)).toInt8.toInt32))), (.int (nar .byte (((x0.toUInt32 >>> ((24 : Int32) &&& 31).toUInt32).toInt32).toInt8.toInt32))), (.int (0 : Int32)), (.int (0 : Int32))] (.int (0 : Int32)) := V13
  show Go p e below _ T13 (mkF m 39 #[.val (.int x0), .val (.int x1), .val (.int x2), .val (.int x3), .val (.ref b1), .unset, .unset, .unset, .unset, .unset] [])
  refine Go.s_aload X13 hx (hb hby at_39) (q := 41) rfl rfl rfl ?_
  refine Go.s_iconst X13 hx (hb hby at_41) (q := 42) rfl (z := 4) rfl ?_
  refine Go.s_iloadN X13 hx (hb hby at_42) (q := 43) rfl rfl ?_
  refine Go.s_i2b X13 hx (hb hby at_43) (q := 44) rfl ?_
  refine Go.stB X13 hx hZ e13 V13_15 ⟨by decide, by decide⟩ 4 rfl (by first | decide | exact Nat.le_of_ble_eq_true rfl) (hb hby at_44) ?_
  intro T16 h16 X16 e16 W16 V16
  have N16 := Fr.snoc X16 N13 g_b1
  have Z0_v17 := Nat.le_trans Z0_v14 (Keep.of_wr W16).1
  have V16_18 : Arv Z h16 b1 k1 .byte (6 : Int32) [(.int (nar .byte (x0.toInt8.toInt32))), (.int (nar .byte ((x0 >>> ((8 : Int32) &&& 31)).toInt8.toInt32))), (.int (nar .byte ((x0 >>> ((16 : Int32) &&& 31)).toInt8.toInt32))), (.int (nar .byte (((x0.toUInt32 >>> ((24 : Int32) &&& 31).toUInt32).toInt32).toInt8.toInt32))), (.int (nar .byte (x1.toInt8.toInt32))), (.int (0 : Int32))] (.int (0 : Int32)) := V16
  show Go p e below _ T16 (mkF m 45 #[.val (.int x0), .val (.int x1), .val (.int x2), .val (.int x3), .val (.ref b1), .unset, .unset, .unset, .unset, .unset] [])
  refine Go.s_aload X16 hx (hb hby at_45) (q := 47) rfl rfl rfl ?_
  refine Go.s_iconst X16 hx (hb hby at_47) (q := 48) rfl (z := 5) rfl ?_
  refine Go.s_iloadN X16 hx (hb hby at_48) (q := 49) rfl rfl ?_
  refine Go.s_bipush X16 hx (hb hby at_49) (q := 51) rfl (z := 8) rfl ?_
  refine Go.s_ishr X16 hx (hb hby at_51) (q := 52) rfl ?_
  refine Go.s_i2b X16 hx (hb hby at_52) (q := 53) rfl ?_
  refine Go.stB X16 hx hZ e16 V16_18 ⟨by decide, by decide⟩ 5 rfl (by first | decide | exact Nat.le_of_ble_eq_true rfl) (hb hby at_53) ?_
  intro T19 h19 X19 e19 W19 V19
  have N19 := Fr.snoc X19 N16 g_b1
  have Z0_v20 := Nat.le_trans Z0_v17 (Keep.of_wr W19).1
  have V19_21 : Arv Z h19 b1 k1 .byte (6 : Int32) [(.int (nar .byte (x0.toInt8.toInt32))), (.int (nar .byte ((x0 >>> ((8 : Int32) &&& 31)).toInt8.toInt32))), (.int (nar .byte ((x0 >>> ((16 : Int32) &&& 31)).toInt8.toInt32))), (.int (nar .byte (((x0.toUInt32 >>> ((24 : Int32) &&& 31).toUInt32).toInt32).toInt8.toInt32))), (.int (nar .byte (x1.toInt8.toInt32))), (.int (nar .byte ((x1 >>> ((8 : Int32) &&& 31)).toInt8.toInt32)))] (.int (0 : Int32)) := V19
  generalize (nar .byte (x0.toInt8.toInt32)) = byt0 at V19_21
  generalize (nar .byte ((x0 >>> ((8 : Int32) &&& 31)).toInt8.toInt32)) = byt1 at V19_21
  generalize (nar .byte ((x0 >>> ((16 : Int32) &&& 31)).toInt8.toInt32)) = byt2 at V19_21
  generalize (nar .byte (((x0.toUInt32 >>> ((24 : Int32) &&& 31).toUInt32).toInt32).toInt8.toInt32)) = byt3 at V19_21
  generalize (nar .byte (x1.toInt8.toInt32)) = byt4 at V19_21
  generalize (nar .byte ((x1 >>> ((8 : Int32) &&& 31)).toInt8.toInt32)) = byt5 at V19_21
  show Go p e below _ T19 (mkF m 54 #[.val (.int x0), .val (.int x1), .val (.int x2), .val (.int x3), .val (.ref b1), .unset, .unset, .unset, .unset, .unset] [])
  refine Go.s_iloadN X19 hx (hb hby at_54) (q := 55) rfl rfl ?_
  refine Go.s_ldc X19 hx (hb hby at_55) (q := 57) rfl hown (mvT hZ (w_ hw 1 rfl)) ?_
  refine Go.s_iand X19 hx (hb hby at_57) (q := 58) rfl ?_
  refine Go.s_bipush X19 hx (hb hby at_58) (q := 60) rfl (z := 7) rfl ?_
  refine Go.s_irem X19 hx (hb hby at_60) (q := 61) rfl (by decide) ?_
  refine Go.s_istore X19 hx (hb hby at_61) (q := 63) rfl (l' := #[.val (.int x0), .val (.int x1), .val (.int x2), .val (.int x3), .val (.ref b1), .val (.int ((x2 &&& (2147483647 : Int32)) % (7 : Int32))), .unset, .unset, .unset, .unset]) rfl ?_
  generalize hv22 : ((x2 &&& (2147483647 : Int32)) % (7 : Int32)) = v22
  refine Go.s_iload X19 hx (hb hby at_63) (q := 65) rfl rfl ?_
  refine Go.s_iloadN X19 hx (hb hby at_65) (q := 66) rfl rfl ?_
  refine Go.s_ldc X19 hx (hb hby at_66) (q := 68) rfl hown (mvT hZ (w_ hw 1 rfl)) ?_
  refine Go.s_iand X19 hx (hb hby at_68) (q := 69) rfl ?_
  refine Go.s_bipush X19 hx (hb hby at_69) (q := 71) rfl (z := 7) rfl ?_
  refine Go.s_iload X19 hx (hb hby at_71) (q := 73) rfl rfl ?_
  refine Go.s_isub X19 hx (hb hby at_73) (q := 74) rfl ?_
  refine Go.s_irem X19 hx (hb hby at_74) (q := 75) rfl (sub_nz hv22) ?_
  refine Go.s_iadd X19 hx (hb hby at_75) (q := 76) rfl ?_
  refine Go.s_istore X19 hx (hb hby at_76) (q := 78) rfl (l' := #[.val (.int x0), .val (.int x1), .val (.int x2), .val (.int x3), .val (.ref b1), .val (.int v22), .val (.int (v22 + ((x3 &&& (2147483647 : Int32)) % ((7 : Int32) - v22)))), .unset, .unset, .unset]) rfl ?_
  generalize hv23 : (v22 + ((x3 &&& (2147483647 : Int32)) % ((7 : Int32) - v22))) = v23
  refine Go.s_aload X19 hx (hb hby at_78) (q := 80) rfl rfl rfl ?_
  refine Go.s_iload X19 hx (hb hby at_80) (q := 82) rfl rfl ?_
  refine Go.s_iload X19 hx (hb hby at_82) (q := 84) rfl rfl ?_
  obtain ⟨bf0, bft, bt6⟩ := bounds hv22 hv23
  have hff := nat_of (j := v22) (fun q => by have := Int32.lt_iff_toInt_lt.mp q; have : (0 : Int32).toInt = 0 := (by decide); omega)
  refine Go.callS (y := mn_1) X19 hx hZ hown (w_ hw 2 rfl) (w_ hw 3 rfl) (w_ hw 4 rfl) (w_ hw 5 rfl) (by decide) e19 (argsL := [(.ref b1), (.int v22), (.int v23)]) (rest := []) (rm_fm l Z a0 hw b1 v22 v23 _ _ [byt0, byt1, byt2, byt3, byt4, byt5] v22.toNatClampNeg V19_21 hff bt6) (by rw [hml]; rfl) (lenOf pd_1 rfl) rfl (hb hby at_84) (by decide) (by decide) (by decide) (by decide) ?_
  intro r24 T24 L24 q24 X24
  obtain ⟨w24, rfl, p24, rfl, e24⟩ := q24
  rw [List.append_nil] at X24
  show Go p e below _ T24 (mkF m 87 #[.val (.int x0), .val (.int x1), .val (.int x2), .val (.int x3), .val (.ref b1), .val (.int v22), .val (.int v23), .unset, .unset, .unset] [(.int w24)])
  refine Go.s_istore X24 hx (hb hby at_87) (q := 89) rfl (l' := #[.val (.int x0), .val (.int x1), .val (.int x2), .val (.int x3), .val (.ref b1), .val (.int v22), .val (.int v23), .val (.int w24), .unset, .unset]) rfl ?_
  refine Go.s_iload X24 hx (hb hby at_89) (q := 91) rfl rfl ?_
  refine Go.s_istore X24 hx (hb hby at_91) (q := 93) rfl (l' := #[.val (.int x0), .val (.int x1), .val (.int x2), .val (.int x3), .val (.ref b1), .val (.int v22), .val (.int v23), .val (.int w24), .val (.int v22), .unset]) rfl ?_
  refine Go.s_aload X24 hx (hb hby at_93) (q := 95) rfl rfl rfl ?_
  refine Go.s_iload X24 hx (hb hby at_95) (q := 97) rfl rfl ?_
  refine Go.s_iload X24 hx (hb hby at_97) (q := 99) rfl rfl ?_
  refine Go.callS (y := mn_2) X24 hx hZ hown (w_ hw 6 rfl) (w_ hw 7 rfl) (w_ hw 8 rfl) (w_ hw 9 rfl) (by decide) e24 (argsL := [(.ref b1), (.int v22), (.int v23)]) (rest := []) (rm_sp l Z a0 hw b1 v22 v23 _ _ [byt0, byt1, byt2, byt3, byt4, byt5] V19_21 bt6) (by rw [hml]; rfl) (lenOf pd_1 rfl) rfl (hb hby at_99) (by decide) (by decide) (by decide) (by decide) ?_
  intro r25 T25 L25 q25 X25
  obtain ⟨w25, rfl, p25, rfl, e25⟩ := q25
  rw [List.append_nil] at X25
  show Go p e below _ T25 (mkF m 102 #[.val (.int x0), .val (.int x1), .val (.int x2), .val (.int x3), .val (.ref b1), .val (.int v22), .val (.int v23), .val (.int w24), .val (.int v22), .unset] [(.int w25)])
  refine Go.s_istore X25 hx (hb hby at_102) (q := 104) rfl (l' := #[.val (.int x0), .val (.int x1), .val (.int x2), .val (.int x3), .val (.ref b1), .val (.int v22), .val (.int v23), .val (.int w24), .val (.int w25), .unset]) rfl ?_
  refine Go.s_aload X25 hx (hb hby at_104) (q := 106) rfl rfl rfl ?_
  refine Go.s_iload X25 hx (hb hby at_106) (q := 108) rfl rfl ?_
  refine Go.s_iload X25 hx (hb hby at_108) (q := 110) rfl rfl ?_
  refine Go.callS (y := mn_2) X25 hx hZ hown (w_ hw 6 rfl) (w_ hw 7 rfl) (w_ hw 8 rfl) (w_ hw 9 rfl) (by decide) e25 (argsL := [(.ref b1), (.int w25), (.int v23)]) (rest := []) (rm_sp l Z a0 hw b1 w25 v23 _ _ [byt0, byt1, byt2, byt3, byt4, byt5] V19_21 bt6) (by rw [hml]; rfl) (lenOf pd_1 rfl) rfl (hb hby at_110) (by decide) (by decide) (by decide) (by decide) ?_
  intro r26 T26 L26 q26 X26
  obtain ⟨w26, rfl, p26, rfl, e26⟩ := q26
  rw [List.append_nil] at X26
  show Go p e below _ T26 (mkF m 113 #[.val (.int x0), .val (.int x1), .val (.int x2), .val (.int x3), .val (.ref b1), .val (.int v22), .val (.int v23), .val (.int w24), .val (.int w25), .unset] [(.int w26)])
  refine Go.s_istore X26 hx (hb hby at_113) (q := 115) rfl (l' := #[.val (.int x0), .val (.int x1), .val (.int x2), .val (.int x3), .val (.ref b1), .val (.int v22), .val (.int v23), .val (.int w24), .val (.int w26), .unset]) rfl ?_
  refine Go.s_aload X26 hx (hb hby at_115) (q := 117) rfl rfl rfl ?_
  refine Go.s_iload X26 hx (hb hby at_117) (q := 119) rfl rfl ?_
  refine Go.s_iload X26 hx (hb hby at_119) (q := 121) rfl rfl ?_
  refine Go.callS (y := mn_2) X26 hx hZ hown (w_ hw 6 rfl) (w_ hw 7 rfl) (w_ hw 8 rfl) (w_ hw 9 rfl) (by decide) e26 (argsL := [(.ref b1), (.int w26), (.int v23)]) (rest := []) (rm_sp l Z a0 hw b1 w26 v23 _ _ [byt0, byt1, byt2, byt3, byt4, byt5] V19_21 bt6) (by rw [hml]; rfl) (lenOf pd_1 rfl) rfl (hb hby at_121) (by decide) (by decide) (by decide) (by decide) ?_
  intro r27 T27 L27 q27 X27
  obtain ⟨w27, rfl, p27, rfl, e27⟩ := q27
  rw [List.append_nil] at X27
  show Go p e below _ T27 (mkF m 124 #[.val (.int x0), .val (.int x1), .val (.int x2), .val (.int x3), .val (.ref b1), .val (.int v22), .val (.int v23), .val (.int w24), .val (.int w26), .unset] [(.int w27)])
  refine Go.s_istore X27 hx (hb hby at_124) (q := 126) rfl (l' := #[.val (.int x0), .val (.int x1), .val (.int x2), .val (.int x3), .val (.ref b1), .val (.int v22), .val (.int v23), .val (.int w24), .val (.int w27), .unset]) rfl ?_
  refine Go.s_aload X27 hx (hb hby at_126) (q := 128) rfl rfl rfl ?_
  refine Go.s_iload X27 hx (hb hby at_128) (q := 130) rfl rfl ?_
  refine Go.s_iload X27 hx (hb hby at_130) (q := 132) rfl rfl ?_
  refine Go.callS (y := mn_2) X27 hx hZ hown (w_ hw 6 rfl) (w_ hw 7 rfl) (w_ hw 8 rfl) (w_ hw 9 rfl) (by decide) e27 (argsL := [(.ref b1), (.int w27), (.int v23)]) (rest := []) (rm_sp l Z a0 hw b1 w27 v23 _ _ [byt0, byt1, byt2, byt3, byt4, byt5] V19_21 bt6) (by rw [hml]; rfl) (lenOf pd_1 rfl) rfl (hb hby at_132) (by decide) (by decide) (by decide) (by decide) ?_
  intro r28 T28 L28 q28 X28
  obtain ⟨w28, rfl, p28, rfl, e28⟩ := q28
  rw [List.append_nil] at X28
  show Go p e below _ T28 (mkF m 135 #[.val (.int x0), .val (.int x1), .val (.int x2), .val (.int x3), .val (.ref b1), .val (.int v22), .val (.int v23), .val (.int w24), .val (.int w27), .unset] [(.int w28)])
  refine Go.s_istore X28 hx (hb hby at_135) (q := 137) rfl (l' := #[.val (.int x0), .val (.int x1), .val (.int x2), .val (.int x3), .val (.ref b1), .val (.int v22), .val (.int v23), .val (.int w24), .val (.int w28), .unset]) rfl ?_
  refine Go.s_aload X28 hx (hb hby at_137) (q := 139) rfl rfl rfl ?_
  refine Go.s_iload X28 hx (hb hby at_139) (q := 141) rfl rfl ?_
  refine Go.s_iload X28 hx (hb hby at_141) (q := 143) rfl rfl ?_
  refine Go.callS (y := mn_2) X28 hx hZ hown (w_ hw 6 rfl) (w_ hw 7 rfl) (w_ hw 8 rfl) (w_ hw 9 rfl) (by decide) e28 (argsL := [(.ref b1), (.int w28), (.int v23)]) (rest := []) (rm_sp l Z a0 hw b1 w28 v23 _ _ [byt0, byt1, byt2, byt3, byt4, byt5] V19_21 bt6) (by rw [hml]; rfl) (lenOf pd_1 rfl) rfl (hb hby at_143) (by decide) (by decide) (by decide) (by decide) ?_
  intro r29 T29 L29 q29 X29
  obtain ⟨w29, rfl, p29, rfl, e29⟩ := q29
  rw [List.append_nil] at X29
  show Go p e below _ T29 (mkF m 146 #[.val (.int x0), .val (.int x1), .val (.int x2), .val (.int x3), .val (.ref b1), .val (.int v22), .val (.int v23), .val (.int w24), .val (.int w28), .unset] [(.int w29)])
  refine Go.s_istore X29 hx (hb hby at_146) (q := 148) rfl (l' := #[.val (.int x0), .val (.int x1), .val (.int x2), .val (.int x3), .val (.ref b1), .val (.int v22), .val (.int v23), .val (.int w24), .val (.int w29), .unset]) rfl ?_
  refine Go.s_aload X29 hx (hb hby at_148) (q := 150) rfl rfl rfl ?_
  refine Go.s_iload X29 hx (hb hby at_150) (q := 152) rfl rfl ?_
  refine Go.s_iload X29 hx (hb hby at_152) (q := 154) rfl rfl ?_
  refine Go.callS (y := mn_2) X29 hx hZ hown (w_ hw 6 rfl) (w_ hw 7 rfl) (w_ hw 8 rfl) (w_ hw 9 rfl) (by decide) e29 (argsL := [(.ref b1), (.int w29), (.int v23)]) (rest := []) (rm_sp l Z a0 hw b1 w29 v23 _ _ [byt0, byt1, byt2, byt3, byt4, byt5] V19_21 bt6) (by rw [hml]; rfl) (lenOf pd_1 rfl) rfl (hb hby at_154) (by decide) (by decide) (by decide) (by decide) ?_
  intro r30 T30 L30 q30 X30
  obtain ⟨w30, rfl, p30, rfl, e30⟩ := q30
  rw [List.append_nil] at X30
  show Go p e below _ T30 (mkF m 157 #[.val (.int x0), .val (.int x1), .val (.int x2), .val (.int x3), .val (.ref b1), .val (.int v22), .val (.int v23), .val (.int w24), .val (.int w29), .unset] [(.int w30)])
  refine Go.s_istore X30 hx (hb hby at_157) (q := 159) rfl (l' := #[.val (.int x0), .val (.int x1), .val (.int x2), .val (.int x3), .val (.ref b1), .val (.int v22), .val (.int v23), .val (.int w24), .val (.int w30), .unset]) rfl ?_
  refine Go.s_iload X30 hx (hb hby at_159) (q := 161) rfl rfl ?_
  by_cases c161_31 : w30 < (0 : Int32)
  · -- pc 161: w30 < (0 : Int32)
    refine Go.s_ifNo X30 hx (hb hby at_161) (q := 164) rfl ((if0 _ _).trans (tlt c161_31).2.1) ?_
    refine Go.s_iconst X30 hx (hb hby at_164) (q := 165) rfl (z := -1) rfl ?_
    refine Go.s_iload X30 hx (hb hby at_165) (q := 167) rfl rfl ?_
    refine Go.s_isub X30 hx (hb hby at_167) (q := 168) rfl ?_
    refine Go.s_goto X30 hx (hb hby at_168) (q := 172) (by decide) (by decide) ?_
    refine Go.s_istore X30 hx (hb hby at_172) (q := 174) rfl (l' := #[.val (.int x0), .val (.int x1), .val (.int x2), .val (.int x3), .val (.ref b1), .val (.int v22), .val (.int v23), .val (.int w24), .val (.int w30), .val (.int ((-1 : Int32) - w30))]) rfl ?_
    generalize hv32 : ((-1 : Int32) - w30) = v32
    refine Go.s_iload X30 hx (hb hby at_174) (q := 176) rfl rfl ?_
    refine Go.s_iload X30 hx (hb hby at_176) (q := 178) rfl rfl ?_
    by_cases c178_33 : w24 = v32
    · -- pc 178: w24 = v32
      refine Go.s_icmpNo X30 hx (hb hby at_178) (q := 181) rfl (teq c178_33).2 ?_
      refine Go.s_iconst X30 hx (hb hby at_181) (q := 182) rfl (z := 1) rfl ?_
      refine Go.s_goto X30 hx (hb hby at_182) (q := 186) (by decide) (by decide) ?_
      refine Go.retN X30 hx hlk hret (by simp) (hb hby at_186) (by decide) (by decide) ?_
      try rw [e30]
      exact ⟨by decide, N19⟩
    · -- pc 178: not w24 = v32
      refine Go.s_icmpYes X30 hx (hb hby at_178) (q := 185) (by decide) (by decide) (feq c178_33).2 ?_
      refine Go.s_iconst X30 hx (hb hby at_185) (q := 186) rfl (z := 0) rfl ?_
      refine Go.retN X30 hx hlk hret (by simp) (hb hby at_186) (by decide) (by decide) ?_
      try rw [e30]
      exfalso
      have fin := six (uu [byt0, byt1, byt2, byt3, byt4, byt5]) hff bf0 (le_six hff bf0 bt6) p24 p25 p26 p27 p28 p29 p30
      exact last_neg fin c161_31 hv32 c178_33
  · -- pc 161: not w30 < (0 : Int32)
    refine Go.s_ifYes X30 hx (hb hby at_161) (q := 171) (by decide) (by decide) ((if0 _ _).trans (flt c161_31).2.1) ?_
    refine Go.s_iconst X30 hx (hb hby at_171) (q := 172) rfl (z := -1) rfl ?_
    refine Go.s_istore X30 hx (hb hby at_172) (q := 174) rfl (l' := #[.val (.int x0), .val (.int x1), .val (.int x2), .val (.int x3), .val (.ref b1), .val (.int v22), .val (.int v23), .val (.int w24), .val (.int w30), .val (.int (-1 : Int32))]) rfl ?_
    refine Go.s_iload X30 hx (hb hby at_174) (q := 176) rfl rfl ?_
    refine Go.s_iload X30 hx (hb hby at_176) (q := 178) rfl rfl ?_
    by_cases c178_34 : w24 = (-1 : Int32)
    · -- pc 178: w24 = (-1 : Int32)
      refine Go.s_icmpNo X30 hx (hb hby at_178) (q := 181) rfl (teq c178_34).2 ?_
      refine Go.s_iconst X30 hx (hb hby at_181) (q := 182) rfl (z := 1) rfl ?_
      refine Go.s_goto X30 hx (hb hby at_182) (q := 186) (by decide) (by decide) ?_
      refine Go.retN X30 hx hlk hret (by simp) (hb hby at_186) (by decide) (by decide) ?_
      try rw [e30]
      exact ⟨by decide, N19⟩
    · -- pc 178: not w24 = (-1 : Int32)
      refine Go.s_icmpYes X30 hx (hb hby at_178) (q := 185) (by decide) (by decide) (feq c178_34).2 ?_
      refine Go.s_iconst X30 hx (hb hby at_185) (q := 186) rfl (z := 0) rfl ?_
      refine Go.retN X30 hx hlk hret (by simp) (hb hby at_186) (by decide) (by decide) ?_
      try rw [e30]
      exfalso
      have fin := six (uu [byt0, byt1, byt2, byt3, byt4, byt5]) hff bf0 (le_six hff bf0 bt6) p24 p25 p26 p27 p28 p29 p30
      exact last_pos fin c161_31 c178_34
set_option maxRecDepth 65536 in
set_option maxHeartbeats 40000000 in
theorem comes_1 {Post : Tables → Env → Array Value → State → Outcome → State → Prop} (hpost : ∀ tb e args s v u, (limb_1_1.after args s (.returned v) u = true ∧ limb_1_2.after args s (.returned v) u = true ∧ True) → FrameEnd s (.returned v) u (Jvm.fieldLocs frame_1_writes args s ++ Jvm.arrayLocs frame_1_arrays args s ++ Jvm.staticLocs frame_1_statics s) 16 128 → Post tb e args s (.returned v) u) :
    ArmFor flags0 classFile x code maxLocals ret World_1 tables_1 room_1 Calls_1 rest_1 Pre_1 Post := by
  intro l hfl _ _ p e ha hc hk s m args below hf hA hF happ hP
  obtain ⟨hcalls, hrest, hpre⟩ := hP
  obtain ⟨-, -, -, hnamed, -, -, -, hat⟩ := (Spec.applies_iff hf).mp happ
  obtain ⟨hg, hn⟩ := and_e (Cond.before_iff.mp (show (Jvm.Cond.and given_1 narrow_1).before args s = true from hpre))
  obtain ⟨hgl, hgr⟩ := and_e hg
  obtain ⟨hgrl, hgrr⟩ := and_e hgr
  obtain ⟨hgrrl, hgrrr⟩ := and_e hgrr
  obtain ⟨hgrrrl, hgrrrr⟩ := and_e hgrrr
  obtain ⟨w0, w1, w2, w3, rfl⟩ : ∃ w0 w1 w2 w3 : Value, args = #[w0, w1, w2, w3] := by
    have hs : args.size = 4 := by simpa [Cond.value, given_1] using hgl
    obtain ⟨L⟩ := args
    match L, hs with
    | [w0, w1, w2, w3], _ => exact ⟨w0, w1, w2, w3, rfl⟩
  have hw := fun d (hd : d ∈ tables_1) => atoms_spec (ws := Jvm.Cond.code x code maxLocals ret :: tables_1) hat d (List.mem_cons_of_mem _ hd)
  obtain ⟨i0, ev0⟩ := is_v hgrl
  obtain rfl : w0 = (.int i0) := Option.some.inj ev0
  obtain ⟨i1, ev1⟩ := is_v hgrrl
  obtain rfl : w1 = (.int i1) := Option.some.inj ev1
  obtain ⟨i2, ev2⟩ := is_v hgrrrl
  obtain rfl : w2 = (.int i2) := Option.some.inj ev2
  obtain ⟨i3, ev3⟩ := is_v hgrrrr
  obtain rfl : w3 = (.int i3) := Option.some.inj ev3
  obtain ⟨n, o, h1, h2, h3, _, L, rfl, ⟨rfl, N⟩, hq⟩ := rm_law l s _ hw i0 i1 i2 i3 s.heap s.heap.size (Nat.le_refl _) tables_1 p e ha hc hk s m _ below hf ((Spec.applies_iff_loose hf).mp happ).1 ⟨rfl, State.Warmed39.refl s, rfl⟩ trivial
  refine ⟨n, _, h1, h2, h3, hpost _ _ _ _ _ _ ⟨Cond.after_iff.mpr rfl, Cond.after_iff.mpr (eq_i res_at (Term.int_eval (1)) rfl), trivial⟩ ⟨hq.1, hq.2.1, (hq.2.2.sift fun y hy => Or.inr (N y hy)).mono (by decide) (by decide)⟩⟩
theorem main_1_1 : Claimed_1_1 := comes_1 fun _ _ _ _ _ _ h hF => ⟨h.1, hF⟩
theorem main_1_2 : Claimed_1_2 := comes_1 fun _ _ _ _ _ _ h hF => ⟨h.2.1, hF⟩
end Jvm.Pilot.@@N@@
namespace Jvm.Pilot.@@N@@
open Jvm Jvm.ClassFile Sem Op Lib Jvm.Free Jvm.Stand Jvm.Pilot.@@N@@.Jvm.D
/-! MADE BY PROGRAM (witnessworld.py) out of the Statement's table words and the real class files: 9 classes; the members and pool entries that the words name. The judged class is class 1, her method 1. -/
namespace start1
open Jvm.ClassFile
def u (s : String) : CpInfo := .utf8 (stringToUtf16 s)
/-- a pool by its gaps: so many unusable entries, then the entry; so many at the end -/
def gap : Nat → List CpInfo → List CpInfo
  | 0, r => r
  | n + 1, r => .unusable :: gap n r
def poolList (es : List (Nat × CpInfo)) (last : Nat) : List CpInfo := es.foldr (fun e r => gap e.1 (e.2 :: r)) (gap last [])
def pool (es : List (Nat × CpInfo)) (last : Nat) : Array CpInfo := ⟨poolList es last⟩
def fileOf (pool : Array CpInfo) (this : Nat) (attrs : Array Attribute := #[]) (ms : Array MethodInfo := #[]) (fl : Nat := 33) (sup : Nat := 0) (ifs : Array Nat := #[]) (fds : Array FieldInfo := #[]) : ClassFile where
  minorVersion := 0
  majorVersion := 65
  constantPool := pool
  accessFlags := fl
  thisClass := this
  superClass := sup
  interfaces := ifs
  fields := fds
  methods := ms
  attributes := attrs
def plain (name : String) (sup : Option ClassId) : Class where
  name := name
  kind := .ordinary
  loader := none
  accessFlags := 33
  super := sup
  interfaces := #[]
  cf := none
  fields := #[]
  methods := #[]
  instanceTypes := #[]
  staticTypes := #[]
  resolved := #[]
  callSites := []
  init := .initialized
  statics := none
  mirror := none

def pool0 : Array CpInfo := pool [(5, u "<init>"), (0, u "()V"), (1, .class_ 10), (1, u "java/lang/Object")] 113

def k0m0 : Method := { name := "<init>", desc := "()V", sig := { parameters := [], returnType := none }, accessFlags := 1, code := none }
/-- java/lang/Object -/
def k0 : Class := { plain "java/lang/Object" none with
  accessFlags := 33
  interfaces := #[]
  cf := some (fileOf pool0 8 #[] #[{ accessFlags := 1, nameIndex := 5, descriptorIndex := 6, attributes := #[] }] 33 0 #[] #[])
  fields := #[]
  methods := #[k0m0]
  instanceTypes := #[]
  staticTypes := #[]
  resolved := Array.replicate 124 none
  statics := none }

def pool1 : Array CpInfo := pool [(2, .class_ 4), (1, u "java/lang/Object"), (0, u "<init>"), (0, u "()V"), (0, .integer 2147483647), (0, .methodref 9 10), (0, .class_ 11), (0, .nameAndType 12 13), (0, u "com/example/tally3/tally3/usage/Utf8"), (0, u "firstMalformed"), (0, u "([BII)I"), (0, .methodref 15 16), (0, .class_ 17), (0, .nameAndType 18 13), (0, u "com/example/tally3/tally3/usage/Utf8FirstMalformedPinLaw"), (0, u "step"), (0, .methodref 15 20), (0, .nameAndType 21 13), (0, u "wellFormedLength"), (0, .integer 65536), (0, .integer 1114111), (0, .integer 55296), (0, .integer 57343), (2, u "law"), (0, u "(IIII)Z")] 5

def k1m0 : Method := { name := "<init>", desc := "()V", sig := { parameters := [], returnType := none }, accessFlags := 2, code := none }
def k1c1 : Code := { maxStack := 4, maxLocals := 10, code := code, exceptionTable := #[], attributes := #[] }
def k1m1 : Method := { name := "law", desc := "(IIII)Z", sig := { parameters := [.int, .int, .int, .int], returnType := some .boolean }, accessFlags := 9, code := some k1c1 }
def k1c2 : Code := { maxStack := 3, maxLocals := 4, code := method_3_code, exceptionTable := #[], attributes := #[] }
def k1m2 : Method := { name := "step", desc := "([BII)I", sig := { parameters := [(.array .byte), .int, .int], returnType := some .int }, accessFlags := 10, code := some k1c2 }
def k1c3 : Code := { maxStack := 3, maxLocals := 8, code := method_4_code, exceptionTable := #[], attributes := #[] }
def k1m3 : Method := { name := "wellFormedLength", desc := "([BII)I", sig := { parameters := [(.array .byte), .int, .int], returnType := some .int }, accessFlags := 10, code := some k1c3 }
/-- com/example/tally3/tally3/usage/Utf8FirstMalformedPinLaw -/
def k1 : Class := { plain "com/example/tally3/tally3/usage/Utf8FirstMalformedPinLaw" (some 0) with
  accessFlags := 49
  interfaces := #[]
  cf := some (fileOf pool1 15 #[] #[{ accessFlags := 2, nameIndex := 5, descriptorIndex := 6, attributes := #[] }, { accessFlags := 9, nameIndex := 28, descriptorIndex := 29, attributes := #[] }, { accessFlags := 10, nameIndex := 18, descriptorIndex := 13, attributes := #[] }, { accessFlags := 10, nameIndex := 21, descriptorIndex := 13, attributes := #[] }] 49 2 #[] #[])
  fields := #[]
  methods := #[k1m0, k1m1, k1m2, k1m3]
  instanceTypes := #[]
  staticTypes := #[]
  resolved := Array.replicate 35 none
  statics := none }

def pool2 : Array CpInfo := pool [(2, .class_ 4), (1, u "java/lang/Object"), (0, u "<init>"), (0, u "()V"), (0, .class_ 8), (0, u "com/example/tally3/tally3/usage/Utf8"), (0, .methodref 7 10), (0, .nameAndType 11 12), (0, u "isBetween"), (0, u "(BII)Z"), (0, u "CONTINUATION_LOW"), (0, u "I"), (2, u "CONTINUATION_HIGH"), (3, u "firstMalformed"), (0, u "([BII)I")] 5

def k2m0 : Method := { name := "<init>", desc := "()V", sig := { parameters := [], returnType := none }, accessFlags := 2, code := none }
def k2c1 : Code := { maxStack := 3, maxLocals := 9, code := prog_58_method_2_code, exceptionTable := #[], attributes := #[] }
def k2m1 : Method := { name := "firstMalformed", desc := "([BII)I", sig := { parameters := [(.array .byte), .int, .int], returnType := some .int }, accessFlags := 8, code := some k2c1 }
def k2c2 : Code := { maxStack := 2, maxLocals := 4, code := prog_58_method_3_code, exceptionTable := #[], attributes := #[] }
def k2m2 : Method := { name := "isBetween", desc := "(BII)Z", sig := { parameters := [.byte, .int, .int], returnType := some .boolean }, accessFlags := 10, code := some k2c2 }
/-- com/example/tally3/tally3/usage/Utf8 -/
def k2 : Class := { plain "com/example/tally3/tally3/usage/Utf8" (some 0) with
  accessFlags := 32
  interfaces := #[]
  cf := some (fileOf pool2 7 #[] #[{ accessFlags := 2, nameIndex := 5, descriptorIndex := 6, attributes := #[] }, { accessFlags := 8, nameIndex := 21, descriptorIndex := 22, attributes := #[] }, { accessFlags := 10, nameIndex := 11, descriptorIndex := 12, attributes := #[] }] 32 2 #[] #[{ accessFlags := 26, nameIndex := 13, descriptorIndex := 14, attributes := #[] }, { accessFlags := 26, nameIndex := 17, descriptorIndex := 14, attributes := #[] }])
  fields := #[{ name := "CONTINUATION_LOW", type := .int, accessFlags := 26, slot := 0, constantValue := 0 }, { name := "CONTINUATION_HIGH", type := .int, accessFlags := 26, slot := 1, constantValue := 0 }]
  methods := #[k2m0, k2m1, k2m2]
  instanceTypes := #[]
  staticTypes := #[.int, .int]
  resolved := Array.replicate 28 none
  statics := none }

def pool3 : Array CpInfo := pool [(1, u "java/lang/Cloneable"), (0, .class_ 1), (0, u "java/lang/Object"), (0, .class_ 3)] 3

/-- java/lang/Cloneable -/
def k3 : Class := { plain "java/lang/Cloneable" (some 0) with
  accessFlags := 1537
  interfaces := #[]
  cf := some (fileOf pool3 2 #[] #[] 1537 4 #[] #[])
  fields := #[]
  methods := #[]
  instanceTypes := #[]
  staticTypes := #[]
  resolved := Array.replicate 8 none
  statics := none }

def pool4 : Array CpInfo := pool [(1, u "java/io/Serializable"), (0, .class_ 1), (0, u "java/lang/Object"), (0, .class_ 3)] 3

/-- java/io/Serializable -/
def k4 : Class := { plain "java/io/Serializable" (some 0) with
  accessFlags := 1537
  interfaces := #[]
  cf := some (fileOf pool4 2 #[] #[] 1537 4 #[] #[])
  fields := #[]
  methods := #[]
  instanceTypes := #[]
  staticTypes := #[]
  resolved := Array.replicate 8 none
  statics := none }

/-- the primitive byte -/
def k5 : Class := { plain "byte" none with kind := .primitive 'B', accessFlags := 0x411 }
/-- [B -/
def k6 : Class := { plain "[B" (some 0) with kind := .array 5 .byte, interfaces := #[3, 4], accessFlags := 1041 }

/-- the primitive int -/
def k7 : Class := { plain "int" none with kind := .primitive 'I', accessFlags := 0x411 }
/-- [I -/
def k8 : Class := { plain "[I" (some 0) with kind := .array 7 .int, interfaces := #[3, 4], accessFlags := 1041 }

def heap : Heap := #[]
def classes : Array Class := #[k0, k1, k2, k3, k4, k5, k6, k7, k8]
def interned : List (Array UInt16 × Addr) := []
def slotsUsed : Nat := 0
def theMethod : MethodId := ⟨1, 1⟩
def args0 : Array Value := #[.int 5, .int 3, .int 2, .int 1]
def aboutOver (below : List Frame) : State where
  vm := { classes := classes, interned := interned.toArray }
  heap := heap
  slotsUsed := slotsUsed
  threads := #[{ frames := .invoking theMethod args0 :: below }]
def below0 : List Frame := [.native { method := ⟨0, 0⟩, args := #[] }]
def about1 : State := aboutOver below0
def p0 : Program := .bare "" "" ""
def e0 : Env := launch0.env 0 0 0
theorem w_frames : about1.frames = Frame.invoking theMethod args0 :: below0 := rfl
set_option maxRecDepth 65536 in
theorem w_args : argsFit about1.vm theMethod args0 = true := by decide +kernel
set_option maxRecDepth 65536 in
theorem w_heap : heapFits about1 = true := by decide +kernel
set_option maxRecDepth 65536 in
theorem w_runnable : about1.curStatus? = some .runnable := by decide +kernel
set_option maxRecDepth 65536 in
theorem w_alone : about1.alone = true := by decide +kernel
set_option maxRecDepth 65536 in
theorem w_named : about1.methodNamed? x = some theMethod := by decide +kernel
set_option maxRecDepth 65536 in
theorem w_hears : about1.hears theMethod below0 = true := by decide +kernel
set_option maxRecDepth 65536 in
theorem w_ripe : about1.ripe theMethod args0 below0 = true := by decide +kernel
theorem w_running : about1.status = .running := rfl
set_option maxRecDepth 65536 in
theorem w_room : about1.hasRoom e0.platform room_1 = true :=
  launch0.hasRoom_least _ room_1 (by decide +kernel) (by decide +kernel) (by decide +kernel) (by decide +kernel) (by decide +kernel) (by decide +kernel)
theorem allAtoms_all (ts : List Jvm.Cond) (a : Array Jvm.Value) (st : Jvm.State) : (allAtoms ts).before a st = ts.all (fun c => c.before a st) := by
  induction ts with
  | nil => rfl
  | cons c t ih =>
    show (Jvm.Cond.and c (allAtoms t)).before a st = _
    rw [Jvm.Cond.before_and, ih, List.all_cons]
def words1 : List Jvm.Cond := Jvm.Cond.code x code maxLocals ret :: tables_1
/-- a 'code' word, met by the world's own term for the bytes: nothing is compared byte by byte -/
theorem code_word {y : MethodName} {bytes : ByteArray} {mx : Nat} {rt : Option FieldType} {a : Array Value} {s : State} {m : MethodId} {meth : Method} {c : Code} (h1 : s.methodNamed? y = some m) (h2 : s.vm.method? m = some meth) (h3 : meth.code = some c) (h4 : c.code = bytes)
    (h5 : (c.maxLocals == mx && c.exceptionTable.isEmpty && decide (c.maxStack ≤ mostOperands) && decide (meth.sig.returnType = rt) && !meth.locks && decide (parseMethodDescriptor y.desc = some meth.sig)) = true) : (Jvm.Cond.code y bytes mx rt).before a s = true := by
  simp only [Bool.and_eq_true, beq_iff_eq, Bool.not_eq_true', decide_eq_true_eq] at h5
  obtain ⟨⟨⟨⟨⟨g1, g2⟩, g3⟩, g4⟩, g5⟩, g6⟩ := h5
  simp [Cond.before, Cond.holds, Cond.value, h1, h2, h3, h4, g1, g2, g3, g4, g5, g6]
def isCode : Jvm.Cond → Bool
  | .code _ _ _ _ => true
  | _ => false
theorem all_split {L : List Jvm.Cond} {P : Jvm.Cond → Bool} (h1 : L.all (fun c => isCode c || P c) = true) (h2 : ∀ c ∈ L.filter isCode, P c = true) : L.all P = true := by
  refine List.all_eq_true.mpr fun c hc => ?_
  have h := List.all_eq_true.mp h1 c hc
  rcases Bool.eq_false_or_eq_true (isCode c) with hi | hi
  · exact h2 c (List.mem_filter.mpr ⟨hc, hi⟩)
  · simpa [hi] using h
set_option maxRecDepth 65536 in
theorem w_c0 : (Jvm.Cond.code x code maxLocals ret).before args0 about1 = true := code_word (m := ⟨1, 1⟩) (meth := k1m1) (c := k1c1) (by decide +kernel) rfl rfl rfl (by decide +kernel)
set_option maxRecDepth 65536 in
theorem w_c1 : (Jvm.Cond.code ({ cls := "com/example/tally3/tally3/usage/Utf8", name := "firstMalformed", desc := "([BII)I" } : Jvm.MethodName) prog_58_method_2_code (9 : Nat) (Option.some Jvm.ClassFile.FieldType.int)).before args0 about1 = true := code_word (m := ⟨2, 1⟩) (meth := k2m1) (c := k2c1) (by decide +kernel) rfl rfl rfl (by decide +kernel)
set_option maxRecDepth 65536 in
theorem w_c2 : (Jvm.Cond.code ({ cls := "com/example/tally3/tally3/usage/Utf8FirstMalformedPinLaw", name := "step", desc := "([BII)I" } : Jvm.MethodName) method_3_code (4 : Nat) (Option.some Jvm.ClassFile.FieldType.int)).before args0 about1 = true := code_word (m := ⟨1, 2⟩) (meth := k1m2) (c := k1c2) (by decide +kernel) rfl rfl rfl (by decide +kernel)
set_option maxRecDepth 65536 in
theorem w_c3 : (Jvm.Cond.code ({ cls := "com/example/tally3/tally3/usage/Utf8FirstMalformedPinLaw", name := "wellFormedLength", desc := "([BII)I" } : Jvm.MethodName) method_4_code (8 : Nat) (Option.some Jvm.ClassFile.FieldType.int)).before args0 about1 = true := code_word (m := ⟨1, 3⟩) (meth := k1m3) (c := k1c3) (by decide +kernel) rfl rfl rfl (by decide +kernel)
set_option maxRecDepth 65536 in
theorem w_c4 : (Jvm.Cond.code ({ cls := "com/example/tally3/tally3/usage/Utf8", name := "isBetween", desc := "(BII)Z" } : Jvm.MethodName) prog_58_method_3_code (4 : Nat) (Option.some Jvm.ClassFile.FieldType.boolean)).before args0 about1 = true := code_word (m := ⟨2, 2⟩) (meth := k2m2) (c := k2c2) (by decide +kernel) rfl rfl rfl (by decide +kernel)
def codes1 : List Jvm.Cond := [Jvm.Cond.code x code maxLocals ret, Jvm.Cond.code ({ cls := "com/example/tally3/tally3/usage/Utf8", name := "firstMalformed", desc := "([BII)I" } : Jvm.MethodName) prog_58_method_2_code (9 : Nat) (Option.some Jvm.ClassFile.FieldType.int), Jvm.Cond.code ({ cls := "com/example/tally3/tally3/usage/Utf8FirstMalformedPinLaw", name := "step", desc := "([BII)I" } : Jvm.MethodName) method_3_code (4 : Nat) (Option.some Jvm.ClassFile.FieldType.int), Jvm.Cond.code ({ cls := "com/example/tally3/tally3/usage/Utf8FirstMalformedPinLaw", name := "wellFormedLength", desc := "([BII)I" } : Jvm.MethodName) method_4_code (8 : Nat) (Option.some Jvm.ClassFile.FieldType.int), Jvm.Cond.code ({ cls := "com/example/tally3/tally3/usage/Utf8", name := "isBetween", desc := "(BII)Z" } : Jvm.MethodName) prog_58_method_3_code (4 : Nat) (Option.some Jvm.ClassFile.FieldType.boolean)]
set_option maxRecDepth 65536 in
theorem codes_eq : words1.filter isCode = codes1 := rfl
theorem w_codes : ∀ c ∈ words1.filter isCode, c.before args0 about1 = true := by
  rw [codes_eq]
  intro c hc
  simp only [codes1, List.mem_cons, List.not_mem_nil, or_false] at hc
  rcases hc with rfl | rfl | rfl | rfl | rfl
  · exact w_c0
  · exact w_c1
  · exact w_c2
  · exact w_c3
  · exact w_c4
set_option maxRecDepth 65536 in
theorem w_t1 : words1.all (fun c => isCode c || c.before args0 about1) = true := by decide +kernel
theorem w_tables : (allAtoms (Jvm.Cond.code x code maxLocals ret :: tables_1)).before args0 about1 = true := by
  rw [allAtoms_all]
  show words1.all (fun c => c.before args0 about1) = true
  refine all_split ?_ w_codes
  rw [w_t1]
set_option maxRecDepth 65536 in
theorem w_case : (Jvm.Cond.and given_1 narrow_1).before args0 about1 = true := by decide +kernel
theorem w_applies : (headSpec (Jvm.Cond.code x code maxLocals ret :: tables_1) room_1).applies x e0.platform about1 = true :=
  (Spec.applies_iff w_frames).mpr ⟨w_running, w_runnable, w_alone, w_named, w_hears, w_ripe, w_room, w_tables⟩
theorem atStart : AtStart classFile x code maxLocals ret World_1 tables_1 room_1 Calls_1 rest_1 Pre_1 launch0 p0 e0 about1 theMethod args0 below0 :=
  ⟨lists_1, trivial, launch0.admits_env _ _ _, launch0.least_env, fairChoices_fair.cas, fairChoices_fair.clock, w_frames, w_args, w_heap, w_applies, trivial, trivial, w_case⟩
end start1
theorem witness_1 : WitnessClaimed_1 := ⟨start1.p0, start1.e0, start1.about1, start1.theMethod, start1.args0, start1.below0, start1.atStart⟩
end Jvm.Pilot.@@N@@
