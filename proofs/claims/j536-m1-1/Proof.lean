import JvmDerived
import JvmDerived.Pilot.@@N@@Statement
import JvmDerived.Pilot.@@N@@Code
set_option linter.unusedVariables false
set_option linter.unusedSimpArgs false
namespace Jvm.Pilot.@@N@@
open Jvm Jvm.ClassFile Sem Op Lib Jvm.Free Jvm.Stand Jvm.LawKit Jvm.RoadKit Bundle Jvm.Pilot.@@N@@.Jvm.D
section OwnKit
variable {p : Program} {l : Launch} {e : Env} {R : Room} {s : State} {m : MethodId} {args : Array Value} {below : List Frame} {meth : Method} {c : Code} {T : State} {locs : List Loc} {cells slots : Nat} {Z : State} {a0 : Array Value} {h : Heap} {Q : Option Value → Heap → List Loc → Prop} {C S : Nat} {F : State → Outcome → Prop}
/-- what is left of a walk: from T with the top frame g the invocation comes to its end, and F holds there -/
def Go (p : Program) (e : Env) (below : List Frame) (F : State → Outcome → Prop) (T : State) (g : JFrame) : Prop :=
  ∃ t o, Steps p.tables e below (T.setTop g) t ∧ t.status = .running ∧ Ended t below o ∧ F t o
/-- it returned, Q holds, and no more has changed than the frame says -/
def FN (s : State) (Q : Option Value → Heap → List Loc → Prop) (C S : Nat) (t : State) (o : Outcome) : Prop := ∃ v L, o = .returned v ∧ Q v t.heap L ∧ FrameEnd s o t L C S
theorem Go.of {T' : State} {g g' : JFrame} (h : ∀ t, Steps p.tables e below (T'.setTop g') t → Steps p.tables e below (T.setTop g) t) (k : Go p e below F T' g') : Go p e below F T g := by
  obtain ⟨t, o, h1, h2⟩ := k
  exact ⟨t, o, h _ h1, h2⟩
theorem Go.cast {g g' : JFrame} (q : g = g') (k : Go p e below F T g') : Go p e below F T g := q ▸ k
theorem Go.ret (X : Stand p l e R s m args below meth c T locs cells slots) {v : Option Value} {g : JFrame} (hlk : meth.locks = false) (hv : meth.sig.returnType = none → v = none)
    (st : ∀ fs, (∀ (f : JFrame) (acts : List Action), f.method = m → f.locked = none → f.entered = [] → (doReturn e (T.setTop f) acts v).1 = T.setFrames fs) → Steps p.tables e below (T.setTop g) (T.setFrames fs))
    (hc : cells ≤ C) (hs : slots ≤ S) (hQ : Q v T.heap locs) : Go p e below (FN s Q C S) T g := by
  obtain ⟨fs, hr, hrun, hended, hW, hsame⟩ := X.leave (v := v) hv hlk
  exact ⟨_, _, st fs hr, hrun, hended, _, _, rfl, hQ, ⟨_, rfl⟩, hW, hsame.mono hc hs⟩
theorem Go.retI (X : Stand p l e R s m args below meth c T locs cells slots) (hx : p.tables.exec = Jvm.exec) (hlk : meth.locks = false) {pc : Nat} {Ls : Array Slot} {z : Int32} {rest : List Value} (hret : meth.sig.returnType = some .int) (hd : decode c.code pc = .ok (.ireturn, 1))
    (hc : cells ≤ C) (hs : slots ≤ S) (hQ : Q (some (.int z)) T.heap locs) : Go p e below (FN s Q C S) T (mkF m pc Ls (.int z :: rest)) :=
  Go.ret X hlk (fun h => by rw [hret] at h; cases h) (fun _ hr => retOut X hx hret rfl (Or.inl ⟨rfl, Or.inl rfl, _, rfl⟩) hd hr) hc hs hQ
theorem Go.retN (X : Stand p l e R s m args below meth c T locs cells slots) (hx : p.tables.exec = Jvm.exec) (hlk : meth.locks = false) {pc : Nat} {Ls : Array Slot} {z : Int32} {rest : List Value} {t : FieldType} (hret : meth.sig.returnType = some t) (ht : t = .boolean ∨ t = .byte ∨ t = .char ∨ t = .short) (hd : decode c.code pc = .ok (.ireturn, 1))
    (hc : cells ≤ C) (hs : slots ≤ S) (hQ : Q (some (.int (nar t z))) T.heap locs) : Go p e below (FN s Q C S) T (mkF m pc Ls (.int z :: rest)) :=
  Go.ret X hlk (fun h => by rw [hret] at h; cases h) (fun _ hr => Jvm.RoadKit.retN X hx hret ht hd hr) hc hs hQ
/-- a body's contract at given arguments and a given heap -/
def Ct (l : Launch) (y : MethodName) (bytes : ByteArray) (maxL : Nat) (ret : Option FieldType) (rm : Room) (Z : State) (h0 : Heap) (as' : Array Value) (Q : Option Value → Heap → List Loc → Prop) : Prop :=
  ∀ ws, MetFree l y (head1 (Jvm.Cond.code y bytes maxL ret :: ws) rm) (fun a U => a = as' ∧ Z.Warmed39 U.vm ∧ U.heap = h0) (fun _ _ _ _ _ => True) (fun _ U o U' => ∃ v L, o = .returned v ∧ Q v U'.heap L ∧ FrameEnd U o U' L rm.cells rm.slots)
theorem Ct.body {y : MethodName} {bytes : ByteArray} {maxL : Nat} {ret : Option FieldType} {rm : Room} {as' : Array Value} (hpl : plainFor y = true)
    (k : ∀ (p : Program) (e : Env) (s : State) (m : MethodId) (below : List Frame) (meth : Method) (c : Code) (T : State), p.tables.exec = Jvm.exec → c.code = bytes → c.maxLocals = maxL → s.vm.findClass y.cls = some m.cls → meth.name = y.name → meth.sig.returnType = ret → meth.locks = false → Z.Warmed39 s.vm →
      Stand p l e rm s m as' below meth c T [] 0 0 → T.heap = h → Go p e below (FN s Q rm.cells rm.slots) T (entryFrame m as' maxL)) : Ct l y bytes maxL ret rm Z h as' Q := fun ws => by
  refine MetFree.of_bodySF hpl hisR ?_
  intro p e s m args below meth c s₁ Bd hml0 hP hK
  obtain ⟨rfl, hZ, hh⟩ := hP
  exact k p e s m below meth c s₁ Bd.exec Bd.bytes hml0 (findClass_of_methodNamed Bd.named) (name_of_methodNamed Bd.named Bd.method).1 Bd.returns Bd.notSynchronized hZ (Stand.of_body Bd) (by rw [← hh, Bd.state]; rfl)
theorem Go.callS (X : Stand p l e R s m args below meth c T locs cells slots) (hx : p.tables.exec = Jvm.exec) (hZ : Z.Warmed39 s.vm) {own : String} {index : Nat} {y : MethodName} {bytes : ByteArray} {maxL : Nat} {ret : Option FieldType} (hown : s.vm.findClass own = some m.cls)
    (wl : (Jvm.Cond.methodLink own index y).before a0 Z = true) (wst : (Jvm.Cond.static y).before a0 Z = true) (wz : (Jvm.Cond.initialized y.cls).before a0 Z = true) (wc : (Jvm.Cond.code y bytes maxL ret).before a0 Z = true) (hy : y.cls ≠ "java/lang/invoke/MethodHandle" ∧ y.cls ≠ "java/lang/invoke/VarHandle")
    (eT : T.heap = h) {rm : Room} {argsL rest : List Value} {Q' : Option Value → Heap → List Loc → Prop} (hC : Ct l y bytes maxL ret rm Z h argsL.toArray Q') {pc : Nat} {Ls : Array Slot} {st : List Value} (hsz : Ls.size = c.maxLocals)
    (hlen : ∀ sig, parseMethodDescriptor y.desc = some sig → argsL.length = sig.parameters.length) (hst : st = argsL.reverse ++ rest) (hd : decode c.code pc = .ok (.invokestatic index, 3)) (hf : rm.frames + 1 ≤ R.frames) (hl : (rest.map fun v => v.category).sum + (maxL + 11) + rm.locals ≤ R.locals) (hc : cells + rm.cells ≤ R.cells) (hs : slots + rm.slots ≤ R.slots)
    (k : ∀ v T' L, Q' v T'.heap L → Stand p l e R s m args below meth c T' (locs ++ L) (cells + rm.cells) (slots + rm.slots) → Go p e below F T' (mkF m (pc + 3) Ls (v.toList ++ rest))) :
    Go p e below F T (mkF m pc Ls st) := by
  obtain ⟨v, _, ⟨T', L', k', n'⟩, -, X', ⟨L, hQ, l1, y1, z1⟩, stp⟩ := Jvm.LawKit.callS X hx (y := y) hown (mvT hZ wl) (mvT hZ wst) (mvT hZ wz) (mvT hZ wc) hy (backOf (W := (rest.map fun v => v.category).sum) (hC []) hZ wc wz hf hl) (g := mkF m pc Ls st) rfl hsz (argsL := argsL) (rest := rest) hlen hst (by show 2 * 0 + _ ≤ _; exact Nat.le_of_eq (Nat.zero_add _)) hd (fun _ _ => ⟨rfl, eT, hc, hs⟩)
  dsimp only [Pt.U, Pt.locs, Pt.cells, Pt.slots] at X' l1 y1 z1 stp hQ
  subst l1 y1 z1
  exact Go.of stp (k _ _ _ hQ X')
end OwnKit
section OwnSteps
variable {p : Program} {l : Launch} {e : Env} {R : Room} {s : State} {m : MethodId} {args : Array Value} {below : List Frame} {meth : Method} {c : Code} {T : State} {locs : List Loc} {cells slots : Nat} {Z : State} {a0 : Array Value} {h : Heap} {F : State → Outcome → Prop}
theorem w_ {Z : State} {a0 : Array Value} {ts : List Jvm.Cond} (hw : ∀ d ∈ ts, d.before a0 Z = true) {d : Jvm.Cond} (i : Nat) (h : ts[i]? = some d) : d.before a0 Z = true := hw _ (List.mem_of_getElem? h)
theorem Go.s_iloadN (X : Stand p l e R s m args below meth c T locs cells slots) (hx : p.tables.exec = Jvm.exec) {pc q : Nat} {Ls : Array Slot} {st : List Value} {k : Fin 4} {v : Int32} (hd : decode c.code pc = .ok (.iload_n k, 1)) (hq : pc + 1 = q) (hl : Ls[k.val]? = some (.val (.int v))) (K : Go p e below F T (mkF m q Ls (.int v :: st))) : Go p e below F T (mkF m pc Ls (st)) := by
  subst hq
  exact Go.of (fun t k => XS.iloadN X.here hx rfl hd hl k) K
theorem Go.s_iload (X : Stand p l e R s m args below meth c T locs cells slots) (hx : p.tables.exec = Jvm.exec) {pc q : Nat} {Ls : Array Slot} {st : List Value} {k : Nat} {v : Int32} (hd : decode c.code pc = .ok (.iload k, 2)) (hq : pc + 2 = q) (hl : Ls[k]? = some (.val (.int v))) (K : Go p e below F T (mkF m q Ls (.int v :: st))) : Go p e below F T (mkF m pc Ls (st)) := by
  subst hq
  exact Go.of (fun t k => XS.iload X.here hx rfl hd hl k) K
theorem Go.s_aloadN (X : Stand p l e R s m args below meth c T locs cells slots) (hx : p.tables.exec = Jvm.exec) {pc q : Nat} {Ls : Array Slot} {st : List Value} {k : Fin 4} {v : Value} (hd : decode c.code pc = .ok (.aload_n k, 1)) (hq : pc + 1 = q) (hl : Ls[k.val]? = some (.val v)) (hv : v.isRef = true) (K : Go p e below F T (mkF m q Ls (v :: st))) : Go p e below F T (mkF m pc Ls (st)) := by
  subst hq
  exact Go.of (fun t k => XS.aloadN X.here hx rfl hd hl hv k) K
theorem Go.s_aload (X : Stand p l e R s m args below meth c T locs cells slots) (hx : p.tables.exec = Jvm.exec) {pc q : Nat} {Ls : Array Slot} {st : List Value} {k : Nat} {v : Value} (hd : decode c.code pc = .ok (.aload k, 2)) (hq : pc + 2 = q) (hl : Ls[k]? = some (.val v)) (hv : v.isRef = true) (K : Go p e below F T (mkF m q Ls (v :: st))) : Go p e below F T (mkF m pc Ls (st)) := by
  subst hq
  exact Go.of (fun t k => XS.aload X.here hx rfl hd hl hv k) K
theorem Go.s_istoreN (X : Stand p l e R s m args below meth c T locs cells slots) (hx : p.tables.exec = Jvm.exec) {pc q : Nat} {Ls : Array Slot} {st : List Value} {k : Fin 4} {x : Int32} {l' : Array Slot} (hd : decode c.code pc = .ok (.istore_n k, 1)) (hq : pc + 1 = q) (hl : storeLocals Ls k.val (.int x) = some l') (K : Go p e below F T (mkF m q l' (st))) : Go p e below F T (mkF m pc Ls (.int x :: st)) := by
  subst hq
  exact Go.of (fun t k => XS.istoreN X.here hx rfl hd rfl hl k) K
theorem Go.s_istore (X : Stand p l e R s m args below meth c T locs cells slots) (hx : p.tables.exec = Jvm.exec) {pc q : Nat} {Ls : Array Slot} {st : List Value} {k : Nat} {x : Int32} {l' : Array Slot} (hd : decode c.code pc = .ok (.istore k, 2)) (hq : pc + 2 = q) (hl : storeLocals Ls k (.int x) = some l') (K : Go p e below F T (mkF m q l' (st))) : Go p e below F T (mkF m pc Ls (.int x :: st)) := by
  subst hq
  exact Go.of (fun t k => XS.istore X.here hx rfl hd rfl hl k) K
theorem Go.s_astore (X : Stand p l e R s m args below meth c T locs cells slots) (hx : p.tables.exec = Jvm.exec) {pc q : Nat} {Ls : Array Slot} {st : List Value} {k : Nat} {x : Value} {l' : Array Slot} (hd : decode c.code pc = .ok (.astore k, 2)) (hq : pc + 2 = q) (hv : x.isRef = true) (hl : storeLocals Ls k x = some l') (K : Go p e below F T (mkF m q l' (st))) : Go p e below F T (mkF m pc Ls (x :: st)) := by
  subst hq
  exact Go.of (fun t k => XS.astore X.here hx rfl hd rfl hv hl k) K
theorem Go.s_iconst (X : Stand p l e R s m args below meth c T locs cells slots) (hx : p.tables.exec = Jvm.exec) {pc q : Nat} {Ls : Array Slot} {st : List Value} {i : Int} {z : Int32} (hd : decode c.code pc = .ok (.iconst i, 1)) (hq : pc + 1 = q) (hz : Int32.ofInt i = z) (K : Go p e below F T (mkF m q Ls (.int z :: st))) : Go p e below F T (mkF m pc Ls (st)) := by
  subst hq
  exact Go.of (fun t k => XS.iconst X.here hx rfl hd (hz ▸ k)) K
theorem Go.s_bipush (X : Stand p l e R s m args below meth c T locs cells slots) (hx : p.tables.exec = Jvm.exec) {pc q : Nat} {Ls : Array Slot} {st : List Value} {i : Int} {z : Int32} (hd : decode c.code pc = .ok (.bipush i, 2)) (hq : pc + 2 = q) (hz : (Int8.ofInt i).toInt32 = z) (K : Go p e below F T (mkF m q Ls (.int z :: st))) : Go p e below F T (mkF m pc Ls (st)) := by
  subst hq
  exact Go.of (fun t k => XS.bipush X.here hx rfl hd (hz ▸ k)) K
theorem Go.s_sipush (X : Stand p l e R s m args below meth c T locs cells slots) (hx : p.tables.exec = Jvm.exec) {pc q : Nat} {Ls : Array Slot} {st : List Value} {i : Int} {z : Int32} (hd : decode c.code pc = .ok (.sipush i, 3)) (hq : pc + 3 = q) (hz : (Int16.ofInt i).toInt32 = z) (K : Go p e below F T (mkF m q Ls (.int z :: st))) : Go p e below F T (mkF m pc Ls (st)) := by
  subst hq
  exact Go.of (fun t k => XS.sipush X.here hx rfl hd (hz ▸ k)) K
theorem Go.s_iadd (X : Stand p l e R s m args below meth c T locs cells slots) (hx : p.tables.exec = Jvm.exec) {pc q : Nat} {Ls : Array Slot} {st : List Value} {x y : Int32} (hd : decode c.code pc = .ok (.iadd, 1)) (hq : pc + 1 = q)  (K : Go p e below F T (mkF m q Ls (.int (x + y) :: st))) : Go p e below F T (mkF m pc Ls (.int y :: .int x :: st)) := by
  subst hq
  exact Go.of (fun t k => XS.iadd X.here hx rfl hd rfl k) K
theorem Go.s_isub (X : Stand p l e R s m args below meth c T locs cells slots) (hx : p.tables.exec = Jvm.exec) {pc q : Nat} {Ls : Array Slot} {st : List Value} {x y : Int32} (hd : decode c.code pc = .ok (.isub, 1)) (hq : pc + 1 = q)  (K : Go p e below F T (mkF m q Ls (.int (x - y) :: st))) : Go p e below F T (mkF m pc Ls (.int y :: .int x :: st)) := by
  subst hq
  exact Go.of (fun t k => XS.isub X.here hx rfl hd rfl k) K
theorem Go.s_iand (X : Stand p l e R s m args below meth c T locs cells slots) (hx : p.tables.exec = Jvm.exec) {pc q : Nat} {Ls : Array Slot} {st : List Value} {x y : Int32} (hd : decode c.code pc = .ok (.iand, 1)) (hq : pc + 1 = q)  (K : Go p e below F T (mkF m q Ls (.int (x &&& y) :: st))) : Go p e below F T (mkF m pc Ls (.int y :: .int x :: st)) := by
  subst hq
  exact Go.of (fun t k => XS.iand X.here hx rfl hd rfl k) K
theorem Go.s_iushr (X : Stand p l e R s m args below meth c T locs cells slots) (hx : p.tables.exec = Jvm.exec) {pc q : Nat} {Ls : Array Slot} {st : List Value} {x y : Int32} (hd : decode c.code pc = .ok (.iushr, 1)) (hq : pc + 1 = q)  (K : Go p e below F T (mkF m q Ls (.int ((x.toUInt32 >>> (y &&& 31).toUInt32).toInt32) :: st))) : Go p e below F T (mkF m pc Ls (.int y :: .int x :: st)) := by
  subst hq
  exact Go.of (fun t k => XS.iushr X.here hx rfl hd rfl k) K
theorem Go.s_i2b (X : Stand p l e R s m args below meth c T locs cells slots) (hx : p.tables.exec = Jvm.exec) {pc q : Nat} {Ls : Array Slot} {st : List Value} {x : Int32} (hd : decode c.code pc = .ok (.i2b, 1)) (hq : pc + 1 = q)  (K : Go p e below F T (mkF m q Ls (.int (x.toInt8.toInt32) :: st))) : Go p e below F T (mkF m pc Ls (.int x :: st)) := by
  subst hq
  exact Go.of (fun t k => XS.i2b X.here hx rfl hd rfl k) K
theorem Go.s_irem (X : Stand p l e R s m args below meth c T locs cells slots) (hx : p.tables.exec = Jvm.exec) {pc q : Nat} {Ls : Array Slot} {st : List Value} {x y : Int32} (hd : decode c.code pc = .ok (.irem, 1)) (hq : pc + 1 = q) (hy : y ≠ 0) (K : Go p e below F T (mkF m q Ls (.int (x % y) :: st))) : Go p e below F T (mkF m pc Ls (.int y :: .int x :: st)) := by
  subst hq
  exact Go.of (fun t k => iremM X hx rfl hd rfl hy k) K
theorem Go.s_iinc (X : Stand p l e R s m args below meth c T locs cells slots) (hx : p.tables.exec = Jvm.exec) {pc q : Nat} {Ls : Array Slot} {st : List Value} {k : Nat} {cst : Int} {x : Int32} {l' : Array Slot} (hd : decode c.code pc = .ok (.iinc k cst, 3)) (hq : pc + 3 = q) (hl : Ls[k]? = some (.val (.int x))) (hl' : storeLocals Ls k (.int (x + Int32.ofInt cst)) = some l') (K : Go p e below F T (mkF m q l' (st))) : Go p e below F T (mkF m pc Ls (st)) := by
  subst hq
  exact Go.of (fun t k => XS.iinc X.here hx rfl hd hl hl' k) K
theorem Go.s_goto (X : Stand p l e R s m args below meth c T locs cells slots) (hx : p.tables.exec = Jvm.exec) {pc q : Nat} {Ls : Array Slot} {st : List Value}  {o : Int} (hd : decode c.code pc = .ok (.goto o, 3)) (ho : 0 ≤ (pc : Int) + o) (hp : ((pc : Int) + o).toNat = q)  (K : Go p e below F T (mkF m q Ls st)) : Go p e below F T (mkF m pc Ls (st)) :=
  Go.of (fun t k => XS.goto X.here hx rfl rfl hd ho hp k) K
theorem Go.s_ifYes (X : Stand p l e R s m args below meth c T locs cells slots) (hx : p.tables.exec = Jvm.exec) {pc q : Nat} {Ls : Array Slot} {st : List Value} {cd : ClassFile.Cond} {x : Int32} {o : Int} (hd : decode c.code pc = .ok (.ifCond cd o, 3)) (ho : 0 ≤ (pc : Int) + o) (hp : ((pc : Int) + o).toNat = q) (hc : ifCond.holds cd x = true) (K : Go p e below F T (mkF m q Ls st)) : Go p e below F T (mkF m pc Ls (.int x :: st)) :=
  Go.of (fun t k => XS.ifYes X.here hx rfl rfl hd rfl hc ho hp k) K
theorem Go.s_icmpYes (X : Stand p l e R s m args below meth c T locs cells slots) (hx : p.tables.exec = Jvm.exec) {pc q : Nat} {Ls : Array Slot} {st : List Value} {cd : ClassFile.Cond} {x y : Int32} {o : Int} (hd : decode c.code pc = .ok (.if_icmp cd o, 3)) (ho : 0 ≤ (pc : Int) + o) (hp : ((pc : Int) + o).toNat = q) (hc : if_icmp.holds cd x y = true) (K : Go p e below F T (mkF m q Ls st)) : Go p e below F T (mkF m pc Ls (.int y :: .int x :: st)) :=
  Go.of (fun t k => XS.icmpYes X.here hx rfl rfl hd rfl hc ho hp k) K
theorem Go.s_ifNo (X : Stand p l e R s m args below meth c T locs cells slots) (hx : p.tables.exec = Jvm.exec) {pc q : Nat} {Ls : Array Slot} {st : List Value} {cd : ClassFile.Cond} {o : Int} {x : Int32} (hd : decode c.code pc = .ok (.ifCond cd o, 3)) (hq : pc + 3 = q) (hc : ifCond.holds cd x = false) (K : Go p e below F T (mkF m q Ls (st))) : Go p e below F T (mkF m pc Ls (.int x :: st)) := by
  subst hq
  exact Go.of (fun t k => XS.ifNo X.here hx rfl hd rfl hc k) K
theorem Go.s_icmpNo (X : Stand p l e R s m args below meth c T locs cells slots) (hx : p.tables.exec = Jvm.exec) {pc q : Nat} {Ls : Array Slot} {st : List Value} {cd : ClassFile.Cond} {o : Int} {x y : Int32} (hd : decode c.code pc = .ok (.if_icmp cd o, 3)) (hq : pc + 3 = q) (hc : if_icmp.holds cd x y = false) (K : Go p e below F T (mkF m q Ls (st))) : Go p e below F T (mkF m pc Ls (.int y :: .int x :: st)) := by
  subst hq
  exact Go.of (fun t k => XS.icmpNo X.here hx rfl hd rfl hc k) K
theorem Go.s_ldc (X : Stand p l e R s m args below meth c T locs cells slots) (hx : p.tables.exec = Jvm.exec) {pc q : Nat} {Ls : Array Slot} {st : List Value} {own : String} {index : Nat} {v : Int32} (hd : decode c.code pc = .ok (.ldc index, 2)) (hq : pc + 2 = q) (hown : s.vm.findClass own = some m.cls) (w : (Jvm.Cond.constant own index v).before args s = true) (K : Go p e below F T (mkF m q Ls (.int v :: st))) : Go p e below F T (mkF m pc Ls st) := by
  subst hq
  exact Go.of (X.ldcInt hx hown w (g := mkF m pc Ls st) rfl hd) K
end OwnSteps
section OwnArr
variable {p : Program} {l : Launch} {e : Env} {R : Room} {s : State} {m : MethodId} {args : Array Value} {below : List Frame} {meth : Method} {c : Code} {T : State} {locs : List Loc} {cells slots : Nat} {Z : State} {a0 : Array Value} {h : Heap} {F : State → Outcome → Prop}
theorem Go.newP (X : Stand p l e R s m args below meth c T locs cells slots) (hx : p.tables.exec = Jvm.exec) (hZ : Z.Warmed39 s.vm) {aty : ArrayType} (w : (Jvm.Cond.arrayClass (newarray.typeOf aty)).before a0 Z = true) (eT : T.heap = h) {pc : Nat} {Ls : Array Slot} {n : Int32} {rest : List Value} (hd : decode c.code pc = .ok (.newarray aty, 2))
    (hn : ¬ n < 0) {cap : Nat} (hcap : n.toNatClampNeg ≤ cap) (hb : cap * 8 ≤ 536870912) (hc : cells + 1 ≤ R.cells) (hl : slots + cap ≤ R.slots)
    (k : ∀ T' h' a kc, a = h.size → Stand p l e R s m args below meth c T' locs (cells + 1) (slots + cap) → T'.heap = h' → Ext h h' → Arv Z h' a kc (newarray.typeOf aty) n [] (defaultValue (newarray.typeOf aty)) → Go p e below F T' (mkF m (pc + 2) Ls (.ref a :: rest))) : Go p e below F T (mkF m pc Ls (.int n :: rest)) := by
  obtain ⟨T', h', kc, X', e', E', A', st⟩ := Jvm.RoadKit.newP X hx hZ w eT (g := mkF m pc Ls (.int n :: rest)) rfl hd rfl hn hcap hb hc hl
  exact Go.of st (k _ _ _ kc rfl X' e' E' (Arv.new A' hn))
theorem Go.stB (X : Stand p l e R s m args below meth c T locs cells slots) (hx : p.tables.exec = Jvm.exec) (hZ : Z.Warmed39 s.vm) (eT : T.heap = h) {a : Addr} {kc : ClassId} {z j x : Int32} {vs : List Value} {dv : Value} (V : Arv Z h a kc .byte z vs dv) (hj : ¬ j < 0 ∧ j < z) (i : Nat) (hji : j.toNatClampNeg = i) (hi : i < vs.length) {pc : Nat} {Ls : Array Slot} {rest : List Value} (hd : decode c.code pc = .ok (.bastore, 1))
    (k : ∀ T' h', Stand p l e R s m args below meth c T' (locs ++ [⟨a, j.toNatClampNeg⟩]) cells slots → T'.heap = h' → Wr h h' a j.toNatClampNeg (.int (nar .byte x)) → Arv Z h' a kc .byte z (vs.set i (.int (nar .byte x))) dv → Go p e below F T' (mkF m (pc + 1) Ls rest)) : Go p e below F T (mkF m pc Ls (.int x :: .int j :: .ref a :: rest)) := by
  obtain ⟨cl, A, q1, S1, q3, H, G⟩ := V
  obtain ⟨T', h', X', e', W', st⟩ := Jvm.RoadKit.stB X hx hZ eT A (x := x) (inb_of S1 hj) (g := mkF m pc Ls (.int x :: .int j :: .ref a :: rest)) rfl rfl hd
  exact Go.of st (k _ _ X' e' W' (Arv.set A q1 S1 q3 H G (fits_nar_byte x) W' i hji hi))
theorem Go.ldB (X : Stand p l e R s m args below meth c T locs cells slots) (hx : p.tables.exec = Jvm.exec) (hZ : Z.Warmed39 s.vm) (eT : T.heap = h) {a : Addr} {kc : ClassId} {z j : Int32} {vs : List Value} {dv w : Value} (V : Arv Z h a kc .byte z vs dv) (hj : ¬ j < 0 ∧ j < z) (hw : vs.getD j.toNatClampNeg dv = w) {pc : Nat} {Ls : Array Slot} {rest : List Value} (hd : decode c.code pc = .ok (.baload, 1))
    (k : Go p e below F T (mkF m (pc + 1) Ls (w :: rest))) : Go p e below F T (mkF m pc Ls (.int j :: .ref a :: rest)) := by
  obtain ⟨cl, A, q1, S1, q3, H, G⟩ := V
  exact Go.of (fun t q => X.baloadBytes hx (by rw [eT]; exact A.1) (State.isArrayOf_alike hZ.alike A.2.1) A.2.2 (inb_of S1 hj) (H.at (inb_of S1 hj) hw) (g := mkF m pc Ls (.int j :: .ref a :: rest)) rfl rfl hd t q) k
theorem getD_mapI (bs : List Int32) (i : Nat) : (bs.map Value.int).getD i (.int 0) = .int (bs.getD i 0) := by
  rw [List.getD_eq_getElem?_getD, List.getD_eq_getElem?_getD, List.getElem?_map]
  cases bs[i]? <;> rfl
end OwnArr
def csum (bs : List Int32) : Nat → Nat → Int32 → Int32
  | _, 0, acc => acc
  | i, n + 1, acc => csum bs (i + 1) n (acc + (bs.getD i 0 &&& (255 : Int32)))
theorem bounds {x y off len : Int32} (ho : ((x &&& (2147483647 : Int32)) % (6 : Int32)) = off) (hl : ((y &&& (2147483647 : Int32)) % ((6 : Int32) - off)) = len) : 0 ≤ off.toInt ∧ off.toInt ≤ 5 ∧ 0 ≤ len.toInt ∧ off.toInt + len.toInt ≤ 5 := by
  have t1 := c_mask x (2147483647 : Int32) 31 (by decide) (by decide)
  have t2 := c_mask y (2147483647 : Int32) 31 (by decide) (by decide)
  have t3 := c_irem (x &&& (2147483647 : Int32)) (6 : Int32) 6 (by decide)
  have t4 := c_iremV (y &&& (2147483647 : Int32)) ((6 : Int32) - off)
  have t5 := c_isub (6 : Int32) off
  have t6 := rng32 ((6 : Int32) - off)
  have t7 : (6 : Int32).toInt = 6 := by decide
  rw [ho] at t3
  rw [hl] at t4
  omega
theorem vals {x : Int32} (h0 : 0 ≤ x.toInt) (h5 : x.toInt ≤ 5) : x = 0 ∨ x = 1 ∨ x = 2 ∨ x = 3 ∨ x = 4 ∨ x = 5 := by
  have e (k : Int32) (h : x.toInt = k.toInt) : x = k := Int32.toInt_inj.mp h
  have k0 : (0 : Int32).toInt = 0 := by decide
  have k1 : (1 : Int32).toInt = 1 := by decide
  have k2 : (2 : Int32).toInt = 2 := by decide
  have k3 : (3 : Int32).toInt = 3 := by decide
  have k4 : (4 : Int32).toInt = 4 := by decide
  have k5 : (5 : Int32).toInt = 5 := by decide
  have : x.toInt = 0 ∨ x.toInt = 1 ∨ x.toInt = 2 ∨ x.toInt = 3 ∨ x.toInt = 4 ∨ x.toInt = 5 := by omega
  rcases this with h | h | h | h | h | h
  · exact Or.inl (e 0 (h.trans k0.symm))
  · exact Or.inr (Or.inl (e 1 (h.trans k1.symm)))
  · exact Or.inr (Or.inr (Or.inl (e 2 (h.trans k2.symm))))
  · exact Or.inr (Or.inr (Or.inr (Or.inl (e 3 (h.trans k3.symm)))))
  · exact Or.inr (Or.inr (Or.inr (Or.inr (Or.inl (e 4 (h.trans k4.symm))))))
  · exact Or.inr (Or.inr (Or.inr (Or.inr (Or.inr (e 5 (h.trans k5.symm))))))
abbrev TermIs (bs : List Int32) (i f e t : Int32) : Prop := (i < f ∧ t = (0 : Int32)) ∨ (¬ (i < f) ∧ i < e ∧ t = (bs.getD i.toNatClampNeg 0 &&& (255 : Int32))) ∨ (¬ (i < f) ∧ ¬ (i < e) ∧ t = (0 : Int32))
theorem plain (bs : List Int32) {off len en t0 t1 t2 t3 t4 : Int32} (hen : (off + len) = en) (o0 : 0 ≤ off.toInt) (o5 : off.toInt ≤ 5) (l0 : 0 ≤ len.toInt) (l5 : off.toInt + len.toInt ≤ 5)
    (h0 : TermIs bs 0 off en t0) (h1 : TermIs bs 1 off en t1) (h2 : TermIs bs 2 off en t2) (h3 : TermIs bs 3 off en t3) (h4 : TermIs bs 4 off en t4) :
    csum bs off.toNatClampNeg len.toNatClampNeg (0 : Int32) &&& (255 : Int32) = ((((t0 + t1) + t2) + t3) + t4) &&& (255 : Int32) := by
  subst hen
  have z (a : Int32) : 0 + a = a := Int32.zero_add a
  have w (a : Int32) : a + 0 = a := Int32.add_zero a
  have k0 : (0 : Int32).toNatClampNeg = 0 := by decide
  have k1 : (1 : Int32).toNatClampNeg = 1 := by decide
  have k2 : (2 : Int32).toNatClampNeg = 2 := by decide
  have k3 : (3 : Int32).toNatClampNeg = 3 := by decide
  have k4 : (4 : Int32).toNatClampNeg = 4 := by decide
  have k5 : (5 : Int32).toNatClampNeg = 5 := by decide
  rcases vals o0 o5 with rfl | rfl | rfl | rfl | rfl | rfl <;> rcases vals l0 (by omega) with rfl | rfl | rfl | rfl | rfl | rfl <;>
    first
    | exact absurd l5 (by decide)
    | (rcases h0 with ⟨q, rfl⟩ | ⟨q, q', rfl⟩ | ⟨q, q', rfl⟩ <;> (try exact absurd q (by decide)) <;> (try exact absurd q' (by decide)) <;> rcases h1 with ⟨r, rfl⟩ | ⟨r, r', rfl⟩ | ⟨r, r', rfl⟩ <;> (try exact absurd r (by decide)) <;> (try exact absurd r' (by decide)) <;> rcases h2 with ⟨u, rfl⟩ | ⟨u, u', rfl⟩ | ⟨u, u', rfl⟩ <;> (try exact absurd u (by decide)) <;> (try exact absurd u' (by decide)) <;> rcases h3 with ⟨v, rfl⟩ | ⟨v, v', rfl⟩ | ⟨v, v', rfl⟩ <;> (try exact absurd v (by decide)) <;> (try exact absurd v' (by decide)) <;> rcases h4 with ⟨x, rfl⟩ | ⟨x, x', rfl⟩ | ⟨x, x', rfl⟩ <;> (try exact absurd x (by decide)) <;> (try exact absurd x' (by decide)) <;> simp only [z, w, k0, k1, k2, k3, k4, k5, csum, Nat.zero_add, Nat.reduceAdd] )
theorem sub_nz {x off : Int32} (ho : ((x &&& (2147483647 : Int32)) % (6 : Int32)) = off) : ((6 : Int32) - off) ≠ 0 := by
  have t1 := c_mask x (2147483647 : Int32) 31 (by decide) (by decide)
  have t3 := c_irem (x &&& (2147483647 : Int32)) (6 : Int32) 6 (by decide)
  have t5 := c_isub (6 : Int32) off
  have t6 := rng32 ((6 : Int32) - off)
  have t7 : (6 : Int32).toInt = 6 := by decide
  have t8 : (0 : Int32).toInt = 0 := by decide
  rw [ho] at t3
  intro q
  have t9 := congrArg Int32.toInt q
  omega
abbrev mn_1 : MethodName := ⟨"com/example/pulsegate/pulsegate/FixMessage", "checkSum", "([BII)I"⟩
abbrev mn_2 : MethodName := ⟨"com/example/pulsegate/pulsegate/FixMessageCheckSumPinLaw", "term", "([BIII)I"⟩
theorem pn_com_example_pulsegate_pulsegate_FixMessageCheckSumPinLaw : plainName "com/example/pulsegate/pulsegate/FixMessageCheckSumPinLaw" = true := by first | (simp [plainName, overriddenIn]; done) | decide +kernel
theorem d2_0 : decode method_3_code 0 = .ok (.iload_n 1, 1) := by decide +kernel
theorem d2_1 : decode method_3_code 1 = .ok (.iload_n 2, 1) := by decide +kernel
theorem d2_2 : decode method_3_code 2 = .ok (.if_icmp .lt 8, 3) := by decide +kernel
theorem d2_10 : decode method_3_code 10 = .ok (.iconst 0, 1) := by decide +kernel
theorem d2_11 : decode method_3_code 11 = .ok (.ireturn, 1) := by decide +kernel
theorem d2_5 : decode method_3_code 5 = .ok (.iload_n 1, 1) := by decide +kernel
theorem d2_6 : decode method_3_code 6 = .ok (.iload_n 3, 1) := by decide +kernel
theorem d2_7 : decode method_3_code 7 = .ok (.if_icmp .lt 5, 3) := by decide +kernel
theorem d2_12 : decode method_3_code 12 = .ok (.aload_n 0, 1) := by decide +kernel
theorem d2_13 : decode method_3_code 13 = .ok (.iload_n 1, 1) := by decide +kernel
theorem d2_14 : decode method_3_code 14 = .ok (.baload, 1) := by decide +kernel
theorem d2_15 : decode method_3_code 15 = .ok (.sipush 255, 3) := by decide +kernel
theorem d2_18 : decode method_3_code 18 = .ok (.iand, 1) := by decide +kernel
theorem d2_19 : decode method_3_code 19 = .ok (.ireturn, 1) := by decide +kernel
theorem d1_5 : decode prog_17_method_8_code 5 = .ok (.iload 4, 2) := by decide +kernel
theorem d1_7 : decode prog_17_method_8_code 7 = .ok (.iload_n 1, 1) := by decide +kernel
theorem d1_8 : decode prog_17_method_8_code 8 = .ok (.iload_n 2, 1) := by decide +kernel
theorem d1_9 : decode prog_17_method_8_code 9 = .ok (.iadd, 1) := by decide +kernel
theorem d1_10 : decode prog_17_method_8_code 10 = .ok (.if_icmp .ge 20, 3) := by decide +kernel
theorem d1_30 : decode prog_17_method_8_code 30 = .ok (.iload_n 3, 1) := by decide +kernel
theorem d1_31 : decode prog_17_method_8_code 31 = .ok (.sipush 255, 3) := by decide +kernel
theorem d1_34 : decode prog_17_method_8_code 34 = .ok (.iand, 1) := by decide +kernel
theorem d1_35 : decode prog_17_method_8_code 35 = .ok (.ireturn, 1) := by decide +kernel
theorem d1_13 : decode prog_17_method_8_code 13 = .ok (.iload_n 3, 1) := by decide +kernel
theorem d1_14 : decode prog_17_method_8_code 14 = .ok (.aload_n 0, 1) := by decide +kernel
theorem d1_15 : decode prog_17_method_8_code 15 = .ok (.iload 4, 2) := by decide +kernel
theorem d1_17 : decode prog_17_method_8_code 17 = .ok (.baload, 1) := by decide +kernel
theorem d1_18 : decode prog_17_method_8_code 18 = .ok (.sipush 255, 3) := by decide +kernel
theorem d1_21 : decode prog_17_method_8_code 21 = .ok (.iand, 1) := by decide +kernel
theorem d1_22 : decode prog_17_method_8_code 22 = .ok (.iadd, 1) := by decide +kernel
theorem d1_23 : decode prog_17_method_8_code 23 = .ok (.istore_n 3, 1) := by decide +kernel
theorem d1_24 : decode prog_17_method_8_code 24 = .ok (.iinc 4 1, 3) := by decide +kernel
theorem d1_27 : decode prog_17_method_8_code 27 = .ok (.goto (-22), 3) := by decide +kernel
theorem pn_com_example_pulsegate_pulsegate_FixMessage : plainName "com/example/pulsegate/pulsegate/FixMessage" = true := by first | (simp [plainName, overriddenIn]; done) | decide +kernel
theorem d1_0 : decode prog_17_method_8_code 0 = .ok (.iconst 0, 1) := by decide +kernel
theorem d1_1 : decode prog_17_method_8_code 1 = .ok (.istore_n 3, 1) := by decide +kernel
theorem d1_2 : decode prog_17_method_8_code 2 = .ok (.iload_n 1, 1) := by decide +kernel
theorem d1_3 : decode prog_17_method_8_code 3 = .ok (.istore 4, 2) := by decide +kernel
theorem pd_0 : parseMethodDescriptor "([BII)I" = some ⟨[(.array .byte), .int, .int], some .int⟩ := by decide +kernel
theorem pd_1 : parseMethodDescriptor "([BIII)I" = some ⟨[(.array .byte), .int, .int, .int], some .int⟩ := by decide +kernel
theorem ef_tm (m : MethodId) (x0 : Addr) (x1 : Int32) (x2 : Int32) (x3 : Int32) : entryFrame m #[(.ref x0), (.int x1), (.int x2), (.int x3)] 4 = mkF m 0 #[.val (.ref x0), .val (.int x1), .val (.int x2), .val (.int x3)] [] := by first | (simp [entryFrame, mkF, argsToLocals, Value.category]; done) | rfl
set_option maxRecDepth 65536 in
set_option maxHeartbeats 40000000 in
theorem rm_tm (l : Launch) (Z : State) (a0 : Array Value) (hw : ∀ d ∈ tables_1, d.before a0 Z = true) (a : Addr) (x1 : Int32) (x2 : Int32) (x3 : Int32) (h0 : Heap) (kc : ClassId) (bs : List Int32) (V_a : Arv Z h0 a kc .byte (5 : Int32) (bs.map Value.int) (.int 0)) (hi : ¬ x1 < 0 ∧ x1 < (5 : Int32)) :
    Ct l mn_2 method_3_code 4 (some .int) ({ frames := 0, cells := 0, slots := 0, locals := 0 } : Room) Z h0 #[(.ref a), (.int x1), (.int x2), (.int x3)] (fun v h L => ∃ r, v = some (.int r) ∧ ((x1 < x2 ∧ r = (0 : Int32)) ∨ (¬ (x1 < x2) ∧ x1 < x3 ∧ r = (bs.getD x1.toNatClampNeg 0 &&& (255 : Int32))) ∨ (¬ (x1 < x2) ∧ ¬ (x1 < x3) ∧ r = (0 : Int32))) ∧ L = [] ∧ h = h0) := by
  refine Ct.body (plainFor_of_name pn_com_example_pulsegate_pulsegate_FixMessageCheckSumPinLaw) ?_
  intro p e s m below meth c T0 hx hby hml hown hnm hret hlk hZ X0 e0
  refine Go.cast (ef_tm m a x1 x2 x3) ?_
  show Go p e below _ T0 (mkF m 0 #[.val (.ref a), .val (.int x1), .val (.int x2), .val (.int x3)] [])
  refine Go.s_iloadN X0 hx (hb hby d2_0) (q := 1) rfl rfl ?_
  refine Go.s_iloadN X0 hx (hb hby d2_1) (q := 2) rfl rfl ?_
  by_cases c2_1 : x1 < x2
  · -- pc 2: x1 < x2
    refine Go.s_icmpYes X0 hx (hb hby d2_2) (q := 10) (by decide) (by decide) (tlt c2_1).1 ?_
    refine Go.s_iconst X0 hx (hb hby d2_10) (q := 11) rfl (z := 0) rfl ?_
    refine Go.retI X0 hx hlk hret (hb hby d2_11) (by decide) (by decide) ?_
    try rw [e0]
    exact ⟨_, rfl, Or.inl ⟨c2_1, rfl⟩, rfl, rfl⟩
  · -- pc 2: not x1 < x2
    refine Go.s_icmpNo X0 hx (hb hby d2_2) (q := 5) rfl (flt c2_1).1 ?_
    refine Go.s_iloadN X0 hx (hb hby d2_5) (q := 6) rfl rfl ?_
    refine Go.s_iloadN X0 hx (hb hby d2_6) (q := 7) rfl rfl ?_
    by_cases c7_2 : x1 < x3
    · -- pc 7: x1 < x3
      refine Go.s_icmpYes X0 hx (hb hby d2_7) (q := 12) (by decide) (by decide) (tlt c7_2).1 ?_
      refine Go.s_aloadN X0 hx (hb hby d2_12) (q := 13) rfl rfl rfl ?_
      refine Go.s_iloadN X0 hx (hb hby d2_13) (q := 14) rfl rfl ?_
      refine Go.ldB X0 hx hZ e0 V_a hi (w := (.int (bs.getD x1.toNatClampNeg 0))) (getD_mapI bs _) (hb hby d2_14) ?_
      show Go p e below _ T0 (mkF m 15 #[.val (.ref a), .val (.int x1), .val (.int x2), .val (.int x3)] [(.int (bs.getD x1.toNatClampNeg 0))])
      refine Go.s_sipush X0 hx (hb hby d2_15) (q := 18) rfl (z := 255) rfl ?_
      refine Go.s_iand X0 hx (hb hby d2_18) (q := 19) rfl ?_
      refine Go.retI X0 hx hlk hret (hb hby d2_19) (by decide) (by decide) ?_
      try rw [e0]
      exact ⟨_, rfl, Or.inr (Or.inl ⟨c2_1, c7_2, rfl⟩), rfl, rfl⟩
    · -- pc 7: not x1 < x3
      refine Go.s_icmpNo X0 hx (hb hby d2_7) (q := 10) rfl (flt c7_2).1 ?_
      refine Go.s_iconst X0 hx (hb hby d2_10) (q := 11) rfl (z := 0) rfl ?_
      refine Go.retI X0 hx hlk hret (hb hby d2_11) (by decide) (by decide) ?_
      try rw [e0]
      exact ⟨_, rfl, Or.inr (Or.inr ⟨c2_1, c7_2, rfl⟩), rfl, rfl⟩
set_option maxRecDepth 65536 in
set_option maxHeartbeats 40000000 in
theorem lp_cs {p : Program} {l : Launch} {e : Env} {R : Room} {s : State} {m : MethodId} {args : Array Value} {below : List Frame} {meth : Method} {c : Code} {Z : State} {a0 : Array Value} {h0 : Heap} (hw : ∀ d ∈ tables_1, d.before a0 Z = true) (hx : p.tables.exec = Jvm.exec) (hby : c.code = prog_17_method_8_code) (hml : c.maxLocals = 5) (hown : s.vm.findClass "com/example/pulsegate/pulsegate/FixMessage" = some m.cls) (hret : meth.sig.returnType = some .int) (hlk : meth.locks = false) (hZ : Z.Warmed39 s.vm) {a : Addr} {off len : Int32} {kc : ClassId} {bs : List Int32} (V_a : Arv Z h0 a kc .byte (5 : Int32) (bs.map Value.int) (.int 0)) (ho : 0 ≤ off.toInt) (hl : 0 ≤ len.toInt) (hol : off.toInt + len.toInt ≤ 5) {C S : Nat} (n : Nat) :
    ∀ {T0 : State} (X0 : Stand p l e R s m args below meth c T0 [] 0 0) (e0 : T0.heap = h0) (i acc : Int32) (I : Nat) (hiI : i.toInt = (I : Int)) (hn : (I : Int) + n = off.toInt + len.toInt) (hI0 : off.toInt ≤ i.toInt), Go p e below (FN s (fun v h L => v = some (.int (csum bs I n acc &&& (255 : Int32))) ∧ L = [] ∧ h = h0) C S) T0 (mkF m 5 #[.val (.ref a), .val (.int off), .val (.int len), .val (.int acc), .val (.int i)] []) := by
  have hs := c_iadd off len
  have hsr := rng32 (off + len)
  have hk5 : (5 : Int32).toInt = 5 := by decide
  have hk0 : (0 : Int32).toInt = 0 := by decide
  induction n with
  | zero =>
    intro T0 X0 e0 i acc I hiI hn hI0
    have hlt : ¬ (i < (off + len)) := fun q => by have := Int32.lt_iff_toInt_lt.mp q; omega
    show Go p e below _ T0 (mkF m 5 #[.val (.ref a), .val (.int off), .val (.int len), .val (.int acc), .val (.int i)] [])
    refine Go.s_iload X0 hx (hb hby d1_5) (q := 7) rfl rfl ?_
    refine Go.s_iloadN X0 hx (hb hby d1_7) (q := 8) rfl rfl ?_
    refine Go.s_iloadN X0 hx (hb hby d1_8) (q := 9) rfl rfl ?_
    refine Go.s_iadd X0 hx (hb hby d1_9) (q := 10) rfl ?_
    refine Go.s_icmpYes X0 hx (hb hby d1_10) (q := 30) (by decide) (by decide) (flt hlt).2.1 ?_
    refine Go.s_iloadN X0 hx (hb hby d1_30) (q := 31) rfl rfl ?_
    refine Go.s_sipush X0 hx (hb hby d1_31) (q := 34) rfl (z := 255) rfl ?_
    refine Go.s_iand X0 hx (hb hby d1_34) (q := 35) rfl ?_
    refine Go.retI X0 hx hlk hret (hb hby d1_35) (Nat.zero_le _) (Nat.zero_le _) ?_
    try rw [e0]
    exact ⟨rfl, rfl, rfl⟩
  | succ n ih =>
    intro T0 X0 e0 i acc I hiI hn hI0
    have hlt : i < (off + len) := Int32.lt_iff_toInt_lt.mpr (by omega)
    have hi0 : ¬ i < 0 := fun q => by have := Int32.lt_iff_toInt_lt.mp q; omega
    have hi5 : i < (5 : Int32) := Int32.lt_iff_toInt_lt.mpr (by omega)
    have hI : i.toNatClampNeg = I := by have := nat_of hi0; omega
    have hinc := c_iadd i (1 : Int32)
    have hincr := rng32 (i + (1 : Int32))
    have hk1 : (1 : Int32).toInt = 1 := by decide
    have hstep : csum bs I (n + 1) acc = csum bs (I + 1) n (acc + (bs.getD I 0 &&& (255 : Int32))) := rfl
    rw [hstep]
    show Go p e below _ T0 (mkF m 5 #[.val (.ref a), .val (.int off), .val (.int len), .val (.int acc), .val (.int i)] [])
    refine Go.s_iload X0 hx (hb hby d1_5) (q := 7) rfl rfl ?_
    refine Go.s_iloadN X0 hx (hb hby d1_7) (q := 8) rfl rfl ?_
    refine Go.s_iloadN X0 hx (hb hby d1_8) (q := 9) rfl rfl ?_
    refine Go.s_iadd X0 hx (hb hby d1_9) (q := 10) rfl ?_
    refine Go.s_icmpNo X0 hx (hb hby d1_10) (q := 13) rfl (tlt hlt).2.1 ?_
    refine Go.s_iloadN X0 hx (hb hby d1_13) (q := 14) rfl rfl ?_
    refine Go.s_aloadN X0 hx (hb hby d1_14) (q := 15) rfl rfl rfl ?_
    refine Go.s_iload X0 hx (hb hby d1_15) (q := 17) rfl rfl ?_
    refine Go.ldB X0 hx hZ e0 V_a ⟨hi0, hi5⟩ (w := (.int (bs.getD I 0))) (by rw [hI]; exact getD_mapI bs I) (hb hby d1_17) ?_
    show Go p e below _ T0 (mkF m 18 #[.val (.ref a), .val (.int off), .val (.int len), .val (.int acc), .val (.int i)] [(.int (bs.getD I 0)), (.int acc)])
    refine Go.s_sipush X0 hx (hb hby d1_18) (q := 21) rfl (z := 255) rfl ?_
    refine Go.s_iand X0 hx (hb hby d1_21) (q := 22) rfl ?_
    refine Go.s_iadd X0 hx (hb hby d1_22) (q := 23) rfl ?_
    refine Go.s_istoreN X0 hx (hb hby d1_23) (q := 24) rfl (l' := #[.val (.ref a), .val (.int off), .val (.int len), .val (.int (acc + ((bs.getD I 0) &&& (255 : Int32)))), .val (.int i)]) rfl ?_
    refine Go.s_iinc X0 hx (hb hby d1_24) (q := 27) rfl rfl (l' := #[.val (.ref a), .val (.int off), .val (.int len), .val (.int (acc + ((bs.getD I 0) &&& (255 : Int32)))), .val (.int (i + (1 : Int32)))]) rfl ?_
    refine Go.s_goto X0 hx (hb hby d1_27) (q := 5) (by decide) (by decide) ?_
    exact ih X0 e0 _ _ _ (by omega) (by omega) (by omega)
theorem ef_cs (m : MethodId) (x0 : Addr) (x1 : Int32) (x2 : Int32) : entryFrame m #[(.ref x0), (.int x1), (.int x2)] 5 = mkF m 0 #[.val (.ref x0), .val (.int x1), .val (.int x2), .unset, .unset] [] := by first | (simp [entryFrame, mkF, argsToLocals, Value.category]; done) | rfl
set_option maxRecDepth 65536 in
set_option maxHeartbeats 40000000 in
theorem rm_cs (l : Launch) (Z : State) (a0 : Array Value) (hw : ∀ d ∈ tables_1, d.before a0 Z = true) (a : Addr) (x1 : Int32) (x2 : Int32) (h0 : Heap) (kc : ClassId) (bs : List Int32) (V_a : Arv Z h0 a kc .byte (5 : Int32) (bs.map Value.int) (.int 0)) (ho : 0 ≤ x1.toInt) (hl : 0 ≤ x2.toInt) (hol : x1.toInt + x2.toInt ≤ 5) :
    Ct l mn_1 prog_17_method_8_code 5 (some .int) ({ frames := 0, cells := 0, slots := 0, locals := 0 } : Room) Z h0 #[(.ref a), (.int x1), (.int x2)] (fun v h L => v = some (.int (csum bs x1.toNatClampNeg x2.toNatClampNeg (0 : Int32) &&& (255 : Int32))) ∧ L = [] ∧ h = h0) := by
  refine Ct.body (plainFor_of_name pn_com_example_pulsegate_pulsegate_FixMessage) ?_
  intro p e s m below meth c T0 hx hby hml hown hnm hret hlk hZ X0 e0
  refine Go.cast (ef_cs m a x1 x2) ?_
  show Go p e below _ T0 (mkF m 0 #[.val (.ref a), .val (.int x1), .val (.int x2), .unset, .unset] [])
  refine Go.s_iconst X0 hx (hb hby d1_0) (q := 1) rfl (z := 0) rfl ?_
  refine Go.s_istoreN X0 hx (hb hby d1_1) (q := 2) rfl (l' := #[.val (.ref a), .val (.int x1), .val (.int x2), .val (.int (0 : Int32)), .unset]) rfl ?_
  refine Go.s_iloadN X0 hx (hb hby d1_2) (q := 3) rfl rfl ?_
  refine Go.s_istore X0 hx (hb hby d1_3) (q := 5) rfl (l' := #[.val (.ref a), .val (.int x1), .val (.int x2), .val (.int (0 : Int32)), .val (.int x1)]) rfl ?_
  have k0 : (0 : Int32).toInt = 0 := by decide
  have hn1 := nat_of (j := x1) (fun q => by have := Int32.lt_iff_toInt_lt.mp q; omega)
  have hn2 := nat_of (j := x2) (fun q => by have := Int32.lt_iff_toInt_lt.mp q; omega)
  exact lp_cs hw hx hby hml hown hret hlk hZ V_a ho hl hol x2.toNatClampNeg X0 e0 x1 (0 : Int32) x1.toNatClampNeg hn1 (by omega) (Int.le_refl _)
theorem ef_law (m : MethodId) (x0 : Int32) (x1 : Int32) (x2 : Int32) (x3 : Int32) : entryFrame m #[(.int x0), (.int x1), (.int x2), (.int x3)] maxLocals = mkF m 0 #[.val (.int x0), .val (.int x1), .val (.int x2), .val (.int x3), .unset, .unset, .unset, .unset, .unset, .unset, .unset] [] := by first | (simp [entryFrame, mkF, argsToLocals, Value.category, maxLocals]; done) | rfl
set_option maxRecDepth 65536 in
set_option maxHeartbeats 40000000 in
theorem rm_law (l : Launch) (Z : State) (a0 : Array Value) (hw : ∀ d ∈ tables_1, d.before a0 Z = true) (x0 : Int32) (x1 : Int32) (x2 : Int32) (x3 : Int32) (h0 : Heap) (n0 : Nat) (Z0 : n0 ≤ h0.size) :
    Ct l x code maxLocals ret room_1 Z h0 #[(.int x0), (.int x1), (.int x2), (.int x3)] (fun v h L => v = some (.int 1) ∧ Fr n0 L) := by
  refine Ct.body (plainFor_of_name pn_com_example_pulsegate_pulsegate_FixMessageCheckSumPinLaw) ?_
  intro p e s m below meth c T0 hx hby hml hown hnm hret hlk hZ X0 e0
  refine Go.cast (ef_law m x0 x1 x2 x3) ?_
  show Go p e below _ T0 (mkF m 0 #[.val (.int x0), .val (.int x1), .val (.int x2), .val (.int x3), .unset, .unset, .unset, .unset, .unset, .unset, .unset] [])
  refine Go.s_iconst X0 hx (hb hby at_0) (q := 1) rfl (z := 5) rfl ?_
  refine Go.newP X0 hx hZ (w_ hw 0 rfl) e0 (hb hby at_1) (by decide) (cap := 5) (by decide) (by decide) (by decide) (by decide) ?_
  intro T1 h1 b1 k1 g1 X1 e1 E1 V1
  have g_b1 : n0 ≤ b1 := g1 ▸ Z0
  have Z0_v2 := Nat.le_trans Z0 E1.1
  have V1_3 : Arv Z h1 b1 k1 .byte (5 : Int32) [(.int (0 : Int32)), (.int (0 : Int32)), (.int (0 : Int32)), (.int (0 : Int32)), (.int (0 : Int32))] (.int (0 : Int32)) := V1.pad (pad_rep [] (.int (0 : Int32)) 5)
  show Go p e below _ T1 (mkF m 3 #[.val (.int x0), .val (.int x1), .val (.int x2), .val (.int x3), .unset, .unset, .unset, .unset, .unset, .unset, .unset] [(.ref b1)])
  refine Go.s_astore X1 hx (hb hby at_3) (q := 5) rfl rfl (l' := #[.val (.int x0), .val (.int x1), .val (.int x2), .val (.int x3), .val (.ref b1), .unset, .unset, .unset, .unset, .unset, .unset]) rfl ?_
  refine Go.s_aload X1 hx (hb hby at_5) (q := 7) rfl rfl rfl ?_
  refine Go.s_iconst X1 hx (hb hby at_7) (q := 8) rfl (z := 0) rfl ?_
  refine Go.s_iloadN X1 hx (hb hby at_8) (q := 9) rfl rfl ?_
  refine Go.s_i2b X1 hx (hb hby at_9) (q := 10) rfl ?_
  refine Go.stB X1 hx hZ e1 V1_3 ⟨by decide, by decide⟩ 0 rfl (by first | decide | exact Nat.le_of_ble_eq_true rfl) (hb hby at_10) ?_
  intro T4 h4 X4 e4 W4 V4
  have N4 := Fr.snoc X4 (Fr.nil n0) g_b1
  have Z0_v5 := Nat.le_trans Z0_v2 (Keep.of_wr W4).1
  have V4_6 : Arv Z h4 b1 k1 .byte (5 : Int32) [(.int (nar .byte (x0.toInt8.toInt32))), (.int (0 : Int32)), (.int (0 : Int32)), (.int (0 : Int32)), (.int (0 : Int32))] (.int (0 : Int32)) := V4
  show Go p e below _ T4 (mkF m 11 #[.val (.int x0), .val (.int x1), .val (.int x2), .val (.int x3), .val (.ref b1), .unset, .unset, .unset, .unset, .unset, .unset] [])
  refine Go.s_aload X4 hx (hb hby at_11) (q := 13) rfl rfl rfl ?_
  refine Go.s_iconst X4 hx (hb hby at_13) (q := 14) rfl (z := 1) rfl ?_
  refine Go.s_iloadN X4 hx (hb hby at_14) (q := 15) rfl rfl ?_
  refine Go.s_bipush X4 hx (hb hby at_15) (q := 17) rfl (z := 8) rfl ?_
  refine Go.s_iushr X4 hx (hb hby at_17) (q := 18) rfl ?_
  refine Go.s_i2b X4 hx (hb hby at_18) (q := 19) rfl ?_
  refine Go.stB X4 hx hZ e4 V4_6 ⟨by decide, by decide⟩ 1 rfl (by first | decide | exact Nat.le_of_ble_eq_true rfl) (hb hby at_19) ?_
  intro T7 h7 X7 e7 W7 V7
  have N7 := Fr.snoc X7 N4 g_b1
  have Z0_v8 := Nat.le_trans Z0_v5 (Keep.of_wr W7).1
  have V7_9 : Arv Z h7 b1 k1 .byte (5 : Int32) [(.int (nar .byte (x0.toInt8.toInt32))), (.int (nar .byte (((x0.toUInt32 >>> ((8 : Int32) &&& 31).toUInt32).toInt32).toInt8.toInt32))), (.int (0 : Int32)), (.int (0 : Int32)), (.int (0 : Int32))] (.int (0 : Int32)) := V7
  show Go p e below _ T7 (mkF m 20 #[.val (.int x0), .val (.int x1), .val (.int x2), .val (.int x3), .val (.ref b1), .unset, .unset, .unset, .unset, .unset, .unset] [])
  refine Go.s_aload X7 hx (hb hby at_20) (q := 22) rfl rfl rfl ?_
  refine Go.s_iconst X7 hx (hb hby at_22) (q := 23) rfl (z := 2) rfl ?_
  refine Go.s_iloadN X7 hx (hb hby at_23) (q := 24) rfl rfl ?_
  refine Go.s_bipush X7 hx (hb hby at_24) (q := 26) rfl (z := 16) rfl ?_
  refine Go.s_iushr X7 hx (hb hby at_26) (q := 27) rfl ?_
  refine Go.s_i2b X7 hx (hb hby at_27) (q := 28) rfl ?_
  refine Go.stB X7 hx hZ e7 V7_9 ⟨by decide, by decide⟩ 2 rfl (by first | decide | exact Nat.le_of_ble_eq_true rfl) (hb hby at_28) ?_
  intro T10 h10 X10 e10 W10 V10
  have N10 := Fr.snoc X10 N7 g_b1
  have Z0_v11 := Nat.le_trans Z0_v8 (Keep.of_wr W10).1
  have V10_12 : Arv Z h10 b1 k1 .byte (5 : Int32) [(.int (nar .byte (x0.toInt8.toInt32))), (.int (nar .byte (((x0.toUInt32 >>> ((8 : Int32) &&& 31).toUInt32).toInt32).toInt8.toInt32))), (.int (nar .byte (((x0.toUInt32 >>> ((16 : Int32) &&& 31).toUInt32).toInt32).toInt8.toInt32))), (.int (0 : Int32)), (.int (0 : Int32))] (.int (0 : Int32)) := V10
  show Go p e below _ T10 (mkF m 29 #[.val (.int x0), .val (.int x1), .val (.int x2), .val (.int x3), .val (.ref b1), .unset, .unset, .unset, .unset, .unset, .unset] [])
  refine Go.s_aload X10 hx (hb hby at_29) (q := 31) rfl rfl rfl ?_
  refine Go.s_iconst X10 hx (hb hby at_31) (q := 32) rfl (z := 3) rfl ?_
  refine Go.s_iloadN X10 hx (hb hby at_32) (q := 33) rfl rfl ?_
  refine Go.s_bipush X10 hx (hb hby at_33) (q := 35) rfl (z := 24) rfl ?_
  refine Go.s_iushr X10 hx (hb hby at_35) (q := 36) rfl ?_
  refine Go.s_i2b X10 hx (hb hby at_36) (q := 37) rfl ?_
  refine Go.stB X10 hx hZ e10 V10_12 ⟨by decide, by decide⟩ 3 rfl (by first | decide | exact Nat.le_of_ble_eq_true rfl) (hb hby at_37) ?_
  intro T13 h13 X13 e13 W13 V13
  have N13 := Fr.snoc X13 N10 g_b1
  have Z0_v14 := Nat.le_trans Z0_v11 (Keep.of_wr W13).1
  have V13_15 : Arv Z h13 b1 k1 .byte (5 : Int32) [(.int (nar .byte (x0.toInt8.toInt32))), (.int (nar .byte (((x0.toUInt32 >>> ((8 : Int32) &&& 31).toUInt32).toInt32).toInt8.toInt32))), (.int (nar .byte (((x0.toUInt32 >>> ((16 : Int32) &&& 31).toUInt32).toInt32).toInt8.toInt32))), (.int (nar .byte (((x0.toUInt32 >>> ((24 : Int32) &&& 31).toUInt32).toInt32).toInt8.toInt32))), (.int (0 : Int32))] (.int (0 : Int32)) := V13
  show Go p e below _ T13 (mkF m 38 #[.val (.int x0), .val (.int x1), .val (.int x2), .val (.int x3), .val (.ref b1), .unset, .unset, .unset, .unset, .unset, .unset] [])
  refine Go.s_aload X13 hx (hb hby at_38) (q := 40) rfl rfl rfl ?_
  refine Go.s_iconst X13 hx (hb hby at_40) (q := 41) rfl (z := 4) rfl ?_
  refine Go.s_iloadN X13 hx (hb hby at_41) (q := 42) rfl rfl ?_
  refine Go.s_i2b X13 hx (hb hby at_42) (q := 43) rfl ?_
  refine Go.stB X13 hx hZ e13 V13_15 ⟨by decide, by decide⟩ 4 rfl (by first | decide | exact Nat.le_of_ble_eq_true rfl) (hb hby at_43) ?_
  intro T16 h16 X16 e16 W16 V16
  have N16 := Fr.snoc X16 N13 g_b1
  have Z0_v17 := Nat.le_trans Z0_v14 (Keep.of_wr W16).1
  have V16_18 : Arv Z h16 b1 k1 .byte (5 : Int32) [(.int (nar .byte (x0.toInt8.toInt32))), (.int (nar .byte (((x0.toUInt32 >>> ((8 : Int32) &&& 31).toUInt32).toInt32).toInt8.toInt32))), (.int (nar .byte (((x0.toUInt32 >>> ((16 : Int32) &&& 31).toUInt32).toInt32).toInt8.toInt32))), (.int (nar .byte (((x0.toUInt32 >>> ((24 : Int32) &&& 31).toUInt32).toInt32).toInt8.toInt32))), (.int (nar .byte (x1.toInt8.toInt32)))] (.int (0 : Int32)) := V16
  generalize (nar .byte (x0.toInt8.toInt32)) = byt0 at V16_18
  generalize (nar .byte (((x0.toUInt32 >>> ((8 : Int32) &&& 31).toUInt32).toInt32).toInt8.toInt32)) = byt1 at V16_18
  generalize (nar .byte (((x0.toUInt32 >>> ((16 : Int32) &&& 31).toUInt32).toInt32).toInt8.toInt32)) = byt2 at V16_18
  generalize (nar .byte (((x0.toUInt32 >>> ((24 : Int32) &&& 31).toUInt32).toInt32).toInt8.toInt32)) = byt3 at V16_18
  generalize (nar .byte (x1.toInt8.toInt32)) = byt4 at V16_18
  show Go p e below _ T16 (mkF m 44 #[.val (.int x0), .val (.int x1), .val (.int x2), .val (.int x3), .val (.ref b1), .unset, .unset, .unset, .unset, .unset, .unset] [])
  refine Go.s_iloadN X16 hx (hb hby at_44) (q := 45) rfl rfl ?_
  refine Go.s_ldc X16 hx (hb hby at_45) (q := 47) rfl hown (mvT hZ (w_ hw 1 rfl)) ?_
  refine Go.s_iand X16 hx (hb hby at_47) (q := 48) rfl ?_
  refine Go.s_bipush X16 hx (hb hby at_48) (q := 50) rfl (z := 6) rfl ?_
  refine Go.s_irem X16 hx (hb hby at_50) (q := 51) rfl (by decide) ?_
  refine Go.s_istore X16 hx (hb hby at_51) (q := 53) rfl (l' := #[.val (.int x0), .val (.int x1), .val (.int x2), .val (.int x3), .val (.ref b1), .val (.int ((x2 &&& (2147483647 : Int32)) % (6 : Int32))), .unset, .unset, .unset, .unset, .unset]) rfl ?_
  generalize hv19 : ((x2 &&& (2147483647 : Int32)) % (6 : Int32)) = v19
  refine Go.s_iloadN X16 hx (hb hby at_53) (q := 54) rfl rfl ?_
  refine Go.s_ldc X16 hx (hb hby at_54) (q := 56) rfl hown (mvT hZ (w_ hw 1 rfl)) ?_
  refine Go.s_iand X16 hx (hb hby at_56) (q := 57) rfl ?_
  refine Go.s_bipush X16 hx (hb hby at_57) (q := 59) rfl (z := 6) rfl ?_
  refine Go.s_iload X16 hx (hb hby at_59) (q := 61) rfl rfl ?_
  refine Go.s_isub X16 hx (hb hby at_61) (q := 62) rfl ?_
  refine Go.s_irem X16 hx (hb hby at_62) (q := 63) rfl (sub_nz hv19) ?_
  refine Go.s_istore X16 hx (hb hby at_63) (q := 65) rfl (l' := #[.val (.int x0), .val (.int x1), .val (.int x2), .val (.int x3), .val (.ref b1), .val (.int v19), .val (.int ((x3 &&& (2147483647 : Int32)) % ((6 : Int32) - v19))), .unset, .unset, .unset, .unset]) rfl ?_
  generalize hv20 : ((x3 &&& (2147483647 : Int32)) % ((6 : Int32) - v19)) = v20
  refine Go.s_aload X16 hx (hb hby at_65) (q := 67) rfl rfl rfl ?_
  refine Go.s_iload X16 hx (hb hby at_67) (q := 69) rfl rfl ?_
  refine Go.s_iload X16 hx (hb hby at_69) (q := 71) rfl rfl ?_
  obtain ⟨bo0, bo5, bl0, bl5⟩ := bounds hv19 hv20
  refine Go.callS (y := mn_1) X16 hx hZ hown (w_ hw 2 rfl) (w_ hw 3 rfl) (w_ hw 4 rfl) (w_ hw 5 rfl) (by decide) e16 (argsL := [(.ref b1), (.int v19), (.int v20)]) (rest := []) (rm_cs l Z a0 hw b1 v19 v20 h16 _ [byt0, byt1, byt2, byt3, byt4] V16_18 bo0 bl0 bl5) (by rw [hml]; rfl) (lenOf pd_0 rfl) rfl (hb hby at_71) (by decide) (by decide) (by decide) (by decide) ?_
  intro r21 T21 L21 q21 X21
  obtain ⟨rfl, rfl, e21⟩ := q21
  rw [List.append_nil] at X21
  show Go p e below _ T21 (mkF m 74 #[.val (.int x0), .val (.int x1), .val (.int x2), .val (.int x3), .val (.ref b1), .val (.int v19), .val (.int v20), .unset, .unset, .unset, .unset] [(.int (csum [byt0, byt1, byt2, byt3, byt4] v19.toNatClampNeg v20.toNatClampNeg (0 : Int32) &&& (255 : Int32)))])
  refine Go.s_istore X21 hx (hb hby at_74) (q := 76) rfl (l' := #[.val (.int x0), .val (.int x1), .val (.int x2), .val (.int x3), .val (.ref b1), .val (.int v19), .val (.int v20), .val (.int (csum [byt0, byt1, byt2, byt3, byt4] v19.toNatClampNeg v20.toNatClampNeg (0 : Int32) &&& (255 : Int32))), .unset, .unset, .unset]) rfl ?_
  generalize hv22 : (csum [byt0, byt1, byt2, byt3, byt4] v19.toNatClampNeg v20.toNatClampNeg (0 : Int32) &&& (255 : Int32)) = v22
  refine Go.s_iload X21 hx (hb hby at_76) (q := 78) rfl rfl ?_
  refine Go.s_iload X21 hx (hb hby at_78) (q := 80) rfl rfl ?_
  refine Go.s_iadd X21 hx (hb hby at_80) (q := 81) rfl ?_
  refine Go.s_istore X21 hx (hb hby at_81) (q := 83) rfl (l' := #[.val (.int x0), .val (.int x1), .val (.int x2), .val (.int x3), .val (.ref b1), .val (.int v19), .val (.int v20), .val (.int v22), .val (.int (v19 + v20)), .unset, .unset]) rfl ?_
  generalize hv23 : (v19 + v20) = v23
  refine Go.s_aload X21 hx (hb hby at_83) (q := 85) rfl rfl rfl ?_
  refine Go.s_iconst X21 hx (hb hby at_85) (q := 86) rfl (z := 0) rfl ?_
  refine Go.s_iload X21 hx (hb hby at_86) (q := 88) rfl rfl ?_
  refine Go.s_iload X21 hx (hb hby at_88) (q := 90) rfl rfl ?_
  refine Go.callS (y := mn_2) X21 hx hZ hown (w_ hw 6 rfl) (w_ hw 7 rfl) (w_ hw 8 rfl) (w_ hw 9 rfl) (by decide) e21 (argsL := [(.ref b1), (.int (0 : Int32)), (.int v19), (.int v23)]) (rest := []) (rm_tm l Z a0 hw b1 (0 : Int32) v19 v23 h16 _ [byt0, byt1, byt2, byt3, byt4] V16_18 ⟨by decide, by decide⟩) (by rw [hml]; rfl) (lenOf pd_1 rfl) rfl (hb hby at_90) (by decide) (by decide) (by decide) (by decide) ?_
  intro r24 T24 L24 q24 X24
  obtain ⟨w24, rfl, p24, rfl, e24⟩ := q24
  rw [List.append_nil] at X24
  show Go p e below _ T24 (mkF m 93 #[.val (.int x0), .val (.int x1), .val (.int x2), .val (.int x3), .val (.ref b1), .val (.int v19), .val (.int v20), .val (.int v22), .val (.int v23), .unset, .unset] [(.int w24)])
  refine Go.s_aload X24 hx (hb hby at_93) (q := 95) rfl rfl rfl ?_
  refine Go.s_iconst X24 hx (hb hby at_95) (q := 96) rfl (z := 1) rfl ?_
  refine Go.s_iload X24 hx (hb hby at_96) (q := 98) rfl rfl ?_
  refine Go.s_iload X24 hx (hb hby at_98) (q := 100) rfl rfl ?_
  refine Go.callS (y := mn_2) X24 hx hZ hown (w_ hw 6 rfl) (w_ hw 7 rfl) (w_ hw 8 rfl) (w_ hw 9 rfl) (by decide) e24 (argsL := [(.ref b1), (.int (1 : Int32)), (.int v19), (.int v23)]) (rest := [(.int w24)]) (rm_tm l Z a0 hw b1 (1 : Int32) v19 v23 h16 _ [byt0, byt1, byt2, byt3, byt4] V16_18 ⟨by decide, by decide⟩) (by rw [hml]; rfl) (lenOf pd_1 rfl) rfl (hb hby at_100) (by first | decide | exact Nat.le_of_ble_eq_true rfl) (by first | decide | exact Nat.le_of_ble_eq_true rfl) (by first | decide | exact Nat.le_of_ble_eq_true rfl) (by first | decide | exact Nat.le_of_ble_eq_true rfl) ?_
  intro r25 T25 L25 q25 X25
  obtain ⟨w25, rfl, p25, rfl, e25⟩ := q25
  rw [List.append_nil] at X25
  show Go p e below _ T25 (mkF m 103 #[.val (.int x0), .val (.int x1), .val (.int x2), .val (.int x3), .val (.ref b1), .val (.int v19), .val (.int v20), .val (.int v22), .val (.int v23), .unset, .unset] [(.int w25), (.int w24)])
  refine Go.s_iadd X25 hx (hb hby at_103) (q := 104) rfl ?_
  refine Go.s_aload X25 hx (hb hby at_104) (q := 106) rfl rfl rfl ?_
  refine Go.s_iconst X25 hx (hb hby at_106) (q := 107) rfl (z := 2) rfl ?_
  refine Go.s_iload X25 hx (hb hby at_107) (q := 109) rfl rfl ?_
  refine Go.s_iload X25 hx (hb hby at_109) (q := 111) rfl rfl ?_
  refine Go.callS (y := mn_2) X25 hx hZ hown (w_ hw 6 rfl) (w_ hw 7 rfl) (w_ hw 8 rfl) (w_ hw 9 rfl) (by decide) e25 (argsL := [(.ref b1), (.int (2 : Int32)), (.int v19), (.int v23)]) (rest := [(.int (w24 + w25))]) (rm_tm l Z a0 hw b1 (2 : Int32) v19 v23 h16 _ [byt0, byt1, byt2, byt3, byt4] V16_18 ⟨by decide, by decide⟩) (by rw [hml]; rfl) (lenOf pd_1 rfl) rfl (hb hby at_111) (by first | decide | exact Nat.le_of_ble_eq_true rfl) (by first | decide | exact Nat.le_of_ble_eq_true rfl) (by first | decide | exact Nat.le_of_ble_eq_true rfl) (by first | decide | exact Nat.le_of_ble_eq_true rfl) ?_
  intro r26 T26 L26 q26 X26
  obtain ⟨w26, rfl, p26, rfl, e26⟩ := q26
  rw [List.append_nil] at X26
  show Go p e below _ T26 (mkF m 114 #[.val (.int x0), .val (.int x1), .val (.int x2), .val (.int x3), .val (.ref b1), .val (.int v19), .val (.int v20), .val (.int v22), .val (.int v23), .unset, .unset] [(.int w26), (.int (w24 + w25))])
  refine Go.s_iadd X26 hx (hb hby at_114) (q := 115) rfl ?_
  refine Go.s_aload X26 hx (hb hby at_115) (q := 117) rfl rfl rfl ?_
  refine Go.s_iconst X26 hx (hb hby at_117) (q := 118) rfl (z := 3) rfl ?_
  refine Go.s_iload X26 hx (hb hby at_118) (q := 120) rfl rfl ?_
  refine Go.s_iload X26 hx (hb hby at_120) (q := 122) rfl rfl ?_
  refine Go.callS (y := mn_2) X26 hx hZ hown (w_ hw 6 rfl) (w_ hw 7 rfl) (w_ hw 8 rfl) (w_ hw 9 rfl) (by decide) e26 (argsL := [(.ref b1), (.int (3 : Int32)), (.int v19), (.int v23)]) (rest := [(.int ((w24 + w25) + w26))]) (rm_tm l Z a0 hw b1 (3 : Int32) v19 v23 h16 _ [byt0, byt1, byt2, byt3, byt4] V16_18 ⟨by decide, by decide⟩) (by rw [hml]; rfl) (lenOf pd_1 rfl) rfl (hb hby at_122) (by first | decide | exact Nat.le_of_ble_eq_true rfl) (by first | decide | exact Nat.le_of_ble_eq_true rfl) (by first | decide | exact Nat.le_of_ble_eq_true rfl) (by first | decide | exact Nat.le_of_ble_eq_true rfl) ?_
  intro r27 T27 L27 q27 X27
  obtain ⟨w27, rfl, p27, rfl, e27⟩ := q27
  rw [List.append_nil] at X27
  show Go p e below _ T27 (mkF m 125 #[.val (.int x0), .val (.int x1), .val (.int x2), .val (.int x3), .val (.ref b1), .val (.int v19), .val (.int v20), .val (.int v22), .val (.int v23), .unset, .unset] [(.int w27), (.int ((w24 + w25) + w26))])
  refine Go.s_iadd X27 hx (hb hby at_125) (q := 126) rfl ?_
  refine Go.s_aload X27 hx (hb hby at_126) (q := 128) rfl rfl rfl ?_
  refine Go.s_iconst X27 hx (hb hby at_128) (q := 129) rfl (z := 4) rfl ?_
  refine Go.s_iload X27 hx (hb hby at_129) (q := 131) rfl rfl ?_
  refine Go.s_iload X27 hx (hb hby at_131) (q := 133) rfl rfl ?_
  refine Go.callS (y := mn_2) X27 hx hZ hown (w_ hw 6 rfl) (w_ hw 7 rfl) (w_ hw 8 rfl) (w_ hw 9 rfl) (by decide) e27 (argsL := [(.ref b1), (.int (4 : Int32)), (.int v19), (.int v23)]) (rest := [(.int (((w24 + w25) + w26) + w27))]) (rm_tm l Z a0 hw b1 (4 : Int32) v19 v23 h16 _ [byt0, byt1, byt2, byt3, byt4] V16_18 ⟨by decide, by decide⟩) (by rw [hml]; rfl) (lenOf pd_1 rfl) rfl (hb hby at_133) (by first | decide | exact Nat.le_of_ble_eq_true rfl) (by first | decide | exact Nat.le_of_ble_eq_true rfl) (by first | decide | exact Nat.le_of_ble_eq_true rfl) (by first | decide | exact Nat.le_of_ble_eq_true rfl) ?_
  intro r28 T28 L28 q28 X28
  obtain ⟨w28, rfl, p28, rfl, e28⟩ := q28
  rw [List.append_nil] at X28
  show Go p e below _ T28 (mkF m 136 #[.val (.int x0), .val (.int x1), .val (.int x2), .val (.int x3), .val (.ref b1), .val (.int v19), .val (.int v20), .val (.int v22), .val (.int v23), .unset, .unset] [(.int w28), (.int (((w24 + w25) + w26) + w27))])
  refine Go.s_iadd X28 hx (hb hby at_136) (q := 137) rfl ?_
  refine Go.s_istore X28 hx (hb hby at_137) (q := 139) rfl (l' := #[.val (.int x0), .val (.int x1), .val (.int x2), .val (.int x3), .val (.ref b1), .val (.int v19), .val (.int v20), .val (.int v22), .val (.int v23), .val (.int ((((w24 + w25) + w26) + w27) + w28)), .unset]) rfl ?_
  generalize hv29 : ((((w24 + w25) + w26) + w27) + w28) = v29
  refine Go.s_iload X28 hx (hb hby at_139) (q := 141) rfl rfl ?_
  refine Go.s_sipush X28 hx (hb hby at_141) (q := 144) rfl (z := 255) rfl ?_
  refine Go.s_iand X28 hx (hb hby at_144) (q := 145) rfl ?_
  refine Go.s_istore X28 hx (hb hby at_145) (q := 147) rfl (l' := #[.val (.int x0), .val (.int x1), .val (.int x2), .val (.int x3), .val (.ref b1), .val (.int v19), .val (.int v20), .val (.int v22), .val (.int v23), .val (.int v29), .val (.int (v29 &&& (255 : Int32)))]) rfl ?_
  generalize hv30 : (v29 &&& (255 : Int32)) = v30
  refine Go.s_iload X28 hx (hb hby at_147) (q := 149) rfl rfl ?_
  refine Go.s_iload X28 hx (hb hby at_149) (q := 151) rfl rfl ?_
  by_cases c151_31 : v22 = v30
  · -- pc 151: v22 = v30
    refine Go.s_icmpNo X28 hx (hb hby at_151) (q := 154) rfl (teq c151_31).2 ?_
    refine Go.s_iload X28 hx (hb hby at_154) (q := 156) rfl rfl ?_
    by_cases c156_32 : v22 < (0 : Int32)
    · -- pc 156: v22 < (0 : Int32)
      refine Go.s_ifYes X28 hx (hb hby at_156) (q := 171) (by decide) (by decide) ((if0 _ _).trans (tlt c156_32).1) ?_
      refine Go.s_iconst X28 hx (hb hby at_171) (q := 172) rfl (z := 0) rfl ?_
      refine Go.retN X28 hx hlk hret (by simp) (hb hby at_172) (by decide) (by decide) ?_
      try rw [e28]
      exfalso
      have pl := plain [byt0, byt1, byt2, byt3, byt4] hv23 bo0 bo5 bl0 bl5 p24 p25 p26 p27 p28
      have m1 := c_mask (csum [byt0, byt1, byt2, byt3, byt4] v19.toNatClampNeg v20.toNatClampNeg (0 : Int32)) (255 : Int32) 8 (by decide) (by decide)
      rw [hv22] at m1 pl
      have t1 := Int32.lt_iff_toInt_lt.mp c156_32
      have t2 : (0 : Int32).toInt = 0 := by decide
      have t3 : (255 : Int32).toInt = 255 := by decide
      omega
    · -- pc 156: not v22 < (0 : Int32)
      refine Go.s_ifNo X28 hx (hb hby at_156) (q := 159) rfl ((if0 _ _).trans (flt c156_32).1) ?_
      refine Go.s_iload X28 hx (hb hby at_159) (q := 161) rfl rfl ?_
      refine Go.s_sipush X28 hx (hb hby at_161) (q := 164) rfl (z := 255) rfl ?_
      by_cases c164_33 : (255 : Int32) < v22
      · -- pc 164: (255 : Int32) < v22
        refine Go.s_icmpYes X28 hx (hb hby at_164) (q := 171) (by decide) (by decide) (tlt c164_33).2.2.1 ?_
        refine Go.s_iconst X28 hx (hb hby at_171) (q := 172) rfl (z := 0) rfl ?_
        refine Go.retN X28 hx hlk hret (by simp) (hb hby at_172) (by decide) (by decide) ?_
        try rw [e28]
        exfalso
        have pl := plain [byt0, byt1, byt2, byt3, byt4] hv23 bo0 bo5 bl0 bl5 p24 p25 p26 p27 p28
        have m1 := c_mask (csum [byt0, byt1, byt2, byt3, byt4] v19.toNatClampNeg v20.toNatClampNeg (0 : Int32)) (255 : Int32) 8 (by decide) (by decide)
        rw [hv22] at m1 pl
        have t1 := Int32.lt_iff_toInt_lt.mp c164_33
        have t2 : (0 : Int32).toInt = 0 := by decide
        have t3 : (255 : Int32).toInt = 255 := by decide
        omega
      · -- pc 164: not (255 : Int32) < v22
        refine Go.s_icmpNo X28 hx (hb hby at_164) (q := 167) rfl (flt c164_33).2.2.1 ?_
        refine Go.s_iconst X28 hx (hb hby at_167) (q := 168) rfl (z := 1) rfl ?_
        refine Go.s_goto X28 hx (hb hby at_168) (q := 172) (by decide) (by decide) ?_
        refine Go.retN X28 hx hlk hret (by simp) (hb hby at_172) (by decide) (by decide) ?_
        try rw [e28]
        exact ⟨by decide, N16⟩
  · -- pc 151: not v22 = v30
    refine Go.s_icmpYes X28 hx (hb hby at_151) (q := 171) (by decide) (by decide) (feq c151_31).2 ?_
    refine Go.s_iconst X28 hx (hb hby at_171) (q := 172) rfl (z := 0) rfl ?_
    refine Go.retN X28 hx hlk hret (by simp) (hb hby at_172) (by decide) (by decide) ?_
    try rw [e28]
    exfalso
    have pl := plain [byt0, byt1, byt2, byt3, byt4] hv23 bo0 bo5 bl0 bl5 p24 p25 p26 p27 p28
    have m1 := c_mask (csum [byt0, byt1, byt2, byt3, byt4] v19.toNatClampNeg v20.toNatClampNeg (0 : Int32)) (255 : Int32) 8 (by decide) (by decide)
    rw [hv22] at m1 pl
    exact c151_31 (pl.trans ((congrArg (fun q => q &&& (255 : Int32)) hv29).trans hv30))
set_option maxRecDepth 65536 in
set_option maxHeartbeats 40000000 in
theorem comes_1 {Post : Tables → Env → Array Value → State → Outcome → State → Prop} (hpost : ∀ tb e args s v u, (limb_1_1.after args s (.returned v) u = true ∧ limb_1_2.after args s (.returned v) u = true ∧ True) → FrameEnd s (.returned v) u (Jvm.fieldLocs frame_1_writes args s ++ Jvm.arrayLocs frame_1_arrays args s ++ Jvm.staticLocs frame_1_statics s) 16 128 → Post tb e args s (.returned v) u) :
    ArmFor flags0 classFile x code maxLocals ret World_1 tables_1 room_1 Calls_1 rest_1 Pre_1 Post := by
  intro l hfl _ _ p e ha hc hk s m args below hf hA hF happ hP
  obtain ⟨hcalls, hrest, hpre⟩ := hP
  obtain ⟨-, -, -, hnamed, -, -, -, hat⟩ := (Spec.applies_iff hf).mp happ
  obtain ⟨hg, hn⟩ := and_e (Cond.before_iff.mp (show (Jvm.Cond.and given_1 narrow_1).before args s = true from hpre))
  obtain ⟨hgl, hgr⟩ := and_e hg
  obtain ⟨hgrl, hgrr⟩ := and_e hgr
  obtain ⟨hgrrl, hgrrr⟩ := and_e hgrr
  obtain ⟨hgrrrl, hgrrrr⟩ := and_e hgrrr
  obtain ⟨w0, w1, w2, w3, rfl⟩ : ∃ w0 w1 w2 w3 : Value, args = #[w0, w1, w2, w3] := by
    have hs : args.size = 4 := by simpa [Cond.value, given_1] using hgl
    obtain ⟨L⟩ := args
    match L, hs with
    | [w0, w1, w2, w3], _ => exact ⟨w0, w1, w2, w3, rfl⟩
  have hw := fun d (hd : d ∈ tables_1) => atoms_spec (ws := Jvm.Cond.code x code maxLocals ret :: tables_1) hat d (List.mem_cons_of_mem _ hd)
  obtain ⟨i0, ev0⟩ := is_v hgrl
  obtain rfl : w0 = (.int i0) := Option.some.inj ev0
  obtain ⟨i1, ev1⟩ := is_v hgrrl
  obtain rfl : w1 = (.int i1) := Option.some.inj ev1
  obtain ⟨i2, ev2⟩ := is_v hgrrrl
  obtain rfl : w2 = (.int i2) := Option.some.inj ev2
  obtain ⟨i3, ev3⟩ := is_v hgrrrr
  obtain rfl : w3 = (.int i3) := Option.some.inj ev3
  obtain ⟨n, o, h1, h2, h3, _, L, rfl, ⟨rfl, N⟩, hq⟩ := rm_law l s _ hw i0 i1 i2 i3 s.heap s.heap.size (Nat.le_refl _) tables_1 p e ha hc hk s m _ below hf ((Spec.applies_iff_loose hf).mp happ).1 ⟨rfl, State.Warmed39.refl s, rfl⟩ trivial
  refine ⟨n, _, h1, h2, h3, hpost _ _ _ _ _ _ ⟨Cond.after_iff.mpr rfl, Cond.after_iff.mpr (eq_i res_at (Term.int_eval (1)) rfl), trivial⟩ ⟨hq.1, hq.2.1, (hq.2.2.sift fun y hy => Or.inr (N y hy)).mono (by decide) (by decide)⟩⟩
theorem main_1_1 : Claimed_1_1 := comes_1 fun _ _ _ _ _ _ h hF => ⟨h.1, hF⟩
theorem main_1_2 : Claimed_1_2 := comes_1 fun _ _ _ _ _ _ h hF => ⟨h.2.1, hF⟩
end Jvm.Pilot.@@N@@
namespace Jvm.Pilot.@@N@@
open Jvm Jvm.ClassFile Sem Op Lib Jvm.Free Jvm.Stand Jvm.Pilot.@@N@@.Jvm.D
/-! MADE BY PROGRAM (witnessworld.py) out of the Statement's table words and the real class files: 9 classes; the members and pool entries that the words name. The judged class is class 1, her method 1. -/
namespace start1
open Jvm.ClassFile
def u (s : String) : CpInfo := .utf8 (stringToUtf16 s)
/-- a pool by its gaps: so many unusable entries, then the entry; so many at the end -/
def gap : Nat → List CpInfo → List CpInfo
  | 0, r => r
  | n + 1, r => .unusable :: gap n r
def poolList (es : List (Nat × CpInfo)) (last : Nat) : List CpInfo := es.foldr (fun e r => gap e.1 (e.2 :: r)) (gap last [])
def pool (es : List (Nat × CpInfo)) (last : Nat) : Array CpInfo := ⟨poolList es last⟩
def fileOf (pool : Array CpInfo) (this : Nat) (attrs : Array Attribute := #[]) (ms : Array MethodInfo := #[]) (fl : Nat := 33) (sup : Nat := 0) (ifs : Array Nat := #[]) (fds : Array FieldInfo := #[]) : ClassFile where
  minorVersion := 0
  majorVersion := 65
  constantPool := pool
  accessFlags := fl
  thisClass := this
  superClass := sup
  interfaces := ifs
  fields := fds
  methods := ms
  attributes := attrs
def plain (name : String) (sup : Option ClassId) : Class where
  name := name
  kind := .ordinary
  loader := none
  accessFlags := 33
  super := sup
  interfaces := #[]
  cf := none
  fields := #[]
  methods := #[]
  instanceTypes := #[]
  staticTypes := #[]
  resolved := #[]
  callSites := []
  init := .initialized
  statics := none
  mirror := none

def pool0 : Array CpInfo := pool [(5, u "<init>"), (0, u "()V"), (1, .class_ 10), (1, u "java/lang/Object")] 113

def k0m0 : Method := { name := "<init>", desc := "()V", sig := { parameters := [], returnType := none }, accessFlags := 1, code := none }
/-- java/lang/Object -/
def k0 : Class := { plain "java/lang/Object" none with
  accessFlags := 33
  interfaces := #[]
  cf := some (fileOf pool0 8 #[] #[{ accessFlags := 1, nameIndex := 5, descriptorIndex := 6, attributes := #[] }] 33 0 #[] #[])
  fields := #[]
  methods := #[k0m0]
  instanceTypes := #[]
  staticTypes := #[]
  resolved := Array.replicate 124 none
  statics := none }

def pool1 : Array CpInfo := pool [(2, .class_ 4), (1, u "java/lang/Object"), (0, u "<init>"), (0, u "()V"), (0, .integer 2147483647), (0, .methodref 9 10), (0, .class_ 11), (0, .nameAndType 12 13), (0, u "com/example/pulsegate/pulsegate/FixMessage"), (0, u "checkSum"), (0, u "([BII)I"), (0, .methodref 15 16), (0, .class_ 17), (0, .nameAndType 18 19), (0, u "com/example/pulsegate/pulsegate/FixMessageCheckSumPinLaw"), (0, u "term"), (0, u "([BIII)I"), (2, u "law"), (0, u "(IIII)Z")] 5

def k1m0 : Method := { name := "<init>", desc := "()V", sig := { parameters := [], returnType := none }, accessFlags := 1, code := none }
def k1c1 : Code := { maxStack := 5, maxLocals := 11, code := code, exceptionTable := #[], attributes := #[] }
def k1m1 : Method := { name := "law", desc := "(IIII)Z", sig := { parameters := [.int, .int, .int, .int], returnType := some .boolean }, accessFlags := 9, code := some k1c1 }
def k1c2 : Code := { maxStack := 2, maxLocals := 4, code := method_3_code, exceptionTable := #[], attributes := #[] }
def k1m2 : Method := { name := "term", desc := "([BIII)I", sig := { parameters := [(.array .byte), .int, .int, .int], returnType := some .int }, accessFlags := 10, code := some k1c2 }
/-- com/example/pulsegate/pulsegate/FixMessageCheckSumPinLaw -/
def k1 : Class := { plain "com/example/pulsegate/pulsegate/FixMessageCheckSumPinLaw" (some 0) with
  accessFlags := 49
  interfaces := #[]
  cf := some (fileOf pool1 15 #[] #[{ accessFlags := 1, nameIndex := 5, descriptorIndex := 6, attributes := #[] }, { accessFlags := 9, nameIndex := 22, descriptorIndex := 23, attributes := #[] }, { accessFlags := 10, nameIndex := 18, descriptorIndex := 19, attributes := #[] }] 49 2 #[] #[])
  fields := #[]
  methods := #[k1m0, k1m1, k1m2]
  instanceTypes := #[]
  staticTypes := #[]
  resolved := Array.replicate 29 none
  statics := none }

def pool2 : Array CpInfo := pool [(2, .class_ 4), (1, u "java/lang/Object"), (3, .class_ 10), (1, u "com/example/pulsegate/pulsegate/FixMessage"), (0, u "beginString"), (0, u "Ljava/lang/String;"), (2, u "body"), (0, u "[B"), (2, u "index"), (0, u "[I"), (27, u "ONE_BYTE_VALUES"), (0, u "[Ljava/lang/String;"), (43, .class_ 94), (0, u "com/example/pulsegate/pulsegate/FixMessage$Field"), (22, u "checkSum"), (0, u "([BII)I")] 62

def k2c0 : Code := { maxStack := 3, maxLocals := 5, code := prog_17_method_8_code, exceptionTable := #[], attributes := #[] }
def k2m0 : Method := { name := "checkSum", desc := "([BII)I", sig := { parameters := [(.array .byte), .int, .int], returnType := some .int }, accessFlags := 8, code := some k2c0 }
/-- com/example/pulsegate/pulsegate/FixMessage -/
def k2 : Class := { plain "com/example/pulsegate/pulsegate/FixMessage" (some 0) with
  accessFlags := 48
  interfaces := #[]
  cf := some (fileOf pool2 8 #[.nestMembers #[93]] #[{ accessFlags := 8, nameIndex := 117, descriptorIndex := 118, attributes := #[] }] 48 2 #[] #[{ accessFlags := 26, nameIndex := 48, descriptorIndex := 49, attributes := #[] }, { accessFlags := 18, nameIndex := 11, descriptorIndex := 12, attributes := #[] }, { accessFlags := 18, nameIndex := 15, descriptorIndex := 16, attributes := #[] }, { accessFlags := 18, nameIndex := 19, descriptorIndex := 20, attributes := #[] }])
  fields := #[{ name := "ONE_BYTE_VALUES", type := (.array (.object "java/lang/String")), accessFlags := 26, slot := 0, constantValue := 0 }, { name := "beginString", type := (.object "java/lang/String"), accessFlags := 18, slot := 0, constantValue := 0 }, { name := "body", type := (.array .byte), accessFlags := 18, slot := 1, constantValue := 0 }, { name := "index", type := (.array .int), accessFlags := 18, slot := 2, constantValue := 0 }]
  methods := #[k2m0]
  instanceTypes := #[(.object "java/lang/String"), (.array .byte), (.array .int)]
  staticTypes := #[(.array (.object "java/lang/String"))]
  resolved := Array.replicate 181 none
  statics := none }

def pool3 : Array CpInfo := pool [(1, u "java/lang/Cloneable"), (0, .class_ 1), (0, u "java/lang/Object"), (0, .class_ 3)] 3

/-- java/lang/Cloneable -/
def k3 : Class := { plain "java/lang/Cloneable" (some 0) with
  accessFlags := 1537
  interfaces := #[]
  cf := some (fileOf pool3 2 #[] #[] 1537 4 #[] #[])
  fields := #[]
  methods := #[]
  instanceTypes := #[]
  staticTypes := #[]
  resolved := Array.replicate 8 none
  statics := none }

def pool4 : Array CpInfo := pool [(1, u "java/io/Serializable"), (0, .class_ 1), (0, u "java/lang/Object"), (0, .class_ 3)] 3

/-- java/io/Serializable -/
def k4 : Class := { plain "java/io/Serializable" (some 0) with
  accessFlags := 1537
  interfaces := #[]
  cf := some (fileOf pool4 2 #[] #[] 1537 4 #[] #[])
  fields := #[]
  methods := #[]
  instanceTypes := #[]
  staticTypes := #[]
  resolved := Array.replicate 8 none
  statics := none }

/-- the primitive byte -/
def k5 : Class := { plain "byte" none with kind := .primitive 'B', accessFlags := 0x411 }
/-- [B -/
def k6 : Class := { plain "[B" (some 0) with kind := .array 5 .byte, interfaces := #[3, 4], accessFlags := 1041 }

/-- the primitive int -/
def k7 : Class := { plain "int" none with kind := .primitive 'I', accessFlags := 0x411 }
/-- [I -/
def k8 : Class := { plain "[I" (some 0) with kind := .array 7 .int, interfaces := #[3, 4], accessFlags := 1041 }

def heap : Heap := #[]
def classes : Array Class := #[k0, k1, k2, k3, k4, k5, k6, k7, k8]
def interned : List (Array UInt16 × Addr) := []
def slotsUsed : Nat := 0
def theMethod : MethodId := ⟨1, 1⟩
def args0 : Array Value := #[.int 5, .int 3, .int 2, .int 1]
def aboutOver (below : List Frame) : State where
  vm := { classes := classes, interned := interned.toArray }
  heap := heap
  slotsUsed := slotsUsed
  threads := #[{ frames := .invoking theMethod args0 :: below }]
def below0 : List Frame := [.native { method := ⟨0, 0⟩, args := #[] }]
def about1 : State := aboutOver below0
def p0 : Program := .bare "" "" ""
def e0 : Env := launch0.env 0 0 0
theorem w_frames : about1.frames = Frame.invoking theMethod args0 :: below0 := rfl
set_option maxRecDepth 65536 in
theorem w_args : argsFit about1.vm theMethod args0 = true := by decide +kernel
set_option maxRecDepth 65536 in
theorem w_heap : heapFits about1 = true := by decide +kernel
set_option maxRecDepth 65536 in
theorem w_runnable : about1.curStatus? = some .runnable := by decide +kernel
set_option maxRecDepth 65536 in
theorem w_alone : about1.alone = true := by decide +kernel
set_option maxRecDepth 65536 in
theorem w_named : about1.methodNamed? x = some theMethod := by decide +kernel
set_option maxRecDepth 65536 in
theorem w_hears : about1.hears theMethod below0 = true := by decide +kernel
set_option maxRecDepth 65536 in
theorem w_ripe : about1.ripe theMethod args0 below0 = true := by decide +kernel
theorem w_running : about1.status = .running := rfl
set_option maxRecDepth 65536 in
theorem w_room : about1.hasRoom e0.platform room_1 = true :=
  launch0.hasRoom_least _ room_1 (by decide +kernel) (by decide +kernel) (by decide +kernel) (by decide +kernel) (by decide +kernel) (by decide +kernel)
theorem allAtoms_all (ts : List Jvm.Cond) (a : Array Jvm.Value) (st : Jvm.State) : (allAtoms ts).before a st = ts.all (fun c => c.before a st) := by
  induction ts with
  | nil => rfl
  | cons c t ih =>
    show (Jvm.Cond.and c (allAtoms t)).before a st = _
    rw [Jvm.Cond.before_and, ih, List.all_cons]
def words1 : List Jvm.Cond := Jvm.Cond.code x code maxLocals ret :: tables_1
/-- a 'code' word, met by the world's own term for the bytes: nothing is compared byte by byte -/
theorem code_word {y : MethodName} {bytes : ByteArray} {mx : Nat} {rt : Option FieldType} {a : Array Value} {s : State} {m : MethodId} {meth : Method} {c : Code} (h1 : s.methodNamed? y = some m) (h2 : s.vm.method? m = some meth) (h3 : meth.code = some c) (h4 : c.code = bytes)
    (h5 : (c.maxLocals == mx && c.exceptionTable.isEmpty && decide (c.maxStack ≤ mostOperands) && decide (meth.sig.returnType = rt) && !meth.locks && decide (parseMethodDescriptor y.desc = some meth.sig)) = true) : (Jvm.Cond.code y bytes mx rt).before a s = true := by
  simp only [Bool.and_eq_true, beq_iff_eq, Bool.not_eq_true', decide_eq_true_eq] at h5
  obtain ⟨⟨⟨⟨⟨g1, g2⟩, g3⟩, g4⟩, g5⟩, g6⟩ := h5
  simp [Cond.before, Cond.holds, Cond.value, h1, h2, h3, h4, g1, g2, g3, g4, g5, g6]
def isCode : Jvm.Cond → Bool
  | .code _ _ _ _ => true
  | _ => false
theorem all_split {L : List Jvm.Cond} {P : Jvm.Cond → Bool} (h1 : L.all (fun c => isCode c || P c) = true) (h2 : ∀ c ∈ L.filter isCode, P c = true) : L.all P = true := by
  refine List.all_eq_true.mpr fun c hc => ?_
  have h := List.all_eq_true.mp h1 c hc
  rcases Bool.eq_false_or_eq_true (isCode c) with hi | hi
  · exact h2 c (List.mem_filter.mpr ⟨hc, hi⟩)
  · simpa [hi] using h
set_option maxRecDepth 65536 in
theorem w_c0 : (Jvm.Cond.code x code maxLocals ret).before args0 about1 = true := code_word (m := ⟨1, 1⟩) (meth := k1m1) (c := k1c1) (by decide +kernel) rfl rfl rfl (by decide +kernel)
set_option maxRecDepth 65536 in
theorem w_c1 : (Jvm.Cond.code ({ cls := "com/example/pulsegate/pulsegate/FixMessage", name := "checkSum", desc := "([BII)I" } : Jvm.MethodName) prog_17_method_8_code (5 : Nat) (Option.some Jvm.ClassFile.FieldType.int)).before args0 about1 = true := code_word (m := ⟨2, 0⟩) (meth := k2m0) (c := k2c0) (by decide +kernel) rfl rfl rfl (by decide +kernel)
set_option maxRecDepth 65536 in
theorem w_c2 : (Jvm.Cond.code ({ cls := "com/example/pulsegate/pulsegate/FixMessageCheckSumPinLaw", name := "term", desc := "([BIII)I" } : Jvm.MethodName) method_3_code (4 : Nat) (Option.some Jvm.ClassFile.FieldType.int)).before args0 about1 = true := code_word (m := ⟨1, 2⟩) (meth := k1m2) (c := k1c2) (by decide +kernel) rfl rfl rfl (by decide +kernel)
def codes1 : List Jvm.Cond := [Jvm.Cond.code x code maxLocals ret, Jvm.Cond.code ({ cls := "com/example/pulsegate/pulsegate/FixMessage", name := "checkSum", desc := "([BII)I" } : Jvm.MethodName) prog_17_method_8_code (5 : Nat) (Option.some Jvm.ClassFile.FieldType.int), Jvm.Cond.code ({ cls := "com/example/pulsegate/pulsegate/FixMessageCheckSumPinLaw", name := "term", desc := "([BIII)I" } : Jvm.MethodName) method_3_code (4 : Nat) (Option.some Jvm.ClassFile.FieldType.int)]
set_option maxRecDepth 65536 in
theorem codes_eq : words1.filter isCode = codes1 := rfl
theorem w_codes : ∀ c ∈ words1.filter isCode, c.before args0 about1 = true := by
  rw [codes_eq]
  intro c hc
  simp only [codes1, List.mem_cons, List.not_mem_nil, or_false] at hc
  rcases hc with rfl | rfl | rfl
  · exact w_c0
  · exact w_c1
  · exact w_c2
set_option maxRecDepth 65536 in
theorem w_t1 : words1.all (fun c => isCode c || c.before args0 about1) = true := by decide +kernel
theorem w_tables : (allAtoms (Jvm.Cond.code x code maxLocals ret :: tables_1)).before args0 about1 = true := by
  rw [allAtoms_all]
  show words1.all (fun c => c.before args0 about1) = true
  refine all_split ?_ w_codes
  rw [w_t1]
set_option maxRecDepth 65536 in
theorem w_case : (Jvm.Cond.and given_1 narrow_1).before args0 about1 = true := by decide +kernel
theorem w_applies : (headSpec (Jvm.Cond.code x code maxLocals ret :: tables_1) room_1).applies x e0.platform about1 = true :=
  (Spec.applies_iff w_frames).mpr ⟨w_running, w_runnable, w_alone, w_named, w_hears, w_ripe, w_room, w_tables⟩
theorem atStart : AtStart classFile x code maxLocals ret World_1 tables_1 room_1 Calls_1 rest_1 Pre_1 launch0 p0 e0 about1 theMethod args0 below0 :=
  ⟨lists_1, trivial, launch0.admits_env _ _ _, launch0.least_env, fairChoices_fair.cas, fairChoices_fair.clock, w_frames, w_args, w_heap, w_applies, trivial, trivial, w_case⟩
end start1
theorem witness_1 : WitnessClaimed_1 := ⟨start1.p0, start1.e0, start1.about1, start1.theMethod, start1.args0, start1.below0, start1.atStart⟩
end Jvm.Pilot.@@N@@
