import JvmDerived
import JvmDerived.Pilot.@@N@@Statement
import JvmDerived.Pilot.@@N@@Code
set_option linter.unusedVariables false
set_option linter.unusedSimpArgs false
namespace Jvm.Pilot.@@N@@
open Jvm Jvm.ClassFile Sem Op Lib Jvm.Free Jvm.Stand Jvm.LawKit Jvm.RoadKit Bundle Jvm.Pilot.@@N@@.Jvm.D
section OwnKit
variable {p : Program} {l : Launch} {e : Env} {R : Room} {s : State} {m : MethodId} {args : Array Value} {below : List Frame} {meth : Method} {c : Code} {T : State} {locs : List Loc} {cells slots : Nat} {Z : State} {a0 : Array Value} {h : Heap} {Q : Option Value → Heap → List Loc → Prop} {C S : Nat} {F : State → Outcome → Prop}
/-- what is left of a walk: from T with the top frame g the invocation comes to its end, and F holds there -/
def Go (p : Program) (e : Env) (below : List Frame) (F : State → Outcome → Prop) (T : State) (g : JFrame) : Prop :=
  ∃ t o, Steps p.tables e below (T.setTop g) t ∧ t.status = .running ∧ Ended t below o ∧ F t o
/-- it returned, Q holds, and no more has changed than the frame says -/
def FN (s : State) (Q : Option Value → Heap → List Loc → Prop) (C S : Nat) (t : State) (o : Outcome) : Prop := ∃ v L, o = .returned v ∧ Q v t.heap L ∧ FrameEnd s o t L C S
theorem Go.of {T' : State} {g g' : JFrame} (h : ∀ t, Steps p.tables e below (T'.setTop g') t → Steps p.tables e below (T.setTop g) t) (k : Go p e below F T' g') : Go p e below F T g := by
  obtain ⟨t, o, h1, h2⟩ := k
  exact ⟨t, o, h _ h1, h2⟩
theorem Go.cast {g g' : JFrame} (q : g = g') (k : Go p e below F T g') : Go p e below F T g := q ▸ k
theorem Go.ret (X : Stand p l e R s m args below meth c T locs cells slots) {v : Option Value} {g : JFrame} (hlk : meth.locks = false) (hv : meth.sig.returnType = none → v = none)
    (st : ∀ fs, (∀ (f : JFrame) (acts : List Action), f.method = m → f.locked = none → f.entered = [] → (doReturn e (T.setTop f) acts v).1 = T.setFrames fs) → Steps p.tables e below (T.setTop g) (T.setFrames fs))
    (hc : cells ≤ C) (hs : slots ≤ S) (hQ : Q v T.heap locs) : Go p e below (FN s Q C S) T g := by
  obtain ⟨fs, hr, hrun, hended, hW, hsame⟩ := X.leave (v := v) hv hlk
  exact ⟨_, _, st fs hr, hrun, hended, _, _, rfl, hQ, ⟨_, rfl⟩, hW, hsame.mono hc hs⟩
theorem Go.retN (X : Stand p l e R s m args below meth c T locs cells slots) (hx : p.tables.exec = Jvm.exec) (hlk : meth.locks = false) {pc : Nat} {Ls : Array Slot} {z : Int32} {rest : List Value} {t : FieldType} (hret : meth.sig.returnType = some t) (ht : t = .boolean ∨ t = .byte ∨ t = .char ∨ t = .short) (hd : decode c.code pc = .ok (.ireturn, 1))
    (hc : cells ≤ C) (hs : slots ≤ S) (hQ : Q (some (.int (nar t z))) T.heap locs) : Go p e below (FN s Q C S) T (mkF m pc Ls (.int z :: rest)) :=
  Go.ret X hlk (fun h => by rw [hret] at h; cases h) (fun _ hr => Jvm.RoadKit.retN X hx hret ht hd hr) hc hs hQ
/-- a body's contract at given arguments and a given heap -/
def Ct (l : Launch) (y : MethodName) (bytes : ByteArray) (maxL : Nat) (ret : Option FieldType) (rm : Room) (Z : State) (h0 : Heap) (as' : Array Value) (Q : Option Value → Heap → List Loc → Prop) : Prop :=
  ∀ ws, MetFree l y (head1 (Jvm.Cond.code y bytes maxL ret :: ws) rm) (fun a U => a = as' ∧ Z.Warmed39 U.vm ∧ U.heap = h0) (fun _ _ _ _ _ => True) (fun _ U o U' => ∃ v L, o = .returned v ∧ Q v U'.heap L ∧ FrameEnd U o U' L rm.cells rm.slots)
theorem Ct.body {y : MethodName} {bytes : ByteArray} {maxL : Nat} {ret : Option FieldType} {rm : Room} {as' : Array Value} (hpl : plainFor y = true)
    (k : ∀ (p : Program) (e : Env) (s : State) (m : MethodId) (below : List Frame) (meth : Method) (c : Code) (T : State), p.tables.exec = Jvm.exec → c.code = bytes → c.maxLocals = maxL → s.vm.findClass y.cls = some m.cls → meth.name = y.name → meth.sig.returnType = ret → meth.locks = false → Z.Warmed39 s.vm →
      Stand p l e rm s m as' below meth c T [] 0 0 → T.heap = h → Go p e below (FN s Q rm.cells rm.slots) T (entryFrame m as' maxL)) : Ct l y bytes maxL ret rm Z h as' Q := fun ws => by
  refine MetFree.of_bodySF hpl hisR ?_
  intro p e s m args below meth c s₁ Bd hml0 hP hK
  obtain ⟨rfl, hZ, hh⟩ := hP
  exact k p e s m below meth c s₁ Bd.exec Bd.bytes hml0 (findClass_of_methodNamed Bd.named) (name_of_methodNamed Bd.named Bd.method).1 Bd.returns Bd.notSynchronized hZ (Stand.of_body Bd) (by rw [← hh, Bd.state]; rfl)
theorem Go.callV (X : Stand p l e R s m args below meth c T locs cells slots) (hx : p.tables.exec = Jvm.exec) (hZ : Z.Warmed39 s.vm) {own K : String} {index : Nat} {y z : MethodName} {bytes : ByteArray} {maxL : Nat} {ret : Option FieldType} (hown : s.vm.findClass own = some m.cls)
    (wl : (Jvm.Cond.methodLink own index y).before a0 Z = true) (wd : (Jvm.Cond.declares y).before a0 Z = true) (nf : NotFace s y) (wsel : (Jvm.Cond.selects K y z).before a0 Z = true) (wim : (Jvm.Cond.instanceMethod z).before a0 Z = true) (wc : (Jvm.Cond.code z bytes maxL ret).before a0 Z = true) (wz : (Jvm.Cond.initialized z.cls).before a0 Z = true) (hy : y.cls ≠ "java/lang/invoke/MethodHandle" ∧ y.cls ≠ "java/lang/invoke/VarHandle")
    (eT : T.heap = h) {b : Addr} (E : Exa Z h b K) {rm : Room} {argsL rest : List Value} {Q' : Option Value → Heap → List Loc → Prop} (hC : Ct l z bytes maxL ret rm Z h (.ref b :: argsL).toArray Q') {pc : Nat} {Ls : Array Slot} {st : List Value} (hsz : Ls.size = c.maxLocals)
    (hlen : ∀ sig, parseMethodDescriptor y.desc = some sig → argsL.length = sig.parameters.length) (hst : st = argsL.reverse ++ .ref b :: rest) (hd : decode c.code pc = .ok (.invokevirtual index, 3)) (hf : rm.frames + 1 ≤ R.frames) (hl : (rest.map fun v => v.category).sum + (maxL + 11) + rm.locals ≤ R.locals) (hc : cells + rm.cells ≤ R.cells) (hs : slots + rm.slots ≤ R.slots)
    (k : ∀ v T' L, Q' v T'.heap L → Stand p l e R s m args below meth c T' (locs ++ L) (cells + rm.cells) (slots + rm.slots) → Go p e below F T' (mkF m (pc + 3) Ls (v.toList ++ rest))) :
    Go p e below F T (mkF m pc Ls st) := by
  obtain ⟨cq, kq, qa, qb, qc⟩ := isOf hZ eT E
  obtain ⟨v, _, ⟨T', L', k', n'⟩, -, X', ⟨L, hQ, l1, y1, z1⟩, stp⟩ := X.virtualBack hx (y := y) (z := z) hown (mvT hZ wl) (mvT hZ wd) nf (mvT hZ wsel) (mvT hZ wim) hy (backOf (W := (rest.map fun v => v.category).sum) (hC []) hZ wc wz hf hl) qa qc (g := mkF m pc Ls st) rfl hsz (Steps.refl _) (argsL := argsL) (rest := rest) hlen hst (by show 2 * 0 + _ ≤ _; exact Nat.le_of_eq (Nat.zero_add _)) hd (fun _ _ => ⟨rfl, eT, hc, hs⟩)
  dsimp only [Pt.U, Pt.locs, Pt.cells, Pt.slots] at X' l1 y1 z1 stp hQ
  subst l1 y1 z1
  exact Go.of (fun t q => stp.trans q) (k _ _ _ hQ X')
theorem Go.getS (X : Stand p l e R s m args below meth c T locs cells slots) (hx : p.tables.exec = Jvm.exec) (hZ : Z.Warmed39 s.vm) {own R0 O n d : String} {index : Nat} (hown : s.vm.findClass own = some m.cls) (w : (Jvm.Cond.fieldLink own index R0 n d).before a0 Z = true) (via : Via Z R0 O n d)
    (eT : T.heap = h) {v : Value} (fF : Sta Z h O n d v) {pc : Nat} {Ls : Array Slot} {rest : List Value} (hd : decode c.code pc = .ok (.getstatic index, 3))
    (k : ∀ T', Stand p l e R s m args below meth c T' locs cells slots → T'.heap = h → Go p e below F T' (mkF m (pc + 3) Ls (v :: rest))) : Go p e below F T (mkF m pc Ls rest) := by
  obtain ⟨T', X', e', st⟩ := getS2 X hx hZ hown (host := "") (Or.inl w) via eT fF (g := mkF m pc Ls rest) rfl hd
  exact Go.of st (k _ X' e')
/-- a field of an object that a static names, as the case's words say it -/
theorem fldI {C0 n d : String} {t : Term} {a : Addr} {k : Int32} (ea : t.eval args s none [] s = some (.ref a)) (hq : (Jvm.Cond.eq (.field t C0 n d) (.int k)).value args s none s [] = some true) : Fld s s.heap a C0 n d (.int k) := Fld.start ((fld_at ea).symm.trans (eqv_i (Term.int_eval k) hq))
end OwnKit
section OwnSteps
variable {p : Program} {l : Launch} {e : Env} {R : Room} {s : State} {m : MethodId} {args : Array Value} {below : List Frame} {meth : Method} {c : Code} {T : State} {locs : List Loc} {cells slots : Nat} {Z : State} {a0 : Array Value} {h : Heap} {F : State → Outcome → Prop}
theorem w_ {Z : State} {a0 : Array Value} {ts : List Jvm.Cond} (hw : ∀ d ∈ ts, d.before a0 Z = true) {d : Jvm.Cond} (i : Nat) (h : ts[i]? = some d) : d.before a0 Z = true := hw _ (List.mem_of_getElem? h)
theorem Go.s_iloadN (X : Stand p l e R s m args below meth c T locs cells slots) (hx : p.tables.exec = Jvm.exec) {pc q : Nat} {Ls : Array Slot} {st : List Value} {k : Fin 4} {v : Int32} (hd : decode c.code pc = .ok (.iload_n k, 1)) (hq : pc + 1 = q) (hl : Ls[k.val]? = some (.val (.int v))) (K : Go p e below F T (mkF m q Ls (.int v :: st))) : Go p e below F T (mkF m pc Ls (st)) := by
  subst hq
  exact Go.of (fun t k => XS.iloadN X.here hx rfl hd hl k) K
theorem Go.s_iload (X : Stand p l e R s m args below meth c T locs cells slots) (hx : p.tables.exec = Jvm.exec) {pc q : Nat} {Ls : Array Slot} {st : List Value} {k : Nat} {v : Int32} (hd : decode c.code pc = .ok (.iload k, 2)) (hq : pc + 2 = q) (hl : Ls[k]? = some (.val (.int v))) (K : Go p e below F T (mkF m q Ls (.int v :: st))) : Go p e below F T (mkF m pc Ls (st)) := by
  subst hq
  exact Go.of (fun t k => XS.iload X.here hx rfl hd hl k) K
theorem Go.s_lloadN (X : Stand p l e R s m args below meth c T locs cells slots) (hx : p.tables.exec = Jvm.exec) {pc q : Nat} {Ls : Array Slot} {st : List Value} {k : Fin 4} {v : Int64} (hd : decode c.code pc = .ok (.lload_n k, 1)) (hq : pc + 1 = q) (hl : Ls[k.val]? = some (.val (.long v))) (K : Go p e below F T (mkF m q Ls (.long v :: st))) : Go p e below F T (mkF m pc Ls (st)) := by
  subst hq
  exact Go.of (fun t k => XS.lloadN X.here hx rfl hd hl k) K
theorem Go.s_lload (X : Stand p l e R s m args below meth c T locs cells slots) (hx : p.tables.exec = Jvm.exec) {pc q : Nat} {Ls : Array Slot} {st : List Value} {k : Nat} {v : Int64} (hd : decode c.code pc = .ok (.lload k, 2)) (hq : pc + 2 = q) (hl : Ls[k]? = some (.val (.long v))) (K : Go p e below F T (mkF m q Ls (.long v :: st))) : Go p e below F T (mkF m pc Ls (st)) := by
  subst hq
  exact Go.of (fun t k => XS.lload X.here hx rfl hd hl k) K
theorem Go.s_aloadN (X : Stand p l e R s m args below meth c T locs cells slots) (hx : p.tables.exec = Jvm.exec) {pc q : Nat} {Ls : Array Slot} {st : List Value} {k : Fin 4} {v : Value} (hd : decode c.code pc = .ok (.aload_n k, 1)) (hq : pc + 1 = q) (hl : Ls[k.val]? = some (.val v)) (hv : v.isRef = true) (K : Go p e below F T (mkF m q Ls (v :: st))) : Go p e below F T (mkF m pc Ls (st)) := by
  subst hq
  exact Go.of (fun t k => XS.aloadN X.here hx rfl hd hl hv k) K
theorem Go.s_aload (X : Stand p l e R s m args below meth c T locs cells slots) (hx : p.tables.exec = Jvm.exec) {pc q : Nat} {Ls : Array Slot} {st : List Value} {k : Nat} {v : Value} (hd : decode c.code pc = .ok (.aload k, 2)) (hq : pc + 2 = q) (hl : Ls[k]? = some (.val v)) (hv : v.isRef = true) (K : Go p e below F T (mkF m q Ls (v :: st))) : Go p e below F T (mkF m pc Ls (st)) := by
  subst hq
  exact Go.of (fun t k => XS.aload X.here hx rfl hd hl hv k) K
theorem Go.s_istore (X : Stand p l e R s m args below meth c T locs cells slots) (hx : p.tables.exec = Jvm.exec) {pc q : Nat} {Ls : Array Slot} {st : List Value} {k : Nat} {x : Int32} {l' : Array Slot} (hd : decode c.code pc = .ok (.istore k, 2)) (hq : pc + 2 = q) (hl : storeLocals Ls k (.int x) = some l') (K : Go p e below F T (mkF m q l' (st))) : Go p e below F T (mkF m pc Ls (.int x :: st)) := by
  subst hq
  exact Go.of (fun t k => XS.istore X.here hx rfl hd rfl hl k) K
theorem Go.s_lstore (X : Stand p l e R s m args below meth c T locs cells slots) (hx : p.tables.exec = Jvm.exec) {pc q : Nat} {Ls : Array Slot} {st : List Value} {k : Nat} {x : Int64} {l' : Array Slot} (hd : decode c.code pc = .ok (.lstore k, 2)) (hq : pc + 2 = q) (hl : storeLocals Ls k (.long x) = some l') (K : Go p e below F T (mkF m q l' (st))) : Go p e below F T (mkF m pc Ls (.long x :: st)) := by
  subst hq
  exact Go.of (fun t k => XS.lstore X.here hx rfl hd rfl hl k) K
theorem Go.s_astore (X : Stand p l e R s m args below meth c T locs cells slots) (hx : p.tables.exec = Jvm.exec) {pc q : Nat} {Ls : Array Slot} {st : List Value} {k : Nat} {x : Value} {l' : Array Slot} (hd : decode c.code pc = .ok (.astore k, 2)) (hq : pc + 2 = q) (hv : x.isRef = true) (hl : storeLocals Ls k x = some l') (K : Go p e below F T (mkF m q l' (st))) : Go p e below F T (mkF m pc Ls (x :: st)) := by
  subst hq
  exact Go.of (fun t k => XS.astore X.here hx rfl hd rfl hv hl k) K
theorem Go.s_iconst (X : Stand p l e R s m args below meth c T locs cells slots) (hx : p.tables.exec = Jvm.exec) {pc q : Nat} {Ls : Array Slot} {st : List Value} {i : Int} {z : Int32} (hd : decode c.code pc = .ok (.iconst i, 1)) (hq : pc + 1 = q) (hz : Int32.ofInt i = z) (K : Go p e below F T (mkF m q Ls (.int z :: st))) : Go p e below F T (mkF m pc Ls (st)) := by
  subst hq
  exact Go.of (fun t k => XS.iconst X.here hx rfl hd (hz ▸ k)) K
theorem Go.s_bipush (X : Stand p l e R s m args below meth c T locs cells slots) (hx : p.tables.exec = Jvm.exec) {pc q : Nat} {Ls : Array Slot} {st : List Value} {i : Int} {z : Int32} (hd : decode c.code pc = .ok (.bipush i, 2)) (hq : pc + 2 = q) (hz : (Int8.ofInt i).toInt32 = z) (K : Go p e below F T (mkF m q Ls (.int z :: st))) : Go p e below F T (mkF m pc Ls (st)) := by
  subst hq
  exact Go.of (fun t k => XS.bipush X.here hx rfl hd (hz ▸ k)) K
theorem Go.s_ladd (X : Stand p l e R s m args below meth c T locs cells slots) (hx : p.tables.exec = Jvm.exec) {pc q : Nat} {Ls : Array Slot} {st : List Value} {x y : Int64} (hd : decode c.code pc = .ok (.ladd, 1)) (hq : pc + 1 = q)  (K : Go p e below F T (mkF m q Ls (.long (x + y) :: st))) : Go p e below F T (mkF m pc Ls (.long y :: .long x :: st)) := by
  subst hq
  exact Go.of (fun t k => XS.ladd X.here hx rfl hd rfl k) K
theorem Go.s_isub (X : Stand p l e R s m args below meth c T locs cells slots) (hx : p.tables.exec = Jvm.exec) {pc q : Nat} {Ls : Array Slot} {st : List Value} {x y : Int32} (hd : decode c.code pc = .ok (.isub, 1)) (hq : pc + 1 = q)  (K : Go p e below F T (mkF m q Ls (.int (x - y) :: st))) : Go p e below F T (mkF m pc Ls (.int y :: .int x :: st)) := by
  subst hq
  exact Go.of (fun t k => XS.isub X.here hx rfl hd rfl k) K
theorem Go.s_lsub (X : Stand p l e R s m args below meth c T locs cells slots) (hx : p.tables.exec = Jvm.exec) {pc q : Nat} {Ls : Array Slot} {st : List Value} {x y : Int64} (hd : decode c.code pc = .ok (.lsub, 1)) (hq : pc + 1 = q)  (K : Go p e below F T (mkF m q Ls (.long (x - y) :: st))) : Go p e below F T (mkF m pc Ls (.long y :: .long x :: st)) := by
  subst hq
  exact Go.of (fun t k => XS.lsub X.here hx rfl hd rfl k) K
theorem Go.s_iand (X : Stand p l e R s m args below meth c T locs cells slots) (hx : p.tables.exec = Jvm.exec) {pc q : Nat} {Ls : Array Slot} {st : List Value} {x y : Int32} (hd : decode c.code pc = .ok (.iand, 1)) (hq : pc + 1 = q)  (K : Go p e below F T (mkF m q Ls (.int (x &&& y) :: st))) : Go p e below F T (mkF m pc Ls (.int y :: .int x :: st)) := by
  subst hq
  exact Go.of (fun t k => XS.iand X.here hx rfl hd rfl k) K
theorem Go.s_lshl (X : Stand p l e R s m args below meth c T locs cells slots) (hx : p.tables.exec = Jvm.exec) {pc q : Nat} {Ls : Array Slot} {st : List Value} {x : Int64} {y : Int32} (hd : decode c.code pc = .ok (.lshl, 1)) (hq : pc + 1 = q)  (K : Go p e below F T (mkF m q Ls (.long (x <<< (y &&& 0x3f).toInt64) :: st))) : Go p e below F T (mkF m pc Ls (.int y :: .long x :: st)) := by
  subst hq
  exact Go.of (fun t k => XS.lshl X.here hx rfl hd rfl k) K
theorem Go.s_lshr (X : Stand p l e R s m args below meth c T locs cells slots) (hx : p.tables.exec = Jvm.exec) {pc q : Nat} {Ls : Array Slot} {st : List Value} {x : Int64} {y : Int32} (hd : decode c.code pc = .ok (.lshr, 1)) (hq : pc + 1 = q)  (K : Go p e below F T (mkF m q Ls (.long (x >>> (y &&& 0x3f).toInt64) :: st))) : Go p e below F T (mkF m pc Ls (.int y :: .long x :: st)) := by
  subst hq
  exact Go.of (fun t k => XS.lshr X.here hx rfl hd rfl k) K
theorem Go.s_i2l (X : Stand p l e R s m args below meth c T locs cells slots) (hx : p.tables.exec = Jvm.exec) {pc q : Nat} {Ls : Array Slot} {st : List Value} {x : Int32} (hd : decode c.code pc = .ok (.i2l, 1)) (hq : pc + 1 = q)  (K : Go p e below F T (mkF m q Ls (.long (x.toInt64) :: st))) : Go p e below F T (mkF m pc Ls (.int x :: st)) := by
  subst hq
  exact Go.of (fun t k => XS.i2l X.here hx rfl hd rfl k) K
theorem Go.s_lcmp (X : Stand p l e R s m args below meth c T locs cells slots) (hx : p.tables.exec = Jvm.exec) {pc q : Nat} {Ls : Array Slot} {st : List Value} {x y : Int64} (hd : decode c.code pc = .ok (.lcmp, 1)) (hq : pc + 1 = q)  (K : Go p e below F T (mkF m q Ls (.int (lcmpW x y) :: st))) : Go p e below F T (mkF m pc Ls (.long y :: .long x :: st)) := by
  subst hq
  exact Go.of (fun t k => XS.lcmp X.here hx rfl hd rfl k) K
theorem Go.s_goto (X : Stand p l e R s m args below meth c T locs cells slots) (hx : p.tables.exec = Jvm.exec) {pc q : Nat} {Ls : Array Slot} {st : List Value}  {o : Int} (hd : decode c.code pc = .ok (.goto o, 3)) (ho : 0 ≤ (pc : Int) + o) (hp : ((pc : Int) + o).toNat = q)  (K : Go p e below F T (mkF m q Ls st)) : Go p e below F T (mkF m pc Ls (st)) :=
  Go.of (fun t k => XS.goto X.here hx rfl rfl hd ho hp k) K
theorem Go.s_ifYes (X : Stand p l e R s m args below meth c T locs cells slots) (hx : p.tables.exec = Jvm.exec) {pc q : Nat} {Ls : Array Slot} {st : List Value} {cd : ClassFile.Cond} {x : Int32} {o : Int} (hd : decode c.code pc = .ok (.ifCond cd o, 3)) (ho : 0 ≤ (pc : Int) + o) (hp : ((pc : Int) + o).toNat = q) (hc : ifCond.holds cd x = true) (K : Go p e below F T (mkF m q Ls st)) : Go p e below F T (mkF m pc Ls (.int x :: st)) :=
  Go.of (fun t k => XS.ifYes X.here hx rfl rfl hd rfl hc ho hp k) K
theorem Go.s_icmpYes (X : Stand p l e R s m args below meth c T locs cells slots) (hx : p.tables.exec = Jvm.exec) {pc q : Nat} {Ls : Array Slot} {st : List Value} {cd : ClassFile.Cond} {x y : Int32} {o : Int} (hd : decode c.code pc = .ok (.if_icmp cd o, 3)) (ho : 0 ≤ (pc : Int) + o) (hp : ((pc : Int) + o).toNat = q) (hc : if_icmp.holds cd x y = true) (K : Go p e below F T (mkF m q Ls st)) : Go p e below F T (mkF m pc Ls (.int y :: .int x :: st)) :=
  Go.of (fun t k => XS.icmpYes X.here hx rfl rfl hd rfl hc ho hp k) K
theorem Go.s_ifNo (X : Stand p l e R s m args below meth c T locs cells slots) (hx : p.tables.exec = Jvm.exec) {pc q : Nat} {Ls : Array Slot} {st : List Value} {cd : ClassFile.Cond} {o : Int} {x : Int32} (hd : decode c.code pc = .ok (.ifCond cd o, 3)) (hq : pc + 3 = q) (hc : ifCond.holds cd x = false) (K : Go p e below F T (mkF m q Ls (st))) : Go p e below F T (mkF m pc Ls (.int x :: st)) := by
  subst hq
  exact Go.of (fun t k => XS.ifNo X.here hx rfl hd rfl hc k) K
theorem Go.s_icmpNo (X : Stand p l e R s m args below meth c T locs cells slots) (hx : p.tables.exec = Jvm.exec) {pc q : Nat} {Ls : Array Slot} {st : List Value} {cd : ClassFile.Cond} {o : Int} {x y : Int32} (hd : decode c.code pc = .ok (.if_icmp cd o, 3)) (hq : pc + 3 = q) (hc : if_icmp.holds cd x y = false) (K : Go p e below F T (mkF m q Ls (st))) : Go p e below F T (mkF m pc Ls (.int y :: .int x :: st)) := by
  subst hq
  exact Go.of (fun t k => XS.icmpNo X.here hx rfl hd rfl hc k) K
theorem Go.s_acmp (X : Stand p l e R s m args below meth c T locs cells slots) (hx : p.tables.exec = Jvm.exec) {pc q : Nat} {Ls : Array Slot} {st : List Value} {cd : ACond} {x y : Value} {o : Int} {same : Bool} (hd : decode c.code pc = .ok (.if_acmp cd o, 3)) (h1 : x.isRef = true) (h2 : y.isRef = true) (hq : decide (x = y) = same) (ho : 0 ≤ (pc : Int) + o) (hp : q = if acV cd same = true then ((pc : Int) + o).toNat else pc + 3) (K : Go p e below F T (mkF m q Ls st)) : Go p e below F T (mkF m pc Ls (y :: x :: st)) :=
  Go.of (fun t k => Jvm.RoadKit.acmp (g := mkF m pc Ls (y :: x :: st)) X hx rfl h1 h2 rfl hd rfl hq ho hp k) K
end OwnSteps
abbrev mn_1 : MethodName := ⟨"com/example/pennybreak/pennybreak/simplebook/Side", "isBetterBy", "(JJJ)Z"⟩
theorem pn_com_example_pennybreak_pennybreak_simplebook_Side : plainName "com/example/pennybreak/pennybreak/simplebook/Side" = true := by first | (simp [plainName, overriddenIn]; done) | decide +kernel
theorem d1_0 : decode prog_105_method_6_code 0 = .ok (.aload_n 0, 1) := by decide +kernel
theorem d1_1 : decode prog_105_method_6_code 1 = .ok (.getstatic 3, 3) := by decide +kernel
theorem d1_4 : decode prog_105_method_6_code 4 = .ok (.if_acmp .ne 20, 3) := by decide +kernel
theorem d1_7 : decode prog_105_method_6_code 7 = .ok (.lload_n 1, 1) := by decide +kernel
theorem d1_8 : decode prog_105_method_6_code 8 = .ok (.lload_n 3, 1) := by decide +kernel
theorem d1_9 : decode prog_105_method_6_code 9 = .ok (.lload 5, 2) := by decide +kernel
theorem d1_11 : decode prog_105_method_6_code 11 = .ok (.ladd, 1) := by decide +kernel
theorem d1_12 : decode prog_105_method_6_code 12 = .ok (.lcmp, 1) := by decide +kernel
theorem d1_13 : decode prog_105_method_6_code 13 = .ok (.ifCond .lt 7, 3) := by decide +kernel
theorem d1_20 : decode prog_105_method_6_code 20 = .ok (.iconst 0, 1) := by decide +kernel
theorem d1_21 : decode prog_105_method_6_code 21 = .ok (.goto 17, 3) := by decide +kernel
theorem d1_38 : decode prog_105_method_6_code 38 = .ok (.ireturn, 1) := by decide +kernel
theorem d1_16 : decode prog_105_method_6_code 16 = .ok (.iconst 1, 1) := by decide +kernel
theorem d1_17 : decode prog_105_method_6_code 17 = .ok (.goto 21, 3) := by decide +kernel
theorem d1_24 : decode prog_105_method_6_code 24 = .ok (.lload_n 1, 1) := by decide +kernel
theorem d1_25 : decode prog_105_method_6_code 25 = .ok (.lload_n 3, 1) := by decide +kernel
theorem d1_26 : decode prog_105_method_6_code 26 = .ok (.lload 5, 2) := by decide +kernel
theorem d1_28 : decode prog_105_method_6_code 28 = .ok (.lsub, 1) := by decide +kernel
theorem d1_29 : decode prog_105_method_6_code 29 = .ok (.lcmp, 1) := by decide +kernel
theorem d1_30 : decode prog_105_method_6_code 30 = .ok (.ifCond .gt 7, 3) := by decide +kernel
theorem d1_37 : decode prog_105_method_6_code 37 = .ok (.iconst 0, 1) := by decide +kernel
theorem d1_33 : decode prog_105_method_6_code 33 = .ok (.iconst 1, 1) := by decide +kernel
theorem d1_34 : decode prog_105_method_6_code 34 = .ok (.goto 4, 3) := by decide +kernel
theorem pn_com_example_pennybreak_pennybreak_simplebook_SideIsBetterByPinLaw : plainName "com/example/pennybreak/pennybreak/simplebook/SideIsBetterByPinLaw" = true := by first | (simp [plainName, overriddenIn]; done) | decide +kernel
theorem pd_0 : parseMethodDescriptor "(JJJ)Z" = some ⟨[.long, .long, .long], some .boolean⟩ := by decide +kernel
def Ctx (Z : State) (h : Heap) (a_BUY a_SELL : Addr) : Prop := Sta Z h "com/example/pennybreak/pennybreak/simplebook/Side" "BUY" "Lcom/example/pennybreak/pennybreak/simplebook/Side;" (.ref a_BUY) ∧ Sta Z h "com/example/pennybreak/pennybreak/simplebook/Side" "SELL" "Lcom/example/pennybreak/pennybreak/simplebook/Side;" (.ref a_SELL) ∧ Exa Z h a_BUY "com/example/pennybreak/pennybreak/simplebook/Side" ∧ Exa Z h a_SELL "com/example/pennybreak/pennybreak/simplebook/Side" ∧ Fld Z h a_SELL "java/lang/Enum" "ordinal" "I" (.int (1 : Int32)) ∧ Fld Z h a_BUY "java/lang/Enum" "ordinal" "I" (.int (0 : Int32)) ∧ ¬ a_BUY = a_SELL
theorem ef_bba_BUY (m : MethodId) (x0 : Addr) (x1 : Int64) (x2 : Int64) (x3 : Int64) : entryFrame m #[(.ref x0), (.long x1), (.long x2), (.long x3)] 7 = mkF m 0 #[.val (.ref x0), .val (.long x1), .second, .val (.long x2), .second, .val (.long x3), .second] [] := by first | (simp [entryFrame, mkF, argsToLocals, Value.category]; done) | rfl
set_option maxRecDepth 65536 in
set_option maxHeartbeats 40000000 in
theorem rm_bba_BUY (l : Launch) (Z : State) (a0 : Array Value) (hw : ∀ d ∈ tables_1, d.before a0 Z = true) (x1 : Int64) (x2 : Int64) (x3 : Int64) (h0 : Heap) (a_BUY a_SELL : Addr) (hctx : Ctx Z h0 a_BUY a_SELL) :
    Ct l mn_1 prog_105_method_6_code 7 (some .boolean) ({ frames := 0, cells := 0, slots := 0, locals := 0 } : Room) Z h0 #[(.ref a_BUY), (.long x1), (.long x2), (.long x3)] (fun v h L => ∃ r, v = some (.int r) ∧ ((x1 < (x2 + x3) ∧ r = (0 : Int32)) ∨ (¬ (x1 < (x2 + x3)) ∧ r = (1 : Int32))) ∧ L = [] ∧ h = h0) := by
  refine Ct.body (plainFor_of_name pn_com_example_pennybreak_pennybreak_simplebook_Side) ?_
  intro p e s m below meth c T0 hx hby hml hown hnm hret hlk hZ X0 e0
  have hctx' := hctx
  obtain ⟨S_BUY, S_SELL, E_BUY, E_SELL, F_SELL_ordinal, F_BUY_ordinal, ne_BUY_SELL⟩ := hctx
  refine Go.cast (ef_bba_BUY m a_BUY x1 x2 x3) ?_
  show Go p e below _ T0 (mkF m 0 #[.val (.ref a_BUY), .val (.long x1), .second, .val (.long x2), .second, .val (.long x3), .second] [])
  refine Go.s_aloadN X0 hx (hb hby d1_0) (q := 1) rfl rfl rfl ?_
  refine Go.getS X0 hx hZ hown (w_ hw 8 rfl) Via.refl e0 S_BUY (hb hby d1_1) ?_
  intro T1 X1 e1
  show Go p e below _ T1 (mkF m 4 #[.val (.ref a_BUY), .val (.long x1), .second, .val (.long x2), .second, .val (.long x3), .second] [(.ref a_BUY), (.ref a_BUY)])
  refine Go.s_acmp X1 hx (q := 7) (hb hby d1_4) rfl rfl (same := true) (decide_eq_true rfl) (by decide) (by decide) ?_
  refine Go.s_lloadN X1 hx (hb hby d1_7) (q := 8) rfl rfl ?_
  refine Go.s_lloadN X1 hx (hb hby d1_8) (q := 9) rfl rfl ?_
  refine Go.s_lload X1 hx (hb hby d1_9) (q := 11) rfl rfl ?_
  refine Go.s_ladd X1 hx (hb hby d1_11) (q := 12) rfl ?_
  refine Go.s_lcmp X1 hx (hb hby d1_12) (q := 13) rfl ?_
  by_cases c13_2 : x1 < (x2 + x3)
  · -- pc 13: x1 < (x2 + x3)
    refine Go.s_ifYes X1 hx (hb hby d1_13) (q := 20) (by decide) (by decide) ((if0 _ _).trans (tlt ((lw_lt x1 (x2 + x3)).mpr c13_2)).1) ?_
    refine Go.s_iconst X1 hx (hb hby d1_20) (q := 21) rfl (z := 0) rfl ?_
    refine Go.s_goto X1 hx (hb hby d1_21) (q := 38) (by decide) (by decide) ?_
    refine Go.retN X1 hx hlk hret (by simp) (hb hby d1_38) (by decide) (by decide) ?_
    try rw [e1]
    exact ⟨_, rfl, Or.inl ⟨c13_2, (by decide)⟩, rfl, rfl⟩
  · -- pc 13: not x1 < (x2 + x3)
    refine Go.s_ifNo X1 hx (hb hby d1_13) (q := 16) rfl ((if0 _ _).trans (flt (fun q => c13_2 ((lw_lt x1 (x2 + x3)).mp q))).1) ?_
    refine Go.s_iconst X1 hx (hb hby d1_16) (q := 17) rfl (z := 1) rfl ?_
    refine Go.s_goto X1 hx (hb hby d1_17) (q := 38) (by decide) (by decide) ?_
    refine Go.retN X1 hx hlk hret (by simp) (hb hby d1_38) (by decide) (by decide) ?_
    try rw [e1]
    exact ⟨_, rfl, Or.inr (⟨c13_2, (by decide)⟩), rfl, rfl⟩
theorem ef_bba_SELL (m : MethodId) (x0 : Addr) (x1 : Int64) (x2 : Int64) (x3 : Int64) : entryFrame m #[(.ref x0), (.long x1), (.long x2), (.long x3)] 7 = mkF m 0 #[.val (.ref x0), .val (.long x1), .second, .val (.long x2), .second, .val (.long x3), .second] [] := by first | (simp [entryFrame, mkF, argsToLocals, Value.category]; done) | rfl
set_option maxRecDepth 65536 in
set_option maxHeartbeats 40000000 in
theorem rm_bba_SELL (l : Launch) (Z : State) (a0 : Array Value) (hw : ∀ d ∈ tables_1, d.before a0 Z = true) (x1 : Int64) (x2 : Int64) (x3 : Int64) (h0 : Heap) (a_BUY a_SELL : Addr) (hctx : Ctx Z h0 a_BUY a_SELL) :
    Ct l mn_1 prog_105_method_6_code 7 (some .boolean) ({ frames := 0, cells := 0, slots := 0, locals := 0 } : Room) Z h0 #[(.ref a_SELL), (.long x1), (.long x2), (.long x3)] (fun v h L => ∃ r, v = some (.int r) ∧ (((x2 - x3) < x1 ∧ r = (0 : Int32)) ∨ (¬ ((x2 - x3) < x1) ∧ r = (1 : Int32))) ∧ L = [] ∧ h = h0) := by
  refine Ct.body (plainFor_of_name pn_com_example_pennybreak_pennybreak_simplebook_Side) ?_
  intro p e s m below meth c T0 hx hby hml hown hnm hret hlk hZ X0 e0
  have hctx' := hctx
  obtain ⟨S_BUY, S_SELL, E_BUY, E_SELL, F_SELL_ordinal, F_BUY_ordinal, ne_BUY_SELL⟩ := hctx
  refine Go.cast (ef_bba_SELL m a_SELL x1 x2 x3) ?_
  show Go p e below _ T0 (mkF m 0 #[.val (.ref a_SELL), .val (.long x1), .second, .val (.long x2), .second, .val (.long x3), .second] [])
  refine Go.s_aloadN X0 hx (hb hby d1_0) (q := 1) rfl rfl rfl ?_
  refine Go.getS X0 hx hZ hown (w_ hw 8 rfl) Via.refl e0 S_BUY (hb hby d1_1) ?_
  intro T1 X1 e1
  show Go p e below _ T1 (mkF m 4 #[.val (.ref a_SELL), .val (.long x1), .second, .val (.long x2), .second, .val (.long x3), .second] [(.ref a_BUY), (.ref a_SELL)])
  refine Go.s_acmp X1 hx (q := 24) (hb hby d1_4) rfl rfl (same := false) (decide_eq_false fun q => ne_BUY_SELL (Value.ref.inj q).symm) (by decide) (by decide) ?_
  refine Go.s_lloadN X1 hx (hb hby d1_24) (q := 25) rfl rfl ?_
  refine Go.s_lloadN X1 hx (hb hby d1_25) (q := 26) rfl rfl ?_
  refine Go.s_lload X1 hx (hb hby d1_26) (q := 28) rfl rfl ?_
  refine Go.s_lsub X1 hx (hb hby d1_28) (q := 29) rfl ?_
  refine Go.s_lcmp X1 hx (hb hby d1_29) (q := 30) rfl ?_
  by_cases c30_2 : (x2 - x3) < x1
  · -- pc 30: (x2 - x3) < x1
    refine Go.s_ifYes X1 hx (hb hby d1_30) (q := 37) (by decide) (by decide) ((if0 _ _).trans (tlt ((lw_gt x1 (x2 - x3)).mpr c30_2)).2.2.1) ?_
    refine Go.s_iconst X1 hx (hb hby d1_37) (q := 38) rfl (z := 0) rfl ?_
    refine Go.retN X1 hx hlk hret (by simp) (hb hby d1_38) (by decide) (by decide) ?_
    try rw [e1]
    exact ⟨_, rfl, Or.inl ⟨c30_2, (by decide)⟩, rfl, rfl⟩
  · -- pc 30: not (x2 - x3) < x1
    refine Go.s_ifNo X1 hx (hb hby d1_30) (q := 33) rfl ((if0 _ _).trans (flt (fun q => c30_2 ((lw_gt x1 (x2 - x3)).mp q))).2.2.1) ?_
    refine Go.s_iconst X1 hx (hb hby d1_33) (q := 34) rfl (z := 1) rfl ?_
    refine Go.s_goto X1 hx (hb hby d1_34) (q := 38) (by decide) (by decide) ?_
    refine Go.retN X1 hx hlk hret (by simp) (hb hby d1_38) (by decide) (by decide) ?_
    try rw [e1]
    exact ⟨_, rfl, Or.inr (⟨c30_2, (by decide)⟩), rfl, rfl⟩
theorem ef_law (m : MethodId) (x0 : Int32) (x1 : Int64) (x2 : Int64) (x3 : Int64) (x4 : Int32) : entryFrame m #[(.int x0), (.long x1), (.long x2), (.long x3), (.int x4)] maxLocals = mkF m 0 #[.val (.int x0), .val (.long x1), .second, .val (.long x2), .second, .val (.long x3), .second, .val (.int x4), .unset, .unset, .unset, .unset, .unset, .unset, .unset, .unset, .unset, .unset, .unset] [] := by first | (simp [entryFrame, mkF, argsToLocals, Value.category, maxLocals]; done) | rfl
set_option maxRecDepth 65536 in
set_option maxHeartbeats 40000000 in
theorem rm_law (l : Launch) (Z : State) (a0 : Array Value) (hw : ∀ d ∈ tables_1, d.before a0 Z = true) (x0 : Int32) (x1 : Int64) (x2 : Int64) (x3 : Int64) (x4 : Int32) (h0 : Heap) (a_BUY a_SELL : Addr) (hctx : Ctx Z h0 a_BUY a_SELL) :
    Ct l x code maxLocals ret room_1 Z h0 #[(.int x0), (.long x1), (.long x2), (.long x3), (.int x4)] (fun v h L => v = some (.int 1) ∧ L = []) := by
  refine Ct.body (plainFor_of_name pn_com_example_pennybreak_pennybreak_simplebook_SideIsBetterByPinLaw) ?_
  intro p e s m below meth c T0 hx hby hml hown hnm hret hlk hZ X0 e0
  have hctx' := hctx
  obtain ⟨S_BUY, S_SELL, E_BUY, E_SELL, F_SELL_ordinal, F_BUY_ordinal, ne_BUY_SELL⟩ := hctx
  refine Go.cast (ef_law m x0 x1 x2 x3 x4) ?_
  show Go p e below _ T0 (mkF m 0 #[.val (.int x0), .val (.long x1), .second, .val (.long x2), .second, .val (.long x3), .second, .val (.int x4), .unset, .unset, .unset, .unset, .unset, .unset, .unset, .unset, .unset, .unset, .unset] [])
  refine Go.s_iloadN X0 hx (hb hby at_0) (q := 1) rfl rfl ?_
  refine Go.s_iconst X0 hx (hb hby at_1) (q := 2) rfl (z := 1) rfl ?_
  refine Go.s_iand X0 hx (hb hby at_2) (q := 3) rfl ?_
  by_cases c3_1 : (x0 &&& (1 : Int32)) = (0 : Int32)
  · -- pc 3: (x0 &&& (1 : Int32)) = (0 : Int32)
    refine Go.s_ifNo X0 hx (hb hby at_3) (q := 6) rfl ((if0 _ _).trans (teq c3_1).2) ?_
    refine Go.s_iconst X0 hx (hb hby at_6) (q := 7) rfl (z := 1) rfl ?_
    refine Go.s_goto X0 hx (hb hby at_7) (q := 11) (by decide) (by decide) ?_
    refine Go.s_istore X0 hx (hb hby at_11) (q := 13) rfl (l' := #[.val (.int x0), .val (.long x1), .second, .val (.long x2), .second, .val (.long x3), .second, .val (.int x4), .val (.int (1 : Int32)), .unset, .unset, .unset, .unset, .unset, .unset, .unset, .unset, .unset, .unset]) rfl ?_
    refine Go.s_iload X0 hx (hb hby at_13) (q := 15) rfl rfl ?_
    refine Go.s_ifNo X0 hx (hb hby at_15) (q := 18) rfl ((if0 _ _).trans (feq (by decide : ¬ ((1 : Int32) = (0 : Int32)))).1) ?_
    refine Go.getS X0 hx hZ hown (w_ hw 0 rfl) Via.refl e0 S_BUY (hb hby at_18) ?_
    intro T2 X2 e2
    show Go p e below _ T2 (mkF m 21 #[.val (.int x0), .val (.long x1), .second, .val (.long x2), .second, .val (.long x3), .second, .val (.int x4), .val (.int (1 : Int32)), .unset, .unset, .unset, .unset, .unset, .unset, .unset, .unset, .unset, .unset] [(.ref a_BUY)])
    refine Go.s_goto X2 hx (hb hby at_21) (q := 27) (by decide) (by decide) ?_
    refine Go.s_astore X2 hx (hb hby at_27) (q := 29) rfl rfl (l' := #[.val (.int x0), .val (.long x1), .second, .val (.long x2), .second, .val (.long x3), .second, .val (.int x4), .val (.int (1 : Int32)), .val (.ref a_BUY), .unset, .unset, .unset, .unset, .unset, .unset, .unset, .unset, .unset]) rfl ?_
    refine Go.s_lloadN X2 hx (hb hby at_29) (q := 30) rfl rfl ?_
    refine Go.s_bipush X2 hx (hb hby at_30) (q := 32) rfl (z := 24) rfl ?_
    refine Go.s_lshl X2 hx (hb hby at_32) (q := 33) rfl ?_
    refine Go.s_bipush X2 hx (hb hby at_33) (q := 35) rfl (z := 24) rfl ?_
    refine Go.s_lshr X2 hx (hb hby at_35) (q := 36) rfl ?_
    refine Go.s_lstore X2 hx (hb hby at_36) (q := 38) rfl (l' := #[.val (.int x0), .val (.long x1), .second, .val (.long x2), .second, .val (.long x3), .second, .val (.int x4), .val (.int (1 : Int32)), .val (.ref a_BUY), .val (.long ((x1 <<< ((24 : Int32) &&& 0x3f).toInt64) >>> ((24 : Int32) &&& 0x3f).toInt64)), .second, .unset, .unset, .unset, .unset, .unset, .unset, .unset]) rfl ?_
    generalize hv3 : ((x1 <<< ((24 : Int32) &&& 0x3f).toInt64) >>> ((24 : Int32) &&& 0x3f).toInt64) = v3
    refine Go.s_lloadN X2 hx (hb hby at_38) (q := 39) rfl rfl ?_
    refine Go.s_bipush X2 hx (hb hby at_39) (q := 41) rfl (z := 24) rfl ?_
    refine Go.s_lshl X2 hx (hb hby at_41) (q := 42) rfl ?_
    refine Go.s_bipush X2 hx (hb hby at_42) (q := 44) rfl (z := 24) rfl ?_
    refine Go.s_lshr X2 hx (hb hby at_44) (q := 45) rfl ?_
    refine Go.s_lstore X2 hx (hb hby at_45) (q := 47) rfl (l' := #[.val (.int x0), .val (.long x1), .second, .val (.long x2), .second, .val (.long x3), .second, .val (.int x4), .val (.int (1 : Int32)), .val (.ref a_BUY), .val (.long v3), .second, .val (.long ((x2 <<< ((24 : Int32) &&& 0x3f).toInt64) >>> ((24 : Int32) &&& 0x3f).toInt64)), .second, .unset, .unset, .unset, .unset, .unset]) rfl ?_
    generalize hv4 : ((x2 <<< ((24 : Int32) &&& 0x3f).toInt64) >>> ((24 : Int32) &&& 0x3f).toInt64) = v4
    refine Go.s_iload X2 hx (hb hby at_47) (q := 49) rfl rfl ?_
    refine Go.s_ifNo X2 hx (hb hby at_49) (q := 52) rfl ((if0 _ _).trans (feq (by decide : ¬ ((1 : Int32) = (0 : Int32)))).1) ?_
    refine Go.s_lload X2 hx (hb hby at_52) (q := 54) rfl rfl ?_
    refine Go.s_lload X2 hx (hb hby at_54) (q := 56) rfl rfl ?_
    refine Go.s_lsub X2 hx (hb hby at_56) (q := 57) rfl ?_
    refine Go.s_goto X2 hx (hb hby at_57) (q := 65) (by decide) (by decide) ?_
    refine Go.s_lstore X2 hx (hb hby at_65) (q := 67) rfl (l' := #[.val (.int x0), .val (.long x1), .second, .val (.long x2), .second, .val (.long x3), .second, .val (.int x4), .val (.int (1 : Int32)), .val (.ref a_BUY), .val (.long v3), .second, .val (.long v4), .second, .val (.long (v3 - v4)), .second, .unset, .unset, .unset]) rfl ?_
    generalize hv5 : (v3 - v4) = v5
    refine Go.s_iloadN X2 hx (hb hby at_67) (q := 68) rfl rfl ?_
    refine Go.s_iconst X2 hx (hb hby at_68) (q := 69) rfl (z := 2) rfl ?_
    refine Go.s_iand X2 hx (hb hby at_69) (q := 70) rfl ?_
    by_cases c70_6 : (x0 &&& (2 : Int32)) = (0 : Int32)
    · -- pc 70: (x0 &&& (2 : Int32)) = (0 : Int32)
      refine Go.s_ifYes X2 hx (hb hby at_70) (q := 86) (by decide) (by decide) ((if0 _ _).trans (teq c70_6).1) ?_
      refine Go.s_lload X2 hx (hb hby at_86) (q := 88) rfl rfl ?_
      refine Go.s_bipush X2 hx (hb hby at_88) (q := 90) rfl (z := 24) rfl ?_
      refine Go.s_lshl X2 hx (hb hby at_90) (q := 91) rfl ?_
      refine Go.s_bipush X2 hx (hb hby at_91) (q := 93) rfl (z := 24) rfl ?_
      refine Go.s_lshr X2 hx (hb hby at_93) (q := 94) rfl ?_
      refine Go.s_lstore X2 hx (hb hby at_94) (q := 96) rfl (l' := #[.val (.int x0), .val (.long x1), .second, .val (.long x2), .second, .val (.long x3), .second, .val (.int x4), .val (.int (1 : Int32)), .val (.ref a_BUY), .val (.long v3), .second, .val (.long v4), .second, .val (.long v5), .second, .val (.long ((x3 <<< ((24 : Int32) &&& 0x3f).toInt64) >>> ((24 : Int32) &&& 0x3f).toInt64)), .second, .unset]) rfl ?_
      generalize hv7 : ((x3 <<< ((24 : Int32) &&& 0x3f).toInt64) >>> ((24 : Int32) &&& 0x3f).toInt64) = v7
      refine Go.s_lload X2 hx (hb hby at_96) (q := 98) rfl rfl ?_
      refine Go.s_lload X2 hx (hb hby at_98) (q := 100) rfl rfl ?_
      refine Go.s_lcmp X2 hx (hb hby at_100) (q := 101) rfl ?_
      by_cases c101_8 : v5 < v7
      · -- pc 101: v5 < v7
        refine Go.s_ifYes X2 hx (hb hby at_101) (q := 108) (by decide) (by decide) ((if0 _ _).trans (tlt ((lw_lt v5 v7).mpr c101_8)).1) ?_
        refine Go.s_iconst X2 hx (hb hby at_108) (q := 109) rfl (z := 0) rfl ?_
        refine Go.s_istore X2 hx (hb hby at_109) (q := 111) rfl (l' := #[.val (.int x0), .val (.long x1), .second, .val (.long x2), .second, .val (.long x3), .second, .val (.int x4), .val (.int (1 : Int32)), .val (.ref a_BUY), .val (.long v3), .second, .val (.long v4), .second, .val (.long v5), .second, .val (.long v7), .second, .val (.int (0 : Int32))]) rfl ?_
        refine Go.s_aload X2 hx (hb hby at_111) (q := 113) rfl rfl rfl ?_
        refine Go.s_lload X2 hx (hb hby at_113) (q := 115) rfl rfl ?_
        refine Go.s_lload X2 hx (hb hby at_115) (q := 117) rfl rfl ?_
        refine Go.s_lload X2 hx (hb hby at_117) (q := 119) rfl rfl ?_
        refine Go.callV (y := mn_1) (z := mn_1) X2 hx hZ hown (w_ hw 3 rfl) (w_ hw 4 rfl) (notFace_of_selects (args := #[]) (mvT hZ (w_ hw 6 rfl))) (w_ hw 6 rfl) (w_ hw 5 rfl) (w_ hw 7 rfl) (w_ hw 1 rfl) (by decide) e2 E_BUY (argsL := [(.long v3), (.long v4), (.long v7)]) (rest := []) (rm_bba_BUY l Z a0 hw v3 v4 v7 _ a_BUY a_SELL hctx') (by rw [hml]; rfl) (lenOf pd_0 rfl) rfl (hb hby at_119) (by decide) (by decide) (by decide) (Nat.le_of_ble_eq_true rfl) ?_
        intro r9 T9 L9 q9 X9
        obtain ⟨w9, rfl, p9, rfl, e9⟩ := q9
        rw [List.append_nil] at X9
        rcases p9 with ⟨u9_0_0, z9⟩ | ⟨u9_1_0, z9⟩
        · -- (0 : Int32)
          subst w9
          show Go p e below _ T9 (mkF m 122 #[.val (.int x0), .val (.long x1), .second, .val (.long x2), .second, .val (.long x3), .second, .val (.int x4), .val (.int (1 : Int32)), .val (.ref a_BUY), .val (.long v3), .second, .val (.long v4), .second, .val (.long v5), .second, .val (.long v7), .second, .val (.int (0 : Int32))] [(.int (0 : Int32))])
          refine Go.s_iload X9 hx (hb hby at_122) (q := 124) rfl rfl ?_
          refine Go.s_icmpNo X9 hx (hb hby at_124) (q := 127) rfl (teq (by decide : (0 : Int32) = (0 : Int32))).2 ?_
          refine Go.s_iconst X9 hx (hb hby at_127) (q := 128) rfl (z := 1) rfl ?_
          refine Go.s_goto X9 hx (hb hby at_128) (q := 132) (by decide) (by decide) ?_
          refine Go.retN X9 hx hlk hret (by simp) (hb hby at_132) (by decide) (by decide) ?_
          try rw [e9]
          exact ⟨by decide, rfl⟩
        · -- (1 : Int32)
          subst w9
          show Go p e below _ T9 (mkF m 122 #[.val (.int x0), .val (.long x1), .second, .val (.long x2), .second, .val (.long x3), .second, .val (.int x4), .val (.int (1 : Int32)), .val (.ref a_BUY), .val (.long v3), .second, .val (.long v4), .second, .val (.long v5), .second, .val (.long v7), .second, .val (.int (0 : Int32))] [(.int (1 : Int32))])
          refine Go.s_iload X9 hx (hb hby at_122) (q := 124) rfl rfl ?_
          refine Go.s_icmpYes X9 hx (hb hby at_124) (q := 131) (by decide) (by decide) (feq (by decide : ¬ ((1 : Int32) = (0 : Int32)))).2 ?_
          refine Go.s_iconst X9 hx (hb hby at_131) (q := 132) rfl (z := 0) rfl ?_
          refine Go.retN X9 hx hlk hret (by simp) (hb hby at_132) (by decide) (by decide) ?_
          try rw [e9]
          exfalso
          have t0 := rng64 v5
          have t1 := rng64 v7
          have t2 := rng64 v3
          have t3 := rng64 v4
          have t4 := c_ladd v4 v7
          have t5 := rng64 (v4 + v7)
          have t6 := rng64 (x1 <<< ((24 : Int32) &&& 0x3f).toInt64)
          have t7 := c_lshr (x1 <<< ((24 : Int32) &&& 0x3f).toInt64) (24 : Int32) 24 (by decide)
          have t8 := rng64 (x2 <<< ((24 : Int32) &&& 0x3f).toInt64)
          have t9 := c_lshr (x2 <<< ((24 : Int32) &&& 0x3f).toInt64) (24 : Int32) 24 (by decide)
          have t10 := c_lsub v3 v4
          have t11 := rng64 (v3 - v4)
          have t12 := rng64 (x3 <<< ((24 : Int32) &&& 0x3f).toInt64)
          have t13 := c_lshr (x3 <<< ((24 : Int32) &&& 0x3f).toInt64) (24 : Int32) 24 (by decide)
          have t14 := Int64.lt_iff_toInt_lt.mp c101_8
          have t15 := mt Int64.lt_iff_toInt_lt.mpr u9_1_0
          have t16 := congrArg Int64.toInt hv3
          have t17 := congrArg Int64.toInt hv4
          have t18 := congrArg Int64.toInt hv5
          have t19 := congrArg Int64.toInt hv7
          omega
      · -- pc 101: not v5 < v7
        refine Go.s_ifNo X2 hx (hb hby at_101) (q := 104) rfl ((if0 _ _).trans (flt (fun q => c101_8 ((lw_lt v5 v7).mp q))).1) ?_
        refine Go.s_iconst X2 hx (hb hby at_104) (q := 105) rfl (z := 1) rfl ?_
        refine Go.s_goto X2 hx (hb hby at_105) (q := 109) (by decide) (by decide) ?_
        refine Go.s_istore X2 hx (hb hby at_109) (q := 111) rfl (l' := #[.val (.int x0), .val (.long x1), .second, .val (.long x2), .second, .val (.long x3), .second, .val (.int x4), .val (.int (1 : Int32)), .val (.ref a_BUY), .val (.long v3), .second, .val (.long v4), .second, .val (.long v5), .second, .val (.long v7), .second, .val (.int (1 : Int32))]) rfl ?_
        refine Go.s_aload X2 hx (hb hby at_111) (q := 113) rfl rfl rfl ?_
        refine Go.s_lload X2 hx (hb hby at_113) (q := 115) rfl rfl ?_
        refine Go.s_lload X2 hx (hb hby at_115) (q := 117) rfl rfl ?_
        refine Go.s_lload X2 hx (hb hby at_117) (q := 119) rfl rfl ?_
        refine Go.callV (y := mn_1) (z := mn_1) X2 hx hZ hown (w_ hw 3 rfl) (w_ hw 4 rfl) (notFace_of_selects (args := #[]) (mvT hZ (w_ hw 6 rfl))) (w_ hw 6 rfl) (w_ hw 5 rfl) (w_ hw 7 rfl) (w_ hw 1 rfl) (by decide) e2 E_BUY (argsL := [(.long v3), (.long v4), (.long v7)]) (rest := []) (rm_bba_BUY l Z a0 hw v3 v4 v7 _ a_BUY a_SELL hctx') (by rw [hml]; rfl) (lenOf pd_0 rfl) rfl (hb hby at_119) (by decide) (by decide) (by decide) (Nat.le_of_ble_eq_true rfl) ?_
        intro r10 T10 L10 q10 X10
        obtain ⟨w10, rfl, p10, rfl, e10⟩ := q10
        rw [List.append_nil] at X10
        rcases p10 with ⟨u10_0_0, z10⟩ | ⟨u10_1_0, z10⟩
        · -- (0 : Int32)
          subst w10
          show Go p e below _ T10 (mkF m 122 #[.val (.int x0), .val (.long x1), .second, .val (.long x2), .second, .val (.long x3), .second, .val (.int x4), .val (.int (1 : Int32)), .val (.ref a_BUY), .val (.long v3), .second, .val (.long v4), .second, .val (.long v5), .second, .val (.long v7), .second, .val (.int (1 : Int32))] [(.int (0 : Int32))])
          refine Go.s_iload X10 hx (hb hby at_122) (q := 124) rfl rfl ?_
          refine Go.s_icmpYes X10 hx (hb hby at_124) (q := 131) (by decide) (by decide) (feq (by decide : ¬ ((0 : Int32) = (1 : Int32)))).2 ?_
          refine Go.s_iconst X10 hx (hb hby at_131) (q := 132) rfl (z := 0) rfl ?_
          refine Go.retN X10 hx hlk hret (by simp) (hb hby at_132) (by decide) (by decide) ?_
          try rw [e10]
          exfalso
          have t0 := rng64 v5
          have t1 := rng64 v7
          have t2 := rng64 v3
          have t3 := rng64 v4
          have t4 := c_ladd v4 v7
          have t5 := rng64 (v4 + v7)
          have t6 := rng64 (x1 <<< ((24 : Int32) &&& 0x3f).toInt64)
          have t7 := c_lshr (x1 <<< ((24 : Int32) &&& 0x3f).toInt64) (24 : Int32) 24 (by decide)
          have t8 := rng64 (x2 <<< ((24 : Int32) &&& 0x3f).toInt64)
          have t9 := c_lshr (x2 <<< ((24 : Int32) &&& 0x3f).toInt64) (24 : Int32) 24 (by decide)
          have t10 := c_lsub v3 v4
          have t11 := rng64 (v3 - v4)
          have t12 := rng64 (x3 <<< ((24 : Int32) &&& 0x3f).toInt64)
          have t13 := c_lshr (x3 <<< ((24 : Int32) &&& 0x3f).toInt64) (24 : Int32) 24 (by decide)
          have t14 := mt Int64.lt_iff_toInt_lt.mpr c101_8
          have t15 := Int64.lt_iff_toInt_lt.mp u10_0_0
          have t16 := congrArg Int64.toInt hv3
          have t17 := congrArg Int64.toInt hv4
          have t18 := congrArg Int64.toInt hv5
          have t19 := congrArg Int64.toInt hv7
          omega
        · -- (1 : Int32)
          subst w10
          show Go p e below _ T10 (mkF m 122 #[.val (.int x0), .val (.long x1), .second, .val (.long x2), .second, .val (.long x3), .second, .val (.int x4), .val (.int (1 : Int32)), .val (.ref a_BUY), .val (.long v3), .second, .val (.long v4), .second, .val (.long v5), .second, .val (.long v7), .second, .val (.int (1 : Int32))] [(.int (1 : Int32))])
          refine Go.s_iload X10 hx (hb hby at_122) (q := 124) rfl rfl ?_
          refine Go.s_icmpNo X10 hx (hb hby at_124) (q := 127) rfl (teq (by decide : (1 : Int32) = (1 : Int32))).2 ?_
          refine Go.s_iconst X10 hx (hb hby at_127) (q := 128) rfl (z := 1) rfl ?_
          refine Go.s_goto X10 hx (hb hby at_128) (q := 132) (by decide) (by decide) ?_
          refine Go.retN X10 hx hlk hret (by simp) (hb hby at_132) (by decide) (by decide) ?_
          try rw [e10]
          exact ⟨by decide, rfl⟩
    · -- pc 70: not (x0 &&& (2 : Int32)) = (0 : Int32)
      refine Go.s_ifNo X2 hx (hb hby at_70) (q := 73) rfl ((if0 _ _).trans (feq c70_6).1) ?_
      refine Go.s_lload X2 hx (hb hby at_73) (q := 75) rfl rfl ?_
      refine Go.s_iload X2 hx (hb hby at_75) (q := 77) rfl rfl ?_
      refine Go.s_iconst X2 hx (hb hby at_77) (q := 78) rfl (z := 3) rfl ?_
      refine Go.s_iand X2 hx (hb hby at_78) (q := 79) rfl ?_
      refine Go.s_iconst X2 hx (hb hby at_79) (q := 80) rfl (z := 1) rfl ?_
      refine Go.s_isub X2 hx (hb hby at_80) (q := 81) rfl ?_
      refine Go.s_i2l X2 hx (hb hby at_81) (q := 82) rfl ?_
      refine Go.s_ladd X2 hx (hb hby at_82) (q := 83) rfl ?_
      refine Go.s_goto X2 hx (hb hby at_83) (q := 94) (by decide) (by decide) ?_
      refine Go.s_lstore X2 hx (hb hby at_94) (q := 96) rfl (l' := #[.val (.int x0), .val (.long x1), .second, .val (.long x2), .second, .val (.long x3), .second, .val (.int x4), .val (.int (1 : Int32)), .val (.ref a_BUY), .val (.long v3), .second, .val (.long v4), .second, .val (.long v5), .second, .val (.long (v5 + (((x4 &&& (3 : Int32)) - (1 : Int32)).toInt64))), .second, .unset]) rfl ?_
      generalize hv11 : (v5 + (((x4 &&& (3 : Int32)) - (1 : Int32)).toInt64)) = v11
      refine Go.s_lload X2 hx (hb hby at_96) (q := 98) rfl rfl ?_
      refine Go.s_lload X2 hx (hb hby at_98) (q := 100) rfl rfl ?_
      refine Go.s_lcmp X2 hx (hb hby at_100) (q := 101) rfl ?_
      by_cases c101_12 : v5 < v11
      · -- pc 101: v5 < v11
        refine Go.s_ifYes X2 hx (hb hby at_101) (q := 108) (by decide) (by decide) ((if0 _ _).trans (tlt ((lw_lt v5 v11).mpr c101_12)).1) ?_
        refine Go.s_iconst X2 hx (hb hby at_108) (q := 109) rfl (z := 0) rfl ?_
        refine Go.s_istore X2 hx (hb hby at_109) (q := 111) rfl (l' := #[.val (.int x0), .val (.long x1), .second, .val (.long x2), .second, .val (.long x3), .second, .val (.int x4), .val (.int (1 : Int32)), .val (.ref a_BUY), .val (.long v3), .second, .val (.long v4), .second, .val (.long v5), .second, .val (.long v11), .second, .val (.int (0 : Int32))]) rfl ?_
        refine Go.s_aload X2 hx (hb hby at_111) (q := 113) rfl rfl rfl ?_
        refine Go.s_lload X2 hx (hb hby at_113) (q := 115) rfl rfl ?_
        refine Go.s_lload X2 hx (hb hby at_115) (q := 117) rfl rfl ?_
        refine Go.s_lload X2 hx (hb hby at_117) (q := 119) rfl rfl ?_
        refine Go.callV (y := mn_1) (z := mn_1) X2 hx hZ hown (w_ hw 3 rfl) (w_ hw 4 rfl) (notFace_of_selects (args := #[]) (mvT hZ (w_ hw 6 rfl))) (w_ hw 6 rfl) (w_ hw 5 rfl) (w_ hw 7 rfl) (w_ hw 1 rfl) (by decide) e2 E_BUY (argsL := [(.long v3), (.long v4), (.long v11)]) (rest := []) (rm_bba_BUY l Z a0 hw v3 v4 v11 _ a_BUY a_SELL hctx') (by rw [hml]; rfl) (lenOf pd_0 rfl) rfl (hb hby at_119) (by decide) (by decide) (by decide) (Nat.le_of_ble_eq_true rfl) ?_
        intro r13 T13 L13 q13 X13
        obtain ⟨w13, rfl, p13, rfl, e13⟩ := q13
        rw [List.append_nil] at X13
        rcases p13 with ⟨u13_0_0, z13⟩ | ⟨u13_1_0, z13⟩
        · -- (0 : Int32)
          subst w13
          show Go p e below _ T13 (mkF m 122 #[.val (.int x0), .val (.long x1), .second, .val (.long x2), .second, .val (.long x3), .second, .val (.int x4), .val (.int (1 : Int32)), .val (.ref a_BUY), .val (.long v3), .second, .val (.long v4), .second, .val (.long v5), .second, .val (.long v11), .second, .val (.int (0 : Int32))] [(.int (0 : Int32))])
          refine Go.s_iload X13 hx (hb hby at_122) (q := 124) rfl rfl ?_
          refine Go.s_icmpNo X13 hx (hb hby at_124) (q := 127) rfl (teq (by decide : (0 : Int32) = (0 : Int32))).2 ?_
          refine Go.s_iconst X13 hx (hb hby at_127) (q := 128) rfl (z := 1) rfl ?_
          refine Go.s_goto X13 hx (hb hby at_128) (q := 132) (by decide) (by decide) ?_
          refine Go.retN X13 hx hlk hret (by simp) (hb hby at_132) (by decide) (by decide) ?_
          try rw [e13]
          exact ⟨by decide, rfl⟩
        · -- (1 : Int32)
          subst w13
          show Go p e below _ T13 (mkF m 122 #[.val (.int x0), .val (.long x1), .second, .val (.long x2), .second, .val (.long x3), .second, .val (.int x4), .val (.int (1 : Int32)), .val (.ref a_BUY), .val (.long v3), .second, .val (.long v4), .second, .val (.long v5), .second, .val (.long v11), .second, .val (.int (0 : Int32))] [(.int (1 : Int32))])
          refine Go.s_iload X13 hx (hb hby at_122) (q := 124) rfl rfl ?_
          refine Go.s_icmpYes X13 hx (hb hby at_124) (q := 131) (by decide) (by decide) (feq (by decide : ¬ ((1 : Int32) = (0 : Int32)))).2 ?_
          refine Go.s_iconst X13 hx (hb hby at_131) (q := 132) rfl (z := 0) rfl ?_
          refine Go.retN X13 hx hlk hret (by simp) (hb hby at_132) (by decide) (by decide) ?_
          try rw [e13]
          exfalso
          have t0 := rng64 v5
          have t1 := rng64 v11
          have t2 := rng64 v3
          have t3 := rng64 v4
          have t4 := c_ladd v4 v11
          have t5 := rng64 (v4 + v11)
          have t6 := rng64 (x1 <<< ((24 : Int32) &&& 0x3f).toInt64)
          have t7 := c_lshr (x1 <<< ((24 : Int32) &&& 0x3f).toInt64) (24 : Int32) 24 (by decide)
          have t8 := rng64 (x2 <<< ((24 : Int32) &&& 0x3f).toInt64)
          have t9 := c_lshr (x2 <<< ((24 : Int32) &&& 0x3f).toInt64) (24 : Int32) 24 (by decide)
          have t10 := c_lsub v3 v4
          have t11 := rng64 (v3 - v4)
          have t12 := rng32 x4
          have t13 := c_mask x4 (3 : Int32) 2 (by decide) (by decide)
          have t14 := (by decide : ((1 : Int32)).toInt = 1)
          have t15 := c_isub (x4 &&& (3 : Int32)) (1 : Int32)
          have t16 := rng32 ((x4 &&& (3 : Int32)) - (1 : Int32))
          have t17 := c_i2l (((x4 &&& (3 : Int32)) - (1 : Int32)))
          have t18 := c_ladd v5 ((x4 &&& (3 : Int32)) - (1 : Int32)).toInt64
          have t19 := rng64 (v5 + ((x4 &&& (3 : Int32)) - (1 : Int32)).toInt64)
          have t20 := Int64.lt_iff_toInt_lt.mp c101_12
          have t21 := mt Int64.lt_iff_toInt_lt.mpr u13_1_0
          have t22 := congrArg Int64.toInt hv3
          have t23 := congrArg Int64.toInt hv4
          have t24 := congrArg Int64.toInt hv5
          have t25 := congrArg Int64.toInt hv11
          omega
      · -- pc 101: not v5 < v11
        refine Go.s_ifNo X2 hx (hb hby at_101) (q := 104) rfl ((if0 _ _).trans (flt (fun q => c101_12 ((lw_lt v5 v11).mp q))).1) ?_
        refine Go.s_iconst X2 hx (hb hby at_104) (q := 105) rfl (z := 1) rfl ?_
        refine Go.s_goto X2 hx (hb hby at_105) (q := 109) (by decide) (by decide) ?_
        refine Go.s_istore X2 hx (hb hby at_109) (q := 111) rfl (l' := #[.val (.int x0), .val (.long x1), .second, .val (.long x2), .second, .val (.long x3), .second, .val (.int x4), .val (.int (1 : Int32)), .val (.ref a_BUY), .val (.long v3), .second, .val (.long v4), .second, .val (.long v5), .second, .val (.long v11), .second, .val (.int (1 : Int32))]) rfl ?_
        refine Go.s_aload X2 hx (hb hby at_111) (q := 113) rfl rfl rfl ?_
        refine Go.s_lload X2 hx (hb hby at_113) (q := 115) rfl rfl ?_
        refine Go.s_lload X2 hx (hb hby at_115) (q := 117) rfl rfl ?_
        refine Go.s_lload X2 hx (hb hby at_117) (q := 119) rfl rfl ?_
        refine Go.callV (y := mn_1) (z := mn_1) X2 hx hZ hown (w_ hw 3 rfl) (w_ hw 4 rfl) (notFace_of_selects (args := #[]) (mvT hZ (w_ hw 6 rfl))) (w_ hw 6 rfl) (w_ hw 5 rfl) (w_ hw 7 rfl) (w_ hw 1 rfl) (by decide) e2 E_BUY (argsL := [(.long v3), (.long v4), (.long v11)]) (rest := []) (rm_bba_BUY l Z a0 hw v3 v4 v11 _ a_BUY a_SELL hctx') (by rw [hml]; rfl) (lenOf pd_0 rfl) rfl (hb hby at_119) (by decide) (by decide) (by decide) (Nat.le_of_ble_eq_true rfl) ?_
        intro r14 T14 L14 q14 X14
        obtain ⟨w14, rfl, p14, rfl, e14⟩ := q14
        rw [List.append_nil] at X14
        rcases p14 with ⟨u14_0_0, z14⟩ | ⟨u14_1_0, z14⟩
        · -- (0 : Int32)
          subst w14
          show Go p e below _ T14 (mkF m 122 #[.val (.int x0), .val (.long x1), .second, .val (.long x2), .second, .val (.long x3), .second, .val (.int x4), .val (.int (1 : Int32)), .val (.ref a_BUY), .val (.long v3), .second, .val (.long v4), .second, .val (.long v5), .second, .val (.long v11), .second, .val (.int (1 : Int32))] [(.int (0 : Int32))])
          refine Go.s_iload X14 hx (hb hby at_122) (q := 124) rfl rfl ?_
          refine Go.s_icmpYes X14 hx (hb hby at_124) (q := 131) (by decide) (by decide) (feq (by decide : ¬ ((0 : Int32) = (1 : Int32)))).2 ?_
          refine Go.s_iconst X14 hx (hb hby at_131) (q := 132) rfl (z := 0) rfl ?_
          refine Go.retN X14 hx hlk hret (by simp) (hb hby at_132) (by decide) (by decide) ?_
          try rw [e14]
          exfalso
          have t0 := rng64 v5
          have t1 := rng64 v11
          have t2 := rng64 v3
          have t3 := rng64 v4
          have t4 := c_ladd v4 v11
          have t5 := rng64 (v4 + v11)
          have t6 := rng64 (x1 <<< ((24 : Int32) &&& 0x3f).toInt64)
          have t7 := c_lshr (x1 <<< ((24 : Int32) &&& 0x3f).toInt64) (24 : Int32) 24 (by decide)
          have t8 := rng64 (x2 <<< ((24 : Int32) &&& 0x3f).toInt64)
          have t9 := c_lshr (x2 <<< ((24 : Int32) &&& 0x3f).toInt64) (24 : Int32) 24 (by decide)
          have t10 := c_lsub v3 v4
          have t11 := rng64 (v3 - v4)
          have t12 := rng32 x4
          have t13 := c_mask x4 (3 : Int32) 2 (by decide) (by decide)
          have t14 := (by decide : ((1 : Int32)).toInt = 1)
          have t15 := c_isub (x4 &&& (3 : Int32)) (1 : Int32)
          have t16 := rng32 ((x4 &&& (3 : Int32)) - (1 : Int32))
          have t17 := c_i2l (((x4 &&& (3 : Int32)) - (1 : Int32)))
          have t18 := c_ladd v5 ((x4 &&& (3 : Int32)) - (1 : Int32)).toInt64
          have t19 := rng64 (v5 + ((x4 &&& (3 : Int32)) - (1 : Int32)).toInt64)
          have t20 := mt Int64.lt_iff_toInt_lt.mpr c101_12
          have t21 := Int64.lt_iff_toInt_lt.mp u14_0_0
          have t22 := congrArg Int64.toInt hv3
          have t23 := congrArg Int64.toInt hv4
          have t24 := congrArg Int64.toInt hv5
          have t25 := congrArg Int64.toInt hv11
          omega
        · -- (1 : Int32)
          subst w14
          show Go p e below _ T14 (mkF m 122 #[.val (.int x0), .val (.long x1), .second, .val (.long x2), .second, .val (.long x3), .second, .val (.int x4), .val (.int (1 : Int32)), .val (.ref a_BUY), .val (.long v3), .second, .val (.long v4), .second, .val (.long v5), .second, .val (.long v11), .second, .val (.int (1 : Int32))] [(.int (1 : Int32))])
          refine Go.s_iload X14 hx (hb hby at_122) (q := 124) rfl rfl ?_
          refine Go.s_icmpNo X14 hx (hb hby at_124) (q := 127) rfl (teq (by decide : (1 : Int32) = (1 : Int32))).2 ?_
          refine Go.s_iconst X14 hx (hb hby at_127) (q := 128) rfl (z := 1) rfl ?_
          refine Go.s_goto X14 hx (hb hby at_128) (q := 132) (by decide) (by decide) ?_
          refine Go.retN X14 hx hlk hret (by simp) (hb hby at_132) (by decide) (by decide) ?_
          try rw [e14]
          exact ⟨by decide, rfl⟩
  · -- pc 3: not (x0 &&& (1 : Int32)) = (0 : Int32)
    refine Go.s_ifYes X0 hx (hb hby at_3) (q := 10) (by decide) (by decide) ((if0 _ _).trans (feq c3_1).2) ?_
    refine Go.s_iconst X0 hx (hb hby at_10) (q := 11) rfl (z := 0) rfl ?_
    refine Go.s_istore X0 hx (hb hby at_11) (q := 13) rfl (l' := #[.val (.int x0), .val (.long x1), .second, .val (.long x2), .second, .val (.long x3), .second, .val (.int x4), .val (.int (0 : Int32)), .unset, .unset, .unset, .unset, .unset, .unset, .unset, .unset, .unset, .unset]) rfl ?_
    refine Go.s_iload X0 hx (hb hby at_13) (q := 15) rfl rfl ?_
    refine Go.s_ifYes X0 hx (hb hby at_15) (q := 24) (by decide) (by decide) ((if0 _ _).trans (teq (by decide : (0 : Int32) = (0 : Int32))).1) ?_
    refine Go.getS X0 hx hZ hown (w_ hw 9 rfl) Via.refl e0 S_SELL (hb hby at_24) ?_
    intro T15 X15 e15
    show Go p e below _ T15 (mkF m 27 #[.val (.int x0), .val (.long x1), .second, .val (.long x2), .second, .val (.long x3), .second, .val (.int x4), .val (.int (0 : Int32)), .unset, .unset, .unset, .unset, .unset, .unset, .unset, .unset, .unset, .unset] [(.ref a_SELL)])
    refine Go.s_astore X15 hx (hb hby at_27) (q := 29) rfl rfl (l' := #[.val (.int x0), .val (.long x1), .second, .val (.long x2), .second, .val (.long x3), .second, .val (.int x4), .val (.int (0 : Int32)), .val (.ref a_SELL), .unset, .unset, .unset, .unset, .unset, .unset, .unset, .unset, .unset]) rfl ?_
    refine Go.s_lloadN X15 hx (hb hby at_29) (q := 30) rfl rfl ?_
    refine Go.s_bipush X15 hx (hb hby at_30) (q := 32) rfl (z := 24) rfl ?_
    refine Go.s_lshl X15 hx (hb hby at_32) (q := 33) rfl ?_
    refine Go.s_bipush X15 hx (hb hby at_33) (q := 35) rfl (z := 24) rfl ?_
    refine Go.s_lshr X15 hx (hb hby at_35) (q := 36) rfl ?_
    refine Go.s_lstore X15 hx (hb hby at_36) (q := 38) rfl (l' := #[.val (.int x0), .val (.long x1), .second, .val (.long x2), .second, .val (.long x3), .second, .val (.int x4), .val (.int (0 : Int32)), .val (.ref a_SELL), .val (.long ((x1 <<< ((24 : Int32) &&& 0x3f).toInt64) >>> ((24 : Int32) &&& 0x3f).toInt64)), .second, .unset, .unset, .unset, .unset, .unset, .unset, .unset]) rfl ?_
    generalize hv16 : ((x1 <<< ((24 : Int32) &&& 0x3f).toInt64) >>> ((24 : Int32) &&& 0x3f).toInt64) = v16
    refine Go.s_lloadN X15 hx (hb hby at_38) (q := 39) rfl rfl ?_
    refine Go.s_bipush X15 hx (hb hby at_39) (q := 41) rfl (z := 24) rfl ?_
    refine Go.s_lshl X15 hx (hb hby at_41) (q := 42) rfl ?_
    refine Go.s_bipush X15 hx (hb hby at_42) (q := 44) rfl (z := 24) rfl ?_
    refine Go.s_lshr X15 hx (hb hby at_44) (q := 45) rfl ?_
    refine Go.s_lstore X15 hx (hb hby at_45) (q := 47) rfl (l' := #[.val (.int x0), .val (.long x1), .second, .val (.long x2), .second, .val (.long x3), .second, .val (.int x4), .val (.int (0 : Int32)), .val (.ref a_SELL), .val (.long v16), .second, .val (.long ((x2 <<< ((24 : Int32) &&& 0x3f).toInt64) >>> ((24 : Int32) &&& 0x3f).toInt64)), .second, .unset, .unset, .unset, .unset, .unset]) rfl ?_
    generalize hv17 : ((x2 <<< ((24 : Int32) &&& 0x3f).toInt64) >>> ((24 : Int32) &&& 0x3f).toInt64) = v17
    refine Go.s_iload X15 hx (hb hby at_47) (q := 49) rfl rfl ?_
    refine Go.s_ifYes X15 hx (hb hby at_49) (q := 60) (by decide) (by decide) ((if0 _ _).trans (teq (by decide : (0 : Int32) = (0 : Int32))).1) ?_
    refine Go.s_lload X15 hx (hb hby at_60) (q := 62) rfl rfl ?_
    refine Go.s_lload X15 hx (hb hby at_62) (q := 64) rfl rfl ?_
    refine Go.s_lsub X15 hx (hb hby at_64) (q := 65) rfl ?_
    refine Go.s_lstore X15 hx (hb hby at_65) (q := 67) rfl (l' := #[.val (.int x0), .val (.long x1), .second, .val (.long x2), .second, .val (.long x3), .second, .val (.int x4), .val (.int (0 : Int32)), .val (.ref a_SELL), .val (.long v16), .second, .val (.long v17), .second, .val (.long (v17 - v16)), .second, .unset, .unset, .unset]) rfl ?_
    generalize hv18 : (v17 - v16) = v18
    refine Go.s_iloadN X15 hx (hb hby at_67) (q := 68) rfl rfl ?_
    refine Go.s_iconst X15 hx (hb hby at_68) (q := 69) rfl (z := 2) rfl ?_
    refine Go.s_iand X15 hx (hb hby at_69) (q := 70) rfl ?_
    by_cases c70_19 : (x0 &&& (2 : Int32)) = (0 : Int32)
    · -- pc 70: (x0 &&& (2 : Int32)) = (0 : Int32)
      refine Go.s_ifYes X15 hx (hb hby at_70) (q := 86) (by decide) (by decide) ((if0 _ _).trans (teq c70_19).1) ?_
      refine Go.s_lload X15 hx (hb hby at_86) (q := 88) rfl rfl ?_
      refine Go.s_bipush X15 hx (hb hby at_88) (q := 90) rfl (z := 24) rfl ?_
      refine Go.s_lshl X15 hx (hb hby at_90) (q := 91) rfl ?_
      refine Go.s_bipush X15 hx (hb hby at_91) (q := 93) rfl (z := 24) rfl ?_
      refine Go.s_lshr X15 hx (hb hby at_93) (q := 94) rfl ?_
      refine Go.s_lstore X15 hx (hb hby at_94) (q := 96) rfl (l' := #[.val (.int x0), .val (.long x1), .second, .val (.long x2), .second, .val (.long x3), .second, .val (.int x4), .val (.int (0 : Int32)), .val (.ref a_SELL), .val (.long v16), .second, .val (.long v17), .second, .val (.long v18), .second, .val (.long ((x3 <<< ((24 : Int32) &&& 0x3f).toInt64) >>> ((24 : Int32) &&& 0x3f).toInt64)), .second, .unset]) rfl ?_
      generalize hv20 : ((x3 <<< ((24 : Int32) &&& 0x3f).toInt64) >>> ((24 : Int32) &&& 0x3f).toInt64) = v20
      refine Go.s_lload X15 hx (hb hby at_96) (q := 98) rfl rfl ?_
      refine Go.s_lload X15 hx (hb hby at_98) (q := 100) rfl rfl ?_
      refine Go.s_lcmp X15 hx (hb hby at_100) (q := 101) rfl ?_
      by_cases c101_21 : v18 < v20
      · -- pc 101: v18 < v20
        refine Go.s_ifYes X15 hx (hb hby at_101) (q := 108) (by decide) (by decide) ((if0 _ _).trans (tlt ((lw_lt v18 v20).mpr c101_21)).1) ?_
        refine Go.s_iconst X15 hx (hb hby at_108) (q := 109) rfl (z := 0) rfl ?_
        refine Go.s_istore X15 hx (hb hby at_109) (q := 111) rfl (l' := #[.val (.int x0), .val (.long x1), .second, .val (.long x2), .second, .val (.long x3), .second, .val (.int x4), .val (.int (0 : Int32)), .val (.ref a_SELL), .val (.long v16), .second, .val (.long v17), .second, .val (.long v18), .second, .val (.long v20), .second, .val (.int (0 : Int32))]) rfl ?_
        refine Go.s_aload X15 hx (hb hby at_111) (q := 113) rfl rfl rfl ?_
        refine Go.s_lload X15 hx (hb hby at_113) (q := 115) rfl rfl ?_
        refine Go.s_lload X15 hx (hb hby at_115) (q := 117) rfl rfl ?_
        refine Go.s_lload X15 hx (hb hby at_117) (q := 119) rfl rfl ?_
        refine Go.callV (y := mn_1) (z := mn_1) X15 hx hZ hown (w_ hw 3 rfl) (w_ hw 4 rfl) (notFace_of_selects (args := #[]) (mvT hZ (w_ hw 6 rfl))) (w_ hw 6 rfl) (w_ hw 5 rfl) (w_ hw 7 rfl) (w_ hw 1 rfl) (by decide) e15 E_SELL (argsL := [(.long v16), (.long v17), (.long v20)]) (rest := []) (rm_bba_SELL l Z a0 hw v16 v17 v20 _ a_BUY a_SELL hctx') (by rw [hml]; rfl) (lenOf pd_0 rfl) rfl (hb hby at_119) (by decide) (by decide) (by decide) (Nat.le_of_ble_eq_true rfl) ?_
        intro r22 T22 L22 q22 X22
        obtain ⟨w22, rfl, p22, rfl, e22⟩ := q22
        rw [List.append_nil] at X22
        rcases p22 with ⟨u22_0_0, z22⟩ | ⟨u22_1_0, z22⟩
        · -- (0 : Int32)
          subst w22
          show Go p e below _ T22 (mkF m 122 #[.val (.int x0), .val (.long x1), .second, .val (.long x2), .second, .val (.long x3), .second, .val (.int x4), .val (.int (0 : Int32)), .val (.ref a_SELL), .val (.long v16), .second, .val (.long v17), .second, .val (.long v18), .second, .val (.long v20), .second, .val (.int (0 : Int32))] [(.int (0 : Int32))])
          refine Go.s_iload X22 hx (hb hby at_122) (q := 124) rfl rfl ?_
          refine Go.s_icmpNo X22 hx (hb hby at_124) (q := 127) rfl (teq (by decide : (0 : Int32) = (0 : Int32))).2 ?_
          refine Go.s_iconst X22 hx (hb hby at_127) (q := 128) rfl (z := 1) rfl ?_
          refine Go.s_goto X22 hx (hb hby at_128) (q := 132) (by decide) (by decide) ?_
          refine Go.retN X22 hx hlk hret (by simp) (hb hby at_132) (by decide) (by decide) ?_
          try rw [e22]
          exact ⟨by decide, rfl⟩
        · -- (1 : Int32)
          subst w22
          show Go p e below _ T22 (mkF m 122 #[.val (.int x0), .val (.long x1), .second, .val (.long x2), .second, .val (.long x3), .second, .val (.int x4), .val (.int (0 : Int32)), .val (.ref a_SELL), .val (.long v16), .second, .val (.long v17), .second, .val (.long v18), .second, .val (.long v20), .second, .val (.int (0 : Int32))] [(.int (1 : Int32))])
          refine Go.s_iload X22 hx (hb hby at_122) (q := 124) rfl rfl ?_
          refine Go.s_icmpYes X22 hx (hb hby at_124) (q := 131) (by decide) (by decide) (feq (by decide : ¬ ((1 : Int32) = (0 : Int32)))).2 ?_
          refine Go.s_iconst X22 hx (hb hby at_131) (q := 132) rfl (z := 0) rfl ?_
          refine Go.retN X22 hx hlk hret (by simp) (hb hby at_132) (by decide) (by decide) ?_
          try rw [e22]
          exfalso
          have t0 := rng64 v18
          have t1 := rng64 v20
          have t2 := rng64 v17
          have t3 := c_lsub v17 v20
          have t4 := rng64 (v17 - v20)
          have t5 := rng64 v16
          have t6 := rng64 (x1 <<< ((24 : Int32) &&& 0x3f).toInt64)
          have t7 := c_lshr (x1 <<< ((24 : Int32) &&& 0x3f).toInt64) (24 : Int32) 24 (by decide)
          have t8 := rng64 (x2 <<< ((24 : Int32) &&& 0x3f).toInt64)
          have t9 := c_lshr (x2 <<< ((24 : Int32) &&& 0x3f).toInt64) (24 : Int32) 24 (by decide)
          have t10 := c_lsub v17 v16
          have t11 := rng64 (v17 - v16)
          have t12 := rng64 (x3 <<< ((24 : Int32) &&& 0x3f).toInt64)
          have t13 := c_lshr (x3 <<< ((24 : Int32) &&& 0x3f).toInt64) (24 : Int32) 24 (by decide)
          have t14 := Int64.lt_iff_toInt_lt.mp c101_21
          have t15 := mt Int64.lt_iff_toInt_lt.mpr u22_1_0
          have t16 := congrArg Int64.toInt hv16
          have t17 := congrArg Int64.toInt hv17
          have t18 := congrArg Int64.toInt hv18
          have t19 := congrArg Int64.toInt hv20
          omega
      · -- pc 101: not v18 < v20
        refine Go.s_ifNo X15 hx (hb hby at_101) (q := 104) rfl ((if0 _ _).trans (flt (fun q => c101_21 ((lw_lt v18 v20).mp q))).1) ?_
        refine Go.s_iconst X15 hx (hb hby at_104) (q := 105) rfl (z := 1) rfl ?_
        refine Go.s_goto X15 hx (hb hby at_105) (q := 109) (by decide) (by decide) ?_
        refine Go.s_istore X15 hx (hb hby at_109) (q := 111) rfl (l' := #[.val (.int x0), .val (.long x1), .second, .val (.long x2), .second, .val (.long x3), .second, .val (.int x4), .val (.int (0 : Int32)), .val (.ref a_SELL), .val (.long v16), .second, .val (.long v17), .second, .val (.long v18), .second, .val (.long v20), .second, .val (.int (1 : Int32))]) rfl ?_
        refine Go.s_aload X15 hx (hb hby at_111) (q := 113) rfl rfl rfl ?_
        refine Go.s_lload X15 hx (hb hby at_113) (q := 115) rfl rfl ?_
        refine Go.s_lload X15 hx (hb hby at_115) (q := 117) rfl rfl ?_
        refine Go.s_lload X15 hx (hb hby at_117) (q := 119) rfl rfl ?_
        refine Go.callV (y := mn_1) (z := mn_1) X15 hx hZ hown (w_ hw 3 rfl) (w_ hw 4 rfl) (notFace_of_selects (args := #[]) (mvT hZ (w_ hw 6 rfl))) (w_ hw 6 rfl) (w_ hw 5 rfl) (w_ hw 7 rfl) (w_ hw 1 rfl) (by decide) e15 E_SELL (argsL := [(.long v16), (.long v17), (.long v20)]) (rest := []) (rm_bba_SELL l Z a0 hw v16 v17 v20 _ a_BUY a_SELL hctx') (by rw [hml]; rfl) (lenOf pd_0 rfl) rfl (hb hby at_119) (by decide) (by decide) (by decide) (Nat.le_of_ble_eq_true rfl) ?_
        intro r23 T23 L23 q23 X23
        obtain ⟨w23, rfl, p23, rfl, e23⟩ := q23
        rw [List.append_nil] at X23
        rcases p23 with ⟨u23_0_0, z23⟩ | ⟨u23_1_0, z23⟩
        · -- (0 : Int32)
          subst w23
          show Go p e below _ T23 (mkF m 122 #[.val (.int x0), .val (.long x1), .second, .val (.long x2), .second, .val (.long x3), .second, .val (.int x4), .val (.int (0 : Int32)), .val (.ref a_SELL), .val (.long v16), .second, .val (.long v17), .second, .val (.long v18), .second, .val (.long v20), .second, .val (.int (1 : Int32))] [(.int (0 : Int32))])
          refine Go.s_iload X23 hx (hb hby at_122) (q := 124) rfl rfl ?_
          refine Go.s_icmpYes X23 hx (hb hby at_124) (q := 131) (by decide) (by decide) (feq (by decide : ¬ ((0 : Int32) = (1 : Int32)))).2 ?_
          refine Go.s_iconst X23 hx (hb hby at_131) (q := 132) rfl (z := 0) rfl ?_
          refine Go.retN X23 hx hlk hret (by simp) (hb hby at_132) (by decide) (by decide) ?_
          try rw [e23]
          exfalso
          have t0 := rng64 v18
          have t1 := rng64 v20
          have t2 := rng64 v17
          have t3 := c_lsub v17 v20
          have t4 := rng64 (v17 - v20)
          have t5 := rng64 v16
          have t6 := rng64 (x1 <<< ((24 : Int32) &&& 0x3f).toInt64)
          have t7 := c_lshr (x1 <<< ((24 : Int32) &&& 0x3f).toInt64) (24 : Int32) 24 (by decide)
          have t8 := rng64 (x2 <<< ((24 : Int32) &&& 0x3f).toInt64)
          have t9 := c_lshr (x2 <<< ((24 : Int32) &&& 0x3f).toInt64) (24 : Int32) 24 (by decide)
          have t10 := c_lsub v17 v16
          have t11 := rng64 (v17 - v16)
          have t12 := rng64 (x3 <<< ((24 : Int32) &&& 0x3f).toInt64)
          have t13 := c_lshr (x3 <<< ((24 : Int32) &&& 0x3f).toInt64) (24 : Int32) 24 (by decide)
          have t14 := mt Int64.lt_iff_toInt_lt.mpr c101_21
          have t15 := Int64.lt_iff_toInt_lt.mp u23_0_0
          have t16 := congrArg Int64.toInt hv16
          have t17 := congrArg Int64.toInt hv17
          have t18 := congrArg Int64.toInt hv18
          have t19 := congrArg Int64.toInt hv20
          omega
        · -- (1 : Int32)
          subst w23
          show Go p e below _ T23 (mkF m 122 #[.val (.int x0), .val (.long x1), .second, .val (.long x2), .second, .val (.long x3), .second, .val (.int x4), .val (.int (0 : Int32)), .val (.ref a_SELL), .val (.long v16), .second, .val (.long v17), .second, .val (.long v18), .second, .val (.long v20), .second, .val (.int (1 : Int32))] [(.int (1 : Int32))])
          refine Go.s_iload X23 hx (hb hby at_122) (q := 124) rfl rfl ?_
          refine Go.s_icmpNo X23 hx (hb hby at_124) (q := 127) rfl (teq (by decide : (1 : Int32) = (1 : Int32))).2 ?_
          refine Go.s_iconst X23 hx (hb hby at_127) (q := 128) rfl (z := 1) rfl ?_
          refine Go.s_goto X23 hx (hb hby at_128) (q := 132) (by decide) (by decide) ?_
          refine Go.retN X23 hx hlk hret (by simp) (hb hby at_132) (by decide) (by decide) ?_
          try rw [e23]
          exact ⟨by decide, rfl⟩
    · -- pc 70: not (x0 &&& (2 : Int32)) = (0 : Int32)
      refine Go.s_ifNo X15 hx (hb hby at_70) (q := 73) rfl ((if0 _ _).trans (feq c70_19).1) ?_
      refine Go.s_lload X15 hx (hb hby at_73) (q := 75) rfl rfl ?_
      refine Go.s_iload X15 hx (hb hby at_75) (q := 77) rfl rfl ?_
      refine Go.s_iconst X15 hx (hb hby at_77) (q := 78) rfl (z := 3) rfl ?_
      refine Go.s_iand X15 hx (hb hby at_78) (q := 79) rfl ?_
      refine Go.s_iconst X15 hx (hb hby at_79) (q := 80) rfl (z := 1) rfl ?_
      refine Go.s_isub X15 hx (hb hby at_80) (q := 81) rfl ?_
      refine Go.s_i2l X15 hx (hb hby at_81) (q := 82) rfl ?_
      refine Go.s_ladd X15 hx (hb hby at_82) (q := 83) rfl ?_
      refine Go.s_goto X15 hx (hb hby at_83) (q := 94) (by decide) (by decide) ?_
      refine Go.s_lstore X15 hx (hb hby at_94) (q := 96) rfl (l' := #[.val (.int x0), .val (.long x1), .second, .val (.long x2), .second, .val (.long x3), .second, .val (.int x4), .val (.int (0 : Int32)), .val (.ref a_SELL), .val (.long v16), .second, .val (.long v17), .second, .val (.long v18), .second, .val (.long (v18 + (((x4 &&& (3 : Int32)) - (1 : Int32)).toInt64))), .second, .unset]) rfl ?_
      generalize hv24 : (v18 + (((x4 &&& (3 : Int32)) - (1 : Int32)).toInt64)) = v24
      refine Go.s_lload X15 hx (hb hby at_96) (q := 98) rfl rfl ?_
      refine Go.s_lload X15 hx (hb hby at_98) (q := 100) rfl rfl ?_
      refine Go.s_lcmp X15 hx (hb hby at_100) (q := 101) rfl ?_
      by_cases c101_25 : v18 < v24
      · -- pc 101: v18 < v24
        refine Go.s_ifYes X15 hx (hb hby at_101) (q := 108) (by decide) (by decide) ((if0 _ _).trans (tlt ((lw_lt v18 v24).mpr c101_25)).1) ?_
        refine Go.s_iconst X15 hx (hb hby at_108) (q := 109) rfl (z := 0) rfl ?_
        refine Go.s_istore X15 hx (hb hby at_109) (q := 111) rfl (l' := #[.val (.int x0), .val (.long x1), .second, .val (.long x2), .second, .val (.long x3), .second, .val (.int x4), .val (.int (0 : Int32)), .val (.ref a_SELL), .val (.long v16), .second, .val (.long v17), .second, .val (.long v18), .second, .val (.long v24), .second, .val (.int (0 : Int32))]) rfl ?_
        refine Go.s_aload X15 hx (hb hby at_111) (q := 113) rfl rfl rfl ?_
        refine Go.s_lload X15 hx (hb hby at_113) (q := 115) rfl rfl ?_
        refine Go.s_lload X15 hx (hb hby at_115) (q := 117) rfl rfl ?_
        refine Go.s_lload X15 hx (hb hby at_117) (q := 119) rfl rfl ?_
        refine Go.callV (y := mn_1) (z := mn_1) X15 hx hZ hown (w_ hw 3 rfl) (w_ hw 4 rfl) (notFace_of_selects (args := #[]) (mvT hZ (w_ hw 6 rfl))) (w_ hw 6 rfl) (w_ hw 5 rfl) (w_ hw 7 rfl) (w_ hw 1 rfl) (by decide) e15 E_SELL (argsL := [(.long v16), (.long v17), (.long v24)]) (rest := []) (rm_bba_SELL l Z a0 hw v16 v17 v24 _ a_BUY a_SELL hctx') (by rw [hml]; rfl) (lenOf pd_0 rfl) rfl (hb hby at_119) (by decide) (by decide) (by decide) (Nat.le_of_ble_eq_true rfl) ?_
        intro r26 T26 L26 q26 X26
        obtain ⟨w26, rfl, p26, rfl, e26⟩ := q26
        rw [List.append_nil] at X26
        rcases p26 with ⟨u26_0_0, z26⟩ | ⟨u26_1_0, z26⟩
        · -- (0 : Int32)
          subst w26
          show Go p e below _ T26 (mkF m 122 #[.val (.int x0), .val (.long x1), .second, .val (.long x2), .second, .val (.long x3), .second, .val (.int x4), .val (.int (0 : Int32)), .val (.ref a_SELL), .val (.long v16), .second, .val (.long v17), .second, .val (.long v18), .second, .val (.long v24), .second, .val (.int (0 : Int32))] [(.int (0 : Int32))])
          refine Go.s_iload X26 hx (hb hby at_122) (q := 124) rfl rfl ?_
          refine Go.s_icmpNo X26 hx (hb hby at_124) (q := 127) rfl (teq (by decide : (0 : Int32) = (0 : Int32))).2 ?_
          refine Go.s_iconst X26 hx (hb hby at_127) (q := 128) rfl (z := 1) rfl ?_
          refine Go.s_goto X26 hx (hb hby at_128) (q := 132) (by decide) (by decide) ?_
          refine Go.retN X26 hx hlk hret (by simp) (hb hby at_132) (by decide) (by decide) ?_
          try rw [e26]
          exact ⟨by decide, rfl⟩
        · -- (1 : Int32)
          subst w26
          show Go p e below _ T26 (mkF m 122 #[.val (.int x0), .val (.long x1), .second, .val (.long x2), .second, .val (.long x3), .second, .val (.int x4), .val (.int (0 : Int32)), .val (.ref a_SELL), .val (.long v16), .second, .val (.long v17), .second, .val (.long v18), .second, .val (.long v24), .second, .val (.int (0 : Int32))] [(.int (1 : Int32))])
          refine Go.s_iload X26 hx (hb hby at_122) (q := 124) rfl rfl ?_
          refine Go.s_icmpYes X26 hx (hb hby at_124) (q := 131) (by decide) (by decide) (feq (by decide : ¬ ((1 : Int32) = (0 : Int32)))).2 ?_
          refine Go.s_iconst X26 hx (hb hby at_131) (q := 132) rfl (z := 0) rfl ?_
          refine Go.retN X26 hx hlk hret (by simp) (hb hby at_132) (by decide) (by decide) ?_
          try rw [e26]
          exfalso
          have t0 := rng64 v18
          have t1 := rng64 v24
          have t2 := rng64 v17
          have t3 := c_lsub v17 v24
          have t4 := rng64 (v17 - v24)
          have t5 := rng64 v16
          have t6 := rng64 (x1 <<< ((24 : Int32) &&& 0x3f).toInt64)
          have t7 := c_lshr (x1 <<< ((24 : Int32) &&& 0x3f).toInt64) (24 : Int32) 24 (by decide)
          have t8 := rng64 (x2 <<< ((24 : Int32) &&& 0x3f).toInt64)
          have t9 := c_lshr (x2 <<< ((24 : Int32) &&& 0x3f).toInt64) (24 : Int32) 24 (by decide)
          have t10 := c_lsub v17 v16
          have t11 := rng64 (v17 - v16)
          have t12 := rng32 x4
          have t13 := c_mask x4 (3 : Int32) 2 (by decide) (by decide)
          have t14 := (by decide : ((1 : Int32)).toInt = 1)
          have t15 := c_isub (x4 &&& (3 : Int32)) (1 : Int32)
          have t16 := rng32 ((x4 &&& (3 : Int32)) - (1 : Int32))
          have t17 := c_i2l (((x4 &&& (3 : Int32)) - (1 : Int32)))
          have t18 := c_ladd v18 ((x4 &&& (3 : Int32)) - (1 : Int32)).toInt64
          have t19 := rng64 (v18 + ((x4 &&& (3 : Int32)) - (1 : Int32)).toInt64)
          have t20 := Int64.lt_iff_toInt_lt.mp c101_25
          have t21 := mt Int64.lt_iff_toInt_lt.mpr u26_1_0
          have t22 := congrArg Int64.toInt hv16
          have t23 := congrArg Int64.toInt hv17
          have t24 := congrArg Int64.toInt hv18
          have t25 := congrArg Int64.toInt hv24
          omega
      · -- pc 101: not v18 < v24
        refine Go.s_ifNo X15 hx (hb hby at_101) (q := 104) rfl ((if0 _ _).trans (flt (fun q => c101_25 ((lw_lt v18 v24).mp q))).1) ?_
        refine Go.s_iconst X15 hx (hb hby at_104) (q := 105) rfl (z := 1) rfl ?_
        refine Go.s_goto X15 hx (hb hby at_105) (q := 109) (by decide) (by decide) ?_
        refine Go.s_istore X15 hx (hb hby at_109) (q := 111) rfl (l' := #[.val (.int x0), .val (.long x1), .second, .val (.long x2), .second, .val (.long x3), .second, .val (.int x4), .val (.int (0 : Int32)), .val (.ref a_SELL), .val (.long v16), .second, .val (.long v17), .second, .val (.long v18), .second, .val (.long v24), .second, .val (.int (1 : Int32))]) rfl ?_
        refine Go.s_aload X15 hx (hb hby at_111) (q := 113) rfl rfl rfl ?_
        refine Go.s_lload X15 hx (hb hby at_113) (q := 115) rfl rfl ?_
        refine Go.s_lload X15 hx (hb hby at_115) (q := 117) rfl rfl ?_
        refine Go.s_lload X15 hx (hb hby at_117) (q := 119) rfl rfl ?_
        refine Go.callV (y := mn_1) (z := mn_1) X15 hx hZ hown (w_ hw 3 rfl) (w_ hw 4 rfl) (notFace_of_selects (args := #[]) (mvT hZ (w_ hw 6 rfl))) (w_ hw 6 rfl) (w_ hw 5 rfl) (w_ hw 7 rfl) (w_ hw 1 rfl) (by decide) e15 E_SELL (argsL := [(.long v16), (.long v17), (.long v24)]) (rest := []) (rm_bba_SELL l Z a0 hw v16 v17 v24 _ a_BUY a_SELL hctx') (by rw [hml]; rfl) (lenOf pd_0 rfl) rfl (hb hby at_119) (by decide) (by decide) (by decide) (Nat.le_of_ble_eq_true rfl) ?_
        intro r27 T27 L27 q27 X27
        obtain ⟨w27, rfl, p27, rfl, e27⟩ := q27
        rw [List.append_nil] at X27
        rcases p27 with ⟨u27_0_0, z27⟩ | ⟨u27_1_0, z27⟩
        · -- (0 : Int32)
          subst w27
          show Go p e below _ T27 (mkF m 122 #[.val (.int x0), .val (.long x1), .second, .val (.long x2), .second, .val (.long x3), .second, .val (.int x4), .val (.int (0 : Int32)), .val (.ref a_SELL), .val (.long v16), .second, .val (.long v17), .second, .val (.long v18), .second, .val (.long v24), .second, .val (.int (1 : Int32))] [(.int (0 : Int32))])
          refine Go.s_iload X27 hx (hb hby at_122) (q := 124) rfl rfl ?_
          refine Go.s_icmpYes X27 hx (hb hby at_124) (q := 131) (by decide) (by decide) (feq (by decide : ¬ ((0 : Int32) = (1 : Int32)))).2 ?_
          refine Go.s_iconst X27 hx (hb hby at_131) (q := 132) rfl (z := 0) rfl ?_
          refine Go.retN X27 hx hlk hret (by simp) (hb hby at_132) (by decide) (by decide) ?_
          try rw [e27]
          exfalso
          have t0 := rng64 v18
          have t1 := rng64 v24
          have t2 := rng64 v17
          have t3 := c_lsub v17 v24
          have t4 := rng64 (v17 - v24)
          have t5 := rng64 v16
          have t6 := rng64 (x1 <<< ((24 : Int32) &&& 0x3f).toInt64)
          have t7 := c_lshr (x1 <<< ((24 : Int32) &&& 0x3f).toInt64) (24 : Int32) 24 (by decide)
          have t8 := rng64 (x2 <<< ((24 : Int32) &&& 0x3f).toInt64)
          have t9 := c_lshr (x2 <<< ((24 : Int32) &&& 0x3f).toInt64) (24 : Int32) 24 (by decide)
          have t10 := c_lsub v17 v16
          have t11 := rng64 (v17 - v16)
          have t12 := rng32 x4
          have t13 := c_mask x4 (3 : Int32) 2 (by decide) (by decide)
          have t14 := (by decide : ((1 : Int32)).toInt = 1)
          have t15 := c_isub (x4 &&& (3 : Int32)) (1 : Int32)
          have t16 := rng32 ((x4 &&& (3 : Int32)) - (1 : Int32))
          have t17 := c_i2l (((x4 &&& (3 : Int32)) - (1 : Int32)))
          have t18 := c_ladd v18 ((x4 &&& (3 : Int32)) - (1 : Int32)).toInt64
          have t19 := rng64 (v18 + ((x4 &&& (3 : Int32)) - (1 : Int32)).toInt64)
          have t20 := mt Int64.lt_iff_toInt_lt.mpr c101_25
          have t21 := Int64.lt_iff_toInt_lt.mp u27_0_0
          have t22 := congrArg Int64.toInt hv16
          have t23 := congrArg Int64.toInt hv17
          have t24 := congrArg Int64.toInt hv18
          have t25 := congrArg Int64.toInt hv24
          omega
        · -- (1 : Int32)
          subst w27
          show Go p e below _ T27 (mkF m 122 #[.val (.int x0), .val (.long x1), .second, .val (.long x2), .second, .val (.long x3), .second, .val (.int x4), .val (.int (0 : Int32)), .val (.ref a_SELL), .val (.long v16), .second, .val (.long v17), .second, .val (.long v18), .second, .val (.long v24), .second, .val (.int (1 : Int32))] [(.int (1 : Int32))])
          refine Go.s_iload X27 hx (hb hby at_122) (q := 124) rfl rfl ?_
          refine Go.s_icmpNo X27 hx (hb hby at_124) (q := 127) rfl (teq (by decide : (1 : Int32) = (1 : Int32))).2 ?_
          refine Go.s_iconst X27 hx (hb hby at_127) (q := 128) rfl (z := 1) rfl ?_
          refine Go.s_goto X27 hx (hb hby at_128) (q := 132) (by decide) (by decide) ?_
          refine Go.retN X27 hx hlk hret (by simp) (hb hby at_132) (by decide) (by decide) ?_
          try rw [e27]
          exact ⟨by decide, rfl⟩
set_option maxRecDepth 65536 in
set_option maxHeartbeats 40000000 in
theorem comes_1 {Post : Tables → Env → Array Value → State → Outcome → State → Prop} (hpost : ∀ tb e args s v u, (limb_1_1.after args s (.returned v) u = true ∧ limb_1_2.after args s (.returned v) u = true ∧ True) → FrameEnd s (.returned v) u (Jvm.fieldLocs frame_1_writes args s ++ Jvm.arrayLocs frame_1_arrays args s ++ Jvm.staticLocs frame_1_statics s) 0 0 → Post tb e args s (.returned v) u) :
    ArmFor flags0 classFile x code maxLocals ret World_1 tables_1 room_1 Calls_1 rest_1 Pre_1 Post := by
  intro l hfl _ _ p e ha hc hk s m args below hf hA hF happ hP
  obtain ⟨hcalls, hrest, hpre⟩ := hP
  obtain ⟨-, -, -, hnamed, -, -, -, hat⟩ := (Spec.applies_iff hf).mp happ
  obtain ⟨hg, hn⟩ := and_e (Cond.before_iff.mp (show (Jvm.Cond.and given_1 narrow_1).before args s = true from hpre))
  obtain ⟨hgl, hgr⟩ := and_e hg
  obtain ⟨hgrl, hgrr⟩ := and_e hgr
  obtain ⟨hgrrl, hgrrr⟩ := and_e hgrr
  obtain ⟨hgrrrl, hgrrrr⟩ := and_e hgrrr
  obtain ⟨hgrrrrl, hgrrrrr⟩ := and_e hgrrrr
  obtain ⟨w0, w1, w2, w3, w4, rfl⟩ : ∃ w0 w1 w2 w3 w4 : Value, args = #[w0, w1, w2, w3, w4] := by
    have hs : args.size = 5 := by simpa [Cond.value, given_1] using hgl
    obtain ⟨L⟩ := args
    match L, hs with
    | [w0, w1, w2, w3, w4], _ => exact ⟨w0, w1, w2, w3, w4, rfl⟩
  have hw := fun d (hd : d ∈ tables_1) => atoms_spec (ws := Jvm.Cond.code x code maxLocals ret :: tables_1) hat d (List.mem_cons_of_mem _ hd)
  obtain ⟨i0, ev0⟩ := is_v hgrl
  obtain rfl : w0 = (.int i0) := Option.some.inj ev0
  obtain ⟨i1, ev1⟩ := isL_v hgrrl
  obtain rfl : w1 = (.long i1) := Option.some.inj ev1
  obtain ⟨i2, ev2⟩ := isL_v hgrrrl
  obtain rfl : w2 = (.long i2) := Option.some.inj ev2
  obtain ⟨i3, ev3⟩ := isL_v hgrrrrl
  obtain rfl : w3 = (.long i3) := Option.some.inj ev3
  obtain ⟨i4, ev4⟩ := is_v hgrrrrr
  obtain rfl : w4 = (.int i4) := Option.some.inj ev4
  obtain ⟨hnl, hnr⟩ := and_e hn
  obtain ⟨hnrl, hnrr⟩ := and_e hnr
  obtain ⟨hnrrl, hnrrr⟩ := and_e hnrr
  obtain ⟨a_BUY, ea_BUY⟩ := exa_v hnl
  have S_BUY := Sta.start ea_BUY (Or.inr ⟨(w_ hw 1 rfl), (w_ hw 2 rfl)⟩)
  have E_BUY := Exa.start ea_BUY hnl
  obtain ⟨a_SELL, ea_SELL⟩ := exa_v hnrl
  have S_SELL := Sta.start ea_SELL (Or.inr ⟨(w_ hw 1 rfl), (w_ hw 10 rfl)⟩)
  have E_SELL := Exa.start ea_SELL hnrl
  have F_SELL_ordinal := fldI ea_SELL hnrrl
  have F_BUY_ordinal := fldI ea_BUY hnrrr
  have ne_BUY_SELL : ¬ a_BUY = a_SELL := Fld.ne F_BUY_ordinal F_SELL_ordinal (fun q => absurd (Value.int.inj q) (by decide))
  have hctx : Ctx s s.heap a_BUY a_SELL := ⟨S_BUY, S_SELL, E_BUY, E_SELL, F_SELL_ordinal, F_BUY_ordinal, ne_BUY_SELL⟩
  obtain ⟨n, o, h1, h2, h3, _, L, rfl, ⟨rfl, rfl⟩, hq⟩ := rm_law l s _ hw i0 i1 i2 i3 i4 s.heap a_BUY a_SELL hctx tables_1 p e ha hc hk s m _ below hf ((Spec.applies_iff_loose hf).mp happ).1 ⟨rfl, State.Warmed39.refl s, rfl⟩ trivial
  refine ⟨n, _, h1, h2, h3, hpost _ _ _ _ _ _ ⟨Cond.after_iff.mpr rfl, Cond.after_iff.mpr (eq_i res_at (Term.int_eval (1)) rfl), trivial⟩ ⟨hq.1, hq.2.1, (hq.2.2.sift fun y hy => nomatch hy).mono (by decide) (by decide)⟩⟩
theorem main_1_1 : Claimed_1_1 := comes_1 fun _ _ _ _ _ _ h hF => ⟨h.1, hF⟩
theorem main_1_2 : Claimed_1_2 := comes_1 fun _ _ _ _ _ _ h hF => ⟨h.2.1, hF⟩
end Jvm.Pilot.@@N@@
namespace Jvm.Pilot.@@N@@
open Jvm Jvm.ClassFile Sem Op Lib Jvm.Free Jvm.Stand Jvm.Pilot.@@N@@.Jvm.D
/-! MADE BY PROGRAM (witnessworld.py) out of the Statement's table words and the real class files: 12 classes; the members and pool entries that the words name. The judged class is class 1, her method 1. -/
namespace start1
open Jvm.ClassFile
def u (s : String) : CpInfo := .utf8 (stringToUtf16 s)
/-- a pool by its gaps: so many unusable entries, then the entry; so many at the end -/
def gap : Nat → List CpInfo → List CpInfo
  | 0, r => r
  | n + 1, r => .unusable :: gap n r
def poolList (es : List (Nat × CpInfo)) (last : Nat) : List CpInfo := es.foldr (fun e r => gap e.1 (e.2 :: r)) (gap last [])
def pool (es : List (Nat × CpInfo)) (last : Nat) : Array CpInfo := ⟨poolList es last⟩
def fileOf (pool : Array CpInfo) (this : Nat) (attrs : Array Attribute := #[]) (ms : Array MethodInfo := #[]) (fl : Nat := 33) (sup : Nat := 0) (ifs : Array Nat := #[]) (fds : Array FieldInfo := #[]) : ClassFile where
  minorVersion := 0
  majorVersion := 65
  constantPool := pool
  accessFlags := fl
  thisClass := this
  superClass := sup
  interfaces := ifs
  fields := fds
  methods := ms
  attributes := attrs
def plain (name : String) (sup : Option ClassId) : Class where
  name := name
  kind := .ordinary
  loader := none
  accessFlags := 33
  super := sup
  interfaces := #[]
  cf := none
  fields := #[]
  methods := #[]
  instanceTypes := #[]
  staticTypes := #[]
  resolved := #[]
  callSites := []
  init := .initialized
  statics := none
  mirror := none

def pool0 : Array CpInfo := pool [(5, u "<init>"), (0, u "()V"), (1, .class_ 10), (1, u "java/lang/Object")] 113

def k0m0 : Method := { name := "<init>", desc := "()V", sig := { parameters := [], returnType := none }, accessFlags := 1, code := none }
/-- java/lang/Object -/
def k0 : Class := { plain "java/lang/Object" none with
  accessFlags := 33
  interfaces := #[]
  cf := some (fileOf pool0 8 #[] #[{ accessFlags := 1, nameIndex := 5, descriptorIndex := 6, attributes := #[] }] 33 0 #[] #[])
  fields := #[]
  methods := #[k0m0]
  instanceTypes := #[]
  staticTypes := #[]
  resolved := Array.replicate 124 none
  statics := none }

def pool1 : Array CpInfo := pool [(2, .class_ 4), (1, u "java/lang/Object"), (0, u "<init>"), (0, u "()V"), (0, .fieldref 8 9), (0, .class_ 10), (0, .nameAndType 11 12), (0, u "com/example/pennybreak/pennybreak/simplebook/Side"), (0, u "BUY"), (0, u "Lcom/example/pennybreak/pennybreak/simplebook/Side;"), (0, .fieldref 8 14), (0, .nameAndType 15 12), (0, u "SELL"), (0, .methodref 8 17), (0, .nameAndType 18 19), (0, u "isBetterBy"), (0, u "(JJJ)Z"), (0, .class_ 21), (0, u "com/example/pennybreak/pennybreak/simplebook/SideIsBetterByPinLaw"), (2, u "law"), (0, u "(IJJJI)Z")] 3

def k1m0 : Method := { name := "<init>", desc := "()V", sig := { parameters := [], returnType := none }, accessFlags := 1, code := none }
def k1c1 : Code := { maxStack := 7, maxLocals := 19, code := code, exceptionTable := #[], attributes := #[] }
def k1m1 : Method := { name := "law", desc := "(IJJJI)Z", sig := { parameters := [.int, .long, .long, .long, .int], returnType := some .boolean }, accessFlags := 9, code := some k1c1 }
/-- com/example/pennybreak/pennybreak/simplebook/SideIsBetterByPinLaw -/
def k1 : Class := { plain "com/example/pennybreak/pennybreak/simplebook/SideIsBetterByPinLaw" (some 0) with
  accessFlags := 49
  interfaces := #[]
  cf := some (fileOf pool1 20 #[] #[{ accessFlags := 1, nameIndex := 5, descriptorIndex := 6, attributes := #[] }, { accessFlags := 9, nameIndex := 24, descriptorIndex := 25, attributes := #[] }] 49 2 #[] #[])
  fields := #[]
  methods := #[k1m0, k1m1]
  instanceTypes := #[]
  staticTypes := #[]
  resolved := Array.replicate 29 none
  statics := none }

def pool2 : Array CpInfo := pool [(1, .class_ 2), (0, u "java/lang/constant/Constable"), (0, .class_ 4), (0, u "java/lang/Object")] 6

/-- java/lang/constant/Constable -/
def k2 : Class := { plain "java/lang/constant/Constable" (some 0) with
  accessFlags := 1537
  interfaces := #[]
  cf := some (fileOf pool2 1 #[] #[] 1537 3 #[] #[])
  fields := #[]
  methods := #[]
  instanceTypes := #[]
  staticTypes := #[]
  resolved := Array.replicate 11 none
  statics := none }

def pool3 : Array CpInfo := pool [(1, .class_ 2), (0, u "java/lang/Comparable"), (0, .class_ 4), (0, u "java/lang/Object")] 7

/-- java/lang/Comparable -/
def k3 : Class := { plain "java/lang/Comparable" (some 0) with
  accessFlags := 1537
  interfaces := #[]
  cf := some (fileOf pool3 1 #[] #[] 1537 3 #[] #[])
  fields := #[]
  methods := #[]
  instanceTypes := #[]
  staticTypes := #[]
  resolved := Array.replicate 12 none
  statics := none }

def pool4 : Array CpInfo := pool [(1, .class_ 2), (0, u "java/io/Serializable"), (0, .class_ 4), (0, u "java/lang/Object")] 2

/-- java/io/Serializable -/
def k4 : Class := { plain "java/io/Serializable" (some 0) with
  accessFlags := 1537
  interfaces := #[]
  cf := some (fileOf pool4 1 #[] #[] 1537 3 #[] #[])
  fields := #[]
  methods := #[]
  instanceTypes := #[]
  staticTypes := #[]
  resolved := Array.replicate 7 none
  statics := none }

def pool5 : Array CpInfo := pool [(2, .class_ 4), (1, u "java/lang/Enum"), (0, u "name"), (0, u "Ljava/lang/String;"), (2, u "ordinal"), (0, u "I"), (1, .class_ 14), (1, u "java/lang/Object"), (4, u "hash"), (86, .class_ 108), (1, u "java/lang/Enum$EnumDesc"), (2, .class_ 112), (0, u "java/lang/constant/Constable"), (0, .class_ 114), (0, u "java/lang/Comparable"), (0, .class_ 116), (0, u "java/io/Serializable")] 87

/-- java/lang/Enum -/
def k5 : Class := { plain "java/lang/Enum" (some 0) with
  accessFlags := 1057
  interfaces := #[2, 3, 4]
  cf := some (fileOf pool5 2 #[.nestMembers #[106]] #[] 1057 12 #[111, 113, 115] #[{ accessFlags := 18, nameIndex := 5, descriptorIndex := 6, attributes := #[] }, { accessFlags := 18, nameIndex := 9, descriptorIndex := 10, attributes := #[] }, { accessFlags := 2, nameIndex := 19, descriptorIndex := 10, attributes := #[] }])
  fields := #[{ name := "name", type := (.object "java/lang/String"), accessFlags := 18, slot := 0, constantValue := 0 }, { name := "ordinal", type := .int, accessFlags := 18, slot := 1, constantValue := 0 }, { name := "hash", type := .int, accessFlags := 2, slot := 2, constantValue := 0 }]
  methods := #[]
  instanceTypes := #[(.object "java/lang/String"), .int, .int]
  staticTypes := #[]
  resolved := Array.replicate 204 none
  statics := none }

def pool6 : Array CpInfo := pool [(1, .class_ 2), (0, u "com/example/pennybreak/pennybreak/simplebook/Side"), (0, .fieldref 1 4), (0, .nameAndType 5 6), (0, u "BUY"), (0, u "Lcom/example/pennybreak/pennybreak/simplebook/Side;"), (2, u "SELL"), (2, u "$VALUES"), (0, u "[Lcom/example/pennybreak/pennybreak/simplebook/Side;"), (6, .class_ 22), (1, u "java/lang/Enum"), (53, u "isBetterBy"), (0, u "(JJJ)Z")] 31

def k6c0 : Code := { maxStack := 6, maxLocals := 7, code := prog_105_method_6_code, exceptionTable := #[], attributes := #[] }
def k6m0 : Method := { name := "isBetterBy", desc := "(JJJ)Z", sig := { parameters := [.long, .long, .long], returnType := some .boolean }, accessFlags := 1, code := some k6c0 }
/-- com/example/pennybreak/pennybreak/simplebook/Side -/
def k6 : Class := { plain "com/example/pennybreak/pennybreak/simplebook/Side" (some 5) with
  accessFlags := 16433
  interfaces := #[]
  cf := some (fileOf pool6 1 #[] #[{ accessFlags := 1, nameIndex := 76, descriptorIndex := 77, attributes := #[] }] 16433 20 #[] #[{ accessFlags := 16409, nameIndex := 5, descriptorIndex := 6, attributes := #[] }, { accessFlags := 16409, nameIndex := 9, descriptorIndex := 6, attributes := #[] }, { accessFlags := 4122, nameIndex := 12, descriptorIndex := 13, attributes := #[] }])
  fields := #[{ name := "BUY", type := (.object "com/example/pennybreak/pennybreak/simplebook/Side"), accessFlags := 16409, slot := 0, constantValue := 0 }, { name := "SELL", type := (.object "com/example/pennybreak/pennybreak/simplebook/Side"), accessFlags := 16409, slot := 1, constantValue := 0 }, { name := "$VALUES", type := (.array (.object "com/example/pennybreak/pennybreak/simplebook/Side")), accessFlags := 4122, slot := 2, constantValue := 0 }]
  methods := #[k6m0]
  instanceTypes := #[(.object "java/lang/String"), .int, .int]
  staticTypes := #[(.object "com/example/pennybreak/pennybreak/simplebook/Side"), (.object "com/example/pennybreak/pennybreak/simplebook/Side"), (.array (.object "com/example/pennybreak/pennybreak/simplebook/Side"))]
  resolved := Array.replicate 109 none
  statics := some 0 }

def pool7 : Array CpInfo := pool [(1, u "java/lang/Cloneable"), (0, .class_ 1), (0, u "java/lang/Object"), (0, .class_ 3)] 3

/-- java/lang/Cloneable -/
def k7 : Class := { plain "java/lang/Cloneable" (some 0) with
  accessFlags := 1537
  interfaces := #[]
  cf := some (fileOf pool7 2 #[] #[] 1537 4 #[] #[])
  fields := #[]
  methods := #[]
  instanceTypes := #[]
  staticTypes := #[]
  resolved := Array.replicate 8 none
  statics := none }

/-- the primitive byte -/
def k8 : Class := { plain "byte" none with kind := .primitive 'B', accessFlags := 0x411 }
/-- [B -/
def k9 : Class := { plain "[B" (some 0) with kind := .array 8 .byte, interfaces := #[7, 4], accessFlags := 1041 }

/-- the primitive int -/
def k10 : Class := { plain "int" none with kind := .primitive 'I', accessFlags := 0x411 }
/-- [I -/
def k11 : Class := { plain "[I" (some 0) with kind := .array 10 .int, interfaces := #[7, 4], accessFlags := 1041 }

def heap : Heap := #[{ cls := 6, slots := #[.ref 1, .ref 2, .null], vm := .statics 6 },
  { cls := 6, slots := #[.null, .int 0, .int 0], vm := .none },
  { cls := 6, slots := #[.null, .int 1, .int 0], vm := .none }]
def classes : Array Class := #[k0, k1, k2, k3, k4, k5, k6, k7, k8, k9, k10, k11]
def interned : List (Array UInt16 × Addr) := []
def slotsUsed : Nat := 9
def theMethod : MethodId := ⟨1, 1⟩
def args0 : Array Value := #[.int 1, .long 5, .long 6, .long 7, .int 1]
def aboutOver (below : List Frame) : State where
  vm := { classes := classes, interned := interned.toArray }
  heap := heap
  slotsUsed := slotsUsed
  threads := #[{ frames := .invoking theMethod args0 :: below }]
def below0 : List Frame := [.native { method := ⟨0, 0⟩, args := #[] }]
def about1 : State := aboutOver below0
def p0 : Program := .bare "" "" ""
def e0 : Env := launch0.env 0 0 0
theorem w_frames : about1.frames = Frame.invoking theMethod args0 :: below0 := rfl
set_option maxRecDepth 65536 in
theorem w_args : argsFit about1.vm theMethod args0 = true := by decide +kernel
set_option maxRecDepth 65536 in
theorem w_heap : heapFits about1 = true := by decide +kernel
set_option maxRecDepth 65536 in
theorem w_runnable : about1.curStatus? = some .runnable := by decide +kernel
set_option maxRecDepth 65536 in
theorem w_alone : about1.alone = true := by decide +kernel
set_option maxRecDepth 65536 in
theorem w_named : about1.methodNamed? x = some theMethod := by decide +kernel
set_option maxRecDepth 65536 in
theorem w_hears : about1.hears theMethod below0 = true := by decide +kernel
set_option maxRecDepth 65536 in
theorem w_ripe : about1.ripe theMethod args0 below0 = true := by decide +kernel
theorem w_running : about1.status = .running := rfl
set_option maxRecDepth 65536 in
theorem w_room : about1.hasRoom e0.platform room_1 = true :=
  launch0.hasRoom_least _ room_1 (by decide +kernel) (by decide +kernel) (by decide +kernel) (by decide +kernel) (by decide +kernel) (by decide +kernel)
theorem allAtoms_all (ts : List Jvm.Cond) (a : Array Jvm.Value) (st : Jvm.State) : (allAtoms ts).before a st = ts.all (fun c => c.before a st) := by
  induction ts with
  | nil => rfl
  | cons c t ih =>
    show (Jvm.Cond.and c (allAtoms t)).before a st = _
    rw [Jvm.Cond.before_and, ih, List.all_cons]
def words1 : List Jvm.Cond := Jvm.Cond.code x code maxLocals ret :: tables_1
/-- a 'code' word, met by the world's own term for the bytes: nothing is compared byte by byte -/
theorem code_word {y : MethodName} {bytes : ByteArray} {mx : Nat} {rt : Option FieldType} {a : Array Value} {s : State} {m : MethodId} {meth : Method} {c : Code} (h1 : s.methodNamed? y = some m) (h2 : s.vm.method? m = some meth) (h3 : meth.code = some c) (h4 : c.code = bytes)
    (h5 : (c.maxLocals == mx && c.exceptionTable.isEmpty && decide (c.maxStack ≤ mostOperands) && decide (meth.sig.returnType = rt) && !meth.locks && decide (parseMethodDescriptor y.desc = some meth.sig)) = true) : (Jvm.Cond.code y bytes mx rt).before a s = true := by
  simp only [Bool.and_eq_true, beq_iff_eq, Bool.not_eq_true', decide_eq_true_eq] at h5
  obtain ⟨⟨⟨⟨⟨g1, g2⟩, g3⟩, g4⟩, g5⟩, g6⟩ := h5
  simp [Cond.before, Cond.holds, Cond.value, h1, h2, h3, h4, g1, g2, g3, g4, g5, g6]
def isCode : Jvm.Cond → Bool
  | .code _ _ _ _ => true
  | _ => false
theorem all_split {L : List Jvm.Cond} {P : Jvm.Cond → Bool} (h1 : L.all (fun c => isCode c || P c) = true) (h2 : ∀ c ∈ L.filter isCode, P c = true) : L.all P = true := by
  refine List.all_eq_true.mpr fun c hc => ?_
  have h := List.all_eq_true.mp h1 c hc
  rcases Bool.eq_false_or_eq_true (isCode c) with hi | hi
  · exact h2 c (List.mem_filter.mpr ⟨hc, hi⟩)
  · simpa [hi] using h
set_option maxRecDepth 65536 in
theorem w_c0 : (Jvm.Cond.code x code maxLocals ret).before args0 about1 = true := code_word (m := ⟨1, 1⟩) (meth := k1m1) (c := k1c1) (by decide +kernel) rfl rfl rfl (by decide +kernel)
set_option maxRecDepth 65536 in
theorem w_c1 : (Jvm.Cond.code ({ cls := "com/example/pennybreak/pennybreak/simplebook/Side", name := "isBetterBy", desc := "(JJJ)Z" } : Jvm.MethodName) prog_105_method_6_code (7 : Nat) (Option.some Jvm.ClassFile.FieldType.boolean)).before args0 about1 = true := code_word (m := ⟨6, 0⟩) (meth := k6m0) (c := k6c0) (by decide +kernel) rfl rfl rfl (by decide +kernel)
def codes1 : List Jvm.Cond := [Jvm.Cond.code x code maxLocals ret, Jvm.Cond.code ({ cls := "com/example/pennybreak/pennybreak/simplebook/Side", name := "isBetterBy", desc := "(JJJ)Z" } : Jvm.MethodName) prog_105_method_6_code (7 : Nat) (Option.some Jvm.ClassFile.FieldType.boolean)]
set_option maxRecDepth 65536 in
theorem codes_eq : words1.filter isCode = codes1 := rfl
theorem w_codes : ∀ c ∈ words1.filter isCode, c.before args0 about1 = true := by
  rw [codes_eq]
  intro c hc
  simp only [codes1, List.mem_cons, List.not_mem_nil, or_false] at hc
  rcases hc with rfl | rfl
  · exact w_c0
  · exact w_c1
set_option maxRecDepth 65536 in
theorem w_t1 : words1.all (fun c => isCode c || c.before args0 about1) = true := by decide +kernel
theorem w_tables : (allAtoms (Jvm.Cond.code x code maxLocals ret :: tables_1)).before args0 about1 = true := by
  rw [allAtoms_all]
  show words1.all (fun c => c.before args0 about1) = true
  refine all_split ?_ w_codes
  rw [w_t1]
set_option maxRecDepth 65536 in
theorem w_case : (Jvm.Cond.and given_1 narrow_1).before args0 about1 = true := by decide +kernel
theorem w_applies : (headSpec (Jvm.Cond.code x code maxLocals ret :: tables_1) room_1).applies x e0.platform about1 = true :=
  (Spec.applies_iff w_frames).mpr ⟨w_running, w_runnable, w_alone, w_named, w_hears, w_ripe, w_room, w_tables⟩
theorem atStart : AtStart classFile x code maxLocals ret World_1 tables_1 room_1 Calls_1 rest_1 Pre_1 launch0 p0 e0 about1 theMethod args0 below0 :=
  ⟨lists_1, trivial, launch0.admits_env _ _ _, launch0.least_env, fairChoices_fair.cas, fairChoices_fair.clock, w_frames, w_args, w_heap, w_applies, trivial, trivial, w_case⟩
end start1
theorem witness_1 : WitnessClaimed_1 := ⟨start1.p0, start1.e0, start1.about1, start1.theMethod, start1.args0, start1.below0, start1.atStart⟩
end Jvm.Pilot.@@N@@
