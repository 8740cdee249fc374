import JvmDerived
import JvmDerived.Pilot.@@N@@Statement
import JvmDerived.Pilot.@@N@@Code
set_option linter.unusedVariables false
set_option linter.unusedSimpArgs false
namespace Jvm.Pilot.@@N@@
open Jvm Jvm.ClassFile Sem Op Lib Jvm.Free Jvm.Stand Jvm.LawKit Jvm.RoadKit Bundle Jvm.Pilot.@@N@@.Jvm.D
section OwnKit
variable {p : Program} {l : Launch} {e : Env} {R : Room} {s : State} {m : MethodId} {args : Array Value} {below : List Frame} {meth : Method} {c : Code} {T : State} {locs : List Loc} {cells slots : Nat} {Z : State} {a0 : Array Value} {h : Heap} {Q : Option Value → Heap → List Loc → Prop} {C S : Nat} {F : State → Outcome → Prop}
/-- what is left of a walk: from T with the top frame g the invocation comes to its end, and F holds there -/
def Go (p : Program) (e : Env) (below : List Frame) (F : State → Outcome → Prop) (T : State) (g : JFrame) : Prop :=
  ∃ t o, Steps p.tables e below (T.setTop g) t ∧ t.status = .running ∧ Ended t below o ∧ F t o
/-- it returned, Q holds, and no more has changed than the frame says -/
def FN (s : State) (Q : Option Value → Heap → List Loc → Prop) (C S : Nat) (t : State) (o : Outcome) : Prop := ∃ v L, o = .returned v ∧ Q v t.heap L ∧ FrameEnd s o t L C S
theorem Go.of {T' : State} {g g' : JFrame} (h : ∀ t, Steps p.tables e below (T'.setTop g') t → Steps p.tables e below (T.setTop g) t) (k : Go p e below F T' g') : Go p e below F T g := by
  obtain ⟨t, o, h1, h2⟩ := k
  exact ⟨t, o, h _ h1, h2⟩
theorem Go.cast {g g' : JFrame} (q : g = g') (k : Go p e below F T g') : Go p e below F T g := q ▸ k
theorem Go.ret (X : Stand p l e R s m args below meth c T locs cells slots) {v : Option Value} {g : JFrame} (hlk : meth.locks = false) (hv : meth.sig.returnType = none → v = none)
    (st : ∀ fs, (∀ (f : JFrame) (acts : List Action), f.method = m → f.locked = none → f.entered = [] → (doReturn e (T.setTop f) acts v).1 = T.setFrames fs) → Steps p.tables e below (T.setTop g) (T.setFrames fs))
    (hc : cells ≤ C) (hs : slots ≤ S) (hQ : Q v T.heap locs) : Go p e below (FN s Q C S) T g := by
  obtain ⟨fs, hr, hrun, hended, hW, hsame⟩ := X.leave (v := v) hv hlk
  exact ⟨_, _, st fs hr, hrun, hended, _, _, rfl, hQ, ⟨_, rfl⟩, hW, hsame.mono hc hs⟩
theorem Go.retN (X : Stand p l e R s m args below meth c T locs cells slots) (hx : p.tables.exec = Jvm.exec) (hlk : meth.locks = false) {pc : Nat} {Ls : Array Slot} {z : Int32} {rest : List Value} {t : FieldType} (hret : meth.sig.returnType = some t) (ht : t = .boolean ∨ t = .byte ∨ t = .char ∨ t = .short) (hd : decode c.code pc = .ok (.ireturn, 1))
    (hc : cells ≤ C) (hs : slots ≤ S) (hQ : Q (some (.int (nar t z))) T.heap locs) : Go p e below (FN s Q C S) T (mkF m pc Ls (.int z :: rest)) :=
  Go.ret X hlk (fun h => by rw [hret] at h; cases h) (fun _ hr => Jvm.RoadKit.retN X hx hret ht hd hr) hc hs hQ
/-- a body's contract at given arguments and a given heap -/
def Ct (l : Launch) (y : MethodName) (bytes : ByteArray) (maxL : Nat) (ret : Option FieldType) (rm : Room) (Z : State) (h0 : Heap) (as' : Array Value) (Q : Option Value → Heap → List Loc → Prop) : Prop :=
  ∀ ws, MetFree l y (head1 (Jvm.Cond.code y bytes maxL ret :: ws) rm) (fun a U => a = as' ∧ Z.Warmed39 U.vm ∧ U.heap = h0) (fun _ _ _ _ _ => True) (fun _ U o U' => ∃ v L, o = .returned v ∧ Q v U'.heap L ∧ FrameEnd U o U' L rm.cells rm.slots)
theorem Ct.body {y : MethodName} {bytes : ByteArray} {maxL : Nat} {ret : Option FieldType} {rm : Room} {as' : Array Value} (hpl : plainFor y = true)
    (k : ∀ (p : Program) (e : Env) (s : State) (m : MethodId) (below : List Frame) (meth : Method) (c : Code) (T : State), p.tables.exec = Jvm.exec → c.code = bytes → c.maxLocals = maxL → s.vm.findClass y.cls = some m.cls → meth.name = y.name → meth.sig.returnType = ret → meth.locks = false → Z.Warmed39 s.vm →
      Stand p l e rm s m as' below meth c T [] 0 0 → T.heap = h → Go p e below (FN s Q rm.cells rm.slots) T (entryFrame m as' maxL)) : Ct l y bytes maxL ret rm Z h as' Q := fun ws => by
  refine MetFree.of_bodySF hpl hisR ?_
  intro p e s m args below meth c s₁ Bd hml0 hP hK
  obtain ⟨rfl, hZ, hh⟩ := hP
  exact k p e s m below meth c s₁ Bd.exec Bd.bytes hml0 (findClass_of_methodNamed Bd.named) (name_of_methodNamed Bd.named Bd.method).1 Bd.returns Bd.notSynchronized hZ (Stand.of_body Bd) (by rw [← hh, Bd.state]; rfl)
theorem Go.callV (X : Stand p l e R s m args below meth c T locs cells slots) (hx : p.tables.exec = Jvm.exec) (hZ : Z.Warmed39 s.vm) {own K : String} {index : Nat} {y z : MethodName} {bytes : ByteArray} {maxL : Nat} {ret : Option FieldType} (hown : s.vm.findClass own = some m.cls)
    (wl : (Jvm.Cond.methodLink own index y).before a0 Z = true) (wd : (Jvm.Cond.declares y).before a0 Z = true) (nf : NotFace s y) (wsel : (Jvm.Cond.selects K y z).before a0 Z = true) (wim : (Jvm.Cond.instanceMethod z).before a0 Z = true) (wc : (Jvm.Cond.code z bytes maxL ret).before a0 Z = true) (wz : (Jvm.Cond.initialized z.cls).before a0 Z = true) (hy : y.cls ≠ "java/lang/invoke/MethodHandle" ∧ y.cls ≠ "java/lang/invoke/VarHandle")
    (eT : T.heap = h) {b : Addr} (E : Exa Z h b K) {rm : Room} {argsL rest : List Value} {Q' : Option Value → Heap → List Loc → Prop} (hC : Ct l z bytes maxL ret rm Z h (.ref b :: argsL).toArray Q') {pc : Nat} {Ls : Array Slot} {st : List Value} (hsz : Ls.size = c.maxLocals)
    (hlen : ∀ sig, parseMethodDescriptor y.desc = some sig → argsL.length = sig.parameters.length) (hst : st = argsL.reverse ++ .ref b :: rest) (hd : decode c.code pc = .ok (.invokevirtual index, 3)) (hf : rm.frames + 1 ≤ R.frames) (hl : (rest.map fun v => v.category).sum + (maxL + 11) + rm.locals ≤ R.locals) (hc : cells + rm.cells ≤ R.cells) (hs : slots + rm.slots ≤ R.slots)
    (k : ∀ v T' L, Q' v T'.heap L → Stand p l e R s m args below meth c T' (locs ++ L) (cells + rm.cells) (slots + rm.slots) → Go p e below F T' (mkF m (pc + 3) Ls (v.toList ++ rest))) :
    Go p e below F T (mkF m pc Ls st) := by
  obtain ⟨cq, kq, qa, qb, qc⟩ := isOf hZ eT E
  obtain ⟨v, _, ⟨T', L', k', n'⟩, -, X', ⟨L, hQ, l1, y1, z1⟩, stp⟩ := X.virtualBack hx (y := y) (z := z) hown (mvT hZ wl) (mvT hZ wd) nf (mvT hZ wsel) (mvT hZ wim) hy (backOf (W := (rest.map fun v => v.category).sum) (hC []) hZ wc wz hf hl) qa qc (g := mkF m pc Ls st) rfl hsz (Steps.refl _) (argsL := argsL) (rest := rest) hlen hst (by show 2 * 0 + _ ≤ _; exact Nat.le_of_eq (Nat.zero_add _)) hd (fun _ _ => ⟨rfl, eT, hc, hs⟩)
  dsimp only [Pt.U, Pt.locs, Pt.cells, Pt.slots] at X' l1 y1 z1 stp hQ
  subst l1 y1 z1
  exact Go.of (fun t q => stp.trans q) (k _ _ _ hQ X')
theorem Go.getF (X : Stand p l e R s m args below meth c T locs cells slots) (hx : p.tables.exec = Jvm.exec) (hZ : Z.Warmed39 s.vm) {own R0 O n d : String} {index : Nat} (hown : s.vm.findClass own = some m.cls) (w : (Jvm.Cond.fieldLink own index R0 n d).before a0 Z = true) (via : Via Z R0 O n d)
    (eT : T.heap = h) {a : Addr} {v : Value} (fF : Fld Z h a O n d v) {pc : Nat} {Ls : Array Slot} {rest : List Value} (hd : decode c.code pc = .ok (.getfield index, 3))
    (k : ∀ T', Stand p l e R s m args below meth c T' locs cells slots → T'.heap = h → Go p e below F T' (mkF m (pc + 3) Ls (v :: rest))) : Go p e below F T (mkF m pc Ls (.ref a :: rest)) := by
  obtain ⟨T', X', e', st⟩ := Jvm.RoadKit.getF X hx hZ hown (host := "") (Or.inl w) via eT fF (g := mkF m pc Ls (.ref a :: rest)) rfl rfl hd
  exact Go.of st (k _ X' e')
theorem Go.getS (X : Stand p l e R s m args below meth c T locs cells slots) (hx : p.tables.exec = Jvm.exec) (hZ : Z.Warmed39 s.vm) {own R0 O n d : String} {index : Nat} (hown : s.vm.findClass own = some m.cls) (w : (Jvm.Cond.fieldLink own index R0 n d).before a0 Z = true) (via : Via Z R0 O n d)
    (eT : T.heap = h) {v : Value} (fF : Sta Z h O n d v) {pc : Nat} {Ls : Array Slot} {rest : List Value} (hd : decode c.code pc = .ok (.getstatic index, 3))
    (k : ∀ T', Stand p l e R s m args below meth c T' locs cells slots → T'.heap = h → Go p e below F T' (mkF m (pc + 3) Ls (v :: rest))) : Go p e below F T (mkF m pc Ls rest) := by
  obtain ⟨T', X', e', st⟩ := getS2 X hx hZ hown (host := "") (Or.inl w) via eT fF (g := mkF m pc Ls rest) rfl hd
  exact Go.of st (k _ X' e')
theorem fldJ {C0 n d : String} {t : Term} {a : Addr} {k : Int64} (ea : t.eval args s none [] s = some (.ref a)) (hq : (Jvm.Cond.eq (.field t C0 n d) (.long k)).value args s none s [] = some true) : Fld s s.heap a C0 n d (.long k) := Fld.start ((fld_at ea).symm.trans (eqv_l (by simp [Term.eval]) hq))
end OwnKit
section OwnSteps
variable {p : Program} {l : Launch} {e : Env} {R : Room} {s : State} {m : MethodId} {args : Array Value} {below : List Frame} {meth : Method} {c : Code} {T : State} {locs : List Loc} {cells slots : Nat} {Z : State} {a0 : Array Value} {h : Heap} {F : State → Outcome → Prop}
theorem w_ {Z : State} {a0 : Array Value} {ts : List Jvm.Cond} (hw : ∀ d ∈ ts, d.before a0 Z = true) {d : Jvm.Cond} (i : Nat) (h : ts[i]? = some d) : d.before a0 Z = true := hw _ (List.mem_of_getElem? h)
theorem Go.s_iloadN (X : Stand p l e R s m args below meth c T locs cells slots) (hx : p.tables.exec = Jvm.exec) {pc q : Nat} {Ls : Array Slot} {st : List Value} {k : Fin 4} {v : Int32} (hd : decode c.code pc = .ok (.iload_n k, 1)) (hq : pc + 1 = q) (hl : Ls[k.val]? = some (.val (.int v))) (K : Go p e below F T (mkF m q Ls (.int v :: st))) : Go p e below F T (mkF m pc Ls (st)) := by
  subst hq
  exact Go.of (fun t k => XS.iloadN X.here hx rfl hd hl k) K
theorem Go.s_iload (X : Stand p l e R s m args below meth c T locs cells slots) (hx : p.tables.exec = Jvm.exec) {pc q : Nat} {Ls : Array Slot} {st : List Value} {k : Nat} {v : Int32} (hd : decode c.code pc = .ok (.iload k, 2)) (hq : pc + 2 = q) (hl : Ls[k]? = some (.val (.int v))) (K : Go p e below F T (mkF m q Ls (.int v :: st))) : Go p e below F T (mkF m pc Ls (st)) := by
  subst hq
  exact Go.of (fun t k => XS.iload X.here hx rfl hd hl k) K
theorem Go.s_lloadN (X : Stand p l e R s m args below meth c T locs cells slots) (hx : p.tables.exec = Jvm.exec) {pc q : Nat} {Ls : Array Slot} {st : List Value} {k : Fin 4} {v : Int64} (hd : decode c.code pc = .ok (.lload_n k, 1)) (hq : pc + 1 = q) (hl : Ls[k.val]? = some (.val (.long v))) (K : Go p e below F T (mkF m q Ls (.long v :: st))) : Go p e below F T (mkF m pc Ls (st)) := by
  subst hq
  exact Go.of (fun t k => XS.lloadN X.here hx rfl hd hl k) K
theorem Go.s_lload (X : Stand p l e R s m args below meth c T locs cells slots) (hx : p.tables.exec = Jvm.exec) {pc q : Nat} {Ls : Array Slot} {st : List Value} {k : Nat} {v : Int64} (hd : decode c.code pc = .ok (.lload k, 2)) (hq : pc + 2 = q) (hl : Ls[k]? = some (.val (.long v))) (K : Go p e below F T (mkF m q Ls (.long v :: st))) : Go p e below F T (mkF m pc Ls (st)) := by
  subst hq
  exact Go.of (fun t k => XS.lload X.here hx rfl hd hl k) K
theorem Go.s_aloadN (X : Stand p l e R s m args below meth c T locs cells slots) (hx : p.tables.exec = Jvm.exec) {pc q : Nat} {Ls : Array Slot} {st : List Value} {k : Fin 4} {v : Value} (hd : decode c.code pc = .ok (.aload_n k, 1)) (hq : pc + 1 = q) (hl : Ls[k.val]? = some (.val v)) (hv : v.isRef = true) (K : Go p e below F T (mkF m q Ls (v :: st))) : Go p e below F T (mkF m pc Ls (st)) := by
  subst hq
  exact Go.of (fun t k => XS.aloadN X.here hx rfl hd hl hv k) K
theorem Go.s_aload (X : Stand p l e R s m args below meth c T locs cells slots) (hx : p.tables.exec = Jvm.exec) {pc q : Nat} {Ls : Array Slot} {st : List Value} {k : Nat} {v : Value} (hd : decode c.code pc = .ok (.aload k, 2)) (hq : pc + 2 = q) (hl : Ls[k]? = some (.val v)) (hv : v.isRef = true) (K : Go p e below F T (mkF m q Ls (v :: st))) : Go p e below F T (mkF m pc Ls (st)) := by
  subst hq
  exact Go.of (fun t k => XS.aload X.here hx rfl hd hl hv k) K
theorem Go.s_istore (X : Stand p l e R s m args below meth c T locs cells slots) (hx : p.tables.exec = Jvm.exec) {pc q : Nat} {Ls : Array Slot} {st : List Value} {k : Nat} {x : Int32} {l' : Array Slot} (hd : decode c.code pc = .ok (.istore k, 2)) (hq : pc + 2 = q) (hl : storeLocals Ls k (.int x) = some l') (K : Go p e below F T (mkF m q l' (st))) : Go p e below F T (mkF m pc Ls (.int x :: st)) := by
  subst hq
  exact Go.of (fun t k => XS.istore X.here hx rfl hd rfl hl k) K
theorem Go.s_lstore (X : Stand p l e R s m args below meth c T locs cells slots) (hx : p.tables.exec = Jvm.exec) {pc q : Nat} {Ls : Array Slot} {st : List Value} {k : Nat} {x : Int64} {l' : Array Slot} (hd : decode c.code pc = .ok (.lstore k, 2)) (hq : pc + 2 = q) (hl : storeLocals Ls k (.long x) = some l') (K : Go p e below F T (mkF m q l' (st))) : Go p e below F T (mkF m pc Ls (.long x :: st)) := by
  subst hq
  exact Go.of (fun t k => XS.lstore X.here hx rfl hd rfl hl k) K
theorem Go.s_astore (X : Stand p l e R s m args below meth c T locs cells slots) (hx : p.tables.exec = Jvm.exec) {pc q : Nat} {Ls : Array Slot} {st : List Value} {k : Nat} {x : Value} {l' : Array Slot} (hd : decode c.code pc = .ok (.astore k, 2)) (hq : pc + 2 = q) (hv : x.isRef = true) (hl : storeLocals Ls k x = some l') (K : Go p e below F T (mkF m q l' (st))) : Go p e below F T (mkF m pc Ls (x :: st)) := by
  subst hq
  exact Go.of (fun t k => XS.astore X.here hx rfl hd rfl hv hl k) K
theorem Go.s_iconst (X : Stand p l e R s m args below meth c T locs cells slots) (hx : p.tables.exec = Jvm.exec) {pc q : Nat} {Ls : Array Slot} {st : List Value} {i : Int} {z : Int32} (hd : decode c.code pc = .ok (.iconst i, 1)) (hq : pc + 1 = q) (hz : Int32.ofInt i = z) (K : Go p e below F T (mkF m q Ls (.int z :: st))) : Go p e below F T (mkF m pc Ls (st)) := by
  subst hq
  exact Go.of (fun t k => XS.iconst X.here hx rfl hd (hz ▸ k)) K
theorem Go.s_ladd (X : Stand p l e R s m args below meth c T locs cells slots) (hx : p.tables.exec = Jvm.exec) {pc q : Nat} {Ls : Array Slot} {st : List Value} {x y : Int64} (hd : decode c.code pc = .ok (.ladd, 1)) (hq : pc + 1 = q)  (K : Go p e below F T (mkF m q Ls (.long (x + y) :: st))) : Go p e below F T (mkF m pc Ls (.long y :: .long x :: st)) := by
  subst hq
  exact Go.of (fun t k => XS.ladd X.here hx rfl hd rfl k) K
theorem Go.s_iand (X : Stand p l e R s m args below meth c T locs cells slots) (hx : p.tables.exec = Jvm.exec) {pc q : Nat} {Ls : Array Slot} {st : List Value} {x y : Int32} (hd : decode c.code pc = .ok (.iand, 1)) (hq : pc + 1 = q)  (K : Go p e below F T (mkF m q Ls (.int (x &&& y) :: st))) : Go p e below F T (mkF m pc Ls (.int y :: .int x :: st)) := by
  subst hq
  exact Go.of (fun t k => XS.iand X.here hx rfl hd rfl k) K
theorem Go.s_lcmp (X : Stand p l e R s m args below meth c T locs cells slots) (hx : p.tables.exec = Jvm.exec) {pc q : Nat} {Ls : Array Slot} {st : List Value} {x y : Int64} (hd : decode c.code pc = .ok (.lcmp, 1)) (hq : pc + 1 = q)  (K : Go p e below F T (mkF m q Ls (.int (lcmpW x y) :: st))) : Go p e below F T (mkF m pc Ls (.long y :: .long x :: st)) := by
  subst hq
  exact Go.of (fun t k => XS.lcmp X.here hx rfl hd rfl k) K
theorem Go.s_lrem (X : Stand p l e R s m args below meth c T locs cells slots) (hx : p.tables.exec = Jvm.exec) {pc q : Nat} {Ls : Array Slot} {st : List Value} {x y : Int64} (hd : decode c.code pc = .ok (.lrem, 1)) (hq : pc + 1 = q) (hy : y ≠ 0) (K : Go p e below F T (mkF m q Ls (.long (x - (x / y) * y) :: st))) : Go p e below F T (mkF m pc Ls (.long y :: .long x :: st)) := by
  subst hq
  exact Go.of (fun t k => XS.lrem X.here hx rfl hd rfl hy k) K
theorem Go.s_goto (X : Stand p l e R s m args below meth c T locs cells slots) (hx : p.tables.exec = Jvm.exec) {pc q : Nat} {Ls : Array Slot} {st : List Value}  {o : Int} (hd : decode c.code pc = .ok (.goto o, 3)) (ho : 0 ≤ (pc : Int) + o) (hp : ((pc : Int) + o).toNat = q)  (K : Go p e below F T (mkF m q Ls st)) : Go p e below F T (mkF m pc Ls (st)) :=
  Go.of (fun t k => XS.goto X.here hx rfl rfl hd ho hp k) K
theorem Go.s_ifYes (X : Stand p l e R s m args below meth c T locs cells slots) (hx : p.tables.exec = Jvm.exec) {pc q : Nat} {Ls : Array Slot} {st : List Value} {cd : ClassFile.Cond} {x : Int32} {o : Int} (hd : decode c.code pc = .ok (.ifCond cd o, 3)) (ho : 0 ≤ (pc : Int) + o) (hp : ((pc : Int) + o).toNat = q) (hc : ifCond.holds cd x = true) (K : Go p e below F T (mkF m q Ls st)) : Go p e below F T (mkF m pc Ls (.int x :: st)) :=
  Go.of (fun t k => XS.ifYes X.here hx rfl rfl hd rfl hc ho hp k) K
theorem Go.s_icmpYes (X : Stand p l e R s m args below meth c T locs cells slots) (hx : p.tables.exec = Jvm.exec) {pc q : Nat} {Ls : Array Slot} {st : List Value} {cd : ClassFile.Cond} {x y : Int32} {o : Int} (hd : decode c.code pc = .ok (.if_icmp cd o, 3)) (ho : 0 ≤ (pc : Int) + o) (hp : ((pc : Int) + o).toNat = q) (hc : if_icmp.holds cd x y = true) (K : Go p e below F T (mkF m q Ls st)) : Go p e below F T (mkF m pc Ls (.int y :: .int x :: st)) :=
  Go.of (fun t k => XS.icmpYes X.here hx rfl rfl hd rfl hc ho hp k) K
theorem Go.s_ifNo (X : Stand p l e R s m args below meth c T locs cells slots) (hx : p.tables.exec = Jvm.exec) {pc q : Nat} {Ls : Array Slot} {st : List Value} {cd : ClassFile.Cond} {o : Int} {x : Int32} (hd : decode c.code pc = .ok (.ifCond cd o, 3)) (hq : pc + 3 = q) (hc : ifCond.holds cd x = false) (K : Go p e below F T (mkF m q Ls (st))) : Go p e below F T (mkF m pc Ls (.int x :: st)) := by
  subst hq
  exact Go.of (fun t k => XS.ifNo X.here hx rfl hd rfl hc k) K
theorem Go.s_icmpNo (X : Stand p l e R s m args below meth c T locs cells slots) (hx : p.tables.exec = Jvm.exec) {pc q : Nat} {Ls : Array Slot} {st : List Value} {cd : ClassFile.Cond} {o : Int} {x y : Int32} (hd : decode c.code pc = .ok (.if_icmp cd o, 3)) (hq : pc + 3 = q) (hc : if_icmp.holds cd x y = false) (K : Go p e below F T (mkF m q Ls (st))) : Go p e below F T (mkF m pc Ls (.int y :: .int x :: st)) := by
  subst hq
  exact Go.of (fun t k => XS.icmpNo X.here hx rfl hd rfl hc k) K
theorem Go.s_ldc2 (X : Stand p l e R s m args below meth c T locs cells slots) (hx : p.tables.exec = Jvm.exec) {pc q : Nat} {Ls : Array Slot} {st : List Value} {own : String} {index : Nat} {v : Int64} (hd : decode c.code pc = .ok (.ldc2_w index, 3)) (hq : pc + 3 = q) (hown : s.vm.findClass own = some m.cls) (w : (Jvm.Cond.constantLong own index v).before args s = true) (K : Go p e below F T (mkF m q Ls (.long v :: st))) : Go p e below F T (mkF m pc Ls st) := by
  subst hq
  exact Go.of (X.ldc2Long hx hown w (g := mkF m pc Ls st) rfl hd) K
end OwnSteps
abbrev mn_1 : MethodName := ⟨"com/example/pulsegate/pulsegate/LivenessMode", "allows", "(J)Z"⟩
theorem pn_com_example_pulsegate_pulsegate_LivenessMode : plainName "com/example/pulsegate/pulsegate/LivenessMode" = true := by first | (simp [plainName, overriddenIn]; done) | decide +kernel
theorem d1_0 : decode prog_28_method_6_code 0 = .ok (.lload_n 1, 1) := by decide +kernel
theorem d1_1 : decode prog_28_method_6_code 1 = .ok (.aload_n 0, 1) := by decide +kernel
theorem d1_2 : decode prog_28_method_6_code 2 = .ok (.getfield 41, 3) := by decide +kernel
theorem d1_5 : decode prog_28_method_6_code 5 = .ok (.lcmp, 1) := by decide +kernel
theorem d1_6 : decode prog_28_method_6_code 6 = .ok (.ifCond .lt 16, 3) := by decide +kernel
theorem d1_22 : decode prog_28_method_6_code 22 = .ok (.iconst 0, 1) := by decide +kernel
theorem d1_23 : decode prog_28_method_6_code 23 = .ok (.ireturn, 1) := by decide +kernel
theorem d1_9 : decode prog_28_method_6_code 9 = .ok (.lload_n 1, 1) := by decide +kernel
theorem d1_10 : decode prog_28_method_6_code 10 = .ok (.aload_n 0, 1) := by decide +kernel
theorem d1_11 : decode prog_28_method_6_code 11 = .ok (.getfield 45, 3) := by decide +kernel
theorem d1_14 : decode prog_28_method_6_code 14 = .ok (.lcmp, 1) := by decide +kernel
theorem d1_15 : decode prog_28_method_6_code 15 = .ok (.ifCond .gt 7, 3) := by decide +kernel
theorem d1_18 : decode prog_28_method_6_code 18 = .ok (.iconst 1, 1) := by decide +kernel
theorem d1_19 : decode prog_28_method_6_code 19 = .ok (.goto 4, 3) := by decide +kernel
theorem pn_com_example_pulsegate_pulsegate_LivenessModeAllowsPinLaw : plainName "com/example/pulsegate/pulsegate/LivenessModeAllowsPinLaw" = true := by first | (simp [plainName, overriddenIn]; done) | decide +kernel
theorem pd_0 : parseMethodDescriptor "(J)Z" = some ⟨[.long], some .boolean⟩ := by decide +kernel
def Ctx (Z : State) (h : Heap) (a_PROBE_EVERY a_SILENCE a_FIX_HEARTBEAT a_PROBE_WHEN_IDLE : Addr) : Prop := Sta Z h "com/example/pulsegate/pulsegate/LivenessMode" "PROBE_EVERY" "Lcom/example/pulsegate/pulsegate/LivenessMode;" (.ref a_PROBE_EVERY) ∧ Sta Z h "com/example/pulsegate/pulsegate/LivenessMode" "SILENCE" "Lcom/example/pulsegate/pulsegate/LivenessMode;" (.ref a_SILENCE) ∧ Sta Z h "com/example/pulsegate/pulsegate/LivenessMode" "FIX_HEARTBEAT" "Lcom/example/pulsegate/pulsegate/LivenessMode;" (.ref a_FIX_HEARTBEAT) ∧ Sta Z h "com/example/pulsegate/pulsegate/LivenessMode" "PROBE_WHEN_IDLE" "Lcom/example/pulsegate/pulsegate/LivenessMode;" (.ref a_PROBE_WHEN_IDLE) ∧ Exa Z h a_PROBE_EVERY "com/example/pulsegate/pulsegate/LivenessMode" ∧ Exa Z h a_SILENCE "com/example/pulsegate/pulsegate/LivenessMode" ∧ Exa Z h a_FIX_HEARTBEAT "com/example/pulsegate/pulsegate/LivenessMode" ∧ Exa Z h a_PROBE_WHEN_IDLE "com/example/pulsegate/pulsegate/LivenessMode" ∧ Fld Z h a_PROBE_EVERY "com/example/pulsegate/pulsegate/LivenessMode" "minMs" "J" (.long (3000 : Int64)) ∧ Fld Z h a_SILENCE "com/example/pulsegate/pulsegate/LivenessMode" "minMs" "J" (.long (100 : Int64)) ∧ Fld Z h a_SILENCE "com/example/pulsegate/pulsegate/LivenessMode" "maxMs" "J" (.long (99999 : Int64)) ∧ Fld Z h a_FIX_HEARTBEAT "com/example/pulsegate/pulsegate/LivenessMode" "minMs" "J" (.long (5000 : Int64)) ∧ Fld Z h a_PROBE_EVERY "com/example/pulsegate/pulsegate/LivenessMode" "maxMs" "J" (.long (20000 : Int64)) ∧ Fld Z h a_FIX_HEARTBEAT "com/example/pulsegate/pulsegate/LivenessMode" "maxMs" "J" (.long (9223372036854775807 : Int64)) ∧ Fld Z h a_PROBE_WHEN_IDLE "com/example/pulsegate/pulsegate/LivenessMode" "minMs" "J" (.long (3000 : Int64)) ∧ Fld Z h a_PROBE_WHEN_IDLE "com/example/pulsegate/pulsegate/LivenessMode" "maxMs" "J" (.long (20000 : Int64))
theorem ef_ala_PROBE_EVERY (m : MethodId) (x0 : Addr) (x1 : Int64) : entryFrame m #[(.ref x0), (.long x1)] 3 = mkF m 0 #[.val (.ref x0), .val (.long x1), .second] [] := by first | (simp [entryFrame, mkF, argsToLocals, Value.category]; done) | rfl
set_option maxRecDepth 65536 in
set_option maxHeartbeats 40000000 in
theorem rm_ala_PROBE_EVERY (l : Launch) (Z : State) (a0 : Array Value) (hw : ∀ d ∈ tables_1, d.before a0 Z = true) (x1 : Int64) (h0 : Heap) (a_PROBE_EVERY a_SILENCE a_FIX_HEARTBEAT a_PROBE_WHEN_IDLE : Addr) (hctx : Ctx Z h0 a_PROBE_EVERY a_SILENCE a_FIX_HEARTBEAT a_PROBE_WHEN_IDLE) :
    Ct l mn_1 prog_28_method_6_code 3 (some .boolean) ({ frames := 0, cells := 0, slots := 0, locals := 0 } : Room) Z h0 #[(.ref a_PROBE_EVERY), (.long x1)] (fun v h L => ∃ r, v = some (.int r) ∧ ((x1 < (3000 : Int64) ∧ r = (0 : Int32)) ∨ (¬ (x1 < (3000 : Int64)) ∧ (20000 : Int64) < x1 ∧ r = (0 : Int32)) ∨ (¬ (x1 < (3000 : Int64)) ∧ ¬ ((20000 : Int64) < x1) ∧ r = (1 : Int32))) ∧ L = [] ∧ h = h0) := by
  refine Ct.body (plainFor_of_name pn_com_example_pulsegate_pulsegate_LivenessMode) ?_
  intro p e s m below meth c T0 hx hby hml hown hnm hret hlk hZ X0 e0
  have hctx' := hctx
  obtain ⟨S_PROBE_EVERY, S_SILENCE, S_FIX_HEARTBEAT, S_PROBE_WHEN_IDLE, E_PROBE_EVERY, E_SILENCE, E_FIX_HEARTBEAT, E_PROBE_WHEN_IDLE, F_PROBE_EVERY_minMs, F_SILENCE_minMs, F_SILENCE_maxMs, F_FIX_HEARTBEAT_minMs, F_PROBE_EVERY_maxMs, F_FIX_HEARTBEAT_maxMs, F_PROBE_WHEN_IDLE_minMs, F_PROBE_WHEN_IDLE_maxMs⟩ := hctx
  refine Go.cast (ef_ala_PROBE_EVERY m a_PROBE_EVERY x1) ?_
  show Go p e below _ T0 (mkF m 0 #[.val (.ref a_PROBE_EVERY), .val (.long x1), .second] [])
  refine Go.s_lloadN X0 hx (hb hby d1_0) (q := 1) rfl rfl ?_
  refine Go.s_aloadN X0 hx (hb hby d1_1) (q := 2) rfl rfl rfl ?_
  refine Go.getF X0 hx hZ hown (w_ hw 11 rfl) Via.refl e0 F_PROBE_EVERY_minMs (hb hby d1_2) ?_
  intro T1 X1 e1
  show Go p e below _ T1 (mkF m 5 #[.val (.ref a_PROBE_EVERY), .val (.long x1), .second] [(.long (3000 : Int64)), (.long x1)])
  refine Go.s_lcmp X1 hx (hb hby d1_5) (q := 6) rfl ?_
  by_cases c6_2 : x1 < (3000 : Int64)
  · -- pc 6: x1 < (3000 : Int64)
    refine Go.s_ifYes X1 hx (hb hby d1_6) (q := 22) (by decide) (by decide) ((if0 _ _).trans (tlt ((lw_lt x1 (3000 : Int64)).mpr c6_2)).1) ?_
    refine Go.s_iconst X1 hx (hb hby d1_22) (q := 23) rfl (z := 0) rfl ?_
    refine Go.retN X1 hx hlk hret (by simp) (hb hby d1_23) (by decide) (by decide) ?_
    try rw [e1]
    exact ⟨_, rfl, Or.inl ⟨c6_2, (by decide)⟩, rfl, rfl⟩
  · -- pc 6: not x1 < (3000 : Int64)
    refine Go.s_ifNo X1 hx (hb hby d1_6) (q := 9) rfl ((if0 _ _).trans (flt (fun q => c6_2 ((lw_lt x1 (3000 : Int64)).mp q))).1) ?_
    refine Go.s_lloadN X1 hx (hb hby d1_9) (q := 10) rfl rfl ?_
    refine Go.s_aloadN X1 hx (hb hby d1_10) (q := 11) rfl rfl rfl ?_
    refine Go.getF X1 hx hZ hown (w_ hw 17 rfl) Via.refl e1 F_PROBE_EVERY_maxMs (hb hby d1_11) ?_
    intro T3 X3 e3
    show Go p e below _ T3 (mkF m 14 #[.val (.ref a_PROBE_EVERY), .val (.long x1), .second] [(.long (20000 : Int64)), (.long x1)])
    refine Go.s_lcmp X3 hx (hb hby d1_14) (q := 15) rfl ?_
    by_cases c15_4 : (20000 : Int64) < x1
    · -- pc 15: (20000 : Int64) < x1
      refine Go.s_ifYes X3 hx (hb hby d1_15) (q := 22) (by decide) (by decide) ((if0 _ _).trans (tlt ((lw_gt x1 (20000 : Int64)).mpr c15_4)).2.2.1) ?_
      refine Go.s_iconst X3 hx (hb hby d1_22) (q := 23) rfl (z := 0) rfl ?_
      refine Go.retN X3 hx hlk hret (by simp) (hb hby d1_23) (by decide) (by decide) ?_
      try rw [e3]
      exact ⟨_, rfl, Or.inr (Or.inl ⟨c6_2, c15_4, (by decide)⟩), rfl, rfl⟩
    · -- pc 15: not (20000 : Int64) < x1
      refine Go.s_ifNo X3 hx (hb hby d1_15) (q := 18) rfl ((if0 _ _).trans (flt (fun q => c15_4 ((lw_gt x1 (20000 : Int64)).mp q))).2.2.1) ?_
      refine Go.s_iconst X3 hx (hb hby d1_18) (q := 19) rfl (z := 1) rfl ?_
      refine Go.s_goto X3 hx (hb hby d1_19) (q := 23) (by decide) (by decide) ?_
      refine Go.retN X3 hx hlk hret (by simp) (hb hby d1_23) (by decide) (by decide) ?_
      try rw [e3]
      exact ⟨_, rfl, Or.inr (Or.inr (⟨c6_2, c15_4, (by decide)⟩)), rfl, rfl⟩
theorem ef_ala_SILENCE (m : MethodId) (x0 : Addr) (x1 : Int64) : entryFrame m #[(.ref x0), (.long x1)] 3 = mkF m 0 #[.val (.ref x0), .val (.long x1), .second] [] := by first | (simp [entryFrame, mkF, argsToLocals, Value.category]; done) | rfl
set_option maxRecDepth 65536 in
set_option maxHeartbeats 40000000 in
theorem rm_ala_SILENCE (l : Launch) (Z : State) (a0 : Array Value) (hw : ∀ d ∈ tables_1, d.before a0 Z = true) (x1 : Int64) (h0 : Heap) (a_PROBE_EVERY a_SILENCE a_FIX_HEARTBEAT a_PROBE_WHEN_IDLE : Addr) (hctx : Ctx Z h0 a_PROBE_EVERY a_SILENCE a_FIX_HEARTBEAT a_PROBE_WHEN_IDLE) :
    Ct l mn_1 prog_28_method_6_code 3 (some .boolean) ({ frames := 0, cells := 0, slots := 0, locals := 0 } : Room) Z h0 #[(.ref a_SILENCE), (.long x1)] (fun v h L => ∃ r, v = some (.int r) ∧ ((x1 < (100 : Int64) ∧ r = (0 : Int32)) ∨ (¬ (x1 < (100 : Int64)) ∧ (99999 : Int64) < x1 ∧ r = (0 : Int32)) ∨ (¬ (x1 < (100 : Int64)) ∧ ¬ ((99999 : Int64) < x1) ∧ r = (1 : Int32))) ∧ L = [] ∧ h = h0) := by
  refine Ct.body (plainFor_of_name pn_com_example_pulsegate_pulsegate_LivenessMode) ?_
  intro p e s m below meth c T0 hx hby hml hown hnm hret hlk hZ X0 e0
  have hctx' := hctx
  obtain ⟨S_PROBE_EVERY, S_SILENCE, S_FIX_HEARTBEAT, S_PROBE_WHEN_IDLE, E_PROBE_EVERY, E_SILENCE, E_FIX_HEARTBEAT, E_PROBE_WHEN_IDLE, F_PROBE_EVERY_minMs, F_SILENCE_minMs, F_SILENCE_maxMs, F_FIX_HEARTBEAT_minMs, F_PROBE_EVERY_maxMs, F_FIX_HEARTBEAT_maxMs, F_PROBE_WHEN_IDLE_minMs, F_PROBE_WHEN_IDLE_maxMs⟩ := hctx
  refine Go.cast (ef_ala_SILENCE m a_SILENCE x1) ?_
  show Go p e below _ T0 (mkF m 0 #[.val (.ref a_SILENCE), .val (.long x1), .second] [])
  refine Go.s_lloadN X0 hx (hb hby d1_0) (q := 1) rfl rfl ?_
  refine Go.s_aloadN X0 hx (hb hby d1_1) (q := 2) rfl rfl rfl ?_
  refine Go.getF X0 hx hZ hown (w_ hw 11 rfl) Via.refl e0 F_SILENCE_minMs (hb hby d1_2) ?_
  intro T1 X1 e1
  show Go p e below _ T1 (mkF m 5 #[.val (.ref a_SILENCE), .val (.long x1), .second] [(.long (100 : Int64)), (.long x1)])
  refine Go.s_lcmp X1 hx (hb hby d1_5) (q := 6) rfl ?_
  by_cases c6_2 : x1 < (100 : Int64)
  · -- pc 6: x1 < (100 : Int64)
    refine Go.s_ifYes X1 hx (hb hby d1_6) (q := 22) (by decide) (by decide) ((if0 _ _).trans (tlt ((lw_lt x1 (100 : Int64)).mpr c6_2)).1) ?_
    refine Go.s_iconst X1 hx (hb hby d1_22) (q := 23) rfl (z := 0) rfl ?_
    refine Go.retN X1 hx hlk hret (by simp) (hb hby d1_23) (by decide) (by decide) ?_
    try rw [e1]
    exact ⟨_, rfl, Or.inl ⟨c6_2, (by decide)⟩, rfl, rfl⟩
  · -- pc 6: not x1 < (100 : Int64)
    refine Go.s_ifNo X1 hx (hb hby d1_6) (q := 9) rfl ((if0 _ _).trans (flt (fun q => c6_2 ((lw_lt x1 (100 : Int64)).mp q))).1) ?_
    refine Go.s_lloadN X1 hx (hb hby d1_9) (q := 10) rfl rfl ?_
    refine Go.s_aloadN X1 hx (hb hby d1_10) (q := 11) rfl rfl rfl ?_
    refine Go.getF X1 hx hZ hown (w_ hw 17 rfl) Via.refl e1 F_SILENCE_maxMs (hb hby d1_11) ?_
    intro T3 X3 e3
    show Go p e below _ T3 (mkF m 14 #[.val (.ref a_SILENCE), .val (.long x1), .second] [(.long (99999 : Int64)), (.long x1)])
    refine Go.s_lcmp X3 hx (hb hby d1_14) (q := 15) rfl ?_
    by_cases c15_4 : (99999 : Int64) < x1
    · -- pc 15: (99999 : Int64) < x1
      refine Go.s_ifYes X3 hx (hb hby d1_15) (q := 22) (by decide) (by decide) ((if0 _ _).trans (tlt ((lw_gt x1 (99999 : Int64)).mpr c15_4)).2.2.1) ?_
      refine Go.s_iconst X3 hx (hb hby d1_22) (q := 23) rfl (z := 0) rfl ?_
      refine Go.retN X3 hx hlk hret (by simp) (hb hby d1_23) (by decide) (by decide) ?_
      try rw [e3]
      exact ⟨_, rfl, Or.inr (Or.inl ⟨c6_2, c15_4, (by decide)⟩), rfl, rfl⟩
    · -- pc 15: not (99999 : Int64) < x1
      refine Go.s_ifNo X3 hx (hb hby d1_15) (q := 18) rfl ((if0 _ _).trans (flt (fun q => c15_4 ((lw_gt x1 (99999 : Int64)).mp q))).2.2.1) ?_
      refine Go.s_iconst X3 hx (hb hby d1_18) (q := 19) rfl (z := 1) rfl ?_
      refine Go.s_goto X3 hx (hb hby d1_19) (q := 23) (by decide) (by decide) ?_
      refine Go.retN X3 hx hlk hret (by simp) (hb hby d1_23) (by decide) (by decide) ?_
      try rw [e3]
      exact ⟨_, rfl, Or.inr (Or.inr (⟨c6_2, c15_4, (by decide)⟩)), rfl, rfl⟩
theorem ef_ala_FIX_HEARTBEAT (m : MethodId) (x0 : Addr) (x1 : Int64) : entryFrame m #[(.ref x0), (.long x1)] 3 = mkF m 0 #[.val (.ref x0), .val (.long x1), .second] [] := by first | (simp [entryFrame, mkF, argsToLocals, Value.category]; done) | rfl
set_option maxRecDepth 65536 in
set_option maxHeartbeats 40000000 in
theorem rm_ala_FIX_HEARTBEAT (l : Launch) (Z : State) (a0 : Array Value) (hw : ∀ d ∈ tables_1, d.before a0 Z = true) (x1 : Int64) (h0 : Heap) (a_PROBE_EVERY a_SILENCE a_FIX_HEARTBEAT a_PROBE_WHEN_IDLE : Addr) (hctx : Ctx Z h0 a_PROBE_EVERY a_SILENCE a_FIX_HEARTBEAT a_PROBE_WHEN_IDLE) :
    Ct l mn_1 prog_28_method_6_code 3 (some .boolean) ({ frames := 0, cells := 0, slots := 0, locals := 0 } : Room) Z h0 #[(.ref a_FIX_HEARTBEAT), (.long x1)] (fun v h L => ∃ r, v = some (.int r) ∧ ((x1 < (5000 : Int64) ∧ r = (0 : Int32)) ∨ (¬ (x1 < (5000 : Int64)) ∧ (9223372036854775807 : Int64) < x1 ∧ r = (0 : Int32)) ∨ (¬ (x1 < (5000 : Int64)) ∧ ¬ ((9223372036854775807 : Int64) < x1) ∧ r = (1 : Int32))) ∧ L = [] ∧ h = h0) := by
  refine Ct.body (plainFor_of_name pn_com_example_pulsegate_pulsegate_LivenessMode) ?_
  intro p e s m below meth c T0 hx hby hml hown hnm hret hlk hZ X0 e0
  have hctx' := hctx
  obtain ⟨S_PROBE_EVERY, S_SILENCE, S_FIX_HEARTBEAT, S_PROBE_WHEN_IDLE, E_PROBE_EVERY, E_SILENCE, E_FIX_HEARTBEAT, E_PROBE_WHEN_IDLE, F_PROBE_EVERY_minMs, F_SILENCE_minMs, F_SILENCE_maxMs, F_FIX_HEARTBEAT_minMs, F_PROBE_EVERY_maxMs, F_FIX_HEARTBEAT_maxMs, F_PROBE_WHEN_IDLE_minMs, F_PROBE_WHEN_IDLE_maxMs⟩ := hctx
  refine Go.cast (ef_ala_FIX_HEARTBEAT m a_FIX_HEARTBEAT x1) ?_
  show Go p e below _ T0 (mkF m 0 #[.val (.ref a_FIX_HEARTBEAT), .val (.long x1), .second] [])
  refine Go.s_lloadN X0 hx (hb hby d1_0) (q := 1) rfl rfl ?_
  refine Go.s_aloadN X0 hx (hb hby d1_1) (q := 2) rfl rfl rfl ?_
  refine Go.getF X0 hx hZ hown (w_ hw 11 rfl) Via.refl e0 F_FIX_HEARTBEAT_minMs (hb hby d1_2) ?_
  intro T1 X1 e1
  show Go p e below _ T1 (mkF m 5 #[.val (.ref a_FIX_HEARTBEAT), .val (.long x1), .second] [(.long (5000 : Int64)), (.long x1)])
  refine Go.s_lcmp X1 hx (hb hby d1_5) (q := 6) rfl ?_
  by_cases c6_2 : x1 < (5000 : Int64)
  · -- pc 6: x1 < (5000 : Int64)
    refine Go.s_ifYes X1 hx (hb hby d1_6) (q := 22) (by decide) (by decide) ((if0 _ _).trans (tlt ((lw_lt x1 (5000 : Int64)).mpr c6_2)).1) ?_
    refine Go.s_iconst X1 hx (hb hby d1_22) (q := 23) rfl (z := 0) rfl ?_
    refine Go.retN X1 hx hlk hret (by simp) (hb hby d1_23) (by decide) (by decide) ?_
    try rw [e1]
    exact ⟨_, rfl, Or.inl ⟨c6_2, (by decide)⟩, rfl, rfl⟩
  · -- pc 6: not x1 < (5000 : Int64)
    refine Go.s_ifNo X1 hx (hb hby d1_6) (q := 9) rfl ((if0 _ _).trans (flt (fun q => c6_2 ((lw_lt x1 (5000 : Int64)).mp q))).1) ?_
    refine Go.s_lloadN X1 hx (hb hby d1_9) (q := 10) rfl rfl ?_
    refine Go.s_aloadN X1 hx (hb hby d1_10) (q := 11) rfl rfl rfl ?_
    refine Go.getF X1 hx hZ hown (w_ hw 17 rfl) Via.refl e1 F_FIX_HEARTBEAT_maxMs (hb hby d1_11) ?_
    intro T3 X3 e3
    show Go p e below _ T3 (mkF m 14 #[.val (.ref a_FIX_HEARTBEAT), .val (.long x1), .second] [(.long (9223372036854775807 : Int64)), (.long x1)])
    refine Go.s_lcmp X3 hx (hb hby d1_14) (q := 15) rfl ?_
    by_cases c15_4 : (9223372036854775807 : Int64) < x1
    · -- pc 15: (9223372036854775807 : Int64) < x1
      refine Go.s_ifYes X3 hx (hb hby d1_15) (q := 22) (by decide) (by decide) ((if0 _ _).trans (tlt ((lw_gt x1 (9223372036854775807 : Int64)).mpr c15_4)).2.2.1) ?_
      refine Go.s_iconst X3 hx (hb hby d1_22) (q := 23) rfl (z := 0) rfl ?_
      refine Go.retN X3 hx hlk hret (by simp) (hb hby d1_23) (by decide) (by decide) ?_
      try rw [e3]
      exact ⟨_, rfl, Or.inr (Or.inl ⟨c6_2, c15_4, (by decide)⟩), rfl, rfl⟩
    · -- pc 15: not (9223372036854775807 : Int64) < x1
      refine Go.s_ifNo X3 hx (hb hby d1_15) (q := 18) rfl ((if0 _ _).trans (flt (fun q => c15_4 ((lw_gt x1 (9223372036854775807 : Int64)).mp q))).2.2.1) ?_
      refine Go.s_iconst X3 hx (hb hby d1_18) (q := 19) rfl (z := 1) rfl ?_
      refine Go.s_goto X3 hx (hb hby d1_19) (q := 23) (by decide) (by decide) ?_
      refine Go.retN X3 hx hlk hret (by simp) (hb hby d1_23) (by decide) (by decide) ?_
      try rw [e3]
      exact ⟨_, rfl, Or.inr (Or.inr (⟨c6_2, c15_4, (by decide)⟩)), rfl, rfl⟩
theorem ef_ala_PROBE_WHEN_IDLE (m : MethodId) (x0 : Addr) (x1 : Int64) : entryFrame m #[(.ref x0), (.long x1)] 3 = mkF m 0 #[.val (.ref x0), .val (.long x1), .second] [] := by first | (simp [entryFrame, mkF, argsToLocals, Value.category]; done) | rfl
set_option maxRecDepth 65536 in
set_option maxHeartbeats 40000000 in
theorem rm_ala_PROBE_WHEN_IDLE (l : Launch) (Z : State) (a0 : Array Value) (hw : ∀ d ∈ tables_1, d.before a0 Z = true) (x1 : Int64) (h0 : Heap) (a_PROBE_EVERY a_SILENCE a_FIX_HEARTBEAT a_PROBE_WHEN_IDLE : Addr) (hctx : Ctx Z h0 a_PROBE_EVERY a_SILENCE a_FIX_HEARTBEAT a_PROBE_WHEN_IDLE) :
    Ct l mn_1 prog_28_method_6_code 3 (some .boolean) ({ frames := 0, cells := 0, slots := 0, locals := 0 } : Room) Z h0 #[(.ref a_PROBE_WHEN_IDLE), (.long x1)] (fun v h L => ∃ r, v = some (.int r) ∧ ((x1 < (3000 : Int64) ∧ r = (0 : Int32)) ∨ (¬ (x1 < (3000 : Int64)) ∧ (20000 : Int64) < x1 ∧ r = (0 : Int32)) ∨ (¬ (x1 < (3000 : Int64)) ∧ ¬ ((20000 : Int64) < x1) ∧ r = (1 : Int32))) ∧ L = [] ∧ h = h0) := by
  refine Ct.body (plainFor_of_name pn_com_example_pulsegate_pulsegate_LivenessMode) ?_
  intro p e s m below meth c T0 hx hby hml hown hnm hret hlk hZ X0 e0
  have hctx' := hctx
  obtain ⟨S_PROBE_EVERY, S_SILENCE, S_FIX_HEARTBEAT, S_PROBE_WHEN_IDLE, E_PROBE_EVERY, E_SILENCE, E_FIX_HEARTBEAT, E_PROBE_WHEN_IDLE, F_PROBE_EVERY_minMs, F_SILENCE_minMs, F_SILENCE_maxMs, F_FIX_HEARTBEAT_minMs, F_PROBE_EVERY_maxMs, F_FIX_HEARTBEAT_maxMs, F_PROBE_WHEN_IDLE_minMs, F_PROBE_WHEN_IDLE_maxMs⟩ := hctx
  refine Go.cast (ef_ala_PROBE_WHEN_IDLE m a_PROBE_WHEN_IDLE x1) ?_
  show Go p e below _ T0 (mkF m 0 #[.val (.ref a_PROBE_WHEN_IDLE), .val (.long x1), .second] [])
  refine Go.s_lloadN X0 hx (hb hby d1_0) (q := 1) rfl rfl ?_
  refine Go.s_aloadN X0 hx (hb hby d1_1) (q := 2) rfl rfl rfl ?_
  refine Go.getF X0 hx hZ hown (w_ hw 11 rfl) Via.refl e0 F_PROBE_WHEN_IDLE_minMs (hb hby d1_2) ?_
  intro T1 X1 e1
  show Go p e below _ T1 (mkF m 5 #[.val (.ref a_PROBE_WHEN_IDLE), .val (.long x1), .second] [(.long (3000 : Int64)), (.long x1)])
  refine Go.s_lcmp X1 hx (hb hby d1_5) (q := 6) rfl ?_
  by_cases c6_2 : x1 < (3000 : Int64)
  · -- pc 6: x1 < (3000 : Int64)
    refine Go.s_ifYes X1 hx (hb hby d1_6) (q := 22) (by decide) (by decide) ((if0 _ _).trans (tlt ((lw_lt x1 (3000 : Int64)).mpr c6_2)).1) ?_
    refine Go.s_iconst X1 hx (hb hby d1_22) (q := 23) rfl (z := 0) rfl ?_
    refine Go.retN X1 hx hlk hret (by simp) (hb hby d1_23) (by decide) (by decide) ?_
    try rw [e1]
    exact ⟨_, rfl, Or.inl ⟨c6_2, (by decide)⟩, rfl, rfl⟩
  · -- pc 6: not x1 < (3000 : Int64)
    refine Go.s_ifNo X1 hx (hb hby d1_6) (q := 9) rfl ((if0 _ _).trans (flt (fun q => c6_2 ((lw_lt x1 (3000 : Int64)).mp q))).1) ?_
    refine Go.s_lloadN X1 hx (hb hby d1_9) (q := 10) rfl rfl ?_
    refine Go.s_aloadN X1 hx (hb hby d1_10) (q := 11) rfl rfl rfl ?_
    refine Go.getF X1 hx hZ hown (w_ hw 17 rfl) Via.refl e1 F_PROBE_WHEN_IDLE_maxMs (hb hby d1_11) ?_
    intro T3 X3 e3
    show Go p e below _ T3 (mkF m 14 #[.val (.ref a_PROBE_WHEN_IDLE), .val (.long x1), .second] [(.long (20000 : Int64)), (.long x1)])
    refine Go.s_lcmp X3 hx (hb hby d1_14) (q := 15) rfl ?_
    by_cases c15_4 : (20000 : Int64) < x1
    · -- pc 15: (20000 : Int64) < x1
      refine Go.s_ifYes X3 hx (hb hby d1_15) (q := 22) (by decide) (by decide) ((if0 _ _).trans (tlt ((lw_gt x1 (20000 : Int64)).mpr c15_4)).2.2.1) ?_
      refine Go.s_iconst X3 hx (hb hby d1_22) (q := 23) rfl (z := 0) rfl ?_
      refine Go.retN X3 hx hlk hret (by simp) (hb hby d1_23) (by decide) (by decide) ?_
      try rw [e3]
      exact ⟨_, rfl, Or.inr (Or.inl ⟨c6_2, c15_4, (by decide)⟩), rfl, rfl⟩
    · -- pc 15: not (20000 : Int64) < x1
      refine Go.s_ifNo X3 hx (hb hby d1_15) (q := 18) rfl ((if0 _ _).trans (flt (fun q => c15_4 ((lw_gt x1 (20000 : Int64)).mp q))).2.2.1) ?_
      refine Go.s_iconst X3 hx (hb hby d1_18) (q := 19) rfl (z := 1) rfl ?_
      refine Go.s_goto X3 hx (hb hby d1_19) (q := 23) (by decide) (by decide) ?_
      refine Go.retN X3 hx hlk hret (by simp) (hb hby d1_23) (by decide) (by decide) ?_
      try rw [e3]
      exact ⟨_, rfl, Or.inr (Or.inr (⟨c6_2, c15_4, (by decide)⟩)), rfl, rfl⟩
theorem ef_law (m : MethodId) (x0 : Int32) (x1 : Int32) (x2 : Int64) : entryFrame m #[(.int x0), (.int x1), (.long x2)] maxLocals = mkF m 0 #[.val (.int x0), .val (.int x1), .val (.long x2), .second, .unset, .unset, .unset, .unset, .unset, .unset, .unset, .unset, .unset, .unset, .unset, .unset, .unset] [] := by first | (simp [entryFrame, mkF, argsToLocals, Value.category, maxLocals]; done) | rfl
set_option maxRecDepth 65536 in
set_option maxHeartbeats 40000000 in
theorem rm_law (l : Launch) (Z : State) (a0 : Array Value) (hw : ∀ d ∈ tables_1, d.before a0 Z = true) (x0 : Int32) (x1 : Int32) (x2 : Int64) (h0 : Heap) (a_PROBE_EVERY a_SILENCE a_FIX_HEARTBEAT a_PROBE_WHEN_IDLE : Addr) (hctx : Ctx Z h0 a_PROBE_EVERY a_SILENCE a_FIX_HEARTBEAT a_PROBE_WHEN_IDLE) :
    Ct l x code maxLocals ret room_1 Z h0 #[(.int x0), (.int x1), (.long x2)] (fun v h L => v = some (.int 1) ∧ L = []) := by
  refine Ct.body (plainFor_of_name pn_com_example_pulsegate_pulsegate_LivenessModeAllowsPinLaw) ?_
  intro p e s m below meth c T0 hx hby hml hown hnm hret hlk hZ X0 e0
  have hctx' := hctx
  obtain ⟨S_PROBE_EVERY, S_SILENCE, S_FIX_HEARTBEAT, S_PROBE_WHEN_IDLE, E_PROBE_EVERY, E_SILENCE, E_FIX_HEARTBEAT, E_PROBE_WHEN_IDLE, F_PROBE_EVERY_minMs, F_SILENCE_minMs, F_SILENCE_maxMs, F_FIX_HEARTBEAT_minMs, F_PROBE_EVERY_maxMs, F_FIX_HEARTBEAT_maxMs, F_PROBE_WHEN_IDLE_minMs, F_PROBE_WHEN_IDLE_maxMs⟩ := hctx
  refine Go.cast (ef_law m x0 x1 x2) ?_
  show Go p e below _ T0 (mkF m 0 #[.val (.int x0), .val (.int x1), .val (.long x2), .second, .unset, .unset, .unset, .unset, .unset, .unset, .unset, .unset, .unset, .unset, .unset, .unset, .unset] [])
  refine Go.s_iloadN X0 hx (hb hby at_0) (q := 1) rfl rfl ?_
  refine Go.s_iconst X0 hx (hb hby at_1) (q := 2) rfl (z := 3) rfl ?_
  refine Go.s_iand X0 hx (hb hby at_2) (q := 3) rfl ?_
  refine Go.s_istore X0 hx (hb hby at_3) (q := 5) rfl (l' := #[.val (.int x0), .val (.int x1), .val (.long x2), .second, .val (.int (x0 &&& (3 : Int32))), .unset, .unset, .unset, .unset, .unset, .unset, .unset, .unset, .unset, .unset, .unset, .unset]) rfl ?_
  generalize hv1 : (x0 &&& (3 : Int32)) = v1
  refine Go.s_iconst X0 hx (hb hby at_5) (q := 6) rfl (z := 0) rfl ?_
  refine Go.s_istore X0 hx (hb hby at_6) (q := 8) rfl (l' := #[.val (.int x0), .val (.int x1), .val (.long x2), .second, .val (.int v1), .unset, .unset, .unset, .unset, .unset, .val (.int (0 : Int32)), .unset, .unset, .unset, .unset, .unset, .unset]) rfl ?_
  refine Go.s_iload X0 hx (hb hby at_8) (q := 10) rfl rfl ?_
  by_cases c10_2 : v1 = (0 : Int32)
  · -- pc 10: v1 = (0 : Int32)
    refine Go.s_ifNo X0 hx (hb hby at_10) (q := 13) rfl ((if0 _ _).trans (teq c10_2).2) ?_
    refine Go.getS X0 hx hZ hown (w_ hw 0 rfl) Via.refl e0 S_PROBE_EVERY (hb hby at_13) ?_
    intro T3 X3 e3
    show Go p e below _ T3 (mkF m 16 #[.val (.int x0), .val (.int x1), .val (.long x2), .second, .val (.int v1), .unset, .unset, .unset, .unset, .unset, .val (.int (0 : Int32)), .unset, .unset, .unset, .unset, .unset, .unset] [(.ref a_PROBE_EVERY)])
    refine Go.s_astore X3 hx (hb hby at_16) (q := 18) rfl rfl (l' := #[.val (.int x0), .val (.int x1), .val (.long x2), .second, .val (.int v1), .val (.ref a_PROBE_EVERY), .unset, .unset, .unset, .unset, .val (.int (0 : Int32)), .unset, .unset, .unset, .unset, .unset, .unset]) rfl ?_
    refine Go.s_ldc2 X3 hx (hb hby at_18) (q := 21) rfl hown (mvT hZ (w_ hw 3 rfl)) ?_
    refine Go.s_lstore X3 hx (hb hby at_21) (q := 23) rfl (l' := #[.val (.int x0), .val (.int x1), .val (.long x2), .second, .val (.int v1), .val (.ref a_PROBE_EVERY), .val (.long (3000 : Int64)), .second, .unset, .unset, .val (.int (0 : Int32)), .unset, .unset, .unset, .unset, .unset, .unset]) rfl ?_
    refine Go.s_ldc2 X3 hx (hb hby at_23) (q := 26) rfl hown (mvT hZ (w_ hw 4 rfl)) ?_
    refine Go.s_lstore X3 hx (hb hby at_26) (q := 28) rfl (l' := #[.val (.int x0), .val (.int x1), .val (.long x2), .second, .val (.int v1), .val (.ref a_PROBE_EVERY), .val (.long (3000 : Int64)), .second, .val (.long (20000 : Int64)), .second, .val (.int (0 : Int32)), .unset, .unset, .unset, .unset, .unset, .unset]) rfl ?_
    refine Go.s_goto X3 hx (hb hby at_28) (q := 97) (by decide) (by decide) ?_
    refine Go.s_lloadN X3 hx (hb hby at_97) (q := 98) rfl rfl ?_
    refine Go.s_ldc2 X3 hx (hb hby at_98) (q := 101) rfl hown (mvT hZ (w_ hw 5 rfl)) ?_
    refine Go.s_lrem X3 hx (hb hby at_101) (q := 102) rfl (by decide) ?_
    refine Go.s_lstore X3 hx (hb hby at_102) (q := 104) rfl (l' := #[.val (.int x0), .val (.int x1), .val (.long x2), .second, .val (.int v1), .val (.ref a_PROBE_EVERY), .val (.long (3000 : Int64)), .second, .val (.long (20000 : Int64)), .second, .val (.int (0 : Int32)), .val (.long (x2 - (x2 / (3 : Int64)) * (3 : Int64))), .second, .unset, .unset, .unset, .unset]) rfl ?_
    generalize hv4 : (x2 - (x2 / (3 : Int64)) * (3 : Int64)) = v4
    refine Go.s_iloadN X3 hx (hb hby at_104) (q := 105) rfl rfl ?_
    refine Go.s_iconst X3 hx (hb hby at_105) (q := 106) rfl (z := 3) rfl ?_
    refine Go.s_iand X3 hx (hb hby at_106) (q := 107) rfl ?_
    refine Go.s_istore X3 hx (hb hby at_107) (q := 109) rfl (l' := #[.val (.int x0), .val (.int x1), .val (.long x2), .second, .val (.int v1), .val (.ref a_PROBE_EVERY), .val (.long (3000 : Int64)), .second, .val (.long (20000 : Int64)), .second, .val (.int (0 : Int32)), .val (.long v4), .second, .val (.int (x1 &&& (3 : Int32))), .unset, .unset, .unset]) rfl ?_
    generalize hv5 : (x1 &&& (3 : Int32)) = v5
    refine Go.s_iload X3 hx (hb hby at_109) (q := 111) rfl rfl ?_
    refine Go.s_iconst X3 hx (hb hby at_111) (q := 112) rfl (z := 1) rfl ?_
    by_cases c112_6 : v5 = (1 : Int32)
    · -- pc 112: v5 = (1 : Int32)
      refine Go.s_icmpNo X3 hx (hb hby at_112) (q := 115) rfl (teq c112_6).2 ?_
      refine Go.s_lload X3 hx (hb hby at_115) (q := 117) rfl rfl ?_
      refine Go.s_lload X3 hx (hb hby at_117) (q := 119) rfl rfl ?_
      refine Go.s_ladd X3 hx (hb hby at_119) (q := 120) rfl ?_
      refine Go.s_lstore X3 hx (hb hby at_120) (q := 122) rfl (l' := #[.val (.int x0), .val (.int x1), .val (.long x2), .second, .val (.int v1), .val (.ref a_PROBE_EVERY), .val (.long (3000 : Int64)), .second, .val (.long (20000 : Int64)), .second, .val (.int (0 : Int32)), .val (.long v4), .second, .val (.int v5), .val (.long ((3000 : Int64) + v4)), .second, .unset]) rfl ?_
      generalize hv7 : ((3000 : Int64) + v4) = v7
      refine Go.s_goto X3 hx (hb hby at_122) (q := 144) (by decide) (by decide) ?_
      refine Go.s_iload X3 hx (hb hby at_144) (q := 146) rfl rfl ?_
      refine Go.s_ifYes X3 hx (hb hby at_146) (q := 167) (by decide) (by decide) ((if0 _ _).trans (teq (by decide : (0 : Int32) = (0 : Int32))).1) ?_
      refine Go.s_lload X3 hx (hb hby at_167) (q := 169) rfl rfl ?_
      refine Go.s_lload X3 hx (hb hby at_169) (q := 171) rfl rfl ?_
      refine Go.s_lcmp X3 hx (hb hby at_171) (q := 172) rfl ?_
      by_cases c172_8 : v7 < (3000 : Int64)
      · -- pc 172: v7 < (3000 : Int64)
        refine Go.s_ifYes X3 hx (hb hby at_172) (q := 187) (by decide) (by decide) ((if0 _ _).trans (tlt ((lw_lt v7 (3000 : Int64)).mpr c172_8)).1) ?_
        refine Go.s_iconst X3 hx (hb hby at_187) (q := 188) rfl (z := 0) rfl ?_
        refine Go.s_istore X3 hx (hb hby at_188) (q := 190) rfl (l' := #[.val (.int x0), .val (.int x1), .val (.long x2), .second, .val (.int v1), .val (.ref a_PROBE_EVERY), .val (.long (3000 : Int64)), .second, .val (.long (20000 : Int64)), .second, .val (.int (0 : Int32)), .val (.long v4), .second, .val (.int v5), .val (.long v7), .second, .val (.int (0 : Int32))]) rfl ?_
        refine Go.s_aload X3 hx (hb hby at_190) (q := 192) rfl rfl rfl ?_
        refine Go.s_lload X3 hx (hb hby at_192) (q := 194) rfl rfl ?_
        refine Go.callV (y := mn_1) (z := mn_1) X3 hx hZ hown (w_ hw 6 rfl) (w_ hw 7 rfl) (notFace_of_selects (args := #[]) (mvT hZ (w_ hw 9 rfl))) (w_ hw 9 rfl) (w_ hw 8 rfl) (w_ hw 10 rfl) (w_ hw 1 rfl) (by decide) e3 E_PROBE_EVERY (argsL := [(.long v7)]) (rest := []) (rm_ala_PROBE_EVERY l Z a0 hw v7 _ a_PROBE_EVERY a_SILENCE a_FIX_HEARTBEAT a_PROBE_WHEN_IDLE hctx') (by rw [hml]; rfl) (lenOf pd_0 rfl) rfl (hb hby at_194) (by decide) (by decide) (by decide) (Nat.le_of_ble_eq_true rfl) ?_
        intro r9 T9 L9 q9 X9
        obtain ⟨w9, rfl, p9, rfl, e9⟩ := q9
        rw [List.append_nil] at X9
        rcases p9 with ⟨u9_0_0, z9⟩ | ⟨u9_1_0, u9_1_1, z9⟩ | ⟨u9_2_0, u9_2_1, z9⟩
        · -- (0 : Int32)
          subst w9
          show Go p e below _ T9 (mkF m 197 #[.val (.int x0), .val (.int x1), .val (.long x2), .second, .val (.int v1), .val (.ref a_PROBE_EVERY), .val (.long (3000 : Int64)), .second, .val (.long (20000 : Int64)), .second, .val (.int (0 : Int32)), .val (.long v4), .second, .val (.int v5), .val (.long v7), .second, .val (.int (0 : Int32))] [(.int (0 : Int32))])
          refine Go.s_iload X9 hx (hb hby at_197) (q := 199) rfl rfl ?_
          refine Go.s_icmpNo X9 hx (hb hby at_199) (q := 202) rfl (teq (by decide : (0 : Int32) = (0 : Int32))).2 ?_
          refine Go.s_iconst X9 hx (hb hby at_202) (q := 203) rfl (z := 1) rfl ?_
          refine Go.s_goto X9 hx (hb hby at_203) (q := 207) (by decide) (by decide) ?_
          refine Go.retN X9 hx hlk hret (by simp) (hb hby at_207) (by decide) (by decide) ?_
          try rw [e9]
          exact ⟨by decide, rfl⟩
        · -- (0 : Int32)
          subst w9
          exact absurd c172_8 u9_1_0
        · -- (1 : Int32)
          subst w9
          exact absurd c172_8 u9_2_0
      · -- pc 172: not v7 < (3000 : Int64)
        refine Go.s_ifNo X3 hx (hb hby at_172) (q := 175) rfl ((if0 _ _).trans (flt (fun q => c172_8 ((lw_lt v7 (3000 : Int64)).mp q))).1) ?_
        refine Go.s_lload X3 hx (hb hby at_175) (q := 177) rfl rfl ?_
        refine Go.s_lload X3 hx (hb hby at_177) (q := 179) rfl rfl ?_
        refine Go.s_lcmp X3 hx (hb hby at_179) (q := 180) rfl ?_
        by_cases c180_10 : (20000 : Int64) < v7
        · -- pc 180: (20000 : Int64) < v7
          refine Go.s_ifYes X3 hx (hb hby at_180) (q := 187) (by decide) (by decide) ((if0 _ _).trans (tlt ((lw_gt v7 (20000 : Int64)).mpr c180_10)).2.2.1) ?_
          refine Go.s_iconst X3 hx (hb hby at_187) (q := 188) rfl (z := 0) rfl ?_
          refine Go.s_istore X3 hx (hb hby at_188) (q := 190) rfl (l' := #[.val (.int x0), .val (.int x1), .val (.long x2), .second, .val (.int v1), .val (.ref a_PROBE_EVERY), .val (.long (3000 : Int64)), .second, .val (.long (20000 : Int64)), .second, .val (.int (0 : Int32)), .val (.long v4), .second, .val (.int v5), .val (.long v7), .second, .val (.int (0 : Int32))]) rfl ?_
          refine Go.s_aload X3 hx (hb hby at_190) (q := 192) rfl rfl rfl ?_
          refine Go.s_lload X3 hx (hb hby at_192) (q := 194) rfl rfl ?_
          refine Go.callV (y := mn_1) (z := mn_1) X3 hx hZ hown (w_ hw 6 rfl) (w_ hw 7 rfl) (notFace_of_selects (args := #[]) (mvT hZ (w_ hw 9 rfl))) (w_ hw 9 rfl) (w_ hw 8 rfl) (w_ hw 10 rfl) (w_ hw 1 rfl) (by decide) e3 E_PROBE_EVERY (argsL := [(.long v7)]) (rest := []) (rm_ala_PROBE_EVERY l Z a0 hw v7 _ a_PROBE_EVERY a_SILENCE a_FIX_HEARTBEAT a_PROBE_WHEN_IDLE hctx') (by rw [hml]; rfl) (lenOf pd_0 rfl) rfl (hb hby at_194) (by decide) (by decide) (by decide) (Nat.le_of_ble_eq_true rfl) ?_
          intro r11 T11 L11 q11 X11
          obtain ⟨w11, rfl, p11, rfl, e11⟩ := q11
          rw [List.append_nil] at X11
          rcases p11 with ⟨u11_0_0, z11⟩ | ⟨u11_1_0, u11_1_1, z11⟩ | ⟨u11_2_0, u11_2_1, z11⟩
          · -- (0 : Int32)
            subst w11
            exact absurd u11_0_0 c172_8
          · -- (0 : Int32)
            subst w11
            show Go p e below _ T11 (mkF m 197 #[.val (.int x0), .val (.int x1), .val (.long x2), .second, .val (.int v1), .val (.ref a_PROBE_EVERY), .val (.long (3000 : Int64)), .second, .val (.long (20000 : Int64)), .second, .val (.int (0 : Int32)), .val (.long v4), .second, .val (.int v5), .val (.long v7), .second, .val (.int (0 : Int32))] [(.int (0 : Int32))])
            refine Go.s_iload X11 hx (hb hby at_197) (q := 199) rfl rfl ?_
            refine Go.s_icmpNo X11 hx (hb hby at_199) (q := 202) rfl (teq (by decide : (0 : Int32) = (0 : Int32))).2 ?_
            refine Go.s_iconst X11 hx (hb hby at_202) (q := 203) rfl (z := 1) rfl ?_
            refine Go.s_goto X11 hx (hb hby at_203) (q := 207) (by decide) (by decide) ?_
            refine Go.retN X11 hx hlk hret (by simp) (hb hby at_207) (by decide) (by decide) ?_
            try rw [e11]
            exact ⟨by decide, rfl⟩
          · -- (1 : Int32)
            subst w11
            exact absurd c180_10 u11_2_1
        · -- pc 180: not (20000 : Int64) < v7
          refine Go.s_ifNo X3 hx (hb hby at_180) (q := 183) rfl ((if0 _ _).trans (flt (fun q => c180_10 ((lw_gt v7 (20000 : Int64)).mp q))).2.2.1) ?_
          refine Go.s_iconst X3 hx (hb hby at_183) (q := 184) rfl (z := 1) rfl ?_
          refine Go.s_goto X3 hx (hb hby at_184) (q := 188) (by decide) (by decide) ?_
          refine Go.s_istore X3 hx (hb hby at_188) (q := 190) rfl (l' := #[.val (.int x0), .val (.int x1), .val (.long x2), .second, .val (.int v1), .val (.ref a_PROBE_EVERY), .val (.long (3000 : Int64)), .second, .val (.long (20000 : Int64)), .second, .val (.int (0 : Int32)), .val (.long v4), .second, .val (.int v5), .val (.long v7), .second, .val (.int (1 : Int32))]) rfl ?_
          refine Go.s_aload X3 hx (hb hby at_190) (q := 192) rfl rfl rfl ?_
          refine Go.s_lload X3 hx (hb hby at_192) (q := 194) rfl rfl ?_
          refine Go.callV (y := mn_1) (z := mn_1) X3 hx hZ hown (w_ hw 6 rfl) (w_ hw 7 rfl) (notFace_of_selects (args := #[]) (mvT hZ (w_ hw 9 rfl))) (w_ hw 9 rfl) (w_ hw 8 rfl) (w_ hw 10 rfl) (w_ hw 1 rfl) (by decide) e3 E_PROBE_EVERY (argsL := [(.long v7)]) (rest := []) (rm_ala_PROBE_EVERY l Z a0 hw v7 _ a_PROBE_EVERY a_SILENCE a_FIX_HEARTBEAT a_PROBE_WHEN_IDLE hctx') (by rw [hml]; rfl) (lenOf pd_0 rfl) rfl (hb hby at_194) (by decide) (by decide) (by decide) (Nat.le_of_ble_eq_true rfl) ?_
          intro r12 T12 L12 q12 X12
          obtain ⟨w12, rfl, p12, rfl, e12⟩ := q12
          rw [List.append_nil] at X12
          rcases p12 with ⟨u12_0_0, z12⟩ | ⟨u12_1_0, u12_1_1, z12⟩ | ⟨u12_2_0, u12_2_1, z12⟩
          · -- (0 : Int32)
            subst w12
            exact absurd u12_0_0 c172_8
          · -- (0 : Int32)
            subst w12
            exact absurd u12_1_1 c180_10
          · -- (1 : Int32)
            subst w12
            show Go p e below _ T12 (mkF m 197 #[.val (.int x0), .val (.int x1), .val (.long x2), .second, .val (.int v1), .val (.ref a_PROBE_EVERY), .val (.long (3000 : Int64)), .second, .val (.long (20000 : Int64)), .second, .val (.int (0 : Int32)), .val (.long v4), .second, .val (.int v5), .val (.long v7), .second, .val (.int (1 : Int32))] [(.int (1 : Int32))])
            refine Go.s_iload X12 hx (hb hby at_197) (q := 199) rfl rfl ?_
            refine Go.s_icmpNo X12 hx (hb hby at_199) (q := 202) rfl (teq (by decide : (1 : Int32) = (1 : Int32))).2 ?_
            refine Go.s_iconst X12 hx (hb hby at_202) (q := 203) rfl (z := 1) rfl ?_
            refine Go.s_goto X12 hx (hb hby at_203) (q := 207) (by decide) (by decide) ?_
            refine Go.retN X12 hx hlk hret (by simp) (hb hby at_207) (by decide) (by decide) ?_
            try rw [e12]
            exact ⟨by decide, rfl⟩
    · -- pc 112: not v5 = (1 : Int32)
      refine Go.s_icmpYes X3 hx (hb hby at_112) (q := 125) (by decide) (by decide) (feq c112_6).2 ?_
      refine Go.s_iload X3 hx (hb hby at_125) (q := 127) rfl rfl ?_
      refine Go.s_iconst X3 hx (hb hby at_127) (q := 128) rfl (z := 2) rfl ?_
      by_cases c128_13 : v5 = (2 : Int32)
      · -- pc 128: v5 = (2 : Int32)
        refine Go.s_icmpNo X3 hx (hb hby at_128) (q := 131) rfl (teq c128_13).2 ?_
        refine Go.s_lload X3 hx (hb hby at_131) (q := 133) rfl rfl ?_
        refine Go.s_lload X3 hx (hb hby at_133) (q := 135) rfl rfl ?_
        refine Go.s_ladd X3 hx (hb hby at_135) (q := 136) rfl ?_
        refine Go.s_lstore X3 hx (hb hby at_136) (q := 138) rfl (l' := #[.val (.int x0), .val (.int x1), .val (.long x2), .second, .val (.int v1), .val (.ref a_PROBE_EVERY), .val (.long (3000 : Int64)), .second, .val (.long (20000 : Int64)), .second, .val (.int (0 : Int32)), .val (.long v4), .second, .val (.int v5), .val (.long ((20000 : Int64) + v4)), .second, .unset]) rfl ?_
        generalize hv14 : ((20000 : Int64) + v4) = v14
        refine Go.s_goto X3 hx (hb hby at_138) (q := 144) (by decide) (by decide) ?_
        refine Go.s_iload X3 hx (hb hby at_144) (q := 146) rfl rfl ?_
        refine Go.s_ifYes X3 hx (hb hby at_146) (q := 167) (by decide) (by decide) ((if0 _ _).trans (teq (by decide : (0 : Int32) = (0 : Int32))).1) ?_
        refine Go.s_lload X3 hx (hb hby at_167) (q := 169) rfl rfl ?_
        refine Go.s_lload X3 hx (hb hby at_169) (q := 171) rfl rfl ?_
        refine Go.s_lcmp X3 hx (hb hby at_171) (q := 172) rfl ?_
        by_cases c172_15 : v14 < (3000 : Int64)
        · -- pc 172: v14 < (3000 : Int64)
          refine Go.s_ifYes X3 hx (hb hby at_172) (q := 187) (by decide) (by decide) ((if0 _ _).trans (tlt ((lw_lt v14 (3000 : Int64)).mpr c172_15)).1) ?_
          refine Go.s_iconst X3 hx (hb hby at_187) (q := 188) rfl (z := 0) rfl ?_
          refine Go.s_istore X3 hx (hb hby at_188) (q := 190) rfl (l' := #[.val (.int x0), .val (.int x1), .val (.long x2), .second, .val (.int v1), .val (.ref a_PROBE_EVERY), .val (.long (3000 : Int64)), .second, .val (.long (20000 : Int64)), .second, .val (.int (0 : Int32)), .val (.long v4), .second, .val (.int v5), .val (.long v14), .second, .val (.int (0 : Int32))]) rfl ?_
          refine Go.s_aload X3 hx (hb hby at_190) (q := 192) rfl rfl rfl ?_
          refine Go.s_lload X3 hx (hb hby at_192) (q := 194) rfl rfl ?_
          refine Go.callV (y := mn_1) (z := mn_1) X3 hx hZ hown (w_ hw 6 rfl) (w_ hw 7 rfl) (notFace_of_selects (args := #[]) (mvT hZ (w_ hw 9 rfl))) (w_ hw 9 rfl) (w_ hw 8 rfl) (w_ hw 10 rfl) (w_ hw 1 rfl) (by decide) e3 E_PROBE_EVERY (argsL := [(.long v14)]) (rest := []) (rm_ala_PROBE_EVERY l Z a0 hw v14 _ a_PROBE_EVERY a_SILENCE a_FIX_HEARTBEAT a_PROBE_WHEN_IDLE hctx') (by rw [hml]; rfl) (lenOf pd_0 rfl) rfl (hb hby at_194) (by decide) (by decide) (by decide) (Nat.le_of_ble_eq_true rfl) ?_
          intro r16 T16 L16 q16 X16
          obtain ⟨w16, rfl, p16, rfl, e16⟩ := q16
          rw [List.append_nil] at X16
          rcases p16 with ⟨u16_0_0, z16⟩ | ⟨u16_1_0, u16_1_1, z16⟩ | ⟨u16_2_0, u16_2_1, z16⟩
          · -- (0 : Int32)
            subst w16
            show Go p e below _ T16 (mkF m 197 #[.val (.int x0), .val (.int x1), .val (.long x2), .second, .val (.int v1), .val (.ref a_PROBE_EVERY), .val (.long (3000 : Int64)), .second, .val (.long (20000 : Int64)), .second, .val (.int (0 : Int32)), .val (.long v4), .second, .val (.int v5), .val (.long v14), .second, .val (.int (0 : Int32))] [(.int (0 : Int32))])
            refine Go.s_iload X16 hx (hb hby at_197) (q := 199) rfl rfl ?_
            refine Go.s_icmpNo X16 hx (hb hby at_199) (q := 202) rfl (teq (by decide : (0 : Int32) = (0 : Int32))).2 ?_
            refine Go.s_iconst X16 hx (hb hby at_202) (q := 203) rfl (z := 1) rfl ?_
            refine Go.s_goto X16 hx (hb hby at_203) (q := 207) (by decide) (by decide) ?_
            refine Go.retN X16 hx hlk hret (by simp) (hb hby at_207) (by decide) (by decide) ?_
            try rw [e16]
            exact ⟨by decide, rfl⟩
          · -- (0 : Int32)
            subst w16
            exact absurd c172_15 u16_1_0
          · -- (1 : Int32)
            subst w16
            exact absurd c172_15 u16_2_0
        · -- pc 172: not v14 < (3000 : Int64)
          refine Go.s_ifNo X3 hx (hb hby at_172) (q := 175) rfl ((if0 _ _).trans (flt (fun q => c172_15 ((lw_lt v14 (3000 : Int64)).mp q))).1) ?_
          refine Go.s_lload X3 hx (hb hby at_175) (q := 177) rfl rfl ?_
          refine Go.s_lload X3 hx (hb hby at_177) (q := 179) rfl rfl ?_
          refine Go.s_lcmp X3 hx (hb hby at_179) (q := 180) rfl ?_
          by_cases c180_17 : (20000 : Int64) < v14
          · -- pc 180: (20000 : Int64) < v14
            refine Go.s_ifYes X3 hx (hb hby at_180) (q := 187) (by decide) (by decide) ((if0 _ _).trans (tlt ((lw_gt v14 (20000 : Int64)).mpr c180_17)).2.2.1) ?_
            refine Go.s_iconst X3 hx (hb hby at_187) (q := 188) rfl (z := 0) rfl ?_
            refine Go.s_istore X3 hx (hb hby at_188) (q := 190) rfl (l' := #[.val (.int x0), .val (.int x1), .val (.long x2), .second, .val (.int v1), .val (.ref a_PROBE_EVERY), .val (.long (3000 : Int64)), .second, .val (.long (20000 : Int64)), .second, .val (.int (0 : Int32)), .val (.long v4), .second, .val (.int v5), .val (.long v14), .second, .val (.int (0 : Int32))]) rfl ?_
            refine Go.s_aload X3 hx (hb hby at_190) (q := 192) rfl rfl rfl ?_
            refine Go.s_lload X3 hx (hb hby at_192) (q := 194) rfl rfl ?_
            refine Go.callV (y := mn_1) (z := mn_1) X3 hx hZ hown (w_ hw 6 rfl) (w_ hw 7 rfl) (notFace_of_selects (args := #[]) (mvT hZ (w_ hw 9 rfl))) (w_ hw 9 rfl) (w_ hw 8 rfl) (w_ hw 10 rfl) (w_ hw 1 rfl) (by decide) e3 E_PROBE_EVERY (argsL := [(.long v14)]) (rest := []) (rm_ala_PROBE_EVERY l Z a0 hw v14 _ a_PROBE_EVERY a_SILENCE a_FIX_HEARTBEAT a_PROBE_WHEN_IDLE hctx') (by rw [hml]; rfl) (lenOf pd_0 rfl) rfl (hb hby at_194) (by decide) (by decide) (by decide) (Nat.le_of_ble_eq_true rfl) ?_
            intro r18 T18 L18 q18 X18
            obtain ⟨w18, rfl, p18, rfl, e18⟩ := q18
            rw [List.append_nil] at X18
            rcases p18 with ⟨u18_0_0, z18⟩ | ⟨u18_1_0, u18_1_1, z18⟩ | ⟨u18_2_0, u18_2_1, z18⟩
            · -- (0 : Int32)
              subst w18
              exact absurd u18_0_0 c172_15
            · -- (0 : Int32)
              subst w18
              show Go p e below _ T18 (mkF m 197 #[.val (.int x0), .val (.int x1), .val (.long x2), .second, .val (.int v1), .val (.ref a_PROBE_EVERY), .val (.long (3000 : Int64)), .second, .val (.long (20000 : Int64)), .second, .val (.int (0 : Int32)), .val (.long v4), .second, .val (.int v5), .val (.long v14), .second, .val (.int (0 : Int32))] [(.int (0 : Int32))])
              refine Go.s_iload X18 hx (hb hby at_197) (q := 199) rfl rfl ?_
              refine Go.s_icmpNo X18 hx (hb hby at_199) (q := 202) rfl (teq (by decide : (0 : Int32) = (0 : Int32))).2 ?_
              refine Go.s_iconst X18 hx (hb hby at_202) (q := 203) rfl (z := 1) rfl ?_
              refine Go.s_goto X18 hx (hb hby at_203) (q := 207) (by decide) (by decide) ?_
              refine Go.retN X18 hx hlk hret (by simp) (hb hby at_207) (by decide) (by decide) ?_
              try rw [e18]
              exact ⟨by decide, rfl⟩
            · -- (1 : Int32)
              subst w18
              exact absurd c180_17 u18_2_1
          · -- pc 180: not (20000 : Int64) < v14
            refine Go.s_ifNo X3 hx (hb hby at_180) (q := 183) rfl ((if0 _ _).trans (flt (fun q => c180_17 ((lw_gt v14 (20000 : Int64)).mp q))).2.2.1) ?_
            refine Go.s_iconst X3 hx (hb hby at_183) (q := 184) rfl (z := 1) rfl ?_
            refine Go.s_goto X3 hx (hb hby at_184) (q := 188) (by decide) (by decide) ?_
            refine Go.s_istore X3 hx (hb hby at_188) (q := 190) rfl (l' := #[.val (.int x0), .val (.int x1), .val (.long x2), .second, .val (.int v1), .val (.ref a_PROBE_EVERY), .val (.long (3000 : Int64)), .second, .val (.long (20000 : Int64)), .second, .val (.int (0 : Int32)), .val (.long v4), .second, .val (.int v5), .val (.long v14), .second, .val (.int (1 : Int32))]) rfl ?_
            refine Go.s_aload X3 hx (hb hby at_190) (q := 192) rfl rfl rfl ?_
            refine Go.s_lload X3 hx (hb hby at_192) (q := 194) rfl rfl ?_
            refine Go.callV (y := mn_1) (z := mn_1) X3 hx hZ hown (w_ hw 6 rfl) (w_ hw 7 rfl) (notFace_of_selects (args := #[]) (mvT hZ (w_ hw 9 rfl))) (w_ hw 9 rfl) (w_ hw 8 rfl) (w_ hw 10 rfl) (w_ hw 1 rfl) (by decide) e3 E_PROBE_EVERY (argsL := [(.long v14)]) (rest := []) (rm_ala_PROBE_EVERY l Z a0 hw v14 _ a_PROBE_EVERY a_SILENCE a_FIX_HEARTBEAT a_PROBE_WHEN_IDLE hctx') (by rw [hml]; rfl) (lenOf pd_0 rfl) rfl (hb hby at_194) (by decide) (by decide) (by decide) (Nat.le_of_ble_eq_true rfl) ?_
            intro r19 T19 L19 q19 X19
            obtain ⟨w19, rfl, p19, rfl, e19⟩ := q19
            rw [List.append_nil] at X19
            rcases p19 with ⟨u19_0_0, z19⟩ | ⟨u19_1_0, u19_1_1, z19⟩ | ⟨u19_2_0, u19_2_1, z19⟩
            · -- (0 : Int32)
              subst w19
              exact absurd u19_0_0 c172_15
            · -- (0 : Int32)
              subst w19
              exact absurd u19_1_1 c180_17
            · -- (1 : Int32)
              subst w19
              show Go p e below _ T19 (mkF m 197 #[.val (.int x0), .val (.int x1), .val (.long x2), .second, .val (.int v1), .val (.ref a_PROBE_EVERY), .val (.long (3000 : Int64)), .second, .val (.long (20000 : Int64)), .second, .val (.int (0 : Int32)), .val (.long v4), .second, .val (.int v5), .val (.long v14), .second, .val (.int (1 : Int32))] [(.int (1 : Int32))])
              refine Go.s_iload X19 hx (hb hby at_197) (q := 199) rfl rfl ?_
              refine Go.s_icmpNo X19 hx (hb hby at_199) (q := 202) rfl (teq (by decide : (1 : Int32) = (1 : Int32))).2 ?_
              refine Go.s_iconst X19 hx (hb hby at_202) (q := 203) rfl (z := 1) rfl ?_
              refine Go.s_goto X19 hx (hb hby at_203) (q := 207) (by decide) (by decide) ?_
              refine Go.retN X19 hx hlk hret (by simp) (hb hby at_207) (by decide) (by decide) ?_
              try rw [e19]
              exact ⟨by decide, rfl⟩
      · -- pc 128: not v5 = (2 : Int32)
        refine Go.s_icmpYes X3 hx (hb hby at_128) (q := 141) (by decide) (by decide) (feq c128_13).2 ?_
        refine Go.s_lloadN X3 hx (hb hby at_141) (q := 142) rfl rfl ?_
        refine Go.s_lstore X3 hx (hb hby at_142) (q := 144) rfl (l' := #[.val (.int x0), .val (.int x1), .val (.long x2), .second, .val (.int v1), .val (.ref a_PROBE_EVERY), .val (.long (3000 : Int64)), .second, .val (.long (20000 : Int64)), .second, .val (.int (0 : Int32)), .val (.long v4), .second, .val (.int v5), .val (.long x2), .second, .unset]) rfl ?_
        refine Go.s_iload X3 hx (hb hby at_144) (q := 146) rfl rfl ?_
        refine Go.s_ifYes X3 hx (hb hby at_146) (q := 167) (by decide) (by decide) ((if0 _ _).trans (teq (by decide : (0 : Int32) = (0 : Int32))).1) ?_
        refine Go.s_lload X3 hx (hb hby at_167) (q := 169) rfl rfl ?_
        refine Go.s_lload X3 hx (hb hby at_169) (q := 171) rfl rfl ?_
        refine Go.s_lcmp X3 hx (hb hby at_171) (q := 172) rfl ?_
        by_cases c172_20 : x2 < (3000 : Int64)
        · -- pc 172: x2 < (3000 : Int64)
          refine Go.s_ifYes X3 hx (hb hby at_172) (q := 187) (by decide) (by decide) ((if0 _ _).trans (tlt ((lw_lt x2 (3000 : Int64)).mpr c172_20)).1) ?_
          refine Go.s_iconst X3 hx (hb hby at_187) (q := 188) rfl (z := 0) rfl ?_
          refine Go.s_istore X3 hx (hb hby at_188) (q := 190) rfl (l' := #[.val (.int x0), .val (.int x1), .val (.long x2), .second, .val (.int v1), .val (.ref a_PROBE_EVERY), .val (.long (3000 : Int64)), .second, .val (.long (20000 : Int64)), .second, .val (.int (0 : Int32)), .val (.long v4), .second, .val (.int v5), .val (.long x2), .second, .val (.int (0 : Int32))]) rfl ?_
          refine Go.s_aload X3 hx (hb hby at_190) (q := 192) rfl rfl rfl ?_
          refine Go.s_lload X3 hx (hb hby at_192) (q := 194) rfl rfl ?_
          refine Go.callV (y := mn_1) (z := mn_1) X3 hx hZ hown (w_ hw 6 rfl) (w_ hw 7 rfl) (notFace_of_selects (args := #[]) (mvT hZ (w_ hw 9 rfl))) (w_ hw 9 rfl) (w_ hw 8 rfl) (w_ hw 10 rfl) (w_ hw 1 rfl) (by decide) e3 E_PROBE_EVERY (argsL := [(.long x2)]) (rest := []) (rm_ala_PROBE_EVERY l Z a0 hw x2 _ a_PROBE_EVERY a_SILENCE a_FIX_HEARTBEAT a_PROBE_WHEN_IDLE hctx') (by rw [hml]; rfl) (lenOf pd_0 rfl) rfl (hb hby at_194) (by decide) (by decide) (by decide) (Nat.le_of_ble_eq_true rfl) ?_
          intro r21 T21 L21 q21 X21
          obtain ⟨w21, rfl, p21, rfl, e21⟩ := q21
          rw [List.append_nil] at X21
          rcases p21 with ⟨u21_0_0, z21⟩ | ⟨u21_1_0, u21_1_1, z21⟩ | ⟨u21_2_0, u21_2_1, z21⟩
          · -- (0 : Int32)
            subst w21
            show Go p e below _ T21 (mkF m 197 #[.val (.int x0), .val (.int x1), .val (.long x2), .second, .val (.int v1), .val (.ref a_PROBE_EVERY), .val (.long (3000 : Int64)), .second, .val (.long (20000 : Int64)), .second, .val (.int (0 : Int32)), .val (.long v4), .second, .val (.int v5), .val (.long x2), .second, .val (.int (0 : Int32))] [(.int (0 : Int32))])
            refine Go.s_iload X21 hx (hb hby at_197) (q := 199) rfl rfl ?_
            refine Go.s_icmpNo X21 hx (hb hby at_199) (q := 202) rfl (teq (by decide : (0 : Int32) = (0 : Int32))).2 ?_
            refine Go.s_iconst X21 hx (hb hby at_202) (q := 203) rfl (z := 1) rfl ?_
            refine Go.s_goto X21 hx (hb hby at_203) (q := 207) (by decide) (by decide) ?_
            refine Go.retN X21 hx hlk hret (by simp) (hb hby at_207) (by decide) (by decide) ?_
            try rw [e21]
            exact ⟨by decide, rfl⟩
          · -- (0 : Int32)
            subst w21
            exact absurd c172_20 u21_1_0
          · -- (1 : Int32)
            subst w21
            exact absurd c172_20 u21_2_0
        · -- pc 172: not x2 < (3000 : Int64)
          refine Go.s_ifNo X3 hx (hb hby at_172) (q := 175) rfl ((if0 _ _).trans (flt (fun q => c172_20 ((lw_lt x2 (3000 : Int64)).mp q))).1) ?_
          refine Go.s_lload X3 hx (hb hby at_175) (q := 177) rfl rfl ?_
          refine Go.s_lload X3 hx (hb hby at_177) (q := 179) rfl rfl ?_
          refine Go.s_lcmp X3 hx (hb hby at_179) (q := 180) rfl ?_
          by_cases c180_22 : (20000 : Int64) < x2
          · -- pc 180: (20000 : Int64) < x2
            refine Go.s_ifYes X3 hx (hb hby at_180) (q := 187) (by decide) (by decide) ((if0 _ _).trans (tlt ((lw_gt x2 (20000 : Int64)).mpr c180_22)).2.2.1) ?_
            refine Go.s_iconst X3 hx (hb hby at_187) (q := 188) rfl (z := 0) rfl ?_
            refine Go.s_istore X3 hx (hb hby at_188) (q := 190) rfl (l' := #[.val (.int x0), .val (.int x1), .val (.long x2), .second, .val (.int v1), .val (.ref a_PROBE_EVERY), .val (.long (3000 : Int64)), .second, .val (.long (20000 : Int64)), .second, .val (.int (0 : Int32)), .val (.long v4), .second, .val (.int v5), .val (.long x2), .second, .val (.int (0 : Int32))]) rfl ?_
            refine Go.s_aload X3 hx (hb hby at_190) (q := 192) rfl rfl rfl ?_
            refine Go.s_lload X3 hx (hb hby at_192) (q := 194) rfl rfl ?_
            refine Go.callV (y := mn_1) (z := mn_1) X3 hx hZ hown (w_ hw 6 rfl) (w_ hw 7 rfl) (notFace_of_selects (args := #[]) (mvT hZ (w_ hw 9 rfl))) (w_ hw 9 rfl) (w_ hw 8 rfl) (w_ hw 10 rfl) (w_ hw 1 rfl) (by decide) e3 E_PROBE_EVERY (argsL := [(.long x2)]) (rest := []) (rm_ala_PROBE_EVERY l Z a0 hw x2 _ a_PROBE_EVERY a_SILENCE a_FIX_HEARTBEAT a_PROBE_WHEN_IDLE hctx') (by rw [hml]; rfl) (lenOf pd_0 rfl) rfl (hb hby at_194) (by decide) (by decide) (by decide) (Nat.le_of_ble_eq_true rfl) ?_
            intro r23 T23 L23 q23 X23
            obtain ⟨w23, rfl, p23, rfl, e23⟩ := q23
            rw [List.append_nil] at X23
            rcases p23 with ⟨u23_0_0, z23⟩ | ⟨u23_1_0, u23_1_1, z23⟩ | ⟨u23_2_0, u23_2_1, z23⟩
            · -- (0 : Int32)
              subst w23
              exact absurd u23_0_0 c172_20
            · -- (0 : Int32)
              subst w23
              show Go p e below _ T23 (mkF m 197 #[.val (.int x0), .val (.int x1), .val (.long x2), .second, .val (.int v1), .val (.ref a_PROBE_EVERY), .val (.long (3000 : Int64)), .second, .val (.long (20000 : Int64)), .second, .val (.int (0 : Int32)), .val (.long v4), .second, .val (.int v5), .val (.long x2), .second, .val (.int (0 : Int32))] [(.int (0 : Int32))])
              refine Go.s_iload X23 hx (hb hby at_197) (q := 199) rfl rfl ?_
              refine Go.s_icmpNo X23 hx (hb hby at_199) (q := 202) rfl (teq (by decide : (0 : Int32) = (0 : Int32))).2 ?_
              refine Go.s_iconst X23 hx (hb hby at_202) (q := 203) rfl (z := 1) rfl ?_
              refine Go.s_goto X23 hx (hb hby at_203) (q := 207) (by decide) (by decide) ?_
              refine Go.retN X23 hx hlk hret (by simp) (hb hby at_207) (by decide) (by decide) ?_
              try rw [e23]
              exact ⟨by decide, rfl⟩
            · -- (1 : Int32)
              subst w23
              exact absurd c180_22 u23_2_1
          · -- pc 180: not (20000 : Int64) < x2
            refine Go.s_ifNo X3 hx (hb hby at_180) (q := 183) rfl ((if0 _ _).trans (flt (fun q => c180_22 ((lw_gt x2 (20000 : Int64)).mp q))).2.2.1) ?_
            refine Go.s_iconst X3 hx (hb hby at_183) (q := 184) rfl (z := 1) rfl ?_
            refine Go.s_goto X3 hx (hb hby at_184) (q := 188) (by decide) (by decide) ?_
            refine Go.s_istore X3 hx (hb hby at_188) (q := 190) rfl (l' := #[.val (.int x0), .val (.int x1), .val (.long x2), .second, .val (.int v1), .val (.ref a_PROBE_EVERY), .val (.long (3000 : Int64)), .second, .val (.long (20000 : Int64)), .second, .val (.int (0 : Int32)), .val (.long v4), .second, .val (.int v5), .val (.long x2), .second, .val (.int (1 : Int32))]) rfl ?_
            refine Go.s_aload X3 hx (hb hby at_190) (q := 192) rfl rfl rfl ?_
            refine Go.s_lload X3 hx (hb hby at_192) (q := 194) rfl rfl ?_
            refine Go.callV (y := mn_1) (z := mn_1) X3 hx hZ hown (w_ hw 6 rfl) (w_ hw 7 rfl) (notFace_of_selects (args := #[]) (mvT hZ (w_ hw 9 rfl))) (w_ hw 9 rfl) (w_ hw 8 rfl) (w_ hw 10 rfl) (w_ hw 1 rfl) (by decide) e3 E_PROBE_EVERY (argsL := [(.long x2)]) (rest := []) (rm_ala_PROBE_EVERY l Z a0 hw x2 _ a_PROBE_EVERY a_SILENCE a_FIX_HEARTBEAT a_PROBE_WHEN_IDLE hctx') (by rw [hml]; rfl) (lenOf pd_0 rfl) rfl (hb hby at_194) (by decide) (by decide) (by decide) (Nat.le_of_ble_eq_true rfl) ?_
            intro r24 T24 L24 q24 X24
            obtain ⟨w24, rfl, p24, rfl, e24⟩ := q24
            rw [List.append_nil] at X24
            rcases p24 with ⟨u24_0_0, z24⟩ | ⟨u24_1_0, u24_1_1, z24⟩ | ⟨u24_2_0, u24_2_1, z24⟩
            · -- (0 : Int32)
              subst w24
              exact absurd u24_0_0 c172_20
            · -- (0 : Int32)
              subst w24
              exact absurd u24_1_1 c180_22
            · -- (1 : Int32)
              subst w24
              show Go p e below _ T24 (mkF m 197 #[.val (.int x0), .val (.int x1), .val (.long x2), .second, .val (.int v1), .val (.ref a_PROBE_EVERY), .val (.long (3000 : Int64)), .second, .val (.long (20000 : Int64)), .second, .val (.int (0 : Int32)), .val (.long v4), .second, .val (.int v5), .val (.long x2), .second, .val (.int (1 : Int32))] [(.int (1 : Int32))])
              refine Go.s_iload X24 hx (hb hby at_197) (q := 199) rfl rfl ?_
              refine Go.s_icmpNo X24 hx (hb hby at_199) (q := 202) rfl (teq (by decide : (1 : Int32) = (1 : Int32))).2 ?_
              refine Go.s_iconst X24 hx (hb hby at_202) (q := 203) rfl (z := 1) rfl ?_
              refine Go.s_goto X24 hx (hb hby at_203) (q := 207) (by decide) (by decide) ?_
              refine Go.retN X24 hx hlk hret (by simp) (hb hby at_207) (by decide) (by decide) ?_
              try rw [e24]
              exact ⟨by decide, rfl⟩
  · -- pc 10: not v1 = (0 : Int32)
    refine Go.s_ifYes X0 hx (hb hby at_10) (q := 31) (by decide) (by decide) ((if0 _ _).trans (feq c10_2).2) ?_
    refine Go.s_iload X0 hx (hb hby at_31) (q := 33) rfl rfl ?_
    refine Go.s_iconst X0 hx (hb hby at_33) (q := 34) rfl (z := 1) rfl ?_
    by_cases c34_25 : v1 = (1 : Int32)
    · -- pc 34: v1 = (1 : Int32)
      refine Go.s_icmpNo X0 hx (hb hby at_34) (q := 37) rfl (teq c34_25).2 ?_
      refine Go.getS X0 hx hZ hown (w_ hw 23 rfl) Via.refl e0 S_PROBE_WHEN_IDLE (hb hby at_37) ?_
      intro T26 X26 e26
      show Go p e below _ T26 (mkF m 40 #[.val (.int x0), .val (.int x1), .val (.long x2), .second, .val (.int v1), .unset, .unset, .unset, .unset, .unset, .val (.int (0 : Int32)), .unset, .unset, .unset, .unset, .unset, .unset] [(.ref a_PROBE_WHEN_IDLE)])
      refine Go.s_astore X26 hx (hb hby at_40) (q := 42) rfl rfl (l' := #[.val (.int x0), .val (.int x1), .val (.long x2), .second, .val (.int v1), .val (.ref a_PROBE_WHEN_IDLE), .unset, .unset, .unset, .unset, .val (.int (0 : Int32)), .unset, .unset, .unset, .unset, .unset, .unset]) rfl ?_
      refine Go.s_ldc2 X26 hx (hb hby at_42) (q := 45) rfl hown (mvT hZ (w_ hw 3 rfl)) ?_
      refine Go.s_lstore X26 hx (hb hby at_45) (q := 47) rfl (l' := #[.val (.int x0), .val (.int x1), .val (.long x2), .second, .val (.int v1), .val (.ref a_PROBE_WHEN_IDLE), .val (.long (3000 : Int64)), .second, .unset, .unset, .val (.int (0 : Int32)), .unset, .unset, .unset, .unset, .unset, .unset]) rfl ?_
      refine Go.s_ldc2 X26 hx (hb hby at_47) (q := 50) rfl hown (mvT hZ (w_ hw 4 rfl)) ?_
      refine Go.s_lstore X26 hx (hb hby at_50) (q := 52) rfl (l' := #[.val (.int x0), .val (.int x1), .val (.long x2), .second, .val (.int v1), .val (.ref a_PROBE_WHEN_IDLE), .val (.long (3000 : Int64)), .second, .val (.long (20000 : Int64)), .second, .val (.int (0 : Int32)), .unset, .unset, .unset, .unset, .unset, .unset]) rfl ?_
      refine Go.s_goto X26 hx (hb hby at_52) (q := 97) (by decide) (by decide) ?_
      refine Go.s_lloadN X26 hx (hb hby at_97) (q := 98) rfl rfl ?_
      refine Go.s_ldc2 X26 hx (hb hby at_98) (q := 101) rfl hown (mvT hZ (w_ hw 5 rfl)) ?_
      refine Go.s_lrem X26 hx (hb hby at_101) (q := 102) rfl (by decide) ?_
      refine Go.s_lstore X26 hx (hb hby at_102) (q := 104) rfl (l' := #[.val (.int x0), .val (.int x1), .val (.long x2), .second, .val (.int v1), .val (.ref a_PROBE_WHEN_IDLE), .val (.long (3000 : Int64)), .second, .val (.long (20000 : Int64)), .second, .val (.int (0 : Int32)), .val (.long (x2 - (x2 / (3 : Int64)) * (3 : Int64))), .second, .unset, .unset, .unset, .unset]) rfl ?_
      generalize hv27 : (x2 - (x2 / (3 : Int64)) * (3 : Int64)) = v27
      refine Go.s_iloadN X26 hx (hb hby at_104) (q := 105) rfl rfl ?_
      refine Go.s_iconst X26 hx (hb hby at_105) (q := 106) rfl (z := 3) rfl ?_
      refine Go.s_iand X26 hx (hb hby at_106) (q := 107) rfl ?_
      refine Go.s_istore X26 hx (hb hby at_107) (q := 109) rfl (l' := #[.val (.int x0), .val (.int x1), .val (.long x2), .second, .val (.int v1), .val (.ref a_PROBE_WHEN_IDLE), .val (.long (3000 : Int64)), .second, .val (.long (20000 : Int64)), .second, .val (.int (0 : Int32)), .val (.long v27), .second, .val (.int (x1 &&& (3 : Int32))), .unset, .unset, .unset]) rfl ?_
      generalize hv28 : (x1 &&& (3 : Int32)) = v28
      refine Go.s_iload X26 hx (hb hby at_109) (q := 111) rfl rfl ?_
      refine Go.s_iconst X26 hx (hb hby at_111) (q := 112) rfl (z := 1) rfl ?_
      by_cases c112_29 : v28 = (1 : Int32)
      · -- pc 112: v28 = (1 : Int32)
        refine Go.s_icmpNo X26 hx (hb hby at_112) (q := 115) rfl (teq c112_29).2 ?_
        refine Go.s_lload X26 hx (hb hby at_115) (q := 117) rfl rfl ?_
        refine Go.s_lload X26 hx (hb hby at_117) (q := 119) rfl rfl ?_
        refine Go.s_ladd X26 hx (hb hby at_119) (q := 120) rfl ?_
        refine Go.s_lstore X26 hx (hb hby at_120) (q := 122) rfl (l' := #[.val (.int x0), .val (.int x1), .val (.long x2), .second, .val (.int v1), .val (.ref a_PROBE_WHEN_IDLE), .val (.long (3000 : Int64)), .second, .val (.long (20000 : Int64)), .second, .val (.int (0 : Int32)), .val (.long v27), .second, .val (.int v28), .val (.long ((3000 : Int64) + v27)), .second, .unset]) rfl ?_
        generalize hv30 : ((3000 : Int64) + v27) = v30
        refine Go.s_goto X26 hx (hb hby at_122) (q := 144) (by decide) (by decide) ?_
        refine Go.s_iload X26 hx (hb hby at_144) (q := 146) rfl rfl ?_
        refine Go.s_ifYes X26 hx (hb hby at_146) (q := 167) (by decide) (by decide) ((if0 _ _).trans (teq (by decide : (0 : Int32) = (0 : Int32))).1) ?_
        refine Go.s_lload X26 hx (hb hby at_167) (q := 169) rfl rfl ?_
        refine Go.s_lload X26 hx (hb hby at_169) (q := 171) rfl rfl ?_
        refine Go.s_lcmp X26 hx (hb hby at_171) (q := 172) rfl ?_
        by_cases c172_31 : v30 < (3000 : Int64)
        · -- pc 172: v30 < (3000 : Int64)
          refine Go.s_ifYes X26 hx (hb hby at_172) (q := 187) (by decide) (by decide) ((if0 _ _).trans (tlt ((lw_lt v30 (3000 : Int64)).mpr c172_31)).1) ?_
          refine Go.s_iconst X26 hx (hb hby at_187) (q := 188) rfl (z := 0) rfl ?_
          refine Go.s_istore X26 hx (hb hby at_188) (q := 190) rfl (l' := #[.val (.int x0), .val (.int x1), .val (.long x2), .second, .val (.int v1), .val (.ref a_PROBE_WHEN_IDLE), .val (.long (3000 : Int64)), .second, .val (.long (20000 : Int64)), .second, .val (.int (0 : Int32)), .val (.long v27), .second, .val (.int v28), .val (.long v30), .second, .val (.int (0 : Int32))]) rfl ?_
          refine Go.s_aload X26 hx (hb hby at_190) (q := 192) rfl rfl rfl ?_
          refine Go.s_lload X26 hx (hb hby at_192) (q := 194) rfl rfl ?_
          refine Go.callV (y := mn_1) (z := mn_1) X26 hx hZ hown (w_ hw 6 rfl) (w_ hw 7 rfl) (notFace_of_selects (args := #[]) (mvT hZ (w_ hw 9 rfl))) (w_ hw 9 rfl) (w_ hw 8 rfl) (w_ hw 10 rfl) (w_ hw 1 rfl) (by decide) e26 E_PROBE_WHEN_IDLE (argsL := [(.long v30)]) (rest := []) (rm_ala_PROBE_WHEN_IDLE l Z a0 hw v30 _ a_PROBE_EVERY a_SILENCE a_FIX_HEARTBEAT a_PROBE_WHEN_IDLE hctx') (by rw [hml]; rfl) (lenOf pd_0 rfl) rfl (hb hby at_194) (by decide) (by decide) (by decide) (Nat.le_of_ble_eq_true rfl) ?_
          intro r32 T32 L32 q32 X32
          obtain ⟨w32, rfl, p32, rfl, e32⟩ := q32
          rw [List.append_nil] at X32
          rcases p32 with ⟨u32_0_0, z32⟩ | ⟨u32_1_0, u32_1_1, z32⟩ | ⟨u32_2_0, u32_2_1, z32⟩
          · -- (0 : Int32)
            subst w32
            show Go p e below _ T32 (mkF m 197 #[.val (.int x0), .val (.int x1), .val (.long x2), .second, .val (.int v1), .val (.ref a_PROBE_WHEN_IDLE), .val (.long (3000 : Int64)), .second, .val (.long (20000 : Int64)), .second, .val (.int (0 : Int32)), .val (.long v27), .second, .val (.int v28), .val (.long v30), .second, .val (.int (0 : Int32))] [(.int (0 : Int32))])
            refine Go.s_iload X32 hx (hb hby at_197) (q := 199) rfl rfl ?_
            refine Go.s_icmpNo X32 hx (hb hby at_199) (q := 202) rfl (teq (by decide : (0 : Int32) = (0 : Int32))).2 ?_
            refine Go.s_iconst X32 hx (hb hby at_202) (q := 203) rfl (z := 1) rfl ?_
            refine Go.s_goto X32 hx (hb hby at_203) (q := 207) (by decide) (by decide) ?_
            refine Go.retN X32 hx hlk hret (by simp) (hb hby at_207) (by decide) (by decide) ?_
            try rw [e32]
            exact ⟨by decide, rfl⟩
          · -- (0 : Int32)
            subst w32
            exact absurd c172_31 u32_1_0
          · -- (1 : Int32)
            subst w32
            exact absurd c172_31 u32_2_0
        · -- pc 172: not v30 < (3000 : Int64)
          refine Go.s_ifNo X26 hx (hb hby at_172) (q := 175) rfl ((if0 _ _).trans (flt (fun q => c172_31 ((lw_lt v30 (3000 : Int64)).mp q))).1) ?_
          refine Go.s_lload X26 hx (hb hby at_175) (q := 177) rfl rfl ?_
          refine Go.s_lload X26 hx (hb hby at_177) (q := 179) rfl rfl ?_
          refine Go.s_lcmp X26 hx (hb hby at_179) (q := 180) rfl ?_
          by_cases c180_33 : (20000 : Int64) < v30
          · -- pc 180: (20000 : Int64) < v30
            refine Go.s_ifYes X26 hx (hb hby at_180) (q := 187) (by decide) (by decide) ((if0 _ _).trans (tlt ((lw_gt v30 (20000 : Int64)).mpr c180_33)).2.2.1) ?_
            refine Go.s_iconst X26 hx (hb hby at_187) (q := 188) rfl (z := 0) rfl ?_
            refine Go.s_istore X26 hx (hb hby at_188) (q := 190) rfl (l' := #[.val (.int x0), .val (.int x1), .val (.long x2), .second, .val (.int v1), .val (.ref a_PROBE_WHEN_IDLE), .val (.long (3000 : Int64)), .second, .val (.long (20000 : Int64)), .second, .val (.int (0 : Int32)), .val (.long v27), .second, .val (.int v28), .val (.long v30), .second, .val (.int (0 : Int32))]) rfl ?_
            refine Go.s_aload X26 hx (hb hby at_190) (q := 192) rfl rfl rfl ?_
            refine Go.s_lload X26 hx (hb hby at_192) (q := 194) rfl rfl ?_
            refine Go.callV (y := mn_1) (z := mn_1) X26 hx hZ hown (w_ hw 6 rfl) (w_ hw 7 rfl) (notFace_of_selects (args := #[]) (mvT hZ (w_ hw 9 rfl))) (w_ hw 9 rfl) (w_ hw 8 rfl) (w_ hw 10 rfl) (w_ hw 1 rfl) (by decide) e26 E_PROBE_WHEN_IDLE (argsL := [(.long v30)]) (rest := []) (rm_ala_PROBE_WHEN_IDLE l Z a0 hw v30 _ a_PROBE_EVERY a_SILENCE a_FIX_HEARTBEAT a_PROBE_WHEN_IDLE hctx') (by rw [hml]; rfl) (lenOf pd_0 rfl) rfl (hb hby at_194) (by decide) (by decide) (by decide) (Nat.le_of_ble_eq_true rfl) ?_
            intro r34 T34 L34 q34 X34
            obtain ⟨w34, rfl, p34, rfl, e34⟩ := q34
            rw [List.append_nil] at X34
            rcases p34 with ⟨u34_0_0, z34⟩ | ⟨u34_1_0, u34_1_1, z34⟩ | ⟨u34_2_0, u34_2_1, z34⟩
            · -- (0 : Int32)
              subst w34
              exact absurd u34_0_0 c172_31
            · -- (0 : Int32)
              subst w34
              show Go p e below _ T34 (mkF m 197 #[.val (.int x0), .val (.int x1), .val (.long x2), .second, .val (.int v1), .val (.ref a_PROBE_WHEN_IDLE), .val (.long (3000 : Int64)), .second, .val (.long (20000 : Int64)), .second, .val (.int (0 : Int32)), .val (.long v27), .second, .val (.int v28), .val (.long v30), .second, .val (.int (0 : Int32))] [(.int (0 : Int32))])
              refine Go.s_iload X34 hx (hb hby at_197) (q := 199) rfl rfl ?_
              refine Go.s_icmpNo X34 hx (hb hby at_199) (q := 202) rfl (teq (by decide : (0 : Int32) = (0 : Int32))).2 ?_
              refine Go.s_iconst X34 hx (hb hby at_202) (q := 203) rfl (z := 1) rfl ?_
              refine Go.s_goto X34 hx (hb hby at_203) (q := 207) (by decide) (by decide) ?_
              refine Go.retN X34 hx hlk hret (by simp) (hb hby at_207) (by decide) (by decide) ?_
              try rw [e34]
              exact ⟨by decide, rfl⟩
            · -- (1 : Int32)
              subst w34
              exact absurd c180_33 u34_2_1
          · -- pc 180: not (20000 : Int64) < v30
            refine Go.s_ifNo X26 hx (hb hby at_180) (q := 183) rfl ((if0 _ _).trans (flt (fun q => c180_33 ((lw_gt v30 (20000 : Int64)).mp q))).2.2.1) ?_
            refine Go.s_iconst X26 hx (hb hby at_183) (q := 184) rfl (z := 1) rfl ?_
            refine Go.s_goto X26 hx (hb hby at_184) (q := 188) (by decide) (by decide) ?_
            refine Go.s_istore X26 hx (hb hby at_188) (q := 190) rfl (l' := #[.val (.int x0), .val (.int x1), .val (.long x2), .second, .val (.int v1), .val (.ref a_PROBE_WHEN_IDLE), .val (.long (3000 : Int64)), .second, .val (.long (20000 : Int64)), .second, .val (.int (0 : Int32)), .val (.long v27), .second, .val (.int v28), .val (.long v30), .second, .val (.int (1 : Int32))]) rfl ?_
            refine Go.s_aload X26 hx (hb hby at_190) (q := 192) rfl rfl rfl ?_
            refine Go.s_lload X26 hx (hb hby at_192) (q := 194) rfl rfl ?_
            refine Go.callV (y := mn_1) (z := mn_1) X26 hx hZ hown (w_ hw 6 rfl) (w_ hw 7 rfl) (notFace_of_selects (args := #[]) (mvT hZ (w_ hw 9 rfl))) (w_ hw 9 rfl) (w_ hw 8 rfl) (w_ hw 10 rfl) (w_ hw 1 rfl) (by decide) e26 E_PROBE_WHEN_IDLE (argsL := [(.long v30)]) (rest := []) (rm_ala_PROBE_WHEN_IDLE l Z a0 hw v30 _ a_PROBE_EVERY a_SILENCE a_FIX_HEARTBEAT a_PROBE_WHEN_IDLE hctx') (by rw [hml]; rfl) (lenOf pd_0 rfl) rfl (hb hby at_194) (by decide) (by decide) (by decide) (Nat.le_of_ble_eq_true rfl) ?_
            intro r35 T35 L35 q35 X35
            obtain ⟨w35, rfl, p35, rfl, e35⟩ := q35
            rw [List.append_nil] at X35
            rcases p35 with ⟨u35_0_0, z35⟩ | ⟨u35_1_0, u35_1_1, z35⟩ | ⟨u35_2_0, u35_2_1, z35⟩
            · -- (0 : Int32)
              subst w35
              exact absurd u35_0_0 c172_31
            · -- (0 : Int32)
              subst w35
              exact absurd u35_1_1 c180_33
            · -- (1 : Int32)
              subst w35
              show Go p e below _ T35 (mkF m 197 #[.val (.int x0), .val (.int x1), .val (.long x2), .second, .val (.int v1), .val (.ref a_PROBE_WHEN_IDLE), .val (.long (3000 : Int64)), .second, .val (.long (20000 : Int64)), .second, .val (.int (0 : Int32)), .val (.long v27), .second, .val (.int v28), .val (.long v30), .second, .val (.int (1 : Int32))] [(.int (1 : Int32))])
              refine Go.s_iload X35 hx (hb hby at_197) (q := 199) rfl rfl ?_
              refine Go.s_icmpNo X35 hx (hb hby at_199) (q := 202) rfl (teq (by decide : (1 : Int32) = (1 : Int32))).2 ?_
              refine Go.s_iconst X35 hx (hb hby at_202) (q := 203) rfl (z := 1) rfl ?_
              refine Go.s_goto X35 hx (hb hby at_203) (q := 207) (by decide) (by decide) ?_
              refine Go.retN X35 hx hlk hret (by simp) (hb hby at_207) (by decide) (by decide) ?_
              try rw [e35]
              exact ⟨by decide, rfl⟩
      · -- pc 112: not v28 = (1 : Int32)
        refine Go.s_icmpYes X26 hx (hb hby at_112) (q := 125) (by decide) (by decide) (feq c112_29).2 ?_
        refine Go.s_iload X26 hx (hb hby at_125) (q := 127) rfl rfl ?_
        refine Go.s_iconst X26 hx (hb hby at_127) (q := 128) rfl (z := 2) rfl ?_
        by_cases c128_36 : v28 = (2 : Int32)
        · -- pc 128: v28 = (2 : Int32)
          refine Go.s_icmpNo X26 hx (hb hby at_128) (q := 131) rfl (teq c128_36).2 ?_
          refine Go.s_lload X26 hx (hb hby at_131) (q := 133) rfl rfl ?_
          refine Go.s_lload X26 hx (hb hby at_133) (q := 135) rfl rfl ?_
          refine Go.s_ladd X26 hx (hb hby at_135) (q := 136) rfl ?_
          refine Go.s_lstore X26 hx (hb hby at_136) (q := 138) rfl (l' := #[.val (.int x0), .val (.int x1), .val (.long x2), .second, .val (.int v1), .val (.ref a_PROBE_WHEN_IDLE), .val (.long (3000 : Int64)), .second, .val (.long (20000 : Int64)), .second, .val (.int (0 : Int32)), .val (.long v27), .second, .val (.int v28), .val (.long ((20000 : Int64) + v27)), .second, .unset]) rfl ?_
          generalize hv37 : ((20000 : Int64) + v27) = v37
          refine Go.s_goto X26 hx (hb hby at_138) (q := 144) (by decide) (by decide) ?_
          refine Go.s_iload X26 hx (hb hby at_144) (q := 146) rfl rfl ?_
          refine Go.s_ifYes X26 hx (hb hby at_146) (q := 167) (by decide) (by decide) ((if0 _ _).trans (teq (by decide : (0 : Int32) = (0 : Int32))).1) ?_
          refine Go.s_lload X26 hx (hb hby at_167) (q := 169) rfl rfl ?_
          refine Go.s_lload X26 hx (hb hby at_169) (q := 171) rfl rfl ?_
          refine Go.s_lcmp X26 hx (hb hby at_171) (q := 172) rfl ?_
          by_cases c172_38 : v37 < (3000 : Int64)
          · -- pc 172: v37 < (3000 : Int64)
            refine Go.s_ifYes X26 hx (hb hby at_172) (q := 187) (by decide) (by decide) ((if0 _ _).trans (tlt ((lw_lt v37 (3000 : Int64)).mpr c172_38)).1) ?_
            refine Go.s_iconst X26 hx (hb hby at_187) (q := 188) rfl (z := 0) rfl ?_
            refine Go.s_istore X26 hx (hb hby at_188) (q := 190) rfl (l' := #[.val (.int x0), .val (.int x1), .val (.long x2), .second, .val (.int v1), .val (.ref a_PROBE_WHEN_IDLE), .val (.long (3000 : Int64)), .second, .val (.long (20000 : Int64)), .second, .val (.int (0 : Int32)), .val (.long v27), .second, .val (.int v28), .val (.long v37), .second, .val (.int (0 : Int32))]) rfl ?_
            refine Go.s_aload X26 hx (hb hby at_190) (q := 192) rfl rfl rfl ?_
            refine Go.s_lload X26 hx (hb hby at_192) (q := 194) rfl rfl ?_
            refine Go.callV (y := mn_1) (z := mn_1) X26 hx hZ hown (w_ hw 6 rfl) (w_ hw 7 rfl) (notFace_of_selects (args := #[]) (mvT hZ (w_ hw 9 rfl))) (w_ hw 9 rfl) (w_ hw 8 rfl) (w_ hw 10 rfl) (w_ hw 1 rfl) (by decide) e26 E_PROBE_WHEN_IDLE (argsL := [(.long v37)]) (rest := []) (rm_ala_PROBE_WHEN_IDLE l Z a0 hw v37 _ a_PROBE_EVERY a_SILENCE a_FIX_HEARTBEAT a_PROBE_WHEN_IDLE hctx') (by rw [hml]; rfl) (lenOf pd_0 rfl) rfl (hb hby at_194) (by decide) (by decide) (by decide) (Nat.le_of_ble_eq_true rfl) ?_
            intro r39 T39 L39 q39 X39
            obtain ⟨w39, rfl, p39, rfl, e39⟩ := q39
            rw [List.append_nil] at X39
            rcases p39 with ⟨u39_0_0, z39⟩ | ⟨u39_1_0, u39_1_1, z39⟩ | ⟨u39_2_0, u39_2_1, z39⟩
            · -- (0 : Int32)
              subst w39
              show Go p e below _ T39 (mkF m 197 #[.val (.int x0), .val (.int x1), .val (.long x2), .second, .val (.int v1), .val (.ref a_PROBE_WHEN_IDLE), .val (.long (3000 : Int64)), .second, .val (.long (20000 : Int64)), .second, .val (.int (0 : Int32)), .val (.long v27), .second, .val (.int v28), .val (.long v37), .second, .val (.int (0 : Int32))] [(.int (0 : Int32))])
              refine Go.s_iload X39 hx (hb hby at_197) (q := 199) rfl rfl ?_
              refine Go.s_icmpNo X39 hx (hb hby at_199) (q := 202) rfl (teq (by decide : (0 : Int32) = (0 : Int32))).2 ?_
              refine Go.s_iconst X39 hx (hb hby at_202) (q := 203) rfl (z := 1) rfl ?_
              refine Go.s_goto X39 hx (hb hby at_203) (q := 207) (by decide) (by decide) ?_
              refine Go.retN X39 hx hlk hret (by simp) (hb hby at_207) (by decide) (by decide) ?_
              try rw [e39]
              exact ⟨by decide, rfl⟩
            · -- (0 : Int32)
              subst w39
              exact absurd c172_38 u39_1_0
            · -- (1 : Int32)
              subst w39
              exact absurd c172_38 u39_2_0
          · -- pc 172: not v37 < (3000 : Int64)
            refine Go.s_ifNo X26 hx (hb hby at_172) (q := 175) rfl ((if0 _ _).trans (flt (fun q => c172_38 ((lw_lt v37 (3000 : Int64)).mp q))).1) ?_
            refine Go.s_lload X26 hx (hb hby at_175) (q := 177) rfl rfl ?_
            refine Go.s_lload X26 hx (hb hby at_177) (q := 179) rfl rfl ?_
            refine Go.s_lcmp X26 hx (hb hby at_179) (q := 180) rfl ?_
            by_cases c180_40 : (20000 : Int64) < v37
            · -- pc 180: (20000 : Int64) < v37
              refine Go.s_ifYes X26 hx (hb hby at_180) (q := 187) (by decide) (by decide) ((if0 _ _).trans (tlt ((lw_gt v37 (20000 : Int64)).mpr c180_40)).2.2.1) ?_
              refine Go.s_iconst X26 hx (hb hby at_187) (q := 188) rfl (z := 0) rfl ?_
              refine Go.s_istore X26 hx (hb hby at_188) (q := 190) rfl (l' := #[.val (.int x0), .val (.int x1), .val (.long x2), .second, .val (.int v1), .val (.ref a_PROBE_WHEN_IDLE), .val (.long (3000 : Int64)), .second, .val (.long (20000 : Int64)), .second, .val (.int (0 : Int32)), .val (.long v27), .second, .val (.int v28), .val (.long v37), .second, .val (.int (0 : Int32))]) rfl ?_
              refine Go.s_aload X26 hx (hb hby at_190) (q := 192) rfl rfl rfl ?_
              refine Go.s_lload X26 hx (hb hby at_192) (q := 194) rfl rfl ?_
              refine Go.callV (y := mn_1) (z := mn_1) X26 hx hZ hown (w_ hw 6 rfl) (w_ hw 7 rfl) (notFace_of_selects (args := #[]) (mvT hZ (w_ hw 9 rfl))) (w_ hw 9 rfl) (w_ hw 8 rfl) (w_ hw 10 rfl) (w_ hw 1 rfl) (by decide) e26 E_PROBE_WHEN_IDLE (argsL := [(.long v37)]) (rest := []) (rm_ala_PROBE_WHEN_IDLE l Z a0 hw v37 _ a_PROBE_EVERY a_SILENCE a_FIX_HEARTBEAT a_PROBE_WHEN_IDLE hctx') (by rw [hml]; rfl) (lenOf pd_0 rfl) rfl (hb hby at_194) (by decide) (by decide) (by decide) (Nat.le_of_ble_eq_true rfl) ?_
              intro r41 T41 L41 q41 X41
              obtain ⟨w41, rfl, p41, rfl, e41⟩ := q41
              rw [List.append_nil] at X41
              rcases p41 with ⟨u41_0_0, z41⟩ | ⟨u41_1_0, u41_1_1, z41⟩ | ⟨u41_2_0, u41_2_1, z41⟩
              · -- (0 : Int32)
                subst w41
                exact absurd u41_0_0 c172_38
              · -- (0 : Int32)
                subst w41
                show Go p e below _ T41 (mkF m 197 #[.val (.int x0), .val (.int x1), .val (.long x2), .second, .val (.int v1), .val (.ref a_PROBE_WHEN_IDLE), .val (.long (3000 : Int64)), .second, .val (.long (20000 : Int64)), .second, .val (.int (0 : Int32)), .val (.long v27), .second, .val (.int v28), .val (.long v37), .second, .val (.int (0 : Int32))] [(.int (0 : Int32))])
                refine Go.s_iload X41 hx (hb hby at_197) (q := 199) rfl rfl ?_
                refine Go.s_icmpNo X41 hx (hb hby at_199) (q := 202) rfl (teq (by decide : (0 : Int32) = (0 : Int32))).2 ?_
                refine Go.s_iconst X41 hx (hb hby at_202) (q := 203) rfl (z := 1) rfl ?_
                refine Go.s_goto X41 hx (hb hby at_203) (q := 207) (by decide) (by decide) ?_
                refine Go.retN X41 hx hlk hret (by simp) (hb hby at_207) (by decide) (by decide) ?_
                try rw [e41]
                exact ⟨by decide, rfl⟩
              · -- (1 : Int32)
                subst w41
                exact absurd c180_40 u41_2_1
            · -- pc 180: not (20000 : Int64) < v37
              refine Go.s_ifNo X26 hx (hb hby at_180) (q := 183) rfl ((if0 _ _).trans (flt (fun q => c180_40 ((lw_gt v37 (20000 : Int64)).mp q))).2.2.1) ?_
              refine Go.s_iconst X26 hx (hb hby at_183) (q := 184) rfl (z := 1) rfl ?_
              refine Go.s_goto X26 hx (hb hby at_184) (q := 188) (by decide) (by decide) ?_
              refine Go.s_istore X26 hx (hb hby at_188) (q := 190) rfl (l' := #[.val (.int x0), .val (.int x1), .val (.long x2), .second, .val (.int v1), .val (.ref a_PROBE_WHEN_IDLE), .val (.long (3000 : Int64)), .second, .val (.long (20000 : Int64)), .second, .val (.int (0 : Int32)), .val (.long v27), .second, .val (.int v28), .val (.long v37), .second, .val (.int (1 : Int32))]) rfl ?_
              refine Go.s_aload X26 hx (hb hby at_190) (q := 192) rfl rfl rfl ?_
              refine Go.s_lload X26 hx (hb hby at_192) (q := 194) rfl rfl ?_
              refine Go.callV (y := mn_1) (z := mn_1) X26 hx hZ hown (w_ hw 6 rfl) (w_ hw 7 rfl) (notFace_of_selects (args := #[]) (mvT hZ (w_ hw 9 rfl))) (w_ hw 9 rfl) (w_ hw 8 rfl) (w_ hw 10 rfl) (w_ hw 1 rfl) (by decide) e26 E_PROBE_WHEN_IDLE (argsL := [(.long v37)]) (rest := []) (rm_ala_PROBE_WHEN_IDLE l Z a0 hw v37 _ a_PROBE_EVERY a_SILENCE a_FIX_HEARTBEAT a_PROBE_WHEN_IDLE hctx') (by rw [hml]; rfl) (lenOf pd_0 rfl) rfl (hb hby at_194) (by decide) (by decide) (by decide) (Nat.le_of_ble_eq_true rfl) ?_
              intro r42 T42 L42 q42 X42
              obtain ⟨w42, rfl, p42, rfl, e42⟩ := q42
              rw [List.append_nil] at X42
              rcases p42 with ⟨u42_0_0, z42⟩ | ⟨u42_1_0, u42_1_1, z42⟩ | ⟨u42_2_0, u42_2_1, z42⟩
              · -- (0 : Int32)
                subst w42
                exact absurd u42_0_0 c172_38
              · -- (0 : Int32)
                subst w42
                exact absurd u42_1_1 c180_40
              · -- (1 : Int32)
                subst w42
                show Go p e below _ T42 (mkF m 197 #[.val (.int x0), .val (.int x1), .val (.long x2), .second, .val (.int v1), .val (.ref a_PROBE_WHEN_IDLE), .val (.long (3000 : Int64)), .second, .val (.long (20000 : Int64)), .second, .val (.int (0 : Int32)), .val (.long v27), .second, .val (.int v28), .val (.long v37), .second, .val (.int (1 : Int32))] [(.int (1 : Int32))])
                refine Go.s_iload X42 hx (hb hby at_197) (q := 199) rfl rfl ?_
                refine Go.s_icmpNo X42 hx (hb hby at_199) (q := 202) rfl (teq (by decide : (1 : Int32) = (1 : Int32))).2 ?_
                refine Go.s_iconst X42 hx (hb hby at_202) (q := 203) rfl (z := 1) rfl ?_
                refine Go.s_goto X42 hx (hb hby at_203) (q := 207) (by decide) (by decide) ?_
                refine Go.retN X42 hx hlk hret (by simp) (hb hby at_207) (by decide) (by decide) ?_
                try rw [e42]
                exact ⟨by decide, rfl⟩
        · -- pc 128: not v28 = (2 : Int32)
          refine Go.s_icmpYes X26 hx (hb hby at_128) (q := 141) (by decide) (by decide) (feq c128_36).2 ?_
          refine Go.s_lloadN X26 hx (hb hby at_141) (q := 142) rfl rfl ?_
          refine Go.s_lstore X26 hx (hb hby at_142) (q := 144) rfl (l' := #[.val (.int x0), .val (.int x1), .val (.long x2), .second, .val (.int v1), .val (.ref a_PROBE_WHEN_IDLE), .val (.long (3000 : Int64)), .second, .val (.long (20000 : Int64)), .second, .val (.int (0 : Int32)), .val (.long v27), .second, .val (.int v28), .val (.long x2), .second, .unset]) rfl ?_
          refine Go.s_iload X26 hx (hb hby at_144) (q := 146) rfl rfl ?_
          refine Go.s_ifYes X26 hx (hb hby at_146) (q := 167) (by decide) (by decide) ((if0 _ _).trans (teq (by decide : (0 : Int32) = (0 : Int32))).1) ?_
          refine Go.s_lload X26 hx (hb hby at_167) (q := 169) rfl rfl ?_
          refine Go.s_lload X26 hx (hb hby at_169) (q := 171) rfl rfl ?_
          refine Go.s_lcmp X26 hx (hb hby at_171) (q := 172) rfl ?_
          by_cases c172_43 : x2 < (3000 : Int64)
          · -- pc 172: x2 < (3000 : Int64)
            refine Go.s_ifYes X26 hx (hb hby at_172) (q := 187) (by decide) (by decide) ((if0 _ _).trans (tlt ((lw_lt x2 (3000 : Int64)).mpr c172_43)).1) ?_
            refine Go.s_iconst X26 hx (hb hby at_187) (q := 188) rfl (z := 0) rfl ?_
            refine Go.s_istore X26 hx (hb hby at_188) (q := 190) rfl (l' := #[.val (.int x0), .val (.int x1), .val (.long x2), .second, .val (.int v1), .val (.ref a_PROBE_WHEN_IDLE), .val (.long (3000 : Int64)), .second, .val (.long (20000 : Int64)), .second, .val (.int (0 : Int32)), .val (.long v27), .second, .val (.int v28), .val (.long x2), .second, .val (.int (0 : Int32))]) rfl ?_
            refine Go.s_aload X26 hx (hb hby at_190) (q := 192) rfl rfl rfl ?_
            refine Go.s_lload X26 hx (hb hby at_192) (q := 194) rfl rfl ?_
            refine Go.callV (y := mn_1) (z := mn_1) X26 hx hZ hown (w_ hw 6 rfl) (w_ hw 7 rfl) (notFace_of_selects (args := #[]) (mvT hZ (w_ hw 9 rfl))) (w_ hw 9 rfl) (w_ hw 8 rfl) (w_ hw 10 rfl) (w_ hw 1 rfl) (by decide) e26 E_PROBE_WHEN_IDLE (argsL := [(.long x2)]) (rest := []) (rm_ala_PROBE_WHEN_IDLE l Z a0 hw x2 _ a_PROBE_EVERY a_SILENCE a_FIX_HEARTBEAT a_PROBE_WHEN_IDLE hctx') (by rw [hml]; rfl) (lenOf pd_0 rfl) rfl (hb hby at_194) (by decide) (by decide) (by decide) (Nat.le_of_ble_eq_true rfl) ?_
            intro r44 T44 L44 q44 X44
            obtain ⟨w44, rfl, p44, rfl, e44⟩ := q44
            rw [List.append_nil] at X44
            rcases p44 with ⟨u44_0_0, z44⟩ | ⟨u44_1_0, u44_1_1, z44⟩ | ⟨u44_2_0, u44_2_1, z44⟩
            · -- (0 : Int32)
              subst w44
              show Go p e below _ T44 (mkF m 197 #[.val (.int x0), .val (.int x1), .val (.long x2), .second, .val (.int v1), .val (.ref a_PROBE_WHEN_IDLE), .val (.long (3000 : Int64)), .second, .val (.long (20000 : Int64)), .second, .val (.int (0 : Int32)), .val (.long v27), .second, .val (.int v28), .val (.long x2), .second, .val (.int (0 : Int32))] [(.int (0 : Int32))])
              refine Go.s_iload X44 hx (hb hby at_197) (q := 199) rfl rfl ?_
              refine Go.s_icmpNo X44 hx (hb hby at_199) (q := 202) rfl (teq (by decide : (0 : Int32) = (0 : Int32))).2 ?_
              refine Go.s_iconst X44 hx (hb hby at_202) (q := 203) rfl (z := 1) rfl ?_
              refine Go.s_goto X44 hx (hb hby at_203) (q := 207) (by decide) (by decide) ?_
              refine Go.retN X44 hx hlk hret (by simp) (hb hby at_207) (by decide) (by decide) ?_
              try rw [e44]
              exact ⟨by decide, rfl⟩
            · -- (0 : Int32)
              subst w44
              exact absurd c172_43 u44_1_0
            · -- (1 : Int32)
              subst w44
              exact absurd c172_43 u44_2_0
          · -- pc 172: not x2 < (3000 : Int64)
            refine Go.s_ifNo X26 hx (hb hby at_172) (q := 175) rfl ((if0 _ _).trans (flt (fun q => c172_43 ((lw_lt x2 (3000 : Int64)).mp q))).1) ?_
            refine Go.s_lload X26 hx (hb hby at_175) (q := 177) rfl rfl ?_
            refine Go.s_lload X26 hx (hb hby at_177) (q := 179) rfl rfl ?_
            refine Go.s_lcmp X26 hx (hb hby at_179) (q := 180) rfl ?_
            by_cases c180_45 : (20000 : Int64) < x2
            · -- pc 180: (20000 : Int64) < x2
              refine Go.s_ifYes X26 hx (hb hby at_180) (q := 187) (by decide) (by decide) ((if0 _ _).trans (tlt ((lw_gt x2 (20000 : Int64)).mpr c180_45)).2.2.1) ?_
              refine Go.s_iconst X26 hx (hb hby at_187) (q := 188) rfl (z := 0) rfl ?_
              refine Go.s_istore X26 hx (hb hby at_188) (q := 190) rfl (l' := #[.val (.int x0), .val (.int x1), .val (.long x2), .second, .val (.int v1), .val (.ref a_PROBE_WHEN_IDLE), .val (.long (3000 : Int64)), .second, .val (.long (20000 : Int64)), .second, .val (.int (0 : Int32)), .val (.long v27), .second, .val (.int v28), .val (.long x2), .second, .val (.int (0 : Int32))]) rfl ?_
              refine Go.s_aload X26 hx (hb hby at_190) (q := 192) rfl rfl rfl ?_
              refine Go.s_lload X26 hx (hb hby at_192) (q := 194) rfl rfl ?_
              refine Go.callV (y := mn_1) (z := mn_1) X26 hx hZ hown (w_ hw 6 rfl) (w_ hw 7 rfl) (notFace_of_selects (args := #[]) (mvT hZ (w_ hw 9 rfl))) (w_ hw 9 rfl) (w_ hw 8 rfl) (w_ hw 10 rfl) (w_ hw 1 rfl) (by decide) e26 E_PROBE_WHEN_IDLE (argsL := [(.long x2)]) (rest := []) (rm_ala_PROBE_WHEN_IDLE l Z a0 hw x2 _ a_PROBE_EVERY a_SILENCE a_FIX_HEARTBEAT a_PROBE_WHEN_IDLE hctx') (by rw [hml]; rfl) (lenOf pd_0 rfl) rfl (hb hby at_194) (by decide) (by decide) (by decide) (Nat.le_of_ble_eq_true rfl) ?_
              intro r46 T46 L46 q46 X46
              obtain ⟨w46, rfl, p46, rfl, e46⟩ := q46
              rw [List.append_nil] at X46
              rcases p46 with ⟨u46_0_0, z46⟩ | ⟨u46_1_0, u46_1_1, z46⟩ | ⟨u46_2_0, u46_2_1, z46⟩
              · -- (0 : Int32)
                subst w46
                exact absurd u46_0_0 c172_43
              · -- (0 : Int32)
                subst w46
                show Go p e below _ T46 (mkF m 197 #[.val (.int x0), .val (.int x1), .val (.long x2), .second, .val (.int v1), .val (.ref a_PROBE_WHEN_IDLE), .val (.long (3000 : Int64)), .second, .val (.long (20000 : Int64)), .second, .val (.int (0 : Int32)), .val (.long v27), .second, .val (.int v28), .val (.long x2), .second, .val (.int (0 : Int32))] [(.int (0 : Int32))])
                refine Go.s_iload X46 hx (hb hby at_197) (q := 199) rfl rfl ?_
                refine Go.s_icmpNo X46 hx (hb hby at_199) (q := 202) rfl (teq (by decide : (0 : Int32) = (0 : Int32))).2 ?_
                refine Go.s_iconst X46 hx (hb hby at_202) (q := 203) rfl (z := 1) rfl ?_
                refine Go.s_goto X46 hx (hb hby at_203) (q := 207) (by decide) (by decide) ?_
                refine Go.retN X46 hx hlk hret (by simp) (hb hby at_207) (by decide) (by decide) ?_
                try rw [e46]
                exact ⟨by decide, rfl⟩
              · -- (1 : Int32)
                subst w46
                exact absurd c180_45 u46_2_1
            · -- pc 180: not (20000 : Int64) < x2
              refine Go.s_ifNo X26 hx (hb hby at_180) (q := 183) rfl ((if0 _ _).trans (flt (fun q => c180_45 ((lw_gt x2 (20000 : Int64)).mp q))).2.2.1) ?_
              refine Go.s_iconst X26 hx (hb hby at_183) (q := 184) rfl (z := 1) rfl ?_
              refine Go.s_goto X26 hx (hb hby at_184) (q := 188) (by decide) (by decide) ?_
              refine Go.s_istore X26 hx (hb hby at_188) (q := 190) rfl (l' := #[.val (.int x0), .val (.int x1), .val (.long x2), .second, .val (.int v1), .val (.ref a_PROBE_WHEN_IDLE), .val (.long (3000 : Int64)), .second, .val (.long (20000 : Int64)), .second, .val (.int (0 : Int32)), .val (.long v27), .second, .val (.int v28), .val (.long x2), .second, .val (.int (1 : Int32))]) rfl ?_
              refine Go.s_aload X26 hx (hb hby at_190) (q := 192) rfl rfl rfl ?_
              refine Go.s_lload X26 hx (hb hby at_192) (q := 194) rfl rfl ?_
              refine Go.callV (y := mn_1) (z := mn_1) X26 hx hZ hown (w_ hw 6 rfl) (w_ hw 7 rfl) (notFace_of_selects (args := #[]) (mvT hZ (w_ hw 9 rfl))) (w_ hw 9 rfl) (w_ hw 8 rfl) (w_ hw 10 rfl) (w_ hw 1 rfl) (by decide) e26 E_PROBE_WHEN_IDLE (argsL := [(.long x2)]) (rest := []) (rm_ala_PROBE_WHEN_IDLE l Z a0 hw x2 _ a_PROBE_EVERY a_SILENCE a_FIX_HEARTBEAT a_PROBE_WHEN_IDLE hctx') (by rw [hml]; rfl) (lenOf pd_0 rfl) rfl (hb hby at_194) (by decide) (by decide) (by decide) (Nat.le_of_ble_eq_true rfl) ?_
              intro r47 T47 L47 q47 X47
              obtain ⟨w47, rfl, p47, rfl, e47⟩ := q47
              rw [List.append_nil] at X47
              rcases p47 with ⟨u47_0_0, z47⟩ | ⟨u47_1_0, u47_1_1, z47⟩ | ⟨u47_2_0, u47_2_1, z47⟩
              · -- (0 : Int32)
                subst w47
                exact absurd u47_0_0 c172_43
              · -- (0 : Int32)
                subst w47
                exact absurd u47_1_1 c180_45
              · -- (1 : Int32)
                subst w47
                show Go p e below _ T47 (mkF m 197 #[.val (.int x0), .val (.int x1), .val (.long x2), .second, .val (.int v1), .val (.ref a_PROBE_WHEN_IDLE), .val (.long (3000 : Int64)), .second, .val (.long (20000 : Int64)), .second, .val (.int (0 : Int32)), .val (.long v27), .second, .val (.int v28), .val (.long x2), .second, .val (.int (1 : Int32))] [(.int (1 : Int32))])
                refine Go.s_iload X47 hx (hb hby at_197) (q := 199) rfl rfl ?_
                refine Go.s_icmpNo X47 hx (hb hby at_199) (q := 202) rfl (teq (by decide : (1 : Int32) = (1 : Int32))).2 ?_
                refine Go.s_iconst X47 hx (hb hby at_202) (q := 203) rfl (z := 1) rfl ?_
                refine Go.s_goto X47 hx (hb hby at_203) (q := 207) (by decide) (by decide) ?_
                refine Go.retN X47 hx hlk hret (by simp) (hb hby at_207) (by decide) (by decide) ?_
                try rw [e47]
                exact ⟨by decide, rfl⟩
    · -- pc 34: not v1 = (1 : Int32)
      refine Go.s_icmpYes X0 hx (hb hby at_34) (q := 55) (by decide) (by decide) (feq c34_25).2 ?_
      refine Go.s_iload X0 hx (hb hby at_55) (q := 57) rfl rfl ?_
      refine Go.s_iconst X0 hx (hb hby at_57) (q := 58) rfl (z := 2) rfl ?_
      by_cases c58_48 : v1 = (2 : Int32)
      · -- pc 58: v1 = (2 : Int32)
        refine Go.s_icmpNo X0 hx (hb hby at_58) (q := 61) rfl (teq c58_48).2 ?_
        refine Go.getS X0 hx hZ hown (w_ hw 19 rfl) Via.refl e0 S_FIX_HEARTBEAT (hb hby at_61) ?_
        intro T49 X49 e49
        show Go p e below _ T49 (mkF m 64 #[.val (.int x0), .val (.int x1), .val (.long x2), .second, .val (.int v1), .unset, .unset, .unset, .unset, .unset, .val (.int (0 : Int32)), .unset, .unset, .unset, .unset, .unset, .unset] [(.ref a_FIX_HEARTBEAT)])
        refine Go.s_astore X49 hx (hb hby at_64) (q := 66) rfl rfl (l' := #[.val (.int x0), .val (.int x1), .val (.long x2), .second, .val (.int v1), .val (.ref a_FIX_HEARTBEAT), .unset, .unset, .unset, .unset, .val (.int (0 : Int32)), .unset, .unset, .unset, .unset, .unset, .unset]) rfl ?_
        refine Go.s_ldc2 X49 hx (hb hby at_66) (q := 69) rfl hown (mvT hZ (w_ hw 21 rfl)) ?_
        refine Go.s_lstore X49 hx (hb hby at_69) (q := 71) rfl (l' := #[.val (.int x0), .val (.int x1), .val (.long x2), .second, .val (.int v1), .val (.ref a_FIX_HEARTBEAT), .val (.long (5000 : Int64)), .second, .unset, .unset, .val (.int (0 : Int32)), .unset, .unset, .unset, .unset, .unset, .unset]) rfl ?_
        refine Go.s_ldc2 X49 hx (hb hby at_71) (q := 74) rfl hown (mvT hZ (w_ hw 22 rfl)) ?_
        refine Go.s_lstore X49 hx (hb hby at_74) (q := 76) rfl (l' := #[.val (.int x0), .val (.int x1), .val (.long x2), .second, .val (.int v1), .val (.ref a_FIX_HEARTBEAT), .val (.long (5000 : Int64)), .second, .val (.long (9223372036854775807 : Int64)), .second, .val (.int (0 : Int32)), .unset, .unset, .unset, .unset, .unset, .unset]) rfl ?_
        refine Go.s_iconst X49 hx (hb hby at_76) (q := 77) rfl (z := 1) rfl ?_
        refine Go.s_istore X49 hx (hb hby at_77) (q := 79) rfl (l' := #[.val (.int x0), .val (.int x1), .val (.long x2), .second, .val (.int v1), .val (.ref a_FIX_HEARTBEAT), .val (.long (5000 : Int64)), .second, .val (.long (9223372036854775807 : Int64)), .second, .val (.int (1 : Int32)), .unset, .unset, .unset, .unset, .unset, .unset]) rfl ?_
        refine Go.s_goto X49 hx (hb hby at_79) (q := 97) (by decide) (by decide) ?_
        refine Go.s_lloadN X49 hx (hb hby at_97) (q := 98) rfl rfl ?_
        refine Go.s_ldc2 X49 hx (hb hby at_98) (q := 101) rfl hown (mvT hZ (w_ hw 5 rfl)) ?_
        refine Go.s_lrem X49 hx (hb hby at_101) (q := 102) rfl (by decide) ?_
        refine Go.s_lstore X49 hx (hb hby at_102) (q := 104) rfl (l' := #[.val (.int x0), .val (.int x1), .val (.long x2), .second, .val (.int v1), .val (.ref a_FIX_HEARTBEAT), .val (.long (5000 : Int64)), .second, .val (.long (9223372036854775807 : Int64)), .second, .val (.int (1 : Int32)), .val (.long (x2 - (x2 / (3 : Int64)) * (3 : Int64))), .second, .unset, .unset, .unset, .unset]) rfl ?_
        generalize hv50 : (x2 - (x2 / (3 : Int64)) * (3 : Int64)) = v50
        refine Go.s_iloadN X49 hx (hb hby at_104) (q := 105) rfl rfl ?_
        refine Go.s_iconst X49 hx (hb hby at_105) (q := 106) rfl (z := 3) rfl ?_
        refine Go.s_iand X49 hx (hb hby at_106) (q := 107) rfl ?_
        refine Go.s_istore X49 hx (hb hby at_107) (q := 109) rfl (l' := #[.val (.int x0), .val (.int x1), .val (.long x2), .second, .val (.int v1), .val (.ref a_FIX_HEARTBEAT), .val (.long (5000 : Int64)), .second, .val (.long (9223372036854775807 : Int64)), .second, .val (.int (1 : Int32)), .val (.long v50), .second, .val (.int (x1 &&& (3 : Int32))), .unset, .unset, .unset]) rfl ?_
        generalize hv51 : (x1 &&& (3 : Int32)) = v51
        refine Go.s_iload X49 hx (hb hby at_109) (q := 111) rfl rfl ?_
        refine Go.s_iconst X49 hx (hb hby at_111) (q := 112) rfl (z := 1) rfl ?_
        by_cases c112_52 : v51 = (1 : Int32)
        · -- pc 112: v51 = (1 : Int32)
          refine Go.s_icmpNo X49 hx (hb hby at_112) (q := 115) rfl (teq c112_52).2 ?_
          refine Go.s_lload X49 hx (hb hby at_115) (q := 117) rfl rfl ?_
          refine Go.s_lload X49 hx (hb hby at_117) (q := 119) rfl rfl ?_
          refine Go.s_ladd X49 hx (hb hby at_119) (q := 120) rfl ?_
          refine Go.s_lstore X49 hx (hb hby at_120) (q := 122) rfl (l' := #[.val (.int x0), .val (.int x1), .val (.long x2), .second, .val (.int v1), .val (.ref a_FIX_HEARTBEAT), .val (.long (5000 : Int64)), .second, .val (.long (9223372036854775807 : Int64)), .second, .val (.int (1 : Int32)), .val (.long v50), .second, .val (.int v51), .val (.long ((5000 : Int64) + v50)), .second, .unset]) rfl ?_
          generalize hv53 : ((5000 : Int64) + v50) = v53
          refine Go.s_goto X49 hx (hb hby at_122) (q := 144) (by decide) (by decide) ?_
          refine Go.s_iload X49 hx (hb hby at_144) (q := 146) rfl rfl ?_
          refine Go.s_ifNo X49 hx (hb hby at_146) (q := 149) rfl ((if0 _ _).trans (feq (by decide : ¬ ((1 : Int32) = (0 : Int32)))).1) ?_
          refine Go.s_lload X49 hx (hb hby at_149) (q := 151) rfl rfl ?_
          refine Go.s_lload X49 hx (hb hby at_151) (q := 153) rfl rfl ?_
          refine Go.s_lcmp X49 hx (hb hby at_153) (q := 154) rfl ?_
          by_cases c154_54 : v53 < (5000 : Int64)
          · -- pc 154: v53 < (5000 : Int64)
            refine Go.s_ifYes X49 hx (hb hby at_154) (q := 161) (by decide) (by decide) ((if0 _ _).trans (tlt ((lw_lt v53 (5000 : Int64)).mpr c154_54)).1) ?_
            refine Go.s_iconst X49 hx (hb hby at_161) (q := 162) rfl (z := 0) rfl ?_
            refine Go.s_istore X49 hx (hb hby at_162) (q := 164) rfl (l' := #[.val (.int x0), .val (.int x1), .val (.long x2), .second, .val (.int v1), .val (.ref a_FIX_HEARTBEAT), .val (.long (5000 : Int64)), .second, .val (.long (9223372036854775807 : Int64)), .second, .val (.int (1 : Int32)), .val (.long v50), .second, .val (.int v51), .val (.long v53), .second, .val (.int (0 : Int32))]) rfl ?_
            refine Go.s_goto X49 hx (hb hby at_164) (q := 190) (by decide) (by decide) ?_
            refine Go.s_aload X49 hx (hb hby at_190) (q := 192) rfl rfl rfl ?_
            refine Go.s_lload X49 hx (hb hby at_192) (q := 194) rfl rfl ?_
            refine Go.callV (y := mn_1) (z := mn_1) X49 hx hZ hown (w_ hw 6 rfl) (w_ hw 7 rfl) (notFace_of_selects (args := #[]) (mvT hZ (w_ hw 9 rfl))) (w_ hw 9 rfl) (w_ hw 8 rfl) (w_ hw 10 rfl) (w_ hw 1 rfl) (by decide) e49 E_FIX_HEARTBEAT (argsL := [(.long v53)]) (rest := []) (rm_ala_FIX_HEARTBEAT l Z a0 hw v53 _ a_PROBE_EVERY a_SILENCE a_FIX_HEARTBEAT a_PROBE_WHEN_IDLE hctx') (by rw [hml]; rfl) (lenOf pd_0 rfl) rfl (hb hby at_194) (by decide) (by decide) (by decide) (Nat.le_of_ble_eq_true rfl) ?_
            intro r55 T55 L55 q55 X55
            obtain ⟨w55, rfl, p55, rfl, e55⟩ := q55
            rw [List.append_nil] at X55
            rcases p55 with ⟨u55_0_0, z55⟩ | ⟨u55_1_0, u55_1_1, z55⟩ | ⟨u55_2_0, u55_2_1, z55⟩
            · -- (0 : Int32)
              subst w55
              show Go p e below _ T55 (mkF m 197 #[.val (.int x0), .val (.int x1), .val (.long x2), .second, .val (.int v1), .val (.ref a_FIX_HEARTBEAT), .val (.long (5000 : Int64)), .second, .val (.long (9223372036854775807 : Int64)), .second, .val (.int (1 : Int32)), .val (.long v50), .second, .val (.int v51), .val (.long v53), .second, .val (.int (0 : Int32))] [(.int (0 : Int32))])
              refine Go.s_iload X55 hx (hb hby at_197) (q := 199) rfl rfl ?_
              refine Go.s_icmpNo X55 hx (hb hby at_199) (q := 202) rfl (teq (by decide : (0 : Int32) = (0 : Int32))).2 ?_
              refine Go.s_iconst X55 hx (hb hby at_202) (q := 203) rfl (z := 1) rfl ?_
              refine Go.s_goto X55 hx (hb hby at_203) (q := 207) (by decide) (by decide) ?_
              refine Go.retN X55 hx hlk hret (by simp) (hb hby at_207) (by decide) (by decide) ?_
              try rw [e55]
              exact ⟨by decide, rfl⟩
            · -- (0 : Int32)
              subst w55
              exact absurd c154_54 u55_1_0
            · -- (1 : Int32)
              subst w55
              exact absurd c154_54 u55_2_0
          · -- pc 154: not v53 < (5000 : Int64)
            refine Go.s_ifNo X49 hx (hb hby at_154) (q := 157) rfl ((if0 _ _).trans (flt (fun q => c154_54 ((lw_lt v53 (5000 : Int64)).mp q))).1) ?_
            refine Go.s_iconst X49 hx (hb hby at_157) (q := 158) rfl (z := 1) rfl ?_
            refine Go.s_goto X49 hx (hb hby at_158) (q := 162) (by decide) (by decide) ?_
            refine Go.s_istore X49 hx (hb hby at_162) (q := 164) rfl (l' := #[.val (.int x0), .val (.int x1), .val (.long x2), .second, .val (.int v1), .val (.ref a_FIX_HEARTBEAT), .val (.long (5000 : Int64)), .second, .val (.long (9223372036854775807 : Int64)), .second, .val (.int (1 : Int32)), .val (.long v50), .second, .val (.int v51), .val (.long v53), .second, .val (.int (1 : Int32))]) rfl ?_
            refine Go.s_goto X49 hx (hb hby at_164) (q := 190) (by decide) (by decide) ?_
            refine Go.s_aload X49 hx (hb hby at_190) (q := 192) rfl rfl rfl ?_
            refine Go.s_lload X49 hx (hb hby at_192) (q := 194) rfl rfl ?_
            refine Go.callV (y := mn_1) (z := mn_1) X49 hx hZ hown (w_ hw 6 rfl) (w_ hw 7 rfl) (notFace_of_selects (args := #[]) (mvT hZ (w_ hw 9 rfl))) (w_ hw 9 rfl) (w_ hw 8 rfl) (w_ hw 10 rfl) (w_ hw 1 rfl) (by decide) e49 E_FIX_HEARTBEAT (argsL := [(.long v53)]) (rest := []) (rm_ala_FIX_HEARTBEAT l Z a0 hw v53 _ a_PROBE_EVERY a_SILENCE a_FIX_HEARTBEAT a_PROBE_WHEN_IDLE hctx') (by rw [hml]; rfl) (lenOf pd_0 rfl) rfl (hb hby at_194) (by decide) (by decide) (by decide) (Nat.le_of_ble_eq_true rfl) ?_
            intro r56 T56 L56 q56 X56
            obtain ⟨w56, rfl, p56, rfl, e56⟩ := q56
            rw [List.append_nil] at X56
            rcases p56 with ⟨u56_0_0, z56⟩ | ⟨u56_1_0, u56_1_1, z56⟩ | ⟨u56_2_0, u56_2_1, z56⟩
            · -- (0 : Int32)
              subst w56
              exact absurd u56_0_0 c154_54
            · -- (0 : Int32)
              subst w56
              exact absurd (Int64.lt_iff_toInt_lt.mp u56_1_1) (by have q1 := rng64 v53; have q2 : ((9223372036854775807 : Int64)).toInt = 9223372036854775807 := (by decide); omega)
            · -- (1 : Int32)
              subst w56
              show Go p e below _ T56 (mkF m 197 #[.val (.int x0), .val (.int x1), .val (.long x2), .second, .val (.int v1), .val (.ref a_FIX_HEARTBEAT), .val (.long (5000 : Int64)), .second, .val (.long (9223372036854775807 : Int64)), .second, .val (.int (1 : Int32)), .val (.long v50), .second, .val (.int v51), .val (.long v53), .second, .val (.int (1 : Int32))] [(.int (1 : Int32))])
              refine Go.s_iload X56 hx (hb hby at_197) (q := 199) rfl rfl ?_
              refine Go.s_icmpNo X56 hx (hb hby at_199) (q := 202) rfl (teq (by decide : (1 : Int32) = (1 : Int32))).2 ?_
              refine Go.s_iconst X56 hx (hb hby at_202) (q := 203) rfl (z := 1) rfl ?_
              refine Go.s_goto X56 hx (hb hby at_203) (q := 207) (by decide) (by decide) ?_
              refine Go.retN X56 hx hlk hret (by simp) (hb hby at_207) (by decide) (by decide) ?_
              try rw [e56]
              exact ⟨by decide, rfl⟩
        · -- pc 112: not v51 = (1 : Int32)
          refine Go.s_icmpYes X49 hx (hb hby at_112) (q := 125) (by decide) (by decide) (feq c112_52).2 ?_
          refine Go.s_iload X49 hx (hb hby at_125) (q := 127) rfl rfl ?_
          refine Go.s_iconst X49 hx (hb hby at_127) (q := 128) rfl (z := 2) rfl ?_
          by_cases c128_57 : v51 = (2 : Int32)
          · -- pc 128: v51 = (2 : Int32)
            refine Go.s_icmpNo X49 hx (hb hby at_128) (q := 131) rfl (teq c128_57).2 ?_
            refine Go.s_lload X49 hx (hb hby at_131) (q := 133) rfl rfl ?_
            refine Go.s_lload X49 hx (hb hby at_133) (q := 135) rfl rfl ?_
            refine Go.s_ladd X49 hx (hb hby at_135) (q := 136) rfl ?_
            refine Go.s_lstore X49 hx (hb hby at_136) (q := 138) rfl (l' := #[.val (.int x0), .val (.int x1), .val (.long x2), .second, .val (.int v1), .val (.ref a_FIX_HEARTBEAT), .val (.long (5000 : Int64)), .second, .val (.long (9223372036854775807 : Int64)), .second, .val (.int (1 : Int32)), .val (.long v50), .second, .val (.int v51), .val (.long ((9223372036854775807 : Int64) + v50)), .second, .unset]) rfl ?_
            generalize hv58 : ((9223372036854775807 : Int64) + v50) = v58
            refine Go.s_goto X49 hx (hb hby at_138) (q := 144) (by decide) (by decide) ?_
            refine Go.s_iload X49 hx (hb hby at_144) (q := 146) rfl rfl ?_
            refine Go.s_ifNo X49 hx (hb hby at_146) (q := 149) rfl ((if0 _ _).trans (feq (by decide : ¬ ((1 : Int32) = (0 : Int32)))).1) ?_
            refine Go.s_lload X49 hx (hb hby at_149) (q := 151) rfl rfl ?_
            refine Go.s_lload X49 hx (hb hby at_151) (q := 153) rfl rfl ?_
            refine Go.s_lcmp X49 hx (hb hby at_153) (q := 154) rfl ?_
            by_cases c154_59 : v58 < (5000 : Int64)
            · -- pc 154: v58 < (5000 : Int64)
              refine Go.s_ifYes X49 hx (hb hby at_154) (q := 161) (by decide) (by decide) ((if0 _ _).trans (tlt ((lw_lt v58 (5000 : Int64)).mpr c154_59)).1) ?_
              refine Go.s_iconst X49 hx (hb hby at_161) (q := 162) rfl (z := 0) rfl ?_
              refine Go.s_istore X49 hx (hb hby at_162) (q := 164) rfl (l' := #[.val (.int x0), .val (.int x1), .val (.long x2), .second, .val (.int v1), .val (.ref a_FIX_HEARTBEAT), .val (.long (5000 : Int64)), .second, .val (.long (9223372036854775807 : Int64)), .second, .val (.int (1 : Int32)), .val (.long v50), .second, .val (.int v51), .val (.long v58), .second, .val (.int (0 : Int32))]) rfl ?_
              refine Go.s_goto X49 hx (hb hby at_164) (q := 190) (by decide) (by decide) ?_
              refine Go.s_aload X49 hx (hb hby at_190) (q := 192) rfl rfl rfl ?_
              refine Go.s_lload X49 hx (hb hby at_192) (q := 194) rfl rfl ?_
              refine Go.callV (y := mn_1) (z := mn_1) X49 hx hZ hown (w_ hw 6 rfl) (w_ hw 7 rfl) (notFace_of_selects (args := #[]) (mvT hZ (w_ hw 9 rfl))) (w_ hw 9 rfl) (w_ hw 8 rfl) (w_ hw 10 rfl) (w_ hw 1 rfl) (by decide) e49 E_FIX_HEARTBEAT (argsL := [(.long v58)]) (rest := []) (rm_ala_FIX_HEARTBEAT l Z a0 hw v58 _ a_PROBE_EVERY a_SILENCE a_FIX_HEARTBEAT a_PROBE_WHEN_IDLE hctx') (by rw [hml]; rfl) (lenOf pd_0 rfl) rfl (hb hby at_194) (by decide) (by decide) (by decide) (Nat.le_of_ble_eq_true rfl) ?_
              intro r60 T60 L60 q60 X60
              obtain ⟨w60, rfl, p60, rfl, e60⟩ := q60
              rw [List.append_nil] at X60
              rcases p60 with ⟨u60_0_0, z60⟩ | ⟨u60_1_0, u60_1_1, z60⟩ | ⟨u60_2_0, u60_2_1, z60⟩
              · -- (0 : Int32)
                subst w60
                show Go p e below _ T60 (mkF m 197 #[.val (.int x0), .val (.int x1), .val (.long x2), .second, .val (.int v1), .val (.ref a_FIX_HEARTBEAT), .val (.long (5000 : Int64)), .second, .val (.long (9223372036854775807 : Int64)), .second, .val (.int (1 : Int32)), .val (.long v50), .second, .val (.int v51), .val (.long v58), .second, .val (.int (0 : Int32))] [(.int (0 : Int32))])
                refine Go.s_iload X60 hx (hb hby at_197) (q := 199) rfl rfl ?_
                refine Go.s_icmpNo X60 hx (hb hby at_199) (q := 202) rfl (teq (by decide : (0 : Int32) = (0 : Int32))).2 ?_
                refine Go.s_iconst X60 hx (hb hby at_202) (q := 203) rfl (z := 1) rfl ?_
                refine Go.s_goto X60 hx (hb hby at_203) (q := 207) (by decide) (by decide) ?_
                refine Go.retN X60 hx hlk hret (by simp) (hb hby at_207) (by decide) (by decide) ?_
                try rw [e60]
                exact ⟨by decide, rfl⟩
              · -- (0 : Int32)
                subst w60
                exact absurd c154_59 u60_1_0
              · -- (1 : Int32)
                subst w60
                exact absurd c154_59 u60_2_0
            · -- pc 154: not v58 < (5000 : Int64)
              refine Go.s_ifNo X49 hx (hb hby at_154) (q := 157) rfl ((if0 _ _).trans (flt (fun q => c154_59 ((lw_lt v58 (5000 : Int64)).mp q))).1) ?_
              refine Go.s_iconst X49 hx (hb hby at_157) (q := 158) rfl (z := 1) rfl ?_
              refine Go.s_goto X49 hx (hb hby at_158) (q := 162) (by decide) (by decide) ?_
              refine Go.s_istore X49 hx (hb hby at_162) (q := 164) rfl (l' := #[.val (.int x0), .val (.int x1), .val (.long x2), .second, .val (.int v1), .val (.ref a_FIX_HEARTBEAT), .val (.long (5000 : Int64)), .second, .val (.long (9223372036854775807 : Int64)), .second, .val (.int (1 : Int32)), .val (.long v50), .second, .val (.int v51), .val (.long v58), .second, .val (.int (1 : Int32))]) rfl ?_
              refine Go.s_goto X49 hx (hb hby at_164) (q := 190) (by decide) (by decide) ?_
              refine Go.s_aload X49 hx (hb hby at_190) (q := 192) rfl rfl rfl ?_
              refine Go.s_lload X49 hx (hb hby at_192) (q := 194) rfl rfl ?_
              refine Go.callV (y := mn_1) (z := mn_1) X49 hx hZ hown (w_ hw 6 rfl) (w_ hw 7 rfl) (notFace_of_selects (args := #[]) (mvT hZ (w_ hw 9 rfl))) (w_ hw 9 rfl) (w_ hw 8 rfl) (w_ hw 10 rfl) (w_ hw 1 rfl) (by decide) e49 E_FIX_HEARTBEAT (argsL := [(.long v58)]) (rest := []) (rm_ala_FIX_HEARTBEAT l Z a0 hw v58 _ a_PROBE_EVERY a_SILENCE a_FIX_HEARTBEAT a_PROBE_WHEN_IDLE hctx') (by rw [hml]; rfl) (lenOf pd_0 rfl) rfl (hb hby at_194) (by decide) (by decide) (by decide) (Nat.le_of_ble_eq_true rfl) ?_
              intro r61 T61 L61 q61 X61
              obtain ⟨w61, rfl, p61, rfl, e61⟩ := q61
              rw [List.append_nil] at X61
              rcases p61 with ⟨u61_0_0, z61⟩ | ⟨u61_1_0, u61_1_1, z61⟩ | ⟨u61_2_0, u61_2_1, z61⟩
              · -- (0 : Int32)
                subst w61
                exact absurd u61_0_0 c154_59
              · -- (0 : Int32)
                subst w61
                exact absurd (Int64.lt_iff_toInt_lt.mp u61_1_1) (by have q1 := rng64 v58; have q2 : ((9223372036854775807 : Int64)).toInt = 9223372036854775807 := (by decide); omega)
              · -- (1 : Int32)
                subst w61
                show Go p e below _ T61 (mkF m 197 #[.val (.int x0), .val (.int x1), .val (.long x2), .second, .val (.int v1), .val (.ref a_FIX_HEARTBEAT), .val (.long (5000 : Int64)), .second, .val (.long (9223372036854775807 : Int64)), .second, .val (.int (1 : Int32)), .val (.long v50), .second, .val (.int v51), .val (.long v58), .second, .val (.int (1 : Int32))] [(.int (1 : Int32))])
                refine Go.s_iload X61 hx (hb hby at_197) (q := 199) rfl rfl ?_
                refine Go.s_icmpNo X61 hx (hb hby at_199) (q := 202) rfl (teq (by decide : (1 : Int32) = (1 : Int32))).2 ?_
                refine Go.s_iconst X61 hx (hb hby at_202) (q := 203) rfl (z := 1) rfl ?_
                refine Go.s_goto X61 hx (hb hby at_203) (q := 207) (by decide) (by decide) ?_
                refine Go.retN X61 hx hlk hret (by simp) (hb hby at_207) (by decide) (by decide) ?_
                try rw [e61]
                exact ⟨by decide, rfl⟩
          · -- pc 128: not v51 = (2 : Int32)
            refine Go.s_icmpYes X49 hx (hb hby at_128) (q := 141) (by decide) (by decide) (feq c128_57).2 ?_
            refine Go.s_lloadN X49 hx (hb hby at_141) (q := 142) rfl rfl ?_
            refine Go.s_lstore X49 hx (hb hby at_142) (q := 144) rfl (l' := #[.val (.int x0), .val (.int x1), .val (.long x2), .second, .val (.int v1), .val (.ref a_FIX_HEARTBEAT), .val (.long (5000 : Int64)), .second, .val (.long (9223372036854775807 : Int64)), .second, .val (.int (1 : Int32)), .val (.long v50), .second, .val (.int v51), .val (.long x2), .second, .unset]) rfl ?_
            refine Go.s_iload X49 hx (hb hby at_144) (q := 146) rfl rfl ?_
            refine Go.s_ifNo X49 hx (hb hby at_146) (q := 149) rfl ((if0 _ _).trans (feq (by decide : ¬ ((1 : Int32) = (0 : Int32)))).1) ?_
            refine Go.s_lload X49 hx (hb hby at_149) (q := 151) rfl rfl ?_
            refine Go.s_lload X49 hx (hb hby at_151) (q := 153) rfl rfl ?_
            refine Go.s_lcmp X49 hx (hb hby at_153) (q := 154) rfl ?_
            by_cases c154_62 : x2 < (5000 : Int64)
            · -- pc 154: x2 < (5000 : Int64)
              refine Go.s_ifYes X49 hx (hb hby at_154) (q := 161) (by decide) (by decide) ((if0 _ _).trans (tlt ((lw_lt x2 (5000 : Int64)).mpr c154_62)).1) ?_
              refine Go.s_iconst X49 hx (hb hby at_161) (q := 162) rfl (z := 0) rfl ?_
              refine Go.s_istore X49 hx (hb hby at_162) (q := 164) rfl (l' := #[.val (.int x0), .val (.int x1), .val (.long x2), .second, .val (.int v1), .val (.ref a_FIX_HEARTBEAT), .val (.long (5000 : Int64)), .second, .val (.long (9223372036854775807 : Int64)), .second, .val (.int (1 : Int32)), .val (.long v50), .second, .val (.int v51), .val (.long x2), .second, .val (.int (0 : Int32))]) rfl ?_
              refine Go.s_goto X49 hx (hb hby at_164) (q := 190) (by decide) (by decide) ?_
              refine Go.s_aload X49 hx (hb hby at_190) (q := 192) rfl rfl rfl ?_
              refine Go.s_lload X49 hx (hb hby at_192) (q := 194) rfl rfl ?_
              refine Go.callV (y := mn_1) (z := mn_1) X49 hx hZ hown (w_ hw 6 rfl) (w_ hw 7 rfl) (notFace_of_selects (args := #[]) (mvT hZ (w_ hw 9 rfl))) (w_ hw 9 rfl) (w_ hw 8 rfl) (w_ hw 10 rfl) (w_ hw 1 rfl) (by decide) e49 E_FIX_HEARTBEAT (argsL := [(.long x2)]) (rest := []) (rm_ala_FIX_HEARTBEAT l Z a0 hw x2 _ a_PROBE_EVERY a_SILENCE a_FIX_HEARTBEAT a_PROBE_WHEN_IDLE hctx') (by rw [hml]; rfl) (lenOf pd_0 rfl) rfl (hb hby at_194) (by decide) (by decide) (by decide) (Nat.le_of_ble_eq_true rfl) ?_
              intro r63 T63 L63 q63 X63
              obtain ⟨w63, rfl, p63, rfl, e63⟩ := q63
              rw [List.append_nil] at X63
              rcases p63 with ⟨u63_0_0, z63⟩ | ⟨u63_1_0, u63_1_1, z63⟩ | ⟨u63_2_0, u63_2_1, z63⟩
              · -- (0 : Int32)
                subst w63
                show Go p e below _ T63 (mkF m 197 #[.val (.int x0), .val (.int x1), .val (.long x2), .second, .val (.int v1), .val (.ref a_FIX_HEARTBEAT), .val (.long (5000 : Int64)), .second, .val (.long (9223372036854775807 : Int64)), .second, .val (.int (1 : Int32)), .val (.long v50), .second, .val (.int v51), .val (.long x2), .second, .val (.int (0 : Int32))] [(.int (0 : Int32))])
                refine Go.s_iload X63 hx (hb hby at_197) (q := 199) rfl rfl ?_
                refine Go.s_icmpNo X63 hx (hb hby at_199) (q := 202) rfl (teq (by decide : (0 : Int32) = (0 : Int32))).2 ?_
                refine Go.s_iconst X63 hx (hb hby at_202) (q := 203) rfl (z := 1) rfl ?_
                refine Go.s_goto X63 hx (hb hby at_203) (q := 207) (by decide) (by decide) ?_
                refine Go.retN X63 hx hlk hret (by simp) (hb hby at_207) (by decide) (by decide) ?_
                try rw [e63]
                exact ⟨by decide, rfl⟩
              · -- (0 : Int32)
                subst w63
                exact absurd c154_62 u63_1_0
              · -- (1 : Int32)
                subst w63
                exact absurd c154_62 u63_2_0
            · -- pc 154: not x2 < (5000 : Int64)
              refine Go.s_ifNo X49 hx (hb hby at_154) (q := 157) rfl ((if0 _ _).trans (flt (fun q => c154_62 ((lw_lt x2 (5000 : Int64)).mp q))).1) ?_
              refine Go.s_iconst X49 hx (hb hby at_157) (q := 158) rfl (z := 1) rfl ?_
              refine Go.s_goto X49 hx (hb hby at_158) (q := 162) (by decide) (by decide) ?_
              refine Go.s_istore X49 hx (hb hby at_162) (q := 164) rfl (l' := #[.val (.int x0), .val (.int x1), .val (.long x2), .second, .val (.int v1), .val (.ref a_FIX_HEARTBEAT), .val (.long (5000 : Int64)), .second, .val (.long (9223372036854775807 : Int64)), .second, .val (.int (1 : Int32)), .val (.long v50), .second, .val (.int v51), .val (.long x2), .second, .val (.int (1 : Int32))]) rfl ?_
              refine Go.s_goto X49 hx (hb hby at_164) (q := 190) (by decide) (by decide) ?_
              refine Go.s_aload X49 hx (hb hby at_190) (q := 192) rfl rfl rfl ?_
              refine Go.s_lload X49 hx (hb hby at_192) (q := 194) rfl rfl ?_
              refine Go.callV (y := mn_1) (z := mn_1) X49 hx hZ hown (w_ hw 6 rfl) (w_ hw 7 rfl) (notFace_of_selects (args := #[]) (mvT hZ (w_ hw 9 rfl))) (w_ hw 9 rfl) (w_ hw 8 rfl) (w_ hw 10 rfl) (w_ hw 1 rfl) (by decide) e49 E_FIX_HEARTBEAT (argsL := [(.long x2)]) (rest := []) (rm_ala_FIX_HEARTBEAT l Z a0 hw x2 _ a_PROBE_EVERY a_SILENCE a_FIX_HEARTBEAT a_PROBE_WHEN_IDLE hctx') (by rw [hml]; rfl) (lenOf pd_0 rfl) rfl (hb hby at_194) (by decide) (by decide) (by decide) (Nat.le_of_ble_eq_true rfl) ?_
              intro r64 T64 L64 q64 X64
              obtain ⟨w64, rfl, p64, rfl, e64⟩ := q64
              rw [List.append_nil] at X64
              rcases p64 with ⟨u64_0_0, z64⟩ | ⟨u64_1_0, u64_1_1, z64⟩ | ⟨u64_2_0, u64_2_1, z64⟩
              · -- (0 : Int32)
                subst w64
                exact absurd u64_0_0 c154_62
              · -- (0 : Int32)
                subst w64
                exact absurd (Int64.lt_iff_toInt_lt.mp u64_1_1) (by have q1 := rng64 x2; have q2 : ((9223372036854775807 : Int64)).toInt = 9223372036854775807 := (by decide); omega)
              · -- (1 : Int32)
                subst w64
                show Go p e below _ T64 (mkF m 197 #[.val (.int x0), .val (.int x1), .val (.long x2), .second, .val (.int v1), .val (.ref a_FIX_HEARTBEAT), .val (.long (5000 : Int64)), .second, .val (.long (9223372036854775807 : Int64)), .second, .val (.int (1 : Int32)), .val (.long v50), .second, .val (.int v51), .val (.long x2), .second, .val (.int (1 : Int32))] [(.int (1 : Int32))])
                refine Go.s_iload X64 hx (hb hby at_197) (q := 199) rfl rfl ?_
                refine Go.s_icmpNo X64 hx (hb hby at_199) (q := 202) rfl (teq (by decide : (1 : Int32) = (1 : Int32))).2 ?_
                refine Go.s_iconst X64 hx (hb hby at_202) (q := 203) rfl (z := 1) rfl ?_
                refine Go.s_goto X64 hx (hb hby at_203) (q := 207) (by decide) (by decide) ?_
                refine Go.retN X64 hx hlk hret (by simp) (hb hby at_207) (by decide) (by decide) ?_
                try rw [e64]
                exact ⟨by decide, rfl⟩
      · -- pc 58: not v1 = (2 : Int32)
        refine Go.s_icmpYes X0 hx (hb hby at_58) (q := 82) (by decide) (by decide) (feq c58_48).2 ?_
        refine Go.getS X0 hx hZ hown (w_ hw 13 rfl) Via.refl e0 S_SILENCE (hb hby at_82) ?_
        intro T65 X65 e65
        show Go p e below _ T65 (mkF m 85 #[.val (.int x0), .val (.int x1), .val (.long x2), .second, .val (.int v1), .unset, .unset, .unset, .unset, .unset, .val (.int (0 : Int32)), .unset, .unset, .unset, .unset, .unset, .unset] [(.ref a_SILENCE)])
        refine Go.s_astore X65 hx (hb hby at_85) (q := 87) rfl rfl (l' := #[.val (.int x0), .val (.int x1), .val (.long x2), .second, .val (.int v1), .val (.ref a_SILENCE), .unset, .unset, .unset, .unset, .val (.int (0 : Int32)), .unset, .unset, .unset, .unset, .unset, .unset]) rfl ?_
        refine Go.s_ldc2 X65 hx (hb hby at_87) (q := 90) rfl hown (mvT hZ (w_ hw 15 rfl)) ?_
        refine Go.s_lstore X65 hx (hb hby at_90) (q := 92) rfl (l' := #[.val (.int x0), .val (.int x1), .val (.long x2), .second, .val (.int v1), .val (.ref a_SILENCE), .val (.long (100 : Int64)), .second, .unset, .unset, .val (.int (0 : Int32)), .unset, .unset, .unset, .unset, .unset, .unset]) rfl ?_
        refine Go.s_ldc2 X65 hx (hb hby at_92) (q := 95) rfl hown (mvT hZ (w_ hw 16 rfl)) ?_
        refine Go.s_lstore X65 hx (hb hby at_95) (q := 97) rfl (l' := #[.val (.int x0), .val (.int x1), .val (.long x2), .second, .val (.int v1), .val (.ref a_SILENCE), .val (.long (100 : Int64)), .second, .val (.long (99999 : Int64)), .second, .val (.int (0 : Int32)), .unset, .unset, .unset, .unset, .unset, .unset]) rfl ?_
        refine Go.s_lloadN X65 hx (hb hby at_97) (q := 98) rfl rfl ?_
        refine Go.s_ldc2 X65 hx (hb hby at_98) (q := 101) rfl hown (mvT hZ (w_ hw 5 rfl)) ?_
        refine Go.s_lrem X65 hx (hb hby at_101) (q := 102) rfl (by decide) ?_
        refine Go.s_lstore X65 hx (hb hby at_102) (q := 104) rfl (l' := #[.val (.int x0), .val (.int x1), .val (.long x2), .second, .val (.int v1), .val (.ref a_SILENCE), .val (.long (100 : Int64)), .second, .val (.long (99999 : Int64)), .second, .val (.int (0 : Int32)), .val (.long (x2 - (x2 / (3 : Int64)) * (3 : Int64))), .second, .unset, .unset, .unset, .unset]) rfl ?_
        generalize hv66 : (x2 - (x2 / (3 : Int64)) * (3 : Int64)) = v66
        refine Go.s_iloadN X65 hx (hb hby at_104) (q := 105) rfl rfl ?_
        refine Go.s_iconst X65 hx (hb hby at_105) (q := 106) rfl (z := 3) rfl ?_
        refine Go.s_iand X65 hx (hb hby at_106) (q := 107) rfl ?_
        refine Go.s_istore X65 hx (hb hby at_107) (q := 109) rfl (l' := #[.val (.int x0), .val (.int x1), .val (.long x2), .second, .val (.int v1), .val (.ref a_SILENCE), .val (.long (100 : Int64)), .second, .val (.long (99999 : Int64)), .second, .val (.int (0 : Int32)), .val (.long v66), .second, .val (.int (x1 &&& (3 : Int32))), .unset, .unset, .unset]) rfl ?_
        generalize hv67 : (x1 &&& (3 : Int32)) = v67
        refine Go.s_iload X65 hx (hb hby at_109) (q := 111) rfl rfl ?_
        refine Go.s_iconst X65 hx (hb hby at_111) (q := 112) rfl (z := 1) rfl ?_
        by_cases c112_68 : v67 = (1 : Int32)
        · -- pc 112: v67 = (1 : Int32)
          refine Go.s_icmpNo X65 hx (hb hby at_112) (q := 115) rfl (teq c112_68).2 ?_
          refine Go.s_lload X65 hx (hb hby at_115) (q := 117) rfl rfl ?_
          refine Go.s_lload X65 hx (hb hby at_117) (q := 119) rfl rfl ?_
          refine Go.s_ladd X65 hx (hb hby at_119) (q := 120) rfl ?_
          refine Go.s_lstore X65 hx (hb hby at_120) (q := 122) rfl (l' := #[.val (.int x0), .val (.int x1), .val (.long x2), .second, .val (.int v1), .val (.ref a_SILENCE), .val (.long (100 : Int64)), .second, .val (.long (99999 : Int64)), .second, .val (.int (0 : Int32)), .val (.long v66), .second, .val (.int v67), .val (.long ((100 : Int64) + v66)), .second, .unset]) rfl ?_
          generalize hv69 : ((100 : Int64) + v66) = v69
          refine Go.s_goto X65 hx (hb hby at_122) (q := 144) (by decide) (by decide) ?_
          refine Go.s_iload X65 hx (hb hby at_144) (q := 146) rfl rfl ?_
          refine Go.s_ifYes X65 hx (hb hby at_146) (q := 167) (by decide) (by decide) ((if0 _ _).trans (teq (by decide : (0 : Int32) = (0 : Int32))).1) ?_
          refine Go.s_lload X65 hx (hb hby at_167) (q := 169) rfl rfl ?_
          refine Go.s_lload X65 hx (hb hby at_169) (q := 171) rfl rfl ?_
          refine Go.s_lcmp X65 hx (hb hby at_171) (q := 172) rfl ?_
          by_cases c172_70 : v69 < (100 : Int64)
          · -- pc 172: v69 < (100 : Int64)
            refine Go.s_ifYes X65 hx (hb hby at_172) (q := 187) (by decide) (by decide) ((if0 _ _).trans (tlt ((lw_lt v69 (100 : Int64)).mpr c172_70)).1) ?_
            refine Go.s_iconst X65 hx (hb hby at_187) (q := 188) rfl (z := 0) rfl ?_
            refine Go.s_istore X65 hx (hb hby at_188) (q := 190) rfl (l' := #[.val (.int x0), .val (.int x1), .val (.long x2), .second, .val (.int v1), .val (.ref a_SILENCE), .val (.long (100 : Int64)), .second, .val (.long (99999 : Int64)), .second, .val (.int (0 : Int32)), .val (.long v66), .second, .val (.int v67), .val (.long v69), .second, .val (.int (0 : Int32))]) rfl ?_
            refine Go.s_aload X65 hx (hb hby at_190) (q := 192) rfl rfl rfl ?_
            refine Go.s_lload X65 hx (hb hby at_192) (q := 194) rfl rfl ?_
            refine Go.callV (y := mn_1) (z := mn_1) X65 hx hZ hown (w_ hw 6 rfl) (w_ hw 7 rfl) (notFace_of_selects (args := #[]) (mvT hZ (w_ hw 9 rfl))) (w_ hw 9 rfl) (w_ hw 8 rfl) (w_ hw 10 rfl) (w_ hw 1 rfl) (by decide) e65 E_SILENCE (argsL := [(.long v69)]) (rest := []) (rm_ala_SILENCE l Z a0 hw v69 _ a_PROBE_EVERY a_SILENCE a_FIX_HEARTBEAT a_PROBE_WHEN_IDLE hctx') (by rw [hml]; rfl) (lenOf pd_0 rfl) rfl (hb hby at_194) (by decide) (by decide) (by decide) (Nat.le_of_ble_eq_true rfl) ?_
            intro r71 T71 L71 q71 X71
            obtain ⟨w71, rfl, p71, rfl, e71⟩ := q71
            rw [List.append_nil] at X71
            rcases p71 with ⟨u71_0_0, z71⟩ | ⟨u71_1_0, u71_1_1, z71⟩ | ⟨u71_2_0, u71_2_1, z71⟩
            · -- (0 : Int32)
              subst w71
              show Go p e below _ T71 (mkF m 197 #[.val (.int x0), .val (.int x1), .val (.long x2), .second, .val (.int v1), .val (.ref a_SILENCE), .val (.long (100 : Int64)), .second, .val (.long (99999 : Int64)), .second, .val (.int (0 : Int32)), .val (.long v66), .second, .val (.int v67), .val (.long v69), .second, .val (.int (0 : Int32))] [(.int (0 : Int32))])
              refine Go.s_iload X71 hx (hb hby at_197) (q := 199) rfl rfl ?_
              refine Go.s_icmpNo X71 hx (hb hby at_199) (q := 202) rfl (teq (by decide : (0 : Int32) = (0 : Int32))).2 ?_
              refine Go.s_iconst X71 hx (hb hby at_202) (q := 203) rfl (z := 1) rfl ?_
              refine Go.s_goto X71 hx (hb hby at_203) (q := 207) (by decide) (by decide) ?_
              refine Go.retN X71 hx hlk hret (by simp) (hb hby at_207) (by decide) (by decide) ?_
              try rw [e71]
              exact ⟨by decide, rfl⟩
            · -- (0 : Int32)
              subst w71
              exact absurd c172_70 u71_1_0
            · -- (1 : Int32)
              subst w71
              exact absurd c172_70 u71_2_0
          · -- pc 172: not v69 < (100 : Int64)
            refine Go.s_ifNo X65 hx (hb hby at_172) (q := 175) rfl ((if0 _ _).trans (flt (fun q => c172_70 ((lw_lt v69 (100 : Int64)).mp q))).1) ?_
            refine Go.s_lload X65 hx (hb hby at_175) (q := 177) rfl rfl ?_
            refine Go.s_lload X65 hx (hb hby at_177) (q := 179) rfl rfl ?_
            refine Go.s_lcmp X65 hx (hb hby at_179) (q := 180) rfl ?_
            by_cases c180_72 : (99999 : Int64) < v69
            · -- pc 180: (99999 : Int64) < v69
              refine Go.s_ifYes X65 hx (hb hby at_180) (q := 187) (by decide) (by decide) ((if0 _ _).trans (tlt ((lw_gt v69 (99999 : Int64)).mpr c180_72)).2.2.1) ?_
              refine Go.s_iconst X65 hx (hb hby at_187) (q := 188) rfl (z := 0) rfl ?_
              refine Go.s_istore X65 hx (hb hby at_188) (q := 190) rfl (l' := #[.val (.int x0), .val (.int x1), .val (.long x2), .second, .val (.int v1), .val (.ref a_SILENCE), .val (.long (100 : Int64)), .second, .val (.long (99999 : Int64)), .second, .val (.int (0 : Int32)), .val (.long v66), .second, .val (.int v67), .val (.long v69), .second, .val (.int (0 : Int32))]) rfl ?_
              refine Go.s_aload X65 hx (hb hby at_190) (q := 192) rfl rfl rfl ?_
              refine Go.s_lload X65 hx (hb hby at_192) (q := 194) rfl rfl ?_
              refine Go.callV (y := mn_1) (z := mn_1) X65 hx hZ hown (w_ hw 6 rfl) (w_ hw 7 rfl) (notFace_of_selects (args := #[]) (mvT hZ (w_ hw 9 rfl))) (w_ hw 9 rfl) (w_ hw 8 rfl) (w_ hw 10 rfl) (w_ hw 1 rfl) (by decide) e65 E_SILENCE (argsL := [(.long v69)]) (rest := []) (rm_ala_SILENCE l Z a0 hw v69 _ a_PROBE_EVERY a_SILENCE a_FIX_HEARTBEAT a_PROBE_WHEN_IDLE hctx') (by rw [hml]; rfl) (lenOf pd_0 rfl) rfl (hb hby at_194) (by decide) (by decide) (by decide) (Nat.le_of_ble_eq_true rfl) ?_
              intro r73 T73 L73 q73 X73
              obtain ⟨w73, rfl, p73, rfl, e73⟩ := q73
              rw [List.append_nil] at X73
              rcases p73 with ⟨u73_0_0, z73⟩ | ⟨u73_1_0, u73_1_1, z73⟩ | ⟨u73_2_0, u73_2_1, z73⟩
              · -- (0 : Int32)
                subst w73
                exact absurd u73_0_0 c172_70
              · -- (0 : Int32)
                subst w73
                show Go p e below _ T73 (mkF m 197 #[.val (.int x0), .val (.int x1), .val (.long x2), .second, .val (.int v1), .val (.ref a_SILENCE), .val (.long (100 : Int64)), .second, .val (.long (99999 : Int64)), .second, .val (.int (0 : Int32)), .val (.long v66), .second, .val (.int v67), .val (.long v69), .second, .val (.int (0 : Int32))] [(.int (0 : Int32))])
                refine Go.s_iload X73 hx (hb hby at_197) (q := 199) rfl rfl ?_
                refine Go.s_icmpNo X73 hx (hb hby at_199) (q := 202) rfl (teq (by decide : (0 : Int32) = (0 : Int32))).2 ?_
                refine Go.s_iconst X73 hx (hb hby at_202) (q := 203) rfl (z := 1) rfl ?_
                refine Go.s_goto X73 hx (hb hby at_203) (q := 207) (by decide) (by decide) ?_
                refine Go.retN X73 hx hlk hret (by simp) (hb hby at_207) (by decide) (by decide) ?_
                try rw [e73]
                exact ⟨by decide, rfl⟩
              · -- (1 : Int32)
                subst w73
                exact absurd c180_72 u73_2_1
            · -- pc 180: not (99999 : Int64) < v69
              refine Go.s_ifNo X65 hx (hb hby at_180) (q := 183) rfl ((if0 _ _).trans (flt (fun q => c180_72 ((lw_gt v69 (99999 : Int64)).mp q))).2.2.1) ?_
              refine Go.s_iconst X65 hx (hb hby at_183) (q := 184) rfl (z := 1) rfl ?_
              refine Go.s_goto X65 hx (hb hby at_184) (q := 188) (by decide) (by decide) ?_
              refine Go.s_istore X65 hx (hb hby at_188) (q := 190) rfl (l' := #[.val (.int x0), .val (.int x1), .val (.long x2), .second, .val (.int v1), .val (.ref a_SILENCE), .val (.long (100 : Int64)), .second, .val (.long (99999 : Int64)), .second, .val (.int (0 : Int32)), .val (.long v66), .second, .val (.int v67), .val (.long v69), .second, .val (.int (1 : Int32))]) rfl ?_
              refine Go.s_aload X65 hx (hb hby at_190) (q := 192) rfl rfl rfl ?_
              refine Go.s_lload X65 hx (hb hby at_192) (q := 194) rfl rfl ?_
              refine Go.callV (y := mn_1) (z := mn_1) X65 hx hZ hown (w_ hw 6 rfl) (w_ hw 7 rfl) (notFace_of_selects (args := #[]) (mvT hZ (w_ hw 9 rfl))) (w_ hw 9 rfl) (w_ hw 8 rfl) (w_ hw 10 rfl) (w_ hw 1 rfl) (by decide) e65 E_SILENCE (argsL := [(.long v69)]) (rest := []) (rm_ala_SILENCE l Z a0 hw v69 _ a_PROBE_EVERY a_SILENCE a_FIX_HEARTBEAT a_PROBE_WHEN_IDLE hctx') (by rw [hml]; rfl) (lenOf pd_0 rfl) rfl (hb hby at_194) (by decide) (by decide) (by decide) (Nat.le_of_ble_eq_true rfl) ?_
              intro r74 T74 L74 q74 X74
              obtain ⟨w74, rfl, p74, rfl, e74⟩ := q74
              rw [List.append_nil] at X74
              rcases p74 with ⟨u74_0_0, z74⟩ | ⟨u74_1_0, u74_1_1, z74⟩ | ⟨u74_2_0, u74_2_1, z74⟩
              · -- (0 : Int32)
                subst w74
                exact absurd u74_0_0 c172_70
              · -- (0 : Int32)
                subst w74
                exact absurd u74_1_1 c180_72
              · -- (1 : Int32)
                subst w74
                show Go p e below _ T74 (mkF m 197 #[.val (.int x0), .val (.int x1), .val (.long x2), .second, .val (.int v1), .val (.ref a_SILENCE), .val (.long (100 : Int64)), .second, .val (.long (99999 : Int64)), .second, .val (.int (0 : Int32)), .val (.long v66), .second, .val (.int v67), .val (.long v69), .second, .val (.int (1 : Int32))] [(.int (1 : Int32))])
                refine Go.s_iload X74 hx (hb hby at_197) (q := 199) rfl rfl ?_
                refine Go.s_icmpNo X74 hx (hb hby at_199) (q := 202) rfl (teq (by decide : (1 : Int32) = (1 : Int32))).2 ?_
                refine Go.s_iconst X74 hx (hb hby at_202) (q := 203) rfl (z := 1) rfl ?_
                refine Go.s_goto X74 hx (hb hby at_203) (q := 207) (by decide) (by decide) ?_
                refine Go.retN X74 hx hlk hret (by simp) (hb hby at_207) (by decide) (by decide) ?_
                try rw [e74]
                exact ⟨by decide, rfl⟩
        · -- pc 112: not v67 = (1 : Int32)
          refine Go.s_icmpYes X65 hx (hb hby at_112) (q := 125) (by decide) (by decide) (feq c112_68).2 ?_
          refine Go.s_iload X65 hx (hb hby at_125) (q := 127) rfl rfl ?_
          refine Go.s_iconst X65 hx (hb hby at_127) (q := 128) rfl (z := 2) rfl ?_
          by_cases c128_75 : v67 = (2 : Int32)
          · -- pc 128: v67 = (2 : Int32)
            refine Go.s_icmpNo X65 hx (hb hby at_128) (q := 131) rfl (teq c128_75).2 ?_
            refine Go.s_lload X65 hx (hb hby at_131) (q := 133) rfl rfl ?_
            refine Go.s_lload X65 hx (hb hby at_133) (q := 135) rfl rfl ?_
            refine Go.s_ladd X65 hx (hb hby at_135) (q := 136) rfl ?_
            refine Go.s_lstore X65 hx (hb hby at_136) (q := 138) rfl (l' := #[.val (.int x0), .val (.int x1), .val (.long x2), .second, .val (.int v1), .val (.ref a_SILENCE), .val (.long (100 : Int64)), .second, .val (.long (99999 : Int64)), .second, .val (.int (0 : Int32)), .val (.long v66), .second, .val (.int v67), .val (.long ((99999 : Int64) + v66)), .second, .unset]) rfl ?_
            generalize hv76 : ((99999 : Int64) + v66) = v76
            refine Go.s_goto X65 hx (hb hby at_138) (q := 144) (by decide) (by decide) ?_
            refine Go.s_iload X65 hx (hb hby at_144) (q := 146) rfl rfl ?_
            refine Go.s_ifYes X65 hx (hb hby at_146) (q := 167) (by decide) (by decide) ((if0 _ _).trans (teq (by decide : (0 : Int32) = (0 : Int32))).1) ?_
            refine Go.s_lload X65 hx (hb hby at_167) (q := 169) rfl rfl ?_
            refine Go.s_lload X65 hx (hb hby at_169) (q := 171) rfl rfl ?_
            refine Go.s_lcmp X65 hx (hb hby at_171) (q := 172) rfl ?_
            by_cases c172_77 : v76 < (100 : Int64)
            · -- pc 172: v76 < (100 : Int64)
              refine Go.s_ifYes X65 hx (hb hby at_172) (q := 187) (by decide) (by decide) ((if0 _ _).trans (tlt ((lw_lt v76 (100 : Int64)).mpr c172_77)).1) ?_
              refine Go.s_iconst X65 hx (hb hby at_187) (q := 188) rfl (z := 0) rfl ?_
              refine Go.s_istore X65 hx (hb hby at_188) (q := 190) rfl (l' := #[.val (.int x0), .val (.int x1), .val (.long x2), .second, .val (.int v1), .val (.ref a_SILENCE), .val (.long (100 : Int64)), .second, .val (.long (99999 : Int64)), .second, .val (.int (0 : Int32)), .val (.long v66), .second, .val (.int v67), .val (.long v76), .second, .val (.int (0 : Int32))]) rfl ?_
              refine Go.s_aload X65 hx (hb hby at_190) (q := 192) rfl rfl rfl ?_
              refine Go.s_lload X65 hx (hb hby at_192) (q := 194) rfl rfl ?_
              refine Go.callV (y := mn_1) (z := mn_1) X65 hx hZ hown (w_ hw 6 rfl) (w_ hw 7 rfl) (notFace_of_selects (args := #[]) (mvT hZ (w_ hw 9 rfl))) (w_ hw 9 rfl) (w_ hw 8 rfl) (w_ hw 10 rfl) (w_ hw 1 rfl) (by decide) e65 E_SILENCE (argsL := [(.long v76)]) (rest := []) (rm_ala_SILENCE l Z a0 hw v76 _ a_PROBE_EVERY a_SILENCE a_FIX_HEARTBEAT a_PROBE_WHEN_IDLE hctx') (by rw [hml]; rfl) (lenOf pd_0 rfl) rfl (hb hby at_194) (by decide) (by decide) (by decide) (Nat.le_of_ble_eq_true rfl) ?_
              intro r78 T78 L78 q78 X78
              obtain ⟨w78, rfl, p78, rfl, e78⟩ := q78
              rw [List.append_nil] at X78
              rcases p78 with ⟨u78_0_0, z78⟩ | ⟨u78_1_0, u78_1_1, z78⟩ | ⟨u78_2_0, u78_2_1, z78⟩
              · -- (0 : Int32)
                subst w78
                show Go p e below _ T78 (mkF m 197 #[.val (.int x0), .val (.int x1), .val (.long x2), .second, .val (.int v1), .val (.ref a_SILENCE), .val (.long (100 : Int64)), .second, .val (.long (99999 : Int64)), .second, .val (.int (0 : Int32)), .val (.long v66), .second, .val (.int v67), .val (.long v76), .second, .val (.int (0 : Int32))] [(.int (0 : Int32))])
                refine Go.s_iload X78 hx (hb hby at_197) (q := 199) rfl rfl ?_
                refine Go.s_icmpNo X78 hx (hb hby at_199) (q := 202) rfl (teq (by decide : (0 : Int32) = (0 : Int32))).2 ?_
                refine Go.s_iconst X78 hx (hb hby at_202) (q := 203) rfl (z := 1) rfl ?_
                refine Go.s_goto X78 hx (hb hby at_203) (q := 207) (by decide) (by decide) ?_
                refine Go.retN X78 hx hlk hret (by simp) (hb hby at_207) (by decide) (by decide) ?_
                try rw [e78]
                exact ⟨by decide, rfl⟩
              · -- (0 : Int32)
                subst w78
                exact absurd c172_77 u78_1_0
              · -- (1 : Int32)
                subst w78
                exact absurd c172_77 u78_2_0
            · -- pc 172: not v76 < (100 : Int64)
              refine Go.s_ifNo X65 hx (hb hby at_172) (q := 175) rfl ((if0 _ _).trans (flt (fun q => c172_77 ((lw_lt v76 (100 : Int64)).mp q))).1) ?_
              refine Go.s_lload X65 hx (hb hby at_175) (q := 177) rfl rfl ?_
              refine Go.s_lload X65 hx (hb hby at_177) (q := 179) rfl rfl ?_
              refine Go.s_lcmp X65 hx (hb hby at_179) (q := 180) rfl ?_
              by_cases c180_79 : (99999 : Int64) < v76
              · -- pc 180: (99999 : Int64) < v76
                refine Go.s_ifYes X65 hx (hb hby at_180) (q := 187) (by decide) (by decide) ((if0 _ _).trans (tlt ((lw_gt v76 (99999 : Int64)).mpr c180_79)).2.2.1) ?_
                refine Go.s_iconst X65 hx (hb hby at_187) (q := 188) rfl (z := 0) rfl ?_
                refine Go.s_istore X65 hx (hb hby at_188) (q := 190) rfl (l' := #[.val (.int x0), .val (.int x1), .val (.long x2), .second, .val (.int v1), .val (.ref a_SILENCE), .val (.long (100 : Int64)), .second, .val (.long (99999 : Int64)), .second, .val (.int (0 : Int32)), .val (.long v66), .second, .val (.int v67), .val (.long v76), .second, .val (.int (0 : Int32))]) rfl ?_
                refine Go.s_aload X65 hx (hb hby at_190) (q := 192) rfl rfl rfl ?_
                refine Go.s_lload X65 hx (hb hby at_192) (q := 194) rfl rfl ?_
                refine Go.callV (y := mn_1) (z := mn_1) X65 hx hZ hown (w_ hw 6 rfl) (w_ hw 7 rfl) (notFace_of_selects (args := #[]) (mvT hZ (w_ hw 9 rfl))) (w_ hw 9 rfl) (w_ hw 8 rfl) (w_ hw 10 rfl) (w_ hw 1 rfl) (by decide) e65 E_SILENCE (argsL := [(.long v76)]) (rest := []) (rm_ala_SILENCE l Z a0 hw v76 _ a_PROBE_EVERY a_SILENCE a_FIX_HEARTBEAT a_PROBE_WHEN_IDLE hctx') (by rw [hml]; rfl) (lenOf pd_0 rfl) rfl (hb hby at_194) (by decide) (by decide) (by decide) (Nat.le_of_ble_eq_true rfl) ?_
                intro r80 T80 L80 q80 X80
                obtain ⟨w80, rfl, p80, rfl, e80⟩ := q80
                rw [List.append_nil] at X80
                rcases p80 with ⟨u80_0_0, z80⟩ | ⟨u80_1_0, u80_1_1, z80⟩ | ⟨u80_2_0, u80_2_1, z80⟩
                · -- (0 : Int32)
                  subst w80
                  exact absurd u80_0_0 c172_77
                · -- (0 : Int32)
                  subst w80
                  show Go p e below _ T80 (mkF m 197 #[.val (.int x0), .val (.int x1), .val (.long x2), .second, .val (.int v1), .val (.ref a_SILENCE), .val (.long (100 : Int64)), .second, .val (.long (99999 : Int64)), .second, .val (.int (0 : Int32)), .val (.long v66), .second, .val (.int v67), .val (.long v76), .second, .val (.int (0 : Int32))] [(.int (0 : Int32))])
                  refine Go.s_iload X80 hx (hb hby at_197) (q := 199) rfl rfl ?_
                  refine Go.s_icmpNo X80 hx (hb hby at_199) (q := 202) rfl (teq (by decide : (0 : Int32) = (0 : Int32))).2 ?_
                  refine Go.s_iconst X80 hx (hb hby at_202) (q := 203) rfl (z := 1) rfl ?_
                  refine Go.s_goto X80 hx (hb hby at_203) (q := 207) (by decide) (by decide) ?_
                  refine Go.retN X80 hx hlk hret (by simp) (hb hby at_207) (by decide) (by decide) ?_
                  try rw [e80]
                  exact ⟨by decide, rfl⟩
                · -- (1 : Int32)
                  subst w80
                  exact absurd c180_79 u80_2_1
              · -- pc 180: not (99999 : Int64) < v76
                refine Go.s_ifNo X65 hx (hb hby at_180) (q := 183) rfl ((if0 _ _).trans (flt (fun q => c180_79 ((lw_gt v76 (99999 : Int64)).mp q))).2.2.1) ?_
                refine Go.s_iconst X65 hx (hb hby at_183) (q := 184) rfl (z := 1) rfl ?_
                refine Go.s_goto X65 hx (hb hby at_184) (q := 188) (by decide) (by decide) ?_
                refine Go.s_istore X65 hx (hb hby at_188) (q := 190) rfl (l' := #[.val (.int x0), .val (.int x1), .val (.long x2), .second, .val (.int v1), .val (.ref a_SILENCE), .val (.long (100 : Int64)), .second, .val (.long (99999 : Int64)), .second, .val (.int (0 : Int32)), .val (.long v66), .second, .val (.int v67), .val (.long v76), .second, .val (.int (1 : Int32))]) rfl ?_
                refine Go.s_aload X65 hx (hb hby at_190) (q := 192) rfl rfl rfl ?_
                refine Go.s_lload X65 hx (hb hby at_192) (q := 194) rfl rfl ?_
                refine Go.callV (y := mn_1) (z := mn_1) X65 hx hZ hown (w_ hw 6 rfl) (w_ hw 7 rfl) (notFace_of_selects (args := #[]) (mvT hZ (w_ hw 9 rfl))) (w_ hw 9 rfl) (w_ hw 8 rfl) (w_ hw 10 rfl) (w_ hw 1 rfl) (by decide) e65 E_SILENCE (argsL := [(.long v76)]) (rest := []) (rm_ala_SILENCE l Z a0 hw v76 _ a_PROBE_EVERY a_SILENCE a_FIX_HEARTBEAT a_PROBE_WHEN_IDLE hctx') (by rw [hml]; rfl) (lenOf pd_0 rfl) rfl (hb hby at_194) (by decide) (by decide) (by decide) (Nat.le_of_ble_eq_true rfl) ?_
                intro r81 T81 L81 q81 X81
                obtain ⟨w81, rfl, p81, rfl, e81⟩ := q81
                rw [List.append_nil] at X81
                rcases p81 with ⟨u81_0_0, z81⟩ | ⟨u81_1_0, u81_1_1, z81⟩ | ⟨u81_2_0, u81_2_1, z81⟩
                · -- (0 : Int32)
                  subst w81
                  exact absurd u81_0_0 c172_77
                · -- (0 : Int32)
                  subst w81
                  exact absurd u81_1_1 c180_79
                · -- (1 : Int32)
                  subst w81
                  show Go p e below _ T81 (mkF m 197 #[.val (.int x0), .val (.int x1), .val (.long x2), .second, .val (.int v1), .val (.ref a_SILENCE), .val (.long (100 : Int64)), .second, .val (.long (99999 : Int64)), .second, .val (.int (0 : Int32)), .val (.long v66), .second, .val (.int v67), .val (.long v76), .second, .val (.int (1 : Int32))] [(.int (1 : Int32))])
                  refine Go.s_iload X81 hx (hb hby at_197) (q := 199) rfl rfl ?_
                  refine Go.s_icmpNo X81 hx (hb hby at_199) (q := 202) rfl (teq (by decide : (1 : Int32) = (1 : Int32))).2 ?_
                  refine Go.s_iconst X81 hx (hb hby at_202) (q := 203) rfl (z := 1) rfl ?_
                  refine Go.s_goto X81 hx (hb hby at_203) (q := 207) (by decide) (by decide) ?_
                  refine Go.retN X81 hx hlk hret (by simp) (hb hby at_207) (by decide) (by decide) ?_
                  try rw [e81]
                  exact ⟨by decide, rfl⟩
          · -- pc 128: not v67 = (2 : Int32)
            refine Go.s_icmpYes X65 hx (hb hby at_128) (q := 141) (by decide) (by decide) (feq c128_75).2 ?_
            refine Go.s_lloadN X65 hx (hb hby at_141) (q := 142) rfl rfl ?_
            refine Go.s_lstore X65 hx (hb hby at_142) (q := 144) rfl (l' := #[.val (.int x0), .val (.int x1), .val (.long x2), .second, .val (.int v1), .val (.ref a_SILENCE), .val (.long (100 : Int64)), .second, .val (.long (99999 : Int64)), .second, .val (.int (0 : Int32)), .val (.long v66), .second, .val (.int v67), .val (.long x2), .second, .unset]) rfl ?_
            refine Go.s_iload X65 hx (hb hby at_144) (q := 146) rfl rfl ?_
            refine Go.s_ifYes X65 hx (hb hby at_146) (q := 167) (by decide) (by decide) ((if0 _ _).trans (teq (by decide : (0 : Int32) = (0 : Int32))).1) ?_
            refine Go.s_lload X65 hx (hb hby at_167) (q := 169) rfl rfl ?_
            refine Go.s_lload X65 hx (hb hby at_169) (q := 171) rfl rfl ?_
            refine Go.s_lcmp X65 hx (hb hby at_171) (q := 172) rfl ?_
            by_cases c172_82 : x2 < (100 : Int64)
            · -- pc 172: x2 < (100 : Int64)
              refine Go.s_ifYes X65 hx (hb hby at_172) (q := 187) (by decide) (by decide) ((if0 _ _).trans (tlt ((lw_lt x2 (100 : Int64)).mpr c172_82)).1) ?_
              refine Go.s_iconst X65 hx (hb hby at_187) (q := 188) rfl (z := 0) rfl ?_
              refine Go.s_istore X65 hx (hb hby at_188) (q := 190) rfl (l' := #[.val (.int x0), .val (.int x1), .val (.long x2), .second, .val (.int v1), .val (.ref a_SILENCE), .val (.long (100 : Int64)), .second, .val (.long (99999 : Int64)), .second, .val (.int (0 : Int32)), .val (.long v66), .second, .val (.int v67), .val (.long x2), .second, .val (.int (0 : Int32))]) rfl ?_
              refine Go.s_aload X65 hx (hb hby at_190) (q := 192) rfl rfl rfl ?_
              refine Go.s_lload X65 hx (hb hby at_192) (q := 194) rfl rfl ?_
              refine Go.callV (y := mn_1) (z := mn_1) X65 hx hZ hown (w_ hw 6 rfl) (w_ hw 7 rfl) (notFace_of_selects (args := #[]) (mvT hZ (w_ hw 9 rfl))) (w_ hw 9 rfl) (w_ hw 8 rfl) (w_ hw 10 rfl) (w_ hw 1 rfl) (by decide) e65 E_SILENCE (argsL := [(.long x2)]) (rest := []) (rm_ala_SILENCE l Z a0 hw x2 _ a_PROBE_EVERY a_SILENCE a_FIX_HEARTBEAT a_PROBE_WHEN_IDLE hctx') (by rw [hml]; rfl) (lenOf pd_0 rfl) rfl (hb hby at_194) (by decide) (by decide) (by decide) (Nat.le_of_ble_eq_true rfl) ?_
              intro r83 T83 L83 q83 X83
              obtain ⟨w83, rfl, p83, rfl, e83⟩ := q83
              rw [List.append_nil] at X83
              rcases p83 with ⟨u83_0_0, z83⟩ | ⟨u83_1_0, u83_1_1, z83⟩ | ⟨u83_2_0, u83_2_1, z83⟩
              · -- (0 : Int32)
                subst w83
                show Go p e below _ T83 (mkF m 197 #[.val (.int x0), .val (.int x1), .val (.long x2), .second, .val (.int v1), .val (.ref a_SILENCE), .val (.long (100 : Int64)), .second, .val (.long (99999 : Int64)), .second, .val (.int (0 : Int32)), .val (.long v66), .second, .val (.int v67), .val (.long x2), .second, .val (.int (0 : Int32))] [(.int (0 : Int32))])
                refine Go.s_iload X83 hx (hb hby at_197) (q := 199) rfl rfl ?_
                refine Go.s_icmpNo X83 hx (hb hby at_199) (q := 202) rfl (teq (by decide : (0 : Int32) = (0 : Int32))).2 ?_
                refine Go.s_iconst X83 hx (hb hby at_202) (q := 203) rfl (z := 1) rfl ?_
                refine Go.s_goto X83 hx (hb hby at_203) (q := 207) (by decide) (by decide) ?_
                refine Go.retN X83 hx hlk hret (by simp) (hb hby at_207) (by decide) (by decide) ?_
                try rw [e83]
                exact ⟨by decide, rfl⟩
              · -- (0 : Int32)
                subst w83
                exact absurd c172_82 u83_1_0
              · -- (1 : Int32)
                subst w83
                exact absurd c172_82 u83_2_0
            · -- pc 172: not x2 < (100 : Int64)
              refine Go.s_ifNo X65 hx (hb hby at_172) (q := 175) rfl ((if0 _ _).trans (flt (fun q => c172_82 ((lw_lt x2 (100 : Int64)).mp q))).1) ?_
              refine Go.s_lload X65 hx (hb hby at_175) (q := 177) rfl rfl ?_
              refine Go.s_lload X65 hx (hb hby at_177) (q := 179) rfl rfl ?_
              refine Go.s_lcmp X65 hx (hb hby at_179) (q := 180) rfl ?_
              by_cases c180_84 : (99999 : Int64) < x2
              · -- pc 180: (99999 : Int64) < x2
                refine Go.s_ifYes X65 hx (hb hby at_180) (q := 187) (by decide) (by decide) ((if0 _ _).trans (tlt ((lw_gt x2 (99999 : Int64)).mpr c180_84)).2.2.1) ?_
                refine Go.s_iconst X65 hx (hb hby at_187) (q := 188) rfl (z := 0) rfl ?_
                refine Go.s_istore X65 hx (hb hby at_188) (q := 190) rfl (l' := #[.val (.int x0), .val (.int x1), .val (.long x2), .second, .val (.int v1), .val (.ref a_SILENCE), .val (.long (100 : Int64)), .second, .val (.long (99999 : Int64)), .second, .val (.int (0 : Int32)), .val (.long v66), .second, .val (.int v67), .val (.long x2), .second, .val (.int (0 : Int32))]) rfl ?_
                refine Go.s_aload X65 hx (hb hby at_190) (q := 192) rfl rfl rfl ?_
                refine Go.s_lload X65 hx (hb hby at_192) (q := 194) rfl rfl ?_
                refine Go.callV (y := mn_1) (z := mn_1) X65 hx hZ hown (w_ hw 6 rfl) (w_ hw 7 rfl) (notFace_of_selects (args := #[]) (mvT hZ (w_ hw 9 rfl))) (w_ hw 9 rfl) (w_ hw 8 rfl) (w_ hw 10 rfl) (w_ hw 1 rfl) (by decide) e65 E_SILENCE (argsL := [(.long x2)]) (rest := []) (rm_ala_SILENCE l Z a0 hw x2 _ a_PROBE_EVERY a_SILENCE a_FIX_HEARTBEAT a_PROBE_WHEN_IDLE hctx') (by rw [hml]; rfl) (lenOf pd_0 rfl) rfl (hb hby at_194) (by decide) (by decide) (by decide) (Nat.le_of_ble_eq_true rfl) ?_
                intro r85 T85 L85 q85 X85
                obtain ⟨w85, rfl, p85, rfl, e85⟩ := q85
                rw [List.append_nil] at X85
                rcases p85 with ⟨u85_0_0, z85⟩ | ⟨u85_1_0, u85_1_1, z85⟩ | ⟨u85_2_0, u85_2_1, z85⟩
                · -- (0 : Int32)
                  subst w85
                  exact absurd u85_0_0 c172_82
                · -- (0 : Int32)
                  subst w85
                  show Go p e below _ T85 (mkF m 197 #[.val (.int x0), .val (.int x1), .val (.long x2), .second, .val (.int v1), .val (.ref a_SILENCE), .val (.long (100 : Int64)), .second, .val (.long (99999 : Int64)), .second, .val (.int (0 : Int32)), .val (.long v66), .second, .val (.int v67), .val (.long x2), .second, .val (.int (0 : Int32))] [(.int (0 : Int32))])
                  refine Go.s_iload X85 hx (hb hby at_197) (q := 199) rfl rfl ?_
                  refine Go.s_icmpNo X85 hx (hb hby at_199) (q := 202) rfl (teq (by decide : (0 : Int32) = (0 : Int32))).2 ?_
                  refine Go.s_iconst X85 hx (hb hby at_202) (q := 203) rfl (z := 1) rfl ?_
                  refine Go.s_goto X85 hx (hb hby at_203) (q := 207) (by decide) (by decide) ?_
                  refine Go.retN X85 hx hlk hret (by simp) (hb hby at_207) (by decide) (by decide) ?_
                  try rw [e85]
                  exact ⟨by decide, rfl⟩
                · -- (1 : Int32)
                  subst w85
                  exact absurd c180_84 u85_2_1
              · -- pc 180: not (99999 : Int64) < x2
                refine Go.s_ifNo X65 hx (hb hby at_180) (q := 183) rfl ((if0 _ _).trans (flt (fun q => c180_84 ((lw_gt x2 (99999 : Int64)).mp q))).2.2.1) ?_
                refine Go.s_iconst X65 hx (hb hby at_183) (q := 184) rfl (z := 1) rfl ?_
                refine Go.s_goto X65 hx (hb hby at_184) (q := 188) (by decide) (by decide) ?_
                refine Go.s_istore X65 hx (hb hby at_188) (q := 190) rfl (l' := #[.val (.int x0), .val (.int x1), .val (.long x2), .second, .val (.int v1), .val (.ref a_SILENCE), .val (.long (100 : Int64)), .second, .val (.long (99999 : Int64)), .second, .val (.int (0 : Int32)), .val (.long v66), .second, .val (.int v67), .val (.long x2), .second, .val (.int (1 : Int32))]) rfl ?_
                refine Go.s_aload X65 hx (hb hby at_190) (q := 192) rfl rfl rfl ?_
                refine Go.s_lload X65 hx (hb hby at_192) (q := 194) rfl rfl ?_
                refine Go.callV (y := mn_1) (z := mn_1) X65 hx hZ hown (w_ hw 6 rfl) (w_ hw 7 rfl) (notFace_of_selects (args := #[]) (mvT hZ (w_ hw 9 rfl))) (w_ hw 9 rfl) (w_ hw 8 rfl) (w_ hw 10 rfl) (w_ hw 1 rfl) (by decide) e65 E_SILENCE (argsL := [(.long x2)]) (rest := []) (rm_ala_SILENCE l Z a0 hw x2 _ a_PROBE_EVERY a_SILENCE a_FIX_HEARTBEAT a_PROBE_WHEN_IDLE hctx') (by rw [hml]; rfl) (lenOf pd_0 rfl) rfl (hb hby at_194) (by decide) (by decide) (by decide) (Nat.le_of_ble_eq_true rfl) ?_
                intro r86 T86 L86 q86 X86
                obtain ⟨w86, rfl, p86, rfl, e86⟩ := q86
                rw [List.append_nil] at X86
                rcases p86 with ⟨u86_0_0, z86⟩ | ⟨u86_1_0, u86_1_1, z86⟩ | ⟨u86_2_0, u86_2_1, z86⟩
                · -- (0 : Int32)
                  subst w86
                  exact absurd u86_0_0 c172_82
                · -- (0 : Int32)
                  subst w86
                  exact absurd u86_1_1 c180_84
                · -- (1 : Int32)
                  subst w86
                  show Go p e below _ T86 (mkF m 197 #[.val (.int x0), .val (.int x1), .val (.long x2), .second, .val (.int v1), .val (.ref a_SILENCE), .val (.long (100 : Int64)), .second, .val (.long (99999 : Int64)), .second, .val (.int (0 : Int32)), .val (.long v66), .second, .val (.int v67), .val (.long x2), .second, .val (.int (1 : Int32))] [(.int (1 : Int32))])
                  refine Go.s_iload X86 hx (hb hby at_197) (q := 199) rfl rfl ?_
                  refine Go.s_icmpNo X86 hx (hb hby at_199) (q := 202) rfl (teq (by decide : (1 : Int32) = (1 : Int32))).2 ?_
                  refine Go.s_iconst X86 hx (hb hby at_202) (q := 203) rfl (z := 1) rfl ?_
                  refine Go.s_goto X86 hx (hb hby at_203) (q := 207) (by decide) (by decide) ?_
                  refine Go.retN X86 hx hlk hret (by simp) (hb hby at_207) (by decide) (by decide) ?_
                  try rw [e86]
                  exact ⟨by decide, rfl⟩
set_option maxRecDepth 65536 in
set_option maxHeartbeats 40000000 in
theorem comes_1 {Post : Tables → Env → Array Value → State → Outcome → State → Prop} (hpost : ∀ tb e args s v u, (limb_1_1.after args s (.returned v) u = true ∧ limb_1_2.after args s (.returned v) u = true ∧ True) → FrameEnd s (.returned v) u (Jvm.fieldLocs frame_1_writes args s ++ Jvm.arrayLocs frame_1_arrays args s ++ Jvm.staticLocs frame_1_statics s) 0 0 → Post tb e args s (.returned v) u) :
    ArmFor flags0 classFile x code maxLocals ret World_1 tables_1 room_1 Calls_1 rest_1 Pre_1 Post := by
  intro l hfl _ _ p e ha hc hk s m args below hf hA hF happ hP
  obtain ⟨hcalls, hrest, hpre⟩ := hP
  obtain ⟨-, -, -, hnamed, -, -, -, hat⟩ := (Spec.applies_iff hf).mp happ
  obtain ⟨hg, hn⟩ := and_e (Cond.before_iff.mp (show (Jvm.Cond.and given_1 narrow_1).before args s = true from hpre))
  obtain ⟨hgl, hgr⟩ := and_e hg
  obtain ⟨hgrl, hgrr⟩ := and_e hgr
  obtain ⟨hgrrl, hgrrr⟩ := and_e hgrr
  obtain ⟨w0, w1, w2, rfl⟩ : ∃ w0 w1 w2 : Value, args = #[w0, w1, w2] := by
    have hs : args.size = 3 := by simpa [Cond.value, given_1] using hgl
    obtain ⟨L⟩ := args
    match L, hs with
    | [w0, w1, w2], _ => exact ⟨w0, w1, w2, rfl⟩
  have hw := fun d (hd : d ∈ tables_1) => atoms_spec (ws := Jvm.Cond.code x code maxLocals ret :: tables_1) hat d (List.mem_cons_of_mem _ hd)
  obtain ⟨i0, ev0⟩ := is_v hgrl
  obtain rfl : w0 = (.int i0) := Option.some.inj ev0
  obtain ⟨i1, ev1⟩ := is_v hgrrl
  obtain rfl : w1 = (.int i1) := Option.some.inj ev1
  obtain ⟨i2, ev2⟩ := isL_v hgrrr
  obtain rfl : w2 = (.long i2) := Option.some.inj ev2
  obtain ⟨hnl, hnr⟩ := and_e hn
  obtain ⟨hnrl, hnrr⟩ := and_e hnr
  obtain ⟨hnrrl, hnrrr⟩ := and_e hnrr
  obtain ⟨hnrrrl, hnrrrr⟩ := and_e hnrrr
  obtain ⟨hnrrrrl, hnrrrrr⟩ := and_e hnrrrr
  obtain ⟨hnrrrrrl, hnrrrrrr⟩ := and_e hnrrrrr
  obtain ⟨hnrrrrrrl, hnrrrrrrr⟩ := and_e hnrrrrrr
  obtain ⟨hnrrrrrrrl, hnrrrrrrrr⟩ := and_e hnrrrrrrr
  obtain ⟨hnrrrrrrrrl, hnrrrrrrrrr⟩ := and_e hnrrrrrrrr
  obtain ⟨hnrrrrrrrrrl, hnrrrrrrrrrr⟩ := and_e hnrrrrrrrrr
  obtain ⟨hnrrrrrrrrrrl, hnrrrrrrrrrrr⟩ := and_e hnrrrrrrrrrr
  obtain ⟨a_PROBE_EVERY, ea_PROBE_EVERY⟩ := exa_v hnl
  have S_PROBE_EVERY := Sta.start ea_PROBE_EVERY (Or.inr ⟨(w_ hw 1 rfl), (w_ hw 2 rfl)⟩)
  have E_PROBE_EVERY := Exa.start ea_PROBE_EVERY hnl
  obtain ⟨a_SILENCE, ea_SILENCE⟩ := exa_v hnrrl
  have S_SILENCE := Sta.start ea_SILENCE (Or.inr ⟨(w_ hw 1 rfl), (w_ hw 14 rfl)⟩)
  have E_SILENCE := Exa.start ea_SILENCE hnrrl
  obtain ⟨a_FIX_HEARTBEAT, ea_FIX_HEARTBEAT⟩ := exa_v hnrrrrrl
  have S_FIX_HEARTBEAT := Sta.start ea_FIX_HEARTBEAT (Or.inr ⟨(w_ hw 1 rfl), (w_ hw 20 rfl)⟩)
  have E_FIX_HEARTBEAT := Exa.start ea_FIX_HEARTBEAT hnrrrrrl
  obtain ⟨a_PROBE_WHEN_IDLE, ea_PROBE_WHEN_IDLE⟩ := exa_v hnrrrrrrrrrl
  have S_PROBE_WHEN_IDLE := Sta.start ea_PROBE_WHEN_IDLE (Or.inr ⟨(w_ hw 1 rfl), (w_ hw 24 rfl)⟩)
  have E_PROBE_WHEN_IDLE := Exa.start ea_PROBE_WHEN_IDLE hnrrrrrrrrrl
  have F_PROBE_EVERY_minMs := fldJ ea_PROBE_EVERY hnrl
  have F_SILENCE_minMs := fldJ ea_SILENCE hnrrrl
  have F_SILENCE_maxMs := fldJ ea_SILENCE hnrrrrl
  have F_FIX_HEARTBEAT_minMs := fldJ ea_FIX_HEARTBEAT hnrrrrrrl
  have F_PROBE_EVERY_maxMs := fldJ ea_PROBE_EVERY hnrrrrrrrl
  have F_FIX_HEARTBEAT_maxMs := fldJ ea_FIX_HEARTBEAT hnrrrrrrrrl
  have F_PROBE_WHEN_IDLE_minMs := fldJ ea_PROBE_WHEN_IDLE hnrrrrrrrrrrl
  have F_PROBE_WHEN_IDLE_maxMs := fldJ ea_PROBE_WHEN_IDLE hnrrrrrrrrrrr
  have hctx : Ctx s s.heap a_PROBE_EVERY a_SILENCE a_FIX_HEARTBEAT a_PROBE_WHEN_IDLE := ⟨S_PROBE_EVERY, S_SILENCE, S_FIX_HEARTBEAT, S_PROBE_WHEN_IDLE, E_PROBE_EVERY, E_SILENCE, E_FIX_HEARTBEAT, E_PROBE_WHEN_IDLE, F_PROBE_EVERY_minMs, F_SILENCE_minMs, F_SILENCE_maxMs, F_FIX_HEARTBEAT_minMs, F_PROBE_EVERY_maxMs, F_FIX_HEARTBEAT_maxMs, F_PROBE_WHEN_IDLE_minMs, F_PROBE_WHEN_IDLE_maxMs⟩
  obtain ⟨n, o, h1, h2, h3, _, L, rfl, ⟨rfl, rfl⟩, hq⟩ := rm_law l s _ hw i0 i1 i2 s.heap a_PROBE_EVERY a_SILENCE a_FIX_HEARTBEAT a_PROBE_WHEN_IDLE hctx tables_1 p e ha hc hk s m _ below hf ((Spec.applies_iff_loose hf).mp happ).1 ⟨rfl, State.Warmed39.refl s, rfl⟩ trivial
  refine ⟨n, _, h1, h2, h3, hpost _ _ _ _ _ _ ⟨Cond.after_iff.mpr rfl, Cond.after_iff.mpr (eq_i res_at (Term.int_eval (1)) rfl), trivial⟩ ⟨hq.1, hq.2.1, (hq.2.2.sift fun y hy => nomatch hy).mono (by decide) (by decide)⟩⟩
theorem main_1_1 : Claimed_1_1 := comes_1 fun _ _ _ _ _ _ h hF => ⟨h.1, hF⟩
theorem main_1_2 : Claimed_1_2 := comes_1 fun _ _ _ _ _ _ h hF => ⟨h.2.1, hF⟩
end Jvm.Pilot.@@N@@
namespace Jvm.Pilot.@@N@@
open Jvm Jvm.ClassFile Sem Op Lib Jvm.Free Jvm.Stand Jvm.Pilot.@@N@@.Jvm.D
/-! MADE BY PROGRAM (witnessworld.py) out of the Statement's table words and the real class files: 12 classes; the members and pool entries that the words name. The judged class is class 1, her method 1. -/
namespace start1
open Jvm.ClassFile
def u (s : String) : CpInfo := .utf8 (stringToUtf16 s)
/-- a pool by its gaps: so many unusable entries, then the entry; so many at the end -/
def gap : Nat → List CpInfo → List CpInfo
  | 0, r => r
  | n + 1, r => .unusable :: gap n r
def poolList (es : List (Nat × CpInfo)) (last : Nat) : List CpInfo := es.foldr (fun e r => gap e.1 (e.2 :: r)) (gap last [])
def pool (es : List (Nat × CpInfo)) (last : Nat) : Array CpInfo := ⟨poolList es last⟩
def fileOf (pool : Array CpInfo) (this : Nat) (attrs : Array Attribute := #[]) (ms : Array MethodInfo := #[]) (fl : Nat := 33) (sup : Nat := 0) (ifs : Array Nat := #[]) (fds : Array FieldInfo := #[]) : ClassFile where
  minorVersion := 0
  majorVersion := 65
  constantPool := pool
  accessFlags := fl
  thisClass := this
  superClass := sup
  interfaces := ifs
  fields := fds
  methods := ms
  attributes := attrs
def plain (name : String) (sup : Option ClassId) : Class where
  name := name
  kind := .ordinary
  loader := none
  accessFlags := 33
  super := sup
  interfaces := #[]
  cf := none
  fields := #[]
  methods := #[]
  instanceTypes := #[]
  staticTypes := #[]
  resolved := #[]
  callSites := []
  init := .initialized
  statics := none
  mirror := none

def pool0 : Array CpInfo := pool [(5, u "<init>"), (0, u "()V"), (1, .class_ 10), (1, u "java/lang/Object")] 113

def k0m0 : Method := { name := "<init>", desc := "()V", sig := { parameters := [], returnType := none }, accessFlags := 1, code := none }
/-- java/lang/Object -/
def k0 : Class := { plain "java/lang/Object" none with
  accessFlags := 33
  interfaces := #[]
  cf := some (fileOf pool0 8 #[] #[{ accessFlags := 1, nameIndex := 5, descriptorIndex := 6, attributes := #[] }] 33 0 #[] #[])
  fields := #[]
  methods := #[k0m0]
  instanceTypes := #[]
  staticTypes := #[]
  resolved := Array.replicate 124 none
  statics := none }

def pool1 : Array CpInfo := pool [(2, .class_ 4), (1, u "java/lang/Object"), (0, u "<init>"), (0, u "()V"), (0, .fieldref 8 9), (0, .class_ 10), (0, .nameAndType 11 12), (0, u "com/example/pulsegate/pulsegate/LivenessMode"), (0, u "PROBE_EVERY"), (0, u "Lcom/example/pulsegate/pulsegate/LivenessMode;"), (0, .long 3000), (1, .long 20000), (1, .fieldref 8 18), (0, .nameAndType 19 12), (0, u "PROBE_WHEN_IDLE"), (0, .fieldref 8 21), (0, .nameAndType 22 12), (0, u "FIX_HEARTBEAT"), (0, .long 5000), (3, .long 9223372036854775807), (1, .fieldref 8 30), (0, .nameAndType 31 12), (0, u "SILENCE"), (0, .long 100), (1, .long 99999), (1, .long 3), (1, .methodref 8 39), (0, .nameAndType 40 41), (0, u "allows"), (0, u "(J)Z"), (0, .class_ 43), (0, u "com/example/pulsegate/pulsegate/LivenessModeAllowsPinLaw"), (2, u "law"), (0, u "(IIJ)Z")] 3

def k1m0 : Method := { name := "<init>", desc := "()V", sig := { parameters := [], returnType := none }, accessFlags := 1, code := none }
def k1c1 : Code := { maxStack := 4, maxLocals := 17, code := code, exceptionTable := #[], attributes := #[] }
def k1m1 : Method := { name := "law", desc := "(IIJ)Z", sig := { parameters := [.int, .int, .long], returnType := some .boolean }, accessFlags := 9, code := some k1c1 }
/-- com/example/pulsegate/pulsegate/LivenessModeAllowsPinLaw -/
def k1 : Class := { plain "com/example/pulsegate/pulsegate/LivenessModeAllowsPinLaw" (some 0) with
  accessFlags := 49
  interfaces := #[]
  cf := some (fileOf pool1 42 #[] #[{ accessFlags := 1, nameIndex := 5, descriptorIndex := 6, attributes := #[] }, { accessFlags := 9, nameIndex := 46, descriptorIndex := 47, attributes := #[] }] 49 2 #[] #[])
  fields := #[]
  methods := #[k1m0, k1m1]
  instanceTypes := #[]
  staticTypes := #[]
  resolved := Array.replicate 51 none
  statics := none }

def pool2 : Array CpInfo := pool [(1, .class_ 2), (0, u "java/lang/constant/Constable"), (0, .class_ 4), (0, u "java/lang/Object")] 6

/-- java/lang/constant/Constable -/
def k2 : Class := { plain "java/lang/constant/Constable" (some 0) with
  accessFlags := 1537
  interfaces := #[]
  cf := some (fileOf pool2 1 #[] #[] 1537 3 #[] #[])
  fields := #[]
  methods := #[]
  instanceTypes := #[]
  staticTypes := #[]
  resolved := Array.replicate 11 none
  statics := none }

def pool3 : Array CpInfo := pool [(1, .class_ 2), (0, u "java/lang/Comparable"), (0, .class_ 4), (0, u "java/lang/Object")] 7

/-- java/lang/Comparable -/
def k3 : Class := { plain "java/lang/Comparable" (some 0) with
  accessFlags := 1537
  interfaces := #[]
  cf := some (fileOf pool3 1 #[] #[] 1537 3 #[] #[])
  fields := #[]
  methods := #[]
  instanceTypes := #[]
  staticTypes := #[]
  resolved := Array.replicate 12 none
  statics := none }

def pool4 : Array CpInfo := pool [(1, .class_ 2), (0, u "java/io/Serializable"), (0, .class_ 4), (0, u "java/lang/Object")] 2

/-- java/io/Serializable -/
def k4 : Class := { plain "java/io/Serializable" (some 0) with
  accessFlags := 1537
  interfaces := #[]
  cf := some (fileOf pool4 1 #[] #[] 1537 3 #[] #[])
  fields := #[]
  methods := #[]
  instanceTypes := #[]
  staticTypes := #[]
  resolved := Array.replicate 7 none
  statics := none }

def pool5 : Array CpInfo := pool [(2, .class_ 4), (1, u "java/lang/Enum"), (0, u "name"), (0, u "Ljava/lang/String;"), (2, u "ordinal"), (0, u "I"), (1, .class_ 14), (1, u "java/lang/Object"), (4, u "hash"), (86, .class_ 108), (1, u "java/lang/Enum$EnumDesc"), (2, .class_ 112), (0, u "java/lang/constant/Constable"), (0, .class_ 114), (0, u "java/lang/Comparable"), (0, .class_ 116), (0, u "java/io/Serializable")] 87

/-- java/lang/Enum -/
def k5 : Class := { plain "java/lang/Enum" (some 0) with
  accessFlags := 1057
  interfaces := #[2, 3, 4]
  cf := some (fileOf pool5 2 #[.nestMembers #[106]] #[] 1057 12 #[111, 113, 115] #[{ accessFlags := 18, nameIndex := 5, descriptorIndex := 6, attributes := #[] }, { accessFlags := 18, nameIndex := 9, descriptorIndex := 10, attributes := #[] }, { accessFlags := 2, nameIndex := 19, descriptorIndex := 10, attributes := #[] }])
  fields := #[{ name := "name", type := (.object "java/lang/String"), accessFlags := 18, slot := 0, constantValue := 0 }, { name := "ordinal", type := .int, accessFlags := 18, slot := 1, constantValue := 0 }, { name := "hash", type := .int, accessFlags := 2, slot := 2, constantValue := 0 }]
  methods := #[]
  instanceTypes := #[(.object "java/lang/String"), .int, .int]
  staticTypes := #[]
  resolved := Array.replicate 204 none
  statics := none }

def pool6 : Array CpInfo := pool [(3, .class_ 4), (0, u "com/example/pulsegate/pulsegate/LivenessMode"), (2, u "PROBE_EVERY"), (0, u "Lcom/example/pulsegate/pulsegate/LivenessMode;"), (2, u "PROBE_WHEN_IDLE"), (2, u "FIX_HEARTBEAT"), (2, u "SILENCE"), (2, u "$VALUES"), (0, u "[Lcom/example/pulsegate/pulsegate/LivenessMode;"), (6, .class_ 30), (1, u "java/lang/Enum"), (8, u "code"), (0, u "Ljava/lang/String;"), (0, .fieldref 3 42), (0, .nameAndType 43 44), (0, u "minMs"), (0, u "J"), (0, .fieldref 3 46), (0, .nameAndType 47 44), (0, u "maxMs"), (38, u "UNBOUNDED"), (12, u "allows"), (0, u "(J)Z")] 25

def k6c0 : Code := { maxStack := 4, maxLocals := 3, code := prog_28_method_6_code, exceptionTable := #[], attributes := #[] }
def k6m0 : Method := { name := "allows", desc := "(J)Z", sig := { parameters := [.long], returnType := some .boolean }, accessFlags := 0, code := some k6c0 }
/-- com/example/pulsegate/pulsegate/LivenessMode -/
def k6 : Class := { plain "com/example/pulsegate/pulsegate/LivenessMode" (some 5) with
  accessFlags := 16432
  interfaces := #[]
  cf := some (fileOf pool6 3 #[] #[{ accessFlags := 0, nameIndex := 99, descriptorIndex := 100, attributes := #[] }] 16432 28 #[] #[{ accessFlags := 16409, nameIndex := 7, descriptorIndex := 8, attributes := #[] }, { accessFlags := 16409, nameIndex := 11, descriptorIndex := 8, attributes := #[] }, { accessFlags := 16409, nameIndex := 14, descriptorIndex := 8, attributes := #[] }, { accessFlags := 16409, nameIndex := 17, descriptorIndex := 8, attributes := #[] }, { accessFlags := 26, nameIndex := 86, descriptorIndex := 44, attributes := #[] }, { accessFlags := 18, nameIndex := 39, descriptorIndex := 40, attributes := #[] }, { accessFlags := 18, nameIndex := 43, descriptorIndex := 44, attributes := #[] }, { accessFlags := 18, nameIndex := 47, descriptorIndex := 44, attributes := #[] }, { accessFlags := 4122, nameIndex := 20, descriptorIndex := 21, attributes := #[] }])
  fields := #[{ name := "PROBE_EVERY", type := (.object "com/example/pulsegate/pulsegate/LivenessMode"), accessFlags := 16409, slot := 0, constantValue := 0 }, { name := "PROBE_WHEN_IDLE", type := (.object "com/example/pulsegate/pulsegate/LivenessMode"), accessFlags := 16409, slot := 1, constantValue := 0 }, { name := "FIX_HEARTBEAT", type := (.object "com/example/pulsegate/pulsegate/LivenessMode"), accessFlags := 16409, slot := 2, constantValue := 0 }, { name := "SILENCE", type := (.object "com/example/pulsegate/pulsegate/LivenessMode"), accessFlags := 16409, slot := 3, constantValue := 0 }, { name := "UNBOUNDED", type := .long, accessFlags := 26, slot := 4, constantValue := 0 }, { name := "code", type := (.object "java/lang/String"), accessFlags := 18, slot := 3, constantValue := 0 }, { name := "minMs", type := .long, accessFlags := 18, slot := 4, constantValue := 0 }, { name := "maxMs", type := .long, accessFlags := 18, slot := 5, constantValue := 0 }, { name := "$VALUES", type := (.array (.object "com/example/pulsegate/pulsegate/LivenessMode")), accessFlags := 4122, slot := 5, constantValue := 0 }]
  methods := #[k6m0]
  instanceTypes := #[(.object "java/lang/String"), .int, .int, (.object "java/lang/String"), .long, .long]
  staticTypes := #[(.object "com/example/pulsegate/pulsegate/LivenessMode"), (.object "com/example/pulsegate/pulsegate/LivenessMode"), (.object "com/example/pulsegate/pulsegate/LivenessMode"), (.object "com/example/pulsegate/pulsegate/LivenessMode"), .long, (.array (.object "com/example/pulsegate/pulsegate/LivenessMode"))]
  resolved := Array.replicate 126 none
  statics := some 0 }

def pool7 : Array CpInfo := pool [(1, u "java/lang/Cloneable"), (0, .class_ 1), (0, u "java/lang/Object"), (0, .class_ 3)] 3

/-- java/lang/Cloneable -/
def k7 : Class := { plain "java/lang/Cloneable" (some 0) with
  accessFlags := 1537
  interfaces := #[]
  cf := some (fileOf pool7 2 #[] #[] 1537 4 #[] #[])
  fields := #[]
  methods := #[]
  instanceTypes := #[]
  staticTypes := #[]
  resolved := Array.replicate 8 none
  statics := none }

/-- the primitive byte -/
def k8 : Class := { plain "byte" none with kind := .primitive 'B', accessFlags := 0x411 }
/-- [B -/
def k9 : Class := { plain "[B" (some 0) with kind := .array 8 .byte, interfaces := #[7, 4], accessFlags := 1041 }

/-- the primitive int -/
def k10 : Class := { plain "int" none with kind := .primitive 'I', accessFlags := 0x411 }
/-- [I -/
def k11 : Class := { plain "[I" (some 0) with kind := .array 10 .int, interfaces := #[7, 4], accessFlags := 1041 }

def heap : Heap := #[{ cls := 6, slots := #[.ref 1, .ref 4, .ref 3, .ref 2, .long 0, .null], vm := .statics 6 },
  { cls := 6, slots := #[.null, .int 0, .int 0, .null, .long 3000, .long 20000], vm := .none },
  { cls := 6, slots := #[.null, .int 0, .int 0, .null, .long 100, .long 99999], vm := .none },
  { cls := 6, slots := #[.null, .int 0, .int 0, .null, .long 5000, .long 9223372036854775807], vm := .none },
  { cls := 6, slots := #[.null, .int 0, .int 0, .null, .long 3000, .long 20000], vm := .none }]
def classes : Array Class := #[k0, k1, k2, k3, k4, k5, k6, k7, k8, k9, k10, k11]
def interned : List (Array UInt16 × Addr) := []
def slotsUsed : Nat := 30
def theMethod : MethodId := ⟨1, 1⟩
def args0 : Array Value := #[.int 1, .int 2, .long 5]
def aboutOver (below : List Frame) : State where
  vm := { classes := classes, interned := interned.toArray }
  heap := heap
  slotsUsed := slotsUsed
  threads := #[{ frames := .invoking theMethod args0 :: below }]
def below0 : List Frame := [.native { method := ⟨0, 0⟩, args := #[] }]
def about1 : State := aboutOver below0
def p0 : Program := .bare "" "" ""
def e0 : Env := launch0.env 0 0 0
theorem w_frames : about1.frames = Frame.invoking theMethod args0 :: below0 := rfl
set_option maxRecDepth 65536 in
theorem w_args : argsFit about1.vm theMethod args0 = true := by decide +kernel
set_option maxRecDepth 65536 in
theorem w_heap : heapFits about1 = true := by decide +kernel
set_option maxRecDepth 65536 in
theorem w_runnable : about1.curStatus? = some .runnable := by decide +kernel
set_option maxRecDepth 65536 in
theorem w_alone : about1.alone = true := by decide +kernel
set_option maxRecDepth 65536 in
theorem w_named : about1.methodNamed? x = some theMethod := by decide +kernel
set_option maxRecDepth 65536 in
theorem w_hears : about1.hears theMethod below0 = true := by decide +kernel
set_option maxRecDepth 65536 in
theorem w_ripe : about1.ripe theMethod args0 below0 = true := by decide +kernel
theorem w_running : about1.status = .running := rfl
set_option maxRecDepth 65536 in
theorem w_room : about1.hasRoom e0.platform room_1 = true :=
  launch0.hasRoom_least _ room_1 (by decide +kernel) (by decide +kernel) (by decide +kernel) (by decide +kernel) (by decide +kernel) (by decide +kernel)
theorem allAtoms_all (ts : List Jvm.Cond) (a : Array Jvm.Value) (st : Jvm.State) : (allAtoms ts).before a st = ts.all (fun c => c.before a st) := by
  induction ts with
  | nil => rfl
  | cons c t ih =>
    show (Jvm.Cond.and c (allAtoms t)).before a st = _
    rw [Jvm.Cond.before_and, ih, List.all_cons]
def words1 : List Jvm.Cond := Jvm.Cond.code x code maxLocals ret :: tables_1
/-- a 'code' word, met by the world's own term for the bytes: nothing is compared byte by byte -/
theorem code_word {y : MethodName} {bytes : ByteArray} {mx : Nat} {rt : Option FieldType} {a : Array Value} {s : State} {m : MethodId} {meth : Method} {c : Code} (h1 : s.methodNamed? y = some m) (h2 : s.vm.method? m = some meth) (h3 : meth.code = some c) (h4 : c.code = bytes)
    (h5 : (c.maxLocals == mx && c.exceptionTable.isEmpty && decide (c.maxStack ≤ mostOperands) && decide (meth.sig.returnType = rt) && !meth.locks && decide (parseMethodDescriptor y.desc = some meth.sig)) = true) : (Jvm.Cond.code y bytes mx rt).before a s = true := by
  simp only [Bool.and_eq_true, beq_iff_eq, Bool.not_eq_true', decide_eq_true_eq] at h5
  obtain ⟨⟨⟨⟨⟨g1, g2⟩, g3⟩, g4⟩, g5⟩, g6⟩ := h5
  simp [Cond.before, Cond.holds, Cond.value, h1, h2, h3, h4, g1, g2, g3, g4, g5, g6]
def isCode : Jvm.Cond → Bool
  | .code _ _ _ _ => true
  | _ => false
theorem all_split {L : List Jvm.Cond} {P : Jvm.Cond → Bool} (h1 : L.all (fun c => isCode c || P c) = true) (h2 : ∀ c ∈ L.filter isCode, P c = true) : L.all P = true := by
  refine List.all_eq_true.mpr fun c hc => ?_
  have h := List.all_eq_true.mp h1 c hc
  rcases Bool.eq_false_or_eq_true (isCode c) with hi | hi
  · exact h2 c (List.mem_filter.mpr ⟨hc, hi⟩)
  · simpa [hi] using h
set_option maxRecDepth 65536 in
theorem w_c0 : (Jvm.Cond.code x code maxLocals ret).before args0 about1 = true := code_word (m := ⟨1, 1⟩) (meth := k1m1) (c := k1c1) (by decide +kernel) rfl rfl rfl (by decide +kernel)
set_option maxRecDepth 65536 in
theorem w_c1 : (Jvm.Cond.code ({ cls := "com/example/pulsegate/pulsegate/LivenessMode", name := "allows", desc := "(J)Z" } : Jvm.MethodName) prog_28_method_6_code (3 : Nat) (Option.some Jvm.ClassFile.FieldType.boolean)).before args0 about1 = true := code_word (m := ⟨6, 0⟩) (meth := k6m0) (c := k6c0) (by decide +kernel) rfl rfl rfl (by decide +kernel)
def codes1 : List Jvm.Cond := [Jvm.Cond.code x code maxLocals ret, Jvm.Cond.code ({ cls := "com/example/pulsegate/pulsegate/LivenessMode", name := "allows", desc := "(J)Z" } : Jvm.MethodName) prog_28_method_6_code (3 : Nat) (Option.some Jvm.ClassFile.FieldType.boolean)]
set_option maxRecDepth 65536 in
theorem codes_eq : words1.filter isCode = codes1 := rfl
theorem w_codes : ∀ c ∈ words1.filter isCode, c.before args0 about1 = true := by
  rw [codes_eq]
  intro c hc
  simp only [codes1, List.mem_cons, List.not_mem_nil, or_false] at hc
  rcases hc with rfl | rfl
  · exact w_c0
  · exact w_c1
set_option maxRecDepth 65536 in
theorem w_t1 : (words1.take 24).all (fun c => isCode c || c.before args0 about1) = true := by decide +kernel
set_option maxRecDepth 65536 in
theorem w_t2 : (words1.drop 24).all (fun c => isCode c || c.before args0 about1) = true := by decide +kernel
theorem w_tables : (allAtoms (Jvm.Cond.code x code maxLocals ret :: tables_1)).before args0 about1 = true := by
  rw [allAtoms_all]
  show words1.all (fun c => c.before args0 about1) = true
  refine all_split ?_ w_codes
  rw [← List.take_append_drop 24 words1, List.all_append, w_t1, w_t2]
  rfl
set_option maxRecDepth 65536 in
theorem w_case : (Jvm.Cond.and given_1 narrow_1).before args0 about1 = true := by decide +kernel
theorem w_applies : (headSpec (Jvm.Cond.code x code maxLocals ret :: tables_1) room_1).applies x e0.platform about1 = true :=
  (Spec.applies_iff w_frames).mpr ⟨w_running, w_runnable, w_alone, w_named, w_hears, w_ripe, w_room, w_tables⟩
theorem atStart : AtStart classFile x code maxLocals ret World_1 tables_1 room_1 Calls_1 rest_1 Pre_1 launch0 p0 e0 about1 theMethod args0 below0 :=
  ⟨lists_1, trivial, launch0.admits_env _ _ _, launch0.least_env, fairChoices_fair.cas, fairChoices_fair.clock, w_frames, w_args, w_heap, w_applies, trivial, trivial, w_case⟩
end start1
theorem witness_1 : WitnessClaimed_1 := ⟨start1.p0, start1.e0, start1.about1, start1.theMethod, start1.args0, start1.below0, start1.atStart⟩
end Jvm.Pilot.@@N@@
