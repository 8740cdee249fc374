import JvmDerived
import JvmDerived.Pilot.@@N@@Statement
import JvmDerived.Pilot.@@N@@Code
set_option linter.unusedVariables false
set_option linter.unusedSimpArgs false
namespace Jvm.Pilot.@@N@@
open Jvm Jvm.ClassFile Sem Op Lib Jvm.Free Jvm.Stand Jvm.LawKit Jvm.RoadKit Bundle Jvm.Pilot.@@N@@.Jvm.D
section OwnKit
variable {p : Program} {l : Launch} {e : Env} {R : Room} {s : State} {m : MethodId} {args : Array Value} {below : List Frame} {meth : Method} {c : Code} {T : State} {locs : List Loc} {cells slots : Nat} {Z : State} {a0 : Array Value} {h : Heap} {Q : Option Value → Heap → List Loc → Prop} {C S : Nat} {F : State → Outcome → Prop}
/-- what is left of a walk: from T with the top frame g the invocation comes to its end, and F holds there -/
def Go (p : Program) (e : Env) (below : List Frame) (F : State → Outcome → Prop) (T : State) (g : JFrame) : Prop :=
  ∃ t o, Steps p.tables e below (T.setTop g) t ∧ t.status = .running ∧ Ended t below o ∧ F t o
/-- it returned, Q holds, and no more has changed than the frame says -/
def FN (s : State) (Q : Option Value → Heap → List Loc → Prop) (C S : Nat) (t : State) (o : Outcome) : Prop := ∃ v L, o = .returned v ∧ Q v t.heap L ∧ FrameEnd s o t L C S
theorem Go.of {T' : State} {g g' : JFrame} (h : ∀ t, Steps p.tables e below (T'.setTop g') t → Steps p.tables e below (T.setTop g) t) (k : Go p e below F T' g') : Go p e below F T g := by
  obtain ⟨t, o, h1, h2⟩ := k
  exact ⟨t, o, h _ h1, h2⟩
theorem Go.cast {g g' : JFrame} (q : g = g') (k : Go p e below F T g') : Go p e below F T g := q ▸ k
theorem Go.ret (X : Stand p l e R s m args below meth c T locs cells slots) {v : Option Value} {g : JFrame} (hlk : meth.locks = false) (hv : meth.sig.returnType = none → v = none)
    (st : ∀ fs, (∀ (f : JFrame) (acts : List Action), f.method = m → f.locked = none → f.entered = [] → (doReturn e (T.setTop f) acts v).1 = T.setFrames fs) → Steps p.tables e below (T.setTop g) (T.setFrames fs))
    (hc : cells ≤ C) (hs : slots ≤ S) (hQ : Q v T.heap locs) : Go p e below (FN s Q C S) T g := by
  obtain ⟨fs, hr, hrun, hended, hW, hsame⟩ := X.leave (v := v) hv hlk
  exact ⟨_, _, st fs hr, hrun, hended, _, _, rfl, hQ, ⟨_, rfl⟩, hW, hsame.mono hc hs⟩
theorem Go.retN (X : Stand p l e R s m args below meth c T locs cells slots) (hx : p.tables.exec = Jvm.exec) (hlk : meth.locks = false) {pc : Nat} {Ls : Array Slot} {z : Int32} {rest : List Value} {t : FieldType} (hret : meth.sig.returnType = some t) (ht : t = .boolean ∨ t = .byte ∨ t = .char ∨ t = .short) (hd : decode c.code pc = .ok (.ireturn, 1))
    (hc : cells ≤ C) (hs : slots ≤ S) (hQ : Q (some (.int (nar t z))) T.heap locs) : Go p e below (FN s Q C S) T (mkF m pc Ls (.int z :: rest)) :=
  Go.ret X hlk (fun h => by rw [hret] at h; cases h) (fun _ hr => Jvm.RoadKit.retN X hx hret ht hd hr) hc hs hQ
/-- a body's contract at given arguments and a given heap -/
def Ct (l : Launch) (y : MethodName) (bytes : ByteArray) (maxL : Nat) (ret : Option FieldType) (rm : Room) (Z : State) (h0 : Heap) (as' : Array Value) (Q : Option Value → Heap → List Loc → Prop) : Prop :=
  ∀ ws, MetFree l y (head1 (Jvm.Cond.code y bytes maxL ret :: ws) rm) (fun a U => a = as' ∧ Z.Warmed39 U.vm ∧ U.heap = h0) (fun _ _ _ _ _ => True) (fun _ U o U' => ∃ v L, o = .returned v ∧ Q v U'.heap L ∧ FrameEnd U o U' L rm.cells rm.slots)
theorem Ct.body {y : MethodName} {bytes : ByteArray} {maxL : Nat} {ret : Option FieldType} {rm : Room} {as' : Array Value} (hpl : plainFor y = true)
    (k : ∀ (p : Program) (e : Env) (s : State) (m : MethodId) (below : List Frame) (meth : Method) (c : Code) (T : State), p.tables.exec = Jvm.exec → c.code = bytes → c.maxLocals = maxL → s.vm.findClass y.cls = some m.cls → meth.name = y.name → meth.sig.returnType = ret → meth.locks = false → Z.Warmed39 s.vm →
      Stand p l e rm s m as' below meth c T [] 0 0 → T.heap = h → Go p e below (FN s Q rm.cells rm.slots) T (entryFrame m as' maxL)) : Ct l y bytes maxL ret rm Z h as' Q := fun ws => by
  refine MetFree.of_bodySF hpl hisR ?_
  intro p e s m args below meth c s₁ Bd hml0 hP hK
  obtain ⟨rfl, hZ, hh⟩ := hP
  exact k p e s m below meth c s₁ Bd.exec Bd.bytes hml0 (findClass_of_methodNamed Bd.named) (name_of_methodNamed Bd.named Bd.method).1 Bd.returns Bd.notSynchronized hZ (Stand.of_body Bd) (by rw [← hh, Bd.state]; rfl)
theorem Go.callV (X : Stand p l e R s m args below meth c T locs cells slots) (hx : p.tables.exec = Jvm.exec) (hZ : Z.Warmed39 s.vm) {own K : String} {index : Nat} {y z : MethodName} {bytes : ByteArray} {maxL : Nat} {ret : Option FieldType} (hown : s.vm.findClass own = some m.cls)
    (wl : (Jvm.Cond.methodLink own index y).before a0 Z = true) (wd : (Jvm.Cond.declares y).before a0 Z = true) (nf : NotFace s y) (wsel : (Jvm.Cond.selects K y z).before a0 Z = true) (wim : (Jvm.Cond.instanceMethod z).before a0 Z = true) (wc : (Jvm.Cond.code z bytes maxL ret).before a0 Z = true) (wz : (Jvm.Cond.initialized z.cls).before a0 Z = true) (hy : y.cls ≠ "java/lang/invoke/MethodHandle" ∧ y.cls ≠ "java/lang/invoke/VarHandle")
    (eT : T.heap = h) {b : Addr} (E : Exa Z h b K) {rm : Room} {argsL rest : List Value} {Q' : Option Value → Heap → List Loc → Prop} (hC : Ct l z bytes maxL ret rm Z h (.ref b :: argsL).toArray Q') {pc : Nat} {Ls : Array Slot} {st : List Value} (hsz : Ls.size = c.maxLocals)
    (hlen : ∀ sig, parseMethodDescriptor y.desc = some sig → argsL.length = sig.parameters.length) (hst : st = argsL.reverse ++ .ref b :: rest) (hd : decode c.code pc = .ok (.invokevirtual index, 3)) (hf : rm.frames + 1 ≤ R.frames) (hl : (rest.map fun v => v.category).sum + (maxL + 11) + rm.locals ≤ R.locals) (hc : cells + rm.cells ≤ R.cells) (hs : slots + rm.slots ≤ R.slots)
    (k : ∀ v T' L, Q' v T'.heap L → Stand p l e R s m args below meth c T' (locs ++ L) (cells + rm.cells) (slots + rm.slots) → Go p e below F T' (mkF m (pc + 3) Ls (v.toList ++ rest))) :
    Go p e below F T (mkF m pc Ls st) := by
  obtain ⟨cq, kq, qa, qb, qc⟩ := isOf hZ eT E
  obtain ⟨v, _, ⟨T', L', k', n'⟩, -, X', ⟨L, hQ, l1, y1, z1⟩, stp⟩ := X.virtualBack hx (y := y) (z := z) hown (mvT hZ wl) (mvT hZ wd) nf (mvT hZ wsel) (mvT hZ wim) hy (backOf (W := (rest.map fun v => v.category).sum) (hC []) hZ wc wz hf hl) qa qc (g := mkF m pc Ls st) rfl hsz (Steps.refl _) (argsL := argsL) (rest := rest) hlen hst (by show 2 * 0 + _ ≤ _; exact Nat.le_of_eq (Nat.zero_add _)) hd (fun _ _ => ⟨rfl, eT, hc, hs⟩)
  dsimp only [Pt.U, Pt.locs, Pt.cells, Pt.slots] at X' l1 y1 z1 stp hQ
  subst l1 y1 z1
  exact Go.of (fun t q => stp.trans q) (k _ _ _ hQ X')
theorem Go.getS (X : Stand p l e R s m args below meth c T locs cells slots) (hx : p.tables.exec = Jvm.exec) (hZ : Z.Warmed39 s.vm) {own R0 O n d : String} {index : Nat} (hown : s.vm.findClass own = some m.cls) (w : (Jvm.Cond.fieldLink own index R0 n d).before a0 Z = true) (via : Via Z R0 O n d)
    (eT : T.heap = h) {v : Value} (fF : Sta Z h O n d v) {pc : Nat} {Ls : Array Slot} {rest : List Value} (hd : decode c.code pc = .ok (.getstatic index, 3))
    (k : ∀ T', Stand p l e R s m args below meth c T' locs cells slots → T'.heap = h → Go p e below F T' (mkF m (pc + 3) Ls (v :: rest))) : Go p e below F T (mkF m pc Ls rest) := by
  obtain ⟨T', X', e', st⟩ := getS2 X hx hZ hown (host := "") (Or.inl w) via eT fF (g := mkF m pc Ls rest) rfl hd
  exact Go.of st (k _ X' e')
end OwnKit
section OwnSteps
variable {p : Program} {l : Launch} {e : Env} {R : Room} {s : State} {m : MethodId} {args : Array Value} {below : List Frame} {meth : Method} {c : Code} {T : State} {locs : List Loc} {cells slots : Nat} {Z : State} {a0 : Array Value} {h : Heap} {F : State → Outcome → Prop}
theorem w_ {Z : State} {a0 : Array Value} {ts : List Jvm.Cond} (hw : ∀ d ∈ ts, d.before a0 Z = true) {d : Jvm.Cond} (i : Nat) (h : ts[i]? = some d) : d.before a0 Z = true := hw _ (List.mem_of_getElem? h)
theorem Go.s_iloadN (X : Stand p l e R s m args below meth c T locs cells slots) (hx : p.tables.exec = Jvm.exec) {pc q : Nat} {Ls : Array Slot} {st : List Value} {k : Fin 4} {v : Int32} (hd : decode c.code pc = .ok (.iload_n k, 1)) (hq : pc + 1 = q) (hl : Ls[k.val]? = some (.val (.int v))) (K : Go p e below F T (mkF m q Ls (.int v :: st))) : Go p e below F T (mkF m pc Ls (st)) := by
  subst hq
  exact Go.of (fun t k => XS.iloadN X.here hx rfl hd hl k) K
theorem Go.s_aloadN (X : Stand p l e R s m args below meth c T locs cells slots) (hx : p.tables.exec = Jvm.exec) {pc q : Nat} {Ls : Array Slot} {st : List Value} {k : Fin 4} {v : Value} (hd : decode c.code pc = .ok (.aload_n k, 1)) (hq : pc + 1 = q) (hl : Ls[k.val]? = some (.val v)) (hv : v.isRef = true) (K : Go p e below F T (mkF m q Ls (v :: st))) : Go p e below F T (mkF m pc Ls (st)) := by
  subst hq
  exact Go.of (fun t k => XS.aloadN X.here hx rfl hd hl hv k) K
theorem Go.s_istoreN (X : Stand p l e R s m args below meth c T locs cells slots) (hx : p.tables.exec = Jvm.exec) {pc q : Nat} {Ls : Array Slot} {st : List Value} {k : Fin 4} {x : Int32} {l' : Array Slot} (hd : decode c.code pc = .ok (.istore_n k, 1)) (hq : pc + 1 = q) (hl : storeLocals Ls k.val (.int x) = some l') (K : Go p e below F T (mkF m q l' (st))) : Go p e below F T (mkF m pc Ls (.int x :: st)) := by
  subst hq
  exact Go.of (fun t k => XS.istoreN X.here hx rfl hd rfl hl k) K
theorem Go.s_astoreN (X : Stand p l e R s m args below meth c T locs cells slots) (hx : p.tables.exec = Jvm.exec) {pc q : Nat} {Ls : Array Slot} {st : List Value} {k : Fin 4} {x : Value} {l' : Array Slot} (hd : decode c.code pc = .ok (.astore_n k, 1)) (hq : pc + 1 = q) (hv : x.isRef = true) (hl : storeLocals Ls k.val x = some l') (K : Go p e below F T (mkF m q l' (st))) : Go p e below F T (mkF m pc Ls (x :: st)) := by
  subst hq
  exact Go.of (fun t k => XS.astoreN X.here hx rfl hd rfl hv hl k) K
theorem Go.s_iconst (X : Stand p l e R s m args below meth c T locs cells slots) (hx : p.tables.exec = Jvm.exec) {pc q : Nat} {Ls : Array Slot} {st : List Value} {i : Int} {z : Int32} (hd : decode c.code pc = .ok (.iconst i, 1)) (hq : pc + 1 = q) (hz : Int32.ofInt i = z) (K : Go p e below F T (mkF m q Ls (.int z :: st))) : Go p e below F T (mkF m pc Ls (st)) := by
  subst hq
  exact Go.of (fun t k => XS.iconst X.here hx rfl hd (hz ▸ k)) K
theorem Go.s_bipush (X : Stand p l e R s m args below meth c T locs cells slots) (hx : p.tables.exec = Jvm.exec) {pc q : Nat} {Ls : Array Slot} {st : List Value} {i : Int} {z : Int32} (hd : decode c.code pc = .ok (.bipush i, 2)) (hq : pc + 2 = q) (hz : (Int8.ofInt i).toInt32 = z) (K : Go p e below F T (mkF m q Ls (.int z :: st))) : Go p e below F T (mkF m pc Ls (st)) := by
  subst hq
  exact Go.of (fun t k => XS.bipush X.here hx rfl hd (hz ▸ k)) K
theorem Go.s_iand (X : Stand p l e R s m args below meth c T locs cells slots) (hx : p.tables.exec = Jvm.exec) {pc q : Nat} {Ls : Array Slot} {st : List Value} {x y : Int32} (hd : decode c.code pc = .ok (.iand, 1)) (hq : pc + 1 = q)  (K : Go p e below F T (mkF m q Ls (.int (x &&& y) :: st))) : Go p e below F T (mkF m pc Ls (.int y :: .int x :: st)) := by
  subst hq
  exact Go.of (fun t k => XS.iand X.here hx rfl hd rfl k) K
theorem Go.s_irem (X : Stand p l e R s m args below meth c T locs cells slots) (hx : p.tables.exec = Jvm.exec) {pc q : Nat} {Ls : Array Slot} {st : List Value} {x y : Int32} (hd : decode c.code pc = .ok (.irem, 1)) (hq : pc + 1 = q) (hy : y ≠ 0) (K : Go p e below F T (mkF m q Ls (.int (x % y) :: st))) : Go p e below F T (mkF m pc Ls (.int y :: .int x :: st)) := by
  subst hq
  exact Go.of (fun t k => iremM X hx rfl hd rfl hy k) K
theorem Go.s_goto (X : Stand p l e R s m args below meth c T locs cells slots) (hx : p.tables.exec = Jvm.exec) {pc q : Nat} {Ls : Array Slot} {st : List Value}  {o : Int} (hd : decode c.code pc = .ok (.goto o, 3)) (ho : 0 ≤ (pc : Int) + o) (hp : ((pc : Int) + o).toNat = q)  (K : Go p e below F T (mkF m q Ls st)) : Go p e below F T (mkF m pc Ls (st)) :=
  Go.of (fun t k => XS.goto X.here hx rfl rfl hd ho hp k) K
theorem Go.s_ifYes (X : Stand p l e R s m args below meth c T locs cells slots) (hx : p.tables.exec = Jvm.exec) {pc q : Nat} {Ls : Array Slot} {st : List Value} {cd : ClassFile.Cond} {x : Int32} {o : Int} (hd : decode c.code pc = .ok (.ifCond cd o, 3)) (ho : 0 ≤ (pc : Int) + o) (hp : ((pc : Int) + o).toNat = q) (hc : ifCond.holds cd x = true) (K : Go p e below F T (mkF m q Ls st)) : Go p e below F T (mkF m pc Ls (.int x :: st)) :=
  Go.of (fun t k => XS.ifYes X.here hx rfl rfl hd rfl hc ho hp k) K
theorem Go.s_icmpYes (X : Stand p l e R s m args below meth c T locs cells slots) (hx : p.tables.exec = Jvm.exec) {pc q : Nat} {Ls : Array Slot} {st : List Value} {cd : ClassFile.Cond} {x y : Int32} {o : Int} (hd : decode c.code pc = .ok (.if_icmp cd o, 3)) (ho : 0 ≤ (pc : Int) + o) (hp : ((pc : Int) + o).toNat = q) (hc : if_icmp.holds cd x y = true) (K : Go p e below F T (mkF m q Ls st)) : Go p e below F T (mkF m pc Ls (.int y :: .int x :: st)) :=
  Go.of (fun t k => XS.icmpYes X.here hx rfl rfl hd rfl hc ho hp k) K
theorem Go.s_ifNo (X : Stand p l e R s m args below meth c T locs cells slots) (hx : p.tables.exec = Jvm.exec) {pc q : Nat} {Ls : Array Slot} {st : List Value} {cd : ClassFile.Cond} {o : Int} {x : Int32} (hd : decode c.code pc = .ok (.ifCond cd o, 3)) (hq : pc + 3 = q) (hc : ifCond.holds cd x = false) (K : Go p e below F T (mkF m q Ls (st))) : Go p e below F T (mkF m pc Ls (.int x :: st)) := by
  subst hq
  exact Go.of (fun t k => XS.ifNo X.here hx rfl hd rfl hc k) K
theorem Go.s_icmpNo (X : Stand p l e R s m args below meth c T locs cells slots) (hx : p.tables.exec = Jvm.exec) {pc q : Nat} {Ls : Array Slot} {st : List Value} {cd : ClassFile.Cond} {o : Int} {x y : Int32} (hd : decode c.code pc = .ok (.if_icmp cd o, 3)) (hq : pc + 3 = q) (hc : if_icmp.holds cd x y = false) (K : Go p e below F T (mkF m q Ls (st))) : Go p e below F T (mkF m pc Ls (.int y :: .int x :: st)) := by
  subst hq
  exact Go.of (fun t k => XS.icmpNo X.here hx rfl hd rfl hc k) K
theorem Go.s_acmp (X : Stand p l e R s m args below meth c T locs cells slots) (hx : p.tables.exec = Jvm.exec) {pc q : Nat} {Ls : Array Slot} {st : List Value} {cd : ACond} {x y : Value} {o : Int} {same : Bool} (hd : decode c.code pc = .ok (.if_acmp cd o, 3)) (h1 : x.isRef = true) (h2 : y.isRef = true) (hq : decide (x = y) = same) (ho : 0 ≤ (pc : Int) + o) (hp : q = if acV cd same = true then ((pc : Int) + o).toNat else pc + 3) (K : Go p e below F T (mkF m q Ls st)) : Go p e below F T (mkF m pc Ls (y :: x :: st)) :=
  Go.of (fun t k => Jvm.RoadKit.acmp (g := mkF m pc Ls (y :: x :: st)) X hx rfl h1 h2 rfl hd rfl hq ho hp k) K
theorem Go.s_ldc (X : Stand p l e R s m args below meth c T locs cells slots) (hx : p.tables.exec = Jvm.exec) {pc q : Nat} {Ls : Array Slot} {st : List Value} {own : String} {index : Nat} {v : Int32} (hd : decode c.code pc = .ok (.ldc index, 2)) (hq : pc + 2 = q) (hown : s.vm.findClass own = some m.cls) (w : (Jvm.Cond.constant own index v).before args s = true) (K : Go p e below F T (mkF m q Ls (.int v :: st))) : Go p e below F T (mkF m pc Ls st) := by
  subst hq
  exact Go.of (X.ldcInt hx hown w (g := mkF m pc Ls st) rfl hd) K
end OwnSteps
abbrev mn_1 : MethodName := ⟨"com/example/fencerow/fencerow/FieldType", "isNumeric", "()Z"⟩
theorem pn_com_example_fencerow_fencerow_FieldType : plainName "com/example/fencerow/fencerow/FieldType" = true := by first | (simp [plainName, overriddenIn]; done) | decide +kernel
theorem d1_0 : decode prog_28_method_16_code 0 = .ok (.aload_n 0, 1) := by decide +kernel
theorem d1_1 : decode prog_28_method_16_code 1 = .ok (.getstatic 13, 3) := by decide +kernel
theorem d1_4 : decode prog_28_method_16_code 4 = .ok (.if_acmp .eq 10, 3) := by decide +kernel
theorem d1_7 : decode prog_28_method_16_code 7 = .ok (.aload_n 0, 1) := by decide +kernel
theorem d1_8 : decode prog_28_method_16_code 8 = .ok (.getstatic 16, 3) := by decide +kernel
theorem d1_11 : decode prog_28_method_16_code 11 = .ok (.if_acmp .ne 7, 3) := by decide +kernel
theorem d1_18 : decode prog_28_method_16_code 18 = .ok (.iconst 0, 1) := by decide +kernel
theorem d1_19 : decode prog_28_method_16_code 19 = .ok (.ireturn, 1) := by decide +kernel
theorem d1_14 : decode prog_28_method_16_code 14 = .ok (.iconst 1, 1) := by decide +kernel
theorem d1_15 : decode prog_28_method_16_code 15 = .ok (.goto 4, 3) := by decide +kernel
theorem pn_com_example_fencerow_fencerow_FieldTypeIsNumericPinLaw : plainName "com/example/fencerow/fencerow/FieldTypeIsNumericPinLaw" = true := by first | (simp [plainName, overriddenIn]; done) | decide +kernel
theorem pd_0 : parseMethodDescriptor "()Z" = some ⟨[], some .boolean⟩ := by decide +kernel
def Ctx (Z : State) (h : Heap) (a_TEXT a_INTEGER a_DECIMAL a_NAME a_CODE a_DATE : Addr) : Prop := Sta Z h "com/example/fencerow/fencerow/FieldType" "TEXT" "Lcom/example/fencerow/fencerow/FieldType;" (.ref a_TEXT) ∧ Sta Z h "com/example/fencerow/fencerow/FieldType" "INTEGER" "Lcom/example/fencerow/fencerow/FieldType;" (.ref a_INTEGER) ∧ Sta Z h "com/example/fencerow/fencerow/FieldType" "DECIMAL" "Lcom/example/fencerow/fencerow/FieldType;" (.ref a_DECIMAL) ∧ Sta Z h "com/example/fencerow/fencerow/FieldType" "NAME" "Lcom/example/fencerow/fencerow/FieldType;" (.ref a_NAME) ∧ Sta Z h "com/example/fencerow/fencerow/FieldType" "CODE" "Lcom/example/fencerow/fencerow/FieldType;" (.ref a_CODE) ∧ Sta Z h "com/example/fencerow/fencerow/FieldType" "DATE" "Lcom/example/fencerow/fencerow/FieldType;" (.ref a_DATE) ∧ Exa Z h a_TEXT "com/example/fencerow/fencerow/FieldType" ∧ Exa Z h a_INTEGER "com/example/fencerow/fencerow/FieldType$2" ∧ Exa Z h a_DECIMAL "com/example/fencerow/fencerow/FieldType$3" ∧ Exa Z h a_NAME "com/example/fencerow/fencerow/FieldType$1" ∧ Exa Z h a_CODE "com/example/fencerow/fencerow/FieldType" ∧ Exa Z h a_DATE "com/example/fencerow/fencerow/FieldType$4" ∧ ¬ a_TEXT = a_INTEGER ∧ ¬ a_TEXT = a_DECIMAL ∧ ¬ a_TEXT = a_NAME ∧ ¬ a_TEXT = a_DATE ∧ ¬ a_INTEGER = a_DECIMAL ∧ ¬ a_INTEGER = a_NAME ∧ ¬ a_INTEGER = a_CODE ∧ ¬ a_INTEGER = a_DATE ∧ ¬ a_DECIMAL = a_NAME ∧ ¬ a_DECIMAL = a_CODE ∧ ¬ a_DECIMAL = a_DATE ∧ ¬ a_NAME = a_CODE ∧ ¬ a_NAME = a_DATE ∧ ¬ a_CODE = a_DATE
theorem ef_numa_TEXT (m : MethodId) (x0 : Addr) : entryFrame m #[(.ref x0)] 1 = mkF m 0 #[.val (.ref x0)] [] := by first | (simp [entryFrame, mkF, argsToLocals, Value.category]; done) | rfl
set_option maxRecDepth 65536 in
set_option maxHeartbeats 40000000 in
theorem rm_numa_TEXT (l : Launch) (Z : State) (a0 : Array Value) (hw : ∀ d ∈ tables_1, d.before a0 Z = true)  (h0 : Heap) (a_TEXT a_INTEGER a_DECIMAL a_NAME a_CODE a_DATE : Addr) (hctx : Ctx Z h0 a_TEXT a_INTEGER a_DECIMAL a_NAME a_CODE a_DATE) :
    Ct l mn_1 prog_28_method_16_code 1 (some .boolean) ({ frames := 0, cells := 0, slots := 0, locals := 0 } : Room) Z h0 #[(.ref a_TEXT)] (fun v h L => v = some (.int (0 : Int32)) ∧ L = [] ∧ h = h0) := by
  refine Ct.body (plainFor_of_name pn_com_example_fencerow_fencerow_FieldType) ?_
  intro p e s m below meth c T0 hx hby hml hown hnm hret hlk hZ X0 e0
  have hctx' := hctx
  obtain ⟨S_TEXT, S_INTEGER, S_DECIMAL, S_NAME, S_CODE, S_DATE, E_TEXT, E_INTEGER, E_DECIMAL, E_NAME, E_CODE, E_DATE, ne_TEXT_INTEGER, ne_TEXT_DECIMAL, ne_TEXT_NAME, ne_TEXT_DATE, ne_INTEGER_DECIMAL, ne_INTEGER_NAME, ne_INTEGER_CODE, ne_INTEGER_DATE, ne_DECIMAL_NAME, ne_DECIMAL_CODE, ne_DECIMAL_DATE, ne_NAME_CODE, ne_NAME_DATE, ne_CODE_DATE⟩ := hctx
  refine Go.cast (ef_numa_TEXT m a_TEXT) ?_
  show Go p e below _ T0 (mkF m 0 #[.val (.ref a_TEXT)] [])
  refine Go.s_aloadN X0 hx (hb hby d1_0) (q := 1) rfl rfl rfl ?_
  refine Go.getS X0 hx hZ hown (w_ hw 9 rfl) Via.refl e0 S_INTEGER (hb hby d1_1) ?_
  intro T1 X1 e1
  show Go p e below _ T1 (mkF m 4 #[.val (.ref a_TEXT)] [(.ref a_INTEGER), (.ref a_TEXT)])
  refine Go.s_acmp X1 hx (q := 7) (hb hby d1_4) rfl rfl (same := false) (decide_eq_false fun q => ne_TEXT_INTEGER (Value.ref.inj q)) (by decide) (by decide) ?_
  refine Go.s_aloadN X1 hx (hb hby d1_7) (q := 8) rfl rfl rfl ?_
  refine Go.getS X1 hx hZ hown (w_ hw 11 rfl) Via.refl e1 S_DECIMAL (hb hby d1_8) ?_
  intro T2 X2 e2
  show Go p e below _ T2 (mkF m 11 #[.val (.ref a_TEXT)] [(.ref a_DECIMAL), (.ref a_TEXT)])
  refine Go.s_acmp X2 hx (q := 18) (hb hby d1_11) rfl rfl (same := false) (decide_eq_false fun q => ne_TEXT_DECIMAL (Value.ref.inj q)) (by decide) (by decide) ?_
  refine Go.s_iconst X2 hx (hb hby d1_18) (q := 19) rfl (z := 0) rfl ?_
  refine Go.retN X2 hx hlk hret (by simp) (hb hby d1_19) (by decide) (by decide) ?_
  try rw [e2]
  exact ⟨by decide, rfl, rfl⟩
theorem ef_numa_CODE (m : MethodId) (x0 : Addr) : entryFrame m #[(.ref x0)] 1 = mkF m 0 #[.val (.ref x0)] [] := by first | (simp [entryFrame, mkF, argsToLocals, Value.category]; done) | rfl
set_option maxRecDepth 65536 in
set_option maxHeartbeats 40000000 in
theorem rm_numa_CODE (l : Launch) (Z : State) (a0 : Array Value) (hw : ∀ d ∈ tables_1, d.before a0 Z = true)  (h0 : Heap) (a_TEXT a_INTEGER a_DECIMAL a_NAME a_CODE a_DATE : Addr) (hctx : Ctx Z h0 a_TEXT a_INTEGER a_DECIMAL a_NAME a_CODE a_DATE) :
    Ct l mn_1 prog_28_method_16_code 1 (some .boolean) ({ frames := 0, cells := 0, slots := 0, locals := 0 } : Room) Z h0 #[(.ref a_CODE)] (fun v h L => v = some (.int (0 : Int32)) ∧ L = [] ∧ h = h0) := by
  refine Ct.body (plainFor_of_name pn_com_example_fencerow_fencerow_FieldType) ?_
  intro p e s m below meth c T0 hx hby hml hown hnm hret hlk hZ X0 e0
  have hctx' := hctx
  obtain ⟨S_TEXT, S_INTEGER, S_DECIMAL, S_NAME, S_CODE, S_DATE, E_TEXT, E_INTEGER, E_DECIMAL, E_NAME, E_CODE, E_DATE, ne_TEXT_INTEGER, ne_TEXT_DECIMAL, ne_TEXT_NAME, ne_TEXT_DATE, ne_INTEGER_DECIMAL, ne_INTEGER_NAME, ne_INTEGER_CODE, ne_INTEGER_DATE, ne_DECIMAL_NAME, ne_DECIMAL_CODE, ne_DECIMAL_DATE, ne_NAME_CODE, ne_NAME_DATE, ne_CODE_DATE⟩ := hctx
  refine Go.cast (ef_numa_CODE m a_CODE) ?_
  show Go p e below _ T0 (mkF m 0 #[.val (.ref a_CODE)] [])
  refine Go.s_aloadN X0 hx (hb hby d1_0) (q := 1) rfl rfl rfl ?_
  refine Go.getS X0 hx hZ hown (w_ hw 9 rfl) Via.refl e0 S_INTEGER (hb hby d1_1) ?_
  intro T1 X1 e1
  show Go p e below _ T1 (mkF m 4 #[.val (.ref a_CODE)] [(.ref a_INTEGER), (.ref a_CODE)])
  refine Go.s_acmp X1 hx (q := 7) (hb hby d1_4) rfl rfl (same := false) (decide_eq_false fun q => ne_INTEGER_CODE (Value.ref.inj q).symm) (by decide) (by decide) ?_
  refine Go.s_aloadN X1 hx (hb hby d1_7) (q := 8) rfl rfl rfl ?_
  refine Go.getS X1 hx hZ hown (w_ hw 11 rfl) Via.refl e1 S_DECIMAL (hb hby d1_8) ?_
  intro T2 X2 e2
  show Go p e below _ T2 (mkF m 11 #[.val (.ref a_CODE)] [(.ref a_DECIMAL), (.ref a_CODE)])
  refine Go.s_acmp X2 hx (q := 18) (hb hby d1_11) rfl rfl (same := false) (decide_eq_false fun q => ne_DECIMAL_CODE (Value.ref.inj q).symm) (by decide) (by decide) ?_
  refine Go.s_iconst X2 hx (hb hby d1_18) (q := 19) rfl (z := 0) rfl ?_
  refine Go.retN X2 hx hlk hret (by simp) (hb hby d1_19) (by decide) (by decide) ?_
  try rw [e2]
  exact ⟨by decide, rfl, rfl⟩
theorem ef_numa_NAME (m : MethodId) (x0 : Addr) : entryFrame m #[(.ref x0)] 1 = mkF m 0 #[.val (.ref x0)] [] := by first | (simp [entryFrame, mkF, argsToLocals, Value.category]; done) | rfl
set_option maxRecDepth 65536 in
set_option maxHeartbeats 40000000 in
theorem rm_numa_NAME (l : Launch) (Z : State) (a0 : Array Value) (hw : ∀ d ∈ tables_1, d.before a0 Z = true)  (h0 : Heap) (a_TEXT a_INTEGER a_DECIMAL a_NAME a_CODE a_DATE : Addr) (hctx : Ctx Z h0 a_TEXT a_INTEGER a_DECIMAL a_NAME a_CODE a_DATE) :
    Ct l mn_1 prog_28_method_16_code 1 (some .boolean) ({ frames := 0, cells := 0, slots := 0, locals := 0 } : Room) Z h0 #[(.ref a_NAME)] (fun v h L => v = some (.int (0 : Int32)) ∧ L = [] ∧ h = h0) := by
  refine Ct.body (plainFor_of_name pn_com_example_fencerow_fencerow_FieldType) ?_
  intro p e s m below meth c T0 hx hby hml hown hnm hret hlk hZ X0 e0
  have hctx' := hctx
  obtain ⟨S_TEXT, S_INTEGER, S_DECIMAL, S_NAME, S_CODE, S_DATE, E_TEXT, E_INTEGER, E_DECIMAL, E_NAME, E_CODE, E_DATE, ne_TEXT_INTEGER, ne_TEXT_DECIMAL, ne_TEXT_NAME, ne_TEXT_DATE, ne_INTEGER_DECIMAL, ne_INTEGER_NAME, ne_INTEGER_CODE, ne_INTEGER_DATE, ne_DECIMAL_NAME, ne_DECIMAL_CODE, ne_DECIMAL_DATE, ne_NAME_CODE, ne_NAME_DATE, ne_CODE_DATE⟩ := hctx
  refine Go.cast (ef_numa_NAME m a_NAME) ?_
  show Go p e below _ T0 (mkF m 0 #[.val (.ref a_NAME)] [])
  refine Go.s_aloadN X0 hx (hb hby d1_0) (q := 1) rfl rfl rfl ?_
  refine Go.getS X0 hx hZ hown (w_ hw 9 rfl) Via.refl e0 S_INTEGER (hb hby d1_1) ?_
  intro T1 X1 e1
  show Go p e below _ T1 (mkF m 4 #[.val (.ref a_NAME)] [(.ref a_INTEGER), (.ref a_NAME)])
  refine Go.s_acmp X1 hx (q := 7) (hb hby d1_4) rfl rfl (same := false) (decide_eq_false fun q => ne_INTEGER_NAME (Value.ref.inj q).symm) (by decide) (by decide) ?_
  refine Go.s_aloadN X1 hx (hb hby d1_7) (q := 8) rfl rfl rfl ?_
  refine Go.getS X1 hx hZ hown (w_ hw 11 rfl) Via.refl e1 S_DECIMAL (hb hby d1_8) ?_
  intro T2 X2 e2
  show Go p e below _ T2 (mkF m 11 #[.val (.ref a_NAME)] [(.ref a_DECIMAL), (.ref a_NAME)])
  refine Go.s_acmp X2 hx (q := 18) (hb hby d1_11) rfl rfl (same := false) (decide_eq_false fun q => ne_DECIMAL_NAME (Value.ref.inj q).symm) (by decide) (by decide) ?_
  refine Go.s_iconst X2 hx (hb hby d1_18) (q := 19) rfl (z := 0) rfl ?_
  refine Go.retN X2 hx hlk hret (by simp) (hb hby d1_19) (by decide) (by decide) ?_
  try rw [e2]
  exact ⟨by decide, rfl, rfl⟩
theorem ef_numa_INTEGER (m : MethodId) (x0 : Addr) : entryFrame m #[(.ref x0)] 1 = mkF m 0 #[.val (.ref x0)] [] := by first | (simp [entryFrame, mkF, argsToLocals, Value.category]; done) | rfl
set_option maxRecDepth 65536 in
set_option maxHeartbeats 40000000 in
theorem rm_numa_INTEGER (l : Launch) (Z : State) (a0 : Array Value) (hw : ∀ d ∈ tables_1, d.before a0 Z = true)  (h0 : Heap) (a_TEXT a_INTEGER a_DECIMAL a_NAME a_CODE a_DATE : Addr) (hctx : Ctx Z h0 a_TEXT a_INTEGER a_DECIMAL a_NAME a_CODE a_DATE) :
    Ct l mn_1 prog_28_method_16_code 1 (some .boolean) ({ frames := 0, cells := 0, slots := 0, locals := 0 } : Room) Z h0 #[(.ref a_INTEGER)] (fun v h L => v = some (.int (1 : Int32)) ∧ L = [] ∧ h = h0) := by
  refine Ct.body (plainFor_of_name pn_com_example_fencerow_fencerow_FieldType) ?_
  intro p e s m below meth c T0 hx hby hml hown hnm hret hlk hZ X0 e0
  have hctx' := hctx
  obtain ⟨S_TEXT, S_INTEGER, S_DECIMAL, S_NAME, S_CODE, S_DATE, E_TEXT, E_INTEGER, E_DECIMAL, E_NAME, E_CODE, E_DATE, ne_TEXT_INTEGER, ne_TEXT_DECIMAL, ne_TEXT_NAME, ne_TEXT_DATE, ne_INTEGER_DECIMAL, ne_INTEGER_NAME, ne_INTEGER_CODE, ne_INTEGER_DATE, ne_DECIMAL_NAME, ne_DECIMAL_CODE, ne_DECIMAL_DATE, ne_NAME_CODE, ne_NAME_DATE, ne_CODE_DATE⟩ := hctx
  refine Go.cast (ef_numa_INTEGER m a_INTEGER) ?_
  show Go p e below _ T0 (mkF m 0 #[.val (.ref a_INTEGER)] [])
  refine Go.s_aloadN X0 hx (hb hby d1_0) (q := 1) rfl rfl rfl ?_
  refine Go.getS X0 hx hZ hown (w_ hw 9 rfl) Via.refl e0 S_INTEGER (hb hby d1_1) ?_
  intro T1 X1 e1
  show Go p e below _ T1 (mkF m 4 #[.val (.ref a_INTEGER)] [(.ref a_INTEGER), (.ref a_INTEGER)])
  refine Go.s_acmp X1 hx (q := 14) (hb hby d1_4) rfl rfl (same := true) (decide_eq_true rfl) (by decide) (by decide) ?_
  refine Go.s_iconst X1 hx (hb hby d1_14) (q := 15) rfl (z := 1) rfl ?_
  refine Go.s_goto X1 hx (hb hby d1_15) (q := 19) (by decide) (by decide) ?_
  refine Go.retN X1 hx hlk hret (by simp) (hb hby d1_19) (by decide) (by decide) ?_
  try rw [e1]
  exact ⟨by decide, rfl, rfl⟩
theorem ef_numa_DECIMAL (m : MethodId) (x0 : Addr) : entryFrame m #[(.ref x0)] 1 = mkF m 0 #[.val (.ref x0)] [] := by first | (simp [entryFrame, mkF, argsToLocals, Value.category]; done) | rfl
set_option maxRecDepth 65536 in
set_option maxHeartbeats 40000000 in
theorem rm_numa_DECIMAL (l : Launch) (Z : State) (a0 : Array Value) (hw : ∀ d ∈ tables_1, d.before a0 Z = true)  (h0 : Heap) (a_TEXT a_INTEGER a_DECIMAL a_NAME a_CODE a_DATE : Addr) (hctx : Ctx Z h0 a_TEXT a_INTEGER a_DECIMAL a_NAME a_CODE a_DATE) :
    Ct l mn_1 prog_28_method_16_code 1 (some .boolean) ({ frames := 0, cells := 0, slots := 0, locals := 0 } : Room) Z h0 #[(.ref a_DECIMAL)] (fun v h L => v = some (.int (1 : Int32)) ∧ L = [] ∧ h = h0) := by
  refine Ct.body (plainFor_of_name pn_com_example_fencerow_fencerow_FieldType) ?_
  intro p e s m below meth c T0 hx hby hml hown hnm hret hlk hZ X0 e0
  have hctx' := hctx
  obtain ⟨S_TEXT, S_INTEGER, S_DECIMAL, S_NAME, S_CODE, S_DATE, E_TEXT, E_INTEGER, E_DECIMAL, E_NAME, E_CODE, E_DATE, ne_TEXT_INTEGER, ne_TEXT_DECIMAL, ne_TEXT_NAME, ne_TEXT_DATE, ne_INTEGER_DECIMAL, ne_INTEGER_NAME, ne_INTEGER_CODE, ne_INTEGER_DATE, ne_DECIMAL_NAME, ne_DECIMAL_CODE, ne_DECIMAL_DATE, ne_NAME_CODE, ne_NAME_DATE, ne_CODE_DATE⟩ := hctx
  refine Go.cast (ef_numa_DECIMAL m a_DECIMAL) ?_
  show Go p e below _ T0 (mkF m 0 #[.val (.ref a_DECIMAL)] [])
  refine Go.s_aloadN X0 hx (hb hby d1_0) (q := 1) rfl rfl rfl ?_
  refine Go.getS X0 hx hZ hown (w_ hw 9 rfl) Via.refl e0 S_INTEGER (hb hby d1_1) ?_
  intro T1 X1 e1
  show Go p e below _ T1 (mkF m 4 #[.val (.ref a_DECIMAL)] [(.ref a_INTEGER), (.ref a_DECIMAL)])
  refine Go.s_acmp X1 hx (q := 7) (hb hby d1_4) rfl rfl (same := false) (decide_eq_false fun q => ne_INTEGER_DECIMAL (Value.ref.inj q).symm) (by decide) (by decide) ?_
  refine Go.s_aloadN X1 hx (hb hby d1_7) (q := 8) rfl rfl rfl ?_
  refine Go.getS X1 hx hZ hown (w_ hw 11 rfl) Via.refl e1 S_DECIMAL (hb hby d1_8) ?_
  intro T2 X2 e2
  show Go p e below _ T2 (mkF m 11 #[.val (.ref a_DECIMAL)] [(.ref a_DECIMAL), (.ref a_DECIMAL)])
  refine Go.s_acmp X2 hx (q := 14) (hb hby d1_11) rfl rfl (same := true) (decide_eq_true rfl) (by decide) (by decide) ?_
  refine Go.s_iconst X2 hx (hb hby d1_14) (q := 15) rfl (z := 1) rfl ?_
  refine Go.s_goto X2 hx (hb hby d1_15) (q := 19) (by decide) (by decide) ?_
  refine Go.retN X2 hx hlk hret (by simp) (hb hby d1_19) (by decide) (by decide) ?_
  try rw [e2]
  exact ⟨by decide, rfl, rfl⟩
theorem ef_numa_DATE (m : MethodId) (x0 : Addr) : entryFrame m #[(.ref x0)] 1 = mkF m 0 #[.val (.ref x0)] [] := by first | (simp [entryFrame, mkF, argsToLocals, Value.category]; done) | rfl
set_option maxRecDepth 65536 in
set_option maxHeartbeats 40000000 in
theorem rm_numa_DATE (l : Launch) (Z : State) (a0 : Array Value) (hw : ∀ d ∈ tables_1, d.before a0 Z = true)  (h0 : Heap) (a_TEXT a_INTEGER a_DECIMAL a_NAME a_CODE a_DATE : Addr) (hctx : Ctx Z h0 a_TEXT a_INTEGER a_DECIMAL a_NAME a_CODE a_DATE) :
    Ct l mn_1 prog_28_method_16_code 1 (some .boolean) ({ frames := 0, cells := 0, slots := 0, locals := 0 } : Room) Z h0 #[(.ref a_DATE)] (fun v h L => v = some (.int (0 : Int32)) ∧ L = [] ∧ h = h0) := by
  refine Ct.body (plainFor_of_name pn_com_example_fencerow_fencerow_FieldType) ?_
  intro p e s m below meth c T0 hx hby hml hown hnm hret hlk hZ X0 e0
  have hctx' := hctx
  obtain ⟨S_TEXT, S_INTEGER, S_DECIMAL, S_NAME, S_CODE, S_DATE, E_TEXT, E_INTEGER, E_DECIMAL, E_NAME, E_CODE, E_DATE, ne_TEXT_INTEGER, ne_TEXT_DECIMAL, ne_TEXT_NAME, ne_TEXT_DATE, ne_INTEGER_DECIMAL, ne_INTEGER_NAME, ne_INTEGER_CODE, ne_INTEGER_DATE, ne_DECIMAL_NAME, ne_DECIMAL_CODE, ne_DECIMAL_DATE, ne_NAME_CODE, ne_NAME_DATE, ne_CODE_DATE⟩ := hctx
  refine Go.cast (ef_numa_DATE m a_DATE) ?_
  show Go p e below _ T0 (mkF m 0 #[.val (.ref a_DATE)] [])
  refine Go.s_aloadN X0 hx (hb hby d1_0) (q := 1) rfl rfl rfl ?_
  refine Go.getS X0 hx hZ hown (w_ hw 9 rfl) Via.refl e0 S_INTEGER (hb hby d1_1) ?_
  intro T1 X1 e1
  show Go p e below _ T1 (mkF m 4 #[.val (.ref a_DATE)] [(.ref a_INTEGER), (.ref a_DATE)])
  refine Go.s_acmp X1 hx (q := 7) (hb hby d1_4) rfl rfl (same := false) (decide_eq_false fun q => ne_INTEGER_DATE (Value.ref.inj q).symm) (by decide) (by decide) ?_
  refine Go.s_aloadN X1 hx (hb hby d1_7) (q := 8) rfl rfl rfl ?_
  refine Go.getS X1 hx hZ hown (w_ hw 11 rfl) Via.refl e1 S_DECIMAL (hb hby d1_8) ?_
  intro T2 X2 e2
  show Go p e below _ T2 (mkF m 11 #[.val (.ref a_DATE)] [(.ref a_DECIMAL), (.ref a_DATE)])
  refine Go.s_acmp X2 hx (q := 18) (hb hby d1_11) rfl rfl (same := false) (decide_eq_false fun q => ne_DECIMAL_DATE (Value.ref.inj q).symm) (by decide) (by decide) ?_
  refine Go.s_iconst X2 hx (hb hby d1_18) (q := 19) rfl (z := 0) rfl ?_
  refine Go.retN X2 hx hlk hret (by simp) (hb hby d1_19) (by decide) (by decide) ?_
  try rw [e2]
  exact ⟨by decide, rfl, rfl⟩
theorem ef_law (m : MethodId) (x0 : Int32) : entryFrame m #[(.int x0)] maxLocals = mkF m 0 #[.val (.int x0), .unset, .unset, .unset] [] := by first | (simp [entryFrame, mkF, argsToLocals, Value.category, maxLocals]; done) | rfl
set_option maxRecDepth 65536 in
set_option maxHeartbeats 40000000 in
theorem rm_law (l : Launch) (Z : State) (a0 : Array Value) (hw : ∀ d ∈ tables_1, d.before a0 Z = true) (x0 : Int32) (h0 : Heap) (a_TEXT a_INTEGER a_DECIMAL a_NAME a_CODE a_DATE : Addr) (hctx : Ctx Z h0 a_TEXT a_INTEGER a_DECIMAL a_NAME a_CODE a_DATE) :
    Ct l x code maxLocals ret room_1 Z h0 #[(.int x0)] (fun v h L => v = some (.int 1) ∧ L = []) := by
  refine Ct.body (plainFor_of_name pn_com_example_fencerow_fencerow_FieldTypeIsNumericPinLaw) ?_
  intro p e s m below meth c T0 hx hby hml hown hnm hret hlk hZ X0 e0
  have hctx' := hctx
  obtain ⟨S_TEXT, S_INTEGER, S_DECIMAL, S_NAME, S_CODE, S_DATE, E_TEXT, E_INTEGER, E_DECIMAL, E_NAME, E_CODE, E_DATE, ne_TEXT_INTEGER, ne_TEXT_DECIMAL, ne_TEXT_NAME, ne_TEXT_DATE, ne_INTEGER_DECIMAL, ne_INTEGER_NAME, ne_INTEGER_CODE, ne_INTEGER_DATE, ne_DECIMAL_NAME, ne_DECIMAL_CODE, ne_DECIMAL_DATE, ne_NAME_CODE, ne_NAME_DATE, ne_CODE_DATE⟩ := hctx
  refine Go.cast (ef_law m x0) ?_
  show Go p e below _ T0 (mkF m 0 #[.val (.int x0), .unset, .unset, .unset] [])
  refine Go.s_iloadN X0 hx (hb hby at_0) (q := 1) rfl rfl ?_
  refine Go.s_ldc X0 hx (hb hby at_1) (q := 3) rfl hown (mvT hZ (w_ hw 0 rfl)) ?_
  refine Go.s_iand X0 hx (hb hby at_3) (q := 4) rfl ?_
  refine Go.s_bipush X0 hx (hb hby at_4) (q := 6) rfl (z := 6) rfl ?_
  refine Go.s_irem X0 hx (hb hby at_6) (q := 7) rfl (by decide) ?_
  refine Go.s_istoreN X0 hx (hb hby at_7) (q := 8) rfl (l' := #[.val (.int x0), .val (.int ((x0 &&& (2147483647 : Int32)) % (6 : Int32))), .unset, .unset]) rfl ?_
  generalize hv1 : ((x0 &&& (2147483647 : Int32)) % (6 : Int32)) = v1
  refine Go.s_iloadN X0 hx (hb hby at_8) (q := 9) rfl rfl ?_
  by_cases c9_2 : v1 = (0 : Int32)
  · -- pc 9: v1 = (0 : Int32)
    refine Go.s_ifNo X0 hx (hb hby at_9) (q := 12) rfl ((if0 _ _).trans (teq c9_2).2) ?_
    refine Go.getS X0 hx hZ hown (w_ hw 1 rfl) Via.refl e0 S_TEXT (hb hby at_12) ?_
    intro T3 X3 e3
    show Go p e below _ T3 (mkF m 15 #[.val (.int x0), .val (.int v1), .unset, .unset] [(.ref a_TEXT)])
    refine Go.s_astoreN X3 hx (hb hby at_15) (q := 16) rfl rfl (l' := #[.val (.int x0), .val (.int v1), .val (.ref a_TEXT), .unset]) rfl ?_
    refine Go.s_iconst X3 hx (hb hby at_16) (q := 17) rfl (z := 0) rfl ?_
    refine Go.s_istoreN X3 hx (hb hby at_17) (q := 18) rfl (l' := #[.val (.int x0), .val (.int v1), .val (.ref a_TEXT), .val (.int (0 : Int32))]) rfl ?_
    refine Go.s_goto X3 hx (hb hby at_18) (q := 83) (by decide) (by decide) ?_
    refine Go.s_aloadN X3 hx (hb hby at_83) (q := 84) rfl rfl rfl ?_
    refine Go.callV (y := mn_1) (z := mn_1) X3 hx hZ hown (w_ hw 4 rfl) (w_ hw 5 rfl) (notFace_of_selects (args := #[]) (mvT hZ (w_ hw 7 rfl))) (w_ hw 7 rfl) (w_ hw 6 rfl) (w_ hw 8 rfl) (w_ hw 2 rfl) (by decide) e3 E_TEXT (argsL := []) (rest := []) (rm_numa_TEXT l Z a0 hw _ a_TEXT a_INTEGER a_DECIMAL a_NAME a_CODE a_DATE hctx') (by rw [hml]; rfl) (lenOf pd_0 rfl) rfl (hb hby at_84) (by decide) (by decide) (by decide) (by decide) ?_
    intro r4 T4 L4 q4 X4
    obtain ⟨rfl, rfl, e4⟩ := q4
    rw [List.append_nil] at X4
    show Go p e below _ T4 (mkF m 87 #[.val (.int x0), .val (.int v1), .val (.ref a_TEXT), .val (.int (0 : Int32))] [(.int (0 : Int32))])
    refine Go.s_iloadN X4 hx (hb hby at_87) (q := 88) rfl rfl ?_
    refine Go.s_icmpNo X4 hx (hb hby at_88) (q := 91) rfl (teq (by decide : (0 : Int32) = (0 : Int32))).2 ?_
    refine Go.s_iconst X4 hx (hb hby at_91) (q := 92) rfl (z := 1) rfl ?_
    refine Go.s_goto X4 hx (hb hby at_92) (q := 96) (by decide) (by decide) ?_
    refine Go.retN X4 hx hlk hret (by simp) (hb hby at_96) (by decide) (by decide) ?_
    try rw [e4]
    exact ⟨by decide, rfl⟩
  · -- pc 9: not v1 = (0 : Int32)
    refine Go.s_ifYes X0 hx (hb hby at_9) (q := 21) (by decide) (by decide) ((if0 _ _).trans (feq c9_2).2) ?_
    refine Go.s_iloadN X0 hx (hb hby at_21) (q := 22) rfl rfl ?_
    refine Go.s_iconst X0 hx (hb hby at_22) (q := 23) rfl (z := 1) rfl ?_
    by_cases c23_5 : v1 = (1 : Int32)
    · -- pc 23: v1 = (1 : Int32)
      refine Go.s_icmpNo X0 hx (hb hby at_23) (q := 26) rfl (teq c23_5).2 ?_
      refine Go.getS X0 hx hZ hown (w_ hw 18 rfl) Via.refl e0 S_CODE (hb hby at_26) ?_
      intro T6 X6 e6
      show Go p e below _ T6 (mkF m 29 #[.val (.int x0), .val (.int v1), .unset, .unset] [(.ref a_CODE)])
      refine Go.s_astoreN X6 hx (hb hby at_29) (q := 30) rfl rfl (l' := #[.val (.int x0), .val (.int v1), .val (.ref a_CODE), .unset]) rfl ?_
      refine Go.s_iconst X6 hx (hb hby at_30) (q := 31) rfl (z := 0) rfl ?_
      refine Go.s_istoreN X6 hx (hb hby at_31) (q := 32) rfl (l' := #[.val (.int x0), .val (.int v1), .val (.ref a_CODE), .val (.int (0 : Int32))]) rfl ?_
      refine Go.s_goto X6 hx (hb hby at_32) (q := 83) (by decide) (by decide) ?_
      refine Go.s_aloadN X6 hx (hb hby at_83) (q := 84) rfl rfl rfl ?_
      refine Go.callV (y := mn_1) (z := mn_1) X6 hx hZ hown (w_ hw 4 rfl) (w_ hw 5 rfl) (notFace_of_selects (args := #[]) (mvT hZ (w_ hw 7 rfl))) (w_ hw 7 rfl) (w_ hw 6 rfl) (w_ hw 8 rfl) (w_ hw 2 rfl) (by decide) e6 E_CODE (argsL := []) (rest := []) (rm_numa_CODE l Z a0 hw _ a_TEXT a_INTEGER a_DECIMAL a_NAME a_CODE a_DATE hctx') (by rw [hml]; rfl) (lenOf pd_0 rfl) rfl (hb hby at_84) (by decide) (by decide) (by decide) (by decide) ?_
      intro r7 T7 L7 q7 X7
      obtain ⟨rfl, rfl, e7⟩ := q7
      rw [List.append_nil] at X7
      show Go p e below _ T7 (mkF m 87 #[.val (.int x0), .val (.int v1), .val (.ref a_CODE), .val (.int (0 : Int32))] [(.int (0 : Int32))])
      refine Go.s_iloadN X7 hx (hb hby at_87) (q := 88) rfl rfl ?_
      refine Go.s_icmpNo X7 hx (hb hby at_88) (q := 91) rfl (teq (by decide : (0 : Int32) = (0 : Int32))).2 ?_
      refine Go.s_iconst X7 hx (hb hby at_91) (q := 92) rfl (z := 1) rfl ?_
      refine Go.s_goto X7 hx (hb hby at_92) (q := 96) (by decide) (by decide) ?_
      refine Go.retN X7 hx hlk hret (by simp) (hb hby at_96) (by decide) (by decide) ?_
      try rw [e7]
      exact ⟨by decide, rfl⟩
    · -- pc 23: not v1 = (1 : Int32)
      refine Go.s_icmpYes X0 hx (hb hby at_23) (q := 35) (by decide) (by decide) (feq c23_5).2 ?_
      refine Go.s_iloadN X0 hx (hb hby at_35) (q := 36) rfl rfl ?_
      refine Go.s_iconst X0 hx (hb hby at_36) (q := 37) rfl (z := 2) rfl ?_
      by_cases c37_8 : v1 = (2 : Int32)
      · -- pc 37: v1 = (2 : Int32)
        refine Go.s_icmpNo X0 hx (hb hby at_37) (q := 40) rfl (teq c37_8).2 ?_
        refine Go.getS X0 hx hZ hown (w_ hw 15 rfl) Via.refl e0 S_NAME (hb hby at_40) ?_
        intro T9 X9 e9
        show Go p e below _ T9 (mkF m 43 #[.val (.int x0), .val (.int v1), .unset, .unset] [(.ref a_NAME)])
        refine Go.s_astoreN X9 hx (hb hby at_43) (q := 44) rfl rfl (l' := #[.val (.int x0), .val (.int v1), .val (.ref a_NAME), .unset]) rfl ?_
        refine Go.s_iconst X9 hx (hb hby at_44) (q := 45) rfl (z := 0) rfl ?_
        refine Go.s_istoreN X9 hx (hb hby at_45) (q := 46) rfl (l' := #[.val (.int x0), .val (.int v1), .val (.ref a_NAME), .val (.int (0 : Int32))]) rfl ?_
        refine Go.s_goto X9 hx (hb hby at_46) (q := 83) (by decide) (by decide) ?_
        refine Go.s_aloadN X9 hx (hb hby at_83) (q := 84) rfl rfl rfl ?_
        refine Go.callV (y := mn_1) (z := mn_1) X9 hx hZ hown (w_ hw 4 rfl) (w_ hw 5 rfl) (notFace_of_selects (args := #[]) (mvT hZ (w_ hw 17 rfl))) (w_ hw 17 rfl) (w_ hw 6 rfl) (w_ hw 8 rfl) (w_ hw 2 rfl) (by decide) e9 E_NAME (argsL := []) (rest := []) (rm_numa_NAME l Z a0 hw _ a_TEXT a_INTEGER a_DECIMAL a_NAME a_CODE a_DATE hctx') (by rw [hml]; rfl) (lenOf pd_0 rfl) rfl (hb hby at_84) (by decide) (by decide) (by decide) (by decide) ?_
        intro r10 T10 L10 q10 X10
        obtain ⟨rfl, rfl, e10⟩ := q10
        rw [List.append_nil] at X10
        show Go p e below _ T10 (mkF m 87 #[.val (.int x0), .val (.int v1), .val (.ref a_NAME), .val (.int (0 : Int32))] [(.int (0 : Int32))])
        refine Go.s_iloadN X10 hx (hb hby at_87) (q := 88) rfl rfl ?_
        refine Go.s_icmpNo X10 hx (hb hby at_88) (q := 91) rfl (teq (by decide : (0 : Int32) = (0 : Int32))).2 ?_
        refine Go.s_iconst X10 hx (hb hby at_91) (q := 92) rfl (z := 1) rfl ?_
        refine Go.s_goto X10 hx (hb hby at_92) (q := 96) (by decide) (by decide) ?_
        refine Go.retN X10 hx hlk hret (by simp) (hb hby at_96) (by decide) (by decide) ?_
        try rw [e10]
        exact ⟨by decide, rfl⟩
      · -- pc 37: not v1 = (2 : Int32)
        refine Go.s_icmpYes X0 hx (hb hby at_37) (q := 49) (by decide) (by decide) (feq c37_8).2 ?_
        refine Go.s_iloadN X0 hx (hb hby at_49) (q := 50) rfl rfl ?_
        refine Go.s_iconst X0 hx (hb hby at_50) (q := 51) rfl (z := 3) rfl ?_
        by_cases c51_11 : v1 = (3 : Int32)
        · -- pc 51: v1 = (3 : Int32)
          refine Go.s_icmpNo X0 hx (hb hby at_51) (q := 54) rfl (teq c51_11).2 ?_
          refine Go.getS X0 hx hZ hown (w_ hw 13 rfl) Via.refl e0 S_INTEGER (hb hby at_54) ?_
          intro T12 X12 e12
          show Go p e below _ T12 (mkF m 57 #[.val (.int x0), .val (.int v1), .unset, .unset] [(.ref a_INTEGER)])
          refine Go.s_astoreN X12 hx (hb hby at_57) (q := 58) rfl rfl (l' := #[.val (.int x0), .val (.int v1), .val (.ref a_INTEGER), .unset]) rfl ?_
          refine Go.s_iconst X12 hx (hb hby at_58) (q := 59) rfl (z := 1) rfl ?_
          refine Go.s_istoreN X12 hx (hb hby at_59) (q := 60) rfl (l' := #[.val (.int x0), .val (.int v1), .val (.ref a_INTEGER), .val (.int (1 : Int32))]) rfl ?_
          refine Go.s_goto X12 hx (hb hby at_60) (q := 83) (by decide) (by decide) ?_
          refine Go.s_aloadN X12 hx (hb hby at_83) (q := 84) rfl rfl rfl ?_
          refine Go.callV (y := mn_1) (z := mn_1) X12 hx hZ hown (w_ hw 4 rfl) (w_ hw 5 rfl) (notFace_of_selects (args := #[]) (mvT hZ (w_ hw 14 rfl))) (w_ hw 14 rfl) (w_ hw 6 rfl) (w_ hw 8 rfl) (w_ hw 2 rfl) (by decide) e12 E_INTEGER (argsL := []) (rest := []) (rm_numa_INTEGER l Z a0 hw _ a_TEXT a_INTEGER a_DECIMAL a_NAME a_CODE a_DATE hctx') (by rw [hml]; rfl) (lenOf pd_0 rfl) rfl (hb hby at_84) (by decide) (by decide) (by decide) (by decide) ?_
          intro r13 T13 L13 q13 X13
          obtain ⟨rfl, rfl, e13⟩ := q13
          rw [List.append_nil] at X13
          show Go p e below _ T13 (mkF m 87 #[.val (.int x0), .val (.int v1), .val (.ref a_INTEGER), .val (.int (1 : Int32))] [(.int (1 : Int32))])
          refine Go.s_iloadN X13 hx (hb hby at_87) (q := 88) rfl rfl ?_
          refine Go.s_icmpNo X13 hx (hb hby at_88) (q := 91) rfl (teq (by decide : (1 : Int32) = (1 : Int32))).2 ?_
          refine Go.s_iconst X13 hx (hb hby at_91) (q := 92) rfl (z := 1) rfl ?_
          refine Go.s_goto X13 hx (hb hby at_92) (q := 96) (by decide) (by decide) ?_
          refine Go.retN X13 hx hlk hret (by simp) (hb hby at_96) (by decide) (by decide) ?_
          try rw [e13]
          exact ⟨by decide, rfl⟩
        · -- pc 51: not v1 = (3 : Int32)
          refine Go.s_icmpYes X0 hx (hb hby at_51) (q := 63) (by decide) (by decide) (feq c51_11).2 ?_
          refine Go.s_iloadN X0 hx (hb hby at_63) (q := 64) rfl rfl ?_
          refine Go.s_iconst X0 hx (hb hby at_64) (q := 65) rfl (z := 4) rfl ?_
          by_cases c65_14 : v1 = (4 : Int32)
          · -- pc 65: v1 = (4 : Int32)
            refine Go.s_icmpNo X0 hx (hb hby at_65) (q := 68) rfl (teq c65_14).2 ?_
            refine Go.getS X0 hx hZ hown (w_ hw 23 rfl) Via.refl e0 S_DECIMAL (hb hby at_68) ?_
            intro T15 X15 e15
            show Go p e below _ T15 (mkF m 71 #[.val (.int x0), .val (.int v1), .unset, .unset] [(.ref a_DECIMAL)])
            refine Go.s_astoreN X15 hx (hb hby at_71) (q := 72) rfl rfl (l' := #[.val (.int x0), .val (.int v1), .val (.ref a_DECIMAL), .unset]) rfl ?_
            refine Go.s_iconst X15 hx (hb hby at_72) (q := 73) rfl (z := 1) rfl ?_
            refine Go.s_istoreN X15 hx (hb hby at_73) (q := 74) rfl (l' := #[.val (.int x0), .val (.int v1), .val (.ref a_DECIMAL), .val (.int (1 : Int32))]) rfl ?_
            refine Go.s_goto X15 hx (hb hby at_74) (q := 83) (by decide) (by decide) ?_
            refine Go.s_aloadN X15 hx (hb hby at_83) (q := 84) rfl rfl rfl ?_
            refine Go.callV (y := mn_1) (z := mn_1) X15 hx hZ hown (w_ hw 4 rfl) (w_ hw 5 rfl) (notFace_of_selects (args := #[]) (mvT hZ (w_ hw 24 rfl))) (w_ hw 24 rfl) (w_ hw 6 rfl) (w_ hw 8 rfl) (w_ hw 2 rfl) (by decide) e15 E_DECIMAL (argsL := []) (rest := []) (rm_numa_DECIMAL l Z a0 hw _ a_TEXT a_INTEGER a_DECIMAL a_NAME a_CODE a_DATE hctx') (by rw [hml]; rfl) (lenOf pd_0 rfl) rfl (hb hby at_84) (by decide) (by decide) (by decide) (by decide) ?_
            intro r16 T16 L16 q16 X16
            obtain ⟨rfl, rfl, e16⟩ := q16
            rw [List.append_nil] at X16
            show Go p e below _ T16 (mkF m 87 #[.val (.int x0), .val (.int v1), .val (.ref a_DECIMAL), .val (.int (1 : Int32))] [(.int (1 : Int32))])
            refine Go.s_iloadN X16 hx (hb hby at_87) (q := 88) rfl rfl ?_
            refine Go.s_icmpNo X16 hx (hb hby at_88) (q := 91) rfl (teq (by decide : (1 : Int32) = (1 : Int32))).2 ?_
            refine Go.s_iconst X16 hx (hb hby at_91) (q := 92) rfl (z := 1) rfl ?_
            refine Go.s_goto X16 hx (hb hby at_92) (q := 96) (by decide) (by decide) ?_
            refine Go.retN X16 hx hlk hret (by simp) (hb hby at_96) (by decide) (by decide) ?_
            try rw [e16]
            exact ⟨by decide, rfl⟩
          · -- pc 65: not v1 = (4 : Int32)
            refine Go.s_icmpYes X0 hx (hb hby at_65) (q := 77) (by decide) (by decide) (feq c65_14).2 ?_
            refine Go.getS X0 hx hZ hown (w_ hw 20 rfl) Via.refl e0 S_DATE (hb hby at_77) ?_
            intro T17 X17 e17
            show Go p e below _ T17 (mkF m 80 #[.val (.int x0), .val (.int v1), .unset, .unset] [(.ref a_DATE)])
            refine Go.s_astoreN X17 hx (hb hby at_80) (q := 81) rfl rfl (l' := #[.val (.int x0), .val (.int v1), .val (.ref a_DATE), .unset]) rfl ?_
            refine Go.s_iconst X17 hx (hb hby at_81) (q := 82) rfl (z := 0) rfl ?_
            refine Go.s_istoreN X17 hx (hb hby at_82) (q := 83) rfl (l' := #[.val (.int x0), .val (.int v1), .val (.ref a_DATE), .val (.int (0 : Int32))]) rfl ?_
            refine Go.s_aloadN X17 hx (hb hby at_83) (q := 84) rfl rfl rfl ?_
            refine Go.callV (y := mn_1) (z := mn_1) X17 hx hZ hown (w_ hw 4 rfl) (w_ hw 5 rfl) (notFace_of_selects (args := #[]) (mvT hZ (w_ hw 22 rfl))) (w_ hw 22 rfl) (w_ hw 6 rfl) (w_ hw 8 rfl) (w_ hw 2 rfl) (by decide) e17 E_DATE (argsL := []) (rest := []) (rm_numa_DATE l Z a0 hw _ a_TEXT a_INTEGER a_DECIMAL a_NAME a_CODE a_DATE hctx') (by rw [hml]; rfl) (lenOf pd_0 rfl) rfl (hb hby at_84) (by decide) (by decide) (by decide) (by decide) ?_
            intro r18 T18 L18 q18 X18
            obtain ⟨rfl, rfl, e18⟩ := q18
            rw [List.append_nil] at X18
            show Go p e below _ T18 (mkF m 87 #[.val (.int x0), .val (.int v1), .val (.ref a_DATE), .val (.int (0 : Int32))] [(.int (0 : Int32))])
            refine Go.s_iloadN X18 hx (hb hby at_87) (q := 88) rfl rfl ?_
            refine Go.s_icmpNo X18 hx (hb hby at_88) (q := 91) rfl (teq (by decide : (0 : Int32) = (0 : Int32))).2 ?_
            refine Go.s_iconst X18 hx (hb hby at_91) (q := 92) rfl (z := 1) rfl ?_
            refine Go.s_goto X18 hx (hb hby at_92) (q := 96) (by decide) (by decide) ?_
            refine Go.retN X18 hx hlk hret (by simp) (hb hby at_96) (by decide) (by decide) ?_
            try rw [e18]
            exact ⟨by decide, rfl⟩
set_option maxRecDepth 65536 in
set_option maxHeartbeats 40000000 in
theorem comes_1 {Post : Tables → Env → Array Value → State → Outcome → State → Prop} (hpost : ∀ tb e args s v u, (limb_1_1.after args s (.returned v) u = true ∧ limb_1_2.after args s (.returned v) u = true ∧ True) → FrameEnd s (.returned v) u (Jvm.fieldLocs frame_1_writes args s ++ Jvm.arrayLocs frame_1_arrays args s ++ Jvm.staticLocs frame_1_statics s) 0 0 → Post tb e args s (.returned v) u) :
    ArmFor flags0 classFile x code maxLocals ret World_1 tables_1 room_1 Calls_1 rest_1 Pre_1 Post := by
  intro l hfl _ _ p e ha hc hk s m args below hf hA hF happ hP
  obtain ⟨hcalls, hrest, hpre⟩ := hP
  obtain ⟨-, -, -, hnamed, -, -, -, hat⟩ := (Spec.applies_iff hf).mp happ
  obtain ⟨hg, hn⟩ := and_e (Cond.before_iff.mp (show (Jvm.Cond.and given_1 narrow_1).before args s = true from hpre))
  obtain ⟨hgl, hgr⟩ := and_e hg
  obtain ⟨w0, rfl⟩ : ∃ w0 : Value, args = #[w0] := by
    have hs : args.size = 1 := by simpa [Cond.value, given_1] using hgl
    obtain ⟨L⟩ := args
    match L, hs with
    | [w0], _ => exact ⟨w0, rfl⟩
  have hw := fun d (hd : d ∈ tables_1) => atoms_spec (ws := Jvm.Cond.code x code maxLocals ret :: tables_1) hat d (List.mem_cons_of_mem _ hd)
  obtain ⟨i0, ev0⟩ := is_v hgr
  obtain rfl : w0 = (.int i0) := Option.some.inj ev0
  obtain ⟨hnl, hnr⟩ := and_e hn
  obtain ⟨hnrl, hnrr⟩ := and_e hnr
  obtain ⟨hnrrl, hnrrr⟩ := and_e hnrr
  obtain ⟨hnrrrl, hnrrrr⟩ := and_e hnrrr
  obtain ⟨hnrrrrl, hnrrrrr⟩ := and_e hnrrrr
  obtain ⟨a_TEXT, ea_TEXT⟩ := exa_v hnl
  have S_TEXT := Sta.start ea_TEXT (Or.inr ⟨(w_ hw 2 rfl), (w_ hw 3 rfl)⟩)
  have E_TEXT := Exa.start ea_TEXT hnl
  obtain ⟨a_INTEGER, ea_INTEGER⟩ := exa_v hnrl
  have S_INTEGER := Sta.start ea_INTEGER (Or.inr ⟨(w_ hw 2 rfl), (w_ hw 10 rfl)⟩)
  have E_INTEGER := Exa.start ea_INTEGER hnrl
  obtain ⟨a_DECIMAL, ea_DECIMAL⟩ := exa_v hnrrl
  have S_DECIMAL := Sta.start ea_DECIMAL (Or.inr ⟨(w_ hw 2 rfl), (w_ hw 12 rfl)⟩)
  have E_DECIMAL := Exa.start ea_DECIMAL hnrrl
  obtain ⟨a_NAME, ea_NAME⟩ := exa_v hnrrrl
  have S_NAME := Sta.start ea_NAME (Or.inr ⟨(w_ hw 2 rfl), (w_ hw 16 rfl)⟩)
  have E_NAME := Exa.start ea_NAME hnrrrl
  obtain ⟨a_CODE, ea_CODE⟩ := exa_v hnrrrrl
  have S_CODE := Sta.start ea_CODE (Or.inr ⟨(w_ hw 2 rfl), (w_ hw 19 rfl)⟩)
  have E_CODE := Exa.start ea_CODE hnrrrrl
  obtain ⟨a_DATE, ea_DATE⟩ := exa_v hnrrrrr
  have S_DATE := Sta.start ea_DATE (Or.inr ⟨(w_ hw 2 rfl), (w_ hw 21 rfl)⟩)
  have E_DATE := Exa.start ea_DATE hnrrrrr
  have ne_TEXT_INTEGER : ¬ a_TEXT = a_INTEGER := ne_exa E_TEXT E_INTEGER (by decide)
  have ne_TEXT_DECIMAL : ¬ a_TEXT = a_DECIMAL := ne_exa E_TEXT E_DECIMAL (by decide)
  have ne_TEXT_NAME : ¬ a_TEXT = a_NAME := ne_exa E_TEXT E_NAME (by decide)
  have ne_TEXT_DATE : ¬ a_TEXT = a_DATE := ne_exa E_TEXT E_DATE (by decide)
  have ne_INTEGER_DECIMAL : ¬ a_INTEGER = a_DECIMAL := ne_exa E_INTEGER E_DECIMAL (by decide)
  have ne_INTEGER_NAME : ¬ a_INTEGER = a_NAME := ne_exa E_INTEGER E_NAME (by decide)
  have ne_INTEGER_CODE : ¬ a_INTEGER = a_CODE := ne_exa E_INTEGER E_CODE (by decide)
  have ne_INTEGER_DATE : ¬ a_INTEGER = a_DATE := ne_exa E_INTEGER E_DATE (by decide)
  have ne_DECIMAL_NAME : ¬ a_DECIMAL = a_NAME := ne_exa E_DECIMAL E_NAME (by decide)
  have ne_DECIMAL_CODE : ¬ a_DECIMAL = a_CODE := ne_exa E_DECIMAL E_CODE (by decide)
  have ne_DECIMAL_DATE : ¬ a_DECIMAL = a_DATE := ne_exa E_DECIMAL E_DATE (by decide)
  have ne_NAME_CODE : ¬ a_NAME = a_CODE := ne_exa E_NAME E_CODE (by decide)
  have ne_NAME_DATE : ¬ a_NAME = a_DATE := ne_exa E_NAME E_DATE (by decide)
  have ne_CODE_DATE : ¬ a_CODE = a_DATE := ne_exa E_CODE E_DATE (by decide)
  have hctx : Ctx s s.heap a_TEXT a_INTEGER a_DECIMAL a_NAME a_CODE a_DATE := ⟨S_TEXT, S_INTEGER, S_DECIMAL, S_NAME, S_CODE, S_DATE, E_TEXT, E_INTEGER, E_DECIMAL, E_NAME, E_CODE, E_DATE, ne_TEXT_INTEGER, ne_TEXT_DECIMAL, ne_TEXT_NAME, ne_TEXT_DATE, ne_INTEGER_DECIMAL, ne_INTEGER_NAME, ne_INTEGER_CODE, ne_INTEGER_DATE, ne_DECIMAL_NAME, ne_DECIMAL_CODE, ne_DECIMAL_DATE, ne_NAME_CODE, ne_NAME_DATE, ne_CODE_DATE⟩
  obtain ⟨n, o, h1, h2, h3, _, L, rfl, ⟨rfl, rfl⟩, hq⟩ := rm_law l s _ hw i0 s.heap a_TEXT a_INTEGER a_DECIMAL a_NAME a_CODE a_DATE hctx tables_1 p e ha hc hk s m _ below hf ((Spec.applies_iff_loose hf).mp happ).1 ⟨rfl, State.Warmed39.refl s, rfl⟩ trivial
  refine ⟨n, _, h1, h2, h3, hpost _ _ _ _ _ _ ⟨Cond.after_iff.mpr rfl, Cond.after_iff.mpr (eq_i res_at (Term.int_eval (1)) rfl), trivial⟩ ⟨hq.1, hq.2.1, (hq.2.2.sift fun y hy => nomatch hy).mono (by decide) (by decide)⟩⟩
theorem main_1_1 : Claimed_1_1 := comes_1 fun _ _ _ _ _ _ h hF => ⟨h.1, hF⟩
theorem main_1_2 : Claimed_1_2 := comes_1 fun _ _ _ _ _ _ h hF => ⟨h.2.1, hF⟩
end Jvm.Pilot.@@N@@
namespace Jvm.Pilot.@@N@@
open Jvm Jvm.ClassFile Sem Op Lib Jvm.Free Jvm.Stand Jvm.Pilot.@@N@@.Jvm.D
/-! MADE BY PROGRAM (witnessworld.py) out of the Statement's table words and the real class files: 16 classes; the members and pool entries that the words name. The judged class is class 1, her method 1. -/
namespace start1
open Jvm.ClassFile
def u (s : String) : CpInfo := .utf8 (stringToUtf16 s)
/-- a pool by its gaps: so many unusable entries, then the entry; so many at the end -/
def gap : Nat → List CpInfo → List CpInfo
  | 0, r => r
  | n + 1, r => .unusable :: gap n r
def poolList (es : List (Nat × CpInfo)) (last : Nat) : List CpInfo := es.foldr (fun e r => gap e.1 (e.2 :: r)) (gap last [])
def pool (es : List (Nat × CpInfo)) (last : Nat) : Array CpInfo := ⟨poolList es last⟩
def fileOf (pool : Array CpInfo) (this : Nat) (attrs : Array Attribute := #[]) (ms : Array MethodInfo := #[]) (fl : Nat := 33) (sup : Nat := 0) (ifs : Array Nat := #[]) (fds : Array FieldInfo := #[]) : ClassFile where
  minorVersion := 0
  majorVersion := 65
  constantPool := pool
  accessFlags := fl
  thisClass := this
  superClass := sup
  interfaces := ifs
  fields := fds
  methods := ms
  attributes := attrs
def plain (name : String) (sup : Option ClassId) : Class where
  name := name
  kind := .ordinary
  loader := none
  accessFlags := 33
  super := sup
  interfaces := #[]
  cf := none
  fields := #[]
  methods := #[]
  instanceTypes := #[]
  staticTypes := #[]
  resolved := #[]
  callSites := []
  init := .initialized
  statics := none
  mirror := none

def pool0 : Array CpInfo := pool [(5, u "<init>"), (0, u "()V"), (1, .class_ 10), (1, u "java/lang/Object")] 113

def k0m0 : Method := { name := "<init>", desc := "()V", sig := { parameters := [], returnType := none }, accessFlags := 1, code := none }
/-- java/lang/Object -/
def k0 : Class := { plain "java/lang/Object" none with
  accessFlags := 33
  interfaces := #[]
  cf := some (fileOf pool0 8 #[] #[{ accessFlags := 1, nameIndex := 5, descriptorIndex := 6, attributes := #[] }] 33 0 #[] #[])
  fields := #[]
  methods := #[k0m0]
  instanceTypes := #[]
  staticTypes := #[]
  resolved := Array.replicate 124 none
  statics := none }

def pool1 : Array CpInfo := pool [(2, .class_ 4), (1, u "java/lang/Object"), (0, u "<init>"), (0, u "()V"), (0, .integer 2147483647), (0, .fieldref 9 10), (0, .class_ 11), (0, .nameAndType 12 13), (0, u "com/example/fencerow/fencerow/FieldType"), (0, u "TEXT"), (0, u "Lcom/example/fencerow/fencerow/FieldType;"), (0, .fieldref 9 15), (0, .nameAndType 16 13), (0, u "CODE"), (0, .fieldref 9 18), (0, .nameAndType 19 13), (0, u "NAME"), (0, .fieldref 9 21), (0, .nameAndType 22 13), (0, u "INTEGER"), (0, .fieldref 9 24), (0, .nameAndType 25 13), (0, u "DECIMAL"), (0, .fieldref 9 27), (0, .nameAndType 28 13), (0, u "DATE"), (0, .methodref 9 30), (0, .nameAndType 31 32), (0, u "isNumeric"), (0, u "()Z"), (0, .class_ 34), (0, u "com/example/fencerow/fencerow/FieldTypeIsNumericPinLaw"), (2, u "law"), (0, u "(I)Z")] 3

def k1m0 : Method := { name := "<init>", desc := "()V", sig := { parameters := [], returnType := none }, accessFlags := 2, code := none }
def k1c1 : Code := { maxStack := 2, maxLocals := 4, code := code, exceptionTable := #[], attributes := #[] }
def k1m1 : Method := { name := "law", desc := "(I)Z", sig := { parameters := [.int], returnType := some .boolean }, accessFlags := 9, code := some k1c1 }
/-- com/example/fencerow/fencerow/FieldTypeIsNumericPinLaw -/
def k1 : Class := { plain "com/example/fencerow/fencerow/FieldTypeIsNumericPinLaw" (some 0) with
  accessFlags := 49
  interfaces := #[]
  cf := some (fileOf pool1 33 #[] #[{ accessFlags := 2, nameIndex := 5, descriptorIndex := 6, attributes := #[] }, { accessFlags := 9, nameIndex := 37, descriptorIndex := 38, attributes := #[] }] 49 2 #[] #[])
  fields := #[]
  methods := #[k1m0, k1m1]
  instanceTypes := #[]
  staticTypes := #[]
  resolved := Array.replicate 42 none
  statics := none }

def pool2 : Array CpInfo := pool [(1, .class_ 2), (0, u "java/lang/constant/Constable"), (0, .class_ 4), (0, u "java/lang/Object")] 6

/-- java/lang/constant/Constable -/
def k2 : Class := { plain "java/lang/constant/Constable" (some 0) with
  accessFlags := 1537
  interfaces := #[]
  cf := some (fileOf pool2 1 #[] #[] 1537 3 #[] #[])
  fields := #[]
  methods := #[]
  instanceTypes := #[]
  staticTypes := #[]
  resolved := Array.replicate 11 none
  statics := none }

def pool3 : Array CpInfo := pool [(1, .class_ 2), (0, u "java/lang/Comparable"), (0, .class_ 4), (0, u "java/lang/Object")] 7

/-- java/lang/Comparable -/
def k3 : Class := { plain "java/lang/Comparable" (some 0) with
  accessFlags := 1537
  interfaces := #[]
  cf := some (fileOf pool3 1 #[] #[] 1537 3 #[] #[])
  fields := #[]
  methods := #[]
  instanceTypes := #[]
  staticTypes := #[]
  resolved := Array.replicate 12 none
  statics := none }

def pool4 : Array CpInfo := pool [(1, .class_ 2), (0, u "java/io/Serializable"), (0, .class_ 4), (0, u "java/lang/Object")] 2

/-- java/io/Serializable -/
def k4 : Class := { plain "java/io/Serializable" (some 0) with
  accessFlags := 1537
  interfaces := #[]
  cf := some (fileOf pool4 1 #[] #[] 1537 3 #[] #[])
  fields := #[]
  methods := #[]
  instanceTypes := #[]
  staticTypes := #[]
  resolved := Array.replicate 7 none
  statics := none }

def pool5 : Array CpInfo := pool [(2, .class_ 4), (1, u "java/lang/Enum"), (0, u "name"), (0, u "Ljava/lang/String;"), (2, u "ordinal"), (0, u "I"), (1, .class_ 14), (1, u "java/lang/Object"), (4, u "hash"), (86, .class_ 108), (1, u "java/lang/Enum$EnumDesc"), (2, .class_ 112), (0, u "java/lang/constant/Constable"), (0, .class_ 114), (0, u "java/lang/Comparable"), (0, .class_ 116), (0, u "java/io/Serializable")] 87

/-- java/lang/Enum -/
def k5 : Class := { plain "java/lang/Enum" (some 0) with
  accessFlags := 1057
  interfaces := #[2, 3, 4]
  cf := some (fileOf pool5 2 #[.nestMembers #[106]] #[] 1057 12 #[111, 113, 115] #[{ accessFlags := 18, nameIndex := 5, descriptorIndex := 6, attributes := #[] }, { accessFlags := 18, nameIndex := 9, descriptorIndex := 10, attributes := #[] }, { accessFlags := 2, nameIndex := 19, descriptorIndex := 10, attributes := #[] }])
  fields := #[{ name := "name", type := (.object "java/lang/String"), accessFlags := 18, slot := 0, constantValue := 0 }, { name := "ordinal", type := .int, accessFlags := 18, slot := 1, constantValue := 0 }, { name := "hash", type := .int, accessFlags := 2, slot := 2, constantValue := 0 }]
  methods := #[]
  instanceTypes := #[(.object "java/lang/String"), .int, .int]
  staticTypes := #[]
  resolved := Array.replicate 204 none
  statics := none }

def pool6 : Array CpInfo := pool [(1, .class_ 2), (0, u "com/example/fencerow/fencerow/FieldType"), (2, u "TEXT"), (0, u "Lcom/example/fencerow/fencerow/FieldType;"), (2, u "CODE"), (2, u "NAME"), (0, .fieldref 1 14), (0, .nameAndType 15 6), (0, u "INTEGER"), (0, .fieldref 1 17), (0, .nameAndType 18 6), (0, u "DECIMAL"), (2, u "DATE"), (2, u "$VALUES"), (0, u "[Lcom/example/fencerow/fencerow/FieldType;"), (6, .class_ 34), (1, u "java/lang/Enum"), (8, u "description"), (0, u "Ljava/lang/String;"), (13, u "()Z"), (64, u "isNumeric"), (64, u "LONGEST_WITHIN_SIZE"), (0, u "I"), (43, .class_ 234), (0, u "com/example/fencerow/fencerow/FieldType$1"), (4, .class_ 240), (0, u "com/example/fencerow/fencerow/FieldType$2"), (4, .class_ 246), (0, u "com/example/fencerow/fencerow/FieldType$3"), (4, .class_ 252), (0, u "com/example/fencerow/fencerow/FieldType$4"), (18, u "NAME_FORM"), (0, u "Ljava/util/regex/Pattern;"), (5, u "MOST_WHOLE_DIGITS"), (2, u "MOST_PLACES"), (1, u "LONG_DIGITS")] 67

def k6c0 : Code := { maxStack := 2, maxLocals := 1, code := prog_28_method_16_code, exceptionTable := #[], attributes := #[] }
def k6m0 : Method := { name := "isNumeric", desc := "()Z", sig := { parameters := [], returnType := some .boolean }, accessFlags := 0, code := some k6c0 }
/-- com/example/fencerow/fencerow/FieldType -/
def k6 : Class := { plain "com/example/fencerow/fencerow/FieldType" (some 5) with
  accessFlags := 16417
  interfaces := #[]
  cf := some (fileOf pool6 1 #[.nestMembers #[251, 245, 239, 233]] #[{ accessFlags := 0, nameIndex := 123, descriptorIndex := 58, attributes := #[] }] 16417 32 #[] #[{ accessFlags := 16409, nameIndex := 5, descriptorIndex := 6, attributes := #[] }, { accessFlags := 16409, nameIndex := 9, descriptorIndex := 6, attributes := #[] }, { accessFlags := 16409, nameIndex := 12, descriptorIndex := 6, attributes := #[] }, { accessFlags := 16409, nameIndex := 15, descriptorIndex := 6, attributes := #[] }, { accessFlags := 16409, nameIndex := 18, descriptorIndex := 6, attributes := #[] }, { accessFlags := 16409, nameIndex := 21, descriptorIndex := 6, attributes := #[] }, { accessFlags := 25, nameIndex := 278, descriptorIndex := 189, attributes := #[] }, { accessFlags := 25, nameIndex := 281, descriptorIndex := 189, attributes := #[] }, { accessFlags := 26, nameIndex := 271, descriptorIndex := 272, attributes := #[] }, { accessFlags := 24, nameIndex := 283, descriptorIndex := 189, attributes := #[] }, { accessFlags := 26, nameIndex := 188, descriptorIndex := 189, attributes := #[] }, { accessFlags := 18, nameIndex := 43, descriptorIndex := 44, attributes := #[] }, { accessFlags := 4122, nameIndex := 24, descriptorIndex := 25, attributes := #[] }])
  fields := #[{ name := "TEXT", type := (.object "com/example/fencerow/fencerow/FieldType"), accessFlags := 16409, slot := 0, constantValue := 0 }, { name := "CODE", type := (.object "com/example/fencerow/fencerow/FieldType"), accessFlags := 16409, slot := 1, constantValue := 0 }, { name := "NAME", type := (.object "com/example/fencerow/fencerow/FieldType"), accessFlags := 16409, slot := 2, constantValue := 0 }, { name := "INTEGER", type := (.object "com/example/fencerow/fencerow/FieldType"), accessFlags := 16409, slot := 3, constantValue := 0 }, { name := "DECIMAL", type := (.object "com/example/fencerow/fencerow/FieldType"), accessFlags := 16409, slot := 4, constantValue := 0 }, { name := "DATE", type := (.object "com/example/fencerow/fencerow/FieldType"), accessFlags := 16409, slot := 5, constantValue := 0 }, { name := "MOST_WHOLE_DIGITS", type := .int, accessFlags := 25, slot := 6, constantValue := 0 }, { name := "MOST_PLACES", type := .int, accessFlags := 25, slot := 7, constantValue := 0 }, { name := "NAME_FORM", type := (.object "java/util/regex/Pattern"), accessFlags := 26, slot := 8, constantValue := 0 }, { name := "LONG_DIGITS", type := .int, accessFlags := 24, slot := 9, constantValue := 0 }, { name := "LONGEST_WITHIN_SIZE", type := .int, accessFlags := 26, slot := 10, constantValue := 0 }, { name := "description", type := (.object "java/lang/String"), accessFlags := 18, slot := 3, constantValue := 0 }, { name := "$VALUES", type := (.array (.object "com/example/fencerow/fencerow/FieldType")), accessFlags := 4122, slot := 11, constantValue := 0 }]
  methods := #[k6m0]
  instanceTypes := #[(.object "java/lang/String"), .int, .int, (.object "java/lang/String")]
  staticTypes := #[(.object "com/example/fencerow/fencerow/FieldType"), (.object "com/example/fencerow/fencerow/FieldType"), (.object "com/example/fencerow/fencerow/FieldType"), (.object "com/example/fencerow/fencerow/FieldType"), (.object "com/example/fencerow/fencerow/FieldType"), (.object "com/example/fencerow/fencerow/FieldType"), .int, .int, (.object "java/util/regex/Pattern"), .int, .int, (.array (.object "com/example/fencerow/fencerow/FieldType"))]
  resolved := Array.replicate 351 none
  statics := some 0 }

def pool7 : Array CpInfo := pool [(2, .class_ 4), (1, u "com/example/fencerow/fencerow/FieldType"), (6, .class_ 12), (0, u "com/example/fencerow/fencerow/FieldType$2")] 10

/-- com/example/fencerow/fencerow/FieldType$2 -/
def k7 : Class := { plain "com/example/fencerow/fencerow/FieldType$2" (some 6) with
  accessFlags := 16432
  interfaces := #[]
  cf := some (fileOf pool7 11 #[.nestHost 2] #[] 16432 2 #[] #[])
  fields := #[]
  methods := #[]
  instanceTypes := #[(.object "java/lang/String"), .int, .int, (.object "java/lang/String")]
  staticTypes := #[]
  resolved := Array.replicate 23 none
  statics := none }

def pool8 : Array CpInfo := pool [(2, .class_ 4), (1, u "com/example/fencerow/fencerow/FieldType"), (18, .class_ 24), (0, u "com/example/fencerow/fencerow/FieldType$1")] 13

/-- com/example/fencerow/fencerow/FieldType$1 -/
def k8 : Class := { plain "com/example/fencerow/fencerow/FieldType$1" (some 6) with
  accessFlags := 16432
  interfaces := #[]
  cf := some (fileOf pool8 23 #[.nestHost 2] #[] 16432 2 #[] #[])
  fields := #[]
  methods := #[]
  instanceTypes := #[(.object "java/lang/String"), .int, .int, (.object "java/lang/String")]
  staticTypes := #[]
  resolved := Array.replicate 38 none
  statics := none }

def pool9 : Array CpInfo := pool [(2, .class_ 4), (1, u "com/example/fencerow/fencerow/FieldType"), (17, .class_ 23), (0, u "com/example/fencerow/fencerow/FieldType$4")] 11

/-- com/example/fencerow/fencerow/FieldType$4 -/
def k9 : Class := { plain "com/example/fencerow/fencerow/FieldType$4" (some 6) with
  accessFlags := 16432
  interfaces := #[]
  cf := some (fileOf pool9 22 #[.nestHost 2] #[] 16432 2 #[] #[])
  fields := #[]
  methods := #[]
  instanceTypes := #[(.object "java/lang/String"), .int, .int, (.object "java/lang/String")]
  staticTypes := #[]
  resolved := Array.replicate 35 none
  statics := none }

def pool10 : Array CpInfo := pool [(2, .class_ 4), (1, u "com/example/fencerow/fencerow/FieldType"), (6, .class_ 12), (0, u "com/example/fencerow/fencerow/FieldType$3")] 10

/-- com/example/fencerow/fencerow/FieldType$3 -/
def k10 : Class := { plain "com/example/fencerow/fencerow/FieldType$3" (some 6) with
  accessFlags := 16432
  interfaces := #[]
  cf := some (fileOf pool10 11 #[.nestHost 2] #[] 16432 2 #[] #[])
  fields := #[]
  methods := #[]
  instanceTypes := #[(.object "java/lang/String"), .int, .int, (.object "java/lang/String")]
  staticTypes := #[]
  resolved := Array.replicate 23 none
  statics := none }

def pool11 : Array CpInfo := pool [(1, u "java/lang/Cloneable"), (0, .class_ 1), (0, u "java/lang/Object"), (0, .class_ 3)] 3

/-- java/lang/Cloneable -/
def k11 : Class := { plain "java/lang/Cloneable" (some 0) with
  accessFlags := 1537
  interfaces := #[]
  cf := some (fileOf pool11 2 #[] #[] 1537 4 #[] #[])
  fields := #[]
  methods := #[]
  instanceTypes := #[]
  staticTypes := #[]
  resolved := Array.replicate 8 none
  statics := none }

/-- the primitive byte -/
def k12 : Class := { plain "byte" none with kind := .primitive 'B', accessFlags := 0x411 }
/-- [B -/
def k13 : Class := { plain "[B" (some 0) with kind := .array 12 .byte, interfaces := #[11, 4], accessFlags := 1041 }

/-- the primitive int -/
def k14 : Class := { plain "int" none with kind := .primitive 'I', accessFlags := 0x411 }
/-- [I -/
def k15 : Class := { plain "[I" (some 0) with kind := .array 14 .int, interfaces := #[11, 4], accessFlags := 1041 }

def heap : Heap := #[{ cls := 6, slots := #[.ref 1, .ref 5, .ref 4, .ref 2, .ref 3, .ref 6, .int 0, .int 0, .null, .int 0, .int 0, .null], vm := .statics 6 },
  { cls := 6, slots := #[.null, .int 0, .int 0, .null], vm := .none },
  { cls := 7, slots := #[.null, .int 0, .int 0, .null], vm := .none },
  { cls := 10, slots := #[.null, .int 0, .int 0, .null], vm := .none },
  { cls := 8, slots := #[.null, .int 0, .int 0, .null], vm := .none },
  { cls := 6, slots := #[.null, .int 0, .int 0, .null], vm := .none },
  { cls := 9, slots := #[.null, .int 0, .int 0, .null], vm := .none }]
def classes : Array Class := #[k0, k1, k2, k3, k4, k5, k6, k7, k8, k9, k10, k11, k12, k13, k14, k15]
def interned : List (Array UInt16 × Addr) := []
def slotsUsed : Nat := 36
def theMethod : MethodId := ⟨1, 1⟩
def args0 : Array Value := #[.int 5]
def aboutOver (below : List Frame) : State where
  vm := { classes := classes, interned := interned.toArray }
  heap := heap
  slotsUsed := slotsUsed
  threads := #[{ frames := .invoking theMethod args0 :: below }]
def below0 : List Frame := [.native { method := ⟨0, 0⟩, args := #[] }]
def about1 : State := aboutOver below0
def p0 : Program := .bare "" "" ""
def e0 : Env := launch0.env 0 0 0
theorem w_frames : about1.frames = Frame.invoking theMethod args0 :: below0 := rfl
set_option maxRecDepth 65536 in
theorem w_args : argsFit about1.vm theMethod args0 = true := by decide +kernel
set_option maxRecDepth 65536 in
theorem w_heap : heapFits about1 = true := by decide +kernel
set_option maxRecDepth 65536 in
theorem w_runnable : about1.curStatus? = some .runnable := by decide +kernel
set_option maxRecDepth 65536 in
theorem w_alone : about1.alone = true := by decide +kernel
set_option maxRecDepth 65536 in
theorem w_named : about1.methodNamed? x = some theMethod := by decide +kernel
set_option maxRecDepth 65536 in
theorem w_hears : about1.hears theMethod below0 = true := by decide +kernel
set_option maxRecDepth 65536 in
theorem w_ripe : about1.ripe theMethod args0 below0 = true := by decide +kernel
theorem w_running : about1.status = .running := rfl
set_option maxRecDepth 65536 in
theorem w_room : about1.hasRoom e0.platform room_1 = true :=
  launch0.hasRoom_least _ room_1 (by decide +kernel) (by decide +kernel) (by decide +kernel) (by decide +kernel) (by decide +kernel) (by decide +kernel)
theorem allAtoms_all (ts : List Jvm.Cond) (a : Array Jvm.Value) (st : Jvm.State) : (allAtoms ts).before a st = ts.all (fun c => c.before a st) := by
  induction ts with
  | nil => rfl
  | cons c t ih =>
    show (Jvm.Cond.and c (allAtoms t)).before a st = _
    rw [Jvm.Cond.before_and, ih, List.all_cons]
def words1 : List Jvm.Cond := Jvm.Cond.code x code maxLocals ret :: tables_1
/-- a 'code' word, met by the world's own term for the bytes: nothing is compared byte by byte -/
theorem code_word {y : MethodName} {bytes : ByteArray} {mx : Nat} {rt : Option FieldType} {a : Array Value} {s : State} {m : MethodId} {meth : Method} {c : Code} (h1 : s.methodNamed? y = some m) (h2 : s.vm.method? m = some meth) (h3 : meth.code = some c) (h4 : c.code = bytes)
    (h5 : (c.maxLocals == mx && c.exceptionTable.isEmpty && decide (c.maxStack ≤ mostOperands) && decide (meth.sig.returnType = rt) && !meth.locks && decide (parseMethodDescriptor y.desc = some meth.sig)) = true) : (Jvm.Cond.code y bytes mx rt).before a s = true := by
  simp only [Bool.and_eq_true, beq_iff_eq, Bool.not_eq_true', decide_eq_true_eq] at h5
  obtain ⟨⟨⟨⟨⟨g1, g2⟩, g3⟩, g4⟩, g5⟩, g6⟩ := h5
  simp [Cond.before, Cond.holds, Cond.value, h1, h2, h3, h4, g1, g2, g3, g4, g5, g6]
def isCode : Jvm.Cond → Bool
  | .code _ _ _ _ => true
  | _ => false
theorem all_split {L : List Jvm.Cond} {P : Jvm.Cond → Bool} (h1 : L.all (fun c => isCode c || P c) = true) (h2 : ∀ c ∈ L.filter isCode, P c = true) : L.all P = true := by
  refine List.all_eq_true.mpr fun c hc => ?_
  have h := List.all_eq_true.mp h1 c hc
  rcases Bool.eq_false_or_eq_true (isCode c) with hi | hi
  · exact h2 c (List.mem_filter.mpr ⟨hc, hi⟩)
  · simpa [hi] using h
set_option maxRecDepth 65536 in
theorem w_c0 : (Jvm.Cond.code x code maxLocals ret).before args0 about1 = true := code_word (m := ⟨1, 1⟩) (meth := k1m1) (c := k1c1) (by decide +kernel) rfl rfl rfl (by decide +kernel)
set_option maxRecDepth 65536 in
theorem w_c1 : (Jvm.Cond.code ({ cls := "com/example/fencerow/fencerow/FieldType", name := "isNumeric", desc := "()Z" } : Jvm.MethodName) prog_28_method_16_code (1 : Nat) (Option.some Jvm.ClassFile.FieldType.boolean)).before args0 about1 = true := code_word (m := ⟨6, 0⟩) (meth := k6m0) (c := k6c0) (by decide +kernel) rfl rfl rfl (by decide +kernel)
def codes1 : List Jvm.Cond := [Jvm.Cond.code x code maxLocals ret, Jvm.Cond.code ({ cls := "com/example/fencerow/fencerow/FieldType", name := "isNumeric", desc := "()Z" } : Jvm.MethodName) prog_28_method_16_code (1 : Nat) (Option.some Jvm.ClassFile.FieldType.boolean)]
set_option maxRecDepth 65536 in
theorem codes_eq : words1.filter isCode = codes1 := rfl
theorem w_codes : ∀ c ∈ words1.filter isCode, c.before args0 about1 = true := by
  rw [codes_eq]
  intro c hc
  simp only [codes1, List.mem_cons, List.not_mem_nil, or_false] at hc
  rcases hc with rfl | rfl
  · exact w_c0
  · exact w_c1
set_option maxRecDepth 65536 in
theorem w_t1 : (words1.take 24).all (fun c => isCode c || c.before args0 about1) = true := by decide +kernel
set_option maxRecDepth 65536 in
theorem w_t2 : (words1.drop 24).all (fun c => isCode c || c.before args0 about1) = true := by decide +kernel
theorem w_tables : (allAtoms (Jvm.Cond.code x code maxLocals ret :: tables_1)).before args0 about1 = true := by
  rw [allAtoms_all]
  show words1.all (fun c => c.before args0 about1) = true
  refine all_split ?_ w_codes
  rw [← List.take_append_drop 24 words1, List.all_append, w_t1, w_t2]
  rfl
set_option maxRecDepth 65536 in
theorem w_case : (Jvm.Cond.and given_1 narrow_1).before args0 about1 = true := by decide +kernel
theorem w_applies : (headSpec (Jvm.Cond.code x code maxLocals ret :: tables_1) room_1).applies x e0.platform about1 = true :=
  (Spec.applies_iff w_frames).mpr ⟨w_running, w_runnable, w_alone, w_named, w_hears, w_ripe, w_room, w_tables⟩
theorem atStart : AtStart classFile x code maxLocals ret World_1 tables_1 room_1 Calls_1 rest_1 Pre_1 launch0 p0 e0 about1 theMethod args0 below0 :=
  ⟨lists_1, trivial, launch0.admits_env _ _ _, launch0.least_env, fairChoices_fair.cas, fairChoices_fair.clock, w_frames, w_args, w_heap, w_applies, trivial, trivial, w_case⟩
end start1
theorem witness_1 : WitnessClaimed_1 := ⟨start1.p0, start1.e0, start1.about1, start1.theMethod, start1.args0, start1.below0, start1.atStart⟩
end Jvm.Pilot.@@N@@
