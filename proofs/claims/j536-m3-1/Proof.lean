import JvmDerived
import JvmDerived.Pilot.@@N@@Statement
import JvmDerived.Pilot.@@N@@Code
set_option linter.unusedVariables false
set_option linter.unusedSimpArgs false
namespace Jvm.Pilot.@@N@@
open Jvm Jvm.ClassFile Sem Op Lib Jvm.Free Jvm.Stand Jvm.LawKit Jvm.RoadKit Bundle Jvm.Pilot.@@N@@.Jvm.D
section OwnKit
variable {p : Program} {l : Launch} {e : Env} {R : Room} {s : State} {m : MethodId} {args : Array Value} {below : List Frame} {meth : Method} {c : Code} {T : State} {locs : List Loc} {cells slots : Nat} {Z : State} {a0 : Array Value} {h : Heap} {Q : Option Value → Heap → List Loc → Prop} {C S : Nat} {F : State → Outcome → Prop}
/-- what is left of a walk: from T with the top frame g the invocation comes to its end, and F holds there -/
def Go (p : Program) (e : Env) (below : List Frame) (F : State → Outcome → Prop) (T : State) (g : JFrame) : Prop :=
  ∃ t o, Steps p.tables e below (T.setTop g) t ∧ t.status = .running ∧ Ended t below o ∧ F t o
/-- it returned, Q holds, and no more has changed than the frame says -/
def FN (s : State) (Q : Option Value → Heap → List Loc → Prop) (C S : Nat) (t : State) (o : Outcome) : Prop := ∃ v L, o = .returned v ∧ Q v t.heap L ∧ FrameEnd s o t L C S
theorem Go.of {T' : State} {g g' : JFrame} (h : ∀ t, Steps p.tables e below (T'.setTop g') t → Steps p.tables e below (T.setTop g) t) (k : Go p e below F T' g') : Go p e below F T g := by
  obtain ⟨t, o, h1, h2⟩ := k
  exact ⟨t, o, h _ h1, h2⟩
theorem Go.cast {g g' : JFrame} (q : g = g') (k : Go p e below F T g') : Go p e below F T g := q ▸ k
theorem Go.ret (X : Stand p l e R s m args below meth c T locs cells slots) {v : Option Value} {g : JFrame} (hlk : meth.locks = false) (hv : meth.sig.returnType = none → v = none)
    (st : ∀ fs, (∀ (f : JFrame) (acts : List Action), f.method = m → f.locked = none → f.entered = [] → (doReturn e (T.setTop f) acts v).1 = T.setFrames fs) → Steps p.tables e below (T.setTop g) (T.setFrames fs))
    (hc : cells ≤ C) (hs : slots ≤ S) (hQ : Q v T.heap locs) : Go p e below (FN s Q C S) T g := by
  obtain ⟨fs, hr, hrun, hended, hW, hsame⟩ := X.leave (v := v) hv hlk
  exact ⟨_, _, st fs hr, hrun, hended, _, _, rfl, hQ, ⟨_, rfl⟩, hW, hsame.mono hc hs⟩
theorem Go.retN (X : Stand p l e R s m args below meth c T locs cells slots) (hx : p.tables.exec = Jvm.exec) (hlk : meth.locks = false) {pc : Nat} {Ls : Array Slot} {z : Int32} {rest : List Value} {t : FieldType} (hret : meth.sig.returnType = some t) (ht : t = .boolean ∨ t = .byte ∨ t = .char ∨ t = .short) (hd : decode c.code pc = .ok (.ireturn, 1))
    (hc : cells ≤ C) (hs : slots ≤ S) (hQ : Q (some (.int (nar t z))) T.heap locs) : Go p e below (FN s Q C S) T (mkF m pc Ls (.int z :: rest)) :=
  Go.ret X hlk (fun h => by rw [hret] at h; cases h) (fun _ hr => Jvm.RoadKit.retN X hx hret ht hd hr) hc hs hQ
theorem Go.retA (X : Stand p l e R s m args below meth c T locs cells slots) (hx : p.tables.exec = Jvm.exec) (hlk : meth.locks = false) {pc : Nat} {Ls : Array Slot} {w : Value} {rest : List Value} {t : FieldType} (hret : meth.sig.returnType = some t) (ht : t.isReference = true) (hw : w.isRef = true) (hd : decode c.code pc = .ok (.areturn, 1))
    (hc : cells ≤ C) (hs : slots ≤ S) (hQ : Q (some w) T.heap locs) : Go p e below (FN s Q C S) T (mkF m pc Ls (w :: rest)) :=
  Go.ret X hlk (fun h => by rw [hret] at h; cases h) (fun _ hr => retOut X hx hret (by cases t <;> cases w <;> first | rfl | (simp [FieldType.isReference] at ht) | (simp [Value.isRef] at hw)) (Or.inr (Or.inr (Or.inr (Or.inr ⟨rfl, ht, hw⟩)))) hd hr) hc hs hQ
/-- a body's contract at given arguments and a given heap -/
def Ct (l : Launch) (y : MethodName) (bytes : ByteArray) (maxL : Nat) (ret : Option FieldType) (rm : Room) (Z : State) (h0 : Heap) (as' : Array Value) (Q : Option Value → Heap → List Loc → Prop) : Prop :=
  ∀ ws, MetFree l y (head1 (Jvm.Cond.code y bytes maxL ret :: ws) rm) (fun a U => a = as' ∧ Z.Warmed39 U.vm ∧ U.heap = h0) (fun _ _ _ _ _ => True) (fun _ U o U' => ∃ v L, o = .returned v ∧ Q v U'.heap L ∧ FrameEnd U o U' L rm.cells rm.slots)
theorem Ct.body {y : MethodName} {bytes : ByteArray} {maxL : Nat} {ret : Option FieldType} {rm : Room} {as' : Array Value} (hpl : plainFor y = true)
    (k : ∀ (p : Program) (e : Env) (s : State) (m : MethodId) (below : List Frame) (meth : Method) (c : Code) (T : State), p.tables.exec = Jvm.exec → c.code = bytes → c.maxLocals = maxL → s.vm.findClass y.cls = some m.cls → meth.name = y.name → meth.sig.returnType = ret → meth.locks = false → Z.Warmed39 s.vm →
      Stand p l e rm s m as' below meth c T [] 0 0 → T.heap = h → Go p e below (FN s Q rm.cells rm.slots) T (entryFrame m as' maxL)) : Ct l y bytes maxL ret rm Z h as' Q := fun ws => by
  refine MetFree.of_bodySF hpl hisR ?_
  intro p e s m args below meth c s₁ Bd hml0 hP hK
  obtain ⟨rfl, hZ, hh⟩ := hP
  exact k p e s m below meth c s₁ Bd.exec Bd.bytes hml0 (findClass_of_methodNamed Bd.named) (name_of_methodNamed Bd.named Bd.method).1 Bd.returns Bd.notSynchronized hZ (Stand.of_body Bd) (by rw [← hh, Bd.state]; rfl)
theorem Go.callV (X : Stand p l e R s m args below meth c T locs cells slots) (hx : p.tables.exec = Jvm.exec) (hZ : Z.Warmed39 s.vm) {own K : String} {index : Nat} {y z : MethodName} {bytes : ByteArray} {maxL : Nat} {ret : Option FieldType} (hown : s.vm.findClass own = some m.cls)
    (wl : (Jvm.Cond.methodLink own index y).before a0 Z = true) (wd : (Jvm.Cond.declares y).before a0 Z = true) (nf : NotFace s y) (wsel : (Jvm.Cond.selects K y z).before a0 Z = true) (wim : (Jvm.Cond.instanceMethod z).before a0 Z = true) (wc : (Jvm.Cond.code z bytes maxL ret).before a0 Z = true) (wz : (Jvm.Cond.initialized z.cls).before a0 Z = true) (hy : y.cls ≠ "java/lang/invoke/MethodHandle" ∧ y.cls ≠ "java/lang/invoke/VarHandle")
    (eT : T.heap = h) {b : Addr} (E : Exa Z h b K) {rm : Room} {argsL rest : List Value} {Q' : Option Value → Heap → List Loc → Prop} (hC : Ct l z bytes maxL ret rm Z h (.ref b :: argsL).toArray Q') {pc : Nat} {Ls : Array Slot} {st : List Value} (hsz : Ls.size = c.maxLocals)
    (hlen : ∀ sig, parseMethodDescriptor y.desc = some sig → argsL.length = sig.parameters.length) (hst : st = argsL.reverse ++ .ref b :: rest) (hd : decode c.code pc = .ok (.invokevirtual index, 3)) (hf : rm.frames + 1 ≤ R.frames) (hl : (rest.map fun v => v.category).sum + (maxL + 11) + rm.locals ≤ R.locals) (hc : cells + rm.cells ≤ R.cells) (hs : slots + rm.slots ≤ R.slots)
    (k : ∀ v T' L, Q' v T'.heap L → Stand p l e R s m args below meth c T' (locs ++ L) (cells + rm.cells) (slots + rm.slots) → Go p e below F T' (mkF m (pc + 3) Ls (v.toList ++ rest))) :
    Go p e below F T (mkF m pc Ls st) := by
  obtain ⟨cq, kq, qa, qb, qc⟩ := isOf hZ eT E
  obtain ⟨v, _, ⟨T', L', k', n'⟩, -, X', ⟨L, hQ, l1, y1, z1⟩, stp⟩ := X.virtualBack hx (y := y) (z := z) hown (mvT hZ wl) (mvT hZ wd) nf (mvT hZ wsel) (mvT hZ wim) hy (backOf (W := (rest.map fun v => v.category).sum) (hC []) hZ wc wz hf hl) qa qc (g := mkF m pc Ls st) rfl hsz (Steps.refl _) (argsL := argsL) (rest := rest) hlen hst (by show 2 * 0 + _ ≤ _; exact Nat.le_of_eq (Nat.zero_add _)) hd (fun _ _ => ⟨rfl, eT, hc, hs⟩)
  dsimp only [Pt.U, Pt.locs, Pt.cells, Pt.slots] at X' l1 y1 z1 stp hQ
  subst l1 y1 z1
  exact Go.of (fun t q => stp.trans q) (k _ _ _ hQ X')
theorem Go.getS (X : Stand p l e R s m args below meth c T locs cells slots) (hx : p.tables.exec = Jvm.exec) (hZ : Z.Warmed39 s.vm) {own R0 O n d : String} {index : Nat} (hown : s.vm.findClass own = some m.cls) (w : (Jvm.Cond.fieldLink own index R0 n d).before a0 Z = true) (via : Via Z R0 O n d)
    (eT : T.heap = h) {v : Value} (fF : Sta Z h O n d v) {pc : Nat} {Ls : Array Slot} {rest : List Value} (hd : decode c.code pc = .ok (.getstatic index, 3))
    (k : ∀ T', Stand p l e R s m args below meth c T' locs cells slots → T'.heap = h → Go p e below F T' (mkF m (pc + 3) Ls (v :: rest))) : Go p e below F T (mkF m pc Ls rest) := by
  obtain ⟨T', X', e', st⟩ := getS2 X hx hZ hown (host := "") (Or.inl w) via eT fF (g := mkF m pc Ls rest) rfl hd
  exact Go.of st (k _ X' e')
/-- a field of an object that a static names, as the case's words say it -/
theorem fldI {C0 n d : String} {t : Term} {a : Addr} {k : Int32} (ea : t.eval args s none [] s = some (.ref a)) (hq : (Jvm.Cond.eq (.field t C0 n d) (.int k)).value args s none s [] = some true) : Fld s s.heap a C0 n d (.int k) := Fld.start ((fld_at ea).symm.trans (eqv_i (Term.int_eval k) hq))
end OwnKit
section OwnSteps
variable {p : Program} {l : Launch} {e : Env} {R : Room} {s : State} {m : MethodId} {args : Array Value} {below : List Frame} {meth : Method} {c : Code} {T : State} {locs : List Loc} {cells slots : Nat} {Z : State} {a0 : Array Value} {h : Heap} {F : State → Outcome → Prop}
theorem w_ {Z : State} {a0 : Array Value} {ts : List Jvm.Cond} (hw : ∀ d ∈ ts, d.before a0 Z = true) {d : Jvm.Cond} (i : Nat) (h : ts[i]? = some d) : d.before a0 Z = true := hw _ (List.mem_of_getElem? h)
theorem Go.s_iloadN (X : Stand p l e R s m args below meth c T locs cells slots) (hx : p.tables.exec = Jvm.exec) {pc q : Nat} {Ls : Array Slot} {st : List Value} {k : Fin 4} {v : Int32} (hd : decode c.code pc = .ok (.iload_n k, 1)) (hq : pc + 1 = q) (hl : Ls[k.val]? = some (.val (.int v))) (K : Go p e below F T (mkF m q Ls (.int v :: st))) : Go p e below F T (mkF m pc Ls (st)) := by
  subst hq
  exact Go.of (fun t k => XS.iloadN X.here hx rfl hd hl k) K
theorem Go.s_aloadN (X : Stand p l e R s m args below meth c T locs cells slots) (hx : p.tables.exec = Jvm.exec) {pc q : Nat} {Ls : Array Slot} {st : List Value} {k : Fin 4} {v : Value} (hd : decode c.code pc = .ok (.aload_n k, 1)) (hq : pc + 1 = q) (hl : Ls[k.val]? = some (.val v)) (hv : v.isRef = true) (K : Go p e below F T (mkF m q Ls (v :: st))) : Go p e below F T (mkF m pc Ls (st)) := by
  subst hq
  exact Go.of (fun t k => XS.aloadN X.here hx rfl hd hl hv k) K
theorem Go.s_aload (X : Stand p l e R s m args below meth c T locs cells slots) (hx : p.tables.exec = Jvm.exec) {pc q : Nat} {Ls : Array Slot} {st : List Value} {k : Nat} {v : Value} (hd : decode c.code pc = .ok (.aload k, 2)) (hq : pc + 2 = q) (hl : Ls[k]? = some (.val v)) (hv : v.isRef = true) (K : Go p e below F T (mkF m q Ls (v :: st))) : Go p e below F T (mkF m pc Ls (st)) := by
  subst hq
  exact Go.of (fun t k => XS.aload X.here hx rfl hd hl hv k) K
theorem Go.s_istoreN (X : Stand p l e R s m args below meth c T locs cells slots) (hx : p.tables.exec = Jvm.exec) {pc q : Nat} {Ls : Array Slot} {st : List Value} {k : Fin 4} {x : Int32} {l' : Array Slot} (hd : decode c.code pc = .ok (.istore_n k, 1)) (hq : pc + 1 = q) (hl : storeLocals Ls k.val (.int x) = some l') (K : Go p e below F T (mkF m q l' (st))) : Go p e below F T (mkF m pc Ls (.int x :: st)) := by
  subst hq
  exact Go.of (fun t k => XS.istoreN X.here hx rfl hd rfl hl k) K
theorem Go.s_astoreN (X : Stand p l e R s m args below meth c T locs cells slots) (hx : p.tables.exec = Jvm.exec) {pc q : Nat} {Ls : Array Slot} {st : List Value} {k : Fin 4} {x : Value} {l' : Array Slot} (hd : decode c.code pc = .ok (.astore_n k, 1)) (hq : pc + 1 = q) (hv : x.isRef = true) (hl : storeLocals Ls k.val x = some l') (K : Go p e below F T (mkF m q l' (st))) : Go p e below F T (mkF m pc Ls (x :: st)) := by
  subst hq
  exact Go.of (fun t k => XS.astoreN X.here hx rfl hd rfl hv hl k) K
theorem Go.s_astore (X : Stand p l e R s m args below meth c T locs cells slots) (hx : p.tables.exec = Jvm.exec) {pc q : Nat} {Ls : Array Slot} {st : List Value} {k : Nat} {x : Value} {l' : Array Slot} (hd : decode c.code pc = .ok (.astore k, 2)) (hq : pc + 2 = q) (hv : x.isRef = true) (hl : storeLocals Ls k x = some l') (K : Go p e below F T (mkF m q l' (st))) : Go p e below F T (mkF m pc Ls (x :: st)) := by
  subst hq
  exact Go.of (fun t k => XS.astore X.here hx rfl hd rfl hv hl k) K
theorem Go.s_iconst (X : Stand p l e R s m args below meth c T locs cells slots) (hx : p.tables.exec = Jvm.exec) {pc q : Nat} {Ls : Array Slot} {st : List Value} {i : Int} {z : Int32} (hd : decode c.code pc = .ok (.iconst i, 1)) (hq : pc + 1 = q) (hz : Int32.ofInt i = z) (K : Go p e below F T (mkF m q Ls (.int z :: st))) : Go p e below F T (mkF m pc Ls (st)) := by
  subst hq
  exact Go.of (fun t k => XS.iconst X.here hx rfl hd (hz ▸ k)) K
theorem Go.s_iand (X : Stand p l e R s m args below meth c T locs cells slots) (hx : p.tables.exec = Jvm.exec) {pc q : Nat} {Ls : Array Slot} {st : List Value} {x y : Int32} (hd : decode c.code pc = .ok (.iand, 1)) (hq : pc + 1 = q)  (K : Go p e below F T (mkF m q Ls (.int (x &&& y) :: st))) : Go p e below F T (mkF m pc Ls (.int y :: .int x :: st)) := by
  subst hq
  exact Go.of (fun t k => XS.iand X.here hx rfl hd rfl k) K
theorem Go.s_goto (X : Stand p l e R s m args below meth c T locs cells slots) (hx : p.tables.exec = Jvm.exec) {pc q : Nat} {Ls : Array Slot} {st : List Value}  {o : Int} (hd : decode c.code pc = .ok (.goto o, 3)) (ho : 0 ≤ (pc : Int) + o) (hp : ((pc : Int) + o).toNat = q)  (K : Go p e below F T (mkF m q Ls st)) : Go p e below F T (mkF m pc Ls (st)) :=
  Go.of (fun t k => XS.goto X.here hx rfl rfl hd ho hp k) K
theorem Go.s_ifYes (X : Stand p l e R s m args below meth c T locs cells slots) (hx : p.tables.exec = Jvm.exec) {pc q : Nat} {Ls : Array Slot} {st : List Value} {cd : ClassFile.Cond} {x : Int32} {o : Int} (hd : decode c.code pc = .ok (.ifCond cd o, 3)) (ho : 0 ≤ (pc : Int) + o) (hp : ((pc : Int) + o).toNat = q) (hc : ifCond.holds cd x = true) (K : Go p e below F T (mkF m q Ls st)) : Go p e below F T (mkF m pc Ls (.int x :: st)) :=
  Go.of (fun t k => XS.ifYes X.here hx rfl rfl hd rfl hc ho hp k) K
theorem Go.s_ifNo (X : Stand p l e R s m args below meth c T locs cells slots) (hx : p.tables.exec = Jvm.exec) {pc q : Nat} {Ls : Array Slot} {st : List Value} {cd : ClassFile.Cond} {o : Int} {x : Int32} (hd : decode c.code pc = .ok (.ifCond cd o, 3)) (hq : pc + 3 = q) (hc : ifCond.holds cd x = false) (K : Go p e below F T (mkF m q Ls (st))) : Go p e below F T (mkF m pc Ls (.int x :: st)) := by
  subst hq
  exact Go.of (fun t k => XS.ifNo X.here hx rfl hd rfl hc k) K
theorem Go.s_acmp (X : Stand p l e R s m args below meth c T locs cells slots) (hx : p.tables.exec = Jvm.exec) {pc q : Nat} {Ls : Array Slot} {st : List Value} {cd : ACond} {x y : Value} {o : Int} {same : Bool} (hd : decode c.code pc = .ok (.if_acmp cd o, 3)) (h1 : x.isRef = true) (h2 : y.isRef = true) (hq : decide (x = y) = same) (ho : 0 ≤ (pc : Int) + o) (hp : q = if acV cd same = true then ((pc : Int) + o).toNat else pc + 3) (K : Go p e below F T (mkF m q Ls st)) : Go p e below F T (mkF m pc Ls (y :: x :: st)) :=
  Go.of (fun t k => Jvm.RoadKit.acmp (g := mkF m pc Ls (y :: x :: st)) X hx rfl h1 h2 rfl hd rfl hq ho hp k) K
end OwnSteps
abbrev mn_1 : MethodName := ⟨"com/example/pulsegate/pulsegate/Order$Side", "opposite", "()Lcom/example/pulsegate/pulsegate/Order$Side;"⟩
theorem pn_com_example_pulsegate_pulsegate_Order_Side : plainName "com/example/pulsegate/pulsegate/Order$Side" = true := by first | (simp [plainName, overriddenIn]; done) | decide +kernel
theorem d1_0 : decode prog_33_method_6_code 0 = .ok (.aload_n 0, 1) := by decide +kernel
theorem d1_1 : decode prog_33_method_6_code 1 = .ok (.getstatic 3, 3) := by decide +kernel
theorem d1_4 : decode prog_33_method_6_code 4 = .ok (.if_acmp .ne 9, 3) := by decide +kernel
theorem d1_7 : decode prog_33_method_6_code 7 = .ok (.getstatic 7, 3) := by decide +kernel
theorem d1_10 : decode prog_33_method_6_code 10 = .ok (.goto 6, 3) := by decide +kernel
theorem d1_16 : decode prog_33_method_6_code 16 = .ok (.areturn, 1) := by decide +kernel
theorem d1_13 : decode prog_33_method_6_code 13 = .ok (.getstatic 3, 3) := by decide +kernel
theorem pn_com_example_pulsegate_pulsegate_SideOppositePinLaw : plainName "com/example/pulsegate/pulsegate/SideOppositePinLaw" = true := by first | (simp [plainName, overriddenIn]; done) | decide +kernel
theorem pd_0 : parseMethodDescriptor "()Lcom/example/pulsegate/pulsegate/Order$Side;" = some ⟨[], some (.object "com/example/pulsegate/pulsegate/Order$Side")⟩ := by decide +kernel
def Ctx (Z : State) (h : Heap) (a_BUY a_SELL : Addr) : Prop := Sta Z h "com/example/pulsegate/pulsegate/Order$Side" "BUY" "Lcom/example/pulsegate/pulsegate/Order$Side;" (.ref a_BUY) ∧ Sta Z h "com/example/pulsegate/pulsegate/Order$Side" "SELL" "Lcom/example/pulsegate/pulsegate/Order$Side;" (.ref a_SELL) ∧ Exa Z h a_BUY "com/example/pulsegate/pulsegate/Order$Side" ∧ Exa Z h a_SELL "com/example/pulsegate/pulsegate/Order$Side" ∧ Fld Z h a_SELL "java/lang/Enum" "ordinal" "I" (.int (1 : Int32)) ∧ Fld Z h a_BUY "java/lang/Enum" "ordinal" "I" (.int (0 : Int32)) ∧ ¬ a_BUY = a_SELL
theorem ef_oppa_BUY (m : MethodId) (x0 : Addr) : entryFrame m #[(.ref x0)] 1 = mkF m 0 #[.val (.ref x0)] [] := by first | (simp [entryFrame, mkF, argsToLocals, Value.category]; done) | rfl
set_option maxRecDepth 65536 in
set_option maxHeartbeats 40000000 in
theorem rm_oppa_BUY (l : Launch) (Z : State) (a0 : Array Value) (hw : ∀ d ∈ tables_1, d.before a0 Z = true)  (h0 : Heap) (a_BUY a_SELL : Addr) (hctx : Ctx Z h0 a_BUY a_SELL) :
    Ct l mn_1 prog_33_method_6_code 1 (some (.object "com/example/pulsegate/pulsegate/Order$Side")) ({ frames := 0, cells := 0, slots := 0, locals := 0 } : Room) Z h0 #[(.ref a_BUY)] (fun v h L => v = some (.ref a_SELL) ∧ L = [] ∧ h = h0) := by
  refine Ct.body (plainFor_of_name pn_com_example_pulsegate_pulsegate_Order_Side) ?_
  intro p e s m below meth c T0 hx hby hml hown hnm hret hlk hZ X0 e0
  obtain ⟨S_BUY, S_SELL, E_BUY, E_SELL, F_SELL_ordinal, F_BUY_ordinal, ne_BUY_SELL⟩ := hctx
  refine Go.cast (ef_oppa_BUY m a_BUY) ?_
  show Go p e below _ T0 (mkF m 0 #[.val (.ref a_BUY)] [])
  refine Go.s_aloadN X0 hx (hb hby d1_0) (q := 1) rfl rfl rfl ?_
  refine Go.getS X0 hx hZ hown (w_ hw 10 rfl) Via.refl e0 S_BUY (hb hby d1_1) ?_
  intro T1 X1 e1
  show Go p e below _ T1 (mkF m 4 #[.val (.ref a_BUY)] [(.ref a_BUY), (.ref a_BUY)])
  refine Go.s_acmp X1 hx (q := 7) (hb hby d1_4) rfl rfl (same := true) (decide_eq_true rfl) (by decide) (by decide) ?_
  refine Go.getS X1 hx hZ hown (w_ hw 11 rfl) Via.refl e1 S_SELL (hb hby d1_7) ?_
  intro T2 X2 e2
  show Go p e below _ T2 (mkF m 10 #[.val (.ref a_BUY)] [(.ref a_SELL)])
  refine Go.s_goto X2 hx (hb hby d1_10) (q := 16) (by decide) (by decide) ?_
  refine Go.retA X2 hx hlk hret rfl rfl (hb hby d1_16) (by decide) (by decide) ?_
  try rw [e2]
  exact ⟨rfl, rfl, rfl⟩
theorem ef_oppa_SELL (m : MethodId) (x0 : Addr) : entryFrame m #[(.ref x0)] 1 = mkF m 0 #[.val (.ref x0)] [] := by first | (simp [entryFrame, mkF, argsToLocals, Value.category]; done) | rfl
set_option maxRecDepth 65536 in
set_option maxHeartbeats 40000000 in
theorem rm_oppa_SELL (l : Launch) (Z : State) (a0 : Array Value) (hw : ∀ d ∈ tables_1, d.before a0 Z = true)  (h0 : Heap) (a_BUY a_SELL : Addr) (hctx : Ctx Z h0 a_BUY a_SELL) :
    Ct l mn_1 prog_33_method_6_code 1 (some (.object "com/example/pulsegate/pulsegate/Order$Side")) ({ frames := 0, cells := 0, slots := 0, locals := 0 } : Room) Z h0 #[(.ref a_SELL)] (fun v h L => v = some (.ref a_BUY) ∧ L = [] ∧ h = h0) := by
  refine Ct.body (plainFor_of_name pn_com_example_pulsegate_pulsegate_Order_Side) ?_
  intro p e s m below meth c T0 hx hby hml hown hnm hret hlk hZ X0 e0
  obtain ⟨S_BUY, S_SELL, E_BUY, E_SELL, F_SELL_ordinal, F_BUY_ordinal, ne_BUY_SELL⟩ := hctx
  refine Go.cast (ef_oppa_SELL m a_SELL) ?_
  show Go p e below _ T0 (mkF m 0 #[.val (.ref a_SELL)] [])
  refine Go.s_aloadN X0 hx (hb hby d1_0) (q := 1) rfl rfl rfl ?_
  refine Go.getS X0 hx hZ hown (w_ hw 10 rfl) Via.refl e0 S_BUY (hb hby d1_1) ?_
  intro T1 X1 e1
  show Go p e below _ T1 (mkF m 4 #[.val (.ref a_SELL)] [(.ref a_BUY), (.ref a_SELL)])
  refine Go.s_acmp X1 hx (q := 13) (hb hby d1_4) rfl rfl (same := false) (decide_eq_false fun q => ne_BUY_SELL (Value.ref.inj q).symm) (by decide) (by decide) ?_
  refine Go.getS X1 hx hZ hown (w_ hw 10 rfl) Via.refl e1 S_BUY (hb hby d1_13) ?_
  intro T2 X2 e2
  show Go p e below _ T2 (mkF m 16 #[.val (.ref a_SELL)] [(.ref a_BUY)])
  refine Go.retA X2 hx hlk hret rfl rfl (hb hby d1_16) (by decide) (by decide) ?_
  try rw [e2]
  exact ⟨rfl, rfl, rfl⟩
theorem ef_law (m : MethodId) (x0 : Int32) : entryFrame m #[(.int x0)] maxLocals = mkF m 0 #[.val (.int x0), .unset, .unset, .unset, .unset] [] := by first | (simp [entryFrame, mkF, argsToLocals, Value.category, maxLocals]; done) | rfl
set_option maxRecDepth 65536 in
set_option maxHeartbeats 40000000 in
theorem rm_law (l : Launch) (Z : State) (a0 : Array Value) (hw : ∀ d ∈ tables_1, d.before a0 Z = true) (x0 : Int32) (h0 : Heap) (a_BUY a_SELL : Addr) (hctx : Ctx Z h0 a_BUY a_SELL) :
    Ct l x code maxLocals ret room_1 Z h0 #[(.int x0)] (fun v h L => v = some (.int 1) ∧ L = []) := by
  refine Ct.body (plainFor_of_name pn_com_example_pulsegate_pulsegate_SideOppositePinLaw) ?_
  intro p e s m below meth c T0 hx hby hml hown hnm hret hlk hZ X0 e0
  have hctx' := hctx
  obtain ⟨S_BUY, S_SELL, E_BUY, E_SELL, F_SELL_ordinal, F_BUY_ordinal, ne_BUY_SELL⟩ := hctx
  refine Go.cast (ef_law m x0) ?_
  show Go p e below _ T0 (mkF m 0 #[.val (.int x0), .unset, .unset, .unset, .unset] [])
  refine Go.s_iloadN X0 hx (hb hby at_0) (q := 1) rfl rfl ?_
  refine Go.s_iconst X0 hx (hb hby at_1) (q := 2) rfl (z := 1) rfl ?_
  refine Go.s_iand X0 hx (hb hby at_2) (q := 3) rfl ?_
  by_cases c3_1 : (x0 &&& (1 : Int32)) = (0 : Int32)
  · -- pc 3: (x0 &&& (1 : Int32)) = (0 : Int32)
    refine Go.s_ifNo X0 hx (hb hby at_3) (q := 6) rfl ((if0 _ _).trans (teq c3_1).2) ?_
    refine Go.s_iconst X0 hx (hb hby at_6) (q := 7) rfl (z := 1) rfl ?_
    refine Go.s_goto X0 hx (hb hby at_7) (q := 11) (by decide) (by decide) ?_
    refine Go.s_istoreN X0 hx (hb hby at_11) (q := 12) rfl (l' := #[.val (.int x0), .val (.int (1 : Int32)), .unset, .unset, .unset]) rfl ?_
    refine Go.s_iloadN X0 hx (hb hby at_12) (q := 13) rfl rfl ?_
    refine Go.s_ifNo X0 hx (hb hby at_13) (q := 16) rfl ((if0 _ _).trans (feq (by decide : ¬ ((1 : Int32) = (0 : Int32)))).1) ?_
    refine Go.getS X0 hx hZ hown (w_ hw 0 rfl) Via.refl e0 S_BUY (hb hby at_16) ?_
    intro T2 X2 e2
    show Go p e below _ T2 (mkF m 19 #[.val (.int x0), .val (.int (1 : Int32)), .unset, .unset, .unset] [(.ref a_BUY)])
    refine Go.s_goto X2 hx (hb hby at_19) (q := 25) (by decide) (by decide) ?_
    refine Go.s_astoreN X2 hx (hb hby at_25) (q := 26) rfl rfl (l' := #[.val (.int x0), .val (.int (1 : Int32)), .val (.ref a_BUY), .unset, .unset]) rfl ?_
    refine Go.s_iloadN X2 hx (hb hby at_26) (q := 27) rfl rfl ?_
    refine Go.s_ifNo X2 hx (hb hby at_27) (q := 30) rfl ((if0 _ _).trans (feq (by decide : ¬ ((1 : Int32) = (0 : Int32)))).1) ?_
    refine Go.getS X2 hx hZ hown (w_ hw 3 rfl) Via.refl e2 S_SELL (hb hby at_30) ?_
    intro T3 X3 e3
    show Go p e below _ T3 (mkF m 33 #[.val (.int x0), .val (.int (1 : Int32)), .val (.ref a_BUY), .unset, .unset] [(.ref a_SELL)])
    refine Go.s_astoreN X3 hx (hb hby at_33) (q := 34) rfl rfl (l' := #[.val (.int x0), .val (.int (1 : Int32)), .val (.ref a_BUY), .val (.ref a_SELL), .unset]) rfl ?_
    refine Go.s_goto X3 hx (hb hby at_34) (q := 41) (by decide) (by decide) ?_
    refine Go.s_aloadN X3 hx (hb hby at_41) (q := 42) rfl rfl rfl ?_
    refine Go.callV (y := mn_1) (z := mn_1) X3 hx hZ hown (w_ hw 5 rfl) (w_ hw 6 rfl) (notFace_of_selects (args := #[]) (mvT hZ (w_ hw 8 rfl))) (w_ hw 8 rfl) (w_ hw 7 rfl) (w_ hw 9 rfl) (w_ hw 1 rfl) (by decide) e3 E_BUY (argsL := []) (rest := []) (rm_oppa_BUY l Z a0 hw _ a_BUY a_SELL hctx') (by rw [hml]; rfl) (lenOf pd_0 rfl) rfl (hb hby at_42) (by decide) (by decide) (by decide) (by decide) ?_
    intro r4 T4 L4 q4 X4
    obtain ⟨rfl, rfl, e4⟩ := q4
    rw [List.append_nil] at X4
    show Go p e below _ T4 (mkF m 45 #[.val (.int x0), .val (.int (1 : Int32)), .val (.ref a_BUY), .val (.ref a_SELL), .unset] [(.ref a_SELL)])
    refine Go.s_astore X4 hx (hb hby at_45) (q := 47) rfl rfl (l' := #[.val (.int x0), .val (.int (1 : Int32)), .val (.ref a_BUY), .val (.ref a_SELL), .val (.ref a_SELL)]) rfl ?_
    refine Go.s_aload X4 hx (hb hby at_47) (q := 49) rfl rfl rfl ?_
    refine Go.s_aloadN X4 hx (hb hby at_49) (q := 50) rfl rfl rfl ?_
    refine Go.s_acmp X4 hx (q := 53) (hb hby at_50) rfl rfl (same := true) (decide_eq_true rfl) (by decide) (by decide) ?_
    refine Go.s_aload X4 hx (hb hby at_53) (q := 55) rfl rfl rfl ?_
    refine Go.s_aloadN X4 hx (hb hby at_55) (q := 56) rfl rfl rfl ?_
    refine Go.s_acmp X4 hx (q := 59) (hb hby at_56) rfl rfl (same := false) (decide_eq_false fun q => ne_BUY_SELL (Value.ref.inj q).symm) (by decide) (by decide) ?_
    refine Go.s_aload X4 hx (hb hby at_59) (q := 61) rfl rfl rfl ?_
    refine Go.callV (y := mn_1) (z := mn_1) X4 hx hZ hown (w_ hw 5 rfl) (w_ hw 6 rfl) (notFace_of_selects (args := #[]) (mvT hZ (w_ hw 8 rfl))) (w_ hw 8 rfl) (w_ hw 7 rfl) (w_ hw 9 rfl) (w_ hw 1 rfl) (by decide) e4 E_SELL (argsL := []) (rest := []) (rm_oppa_SELL l Z a0 hw _ a_BUY a_SELL hctx') (by rw [hml]; rfl) (lenOf pd_0 rfl) rfl (hb hby at_61) (by decide) (by decide) (by decide) (by decide) ?_
    intro r5 T5 L5 q5 X5
    obtain ⟨rfl, rfl, e5⟩ := q5
    rw [List.append_nil] at X5
    show Go p e below _ T5 (mkF m 64 #[.val (.int x0), .val (.int (1 : Int32)), .val (.ref a_BUY), .val (.ref a_SELL), .val (.ref a_SELL)] [(.ref a_BUY)])
    refine Go.s_aloadN X5 hx (hb hby at_64) (q := 65) rfl rfl rfl ?_
    refine Go.s_acmp X5 hx (q := 68) (hb hby at_65) rfl rfl (same := true) (decide_eq_true rfl) (by decide) (by decide) ?_
    refine Go.s_iconst X5 hx (hb hby at_68) (q := 69) rfl (z := 1) rfl ?_
    refine Go.s_goto X5 hx (hb hby at_69) (q := 73) (by decide) (by decide) ?_
    refine Go.retN X5 hx hlk hret (by simp) (hb hby at_73) (by decide) (by decide) ?_
    try rw [e5]
    exact ⟨by decide, rfl⟩
  · -- pc 3: not (x0 &&& (1 : Int32)) = (0 : Int32)
    refine Go.s_ifYes X0 hx (hb hby at_3) (q := 10) (by decide) (by decide) ((if0 _ _).trans (feq c3_1).2) ?_
    refine Go.s_iconst X0 hx (hb hby at_10) (q := 11) rfl (z := 0) rfl ?_
    refine Go.s_istoreN X0 hx (hb hby at_11) (q := 12) rfl (l' := #[.val (.int x0), .val (.int (0 : Int32)), .unset, .unset, .unset]) rfl ?_
    refine Go.s_iloadN X0 hx (hb hby at_12) (q := 13) rfl rfl ?_
    refine Go.s_ifYes X0 hx (hb hby at_13) (q := 22) (by decide) (by decide) ((if0 _ _).trans (teq (by decide : (0 : Int32) = (0 : Int32))).1) ?_
    refine Go.getS X0 hx hZ hown (w_ hw 3 rfl) Via.refl e0 S_SELL (hb hby at_22) ?_
    intro T6 X6 e6
    show Go p e below _ T6 (mkF m 25 #[.val (.int x0), .val (.int (0 : Int32)), .unset, .unset, .unset] [(.ref a_SELL)])
    refine Go.s_astoreN X6 hx (hb hby at_25) (q := 26) rfl rfl (l' := #[.val (.int x0), .val (.int (0 : Int32)), .val (.ref a_SELL), .unset, .unset]) rfl ?_
    refine Go.s_iloadN X6 hx (hb hby at_26) (q := 27) rfl rfl ?_
    refine Go.s_ifYes X6 hx (hb hby at_27) (q := 37) (by decide) (by decide) ((if0 _ _).trans (teq (by decide : (0 : Int32) = (0 : Int32))).1) ?_
    refine Go.getS X6 hx hZ hown (w_ hw 0 rfl) Via.refl e6 S_BUY (hb hby at_37) ?_
    intro T7 X7 e7
    show Go p e below _ T7 (mkF m 40 #[.val (.int x0), .val (.int (0 : Int32)), .val (.ref a_SELL), .unset, .unset] [(.ref a_BUY)])
    refine Go.s_astoreN X7 hx (hb hby at_40) (q := 41) rfl rfl (l' := #[.val (.int x0), .val (.int (0 : Int32)), .val (.ref a_SELL), .val (.ref a_BUY), .unset]) rfl ?_
    refine Go.s_aloadN X7 hx (hb hby at_41) (q := 42) rfl rfl rfl ?_
    refine Go.callV (y := mn_1) (z := mn_1) X7 hx hZ hown (w_ hw 5 rfl) (w_ hw 6 rfl) (notFace_of_selects (args := #[]) (mvT hZ (w_ hw 8 rfl))) (w_ hw 8 rfl) (w_ hw 7 rfl) (w_ hw 9 rfl) (w_ hw 1 rfl) (by decide) e7 E_SELL (argsL := []) (rest := []) (rm_oppa_SELL l Z a0 hw _ a_BUY a_SELL hctx') (by rw [hml]; rfl) (lenOf pd_0 rfl) rfl (hb hby at_42) (by decide) (by decide) (by decide) (by decide) ?_
    intro r8 T8 L8 q8 X8
    obtain ⟨rfl, rfl, e8⟩ := q8
    rw [List.append_nil] at X8
    show Go p e below _ T8 (mkF m 45 #[.val (.int x0), .val (.int (0 : Int32)), .val (.ref a_SELL), .val (.ref a_BUY), .unset] [(.ref a_BUY)])
    refine Go.s_astore X8 hx (hb hby at_45) (q := 47) rfl rfl (l' := #[.val (.int x0), .val (.int (0 : Int32)), .val (.ref a_SELL), .val (.ref a_BUY), .val (.ref a_BUY)]) rfl ?_
    refine Go.s_aload X8 hx (hb hby at_47) (q := 49) rfl rfl rfl ?_
    refine Go.s_aloadN X8 hx (hb hby at_49) (q := 50) rfl rfl rfl ?_
    refine Go.s_acmp X8 hx (q := 53) (hb hby at_50) rfl rfl (same := true) (decide_eq_true rfl) (by decide) (by decide) ?_
    refine Go.s_aload X8 hx (hb hby at_53) (q := 55) rfl rfl rfl ?_
    refine Go.s_aloadN X8 hx (hb hby at_55) (q := 56) rfl rfl rfl ?_
    refine Go.s_acmp X8 hx (q := 59) (hb hby at_56) rfl rfl (same := false) (decide_eq_false fun q => ne_BUY_SELL (Value.ref.inj q)) (by decide) (by decide) ?_
    refine Go.s_aload X8 hx (hb hby at_59) (q := 61) rfl rfl rfl ?_
    refine Go.callV (y := mn_1) (z := mn_1) X8 hx hZ hown (w_ hw 5 rfl) (w_ hw 6 rfl) (notFace_of_selects (args := #[]) (mvT hZ (w_ hw 8 rfl))) (w_ hw 8 rfl) (w_ hw 7 rfl) (w_ hw 9 rfl) (w_ hw 1 rfl) (by decide) e8 E_BUY (argsL := []) (rest := []) (rm_oppa_BUY l Z a0 hw _ a_BUY a_SELL hctx') (by rw [hml]; rfl) (lenOf pd_0 rfl) rfl (hb hby at_61) (by decide) (by decide) (by decide) (by decide) ?_
    intro r9 T9 L9 q9 X9
    obtain ⟨rfl, rfl, e9⟩ := q9
    rw [List.append_nil] at X9
    show Go p e below _ T9 (mkF m 64 #[.val (.int x0), .val (.int (0 : Int32)), .val (.ref a_SELL), .val (.ref a_BUY), .val (.ref a_BUY)] [(.ref a_SELL)])
    refine Go.s_aloadN X9 hx (hb hby at_64) (q := 65) rfl rfl rfl ?_
    refine Go.s_acmp X9 hx (q := 68) (hb hby at_65) rfl rfl (same := true) (decide_eq_true rfl) (by decide) (by decide) ?_
    refine Go.s_iconst X9 hx (hb hby at_68) (q := 69) rfl (z := 1) rfl ?_
    refine Go.s_goto X9 hx (hb hby at_69) (q := 73) (by decide) (by decide) ?_
    refine Go.retN X9 hx hlk hret (by simp) (hb hby at_73) (by decide) (by decide) ?_
    try rw [e9]
    exact ⟨by decide, rfl⟩
set_option maxRecDepth 65536 in
set_option maxHeartbeats 40000000 in
theorem comes_1 {Post : Tables → Env → Array Value → State → Outcome → State → Prop} (hpost : ∀ tb e args s v u, (limb_1_1.after args s (.returned v) u = true ∧ limb_1_2.after args s (.returned v) u = true ∧ True) → FrameEnd s (.returned v) u (Jvm.fieldLocs frame_1_writes args s ++ Jvm.arrayLocs frame_1_arrays args s ++ Jvm.staticLocs frame_1_statics s) 0 0 → Post tb e args s (.returned v) u) :
    ArmFor flags0 classFile x code maxLocals ret World_1 tables_1 room_1 Calls_1 rest_1 Pre_1 Post := by
  intro l hfl _ _ p e ha hc hk s m args below hf hA hF happ hP
  obtain ⟨hcalls, hrest, hpre⟩ := hP
  obtain ⟨-, -, -, hnamed, -, -, -, hat⟩ := (Spec.applies_iff hf).mp happ
  obtain ⟨hg, hn⟩ := and_e (Cond.before_iff.mp (show (Jvm.Cond.and given_1 narrow_1).before args s = true from hpre))
  obtain ⟨hgl, hgr⟩ := and_e hg
  obtain ⟨w0, rfl⟩ : ∃ w0 : Value, args = #[w0] := by
    have hs : args.size = 1 := by simpa [Cond.value, given_1] using hgl
    obtain ⟨L⟩ := args
    match L, hs with
    | [w0], _ => exact ⟨w0, rfl⟩
  have hw := fun d (hd : d ∈ tables_1) => atoms_spec (ws := Jvm.Cond.code x code maxLocals ret :: tables_1) hat d (List.mem_cons_of_mem _ hd)
  obtain ⟨i0, ev0⟩ := is_v hgr
  obtain rfl : w0 = (.int i0) := Option.some.inj ev0
  obtain ⟨hnl, hnr⟩ := and_e hn
  obtain ⟨hnrl, hnrr⟩ := and_e hnr
  obtain ⟨hnrrl, hnrrr⟩ := and_e hnrr
  obtain ⟨a_BUY, ea_BUY⟩ := exa_v hnl
  have S_BUY := Sta.start ea_BUY (Or.inr ⟨(w_ hw 1 rfl), (w_ hw 2 rfl)⟩)
  have E_BUY := Exa.start ea_BUY hnl
  obtain ⟨a_SELL, ea_SELL⟩ := exa_v hnrl
  have S_SELL := Sta.start ea_SELL (Or.inr ⟨(w_ hw 1 rfl), (w_ hw 4 rfl)⟩)
  have E_SELL := Exa.start ea_SELL hnrl
  have F_SELL_ordinal := fldI ea_SELL hnrrl
  have F_BUY_ordinal := fldI ea_BUY hnrrr
  have ne_BUY_SELL : ¬ a_BUY = a_SELL := Fld.ne F_BUY_ordinal F_SELL_ordinal (fun q => absurd (Value.int.inj q) (by decide))
  have hctx : Ctx s s.heap a_BUY a_SELL := ⟨S_BUY, S_SELL, E_BUY, E_SELL, F_SELL_ordinal, F_BUY_ordinal, ne_BUY_SELL⟩
  obtain ⟨n, o, h1, h2, h3, _, L, rfl, ⟨rfl, rfl⟩, hq⟩ := rm_law l s _ hw i0 s.heap a_BUY a_SELL hctx tables_1 p e ha hc hk s m _ below hf ((Spec.applies_iff_loose hf).mp happ).1 ⟨rfl, State.Warmed39.refl s, rfl⟩ trivial
  refine ⟨n, _, h1, h2, h3, hpost _ _ _ _ _ _ ⟨Cond.after_iff.mpr rfl, Cond.after_iff.mpr (eq_i res_at (Term.int_eval (1)) rfl), trivial⟩ ⟨hq.1, hq.2.1, (hq.2.2.sift fun y hy => nomatch hy).mono (by decide) (by decide)⟩⟩
theorem main_1_1 : Claimed_1_1 := comes_1 fun _ _ _ _ _ _ h hF => ⟨h.1, hF⟩
theorem main_1_2 : Claimed_1_2 := comes_1 fun _ _ _ _ _ _ h hF => ⟨h.2.1, hF⟩
end Jvm.Pilot.@@N@@
namespace Jvm.Pilot.@@N@@
open Jvm Jvm.ClassFile Sem Op Lib Jvm.Free Jvm.Stand Jvm.Pilot.@@N@@.Jvm.D
/-! MADE BY PROGRAM (witnessworld.py) out of the Statement's table words and the real class files: 12 classes; the members and pool entries that the words name. The judged class is class 1, her method 1. -/
namespace start1
open Jvm.ClassFile
def u (s : String) : CpInfo := .utf8 (stringToUtf16 s)
/-- a pool by its gaps: so many unusable entries, then the entry; so many at the end -/
def gap : Nat → List CpInfo → List CpInfo
  | 0, r => r
  | n + 1, r => .unusable :: gap n r
def poolList (es : List (Nat × CpInfo)) (last : Nat) : List CpInfo := es.foldr (fun e r => gap e.1 (e.2 :: r)) (gap last [])
def pool (es : List (Nat × CpInfo)) (last : Nat) : Array CpInfo := ⟨poolList es last⟩
def fileOf (pool : Array CpInfo) (this : Nat) (attrs : Array Attribute := #[]) (ms : Array MethodInfo := #[]) (fl : Nat := 33) (sup : Nat := 0) (ifs : Array Nat := #[]) (fds : Array FieldInfo := #[]) : ClassFile where
  minorVersion := 0
  majorVersion := 65
  constantPool := pool
  accessFlags := fl
  thisClass := this
  superClass := sup
  interfaces := ifs
  fields := fds
  methods := ms
  attributes := attrs
def plain (name : String) (sup : Option ClassId) : Class where
  name := name
  kind := .ordinary
  loader := none
  accessFlags := 33
  super := sup
  interfaces := #[]
  cf := none
  fields := #[]
  methods := #[]
  instanceTypes := #[]
  staticTypes := #[]
  resolved := #[]
  callSites := []
  init := .initialized
  statics := none
  mirror := none

def pool0 : Array CpInfo := pool [(5, u "<init>"), (0, u "()V"), (1, .class_ 10), (1, u "java/lang/Object")] 113

def k0m0 : Method := { name := "<init>", desc := "()V", sig := { parameters := [], returnType := none }, accessFlags := 1, code := none }
/-- java/lang/Object -/
def k0 : Class := { plain "java/lang/Object" none with
  accessFlags := 33
  interfaces := #[]
  cf := some (fileOf pool0 8 #[] #[{ accessFlags := 1, nameIndex := 5, descriptorIndex := 6, attributes := #[] }] 33 0 #[] #[])
  fields := #[]
  methods := #[k0m0]
  instanceTypes := #[]
  staticTypes := #[]
  resolved := Array.replicate 124 none
  statics := none }

def pool1 : Array CpInfo := pool [(2, .class_ 4), (1, u "java/lang/Object"), (0, u "<init>"), (0, u "()V"), (0, .fieldref 8 9), (0, .class_ 10), (0, .nameAndType 11 12), (0, u "com/example/pulsegate/pulsegate/Order$Side"), (0, u "BUY"), (0, u "Lcom/example/pulsegate/pulsegate/Order$Side;"), (0, .fieldref 8 14), (0, .nameAndType 15 12), (0, u "SELL"), (0, .methodref 8 17), (0, .nameAndType 18 19), (0, u "opposite"), (0, u "()Lcom/example/pulsegate/pulsegate/Order$Side;"), (0, .class_ 21), (0, u "com/example/pulsegate/pulsegate/SideOppositePinLaw"), (2, u "law"), (0, u "(I)Z")] 7

def k1m0 : Method := { name := "<init>", desc := "()V", sig := { parameters := [], returnType := none }, accessFlags := 1, code := none }
def k1c1 : Code := { maxStack := 2, maxLocals := 5, code := code, exceptionTable := #[], attributes := #[] }
def k1m1 : Method := { name := "law", desc := "(I)Z", sig := { parameters := [.int], returnType := some .boolean }, accessFlags := 9, code := some k1c1 }
/-- com/example/pulsegate/pulsegate/SideOppositePinLaw -/
def k1 : Class := { plain "com/example/pulsegate/pulsegate/SideOppositePinLaw" (some 0) with
  accessFlags := 49
  interfaces := #[]
  cf := some (fileOf pool1 20 #[] #[{ accessFlags := 1, nameIndex := 5, descriptorIndex := 6, attributes := #[] }, { accessFlags := 9, nameIndex := 24, descriptorIndex := 25, attributes := #[] }] 49 2 #[] #[])
  fields := #[]
  methods := #[k1m0, k1m1]
  instanceTypes := #[]
  staticTypes := #[]
  resolved := Array.replicate 33 none
  statics := none }

def pool2 : Array CpInfo := pool [(1, .class_ 2), (0, u "java/lang/constant/Constable"), (0, .class_ 4), (0, u "java/lang/Object")] 6

/-- java/lang/constant/Constable -/
def k2 : Class := { plain "java/lang/constant/Constable" (some 0) with
  accessFlags := 1537
  interfaces := #[]
  cf := some (fileOf pool2 1 #[] #[] 1537 3 #[] #[])
  fields := #[]
  methods := #[]
  instanceTypes := #[]
  staticTypes := #[]
  resolved := Array.replicate 11 none
  statics := none }

def pool3 : Array CpInfo := pool [(1, .class_ 2), (0, u "java/lang/Comparable"), (0, .class_ 4), (0, u "java/lang/Object")] 7

/-- java/lang/Comparable -/
def k3 : Class := { plain "java/lang/Comparable" (some 0) with
  accessFlags := 1537
  interfaces := #[]
  cf := some (fileOf pool3 1 #[] #[] 1537 3 #[] #[])
  fields := #[]
  methods := #[]
  instanceTypes := #[]
  staticTypes := #[]
  resolved := Array.replicate 12 none
  statics := none }

def pool4 : Array CpInfo := pool [(1, .class_ 2), (0, u "java/io/Serializable"), (0, .class_ 4), (0, u "java/lang/Object")] 2

/-- java/io/Serializable -/
def k4 : Class := { plain "java/io/Serializable" (some 0) with
  accessFlags := 1537
  interfaces := #[]
  cf := some (fileOf pool4 1 #[] #[] 1537 3 #[] #[])
  fields := #[]
  methods := #[]
  instanceTypes := #[]
  staticTypes := #[]
  resolved := Array.replicate 7 none
  statics := none }

def pool5 : Array CpInfo := pool [(2, .class_ 4), (1, u "java/lang/Enum"), (0, u "name"), (0, u "Ljava/lang/String;"), (2, u "ordinal"), (0, u "I"), (1, .class_ 14), (1, u "java/lang/Object"), (4, u "hash"), (86, .class_ 108), (1, u "java/lang/Enum$EnumDesc"), (2, .class_ 112), (0, u "java/lang/constant/Constable"), (0, .class_ 114), (0, u "java/lang/Comparable"), (0, .class_ 116), (0, u "java/io/Serializable")] 87

/-- java/lang/Enum -/
def k5 : Class := { plain "java/lang/Enum" (some 0) with
  accessFlags := 1057
  interfaces := #[2, 3, 4]
  cf := some (fileOf pool5 2 #[.nestMembers #[106]] #[] 1057 12 #[111, 113, 115] #[{ accessFlags := 18, nameIndex := 5, descriptorIndex := 6, attributes := #[] }, { accessFlags := 18, nameIndex := 9, descriptorIndex := 10, attributes := #[] }, { accessFlags := 2, nameIndex := 19, descriptorIndex := 10, attributes := #[] }])
  fields := #[{ name := "name", type := (.object "java/lang/String"), accessFlags := 18, slot := 0, constantValue := 0 }, { name := "ordinal", type := .int, accessFlags := 18, slot := 1, constantValue := 0 }, { name := "hash", type := .int, accessFlags := 2, slot := 2, constantValue := 0 }]
  methods := #[]
  instanceTypes := #[(.object "java/lang/String"), .int, .int]
  staticTypes := #[]
  resolved := Array.replicate 204 none
  statics := none }

def pool6 : Array CpInfo := pool [(1, .class_ 2), (0, u "com/example/pulsegate/pulsegate/Order$Side"), (0, .fieldref 1 4), (0, .nameAndType 5 6), (0, u "BUY"), (0, u "Lcom/example/pulsegate/pulsegate/Order$Side;"), (0, .fieldref 1 8), (0, .nameAndType 9 6), (0, u "SELL"), (2, u "$VALUES"), (0, u "[Lcom/example/pulsegate/pulsegate/Order$Side;"), (6, .class_ 22), (1, u "java/lang/Enum"), (8, u "code"), (0, u "Ljava/lang/String;"), (2, u "fixCode"), (25, u "opposite"), (0, u "()Lcom/example/pulsegate/pulsegate/Order$Side;"), (7, .class_ 71), (0, u "com/example/pulsegate/pulsegate/Order")] 2

def k6c0 : Code := { maxStack := 2, maxLocals := 1, code := prog_33_method_6_code, exceptionTable := #[], attributes := #[] }
def k6m0 : Method := { name := "opposite", desc := "()Lcom/example/pulsegate/pulsegate/Order$Side;", sig := { parameters := [], returnType := some (.object "com/example/pulsegate/pulsegate/Order$Side") }, accessFlags := 0, code := some k6c0 }
/-- com/example/pulsegate/pulsegate/Order$Side -/
def k6 : Class := { plain "com/example/pulsegate/pulsegate/Order$Side" (some 5) with
  accessFlags := 16432
  interfaces := #[]
  cf := some (fileOf pool6 1 #[.nestHost 70] #[{ accessFlags := 0, nameIndex := 61, descriptorIndex := 62, attributes := #[] }] 16432 20 #[] #[{ accessFlags := 16409, nameIndex := 5, descriptorIndex := 6, attributes := #[] }, { accessFlags := 16409, nameIndex := 9, descriptorIndex := 6, attributes := #[] }, { accessFlags := 18, nameIndex := 31, descriptorIndex := 32, attributes := #[] }, { accessFlags := 18, nameIndex := 35, descriptorIndex := 32, attributes := #[] }, { accessFlags := 4122, nameIndex := 12, descriptorIndex := 13, attributes := #[] }])
  fields := #[{ name := "BUY", type := (.object "com/example/pulsegate/pulsegate/Order$Side"), accessFlags := 16409, slot := 0, constantValue := 0 }, { name := "SELL", type := (.object "com/example/pulsegate/pulsegate/Order$Side"), accessFlags := 16409, slot := 1, constantValue := 0 }, { name := "code", type := (.object "java/lang/String"), accessFlags := 18, slot := 3, constantValue := 0 }, { name := "fixCode", type := (.object "java/lang/String"), accessFlags := 18, slot := 4, constantValue := 0 }, { name := "$VALUES", type := (.array (.object "com/example/pulsegate/pulsegate/Order$Side")), accessFlags := 4122, slot := 2, constantValue := 0 }]
  methods := #[k6m0]
  instanceTypes := #[(.object "java/lang/String"), .int, .int, (.object "java/lang/String"), (.object "java/lang/String")]
  staticTypes := #[(.object "com/example/pulsegate/pulsegate/Order$Side"), (.object "com/example/pulsegate/pulsegate/Order$Side"), (.array (.object "com/example/pulsegate/pulsegate/Order$Side"))]
  resolved := Array.replicate 74 none
  statics := some 0 }

def pool7 : Array CpInfo := pool [(1, u "java/lang/Cloneable"), (0, .class_ 1), (0, u "java/lang/Object"), (0, .class_ 3)] 3

/-- java/lang/Cloneable -/
def k7 : Class := { plain "java/lang/Cloneable" (some 0) with
  accessFlags := 1537
  interfaces := #[]
  cf := some (fileOf pool7 2 #[] #[] 1537 4 #[] #[])
  fields := #[]
  methods := #[]
  instanceTypes := #[]
  staticTypes := #[]
  resolved := Array.replicate 8 none
  statics := none }

/-- the primitive byte -/
def k8 : Class := { plain "byte" none with kind := .primitive 'B', accessFlags := 0x411 }
/-- [B -/
def k9 : Class := { plain "[B" (some 0) with kind := .array 8 .byte, interfaces := #[7, 4], accessFlags := 1041 }

/-- the primitive int -/
def k10 : Class := { plain "int" none with kind := .primitive 'I', accessFlags := 0x411 }
/-- [I -/
def k11 : Class := { plain "[I" (some 0) with kind := .array 10 .int, interfaces := #[7, 4], accessFlags := 1041 }

def heap : Heap := #[{ cls := 6, slots := #[.ref 1, .ref 2, .null], vm := .statics 6 },
  { cls := 6, slots := #[.null, .int 0, .int 0, .null, .null], vm := .none },
  { cls := 6, slots := #[.null, .int 1, .int 0, .null, .null], vm := .none }]
def classes : Array Class := #[k0, k1, k2, k3, k4, k5, k6, k7, k8, k9, k10, k11]
def interned : List (Array UInt16 × Addr) := []
def slotsUsed : Nat := 13
def theMethod : MethodId := ⟨1, 1⟩
def args0 : Array Value := #[.int 5]
def aboutOver (below : List Frame) : State where
  vm := { classes := classes, interned := interned.toArray }
  heap := heap
  slotsUsed := slotsUsed
  threads := #[{ frames := .invoking theMethod args0 :: below }]
def below0 : List Frame := [.native { method := ⟨0, 0⟩, args := #[] }]
def about1 : State := aboutOver below0
def p0 : Program := .bare "" "" ""
def e0 : Env := launch0.env 0 0 0
theorem w_frames : about1.frames = Frame.invoking theMethod args0 :: below0 := rfl
set_option maxRecDepth 65536 in
theorem w_args : argsFit about1.vm theMethod args0 = true := by decide +kernel
set_option maxRecDepth 65536 in
theorem w_heap : heapFits about1 = true := by decide +kernel
set_option maxRecDepth 65536 in
theorem w_runnable : about1.curStatus? = some .runnable := by decide +kernel
set_option maxRecDepth 65536 in
theorem w_alone : about1.alone = true := by decide +kernel
set_option maxRecDepth 65536 in
theorem w_named : about1.methodNamed? x = some theMethod := by decide +kernel
set_option maxRecDepth 65536 in
theorem w_hears : about1.hears theMethod below0 = true := by decide +kernel
set_option maxRecDepth 65536 in
theorem w_ripe : about1.ripe theMethod args0 below0 = true := by decide +kernel
theorem w_running : about1.status = .running := rfl
set_option maxRecDepth 65536 in
theorem w_room : about1.hasRoom e0.platform room_1 = true :=
  launch0.hasRoom_least _ room_1 (by decide +kernel) (by decide +kernel) (by decide +kernel) (by decide +kernel) (by decide +kernel) (by decide +kernel)
theorem allAtoms_all (ts : List Jvm.Cond) (a : Array Jvm.Value) (st : Jvm.State) : (allAtoms ts).before a st = ts.all (fun c => c.before a st) := by
  induction ts with
  | nil => rfl
  | cons c t ih =>
    show (Jvm.Cond.and c (allAtoms t)).before a st = _
    rw [Jvm.Cond.before_and, ih, List.all_cons]
def words1 : List Jvm.Cond := Jvm.Cond.code x code maxLocals ret :: tables_1
/-- a 'code' word, met by the world's own term for the bytes: nothing is compared byte by byte -/
theorem code_word {y : MethodName} {bytes : ByteArray} {mx : Nat} {rt : Option FieldType} {a : Array Value} {s : State} {m : MethodId} {meth : Method} {c : Code} (h1 : s.methodNamed? y = some m) (h2 : s.vm.method? m = some meth) (h3 : meth.code = some c) (h4 : c.code = bytes)
    (h5 : (c.maxLocals == mx && c.exceptionTable.isEmpty && decide (c.maxStack ≤ mostOperands) && decide (meth.sig.returnType = rt) && !meth.locks && decide (parseMethodDescriptor y.desc = some meth.sig)) = true) : (Jvm.Cond.code y bytes mx rt).before a s = true := by
  simp only [Bool.and_eq_true, beq_iff_eq, Bool.not_eq_true', decide_eq_true_eq] at h5
  obtain ⟨⟨⟨⟨⟨g1, g2⟩, g3⟩, g4⟩, g5⟩, g6⟩ := h5
  simp [Cond.before, Cond.holds, Cond.value, h1, h2, h3, h4, g1, g2, g3, g4, g5, g6]
def isCode : Jvm.Cond → Bool
  | .code _ _ _ _ => true
  | _ => false
theorem all_split {L : List Jvm.Cond} {P : Jvm.Cond → Bool} (h1 : L.all (fun c => isCode c || P c) = true) (h2 : ∀ c ∈ L.filter isCode, P c = true) : L.all P = true := by
  refine List.all_eq_true.mpr fun c hc => ?_
  have h := List.all_eq_true.mp h1 c hc
  rcases Bool.eq_false_or_eq_true (isCode c) with hi | hi
  · exact h2 c (List.mem_filter.mpr ⟨hc, hi⟩)
  · simpa [hi] using h
set_option maxRecDepth 65536 in
theorem w_c0 : (Jvm.Cond.code x code maxLocals ret).before args0 about1 = true := code_word (m := ⟨1, 1⟩) (meth := k1m1) (c := k1c1) (by decide +kernel) rfl rfl rfl (by decide +kernel)
set_option maxRecDepth 65536 in
theorem w_c1 : (Jvm.Cond.code ({ cls := "com/example/pulsegate/pulsegate/Order$Side", name := "opposite", desc := "()Lcom/example/pulsegate/pulsegate/Order$Side;" } : Jvm.MethodName) prog_33_method_6_code (1 : Nat) (Option.some (Jvm.ClassFile.FieldType.object "com/example/pulsegate/pulsegate/Order$Side"))).before args0 about1 = true := code_word (m := ⟨6, 0⟩) (meth := k6m0) (c := k6c0) (by decide +kernel) rfl rfl rfl (by decide +kernel)
def codes1 : List Jvm.Cond := [Jvm.Cond.code x code maxLocals ret, Jvm.Cond.code ({ cls := "com/example/pulsegate/pulsegate/Order$Side", name := "opposite", desc := "()Lcom/example/pulsegate/pulsegate/Order$Side;" } : Jvm.MethodName) prog_33_method_6_code (1 : Nat) (Option.some (Jvm.ClassFile.FieldType.object "com/example/pulsegate/pulsegate/Order$Side"))]
set_option maxRecDepth 65536 in
theorem codes_eq : words1.filter isCode = codes1 := rfl
theorem w_codes : ∀ c ∈ words1.filter isCode, c.before args0 about1 = true := by
  rw [codes_eq]
  intro c hc
  simp only [codes1, List.mem_cons, List.not_mem_nil, or_false] at hc
  rcases hc with rfl | rfl
  · exact w_c0
  · exact w_c1
set_option maxRecDepth 65536 in
theorem w_t1 : words1.all (fun c => isCode c || c.before args0 about1) = true := by decide +kernel
theorem w_tables : (allAtoms (Jvm.Cond.code x code maxLocals ret :: tables_1)).before args0 about1 = true := by
  rw [allAtoms_all]
  show words1.all (fun c => c.before args0 about1) = true
  refine all_split ?_ w_codes
  rw [w_t1]
set_option maxRecDepth 65536 in
theorem w_case : (Jvm.Cond.and given_1 narrow_1).before args0 about1 = true := by decide +kernel
theorem w_applies : (headSpec (Jvm.Cond.code x code maxLocals ret :: tables_1) room_1).applies x e0.platform about1 = true :=
  (Spec.applies_iff w_frames).mpr ⟨w_running, w_runnable, w_alone, w_named, w_hears, w_ripe, w_room, w_tables⟩
theorem atStart : AtStart classFile x code maxLocals ret World_1 tables_1 room_1 Calls_1 rest_1 Pre_1 launch0 p0 e0 about1 theMethod args0 below0 :=
  ⟨lists_1, trivial, launch0.admits_env _ _ _, launch0.least_env, fairChoices_fair.cas, fairChoices_fair.clock, w_frames, w_args, w_heap, w_applies, trivial, trivial, w_case⟩
end start1
theorem witness_1 : WitnessClaimed_1 := ⟨start1.p0, start1.e0, start1.about1, start1.theMethod, start1.args0, start1.below0, start1.atStart⟩
end Jvm.Pilot.@@N@@
