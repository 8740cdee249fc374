import JvmDerived
import JvmDerived.Pilot.@@N@@Statement
import JvmDerived.Pilot.@@N@@Code
set_option linter.unusedVariables false
set_option linter.unusedSimpArgs false
/- laws to paste: Road.backV, Road.lenW, Road.chN, Road.eqW, Road.codOf (cut by pick.py; bodies as the Statement names them) -/
namespace Jvm.Pilot.@@N@@
namespace StrChars
open Jvm Sem ClassFile Op Lib Jvm.Stand Jvm.Free.XT Jvm.Free.ALB Jvm.Free.JM Jvm.Free
open Jvm.Lib.Cold (StaticIs)
/-- a char array whose places are chars -/
def Ch (a : Addr) (A : Cell) (U : State) : Prop := Arr .char a A U ∧ Typed .char A
theorem Ch.mv {a : Addr} {A : Cell} {U U' : State} (h : Ch a A U) (hal : U.vm.Alike U'.vm) (hh : U'.heap = U.heap) : Ch a A U' := ⟨h.1.mv hal hh, h.2⟩
theorem Ch.keep {a : Addr} {A : Cell} {U U' : State} (h : Ch a A U) (hal : U.vm.Alike U'.vm) (hk : U'.heap[a]? = some A) : Ch a A U' := ⟨h.1.keep hal hk, h.2⟩
/-- what place i of a char[]'s cell holds -/
def cv (A : Cell) (i : Nat) : Int32 := match A.slots[i]? with | some (.int x) => x | _ => 0
theorem Ch.get {a : Addr} {A : Cell} {U : State} (h : Ch a A U) {i : Nat} (hi : i < A.slots.size) : A.slots[i]? = some (.int (cv A i)) := by
  have e := Array.getElem?_eq_getElem hi
  have f := h.2 i _ e
  unfold cv; rw [e]
  generalize A.slots[i] = v at f
  cases v <;> simp [fits] at f ⊢
/-- the byte that i2b leaves of a char -/
def lo8 (x : Int32) : Int32 := x.toInt8.toInt32
theorem fits_lo8 (y : Int32) : fits .byte (.int (lo8 y)) = true := by
  have h1 := y.toInt8.le_toInt
  have h2 := y.toInt8.toInt_lt
  simp only [lo8, fits, Bool.and_eq_true, decide_eq_true_eq, Int32.le_iff_toInt_le, Int8.toInt_toInt32, show (-128 : Int32).toInt = -128 from by decide, show (127 : Int32).toInt = 127 from by decide]
  omega
/-- A' is A but that each place j of lo .. hi - 1 holds f j -/
def Laid (A A' : Cell) (lo hi : Nat) (f : Nat → Value) : Prop := A'.cls = A.cls ∧ A'.vm = A.vm ∧ A'.slots.size = A.slots.size ∧ ∀ i, A'.slots[i]? = if lo ≤ i ∧ i < hi then some (f i) else A.slots[i]?
theorem Laid.zero (A : Cell) (lo : Nat) (f : Nat → Value) : Laid A A lo (lo + 0) f := ⟨rfl, rfl, rfl, fun i => by rw [if_neg (by omega)]⟩
theorem Laid.step {A Ak : Cell} {lo k : Nat} {f : Nat → Value} {v : Value} (h : Laid A Ak lo k f) (hlo : lo ≤ k) (hk : k < Ak.slots.size) (hv : v = f k) : Laid A (Ak.setSlot k v) lo (k + 1) f := by
  refine ⟨h.1, h.2.1, by simpa [Cell.setSlot] using h.2.2.1, fun i => ?_⟩
  by_cases e : k = i
  · subst e; rw [Cell.slots_setSlot_self v hk, if_pos (by omega), hv]
  · rw [Cell.slots_setSlot_ne v e, h.2.2.2 i]
    by_cases q : lo ≤ i ∧ i < k
    · rw [if_pos q, if_pos (by omega)]
    · rw [if_neg q, if_neg (by omega)]
def U16 : String := "java/lang/StringUTF16"
namespace Cmp5
def yN : MethodName := ⟨"java/lang/StringUTF16", "compress", "([CI[BII)I"⟩
abbrev yB : ByteArray := jdk_52_method_21_code
theorem d0 : decode yB 0 = .ok (.iconst 0, 1) := by decide +kernel
theorem d1 : decode yB 1 = .ok (.istore 5, 2) := by decide +kernel
theorem d3 : decode yB 3 = .ok (.iload 5, 2) := by decide +kernel
theorem d5 : decode yB 5 = .ok (.iload 4, 2) := by decide +kernel
theorem d7 : decode yB 7 = .ok (.if_icmp (.ge) 37, 3) := by decide +kernel
theorem d10 : decode yB 10 = .ok (.aload_n 0, 1) := by decide +kernel
theorem d11 : decode yB 11 = .ok (.iload_n 1, 1) := by decide +kernel
theorem d12 : decode yB 12 = .ok (.caload, 1) := by decide +kernel
theorem d13 : decode yB 13 = .ok (.istore 6, 2) := by decide +kernel
theorem d15 : decode yB 15 = .ok (.iload 6, 2) := by decide +kernel
theorem d17 : decode yB 17 = .ok (.sipush 255, 3) := by decide +kernel
theorem d20 : decode yB 20 = .ok (.if_icmp (.le) 6, 3) := by decide +kernel
theorem d26 : decode yB 26 = .ok (.aload_n 2, 1) := by decide +kernel
theorem d27 : decode yB 27 = .ok (.iload_n 3, 1) := by decide +kernel
theorem d28 : decode yB 28 = .ok (.iload 6, 2) := by decide +kernel
theorem d30 : decode yB 30 = .ok (.i2b, 1) := by decide +kernel
theorem d31 : decode yB 31 = .ok (.bastore, 1) := by decide +kernel
theorem d32 : decode yB 32 = .ok (.iinc 1 1, 3) := by decide +kernel
theorem d35 : decode yB 35 = .ok (.iinc 3 1, 3) := by decide +kernel
theorem d38 : decode yB 38 = .ok (.iinc 5 1, 3) := by decide +kernel
theorem d41 : decode yB 41 = .ok (.goto (-38), 3) := by decide +kernel
theorem d44 : decode yB 44 = .ok (.iload 4, 2) := by decide +kernel
theorem d46 : decode yB 46 = .ok (.ireturn, 1) := by decide +kernel
def site : List Cond := []
def tab : Cond := tabOf yN yB 7 (some .int) site
def P (b : Addr) (A : Cell) (d : Addr) (B : Cell) (o q len : Nat) (args : Array Value) (s : State) : Prop := args = #[.ref b, .int (Int32.ofNat o), .ref d, .int (Int32.ofNat q), .int (Int32.ofNat len)] ∧ Ch b A s ∧ Arr .byte d B s ∧ b ≠ d ∧ o + len ≤ A.slots.size ∧ q + len ≤ B.slots.size ∧ ∀ i, i < len → ¬ 255 < cv A (o + i)
def E (b : Addr) (A : Cell) (d : Addr) (B : Cell) (o q len : Nat) (r : Option Value) (s u : State) : Prop := r = some (.int (Int32.ofNat len)) ∧ ∃ B', Put d B' s u ∧ Laid B B' q (q + len) (fun j => Value.int (lo8 (cv A (o + (j - q)))))
/-- no char of the range above 255: len; the places written hold each char's low byte -/
theorem law (l : Launch) (b : Addr) (A : Cell) (d : Addr) (B : Cell) (o q len : Nat) : Law l yN 5 5 0 0 yB 7 (some .int) site (P b A d B o q len) (E b A d B o q len) (copyLocs d q len) 0 0 := by
  refine Law.of_walk (plainFor_of_name (by decide +kernel)) (by decide +kernel) (by decide +kernel) (by decide) (fun _ _ h => by rw [h.1]; rfl) (fun _ U U' hal hh h => ⟨h.1, h.2.1.mv hal hh, h.2.2.1.mv hal hh, h.2.2.2⟩) (fun r U U' V V' h1 hal h2 h => ⟨h.1, h.2.elim fun B' q => ⟨B', q.1.mv h1 h2, q.2⟩⟩) ?_
  intro p e s m args below meth c s₁ X0 hexec hbytes hml hret hlk hnm hown hh0 W hP
  obtain ⟨rfl, hA, hB, hne, l1, l2, hp⟩ := hP
  have c1 : Steps p.tables e below (s₁.setTop (entryFrame m #[.ref b, .int (Int32.ofNat o), .ref d, .int (Int32.ofNat q), .int (Int32.ofNat len)] 7)) (s₁.setTop (mkF m 0 #[.val (.ref b), .val (.int (Int32.ofNat o)), .val (.ref d), .val (.int (Int32.ofNat q)), .val (.int (Int32.ofNat len)), .unset, .unset] [])) := entry rfl
  have hA0 := hA.1.mv X0.warmed.alike hh0
  have hB0 := hB.mv X0.warmed.alike hh0
  have a31 := hA.1.2.2.2
  have c2 : Steps p.tables e below (s₁.setTop (entryFrame m #[.ref b, .int (Int32.ofNat o), .ref d, .int (Int32.ofNat q), .int (Int32.ofNat len)] 7)) (s₁.setTop (mkF m 3 #[.val (.ref b), .val (.int (Int32.ofNat o)), .val (.ref d), .val (.int (Int32.ofNat q)), .val (.int (Int32.ofNat len)), .val (.int 0), .unset] [])) := c1.trans (by
    refine iconstV X0.here hexec rfl 0 (hb hbytes d0) (by decide) ?_
    refine XS.istore X0.here hexec rfl (hb hbytes d1) rfl rfl ?_
    exact Steps.refl _)
  have loop : ∀ (r i : Nat), i + r = len → ∀ (z : Slot), (z = .unset ∨ ∃ w, z = .val w ∧ w.category = 1) → ∀ (Tl : State) (Bk : Cell), Stand p l e { frames := 0, locals := 0, cells := 0, slots := 0 } s m #[.ref b, .int (Int32.ofNat o), .ref d, .int (Int32.ofNat q), .int (Int32.ofNat len)] below meth c Tl ([] ++ copyLocs d q i) 0 0 → Put d Bk s₁ Tl → Laid B Bk q (q + i) (fun j => Value.int (lo8 (cv A (o + (j - q))))) →
      Steps p.tables e below (s₁.setTop (entryFrame m #[.ref b, .int (Int32.ofNat o), .ref d, .int (Int32.ofNat q), .int (Int32.ofNat len)] 7)) (Tl.setTop (mkF m 3 #[.val (.ref b), .val (.int (Int32.ofNat (o + i))), .val (.ref d), .val (.int (Int32.ofNat (q + i))), .val (.int (Int32.ofNat len)), .val (.int (Int32.ofNat i)), z] [])) → ∃ (T' : State) (B' : Cell) (z' : Slot), Stand p l e { frames := 0, locals := 0, cells := 0, slots := 0 } s m #[.ref b, .int (Int32.ofNat o), .ref d, .int (Int32.ofNat q), .int (Int32.ofNat len)] below meth c T' ([] ++ copyLocs d q len) 0 0 ∧ Put d B' s₁ T' ∧ Laid B B' q (q + len) (fun j => Value.int (lo8 (cv A (o + (j - q))))) ∧
      Steps p.tables e below (s₁.setTop (entryFrame m #[.ref b, .int (Int32.ofNat o), .ref d, .int (Int32.ofNat q), .int (Int32.ofNat len)] 7)) (T'.setTop (mkF m 3 #[.val (.ref b), .val (.int (Int32.ofNat (o + len))), .val (.ref d), .val (.int (Int32.ofNat (q + len))), .val (.int (Int32.ofNat len)), .val (.int (Int32.ofNat len)), z'] [])) := by
    intro r
    induction r with
    | zero =>
      intro i hi z hz Tl Bk Xl pl fl cl
      have hil : i = len := by omega
      rw [hil] at Xl fl cl
      exact ⟨Tl, Bk, z, Xl, pl, fl, cl⟩
    | succ r ih =>
      intro i hi z hz Tl Bk Xl pl fl cl
      have all := X0.warmed.alike.symm.trans Xl.warmed.alike
      have hAl := hA0.keep all (pl.other hne hA0.1)
      have hBk := hB0.like all pl.1 fl.1 fl.2.1 fl.2.2.1
      have hlt : q + i < Bk.slots.size := by rw [fl.2.2.1]; omega
      have c3 : Steps p.tables e below (s₁.setTop (entryFrame m #[.ref b, .int (Int32.ofNat o), .ref d, .int (Int32.ofNat q), .int (Int32.ofNat len)] 7)) (Tl.setTop (mkF m 12 #[.val (.ref b), .val (.int (Int32.ofNat (o + i))), .val (.ref d), .val (.int (Int32.ofNat (q + i))), .val (.int (Int32.ofNat len)), .val (.int (Int32.ofNat i)), z] [.int (Int32.ofNat (o + i)), .ref b])) := cl.trans (by
        refine XS.iload Xl.here hexec rfl (hb hbytes d3) rfl ?_
        refine XS.iload Xl.here hexec rfl (hb hbytes d5) rfl ?_
        refine XS.icmpNo Xl.here hexec rfl (hb hbytes d7) rfl (ii_ge_f (lt32 (by omega) (by omega))) ?_
        refine XS.aloadN Xl.here hexec rfl (hb hbytes d10) rfl rfl ?_
        refine XS.iloadN Xl.here hexec rfl (hb hbytes d11) rfl ?_
        exact Steps.refl _)
      have c4 : Steps p.tables e below (s₁.setTop (entryFrame m #[.ref b, .int (Int32.ofNat o), .ref d, .int (Int32.ofNat q), .int (Int32.ofNat len)] 7)) (Tl.setTop (mkF m 13 #[.val (.ref b), .val (.int (Int32.ofNat (o + i))), .val (.ref d), .val (.int (Int32.ofNat (q + i))), .val (.int (Int32.ofNat len)), .val (.int (Int32.ofNat i)), z] [.int (cv A (o + i))])) := c3.trans (by
        refine Xl.aget hexec hAl rfl (hA.get (i := o + i) (by omega)) rfl rfl (hb hbytes d12) ?_
        exact Steps.refl _)
      have c5 : Steps p.tables e below (s₁.setTop (entryFrame m #[.ref b, .int (Int32.ofNat o), .ref d, .int (Int32.ofNat q), .int (Int32.ofNat len)] 7)) (Tl.setTop (mkF m 15 #[.val (.ref b), .val (.int (Int32.ofNat (o + i))), .val (.ref d), .val (.int (Int32.ofNat (q + i))), .val (.int (Int32.ofNat len)), .val (.int (Int32.ofNat i)), .val (.int (cv A (o + i)))] [])) := c4.trans (by
        refine XS.istoreS Xl.here hexec rfl (hb hbytes d13) rfl rfl hz ?_
        exact Steps.refl _)
      have c6 : Steps p.tables e below (s₁.setTop (entryFrame m #[.ref b, .int (Int32.ofNat o), .ref d, .int (Int32.ofNat q), .int (Int32.ofNat len)] 7)) (Tl.setTop (mkF m 31 #[.val (.ref b), .val (.int (Int32.ofNat (o + i))), .val (.ref d), .val (.int (Int32.ofNat (q + i))), .val (.int (Int32.ofNat len)), .val (.int (Int32.ofNat i)), .val (.int (cv A (o + i)))] [.int (lo8 (cv A (o + i))), .int (Int32.ofNat (q + i)), .ref d])) := c5.trans (by
        refine XS.iload Xl.here hexec rfl (hb hbytes d15) rfl ?_
        refine sipushV Xl.here hexec rfl 255 (hb hbytes d17) (by decide) ?_
        refine XS.icmpYes Xl.here hexec rfl (pc0 := 20) rfl (hb hbytes d20) rfl (ii_le_t (hp i (by omega))) (by decide) rfl ?_
        refine XS.aloadN Xl.here hexec rfl (hb hbytes d26) rfl rfl ?_
        refine XS.iloadN Xl.here hexec rfl (hb hbytes d27) rfl ?_
        refine XS.iload Xl.here hexec rfl (hb hbytes d28) rfl ?_
        refine i2b Xl.here hexec rfl (hb hbytes d30) rfl ?_
        exact Steps.refl _)
      obtain ⟨T7, X7, p7, st7⟩ := Xl.aput hexec hBk rfl hlt rfl (fits_lo8 (cv A (o + i))) (g := (mkF m 31 #[.val (.ref b), .val (.int (Int32.ofNat (o + i))), .val (.ref d), .val (.int (Int32.ofNat (q + i))), .val (.int (Int32.ofNat len)), .val (.int (Int32.ofNat i)), .val (.int (cv A (o + i)))] [.int (lo8 (cv A (o + i))), .int (Int32.ofNat (q + i)), .ref d])) rfl (rest := []) rfl (hb hbytes d31)
      have c8 : Steps p.tables e below (s₁.setTop (entryFrame m #[.ref b, .int (Int32.ofNat o), .ref d, .int (Int32.ofNat q), .int (Int32.ofNat len)] 7)) (T7.setTop (mkF m 32 #[.val (.ref b), .val (.int (Int32.ofNat (o + i))), .val (.ref d), .val (.int (Int32.ofNat (q + i))), .val (.int (Int32.ofNat len)), .val (.int (Int32.ofNat i)), .val (.int (cv A (o + i)))] [])) := c6.trans (st7 _ (Steps.refl _))
      have c9 : Steps p.tables e below (s₁.setTop (entryFrame m #[.ref b, .int (Int32.ofNat o), .ref d, .int (Int32.ofNat q), .int (Int32.ofNat len)] 7)) (T7.setTop (mkF m 3 #[.val (.ref b), .val (.int (Int32.ofNat (o + i) + 1)), .val (.ref d), .val (.int (Int32.ofNat (q + i) + 1)), .val (.int (Int32.ofNat len)), .val (.int (Int32.ofNat i + 1)), .val (.int (cv A (o + i)))] [])) := c8.trans (by
        refine iincV X7.here hexec rfl 1 (hb hbytes d32) (by decide) rfl rfl ?_
        refine iincV X7.here hexec rfl 1 (hb hbytes d35) (by decide) rfl rfl ?_
        refine iincV X7.here hexec rfl 1 (hb hbytes d38) (by decide) rfl rfl ?_
        refine XS.goto X7.here hexec rfl (pc0 := 41) rfl (hb hbytes d41) (by decide) rfl ?_
        exact Steps.refl _)
      have c10 : Steps p.tables e below (s₁.setTop (entryFrame m #[.ref b, .int (Int32.ofNat o), .ref d, .int (Int32.ofNat q), .int (Int32.ofNat len)] 7)) (T7.setTop (mkF m 3 #[.val (.ref b), .val (.int (Int32.ofNat (o + (i + 1)))), .val (.ref d), .val (.int (Int32.ofNat (q + (i + 1)))), .val (.int (Int32.ofNat len)), .val (.int (Int32.ofNat (i + 1))), .val (.int (cv A (o + i)))] [])) := by
        have := c9
        rw [succ32, succ32, succ32] at this
        exact this
      exact ih (i + 1) (by omega) _ (Or.inr ⟨_, rfl, rfl⟩) T7 _ (by rw [copyLocs_step, ← List.append_assoc]; exact X7) (pl.trans p7) (fl.step (by omega) hlt (by simp)) c10
  obtain ⟨T9, B9, z9, X9, p9, f9, g9⟩ := loop len 0 (by omega) .unset (Or.inl rfl) s₁ B (by simpa [copyLocs] using X0) ⟨hB0.1, fun _ _ => rfl, rfl⟩ (Laid.zero _ _ _) c2
  have c11 : Steps p.tables e below (s₁.setTop (entryFrame m #[.ref b, .int (Int32.ofNat o), .ref d, .int (Int32.ofNat q), .int (Int32.ofNat len)] 7)) (T9.setTop (mkF m 46 #[.val (.ref b), .val (.int (Int32.ofNat (o + len))), .val (.ref d), .val (.int (Int32.ofNat (q + len))), .val (.int (Int32.ofNat len)), .val (.int (Int32.ofNat len)), z9] [.int (Int32.ofNat len)])) := g9.trans (by
    refine XS.iload X9.here hexec rfl (hb hbytes d3) rfl ?_
    refine XS.iload X9.here hexec rfl (hb hbytes d5) rfl ?_
    refine XS.icmpYes X9.here hexec rfl (pc0 := 7) rfl (hb hbytes d7) rfl (ii_ge_t (nlt32 (by omega) (Nat.le_refl _))) (by decide) rfl ?_
    refine XS.iload X9.here hexec rfl (hb hbytes d44) rfl ?_
    exact Steps.refl _)
  exact ⟨T9, some (.int (Int32.ofNat len)), _, _, _, X9, by simp, rfl, rfl, (fun h => by cases h), ⟨rfl, B9, p9.from hh0, f9⟩, fun fs hl => c11.trans (X9.ireturnOut hexec hret rfl (Or.inl rfl) (hb hbytes d46) hl)⟩
end Cmp5
namespace Cmp3
def yN : MethodName := ⟨"java/lang/StringUTF16", "compress", "([CII)[B"⟩
abbrev yB : ByteArray := jdk_52_method_16_code
theorem d0 : decode yB 0 = .ok (.iload_n 2, 1) := by decide +kernel
theorem d1 : decode yB 1 = .ok (.newarray .byte, 2) := by decide +kernel
theorem d3 : decode yB 3 = .ok (.astore_n 3, 1) := by decide +kernel
theorem d4 : decode yB 4 = .ok (.aload_n 0, 1) := by decide +kernel
theorem d5 : decode yB 5 = .ok (.iload_n 1, 1) := by decide +kernel
theorem d6 : decode yB 6 = .ok (.aload_n 3, 1) := by decide +kernel
theorem d7 : decode yB 7 = .ok (.iconst 0, 1) := by decide +kernel
theorem d8 : decode yB 8 = .ok (.iload_n 2, 1) := by decide +kernel
theorem d9 : decode yB 9 = .ok (.invokestatic 115, 3) := by decide +kernel
theorem d12 : decode yB 12 = .ok (.istore 4, 2) := by decide +kernel
theorem d14 : decode yB 14 = .ok (.iload 4, 2) := by decide +kernel
theorem d16 : decode yB 16 = .ok (.iload_n 2, 1) := by decide +kernel
theorem d17 : decode yB 17 = .ok (.if_icmp (.eq) 40, 3) := by decide +kernel
theorem d57 : decode yB 57 = .ok (.aload_n 3, 1) := by decide +kernel
theorem d58 : decode yB 58 = .ok (.areturn, 1) := by decide +kernel
def site : List Cond := [.arrayClass .byte, Cmp5.tab] ++ staticW U16 115 Cmp5.yN
def tab : Cond := tabOf yN yB 6 (some (.array .byte)) site
def P (b : Addr) (A : Cell) (o len : Nat) (args : Array Value) (s : State) : Prop := args = #[.ref b, .int (Int32.ofNat o), .int (Int32.ofNat len)] ∧ Ch b A s ∧ o + len ≤ A.slots.size ∧ len ≤ 536870912 ∧ ∀ i, i < len → ¬ 255 < cv A (o + i)
def E (b : Addr) (A : Cell) (o len : Nat) (r : Option Value) (s u : State) : Prop := NewArr .byte "[B" len (fun j => .int (lo8 (cv A (o + j)))) r s u ∧ u.heap.size = s.heap.size + 1
/-- no char of the range above 255: a new byte[] of their low bytes -/
theorem law (l : Launch) (b : Addr) (A : Cell) (o len : Nat) : Law l yN 3 3 1 18 yB 6 (some (.array .byte)) site (P b A o len) (E b A o len) [] 1 len := by
  refine Law.of_walk (plainFor_of_name (by decide +kernel)) (by decide +kernel) (by decide +kernel) (by decide) (fun _ _ h => by rw [h.1]; rfl) (fun _ U U' hal hh h => ⟨h.1, h.2.1.mv hal hh, h.2.2⟩) (fun r U U' V V' h1 hal h2 h => ⟨NewArr.mv r U U' V V' h1 hal h2 h.1, by rw [h1, h2]; exact h.2⟩) ?_
  intro p e s m args below meth c s₁ X0 hexec hbytes hml hret hlk hnm hown hh0 W hP
  obtain ⟨rfl, hA, l1, l2, hp⟩ := hP
  have a31 := hA.1.2.2.2
  have c1 : Steps p.tables e below (s₁.setTop (entryFrame m #[.ref b, .int (Int32.ofNat o), .int (Int32.ofNat len)] 6)) (s₁.setTop (mkF m 0 #[.val (.ref b), .val (.int (Int32.ofNat o)), .val (.int (Int32.ofNat len)), .unset, .unset, .unset] [])) := entry rfl
  have c2 : Steps p.tables e below (s₁.setTop (entryFrame m #[.ref b, .int (Int32.ofNat o), .int (Int32.ofNat len)] 6)) (s₁.setTop (mkF m 1 #[.val (.ref b), .val (.int (Int32.ofNat o)), .val (.int (Int32.ofNat len)), .unset, .unset, .unset] [.int (Int32.ofNat len)])) := c1.trans (by
    refine XS.iloadN X0.here hexec rfl (hb hbytes d0) rfl ?_
    exact Steps.refl _)
  obtain ⟨T3, B3, X3, ba3, bs3, bv3, bh3, bf3, st3⟩ := X0.anew hexec (atype := .byte) (wk W (.arrayClass .byte)) rfl (by show len * 1 ≤ _; omega) (by omega) (g := (mkF m 1 #[.val (.ref b), .val (.int (Int32.ofNat o)), .val (.int (Int32.ofNat len)), .unset, .unset, .unset] [.int (Int32.ofNat len)])) rfl (hb hbytes d1) (rest := []) rfl (Nat.le_refl _) (by show 0 + len ≤ len; omega)
  rw [hh0] at ba3 st3
  have kp3 : XT.Kept s T3 := (XT.Kept.of_eq hh0).push bh3
  have hA3 := hA.keep X3.warmed.alike (kp3 _ _ hA.1.1)
  have hne : b ≠ s.heap.size := hA.1.ne
  have c4 : Steps p.tables e below (s₁.setTop (entryFrame m #[.ref b, .int (Int32.ofNat o), .int (Int32.ofNat len)] 6)) (T3.setTop (mkF m 3 #[.val (.ref b), .val (.int (Int32.ofNat o)), .val (.int (Int32.ofNat len)), .unset, .unset, .unset] [.ref s.heap.size])) := c2.trans (st3 _ (Steps.refl _))
  have c5 : Steps p.tables e below (s₁.setTop (entryFrame m #[.ref b, .int (Int32.ofNat o), .int (Int32.ofNat len)] 6)) (T3.setTop (mkF m 9 #[.val (.ref b), .val (.int (Int32.ofNat o)), .val (.int (Int32.ofNat len)), .val (.ref s.heap.size), .unset, .unset] [.int (Int32.ofNat len), .int 0, .ref s.heap.size, .int (Int32.ofNat o), .ref b])) := c4.trans (by
    refine XS.astoreN X3.here hexec rfl (hb hbytes d3) rfl rfl rfl ?_
    refine XS.aloadN X3.here hexec rfl (hb hbytes d4) rfl rfl ?_
    refine XS.iloadN X3.here hexec rfl (hb hbytes d5) rfl ?_
    refine XS.aloadN X3.here hexec rfl (hb hbytes d6) rfl rfl ?_
    refine iconstV X3.here hexec rfl 0 (hb hbytes d7) (by decide) ?_
    refine XS.iloadN X3.here hexec rfl (hb hbytes d8) rfl ?_
    exact Steps.refl _)
  obtain ⟨v6, T6, X6, E6, g6⟩ := X3.callS hexec (Cmp5.law l b A s.heap.size B3 o 0 len) hown (wks W (staticW U16 115 Cmp5.yN)) (wk W Cmp5.tab) (W := 0) (Nat.le_of_ble_eq_true rfl) (Nat.le_of_ble_eq_true rfl) (Nat.le_refl _) (by show 0 + len + 0 ≤ len; omega) (g := (mkF m 9 #[.val (.ref b), .val (.int (Int32.ofNat o)), .val (.int (Int32.ofNat len)), .val (.ref s.heap.size), .unset, .unset] [.int (Int32.ofNat len), .int (Int32.ofNat 0), .ref s.heap.size, .int (Int32.ofNat o), .ref b])) rfl (by rw [hml]; rfl) c5 (argsL := [.ref b, .int (Int32.ofNat o), .ref s.heap.size, .int (Int32.ofNat 0), .int (Int32.ofNat len)]) (rest := []) rfl rfl (by show 2 * 0 + 0 ≤ _; decide) (hb hbytes d9) (⟨rfl, hA3, ba3, hne, l1, by rw [bs3]; simp, hp⟩)
  obtain ⟨rfl, B6, p6, f6⟩ := E6
  have c7 : Steps p.tables e below (s₁.setTop (entryFrame m #[.ref b, .int (Int32.ofNat o), .int (Int32.ofNat len)] 6)) (T6.setTop (mkF m 12 #[.val (.ref b), .val (.int (Int32.ofNat o)), .val (.int (Int32.ofNat len)), .val (.ref s.heap.size), .unset, .unset] [.int (Int32.ofNat len)])) := g6
  have c8 : Steps p.tables e below (s₁.setTop (entryFrame m #[.ref b, .int (Int32.ofNat o), .int (Int32.ofNat len)] 6)) (T6.setTop (mkF m 58 #[.val (.ref b), .val (.int (Int32.ofNat o)), .val (.int (Int32.ofNat len)), .val (.ref s.heap.size), .val (.int (Int32.ofNat len)), .unset] [.ref s.heap.size])) := c7.trans (by
    refine XS.istore X6.here hexec rfl (hb hbytes d12) rfl rfl ?_
    refine XS.iload X6.here hexec rfl (hb hbytes d14) rfl ?_
    refine XS.iloadN X6.here hexec rfl (hb hbytes d16) rfl ?_
    refine XS.icmpYes X6.here hexec rfl (pc0 := 17) rfl (hb hbytes d17) rfl (ii_eq_t rfl) (by decide) rfl ?_
    refine XS.aloadN X6.here hexec rfl (hb hbytes d57) rfl rfl ?_
    exact Steps.refl _)
  have X8 := X6.wide (L' := []) (cells' := 1) (slots' := len) (fun x hx hlt => by
    simp only [List.nil_append, copyLocs, List.mem_map, List.mem_range] at hx
    obtain ⟨i, -, rfl⟩ := hx
    exact absurd hlt (Nat.lt_irrefl _)) (Nat.le_refl _) (by omega)
  exact ⟨T6, some (.ref s.heap.size), _, _, _, X8, rfl, rfl, rfl, (fun h => by cases h), ⟨⟨rfl, B6, ba3.like (X3.warmed.alike.symm.trans X6.warmed.alike) p6.1 f6.1 f6.2.1 f6.2.2.1, f6.2.1.trans bv3, by rw [X6.warmed.alike.findClass, f6.1]; exact bf3, by rw [f6.2.2.1, bs3]; simp, fun j hj => by rw [f6.2.2.2 j, if_pos (by omega)]; rfl, kp3.put p6 (Nat.le_refl _)⟩, by rw [p6.2.2, bh3, hh0]; simp⟩, fun fs hl => c8.trans (X8.areturnOut hexec rfl hret rfl (hb hbytes d58) hl)⟩
end Cmp3
namespace CodL
def yN : MethodName := ⟨"java/lang/StringUTF16", "coderFromArrayLen", "([BI)B"⟩
abbrev yB : ByteArray := jdk_52_method_15_code
theorem d0 : decode yB 0 = .ok (.iload_n 1, 1) := by decide +kernel
theorem d1 : decode yB 1 = .ok (.aload_n 0, 1) := by decide +kernel
theorem d2 : decode yB 2 = .ok (.arraylength, 1) := by decide +kernel
theorem d3 : decode yB 3 = .ok (.isub, 1) := by decide +kernel
theorem d4 : decode yB 4 = .ok (.bipush 31, 2) := by decide +kernel
theorem d6 : decode yB 6 = .ok (.iushr, 1) := by decide +kernel
theorem d7 : decode yB 7 = .ok (.i2b, 1) := by decide +kernel
theorem d8 : decode yB 8 = .ok (.ireturn, 1) := by decide +kernel
def site : List Cond := []
def tab : Cond := tabOf yN yB 2 (some .byte) site
def P (d : Addr) (B : Cell) (args : Array Value) (s : State) : Prop := args = #[.ref d, .int (Int32.ofNat B.slots.size)] ∧ Arr .byte d B s
def E (r : Option Value) (s u : State) : Prop := XT.PureE (some (.int 0)) r s u
/-- an array as long as the number of chars: LATIN1 -/
theorem law (l : Launch) (d : Addr) (B : Cell) : Law l yN 2 2 0 0 yB 2 (some .byte) site (P d B) E [] 0 0 := by
  refine Law.of_walk (plainFor_of_name (by decide +kernel)) (by decide +kernel) (by decide +kernel) (by decide) (fun _ _ h => by rw [h.1]; rfl) (fun _ U U' hal hh h => ⟨h.1, h.2.mv hal hh⟩) (fun r U U' V V' h1 hal h2 h => XT.PureE.mv r U U' V V' h1 hal h2 h) ?_
  intro p e s m args below meth c s₁ X0 hexec hbytes hml hret hlk hnm hown hh0 W hP
  obtain ⟨rfl, hB⟩ := hP
  have hB0 := hB.mv X0.warmed.alike hh0
  have c1 : Steps p.tables e below (s₁.setTop (entryFrame m #[.ref d, .int (Int32.ofNat B.slots.size)] 2)) (s₁.setTop (mkF m 0 #[.val (.ref d), .val (.int (Int32.ofNat B.slots.size))] [])) := entry rfl
  have c2 : Steps p.tables e below (s₁.setTop (entryFrame m #[.ref d, .int (Int32.ofNat B.slots.size)] 2)) (s₁.setTop (mkF m 2 #[.val (.ref d), .val (.int (Int32.ofNat B.slots.size))] [.ref d, .int (Int32.ofNat B.slots.size)])) := c1.trans (by
    refine XS.iloadN X0.here hexec rfl (hb hbytes d0) rfl ?_
    refine XS.aloadN X0.here hexec rfl (hb hbytes d1) rfl rfl ?_
    exact Steps.refl _)
  have c3 : Steps p.tables e below (s₁.setTop (entryFrame m #[.ref d, .int (Int32.ofNat B.slots.size)] 2)) (s₁.setTop (mkF m 8 #[.val (.ref d), .val (.int (Int32.ofNat B.slots.size))] [.int (lo8 (ushr (Int32.ofNat B.slots.size - Int32.ofNat B.slots.size) 31))])) := c2.trans (by
    refine X0.alen hexec hB0 rfl rfl (hb hbytes d2) ?_
    refine XS.isub X0.here hexec rfl (hb hbytes d3) rfl ?_
    refine bipushV X0.here hexec rfl 31 (hb hbytes d4) (by decide) ?_
    refine iushr X0.here hexec rfl (hb hbytes d6) rfl ?_
    refine i2b X0.here hexec rfl (hb hbytes d7) rfl ?_
    exact Steps.refl _)
  have e0 : lo8 (ushr (Int32.ofNat B.slots.size - Int32.ofNat B.slots.size) 31) = 0 := by rw [Int32.sub_self]; decide
  rw [e0] at c3
  exact ⟨s₁, some (.int 0), _, _, _, X0, rfl, rfl, rfl, (fun h => by cases h), ⟨rfl, hh0⟩, fun fs hl => c3.trans (X0.ireturnOut hexec hret rfl (Or.inr (Or.inr (Or.inl rfl))) (hb hbytes d8) hl)⟩
end CodL
/-- the String at a is Latin-1 over a new byte[] (the heap's one new cell): the low bytes of the len chars of A from o on; every cell but a is kept -/
def Got (a : Addr) (D : Cell) (fV fC : Field) (A : Cell) (o len : Nat) (r : Option Value) (s u : State) : Prop := r = none ∧ ∃ D' V : Cell, Blank "java/lang/String" a D' u ∧ Same D D' [fV.slot, fC.slot] ∧ D'.slots[fV.slot]? = some (.ref s.heap.size) ∧ D'.slots[fC.slot]? = some (.int 0) ∧ Arr .byte s.heap.size V u ∧ V.vm = .none ∧ u.vm.findClass "[B" = some V.cls ∧ V.slots.size = len ∧ (∀ j, j < len → V.slots[j]? = some (.int (lo8 (cv A (o + j))))) ∧ (∀ (y : Addr) (c : Cell), y ≠ a → s.heap[y]? = some c → u.heap[y]? = some c) ∧ u.heap.size = s.heap.size + 1
theorem Got.mv {a : Addr} {D A : Cell} {fV fC : Field} {o len : Nat} : ∀ r (U U' V V' : State), U'.heap = U.heap → V.vm.Alike V'.vm → V'.heap = V.heap → Got a D fV fC A o len r U V → Got a D fV fC A o len r U' V' :=
  fun r U U' V V' h1 hal h2 ⟨e0, D', X, a1, a2, a3, a4, a5, a6, a7, a8, a9, a10, a11⟩ => ⟨e0, D', X, a1.mv hal h2, a2, by rw [h1]; exact a3, a4, by rw [h1]; exact a5.mv hal h2, a6, by rw [hal.findClass]; exact a7, a8, a9, by rw [h1, h2]; exact a10, by rw [h1, h2]; exact a11⟩
namespace New4
def yN : MethodName := ⟨"java/lang/String", "<init>", "([CIILjava/lang/Void;)V"⟩
abbrev yB : ByteArray := jdk_42_method_149_code
theorem d0 : decode yB 0 = .ok (.aload_n 0, 1) := by decide +kernel
theorem d1 : decode yB 1 = .ok (.invokespecial 1, 3) := by decide +kernel
theorem d4 : decode yB 4 = .ok (.iload_n 3, 1) := by decide +kernel
theorem d5 : decode yB 5 = .ok (.ifCond (.ne) 22, 3) := by decide +kernel
theorem d27 : decode yB 27 = .ok (.getstatic 38, 3) := by decide +kernel
theorem d30 : decode yB 30 = .ok (.ifCond (.eq) 28, 3) := by decide +kernel
theorem d33 : decode yB 33 = .ok (.aload_n 1, 1) := by decide +kernel
theorem d34 : decode yB 34 = .ok (.iload_n 2, 1) := by decide +kernel
theorem d35 : decode yB 35 = .ok (.iload_n 3, 1) := by decide +kernel
theorem d36 : decode yB 36 = .ok (.invokestatic 177, 3) := by decide +kernel
theorem d39 : decode yB 39 = .ok (.astore 5, 2) := by decide +kernel
theorem d41 : decode yB 41 = .ok (.aload_n 0, 1) := by decide +kernel
theorem d42 : decode yB 42 = .ok (.aload 5, 2) := by decide +kernel
theorem d44 : decode yB 44 = .ok (.iload_n 3, 1) := by decide +kernel
theorem d45 : decode yB 45 = .ok (.invokestatic 47, 3) := by decide +kernel
theorem d48 : decode yB 48 = .ok (.putfield 15, 3) := by decide +kernel
theorem d51 : decode yB 51 = .ok (.aload_n 0, 1) := by decide +kernel
theorem d52 : decode yB 52 = .ok (.aload 5, 2) := by decide +kernel
theorem d54 : decode yB 54 = .ok (.putfield 9, 3) := by decide +kernel
theorem d57 : decode yB 57 = .ok (.return_, 1) := by decide +kernel
def site : List Cond := [.fieldLink "java/lang/String" 38 "java/lang/String" "COMPACT_STRINGS" "Z", Cmp3.tab, CodL.tab, .laysFinal "java/lang/String" "java/lang/String" "value" "[B", .fieldLink "java/lang/String" 9 "java/lang/String" "value" "[B", .laysFinal "java/lang/String" "java/lang/String" "coder" "B", .fieldLink "java/lang/String" 15 "java/lang/String" "coder" "B"] ++ objW "java/lang/String" 1 ++ staticW "java/lang/String" 177 Cmp3.yN ++ staticW "java/lang/String" 47 CodL.yN
def tab : Cond := tabOf yN yB 6 none site
def P (a : Addr) (D : Cell) (fV fC : Field) (b : Addr) (A : Cell) (z : Int32) (o len : Nat) (args : Array Value) (s : State) : Prop := args = #[.ref a, .ref b, .int (Int32.ofNat o), .int (Int32.ofNat len), .null] ∧ Blank "java/lang/String" a D s ∧ Found "java/lang/String" "value" "[B" fV s ∧ Found "java/lang/String" "coder" "B" fC s ∧ Ch b A s ∧ StaticIs s "java/lang/String" "COMPACT_STRINGS" "Z" (.int z) ∧ ¬ z = 0 ∧ 0 < len ∧ o + len ≤ A.slots.size ∧ len ≤ 536870912 ∧ ∀ i, i < len → ¬ 255 < cv A (o + i)
def E (a : Addr) (D : Cell) (fV fC : Field) (A : Cell) (o len : Nat) (r : Option Value) (s u : State) : Prop := Got a D fV fC A o len r s u
/-- len > 0, no char of the range above 255: a Latin-1 String of their low bytes -/
theorem law (l : Launch) (a : Addr) (D : Cell) (fV fC : Field) (b : Addr) (A : Cell) (z : Int32) (o len : Nat) : Law l yN 5 4 2 35 yB 6 none site (P a D fV fC b A z o len) (E a D fV fC A o len) [⟨a, fC.slot⟩, ⟨a, fV.slot⟩] 1 len := by
  refine Law.of_walk (plainFor_of_name (by decide +kernel)) (by decide +kernel) (by decide +kernel) (by decide) (fun _ _ h => by rw [h.1]; rfl) (fun _ U U' hal hh h => ⟨h.1, h.2.1.mv hal hh, h.2.2.1.al hal, h.2.2.2.1.al hal, h.2.2.2.2.1.mv hal hh, h.2.2.2.2.2.1.there hal hh, h.2.2.2.2.2.2⟩) (fun r U U' V V' h1 hal h2 h => Got.mv r U U' V V' h1 hal h2 h) ?_
  intro p e s m args below meth c s₁ X0 hexec hbytes hml hret hlk hnm hown hh0 W hP
  obtain ⟨rfl, hB, f1, f2, hA, s1, hz, l0, l1, l2, hp⟩ := hP
  have a31 := hA.1.2.2.2
  have c1 : Steps p.tables e below (s₁.setTop (entryFrame m #[.ref a, .ref b, .int (Int32.ofNat o), .int (Int32.ofNat len), .null] 6)) (s₁.setTop (mkF m 0 #[.val (.ref a), .val (.ref b), .val (.int (Int32.ofNat o)), .val (.int (Int32.ofNat len)), .val .null, .unset] [])) := entry rfl
  have c2 : Steps p.tables e below (s₁.setTop (entryFrame m #[.ref a, .ref b, .int (Int32.ofNat o), .int (Int32.ofNat len), .null] 6)) (s₁.setTop (mkF m 1 #[.val (.ref a), .val (.ref b), .val (.int (Int32.ofNat o)), .val (.int (Int32.ofNat len)), .val .null, .unset] [.ref a])) := c1.trans (by
    refine XS.aloadN X0.here hexec rfl (hb hbytes d0) rfl rfl ?_
    exact Steps.refl _)
  obtain ⟨T3, X3, q3, st3⟩ := X0.oinit hexec hown (wks W (objW "java/lang/String" 1)) (g := (mkF m 1 #[.val (.ref a), .val (.ref b), .val (.int (Int32.ofNat o)), .val (.int (Int32.ofNat len)), .val .null, .unset] [.ref a])) rfl (by rw [hml]; rfl) (rest := []) rfl (hb hbytes d1) (W := 0) (by show 2 * 0 + 0 ≤ _; decide) (Nat.le_of_ble_eq_true rfl) (Nat.le_of_ble_eq_true rfl)
  have hh3 := q3.trans hh0
  have c4 : Steps p.tables e below (s₁.setTop (entryFrame m #[.ref a, .ref b, .int (Int32.ofNat o), .int (Int32.ofNat len), .null] 6)) (T3.setTop (mkF m 27 #[.val (.ref a), .val (.ref b), .val (.int (Int32.ofNat o)), .val (.int (Int32.ofNat len)), .val .null, .unset] [])) := (c2.trans (st3 _ (Steps.refl _))).trans (by
    refine XS.iloadN X3.here hexec rfl (hb hbytes d4) rfl ?_
    refine XS.ifYes X3.here hexec rfl (pc0 := 5) rfl (hb hbytes d5) rfl (i0_ne_t (nz32 (by omega) l0)) (by decide) rfl ?_
    exact Steps.refl _)
  obtain ⟨T5, X5, q5, st5⟩ := X3.sget hexec hown (wk W (.fieldLink "java/lang/String" 38 "java/lang/String" "COMPACT_STRINGS" "Z")) s1 (fun _ _ h => by rw [hh3]; exact h) (g := (mkF m 27 #[.val (.ref a), .val (.ref b), .val (.int (Int32.ofNat o)), .val (.int (Int32.ofNat len)), .val .null, .unset] [])) rfl (hb hbytes d27)
  have hh5 := q5.trans hh3
  have c6 : Steps p.tables e below (s₁.setTop (entryFrame m #[.ref a, .ref b, .int (Int32.ofNat o), .int (Int32.ofNat len), .null] 6)) (T5.setTop (mkF m 30 #[.val (.ref a), .val (.ref b), .val (.int (Int32.ofNat o)), .val (.int (Int32.ofNat len)), .val .null, .unset] [.int z])) := c4.trans (st5 _ (Steps.refl _))
  have c7 : Steps p.tables e below (s₁.setTop (entryFrame m #[.ref a, .ref b, .int (Int32.ofNat o), .int (Int32.ofNat len), .null] 6)) (T5.setTop (mkF m 36 #[.val (.ref a), .val (.ref b), .val (.int (Int32.ofNat o)), .val (.int (Int32.ofNat len)), .val .null, .unset] [.int (Int32.ofNat len), .int (Int32.ofNat o), .ref b])) := c6.trans (by
    refine XS.ifNo X5.here hexec rfl (hb hbytes d30) rfl (i0_eq_f hz) ?_
    refine XS.aloadN X5.here hexec rfl (hb hbytes d33) rfl rfl ?_
    refine XS.iloadN X5.here hexec rfl (hb hbytes d34) rfl ?_
    refine XS.iloadN X5.here hexec rfl (hb hbytes d35) rfl ?_
    exact Steps.refl _)
  obtain ⟨v8, T8, X8, E8, g8⟩ := X5.callS hexec (Cmp3.law l b A o len) hown (wks W (staticW "java/lang/String" 177 Cmp3.yN)) (wk W Cmp3.tab) (W := 0) (Nat.le_of_ble_eq_true rfl) (Nat.le_of_ble_eq_true rfl) (Nat.le_refl _) (by show 0 + len ≤ len; omega) (g := (mkF m 36 #[.val (.ref a), .val (.ref b), .val (.int (Int32.ofNat o)), .val (.int (Int32.ofNat len)), .val .null, .unset] [.int (Int32.ofNat len), .int (Int32.ofNat o), .ref b])) rfl (by rw [hml]; rfl) c7 (argsL := [.ref b, .int (Int32.ofNat o), .int (Int32.ofNat len)]) (rest := []) rfl rfl (by show 2 * 0 + 0 ≤ _; decide) (hb hbytes d36) (⟨rfl, hA.mv X5.warmed.alike hh5, l1, l2, hp⟩)
  obtain ⟨e8, z8⟩ := E8
  obtain ⟨rfl, N, n1, n2, n3, n4, n5, n6⟩ := NewArr.mv _ T5 s _ _ hh5.symm (Vm.Alike.refl _) rfl e8
  rw [hh5] at z8
  have hB1 := hB.keep X8.warmed.alike (n6 _ _ hB.1)
  have hne : s.heap.size ≠ a := (Nat.ne_of_lt (Array.getElem?_eq_some_iff.mp hB.1).1).symm
  have c9 : Steps p.tables e below (s₁.setTop (entryFrame m #[.ref a, .ref b, .int (Int32.ofNat o), .int (Int32.ofNat len), .null] 6)) (T8.setTop (mkF m 39 #[.val (.ref a), .val (.ref b), .val (.int (Int32.ofNat o)), .val (.int (Int32.ofNat len)), .val .null, .unset] [.ref s.heap.size])) := g8
  have c10 : Steps p.tables e below (s₁.setTop (entryFrame m #[.ref a, .ref b, .int (Int32.ofNat o), .int (Int32.ofNat len), .null] 6)) (T8.setTop (mkF m 45 #[.val (.ref a), .val (.ref b), .val (.int (Int32.ofNat o)), .val (.int (Int32.ofNat len)), .val .null, .val (.ref s.heap.size)] [.int (Int32.ofNat N.slots.size), .ref s.heap.size, .ref a])) := by
    have hc : Steps p.tables e below (s₁.setTop (entryFrame m #[.ref a, .ref b, .int (Int32.ofNat o), .int (Int32.ofNat len), .null] 6)) (T8.setTop (mkF m 45 #[.val (.ref a), .val (.ref b), .val (.int (Int32.ofNat o)), .val (.int (Int32.ofNat len)), .val .null, .val (.ref s.heap.size)] [.int (Int32.ofNat len), .ref s.heap.size, .ref a])) := c9.trans (by
      refine XS.astore X8.here hexec rfl (hb hbytes d39) rfl rfl rfl ?_
      refine XS.aloadN X8.here hexec rfl (hb hbytes d41) rfl rfl ?_
      refine XS.aload X8.here hexec rfl (hb hbytes d42) rfl rfl ?_
      refine XS.iloadN X8.here hexec rfl (hb hbytes d44) rfl ?_
      exact Steps.refl _)
    rw [n4]; exact hc
  obtain ⟨v11, T11, X11, E11, g11⟩ := X8.callS hexec (CodL.law l s.heap.size N) hown (wks W (staticW "java/lang/String" 47 CodL.yN)) (wk W CodL.tab) (W := 1) (Nat.le_of_ble_eq_true rfl) (Nat.le_of_ble_eq_true rfl) (Nat.le_refl _) (by show 0 + len + 0 ≤ len; omega) (g := (mkF m 45 #[.val (.ref a), .val (.ref b), .val (.int (Int32.ofNat o)), .val (.int (Int32.ofNat len)), .val .null, .val (.ref s.heap.size)] [.int (Int32.ofNat N.slots.size), .ref s.heap.size, .ref a])) rfl (by rw [hml]; rfl) c10 (argsL := [.ref s.heap.size, .int (Int32.ofNat N.slots.size)]) (rest := [.ref a]) rfl rfl (by show 2 * 0 + (1 + 0) ≤ _; decide) (hb hbytes d45) (⟨rfl, n1⟩)
  obtain ⟨rfl, q11⟩ := E11
  have hB11 := hB1.mv (X8.warmed.alike.symm.trans X11.warmed.alike) q11
  have c12 : Steps p.tables e below (s₁.setTop (entryFrame m #[.ref a, .ref b, .int (Int32.ofNat o), .int (Int32.ofNat len), .null] 6)) (T11.setTop (mkF m 48 #[.val (.ref a), .val (.ref b), .val (.int (Int32.ofNat o)), .val (.int (Int32.ofNat len)), .val .null, .val (.ref s.heap.size)] [.int 0, .ref a])) := g11
  obtain ⟨T13, X13, p13, bl13, sl13, st13⟩ := X11.finit hexec hown (wk W (.fieldLink "java/lang/String" 15 "java/lang/String" "coder" "B")) (Or.inr ⟨_, (wk W (.laysFinal "java/lang/String" "java/lang/String" "coder" "B"))⟩) (Or.inl ⟨rfl, hnm⟩) f2 (Or.inl rfl) hB11 (t := .byte) (by decide +kernel) rfl (g := (mkF m 48 #[.val (.ref a), .val (.ref b), .val (.int (Int32.ofNat o)), .val (.int (Int32.ofNat len)), .val .null, .val (.ref s.heap.size)] [.int 0, .ref a])) rfl (rest := []) rfl (hb hbytes d48)
  have c14 : Steps p.tables e below (s₁.setTop (entryFrame m #[.ref a, .ref b, .int (Int32.ofNat o), .int (Int32.ofNat len), .null] 6)) (T13.setTop (mkF m 54 #[.val (.ref a), .val (.ref b), .val (.int (Int32.ofNat o)), .val (.int (Int32.ofNat len)), .val .null, .val (.ref s.heap.size)] [.ref s.heap.size, .ref a])) := (c12.trans (st13 _ (Steps.refl _))).trans (by
    refine XS.aloadN X13.here hexec rfl (hb hbytes d51) rfl rfl ?_
    refine XS.aload X13.here hexec rfl (hb hbytes d52) rfl rfl ?_
    exact Steps.refl _)
  obtain ⟨T15, X15, p15, bl15, sl15, st15⟩ := X13.finit hexec hown (wk W (.fieldLink "java/lang/String" 9 "java/lang/String" "value" "[B")) (Or.inr ⟨_, (wk W (.laysFinal "java/lang/String" "java/lang/String" "value" "[B"))⟩) (Or.inl ⟨rfl, hnm⟩) f1 (Or.inl rfl) bl13 (t := (.array .byte)) (by decide +kernel) rfl (g := (mkF m 54 #[.val (.ref a), .val (.ref b), .val (.int (Int32.ofNat o)), .val (.int (Int32.ofNat len)), .val .null, .val (.ref s.heap.size)] [.ref s.heap.size, .ref a])) rfl (rest := []) rfl (hb hbytes d54)
  have c16 : Steps p.tables e below (s₁.setTop (entryFrame m #[.ref a, .ref b, .int (Int32.ofNat o), .int (Int32.ofNat len), .null] 6)) (T15.setTop (mkF m 57 #[.val (.ref a), .val (.ref b), .val (.int (Int32.ofNat o)), .val (.int (Int32.ofNat len)), .val .null, .val (.ref s.heap.size)] [])) := c14.trans (st15 _ (Steps.refl _))
  have ap := apart (Or.inr ⟨_, (wk W (.laysFinal "java/lang/String" "java/lang/String" "value" "[B"))⟩) (Or.inr ⟨_, (wk W (.laysFinal "java/lang/String" "java/lang/String" "coder" "B"))⟩) f1 f2 (t₁ := .array .byte) (t₂ := .byte) (by decide +kernel) (by decide +kernel) (by decide)
  have al := X8.warmed.alike.symm.trans X15.warmed.alike
  have n7 : T11.heap[s.heap.size]? = some N := by rw [q11]; exact n1.1
  exact ⟨T15, none, _, _, _, X15, by simp, rfl, by omega, (fun _ => rfl), ⟨rfl, _, N, bl15, ((Same.refl D _).set _ (by simp)).set _ (by simp), sl15, (Cell.slots_setSlot_ne _ ap).trans sl13, n1.keep al (p15.other hne (p13.other hne n7)), n2, by rw [al.findClass]; exact n3, n4, n5, fun y c h1 h2 => p15.other h1 (p13.other h1 (by rw [q11]; exact n6 y c h2)), by rw [p15.2.2, p13.2.2, q11]; exact z8⟩, fun fs hl => c16.trans (X15.returnOut hexec hret (hb hbytes d57) hl)⟩
end New4
namespace New1
def yN : MethodName := ⟨"java/lang/String", "<init>", "([C)V"⟩
abbrev yB : ByteArray := jdk_42_method_3_code
theorem d0 : decode yB 0 = .ok (.aload_n 0, 1) := by decide +kernel
theorem d1 : decode yB 1 = .ok (.aload_n 1, 1) := by decide +kernel
theorem d2 : decode yB 2 = .ok (.iconst 0, 1) := by decide +kernel
theorem d3 : decode yB 3 = .ok (.aload_n 1, 1) := by decide +kernel
theorem d4 : decode yB 4 = .ok (.arraylength, 1) := by decide +kernel
theorem d5 : decode yB 5 = .ok (.aconst_null, 1) := by decide +kernel
theorem d6 : decode yB 6 = .ok (.invokespecial 27, 3) := by decide +kernel
theorem d9 : decode yB 9 = .ok (.return_, 1) := by decide +kernel
def site : List Cond := [New4.tab] ++ initW "java/lang/String" 27 New4.yN
def tab : Cond := tabOf yN yB 2 none site
def P (a : Addr) (D : Cell) (fV fC : Field) (b : Addr) (A : Cell) (z : Int32) (args : Array Value) (s : State) : Prop := args = #[.ref a, .ref b] ∧ Blank "java/lang/String" a D s ∧ Found "java/lang/String" "value" "[B" fV s ∧ Found "java/lang/String" "coder" "B" fC s ∧ Ch b A s ∧ StaticIs s "java/lang/String" "COMPACT_STRINGS" "Z" (.int z) ∧ ¬ z = 0 ∧ 0 < A.slots.size ∧ A.slots.size ≤ 536870912 ∧ ∀ i, i < A.slots.size → ¬ 255 < cv A i
def E (a : Addr) (D : Cell) (fV fC : Field) (A : Cell) (r : Option Value) (s u : State) : Prop := Got a D fV fC A 0 A.slots.size r s u
/-- new String(chars), not empty, no char above 255: a Latin-1 String of their low bytes -/
theorem law (l : Launch) (a : Addr) (D : Cell) (fV fC : Field) (b : Addr) (A : Cell) (z : Int32) : Law l yN 2 1 3 52 yB 2 none site (P a D fV fC b A z) (E a D fV fC A) [⟨a, fC.slot⟩, ⟨a, fV.slot⟩] 1 A.slots.size := by
  refine Law.of_walk (plainFor_of_name (by decide +kernel)) (by decide +kernel) (by decide +kernel) (by decide) (fun _ _ h => by rw [h.1]; rfl) (fun _ U U' hal hh h => ⟨h.1, h.2.1.mv hal hh, h.2.2.1.al hal, h.2.2.2.1.al hal, h.2.2.2.2.1.mv hal hh, h.2.2.2.2.2.1.there hal hh, h.2.2.2.2.2.2⟩) (fun r U U' V V' h1 hal h2 h => Got.mv r U U' V V' h1 hal h2 h) ?_
  intro p e s m args below meth c s₁ X0 hexec hbytes hml hret hlk hnm hown hh0 W hP
  obtain ⟨rfl, hB, f1, f2, hA, s1, hz, l0, l2, hp⟩ := hP
  have c1 : Steps p.tables e below (s₁.setTop (entryFrame m #[.ref a, .ref b] 2)) (s₁.setTop (mkF m 0 #[.val (.ref a), .val (.ref b)] [])) := entry rfl
  have c2 : Steps p.tables e below (s₁.setTop (entryFrame m #[.ref a, .ref b] 2)) (s₁.setTop (mkF m 6 #[.val (.ref a), .val (.ref b)] [.null, .int (Int32.ofNat A.slots.size), .int 0, .ref b, .ref a])) := c1.trans (by
    refine XS.aloadN X0.here hexec rfl (hb hbytes d0) rfl rfl ?_
    refine XS.aloadN X0.here hexec rfl (hb hbytes d1) rfl rfl ?_
    refine iconstV X0.here hexec rfl 0 (hb hbytes d2) (by decide) ?_
    refine XS.aloadN X0.here hexec rfl (hb hbytes d3) rfl rfl ?_
    refine X0.alen hexec (hA.1.mv X0.warmed.alike hh0) rfl rfl (hb hbytes d4) ?_
    refine XS.aconstNull X0.here hexec rfl (hb hbytes d5) ?_
    exact Steps.refl _)
  obtain ⟨v3, T3, X3, E3, g3⟩ := X0.callN hexec (New4.law l a D fV fC b A z 0 A.slots.size) rfl hown (wks W (initW "java/lang/String" 27 New4.yN)) (W New4.tab (by simp only [site, List.mem_cons, List.mem_append, true_or, or_true])) (W := 0) (Nat.le_of_ble_eq_true rfl) (Nat.le_of_ble_eq_true rfl) (Nat.le_refl _) (by show 0 + A.slots.size ≤ A.slots.size; omega) (g := (mkF m 6 #[.val (.ref a), .val (.ref b)] [.null, .int (Int32.ofNat A.slots.size), .int (Int32.ofNat 0), .ref b, .ref a])) rfl (by rw [hml]; rfl) c2 (argsL := [.ref b, .int (Int32.ofNat 0), .int (Int32.ofNat A.slots.size), .null]) (rest := []) rfl rfl (by show 2 * 0 + 0 ≤ _; decide) (hb hbytes d6) (⟨rfl, hB.mv X0.warmed.alike hh0, f1.al X0.warmed.alike, f2.al X0.warmed.alike, hA.mv X0.warmed.alike hh0, s1.there X0.warmed.alike hh0, hz, l0, by omega, l2, fun i hi => by rw [Nat.zero_add]; exact hp i hi⟩)
  have e0 := Got.mv _ s₁ s _ _ hh0.symm (Vm.Alike.refl _) rfl E3
  obtain rfl := e0.1
  have c4 : Steps p.tables e below (s₁.setTop (entryFrame m #[.ref a, .ref b] 2)) (T3.setTop (mkF m 9 #[.val (.ref a), .val (.ref b)] [])) := g3
  exact ⟨T3, none, _, _, _, X3, by simp, rfl, by omega, (fun _ => rfl), e0, fun fs hl => c4.trans (X3.returnOut hexec hret (hb hbytes d9) hl)⟩
theorem pays {l : Launch} {R : Room} {p : Program} {e : Env} {below : List Frame} {s : State} {sargs : Array Value} {len W : Nat} (a : Addr) (D : Cell) (fV fC : Field) (b : Addr) (A : Cell) (z : Int32) (htab : tab.before sargs s = true) (hfr : 4 ≤ R.frames) (hlo : W + 65 ≤ R.locals) :
    Back l R p e below s sargs yN len W (fun A₁ a₁ => A₁.cells + 1 ≤ R.cells ∧ A₁.slots + A.slots.size ≤ R.slots ∧ P a D fV fC b A z a₁ A₁.U) (fun A₁ _ v₁ B₁ => E a D fV fC A v₁ A₁.U B₁.U ∧ B₁.locs = A₁.locs ++ [⟨a, fC.slot⟩, ⟨a, fV.slot⟩] ∧ B₁.cells = A₁.cells + 1 ∧ B₁.slots = A₁.slots + A.slots.size) :=
  (law l a D fV fC b A z).pays htab hfr (by omega)
end New1
/-- the byte, read back as charAt reads it, is the char -/
theorem lo8_mask {x : Int32} (h0 : ¬ x < 0) (h1 : ¬ 255 < x) : lo8 x &&& 255 = x := by
  have t : ∀ k : Fin 256, lo8 (Int32.ofNat k.val) &&& 255 = Int32.ofNat k.val := by decide +kernel
  rw [Int32.lt_iff_toInt_lt] at h0 h1
  have e0 : (0 : Int32).toInt = 0 := rfl
  have e1 : (255 : Int32).toInt = 255 := rfl
  obtain ⟨k, hk⟩ : ∃ k : Nat, x.toInt = k := ⟨x.toInt.toNat, by omega⟩
  have hx : x = Int32.ofNat k := Int32.toInt_inj.mp (by rw [hk, Int32.toInt_ofNat_small (by omega)])
  rw [hx]
  exact t ⟨k, by omega⟩
end StrChars
namespace StrChars.Road
open Jvm Sem ClassFile Op Lib Jvm.Stand Jvm.Free Jvm.Free.XT
open Jvm.Lib.Cold (StaticIs)
abbrev ST : String := "java/lang/String"
/-- every table word that New1's law asks, flat -/
abbrev words : List Jvm.Cond := [.code New1.yN New1.yB 2 none, .initialized ST, .methodLink ST 27 New4.yN, .instanceMethod New4.yN,
  .code New4.yN New4.yB 6 none, .fieldLink ST 38 ST "COMPACT_STRINGS" "Z", .laysFinal ST ST "value" "[B", .fieldLink ST 9 ST "value" "[B", .laysFinal ST ST "coder" "B", .fieldLink ST 15 ST "coder" "B",
  .methodLink ST 1 Lib.objectInit, .instanceMethod Lib.objectInit, .code Lib.objectInit ⟨#[0xb1]⟩ 1 none, .methodLink ST 177 Cmp3.yN, .static Cmp3.yN, .methodLink ST 47 CodL.yN, .static CodL.yN,
  .code Cmp3.yN Cmp3.yB 6 (some (.array .byte)), .initialized U16, .arrayClass .byte, .methodLink U16 115 Cmp5.yN, .static Cmp5.yN, .code Cmp5.yN Cmp5.yB 7 (some .int), .code CodL.yN CodL.yB 2 (some .byte)]
theorem tab_of {a : Array Value} {s : State} (h : ∀ w ∈ words, w.before a s = true) : New1.tab.before a s = true := by
  have h5 : Cmp5.tab.before a s = true := unparts (wk h (.code Cmp5.yN Cmp5.yB 7 (some .int))) (wks h (.initialized Cmp5.yN.cls :: Cmp5.site))
  have hc : CodL.tab.before a s = true := unparts (wk h (.code CodL.yN CodL.yB 2 (some .byte))) (wks h (.initialized CodL.yN.cls :: CodL.site))
  have q5 : ∀ w ∈ Cmp5.tab :: words, w.before a s = true := fun w hw => (List.mem_cons.mp hw).elim (fun e => e ▸ h5) (h w)
  have h3 : Cmp3.tab.before a s = true := unparts (wk q5 (.code Cmp3.yN Cmp3.yB 6 (some (.array .byte)))) (wks q5 (.initialized Cmp3.yN.cls :: Cmp3.site))
  have q3 : ∀ w ∈ Cmp3.tab :: CodL.tab :: words, w.before a s = true := fun w hw => (List.mem_cons.mp hw).elim (fun e => e ▸ h3) fun hw => (List.mem_cons.mp hw).elim (fun e => e ▸ hc) (h w)
  have h4 : New4.tab.before a s = true := unparts (wk q3 (.code New4.yN New4.yB 6 none)) (wks q3 (.initialized New4.yN.cls :: New4.site))
  have q4 : ∀ w ∈ New4.tab :: words, w.before a s = true := fun w hw => (List.mem_cons.mp hw).elim (fun e => e ▸ h4) (h w)
  exact unparts (wk q4 (.code New1.yN New1.yB 2 none)) (wks q4 (.initialized New1.yN.cls :: New1.site))
/-- the words ride from the start Z to the walk's own state -/
theorem moved {Z s : State} {a0 args : Array Value} (hZ : Z.Warmed39 s.vm) (hw : ∀ d ∈ words, d.before a0 Z = true) : ∀ d ∈ words, d.before args s = true := fun d hd => by
  have q := hw d hd
  have t : ∀ d ∈ words, d = .arrayClass .byte ∨ (d.onTables && d.keepsFace) = true := by decide +kernel
  rcases t d hd with rfl | t
  · exact RoadKit.mvA hZ q
  · exact RoadKit.mv hZ q t
/-- WHAT COMES BACK, over the tables of the start Z: h the heap at the call, h' behind it -/
def Q (Z : State) (x : Addr) (A : Cell) (h : Heap) (v : Option Value) (h' : Heap) (L : List Loc) : Prop := v = none ∧ (∀ y ∈ L, y.base = x) ∧ RoadKit.Keep h h' [x] ∧ h'.size = h.size + 1 ∧ RoadKit.Exa Z h' x ST ∧ RoadKit.Fld Z h' x ST "value" "[B" (.ref h.size) ∧ RoadKit.Fld Z h' x ST "coder" "B" (.int 0) ∧
  (∃ V : Cell, RoadKit.Arr Z h' h.size V .byte ∧ V.vm = .none ∧ Z.vm.findClass "[B" = some V.cls ∧ V.slots.size = A.slots.size ∧ ∀ j, j < A.slots.size → V.slots[j]? = some (.int (lo8 (cv A j)))) ∧
  ∀ (O n d : String) (w : Value), RoadKit.Fld Z h x O n d w → RoadKit.slotOf Z O n d ≠ RoadKit.slotOf Z ST "value" "[B" → RoadKit.slotOf Z O n d ≠ RoadKit.slotOf Z ST "coder" "B" → RoadKit.Fld Z h' x O n d w
/-- **new String(chars) AT A CALL, IN THE ROAD'S FORM**: for specialBack behind newO: x the fresh String, b the char[] with the cell A -/
theorem back {p : Program} {l : Launch} {e : Env} {R : Room} {s : State} {args : Array Value} {below : List Frame} {len W : Nat} {Z : State} {a0 : Array Value} {h : Heap} (hZ : Z.Warmed39 s.vm) (hw : ∀ d ∈ words, d.before a0 Z = true) {kI : Nat} (wi : (Jvm.Cond.instantiable ST kI).before a0 Z = true)
    {x b : Addr} {A : Cell} {z : Int32} {v0 c0 : Value} (E : RoadKit.Exa Z h x ST) (V : RoadKit.Fld Z h x ST "value" "[B" v0) (C : RoadKit.Fld Z h x ST "coder" "B" c0) (K : RoadKit.Arr Z h b A .char) (hty : Typed .char A) (S : RoadKit.Sta Z h ST "COMPACT_STRINGS" "Z" (.int z)) (hz : ¬ z = 0)
    (l0 : 0 < A.slots.size) (l2 : A.slots.size ≤ 536870912) (hp : ∀ i, i < A.slots.size → ¬ 255 < cv A i) (hfr : 4 ≤ R.frames) (hlo : W + 65 ≤ R.locals) :
    Back l R p e below s args New1.yN len W (fun P a => a = #[.ref x, .ref b] ∧ P.U.heap = h ∧ P.cells + 1 ≤ R.cells ∧ P.slots + A.slots.size ≤ R.slots)
      (fun P _ v B => ∃ L, Q Z x A h v B.U.heap L ∧ B.locs = P.locs ++ L ∧ B.cells = P.cells + 1 ∧ B.slots = P.slots + A.slots.size) := by
  intro m meth c P g ig mk a X hg hsize hdg hW hn hp'
  obtain ⟨rfl, rfl, r1, r2⟩ := hp'
  have al : Z.vm.Alike P.U.vm := hZ.alike.trans X.warmed.alike
  obtain ⟨D, cfV, kV, iV, fV, hD, gV, stV, knV, obV, asV, slV⟩ := id V
  obtain ⟨D', cfC, kC, iC, fC, hD', gC, stC, -, -, asC, slC⟩ := id C
  cases hD.symm.trans hD'
  obtain ⟨D2, kD, e1, e2, e3, e4, e5⟩ := id E
  cases hD.symm.trans e1
  obtain ⟨c2, k2, i1, i2, i3, -⟩ := Cond.instantiable_spec wi
  cases e2.symm.trans i1
  cases e3.symm.trans i2
  obtain ⟨kU, u1, u2⟩ := al.2.2 _ _ e3
  have hB : Blank ST x D P.U := ⟨hD, ⟨knV, fun q hq => by rw [hq] at obV; cases obV⟩, by rw [al.findClass]; exact e2, kU, u1, by rw [u2]; exact i3, by rw [u2]; exact e5 i3⟩
  have F1 : Found ST "value" "[B" fV P.U := ⟨SBG.found_only al ⟨cfV, kV, iV, gV⟩, stV⟩
  have F2 : Found ST "coder" "B" fC P.U := ⟨SBG.found_only al ⟨cfC, kC, iC, gC⟩, stC⟩
  have hA : Ch b A P.U := ⟨⟨K.1, State.isArrayOf_alike al K.2.1, K.2.2, by omega⟩, hty⟩
  have hS : StaticIs P.U ST "COMPACT_STRINGS" "Z" (.int z) := by
    obtain ⟨cfS, iS, kS, fS, st, cS, t1, t2, t3, t4, t5, t6, t7⟩ := S
    exact StaticIs.there (s := { Z with heap := P.U.heap }) ⟨cfS, iS, kS, fS, st, cS, t1, t2, t3, t4, t5, (fun q => by rw [q] at t6; cases t6), t7⟩ al rfl
  obtain ⟨v, B, X', ⟨⟨hv, E', V', q1, q2, q3, q4, q5, q6, q7, q8, q9, q10, q11⟩, hl, hc, hs⟩, st⟩ := New1.pays x D fV fC b A z (tab_of (moved hZ hw)) hfr hlo m meth c P g ig mk _ X hg hsize hdg hW hn ⟨r1, r2, rfl, hB, F1, F2, hA, hS, hz, l0, l2, hp⟩
  have al' : Z.vm.Alike B.U.vm := hZ.alike.trans X'.warmed.alike
  have hsz : E'.slots.size = D.slots.size := by
    obtain ⟨-, -, -, kB, w1, w2, w3⟩ := q1
    obtain ⟨kB', y1, y2⟩ := al'.2.2 _ _ e3
    rw [q2.2.1] at w1
    cases w1.symm.trans y1
    rw [w3, e5 i3, y2]
  refine ⟨v, B, X', ⟨_, ⟨hv, ?_, ⟨by omega, fun y cy hy hn' => q10 y cy (by simpa using hn') hy, fun y cy hy => ?_⟩, q11, ⟨E', _, q1.1, by rw [q2.2.1]; exact e2, by rw [q2.2.1]; exact e3, by rw [q2.1]; exact obV, fun _ => by rw [hsz]; exact e5 i3⟩,
    ⟨E', cfV, kV, iV, fV, q1.1, gV, stV, by rw [q2.1]; exact knV, by rw [q2.1]; exact obV, by rw [q2.2.1]; exact asV, q3⟩, ⟨E', cfC, kC, iC, fC, q1.1, gC, stC, by rw [q2.1]; exact knV, by rw [q2.1]; exact obV, by rw [q2.2.1]; exact asC, q4⟩,
    ⟨V', ⟨q5.1, State.isArrayOf_alike al'.symm q5.2.1, q5.2.2.1⟩, q6, by rw [← al'.findClass]; exact q7, q8, fun j hj => by have := q9 j hj; rwa [Nat.zero_add] at this⟩, fun O n d w F n1 n2 => ?_⟩, hl, hc, hs⟩, st⟩
  · intro y hy
    simp only [List.mem_cons, List.not_mem_nil, or_false] at hy
    rcases hy with rfl | rfl <;> rfl
  · by_cases q : y = x
    · subst q
      cases hD.symm.trans hy
      exact ⟨E', q1.1, q2.2.1, q2.1, hsz⟩
    · exact ⟨cy, q10 y cy q hy, rfl, rfl, rfl⟩
  · obtain ⟨D3, cf, k, i, f, g1, g2, g3, g4, g5, g6, g7⟩ := F
    cases hD.symm.trans g1
    simp only [RoadKit.slotOf, g2, gV, gC, Option.map_some, Option.getD_some] at n1 n2
    exact ⟨E', cf, k, i, f, q1.1, g2, g3, by rw [q2.1]; exact g4, by rw [q2.1]; exact g5, by rw [q2.2.1]; exact g6, by rw [q2.2.2 f.slot (by simp [n1, n2])]; exact g7⟩
end StrChars.Road
namespace StrChars.Road
open Jvm Sem ClassFile Op Lib Jvm.Stand Jvm.Free Jvm.Free.XT
/-- WHAT COMES BACK, the byte[] as a list of values -/
def QA (Z : State) (x : Addr) (zn : Int32) (cs : List Int32) (h : Heap) (v : Option Value) (h' : Heap) (L : List Loc) : Prop := v = none ∧ (∀ y ∈ L, y.base = x) ∧ RoadKit.Keep h h' [x] ∧ h'.size = h.size + 1 ∧ RoadKit.Exa Z h' x ST ∧ RoadKit.Fld Z h' x ST "value" "[B" (.ref h.size) ∧ RoadKit.Fld Z h' x ST "coder" "B" (.int 0) ∧
  (∃ kb, Z.vm.findClass "[B" = some kb ∧ RoadKit.Arv Z h' h.size kb .byte zn (cs.map fun c => .int (lo8 c)) (.int 0)) ∧
  ∀ (O n d : String) (w : Value), RoadKit.Fld Z h x O n d w → RoadKit.slotOf Z O n d ≠ RoadKit.slotOf Z ST "value" "[B" → RoadKit.slotOf Z O n d ≠ RoadKit.slotOf Z ST "coder" "B" → RoadKit.Fld Z h' x O n d w
/-- **new String(chars) AT A CALL, THE ARRAYS AS LISTS**: the char[] at b holds cs, not empty, no char above 255 -/
theorem backArv {p : Program} {l : Launch} {e : Env} {R : Room} {s : State} {args : Array Value} {below : List Frame} {len W : Nat} {Z : State} {a0 : Array Value} {h : Heap} (hZ : Z.Warmed39 s.vm) (hw : ∀ d ∈ words, d.before a0 Z = true) {kI : Nat} (wi : (Jvm.Cond.instantiable ST kI).before a0 Z = true)
    {x b : Addr} {k : ClassId} {zn z : Int32} {cs : List Int32} {dv v0 c0 : Value} (E : RoadKit.Exa Z h x ST) (V : RoadKit.Fld Z h x ST "value" "[B" v0) (C : RoadKit.Fld Z h x ST "coder" "B" c0) (K : RoadKit.Arv Z h b k .char zn (cs.map Value.int) dv) (S : RoadKit.Sta Z h ST "COMPACT_STRINGS" "Z" (.int z)) (hz : ¬ z = 0)
    (hlen : zn.toNatClampNeg = cs.length) (h0 : 0 < cs.length) (hbig : cs.length ≤ 536870912) (hall : ∀ c ∈ cs, ¬ 255 < c) (hfr : 4 ≤ R.frames) (hlo : W + 65 ≤ R.locals) :
    Back l R p e below s args New1.yN len W (fun P a => a = #[.ref x, .ref b] ∧ P.U.heap = h ∧ P.cells + 1 ≤ R.cells ∧ P.slots + cs.length ≤ R.slots)
      (fun P _ v B => ∃ L, QA Z x zn cs h v B.U.heap L ∧ B.locs = P.locs ++ L ∧ B.cells = P.cells + 1 ∧ B.slots = P.slots + cs.length) := by
  obtain ⟨A, K1, K2, K3, K4, K5, K6⟩ := K
  have e : A.slots.size = cs.length := K3.trans hlen
  have hat : ∀ (i : Nat) (hi : i < cs.length), A.slots[i]? = some (.int cs[i]) := fun i hi => by rw [K5 i (by omega)]; simp [List.getD_eq_getElem?_getD, hi]
  have hcv : ∀ (i : Nat) (hi : i < cs.length), cv A i = cs[i] := fun i hi => by unfold cv; rw [hat i hi]
  have hty : Typed .char A := fun i v hv => by
    have hi : i < A.slots.size := (Array.getElem?_eq_some_iff.mp hv).1
    have q := K5 i hi
    rw [hv] at q
    rw [Option.some.inj q]
    exact K6 i hi
  refine Back.mono (back hZ hw wi E V C K1 hty S hz (by omega) (by omega) (fun i hi => by rw [hcv i (by omega)]; exact hall _ (List.getElem_mem _)) hfr hlo) (fun P a hp => ⟨hp.1, hp.2.1, hp.2.2.1, by rw [e]; exact hp.2.2.2⟩) (fun P a v B hp hq => ?_)
  obtain ⟨L, ⟨q1, q2, q3, q4, q5, q6, q7, ⟨V', v1, v2, v3, v4, v5⟩, q9⟩, hl, hc, hs⟩ := hq
  refine ⟨L, ⟨q1, q2, q3, q4, q5, q6, q7, ⟨V'.cls, v3, V', v1, rfl, by rw [v4, e, hlen], K4, fun i hi => ?_, fun i hi => ?_⟩, q9⟩, hl, hc, by rw [hs, e]⟩
  · have hi' : i < cs.length := by omega
    rw [v5 i (by omega), hcv i hi']; simp [List.getD_eq_getElem?_getD, hi']
  · have hi' : i < cs.length := by omega
    simp only [List.getD_eq_getElem?_getD, List.getElem?_map, List.getElem?_eq_getElem hi', Option.map_some, Option.getD_some]
    exact fits_lo8 _
end StrChars.Road
namespace StrChars.Road
open Jvm Sem ClassFile Op Lib Jvm.Stand Jvm.Free Jvm.Free.XT
/-- WHAT COMES BACK, in the writer's own shape -/
def QV (Z : State) (x : Addr) (N : Int32) (bs : List Int32) (h : Heap) (n0 : Nat) (v : Option Value) (h' : Heap) (L : List Loc) : Prop := v = none ∧ RoadKit.Fr n0 L ∧ RoadKit.Keep h h' [x] ∧ RoadKit.Exa Z h' x ST ∧ RoadKit.Fld Z h' x ST "coder" "B" (.int 0) ∧
  ∃ (t : Addr) (kb : ClassId), n0 ≤ t ∧ h.size ≤ t ∧ ¬ t = x ∧ RoadKit.Fld Z h' x ST "value" "[B" (.ref t) ∧ RoadKit.Arv Z h' t kb .byte N (bs.map Value.int) (.int 0)
/-- **new String(chars) AT A CALL, FOR THE WRITER**: a char[] of n known ints, each 0 to 255 -/
theorem backV {p : Program} {l : Launch} {e : Env} {R : Room} {s : State} {args : Array Value} {below : List Frame} {len W : Nat} {Z : State} {a0 : Array Value} {h : Heap} (hZ : Z.Warmed39 s.vm) (hw : ∀ d ∈ words, d.before a0 Z = true) {kI : Nat} (wi : (Jvm.Cond.instantiable ST kI).before a0 Z = true)
    {x b : Addr} {kC : ClassId} {cs bs : List Int32} {d v0 c0 : Value} {z N : Int32} {n n0 : Nat} (hx0 : n0 ≤ x) (hh0 : n0 ≤ h.size) (E : RoadKit.Exa Z h x ST) (V : RoadKit.Fld Z h x ST "value" "[B" v0) (C : RoadKit.Fld Z h x ST "coder" "B" c0) (K : RoadKit.Arv Z h b kC .char N (cs.map Value.int) d) (S : RoadKit.Sta Z h ST "COMPACT_STRINGS" "Z" (.int z)) (hz : ¬ z = 0)
    (hn : cs.length = n) (hN : N = Int32.ofNat n) (l0 : 0 < n) (l2 : n ≤ 4000) (hp : ∀ c ∈ cs, ¬ c < 0 ∧ ¬ (255 : Int32) < c) (hb : bs = cs.map (fun c => c.toInt8.toInt32)) (hfr : 4 ≤ R.frames) (hlo : W + 65 ≤ R.locals) :
    Back l R p e below s args (⟨"java/lang/String", "<init>", "([C)V"⟩ : MethodName) len W (fun P a => a = #[.ref x, .ref b] ∧ P.U.heap = h ∧ P.cells + 1 ≤ R.cells ∧ P.slots + n ≤ R.slots)
      (fun P _ v B => ∃ L, QV Z x N bs h n0 v B.U.heap L ∧ B.locs = P.locs ++ L ∧ B.cells = P.cells + 1 ∧ B.slots = P.slots + n) := by
  subst hn hN hb
  refine Back.mono (backArv hZ hw wi E V C K S hz (n32 (by omega)) l0 (by omega) (fun c hc => (hp c hc).2) hfr hlo) (fun P a hp => hp) (fun P a v B hp hq => ?_)
  obtain ⟨L, ⟨q1, q2, q3, q4, q5, q6, q7, ⟨kb, v1, v2⟩, q9⟩, hl, hc, hs⟩ := hq
  exact ⟨L, ⟨q1, fun y hy => by rw [q2 y hy]; exact hx0, q3, q5, q7, h.size, kb, hh0, Nat.le_refl _, Nat.ne_of_gt E.lt, q6, by rw [List.map_map]; exact v2⟩, hl, hc, hs⟩
end StrChars.Road
namespace StrChars
open Jvm Sem ClassFile Op Lib Jvm.Stand Jvm.Free.XT Jvm.Free.ALB Jvm.Free.JM Jvm.Free
open Jvm.Lib.Cold (StaticIs)
def hi8 (x : Int32) : Int32 := lo8 (x >>> ((8 : Int32) &&& 31))
/-- what StringUTF16.getChar makes of two bytes -/
def pairCh (u v : Int32) : Int32 := (((u &&& 255) <<< ((0 : Int32) &&& 31)) ||| ((v &&& 255) <<< ((8 : Int32) &&& 31))).toUInt32.toUInt16.toUInt32.toInt32
theorem shr0 (c : Int32) : c >>> ((0 : Int32) &&& 31) = c := by
  have e : ((0 : Int32) &&& 31) = 0 := by decide
  rw [e]
  apply Int32.toBitVec_inj.mp
  rw [Int32.toBitVec_shiftRight]
  have e1 : ((0 : Int32).toBitVec.smod 32) = 0#32 := by decide
  rw [e1, BitVec.sshiftRight_eq']
  exact BitVec.sshiftRight_zero
theorem lo8_and (x : Int32) : (lo8 x &&& 255).toBitVec.toNat = x.toBitVec.toNat % 256 := by
  have h : (lo8 x).toBitVec = (x.toBitVec.signExtend 8).signExtend 32 := by rw [lo8, Int8.toBitVec_toInt32, Int32.toBitVec_toInt8]
  rw [Int32.toBitVec_and, BitVec.toNat_and, h]
  have e : ((x.toBitVec.signExtend 8).signExtend 32).toNat % 256 = x.toBitVec.toNat % 256 := by
    rw [BitVec.toNat_signExtend]
    have hlt := x.toBitVec.isLt
    simp only [BitVec.toNat_setWidth, BitVec.toNat_signExtend]
    split <;> split <;> omega
  rw [← e]
  exact Nat.and_two_pow_sub_one_eq_mod _ 8
theorem pair_says {c : Int32} (h0 : ¬ c < 0) (h1 : ¬ 65535 < c) : pairCh (lo8 c) (hi8 c) = c := by
  rw [Int32.lt_iff_toInt_lt] at h0 h1
  have e0 : (0 : Int32).toInt = 0 := rfl
  have e1 : (65535 : Int32).toInt = 65535 := rfl
  have hc : c.toInt = c.toBitVec.toNat := by
    have := c.toBitVec.isLt
    have e : c.toInt = c.toBitVec.toInt := rfl
    rw [e] at h0 h1
    rw [e]
    rw [BitVec.toInt_eq_toNat_cond] at h0 h1 ⊢
    split at h0 <;> split <;> omega
  have hn : c.toBitVec.toNat < 65536 := by omega
  have a1 := lo8_and c
  have a2 : (hi8 c &&& 255).toBitVec.toNat = c.toBitVec.toNat / 256 := by
    rw [hi8, lo8_and]
    have e : ((8 : Int32) &&& 31) = 8 := by decide
    rw [e, Int32.toBitVec_shiftRight]
    have e2 : ((8 : Int32).toBitVec.smod 32) = 8#32 := by decide
    rw [e2, BitVec.sshiftRight_eq', BitVec.toNat_sshiftRight_of_msb_false (by rw [BitVec.msb_eq_false_iff_two_mul_lt]; omega)]
    show c.toBitVec.toNat >>> 8 % 256 = _
    rw [Nat.shiftRight_eq_div_pow]
    omega
  unfold pairCh
  apply Int32.toBitVec_inj.mp
  apply BitVec.eq_of_toNat_eq
  have f0 : ((0 : Int32) &&& 31) = 0 := by decide
  have f8 : ((8 : Int32) &&& 31) = 8 := by decide
  rw [f0, f8]
  have g : (((lo8 c &&& 255) <<< (0 : Int32)) ||| ((hi8 c &&& 255) <<< (8 : Int32))).toBitVec.toNat = c.toBitVec.toNat := by
    rw [Int32.toBitVec_or, Int32.toBitVec_shiftLeft, Int32.toBitVec_shiftLeft]
    have s0 : ((0 : Int32).toBitVec.smod 32) = 0#32 := by decide
    have s8 : ((8 : Int32).toBitVec.smod 32) = 8#32 := by decide
    rw [s0, s8, BitVec.toNat_or]
    simp only [BitVec.shiftLeft_eq', BitVec.toNat_shiftLeft, a1, a2]
    show (c.toBitVec.toNat % 256) <<< 0 % 2 ^ 32 ||| (c.toBitVec.toNat / 256) <<< 8 % 2 ^ 32 = _
    rw [Nat.shiftLeft_zero, Nat.mod_eq_of_lt (show c.toBitVec.toNat % 256 < 2 ^ 32 by omega), Nat.mod_eq_of_lt (show (c.toBitVec.toNat / 256) <<< 8 < 2 ^ 32 by rw [Nat.shiftLeft_eq]; omega), Nat.or_comm, ← Nat.shiftLeft_add_eq_or_of_lt (by omega), Nat.shiftLeft_eq]
    omega
  show BitVec.toNat (((((lo8 c &&& 255) <<< (0 : Int32)) ||| ((hi8 c &&& 255) <<< (8 : Int32))).toBitVec.setWidth 16).setWidth 32) = _
  rw [BitVec.toNat_setWidth, BitVec.toNat_setWidth, g]
  omega
end StrChars
namespace StrChars
open Jvm Sem ClassFile Op Lib Jvm.Stand Jvm.Free.XT Jvm.Free.ALB Jvm.Free.JM Jvm.Free
open Jvm.Lib.Cold (StaticIs)
theorem shr1 {n : Nat} (h : 2 * n < 2 ^ 31) : Int32.ofNat (2 * n) >>> ((1 : Int32) &&& 31) = Int32.ofNat n := by
  have e : ((1 : Int32) &&& 31) = 1 := by decide
  rw [e]
  apply Int32.toBitVec_inj.mp
  rw [Int32.toBitVec_shiftRight]
  have e1 : ((1 : Int32).toBitVec.smod 32) = 1#32 := by decide
  have hm : (BitVec.ofNat 32 (2 * n)).toNat = 2 * n := by rw [BitVec.toNat_ofNat, Nat.mod_eq_of_lt (by omega)]
  rw [e1, BitVec.sshiftRight_eq']
  apply BitVec.eq_of_toNat_eq
  show ((BitVec.ofNat 32 (2 * n)).sshiftRight 1).toNat = (BitVec.ofNat 32 n).toNat
  rw [BitVec.toNat_sshiftRight_of_msb_false (by rw [BitVec.msb_eq_false_iff_two_mul_lt, hm]; omega), hm, BitVec.toNat_ofNat, Nat.shiftRight_eq_div_pow]
  omega
/-- charAt's cast of a byte read back -/
def chr8 (u : Int32) : Int32 := (u &&& 255).toUInt32.toUInt16.toUInt32.toInt32
theorem chr8_lo8 {c : Int32} (h0 : ¬ c < 0) (h1 : ¬ 255 < c) : chr8 (lo8 c) = c := by
  have t : ∀ k : Fin 256, (Int32.ofNat k.val).toUInt32.toUInt16.toUInt32.toInt32 = Int32.ofNat k.val := by decide +kernel
  unfold chr8
  rw [lo8_mask h0 h1]
  rw [Int32.lt_iff_toInt_lt] at h0 h1
  have e0 : (0 : Int32).toInt = 0 := rfl
  have e1 : (255 : Int32).toInt = 255 := rfl
  obtain ⟨k, hk⟩ : ∃ k : Nat, c.toInt = k := ⟨c.toInt.toNat, by omega⟩
  have hx : c = Int32.ofNat k := Int32.toInt_inj.mp (by rw [hk, Int32.toInt_ofNat_small (by omega)])
  rw [hx]
  exact t ⟨k, by omega⟩
theorem narrow_ch {c : Int32} (h0 : ¬ c < 0) (h1 : ¬ 65535 < c) : narrow .char (.int c) = .int c := by
  have q : narrow .char (.int (pairCh (lo8 c) (hi8 c))) = .int (pairCh (lo8 c) (hi8 c)) := narrow_c _
  rwa [pair_says h0 h1] at q
/-- the array's cell V codes the n chars f 0 .. f (n - 1) by the coder cd, as the JDK does: coder 1 just where some char is above 255 -/
def Cod (cd : Int32) (n : Nat) (f : Nat → Int32) (V : Cell) : Prop := (cd = 0 ∧ V.slots.size = n ∧ ∀ j, j < n → V.slots[j]? = some (.int (lo8 (f j))) ∧ ¬ 255 < f j) ∨ (cd = 1 ∧ V.slots.size = 2 * n ∧ (∀ j, j < n → V.slots[2 * j]? = some (.int (lo8 (f j))) ∧ V.slots[2 * j + 1]? = some (.int (hi8 (f j)))) ∧ ∃ j, j < n ∧ 255 < f j)
theorem Cod.cd {cd : Int32} {n : Nat} {f : Nat → Int32} {V : Cell} (h : Cod cd n f V) : cd = 0 ∨ cd = 1 := h.imp (fun q => q.1) fun q => q.1
theorem Cod.len {cd : Int32} {n : Nat} {f : Nat → Int32} {V : Cell} (h : Cod cd n f V) (hs : V.slots.size < 2 ^ 31) : Int32.ofNat V.slots.size >>> (cd &&& 31) = Int32.ofNat n := by
  rcases h with ⟨rfl, h, -⟩ | ⟨rfl, h, -⟩
  · rw [shr0, h]
  · rw [h, shr1 (by omega)]
/-- **x is a String of the n chars f 0 .. f (n - 1)**, Latin-1 or UTF-16; its array at t has the cell V -/
def Txt (x t : Addr) (V : Cell) (cd : Int32) (n : Nat) (f : Nat → Int32) (U : State) : Prop := Exact "java/lang/String" x U ∧ Has x "java/lang/String" "value" "[B" (.ref t) U ∧ Has x "java/lang/String" "coder" "B" (.int cd) U ∧ XT.Arr .byte t V U ∧ Cod cd n f V ∧ ∀ j, j < n → ¬ f j < 0 ∧ ¬ 65535 < f j
theorem Txt.mv {x t : Addr} {V : Cell} {cd : Int32} {n : Nat} {f : Nat → Int32} {U U' : State} (h : Txt x t V cd n f U) (hal : U.vm.Alike U'.vm) (hh : U'.heap = U.heap) : Txt x t V cd n f U' := ⟨h.1.mv hal hh, h.2.1.mv hal hh, h.2.2.1.mv hal hh, h.2.2.2.1.mv hal hh, h.2.2.2.2⟩
namespace Cdr
def yN : MethodName := ⟨"java/lang/String", "coder", "()B"⟩
abbrev yB : ByteArray := jdk_42_method_152_code
theorem d0 : decode yB 0 = .ok (.getstatic 38, 3) := by decide +kernel
theorem d3 : decode yB 3 = .ok (.ifCond (.eq) 10, 3) := by decide +kernel
theorem d6 : decode yB 6 = .ok (.aload_n 0, 1) := by decide +kernel
theorem d7 : decode yB 7 = .ok (.getfield 15, 3) := by decide +kernel
theorem d10 : decode yB 10 = .ok (.goto 4, 3) := by decide +kernel
theorem d14 : decode yB 14 = .ok (.ireturn, 1) := by decide +kernel
def site : List Cond := [.fieldLink "java/lang/String" 38 "java/lang/String" "COMPACT_STRINGS" "Z", .fieldLink "java/lang/String" 15 "java/lang/String" "coder" "B"]
def tab : Cond := tabOf yN yB 1 (some .byte) site
def P (x : Addr) (cd z : Int32) (args : Array Value) (s : State) : Prop := args = #[.ref x] ∧ Has x "java/lang/String" "coder" "B" (.int cd) s ∧ (cd = 0 ∨ cd = 1) ∧ StaticIs s "java/lang/String" "COMPACT_STRINGS" "Z" (.int z) ∧ ¬ z = 0
def E (cd : Int32) (r : Option Value) (s u : State) : Prop := XT.PureE (some (.int cd)) r s u
theorem law (l : Launch) (x : Addr) (cd z : Int32) : Law l yN 1 0 0 0 yB 1 (some .byte) site (P x cd z) (E cd) [] 0 0 := by
  refine Law.of_walk (plainFor_of_name (by decide +kernel)) (by decide +kernel) (by decide +kernel) (by decide) (fun _ _ h => by rw [h.1]; rfl) (fun _ U U' hal hh h => ⟨h.1, h.2.1.mv hal hh, h.2.2.1, h.2.2.2.1.there hal hh, h.2.2.2.2⟩) (fun r U U' V V' h1 hal h2 h => XT.PureE.mv r U U' V V' h1 hal h2 h) ?_
  intro p e s m args below meth c s₁ X0 hexec hbytes hml hret hlk hnm hown hh0 W hP
  obtain ⟨rfl, hx, hc, s1, hz⟩ := hP
  have c1 : Steps p.tables e below (s₁.setTop (entryFrame m #[.ref x] 1)) (s₁.setTop (mkF m 0 #[.val (.ref x)] [])) := entry rfl
  obtain ⟨T2, X2, q2, st2⟩ := X0.sget hexec hown (wk W (.fieldLink "java/lang/String" 38 "java/lang/String" "COMPACT_STRINGS" "Z")) s1 (fun _ _ h => by rw [hh0]; exact h) (g := (mkF m 0 #[.val (.ref x)] [])) rfl (hb hbytes d0)
  have hh2 := q2.trans hh0
  have c3 : Steps p.tables e below (s₁.setTop (entryFrame m #[.ref x] 1)) (T2.setTop (mkF m 7 #[.val (.ref x)] [.ref x])) := (c1.trans (st2 _ (Steps.refl _))).trans (by
    refine XS.ifNo X2.here hexec rfl (hb hbytes d3) rfl (i0_eq_f hz) ?_
    refine XS.aloadN X2.here hexec rfl (hb hbytes d6) rfl rfl ?_
    exact Steps.refl _)
  obtain ⟨T4, X4, q4, st4⟩ := X2.hget hexec hown (wk W (.fieldLink "java/lang/String" 15 "java/lang/String" "coder" "B")) (hx.mv X2.warmed.alike hh2) (g := (mkF m 7 #[.val (.ref x)] [.ref x])) rfl (rest := []) rfl (hb hbytes d7)
  have c5 : Steps p.tables e below (s₁.setTop (entryFrame m #[.ref x] 1)) (T4.setTop (mkF m 14 #[.val (.ref x)] [.int cd])) := (c3.trans (st4 _ (Steps.refl _))).trans (by
    refine XS.goto X4.here hexec rfl (pc0 := 10) rfl (hb hbytes d10) (by decide) rfl ?_
    exact Steps.refl _)
  exact ⟨T4, some (.int cd), _, _, _, X4, rfl, rfl, rfl, (fun h => by cases h), ⟨rfl, q4.trans hh2⟩, fun fs hl => c5.trans (X4.ireturnOut hexec hret (by rcases hc with rfl | rfl <;> rfl) (Or.inr (Or.inr (Or.inl rfl))) (hb hbytes d14) hl)⟩
end Cdr
namespace Len
def yN : MethodName := ⟨"java/lang/String", "length", "()I"⟩
abbrev yB : ByteArray := jdk_42_method_54_code
theorem d0 : decode yB 0 = .ok (.aload_n 0, 1) := by decide +kernel
theorem d1 : decode yB 1 = .ok (.getfield 9, 3) := by decide +kernel
theorem d4 : decode yB 4 = .ok (.arraylength, 1) := by decide +kernel
theorem d5 : decode yB 5 = .ok (.aload_n 0, 1) := by decide +kernel
theorem d6 : decode yB 6 = .ok (.invokevirtual 335, 3) := by decide +kernel
theorem d9 : decode yB 9 = .ok (.ishr, 1) := by decide +kernel
theorem d10 : decode yB 10 = .ok (.ireturn, 1) := by decide +kernel
def site : List Cond := [.fieldLink "java/lang/String" 9 "java/lang/String" "value" "[B", Cdr.tab] ++ virtW "java/lang/String" 335 "java/lang/String" Cdr.yN Cdr.yN
def tab : Cond := tabOf yN yB 1 (some .int) site
def P (x t : Addr) (V : Cell) (cd : Int32) (n : Nat) (f : Nat → Int32) (z : Int32) (args : Array Value) (s : State) : Prop := args = #[.ref x] ∧ Txt x t V cd n f s ∧ StaticIs s "java/lang/String" "COMPACT_STRINGS" "Z" (.int z) ∧ ¬ z = 0
def E (n : Nat) (r : Option Value) (s u : State) : Prop := XT.PureE (some (.int (Int32.ofNat n))) r s u
/-- length() of a String of n chars, in either coding -/
theorem law (l : Launch) (x t : Addr) (V : Cell) (cd : Int32) (n : Nat) (f : Nat → Int32) (z : Int32) : Law l yN 1 0 1 13 yB 1 (some .int) site (P x t V cd n f z) (E n) [] 0 0 := by
  refine Law.of_walk (plainFor_of_name (by decide +kernel)) (by decide +kernel) (by decide +kernel) (by decide) (fun _ _ h => by rw [h.1]; rfl) (fun _ U U' hal hh h => ⟨h.1, h.2.1.mv hal hh, h.2.2.1.there hal hh, h.2.2.2⟩) (fun r U U' V V' h1 hal h2 h => XT.PureE.mv r U U' V V' h1 hal h2 h) ?_
  intro p e s m args below meth c s₁ X0 hexec hbytes hml hret hlk hnm hown hh0 W hP
  obtain ⟨rfl, hx, s1, hz⟩ := hP
  have v31 := hx.2.2.2.1.2.2.2
  have c1 : Steps p.tables e below (s₁.setTop (entryFrame m #[.ref x] 1)) (s₁.setTop (mkF m 1 #[.val (.ref x)] [.ref x])) := Steps.trans (entry rfl) (by
    show Steps p.tables e below (s₁.setTop (mkF m 0 #[.val (.ref x)] [])) _
    refine XS.aloadN X0.here hexec rfl (hb hbytes d0) rfl rfl ?_
    exact Steps.refl _)
  obtain ⟨T2, X2, q2, st2⟩ := X0.hget hexec hown (wk W (.fieldLink "java/lang/String" 9 "java/lang/String" "value" "[B")) (hx.mv X0.warmed.alike hh0).2.1 (g := (mkF m 1 #[.val (.ref x)] [.ref x])) rfl (rest := []) rfl (hb hbytes d1)
  have hh2 := q2.trans hh0
  have hx2 := hx.mv X2.warmed.alike hh2
  have c3 : Steps p.tables e below (s₁.setTop (entryFrame m #[.ref x] 1)) (T2.setTop (mkF m 6 #[.val (.ref x)] [.ref x, .int (Int32.ofNat V.slots.size)])) := (c1.trans (st2 _ (Steps.refl _))).trans (by
    refine X2.alen hexec hx2.2.2.2.1 rfl rfl (hb hbytes d4) ?_
    refine XS.aloadN X2.here hexec rfl (hb hbytes d5) rfl rfl ?_
    exact Steps.refl _)
  obtain ⟨v4, T4, X4, E4, g4⟩ := X2.callV hexec (Cdr.law l x cd z) hown (wks W (virtW "java/lang/String" 335 "java/lang/String" Cdr.yN Cdr.yN)) rfl (by decide) (wk W Cdr.tab) (W := 1) (Nat.le_of_ble_eq_true rfl) (Nat.le_of_ble_eq_true rfl) (Nat.le_refl _) (Nat.le_refl _) (hx2.1.fc X2.warmed.alike) hx2.1.is (g := (mkF m 6 #[.val (.ref x)] [.ref x, .int (Int32.ofNat V.slots.size)])) rfl (by rw [hml]; rfl) c3 (argsL := []) (rest := [.int (Int32.ofNat V.slots.size)]) rfl rfl (by show 2 * 0 + (1 + 0) ≤ _; decide) (hb hbytes d6) (⟨rfl, hx2.2.2.1, hx.2.2.2.2.1.cd, s1.there X2.warmed.alike hh2, hz⟩)
  obtain ⟨rfl, q4⟩ := E4
  have c5 : Steps p.tables e below (s₁.setTop (entryFrame m #[.ref x] 1)) (T4.setTop (mkF m 10 #[.val (.ref x)] [.int (Int32.ofNat V.slots.size >>> (cd &&& 31))])) := Steps.trans g4 (by
    refine ishr X4.here hexec rfl (hb hbytes d9) rfl ?_
    exact Steps.refl _)
  rw [hx.2.2.2.2.1.len v31] at c5
  exact ⟨T4, some (.int (Int32.ofNat n)), _, _, _, X4, rfl, rfl, rfl, (fun h => by cases h), ⟨rfl, q4.trans hh2⟩, fun fs hl => c5.trans (X4.ireturnOut hexec hret rfl (Or.inl rfl) (hb hbytes d10) hl)⟩
theorem pays {l : Launch} {R : Room} {p : Program} {e : Env} {below : List Frame} {s : State} {sargs : Array Value} {len W : Nat} (x t : Addr) (V : Cell) (cd : Int32) (n : Nat) (f : Nat → Int32) (z : Int32) (htab : tab.before sargs s = true) (hfr : 2 ≤ R.frames) (hlo : W + 25 ≤ R.locals) :
    Back l R p e below s sargs yN len W (fun A₁ a₁ => A₁.cells + 0 ≤ R.cells ∧ A₁.slots + 0 ≤ R.slots ∧ P x t V cd n f z a₁ A₁.U) (fun A₁ _ v₁ B₁ => E n v₁ A₁.U B₁.U ∧ B₁.locs = A₁.locs ++ [] ∧ B₁.cells = A₁.cells + 0 ∧ B₁.slots = A₁.slots + 0) :=
  (law l x t V cd n f z).pays htab hfr (by omega)
end Len
namespace IsL
def yN : MethodName := ⟨"java/lang/String", "isLatin1", "()Z"⟩
abbrev yB : ByteArray := jdk_42_method_154_code
theorem d0 : decode yB 0 = .ok (.getstatic 38, 3) := by decide +kernel
theorem d3 : decode yB 3 = .ok (.ifCond (.eq) 14, 3) := by decide +kernel
theorem d6 : decode yB 6 = .ok (.aload_n 0, 1) := by decide +kernel
theorem d7 : decode yB 7 = .ok (.getfield 15, 3) := by decide +kernel
theorem d10 : decode yB 10 = .ok (.ifCond (.ne) 7, 3) := by decide +kernel
theorem d13 : decode yB 13 = .ok (.iconst 1, 1) := by decide +kernel
theorem d14 : decode yB 14 = .ok (.goto 4, 3) := by decide +kernel
theorem d17 : decode yB 17 = .ok (.iconst 0, 1) := by decide +kernel
theorem d18 : decode yB 18 = .ok (.ireturn, 1) := by decide +kernel
def site : List Cond := [.fieldLink "java/lang/String" 38 "java/lang/String" "COMPACT_STRINGS" "Z", .fieldLink "java/lang/String" 15 "java/lang/String" "coder" "B"]
def tab : Cond := tabOf yN yB 1 (some .boolean) site
def P (x : Addr) (cd z : Int32) (args : Array Value) (s : State) : Prop := args = #[.ref x] ∧ Has x "java/lang/String" "coder" "B" (.int cd) s ∧ (cd = 0 ∨ cd = 1) ∧ StaticIs s "java/lang/String" "COMPACT_STRINGS" "Z" (.int z) ∧ ¬ z = 0
def E (cd : Int32) (r : Option Value) (s u : State) : Prop := XT.PureE (some (.int (1 - cd))) r s u
theorem law (l : Launch) (x : Addr) (cd z : Int32) : Law l yN 1 0 0 0 yB 1 (some .boolean) site (P x cd z) (E cd) [] 0 0 := by
  refine Law.of_walk (plainFor_of_name (by decide +kernel)) (by decide +kernel) (by decide +kernel) (by decide) (fun _ _ h => by rw [h.1]; rfl) (fun _ U U' hal hh h => ⟨h.1, h.2.1.mv hal hh, h.2.2.1, h.2.2.2.1.there hal hh, h.2.2.2.2⟩) (fun r U U' V V' h1 hal h2 h => XT.PureE.mv r U U' V V' h1 hal h2 h) ?_
  intro p e s m args below meth c s₁ X0 hexec hbytes hml hret hlk hnm hown hh0 W hP
  obtain ⟨rfl, hx, hc, s1, hz⟩ := hP
  have c1 : Steps p.tables e below (s₁.setTop (entryFrame m #[.ref x] 1)) (s₁.setTop (mkF m 0 #[.val (.ref x)] [])) := entry rfl
  obtain ⟨T2, X2, q2, st2⟩ := X0.sget hexec hown (wk W (.fieldLink "java/lang/String" 38 "java/lang/String" "COMPACT_STRINGS" "Z")) s1 (fun _ _ h => by rw [hh0]; exact h) (g := (mkF m 0 #[.val (.ref x)] [])) rfl (hb hbytes d0)
  have hh2 := q2.trans hh0
  have c3 : Steps p.tables e below (s₁.setTop (entryFrame m #[.ref x] 1)) (T2.setTop (mkF m 7 #[.val (.ref x)] [.ref x])) := (c1.trans (st2 _ (Steps.refl _))).trans (by
    refine XS.ifNo X2.here hexec rfl (hb hbytes d3) rfl (i0_eq_f hz) ?_
    refine XS.aloadN X2.here hexec rfl (hb hbytes d6) rfl rfl ?_
    exact Steps.refl _)
  obtain ⟨T4, X4, q4, st4⟩ := X2.hget hexec hown (wk W (.fieldLink "java/lang/String" 15 "java/lang/String" "coder" "B")) (hx.mv X2.warmed.alike hh2) (g := (mkF m 7 #[.val (.ref x)] [.ref x])) rfl (rest := []) rfl (hb hbytes d7)
  have c5 : Steps p.tables e below (s₁.setTop (entryFrame m #[.ref x] 1)) (T4.setTop (mkF m 10 #[.val (.ref x)] [.int cd])) := c3.trans (st4 _ (Steps.refl _))
  have c6 : Steps p.tables e below (s₁.setTop (entryFrame m #[.ref x] 1)) (T4.setTop (mkF m 18 #[.val (.ref x)] [.int (1 - cd)])) := by
    rcases hc with rfl | rfl
    · exact c5.trans (by
        refine XS.ifNo X4.here hexec rfl (hb hbytes d10) rfl (i0_ne_f rfl) ?_
        refine iconstV X4.here hexec rfl 1 (hb hbytes d13) (by decide) ?_
        refine XS.goto X4.here hexec rfl (pc0 := 14) rfl (hb hbytes d14) (by decide) rfl ?_
        exact Steps.refl _)
    · exact c5.trans (by
        refine XS.ifYes X4.here hexec rfl (pc0 := 10) rfl (hb hbytes d10) rfl (i0_ne_t (by decide)) (by decide) rfl ?_
        refine iconstV X4.here hexec rfl 0 (hb hbytes d17) (by decide) ?_
        exact Steps.refl _)
  exact ⟨T4, some (.int (1 - cd)), _, _, _, X4, rfl, rfl, rfl, (fun h => by cases h), ⟨rfl, q4.trans hh2⟩, fun fs hl => c6.trans (X4.ireturnOut hexec hret (by rcases hc with rfl | rfl <;> rfl) (Or.inr (Or.inl rfl)) (hb hbytes d18) hl)⟩
end IsL
namespace LChA
def yN : MethodName := ⟨"java/lang/StringLatin1", "charAt", "([BI)C"⟩
abbrev yB : ByteArray := jdk_43_method_2_code
theorem d0 : decode yB 0 = .ok (.iload_n 1, 1) := by decide +kernel
theorem d1 : decode yB 1 = .ok (.aload_n 0, 1) := by decide +kernel
theorem d2 : decode yB 2 = .ok (.arraylength, 1) := by decide +kernel
theorem d3 : decode yB 3 = .ok (.invokestatic 9, 3) := by decide +kernel
theorem d6 : decode yB 6 = .ok (.aload_n 0, 1) := by decide +kernel
theorem d7 : decode yB 7 = .ok (.iload_n 1, 1) := by decide +kernel
theorem d8 : decode yB 8 = .ok (.baload, 1) := by decide +kernel
theorem d9 : decode yB 9 = .ok (.sipush 255, 3) := by decide +kernel
theorem d12 : decode yB 12 = .ok (.iand, 1) := by decide +kernel
theorem d13 : decode yB 13 = .ok (.i2c, 1) := by decide +kernel
theorem d14 : decode yB 14 = .ok (.ireturn, 1) := by decide +kernel
def site : List Cond := [JO.Str_checkIndex.tab] ++ staticW "java/lang/StringLatin1" 9 JO.Str_checkIndex.yN
def tab : Cond := tabOf yN yB 2 (some .char) site
def P (t : Addr) (V : Cell) (i : Nat) (u : Int32) (fm : Value) (args : Array Value) (s : State) : Prop := args = #[.ref t, .int (Int32.ofNat i)] ∧ XT.Arr .byte t V s ∧ V.slots[i]? = some (.int u) ∧ (StaticIs s "jdk/internal/util/Preconditions" "SIOOBE_FORMATTER" "Ljava/util/function/BiFunction;" fm ∧ fm.isRef = true)
def E (u : Int32) (r : Option Value) (s w : State) : Prop := XT.PureE (some (.int (chr8 u))) r s w
theorem law (l : Launch) (t : Addr) (V : Cell) (i : Nat) (u : Int32) (fm : Value) : Law l yN 2 2 2 27 yB 2 (some .char) site (P t V i u fm) (E u) [] 0 0 := by
  refine Law.of_walk (plainFor_of_name (by decide +kernel)) (by decide +kernel) (by decide +kernel) (by decide) (fun _ _ h => by rw [h.1]; rfl) (fun _ U U' hal hh h => ⟨h.1, h.2.1.mv hal hh, h.2.2.1, h.2.2.2.1.there hal hh, h.2.2.2.2⟩) (fun r U U' V V' h1 hal h2 h => XT.PureE.mv r U U' V V' h1 hal h2 h) ?_
  intro p e s m args below meth c s₁ X0 hexec hbytes hml hret hlk hnm hown hh0 W hP
  obtain ⟨rfl, hV, hu, s1, rf⟩ := hP
  have v31 := hV.2.2.2
  have hi : i < V.slots.size := (Array.getElem?_eq_some_iff.mp hu).1
  have c1 : Steps p.tables e below (s₁.setTop (entryFrame m #[.ref t, .int (Int32.ofNat i)] 2)) (s₁.setTop (mkF m 0 #[.val (.ref t), .val (.int (Int32.ofNat i))] [])) := entry rfl
  have c2 : Steps p.tables e below (s₁.setTop (entryFrame m #[.ref t, .int (Int32.ofNat i)] 2)) (s₁.setTop (mkF m 3 #[.val (.ref t), .val (.int (Int32.ofNat i))] [.int (Int32.ofNat V.slots.size), .int (Int32.ofNat i)])) := c1.trans (by
    refine XS.iloadN X0.here hexec rfl (hb hbytes d0) rfl ?_
    refine XS.aloadN X0.here hexec rfl (hb hbytes d1) rfl rfl ?_
    refine X0.alen hexec (hV.mv X0.warmed.alike hh0) rfl rfl (hb hbytes d2) ?_
    exact Steps.refl _)
  obtain ⟨v3, T3, X3, E3, g3⟩ := X0.callS hexec (JO.Str_checkIndex.law l (Int32.ofNat i) (Int32.ofNat V.slots.size) fm) hown (wks W (staticW "java/lang/StringLatin1" 9 JO.Str_checkIndex.yN)) (wk W JO.Str_checkIndex.tab) (W := 0) (Nat.le_of_ble_eq_true rfl) (Nat.le_of_ble_eq_true rfl) (Nat.le_refl _) (Nat.le_refl _) (g := (mkF m 3 #[.val (.ref t), .val (.int (Int32.ofNat i))] [.int (Int32.ofNat V.slots.size), .int (Int32.ofNat i)])) rfl (by rw [hml]; rfl) c2 (argsL := [.int (Int32.ofNat i), .int (Int32.ofNat V.slots.size)]) (rest := []) rfl rfl (by show 2 * 0 + 0 ≤ _; decide) (hb hbytes d3) (⟨rfl, rf, s1.there X0.warmed.alike hh0, Int32.ofNat_not_neg (by omega), lt32 v31 hi⟩)
  obtain ⟨rfl, q3⟩ := E3
  have hh3 := q3.trans hh0
  have c4 : Steps p.tables e below (s₁.setTop (entryFrame m #[.ref t, .int (Int32.ofNat i)] 2)) (T3.setTop (mkF m 14 #[.val (.ref t), .val (.int (Int32.ofNat i))] [.int (chr8 u)])) := Steps.trans g3 (by
    refine XS.aloadN X3.here hexec rfl (hb hbytes d6) rfl rfl ?_
    refine XS.iloadN X3.here hexec rfl (hb hbytes d7) rfl ?_
    refine X3.aget hexec (hV.mv X3.warmed.alike hh3) rfl hu rfl rfl (hb hbytes d8) ?_
    refine sipushV X3.here hexec rfl 255 (hb hbytes d9) (by decide) ?_
    refine XS.iand X3.here hexec rfl (hb hbytes d12) rfl ?_
    refine i2c X3.here hexec rfl (hb hbytes d13) rfl ?_
    exact Steps.refl _)
  exact ⟨T3, some (.int (chr8 u)), _, _, _, X3, rfl, rfl, rfl, (fun h => by cases h), ⟨rfl, hh3⟩, fun fs hl => c4.trans (X3.ireturnOut hexec hret (narrow_c _) (Or.inr (Or.inr (Or.inr (Or.inl rfl)))) (hb hbytes d14) hl)⟩
end LChA
end StrChars
namespace StrChars.Road
open Jvm Sem ClassFile Op Lib Jvm.Stand Jvm.Free Jvm.Free.XT
open Jvm.Lib.Cold (StaticIs)
theorem consq {a : Array Value} {s : State} {c : Jvm.Cond} {L : List Jvm.Cond} (h0 : c.before a s = true) (h : ∀ w ∈ L, w.before a s = true) : ∀ w ∈ c :: L, w.before a s = true := fun w hw => (List.mem_cons.mp hw).elim (fun e => e ▸ h0) (h w)
/-- the words of String.length(), either coding -/
abbrev wordsLen : List Jvm.Cond := [.code Len.yN Len.yB 1 (some .int), .initialized ST, .fieldLink ST 9 ST "value" "[B", .fieldLink ST 38 ST "COMPACT_STRINGS" "Z", .fieldLink ST 15 ST "coder" "B", .code Cdr.yN Cdr.yB 1 (some .byte), .methodLink ST 335 Cdr.yN, .declares Cdr.yN, .selects ST Cdr.yN Cdr.yN, .instanceMethod Cdr.yN]
theorem tabLen_of {a : Array Value} {s : State} (h : ∀ w ∈ wordsLen, w.before a s = true) : Len.tab.before a s = true := by
  have hc : Cdr.tab.before a s = true := unparts (wk h (.code Cdr.yN Cdr.yB 1 (some .byte))) (wks h (.initialized Cdr.yN.cls :: Cdr.site))
  have q := consq hc h
  exact unparts (wk q (.code Len.yN Len.yB 1 (some .int))) (wks q (.initialized Len.yN.cls :: Len.site))
theorem movedLen {Z s : State} {a0 args : Array Value} (hZ : Z.Warmed39 s.vm) (hw : ∀ d ∈ wordsLen, d.before a0 Z = true) : ∀ d ∈ wordsLen, d.before args s = true := fun d hd => by
  have q := hw d hd
  have t : ∀ d ∈ wordsLen, d = .arrayClass .byte ∨ (d.onTables && d.keepsFace) = true := by decide +kernel
  rcases t d hd with rfl | t
  · exact RoadKit.mvA hZ q
  · exact RoadKit.mv hZ q t
/-- the bytes of the chars cs, low before high -/
def wideBytes : List Int32 → List Value
  | [] => []
  | c :: cs => .int (lo8 c) :: .int (hi8 c) :: wideBytes cs
theorem wide_lo (d : Value) : ∀ (cs : List Int32) (j : Nat), j < cs.length → (wideBytes cs).getD (2 * j) d = .int (lo8 (cs.getD j 0))
  | [], j, h => absurd h (Nat.not_lt_zero j)
  | c :: cs, 0, _ => rfl
  | c :: cs, j + 1, h => by
    have q := wide_lo d cs j (by simpa using h)
    rw [show 2 * (j + 1) = 2 * j + 1 + 1 from by omega]
    simpa [wideBytes] using q
theorem wide_hi (d : Value) : ∀ (cs : List Int32) (j : Nat), j < cs.length → (wideBytes cs).getD (2 * j + 1) d = .int (hi8 (cs.getD j 0))
  | [], j, h => absurd h (Nat.not_lt_zero j)
  | c :: cs, 0, _ => rfl
  | c :: cs, j + 1, h => by
    have q := wide_hi d cs j (by simpa using h)
    rw [show 2 * (j + 1) + 1 = 2 * j + 1 + 1 + 1 from by omega]
    simpa [wideBytes] using q
theorem low_at (d : Value) (cs : List Int32) (j : Nat) (h : j < cs.length) : (cs.map fun c => Value.int (lo8 c)).getD j d = .int (lo8 (cs.getD j 0)) := by
  simp [List.getD_eq_getElem?_getD, h]
/-- an array of N2 bytes vs codes the chars cs by the coder cd -/
def CodA (cs : List Int32) (cd N2 : Int32) (vs : List Value) : Prop := (cd = 0 ∧ N2 = Int32.ofNat cs.length ∧ vs = (cs.map fun c => Value.int (lo8 c)) ∧ ∀ c ∈ cs, ¬ 255 < c) ∨ (cd = 1 ∧ N2 = Int32.ofNat (2 * cs.length) ∧ vs = wideBytes cs ∧ ∃ c ∈ cs, 255 < c)
theorem CodA.cod {cs : List Int32} {cd N2 : Int32} {vs : List Value} {V : Cell} (h : CodA cs cd N2 vs) (hn : 2 * cs.length < 2 ^ 31) (hs : V.slots.size = N2.toNatClampNeg) (hv : RoadKit.Has V vs (.int 0)) : Cod cd cs.length (fun j => cs.getD j 0) V := by
  rcases h with ⟨rfl, rfl, rfl, h⟩ | ⟨rfl, rfl, rfl, c, hc, hw⟩
  · rw [n32 (by omega)] at hs
    exact Or.inl ⟨rfl, hs, fun j hj => ⟨by rw [hv j (by omega), low_at _ _ _ hj], by
      have e : cs.getD j 0 = cs[j] := by simp [List.getD_eq_getElem?_getD, hj]
      show ¬ 255 < cs.getD j 0
      rw [e]; exact h _ (List.getElem_mem _)⟩⟩
  · rw [n32 (by omega)] at hs
    obtain ⟨j, hj, rfl⟩ := List.getElem_of_mem hc
    exact Or.inr ⟨rfl, hs, fun j hj => ⟨by rw [hv _ (by omega), wide_lo _ _ _ hj], by rw [hv _ (by omega), wide_hi _ _ _ hj]⟩, j, hj, by
      have e : cs.getD j 0 = cs[j] := by simp [List.getD_eq_getElem?_getD, hj]
      show 255 < cs.getD j 0
      rw [e]; exact hw⟩
/-- an object of exactly java/lang/String, its two fields found: as the laws ask it -/
theorem strObj {Z U : State} {a0 : Array Value} {kI : Nat} (wi : (Jvm.Cond.instantiable ST kI).before a0 Z = true) (al : Z.vm.Alike U.vm) {x : Addr} {v0 c0 : Value} (E : RoadKit.Exa Z U.heap x ST) (V : RoadKit.Fld Z U.heap x ST "value" "[B" v0) (C : RoadKit.Fld Z U.heap x ST "coder" "B" c0) :
    ∃ (D : Cell) (fV fC : Field), Blank ST x D U ∧ Found ST "value" "[B" fV U ∧ Found ST "coder" "B" fC U ∧ D.slots[fV.slot]? = some v0 ∧ D.slots[fC.slot]? = some c0 ∧ RoadKit.slotOf Z ST "value" "[B" = fV.slot ∧ RoadKit.slotOf Z ST "coder" "B" = fC.slot := by
  obtain ⟨D, cfV, kV, iV, fV, hD, gV, stV, knV, obV, asV, slV⟩ := V
  obtain ⟨D', cfC, kC, iC, fC, hD', gC, stC, -, -, asC, slC⟩ := C
  cases hD.symm.trans hD'
  obtain ⟨D2, kD, e1, e2, e3, e4, e5⟩ := E
  cases hD.symm.trans e1
  obtain ⟨c2, k2, i1, i2, i3, -⟩ := Cond.instantiable_spec wi
  cases e2.symm.trans i1
  cases e3.symm.trans i2
  obtain ⟨kU, u1, u2⟩ := al.2.2 _ _ e3
  exact ⟨D, fV, fC, ⟨hD, ⟨knV, fun q hq => by rw [hq] at obV; cases obV⟩, by rw [al.findClass]; exact e2, kU, u1, by rw [u2]; exact i3, by rw [u2]; exact e5 i3⟩, ⟨SBG.found_only al ⟨cfV, kV, iV, gV⟩, stV⟩, ⟨SBG.found_only al ⟨cfC, kC, iC, gC⟩, stC⟩, slV, slC, by simp [RoadKit.slotOf, gV], by simp [RoadKit.slotOf, gC]⟩
theorem sta_is {Z U : State} (al : Z.vm.Alike U.vm) {C n d : String} {v : Value} (S : RoadKit.Sta Z U.heap C n d v) : StaticIs U C n d v := by
  obtain ⟨cfS, iS, kS, fS, st, cS, t1, t2, t3, t4, t5, t6, t7⟩ := S
  exact StaticIs.there (s := { Z with heap := U.heap }) ⟨cfS, iS, kS, fS, st, cS, t1, t2, t3, t4, t5, (fun q => by rw [q] at t6; cases t6), t7⟩ al rfl
/-- **length() OF SUCH A STRING** -/
theorem lenW {p : Program} {l : Launch} {e : Env} {R : Room} {s : State} {args : Array Value} {below : List Frame} {len W : Nat} {Z : State} {a0 : Array Value} {h : Heap} (hZ : Z.Warmed39 s.vm) (hw : ∀ d ∈ wordsLen, d.before a0 Z = true) {kI : Nat} (wi : (Jvm.Cond.instantiable ST kI).before a0 Z = true)
    {x t : Addr} {kb : ClassId} {cs : List Int32} {cd N2 z : Int32} {vs : List Value} (E : RoadKit.Exa Z h x ST) (V : RoadKit.Fld Z h x ST "value" "[B" (.ref t)) (C : RoadKit.Fld Z h x ST "coder" "B" (.int cd)) (K : RoadKit.Arv Z h t kb .byte N2 vs (.int 0)) (hc : CodA cs cd N2 vs) (hb : ∀ c ∈ cs, ¬ c < 0 ∧ ¬ (65535 : Int32) < c)
    (S : RoadKit.Sta Z h ST "COMPACT_STRINGS" "Z" (.int z)) (hz : ¬ z = 0) (l2 : cs.length ≤ 4000) (hfr : 2 ≤ R.frames) (hlo : W + 25 ≤ R.locals) :
    Back l R p e below s args (⟨"java/lang/String", "length", "()I"⟩ : MethodName) len W (fun P a => a = #[.ref x] ∧ P.U.heap = h ∧ P.cells + 0 ≤ R.cells ∧ P.slots + 0 ≤ R.slots)
      (fun P _ v B => ∃ L, (v = some (.int (Int32.ofNat cs.length)) ∧ L = [] ∧ B.U.heap = h) ∧ B.locs = P.locs ++ L ∧ B.cells = P.cells + 0 ∧ B.slots = P.slots + 0) := by
  obtain ⟨A, K1, K2, K3, K4, K5, K6⟩ := K
  have hcod := hc.cod (by omega) K3 K5
  intro m meth c P g ig mk a X hg hsize hdg hW hn hp'
  obtain ⟨rfl, rfl, r1, r2⟩ := hp'
  have al : Z.vm.Alike P.U.vm := hZ.alike.trans X.warmed.alike
  obtain ⟨D, fV, fC, hB, F1, F2, g1, g2, -, -⟩ := strObj wi al E V C
  have hx : Txt x t A cd cs.length (fun j => cs.getD j 0) P.U := ⟨⟨_, hB.2.2.1, D, hB.1, rfl, by cases q : D.vm <;> first | rfl | exact absurd q (hB.2.1.2 _)⟩, Has.of hB F1 g1, Has.of hB F2 g2, ⟨K1.1, State.isArrayOf_alike al K1.2.1, K1.2.2, by rcases hcod with ⟨-, q, -⟩ | ⟨-, q, -⟩ <;> omega⟩, hcod, fun j hj => by
    have e : cs.getD j 0 = cs[j] := by simp [List.getD_eq_getElem?_getD, hj]
    show ¬ cs.getD j 0 < 0 ∧ ¬ 65535 < cs.getD j 0
    rw [e]; exact hb _ (List.getElem_mem _)⟩
  obtain ⟨v, B, X', ⟨⟨hv, hh⟩, hl, hk, hs⟩, st⟩ := Len.pays x t A cd cs.length (fun j => cs.getD j 0) z (tabLen_of (movedLen hZ hw)) hfr hlo m meth c P g ig mk _ X hg hsize hdg hW hn ⟨r1, r2, rfl, hx, sta_is al S, hz⟩
  exact ⟨v, B, X', ⟨[], ⟨hv, rfl, hh⟩, hl, hk, hs⟩, st⟩
end StrChars.Road
namespace StrChars
open Jvm Sem ClassFile Op Lib Jvm.Stand Jvm.Free.XT Jvm.Free.ALB Jvm.Free.JM Jvm.Free
open Jvm.Lib.Cold (StaticIs)
/-- what place i of a byte[]'s cell holds -/
def yv (A : Cell) (i : Nat) : Int32 := match A.slots[i]? with | some (.int x) => x | _ => 0
theorem yv_get {a : Addr} {A : Cell} {U : State} (h : XT.Arr .byte a A U) (ht : Typed .byte A) {i : Nat} (hi : i < A.slots.size) : A.slots[i]? = some (.int (yv A i)) := by
  have e := Array.getElem?_eq_getElem hi
  have f := ht i _ e
  unfold yv; rw [e]
  generalize A.slots[i] = v at f
  cases v <;> simp [fits] at f ⊢
/-- the two arrays are equal, place for place -/
def EqC (A B : Cell) : Prop := A.slots.size = B.slots.size ∧ ∀ i, i < A.slots.size → yv A i = yv B i
/-- a boolean that says whether p -/
def Says01 (q : Prop) (r : Option Value) (s u : State) : Prop := ∃ v : Int32, r = some (.int v) ∧ u.heap = s.heap ∧ ((v = 1 ∧ q) ∨ (v = 0 ∧ ¬ q))
theorem Says01.mv {q : Prop} : ∀ r (U U' V V' : State), U'.heap = U.heap → V.vm.Alike V'.vm → V'.heap = V.heap → Says01 q r U V → Says01 q r U' V' :=
  fun r U U' V V' h1 _ h2 ⟨v, a, b, c⟩ => ⟨v, a, by rw [h1, h2]; exact b, c⟩
namespace LEq
def yN : MethodName := ⟨"java/lang/StringLatin1", "equals", "([B[B)Z"⟩
abbrev yB : ByteArray := jdk_43_method_13_code
theorem d0 : decode yB 0 = .ok (.aload_n 0, 1) := by decide +kernel
theorem d1 : decode yB 1 = .ok (.arraylength, 1) := by decide +kernel
theorem d2 : decode yB 2 = .ok (.aload_n 1, 1) := by decide +kernel
theorem d3 : decode yB 3 = .ok (.arraylength, 1) := by decide +kernel
theorem d4 : decode yB 4 = .ok (.if_icmp (.ne) 30, 3) := by decide +kernel
theorem d7 : decode yB 7 = .ok (.iconst 0, 1) := by decide +kernel
theorem d8 : decode yB 8 = .ok (.istore_n 2, 1) := by decide +kernel
theorem d9 : decode yB 9 = .ok (.iload_n 2, 1) := by decide +kernel
theorem d10 : decode yB 10 = .ok (.aload_n 0, 1) := by decide +kernel
theorem d11 : decode yB 11 = .ok (.arraylength, 1) := by decide +kernel
theorem d12 : decode yB 12 = .ok (.if_icmp (.ge) 20, 3) := by decide +kernel
theorem d15 : decode yB 15 = .ok (.aload_n 0, 1) := by decide +kernel
theorem d16 : decode yB 16 = .ok (.iload_n 2, 1) := by decide +kernel
theorem d17 : decode yB 17 = .ok (.baload, 1) := by decide +kernel
theorem d18 : decode yB 18 = .ok (.aload_n 1, 1) := by decide +kernel
theorem d19 : decode yB 19 = .ok (.iload_n 2, 1) := by decide +kernel
theorem d20 : decode yB 20 = .ok (.baload, 1) := by decide +kernel
theorem d21 : decode yB 21 = .ok (.if_icmp (.eq) 5, 3) := by decide +kernel
theorem d24 : decode yB 24 = .ok (.iconst 0, 1) := by decide +kernel
theorem d25 : decode yB 25 = .ok (.ireturn, 1) := by decide +kernel
theorem d26 : decode yB 26 = .ok (.iinc 2 1, 3) := by decide +kernel
theorem d29 : decode yB 29 = .ok (.goto (-20), 3) := by decide +kernel
theorem d32 : decode yB 32 = .ok (.iconst 1, 1) := by decide +kernel
theorem d33 : decode yB 33 = .ok (.ireturn, 1) := by decide +kernel
theorem d34 : decode yB 34 = .ok (.iconst 0, 1) := by decide +kernel
theorem d35 : decode yB 35 = .ok (.ireturn, 1) := by decide +kernel
def site : List Cond := []
def tab : Cond := tabOf yN yB 3 (some .boolean) site
def P (a : Addr) (A : Cell) (b : Addr) (B : Cell) (args : Array Value) (s : State) : Prop := args = #[.ref a, .ref b] ∧ XT.Arr .byte a A s ∧ Typed .byte A ∧ XT.Arr .byte b B s ∧ Typed .byte B
/-- whether two byte[] are equal, place for place -/
theorem law (l : Launch) (a : Addr) (A : Cell) (b : Addr) (B : Cell) : Law l yN 2 2 0 0 yB 3 (some .boolean) site (P a A b B) (Says01 (EqC A B)) [] 0 0 := by
  refine Law.of_walk (plainFor_of_name (by decide +kernel)) (by decide +kernel) (by decide +kernel) (by decide) (fun _ _ h => by rw [h.1]; rfl) (fun _ U U' hal hh h => ⟨h.1, h.2.1.mv hal hh, h.2.2.1, h.2.2.2.1.mv hal hh, h.2.2.2.2⟩) (fun r U U' V V' h1 hal h2 h => Says01.mv r U U' V V' h1 hal h2 h) ?_
  intro p e s m args below meth c s₁ X0 hexec hbytes hml hret hlk hnm hown hh0 W hP
  obtain ⟨rfl, hA, tA, hB, tB⟩ := hP
  have a31 := hA.2.2.2
  have b31 := hB.2.2.2
  have hA0 := hA.mv X0.warmed.alike hh0
  have hB0 := hB.mv X0.warmed.alike hh0
  have c1 : Steps p.tables e below (s₁.setTop (entryFrame m #[.ref a, .ref b] 3)) (s₁.setTop (mkF m 0 #[.val (.ref a), .val (.ref b), .unset] [])) := entry rfl
  have c2 : Steps p.tables e below (s₁.setTop (entryFrame m #[.ref a, .ref b] 3)) (s₁.setTop (mkF m 4 #[.val (.ref a), .val (.ref b), .unset] [.int (Int32.ofNat B.slots.size), .int (Int32.ofNat A.slots.size)])) := c1.trans (by
    refine XS.aloadN X0.here hexec rfl (hb hbytes d0) rfl rfl ?_
    refine X0.alen hexec hA0 rfl rfl (hb hbytes d1) ?_
    refine XS.aloadN X0.here hexec rfl (hb hbytes d2) rfl rfl ?_
    refine X0.alen hexec hB0 rfl rfl (hb hbytes d3) ?_
    exact Steps.refl _)
  by_cases hs : A.slots.size = B.slots.size
  · have c3 : Steps p.tables e below (s₁.setTop (entryFrame m #[.ref a, .ref b] 3)) (s₁.setTop (mkF m 9 #[.val (.ref a), .val (.ref b), .val (.int 0)] [])) := c2.trans (by
      refine XS.icmpNo X0.here hexec rfl (hb hbytes d4) rfl (ii_ne_f (by rw [hs])) ?_
      refine iconstV X0.here hexec rfl 0 (hb hbytes d7) (by decide) ?_
      refine XS.istoreN X0.here hexec rfl (hb hbytes d8) rfl rfl ?_
      exact Steps.refl _)
    have loop : ∀ (r i : Nat), i + r = A.slots.size → (∀ j, j < i → yv A j = yv B j) → Steps p.tables e below (s₁.setTop (entryFrame m #[.ref a, .ref b] 3)) (s₁.setTop (mkF m 9 #[.val (.ref a), .val (.ref b), .val (.int (Int32.ofNat i))] [])) → ∃ (pc : Nat) (Ls : Array Slot) (v : Int32), (pc = 25 ∨ pc = 33) ∧ ((v = 1 ∧ EqC A B) ∨ (v = 0 ∧ ¬ EqC A B)) ∧ Steps p.tables e below (s₁.setTop (entryFrame m #[.ref a, .ref b] 3)) (s₁.setTop (mkF m pc Ls [.int v])) := by
      intro r
      induction r with
      | zero =>
        intro i hi he cl
        exact ⟨33, _, 1, Or.inr rfl, Or.inl ⟨rfl, hs, fun j hj => he j (by omega)⟩, cl.trans (by
          refine XS.iloadN X0.here hexec rfl (hb hbytes d9) rfl ?_
          refine XS.aloadN X0.here hexec rfl (hb hbytes d10) rfl rfl ?_
          refine X0.alen hexec hA0 rfl rfl (hb hbytes d11) ?_
          refine XS.icmpYes X0.here hexec rfl (pc0 := 12) rfl (hb hbytes d12) rfl (ii_ge_t (nlt32 (by omega) (by omega))) (by decide) rfl ?_
          refine iconstV X0.here hexec rfl 1 (hb hbytes d32) (by decide) ?_
          exact Steps.refl _)⟩
      | succ r ih =>
        intro i hi he cl
        have c4 : Steps p.tables e below (s₁.setTop (entryFrame m #[.ref a, .ref b] 3)) (s₁.setTop (mkF m 21 #[.val (.ref a), .val (.ref b), .val (.int (Int32.ofNat i))] [.int (yv B i), .int (yv A i)])) := cl.trans (by
          refine XS.iloadN X0.here hexec rfl (hb hbytes d9) rfl ?_
          refine XS.aloadN X0.here hexec rfl (hb hbytes d10) rfl rfl ?_
          refine X0.alen hexec hA0 rfl rfl (hb hbytes d11) ?_
          refine XS.icmpNo X0.here hexec rfl (hb hbytes d12) rfl (ii_ge_f (lt32 (by omega) (by omega))) ?_
          refine XS.aloadN X0.here hexec rfl (hb hbytes d15) rfl rfl ?_
          refine XS.iloadN X0.here hexec rfl (hb hbytes d16) rfl ?_
          refine X0.aget hexec hA0 rfl (yv_get hA tA (i := i) (by omega)) rfl rfl (hb hbytes d17) ?_
          refine XS.aloadN X0.here hexec rfl (hb hbytes d18) rfl rfl ?_
          refine XS.iloadN X0.here hexec rfl (hb hbytes d19) rfl ?_
          refine X0.aget hexec hB0 rfl (yv_get hB tB (i := i) (by omega)) rfl rfl (hb hbytes d20) ?_
          exact Steps.refl _)
        by_cases hv : yv A i = yv B i
        · have c5 : Steps p.tables e below (s₁.setTop (entryFrame m #[.ref a, .ref b] 3)) (s₁.setTop (mkF m 9 #[.val (.ref a), .val (.ref b), .val (.int (Int32.ofNat i + 1))] [])) := c4.trans (by
            refine XS.icmpYes X0.here hexec rfl (pc0 := 21) rfl (hb hbytes d21) rfl (ii_eq_t hv) (by decide) rfl ?_
            refine iincV X0.here hexec rfl 1 (hb hbytes d26) (by decide) rfl rfl ?_
            refine XS.goto X0.here hexec rfl (pc0 := 29) rfl (hb hbytes d29) (by decide) rfl ?_
            exact Steps.refl _)
          rw [succ32] at c5
          exact ih (i + 1) (by omega) (fun j hj => by
            by_cases e : j = i
            · rw [e]; exact hv
            · exact he j (by omega)) c5
        · exact ⟨25, _, 0, Or.inl rfl, Or.inr ⟨rfl, fun q => hv (q.2 i (by omega))⟩, c4.trans (by
            refine XS.icmpNo X0.here hexec rfl (hb hbytes d21) rfl (ii_eq_f hv) ?_
            refine iconstV X0.here hexec rfl 0 (hb hbytes d24) (by decide) ?_
            exact Steps.refl _)⟩
    obtain ⟨pc, Ls, v, hpc, hv, cz⟩ := loop A.slots.size 0 (by omega) (fun j hj => absurd hj (Nat.not_lt_zero j)) c3
    have nv : narrow .boolean (.int v) = .int v := by rcases hv with ⟨rfl, -⟩ | ⟨rfl, -⟩ <;> rfl
    rcases hpc with rfl | rfl
    · exact ⟨s₁, some (.int v), _, _, _, X0, rfl, rfl, rfl, (fun h => by cases h), ⟨v, rfl, hh0, hv⟩, fun fs hl => cz.trans (X0.ireturnOut hexec hret nv (Or.inr (Or.inl rfl)) (hb hbytes d25) hl)⟩
    · exact ⟨s₁, some (.int v), _, _, _, X0, rfl, rfl, rfl, (fun h => by cases h), ⟨v, rfl, hh0, hv⟩, fun fs hl => cz.trans (X0.ireturnOut hexec hret nv (Or.inr (Or.inl rfl)) (hb hbytes d33) hl)⟩
  · have c3 : Steps p.tables e below (s₁.setTop (entryFrame m #[.ref a, .ref b] 3)) (s₁.setTop (mkF m 35 #[.val (.ref a), .val (.ref b), .unset] [.int 0])) := c2.trans (by
      refine XS.icmpYes X0.here hexec rfl (pc0 := 4) rfl (hb hbytes d4) rfl (ii_ne_t (ne32 a31 b31 hs)) (by decide) rfl ?_
      refine iconstV X0.here hexec rfl 0 (hb hbytes d34) (by decide) ?_
      exact Steps.refl _)
    exact ⟨s₁, some (.int 0), _, _, _, X0, rfl, rfl, rfl, (fun h => by cases h), ⟨0, rfl, hh0, Or.inr ⟨rfl, fun q => hs q.1⟩⟩, fun fs hl => c3.trans (X0.ireturnOut hexec hret rfl (Or.inr (Or.inl rfl)) (hb hbytes d35) hl)⟩
end LEq
theorem Cod.ty {cd : Int32} {n : Nat} {f : Nat → Int32} {V : Cell} (h : Cod cd n f V) : Typed .byte V := fun i v hv => by
  have hi : i < V.slots.size := (Array.getElem?_eq_some_iff.mp hv).1
  rcases h with ⟨-, k1, k2⟩ | ⟨-, k1, k2, -⟩
  · rw [(k2 i (by omega)).1] at hv; cases hv; exact fits_lo8 _
  · rcases Nat.mod_two_eq_zero_or_one i with e | e
    · obtain ⟨j, rfl⟩ : ∃ j, i = 2 * j := ⟨i / 2, by omega⟩
      rw [(k2 j (by omega)).1] at hv; cases hv; exact fits_lo8 _
    · obtain ⟨j, rfl⟩ : ∃ j, i = 2 * j + 1 := ⟨i / 2, by omega⟩
      rw [(k2 j (by omega)).2] at hv; cases hv; exact fits_lo8 _
/-- the same text -/
def SameT (n : Nat) (f : Nat → Int32) (k : Nat) (g : Nat → Int32) : Prop := n = k ∧ ∀ j, j < n → f j = g j
theorem lo8_inj {x y : Int32} (h0 : ¬ x < 0) (h1 : ¬ 255 < x) (k0 : ¬ y < 0) (k1 : ¬ 255 < y) (h : lo8 x = lo8 y) : x = y := by
  rw [← lo8_mask h0 h1, ← lo8_mask k0 k1, h]
/-- arrays coded by one coder are equal just where the texts are -/
theorem Cod.eqv {cd : Int32} {n k : Nat} {f g : Nat → Int32} {V V' : Cell} (h : Cod cd n f V) (h' : Cod cd k g V') (hf : ∀ j, j < n → ¬ f j < 0 ∧ ¬ 65535 < f j) (hg : ∀ j, j < k → ¬ g j < 0 ∧ ¬ 65535 < g j) : EqC V V' ↔ SameT n f k g := by
  have yvv : ∀ {W : Cell} {i : Nat} {x : Int32}, W.slots[i]? = some (.int x) → yv W i = x := fun q => by unfold yv; rw [q]
  rcases h with ⟨rfl, k1, k2⟩ | ⟨rfl, k1, k2, -⟩
  · rcases h' with ⟨-, m1, m2⟩ | ⟨e, -⟩
    · constructor
      · rintro ⟨e1, e2⟩
        refine ⟨by omega, fun j hj => ?_⟩
        have q := e2 j (by omega)
        rw [yvv (k2 j hj).1, yvv (m2 j (by omega)).1] at q
        exact lo8_inj (hf j hj).1 (k2 j hj).2 (hg j (by omega)).1 (m2 j (by omega)).2 q
      · rintro ⟨rfl, e2⟩
        refine ⟨by omega, fun j hj => ?_⟩
        rw [yvv (k2 j (by omega)).1, yvv (m2 j (by omega)).1, e2 j (by omega)]
    · exact absurd e (by decide)
  · rcases h' with ⟨e, -⟩ | ⟨-, m1, m2, -⟩
    · exact absurd e (by decide)
    · constructor
      · rintro ⟨e1, e2⟩
        refine ⟨by omega, fun j hj => ?_⟩
        have q1 := e2 (2 * j) (by omega)
        have q2 := e2 (2 * j + 1) (by omega)
        rw [yvv (k2 j hj).1, yvv (m2 j (by omega)).1] at q1
        rw [yvv (k2 j hj).2, yvv (m2 j (by omega)).2] at q2
        rw [← pair_says (hf j hj).1 (hf j hj).2, ← pair_says (hg j (by omega)).1 (hg j (by omega)).2, q1, q2]
      · rintro ⟨rfl, e2⟩
        refine ⟨by omega, fun i hi => ?_⟩
        rcases Nat.mod_two_eq_zero_or_one i with e | e
        · obtain ⟨j, rfl⟩ : ∃ j, i = 2 * j := ⟨i / 2, by omega⟩
          rw [yvv (k2 j (by omega)).1, yvv (m2 j (by omega)).1, e2 j (by omega)]
        · obtain ⟨j, rfl⟩ : ∃ j, i = 2 * j + 1 := ⟨i / 2, by omega⟩
          rw [yvv (k2 j (by omega)).2, yvv (m2 j (by omega)).2, e2 j (by omega)]
/-- two codings differ: so do the texts -/
theorem Cod.dif {cd cd' : Int32} {n k : Nat} {f g : Nat → Int32} {V V' : Cell} (h : Cod cd n f V) (h' : Cod cd' k g V') (hne : ¬ cd = cd') : ¬ SameT n f k g := by
  rintro ⟨rfl, e⟩
  rcases h with ⟨rfl, -, k2⟩ | ⟨rfl, -, -, j, hj, hw⟩
  · rcases h' with ⟨rfl, -⟩ | ⟨-, -, -, j, hj, hw⟩
    · exact hne rfl
    · exact (k2 j hj).2 (by rw [e j hj]; exact hw)
  · rcases h' with ⟨-, -, m2⟩ | ⟨rfl, -⟩
    · exact (m2 j hj).2 (by rw [← e j hj]; exact hw)
    · exact hne rfl
/-- an object of exactly C is an instance of C -/
theorem cinst {p : Program} {l : Launch} {e : Env} {R : Room} {s : State} {m : MethodId} {args : Array Value} {below : List Frame} {meth : Method} {c : Code} {T : State} {locs : List Loc} {cells slots : Nat} (X : Stand p l e R s m args below meth c T locs cells slots) (hexec : p.tables.exec = Jvm.exec) {own C : String} {index : Nat} (hown : s.vm.findClass own = some m.cls) (hlink : (Cond.classLink own index C).before args s = true) {a : Addr} (hE : Exact C a T)
    {g : JFrame} (hg : g.method = m) {rest : List Value} (hstack : g.stack = .ref a :: rest) (hdg : decode c.code g.pc = .ok (.instanceof index, 3)) :
    ∃ T', Stand p l e R s m args below meth c T' locs cells slots ∧ T'.heap = T.heap ∧ ∀ target, Steps p.tables e below (T'.setTop { g with pc := g.pc + 3, stack := .int 1 :: rest }) target → Steps p.tables e below (T.setTop g) target := by
  obtain ⟨cB, h1, D, h2, h3, h4⟩ := hE
  have h1' : s.vm.findClass C = some cB := by rw [← X.warmed.alike.findClass]; exact h1
  obtain ⟨vm', X', st⟩ := X.instanceofYes hexec hown hlink h2 h4 h1' (by rw [h3]; exact Jvm.Free.SB.assignable_self _ _) hg hstack hdg
  exact ⟨_, X', rfl, st⟩
theorem cself {p : Program} {l : Launch} {e : Env} {R : Room} {s : State} {m : MethodId} {args : Array Value} {below : List Frame} {meth : Method} {c : Code} {T : State} {locs : List Loc} {cells slots : Nat} (X : Stand p l e R s m args below meth c T locs cells slots) (hexec : p.tables.exec = Jvm.exec) {own C : String} {index : Nat} (hown : s.vm.findClass own = some m.cls) (hlink : (Cond.classLink own index C).before args s = true) {a : Addr} (hE : Exact C a T)
    {g : JFrame} (hg : g.method = m) {rest : List Value} (hstack : g.stack = .ref a :: rest) (hdg : decode c.code g.pc = .ok (.checkcast index, 3)) :
    ∃ T', Stand p l e R s m args below meth c T' locs cells slots ∧ T'.heap = T.heap ∧ ∀ target, Steps p.tables e below (T'.setTop { g with pc := g.pc + 3, stack := .ref a :: rest }) target → Steps p.tables e below (T.setTop g) target := by
  obtain ⟨cB, h1, D, h2, h3, h4⟩ := hE
  have h1' : s.vm.findClass C = some cB := by rw [← X.warmed.alike.findClass]; exact h1
  obtain ⟨vm', X', st⟩ := X.checkcastYes hexec hown hlink h2 h4 h1' (by rw [h3]; exact Jvm.Free.SB.assignable_self _ _) hg hstack hdg
  exact ⟨_, X', rfl, fun t h => st t (by rw [← hstack] at h; exact h)⟩
namespace SEq
def yN : MethodName := ⟨"java/lang/String", "equals", "(Ljava/lang/Object;)Z"⟩
abbrev yB : ByteArray := jdk_42_method_66_code
theorem d0 : decode yB 0 = .ok (.aload_n 0, 1) := by decide +kernel
theorem d1 : decode yB 1 = .ok (.aload_n 1, 1) := by decide +kernel
theorem d2 : decode yB 2 = .ok (.if_acmp (.ne) 5, 3) := by decide +kernel
theorem d5 : decode yB 5 = .ok (.iconst 1, 1) := by decide +kernel
theorem d6 : decode yB 6 = .ok (.ireturn, 1) := by decide +kernel
theorem d7 : decode yB 7 = .ok (.aload_n 1, 1) := by decide +kernel
theorem d8 : decode yB 8 = .ok (.instanceof 10, 3) := by decide +kernel
theorem d11 : decode yB 11 = .ok (.ifCond (.eq) 43, 3) := by decide +kernel
theorem d14 : decode yB 14 = .ok (.aload_n 1, 1) := by decide +kernel
theorem d15 : decode yB 15 = .ok (.checkcast 10, 3) := by decide +kernel
theorem d18 : decode yB 18 = .ok (.astore_n 2, 1) := by decide +kernel
theorem d19 : decode yB 19 = .ok (.getstatic 38, 3) := by decide +kernel
theorem d22 : decode yB 22 = .ok (.ifCond (.eq) 14, 3) := by decide +kernel
theorem d25 : decode yB 25 = .ok (.aload_n 0, 1) := by decide +kernel
theorem d26 : decode yB 26 = .ok (.getfield 15, 3) := by decide +kernel
theorem d29 : decode yB 29 = .ok (.aload_n 2, 1) := by decide +kernel
theorem d30 : decode yB 30 = .ok (.getfield 15, 3) := by decide +kernel
theorem d33 : decode yB 33 = .ok (.if_icmp (.ne) 21, 3) := by decide +kernel
theorem d36 : decode yB 36 = .ok (.aload_n 0, 1) := by decide +kernel
theorem d37 : decode yB 37 = .ok (.getfield 9, 3) := by decide +kernel
theorem d40 : decode yB 40 = .ok (.aload_n 2, 1) := by decide +kernel
theorem d41 : decode yB 41 = .ok (.getfield 9, 3) := by decide +kernel
theorem d44 : decode yB 44 = .ok (.invokestatic 541, 3) := by decide +kernel
theorem d47 : decode yB 47 = .ok (.ifCond (.eq) 7, 3) := by decide +kernel
theorem d50 : decode yB 50 = .ok (.iconst 1, 1) := by decide +kernel
theorem d51 : decode yB 51 = .ok (.goto 4, 3) := by decide +kernel
theorem d54 : decode yB 54 = .ok (.iconst 0, 1) := by decide +kernel
theorem d55 : decode yB 55 = .ok (.ireturn, 1) := by decide +kernel
def site : List Cond := [.classLink "java/lang/String" 10 "java/lang/String", .fieldLink "java/lang/String" 38 "java/lang/String" "COMPACT_STRINGS" "Z", .fieldLink "java/lang/String" 15 "java/lang/String" "coder" "B", .fieldLink "java/lang/String" 9 "java/lang/String" "value" "[B", LEq.tab] ++ staticW "java/lang/String" 541 LEq.yN
def tab : Cond := tabOf yN yB 3 (some .boolean) site
def P (x t : Addr) (V : Cell) (cd : Int32) (n : Nat) (f : Nat → Int32) (y t' : Addr) (V' : Cell) (cd' : Int32) (k : Nat) (g : Nat → Int32) (z : Int32) (args : Array Value) (s : State) : Prop := args = #[.ref x, .ref y] ∧ Txt x t V cd n f s ∧ Txt y t' V' cd' k g s ∧ StaticIs s "java/lang/String" "COMPACT_STRINGS" "Z" (.int z) ∧ ¬ z = 0
/-- equals(Object) of two Strings: whether the texts are the same -/
theorem law (l : Launch) (x t : Addr) (V : Cell) (cd : Int32) (n : Nat) (f : Nat → Int32) (y t' : Addr) (V' : Cell) (cd' : Int32) (k : Nat) (g : Nat → Int32) (z : Int32) : Law l yN 2 1 1 14 yB 3 (some .boolean) site (P x t V cd n f y t' V' cd' k g z) (Says01 (SameT n f k g)) [] 0 0 := by
  refine Law.of_walk (plainFor_of_name (by decide +kernel)) (by decide +kernel) (by decide +kernel) (by decide) (fun _ _ h => by rw [h.1]; rfl) (fun _ U U' hal hh h => ⟨h.1, h.2.1.mv hal hh, h.2.2.1.mv hal hh, h.2.2.2.1.there hal hh, h.2.2.2.2⟩) (fun r U U' V V' h1 hal h2 h => Says01.mv r U U' V V' h1 hal h2 h) ?_
  intro p e s m args below meth c s₁ X0 hexec hbytes hml hret hlk hnm hown hh0 W hP
  obtain ⟨rfl, hx, hy, s1, hz⟩ := hP
  have c1 : Steps p.tables e below (s₁.setTop (entryFrame m #[.ref x, .ref y] 3)) (s₁.setTop (mkF m 2 #[.val (.ref x), .val (.ref y), .unset] [.ref y, .ref x])) := Steps.trans (entry rfl) (by
    show Steps p.tables e below (s₁.setTop (mkF m 0 #[.val (.ref x), .val (.ref y), .unset] [])) _
    refine XS.aloadN X0.here hexec rfl (hb hbytes d0) rfl rfl ?_
    refine XS.aloadN X0.here hexec rfl (hb hbytes d1) rfl rfl ?_
    exact Steps.refl _)
  by_cases hxy : x = y
  · have c2 : Steps p.tables e below (s₁.setTop (entryFrame m #[.ref x, .ref y] 3)) (s₁.setTop (mkF m 6 #[.val (.ref x), .val (.ref y), .unset] [.int 1])) := c1.trans (by
      refine acmpNo X0.here hexec rfl (hb hbytes d2) rfl rfl rfl (by simp [acmp, hxy]) ?_
      refine iconstV X0.here hexec rfl 1 (hb hbytes d5) (by decide) ?_
      exact Steps.refl _)
    subst hxy
    have ec : cd = cd' := by
      obtain ⟨D, fd, a1, a2, a3⟩ := hx.2.2.1
      obtain ⟨D', fd', b1, b2, b3⟩ := hy.2.2.1
      cases a1.symm.trans b1
      obtain ⟨q1, q2, q3, q4⟩ := a2.1
      obtain ⟨r1, r2, r3, r4⟩ := b2.1
      cases q4.symm.trans r4
      cases a3.symm.trans b3; rfl
    have et : t = t' := by
      obtain ⟨D, fd, a1, a2, a3⟩ := hx.2.1
      obtain ⟨D', fd', b1, b2, b3⟩ := hy.2.1
      cases a1.symm.trans b1
      obtain ⟨q1, q2, q3, q4⟩ := a2.1
      obtain ⟨r1, r2, r3, r4⟩ := b2.1
      cases q4.symm.trans r4
      cases a3.symm.trans b3; rfl
    subst ec et
    have ev : V = V' := by cases hx.2.2.2.1.1.symm.trans hy.2.2.2.1.1; rfl
    subst ev
    have hs : SameT n f k g := (Cod.eqv hx.2.2.2.2.1 hy.2.2.2.2.1 hx.2.2.2.2.2 hy.2.2.2.2.2).mp ⟨rfl, fun _ _ => rfl⟩
    exact ⟨s₁, some (.int 1), _, _, _, X0, rfl, rfl, rfl, (fun h => by cases h), ⟨1, rfl, hh0, Or.inl ⟨rfl, hs⟩⟩, fun fs hl => c2.trans (X0.ireturnOut hexec hret rfl (Or.inr (Or.inl rfl)) (hb hbytes d6) hl)⟩
  · have c2 : Steps p.tables e below (s₁.setTop (entryFrame m #[.ref x, .ref y] 3)) (s₁.setTop (mkF m 8 #[.val (.ref x), .val (.ref y), .unset] [.ref y])) := c1.trans (by
      refine acmpYes X0.here hexec rfl (pc0 := 2) rfl (hb hbytes d2) rfl rfl rfl (by simp [acmp, hxy]) (by decide) rfl ?_
      refine XS.aloadN X0.here hexec rfl (hb hbytes d7) rfl rfl ?_
      exact Steps.refl _)
    obtain ⟨T3, X3, q3, st3⟩ := cinst X0 hexec hown (wk W (.classLink "java/lang/String" 10 "java/lang/String")) (hy.mv X0.warmed.alike hh0).1 (g := (mkF m 8 #[.val (.ref x), .val (.ref y), .unset] [.ref y])) rfl (rest := []) rfl (hb hbytes d8)
    have hh3 := q3.trans hh0
    have c4 : Steps p.tables e below (s₁.setTop (entryFrame m #[.ref x, .ref y] 3)) (T3.setTop (mkF m 15 #[.val (.ref x), .val (.ref y), .unset] [.ref y])) := (c2.trans (st3 _ (Steps.refl _))).trans (by
      refine XS.ifNo X3.here hexec rfl (hb hbytes d11) rfl (i0_eq_f (by decide)) ?_
      refine XS.aloadN X3.here hexec rfl (hb hbytes d14) rfl rfl ?_
      exact Steps.refl _)
    obtain ⟨T5, X5, q5, st5⟩ := cself X3 hexec hown (wk W (.classLink "java/lang/String" 10 "java/lang/String")) (hy.mv X3.warmed.alike hh3).1 (g := (mkF m 15 #[.val (.ref x), .val (.ref y), .unset] [.ref y])) rfl (rest := []) rfl (hb hbytes d15)
    have hh5 := q5.trans hh3
    have c6 : Steps p.tables e below (s₁.setTop (entryFrame m #[.ref x, .ref y] 3)) (T5.setTop (mkF m 19 #[.val (.ref x), .val (.ref y), .val (.ref y)] [])) := (c4.trans (st5 _ (Steps.refl _))).trans (by
      refine XS.astoreN X5.here hexec rfl (hb hbytes d18) rfl rfl rfl ?_
      exact Steps.refl _)
    obtain ⟨T7, X7, q7, st7⟩ := X5.sget hexec hown (wk W (.fieldLink "java/lang/String" 38 "java/lang/String" "COMPACT_STRINGS" "Z")) s1 (fun _ _ h => by rw [hh5]; exact h) (g := (mkF m 19 #[.val (.ref x), .val (.ref y), .val (.ref y)] [])) rfl (hb hbytes d19)
    have hh7 := q7.trans hh5
    have c8 : Steps p.tables e below (s₁.setTop (entryFrame m #[.ref x, .ref y] 3)) (T7.setTop (mkF m 26 #[.val (.ref x), .val (.ref y), .val (.ref y)] [.ref x])) := (c6.trans (st7 _ (Steps.refl _))).trans (by
      refine XS.ifNo X7.here hexec rfl (hb hbytes d22) rfl (i0_eq_f hz) ?_
      refine XS.aloadN X7.here hexec rfl (hb hbytes d25) rfl rfl ?_
      exact Steps.refl _)
    obtain ⟨T9, X9, q9, st9⟩ := X7.hget hexec hown (wk W (.fieldLink "java/lang/String" 15 "java/lang/String" "coder" "B")) (hx.mv X7.warmed.alike hh7).2.2.1 (g := (mkF m 26 #[.val (.ref x), .val (.ref y), .val (.ref y)] [.ref x])) rfl (rest := []) rfl (hb hbytes d26)
    have hh9 := q9.trans hh7
    have c10 : Steps p.tables e below (s₁.setTop (entryFrame m #[.ref x, .ref y] 3)) (T9.setTop (mkF m 30 #[.val (.ref x), .val (.ref y), .val (.ref y)] [.ref y, .int cd])) := (c8.trans (st9 _ (Steps.refl _))).trans (by
      refine XS.aloadN X9.here hexec rfl (hb hbytes d29) rfl rfl ?_
      exact Steps.refl _)
    obtain ⟨T11, X11, q11, st11⟩ := X9.hget hexec hown (wk W (.fieldLink "java/lang/String" 15 "java/lang/String" "coder" "B")) (hy.mv X9.warmed.alike hh9).2.2.1 (g := (mkF m 30 #[.val (.ref x), .val (.ref y), .val (.ref y)] [.ref y, .int cd])) rfl (rest := [.int cd]) rfl (hb hbytes d30)
    have hh11 := q11.trans hh9
    have c12 : Steps p.tables e below (s₁.setTop (entryFrame m #[.ref x, .ref y] 3)) (T11.setTop (mkF m 33 #[.val (.ref x), .val (.ref y), .val (.ref y)] [.int cd', .int cd])) := c10.trans (st11 _ (Steps.refl _))
    by_cases hcd : cd = cd'
    · subst hcd
      have c13 : Steps p.tables e below (s₁.setTop (entryFrame m #[.ref x, .ref y] 3)) (T11.setTop (mkF m 37 #[.val (.ref x), .val (.ref y), .val (.ref y)] [.ref x])) := c12.trans (by
        refine XS.icmpNo X11.here hexec rfl (hb hbytes d33) rfl (ii_ne_f rfl) ?_
        refine XS.aloadN X11.here hexec rfl (hb hbytes d36) rfl rfl ?_
        exact Steps.refl _)
      obtain ⟨T14, X14, q14, st14⟩ := X11.hget hexec hown (wk W (.fieldLink "java/lang/String" 9 "java/lang/String" "value" "[B")) (hx.mv X11.warmed.alike hh11).2.1 (g := (mkF m 37 #[.val (.ref x), .val (.ref y), .val (.ref y)] [.ref x])) rfl (rest := []) rfl (hb hbytes d37)
      have hh14 := q14.trans hh11
      have c15 : Steps p.tables e below (s₁.setTop (entryFrame m #[.ref x, .ref y] 3)) (T14.setTop (mkF m 41 #[.val (.ref x), .val (.ref y), .val (.ref y)] [.ref y, .ref t])) := (c13.trans (st14 _ (Steps.refl _))).trans (by
        refine XS.aloadN X14.here hexec rfl (hb hbytes d40) rfl rfl ?_
        exact Steps.refl _)
      obtain ⟨T16, X16, q16, st16⟩ := X14.hget hexec hown (wk W (.fieldLink "java/lang/String" 9 "java/lang/String" "value" "[B")) (hy.mv X14.warmed.alike hh14).2.1 (g := (mkF m 41 #[.val (.ref x), .val (.ref y), .val (.ref y)] [.ref y, .ref t])) rfl (rest := [.ref t]) rfl (hb hbytes d41)
      have hh16 := q16.trans hh14
      have c17 : Steps p.tables e below (s₁.setTop (entryFrame m #[.ref x, .ref y] 3)) (T16.setTop (mkF m 44 #[.val (.ref x), .val (.ref y), .val (.ref y)] [.ref t', .ref t])) := c15.trans (st16 _ (Steps.refl _))
      obtain ⟨v18, T18, X18, E18, g18⟩ := X16.callS hexec (LEq.law l t V t' V') hown (wks W (staticW "java/lang/String" 541 LEq.yN)) (wk W LEq.tab) (W := 0) (Nat.le_of_ble_eq_true rfl) (Nat.le_of_ble_eq_true rfl) (Nat.le_refl _) (Nat.le_refl _) (g := (mkF m 44 #[.val (.ref x), .val (.ref y), .val (.ref y)] [.ref t', .ref t])) rfl (by rw [hml]; rfl) c17 (argsL := [.ref t, .ref t']) (rest := []) rfl rfl (by show 2 * 0 + 0 ≤ _; decide) (hb hbytes d44) (⟨rfl, hx.2.2.2.1.mv X16.warmed.alike hh16, hx.2.2.2.2.1.ty, hy.2.2.2.1.mv X16.warmed.alike hh16, hy.2.2.2.2.1.ty⟩)
      obtain ⟨v, rfl, q18, hv⟩ := E18
      have iff := Cod.eqv hx.2.2.2.2.1 hy.2.2.2.2.1 hx.2.2.2.2.2 hy.2.2.2.2.2
      rcases hv with ⟨rfl, he⟩ | ⟨rfl, he⟩
      · have c19 : Steps p.tables e below (s₁.setTop (entryFrame m #[.ref x, .ref y] 3)) (T18.setTop (mkF m 55 #[.val (.ref x), .val (.ref y), .val (.ref y)] [.int 1])) := Steps.trans g18 (by
          refine XS.ifNo X18.here hexec rfl (hb hbytes d47) rfl (i0_eq_f (by decide)) ?_
          refine iconstV X18.here hexec rfl 1 (hb hbytes d50) (by decide) ?_
          refine XS.goto X18.here hexec rfl (pc0 := 51) rfl (hb hbytes d51) (by decide) rfl ?_
          exact Steps.refl _)
        exact ⟨T18, some (.int 1), _, _, _, X18, rfl, rfl, rfl, (fun h => by cases h), ⟨1, rfl, q18.trans hh16, Or.inl ⟨rfl, iff.mp he⟩⟩, fun fs hl => c19.trans (X18.ireturnOut hexec hret rfl (Or.inr (Or.inl rfl)) (hb hbytes d55) hl)⟩
      · have c19 : Steps p.tables e below (s₁.setTop (entryFrame m #[.ref x, .ref y] 3)) (T18.setTop (mkF m 55 #[.val (.ref x), .val (.ref y), .val (.ref y)] [.int 0])) := Steps.trans g18 (by
          refine XS.ifYes X18.here hexec rfl (pc0 := 47) rfl (hb hbytes d47) rfl (i0_eq_t rfl) (by decide) rfl ?_
          refine iconstV X18.here hexec rfl 0 (hb hbytes d54) (by decide) ?_
          exact Steps.refl _)
        exact ⟨T18, some (.int 0), _, _, _, X18, rfl, rfl, rfl, (fun h => by cases h), ⟨0, rfl, q18.trans hh16, Or.inr ⟨rfl, fun q => he (iff.mpr q)⟩⟩, fun fs hl => c19.trans (X18.ireturnOut hexec hret rfl (Or.inr (Or.inl rfl)) (hb hbytes d55) hl)⟩
    · have c13 : Steps p.tables e below (s₁.setTop (entryFrame m #[.ref x, .ref y] 3)) (T11.setTop (mkF m 55 #[.val (.ref x), .val (.ref y), .val (.ref y)] [.int 0])) := c12.trans (by
        refine XS.icmpYes X11.here hexec rfl (pc0 := 33) rfl (hb hbytes d33) rfl (ii_ne_t hcd) (by decide) rfl ?_
        refine iconstV X11.here hexec rfl 0 (hb hbytes d54) (by decide) ?_
        exact Steps.refl _)
      exact ⟨T11, some (.int 0), _, _, _, X11, rfl, rfl, rfl, (fun h => by cases h), ⟨0, rfl, hh11, Or.inr ⟨rfl, Cod.dif hx.2.2.2.2.1 hy.2.2.2.2.1 hcd⟩⟩, fun fs hl => c13.trans (X11.ireturnOut hexec hret rfl (Or.inr (Or.inl rfl)) (hb hbytes d55) hl)⟩
theorem pays {l : Launch} {R : Room} {p : Program} {e : Env} {below : List Frame} {s : State} {sargs : Array Value} {len W : Nat} (x t : Addr) (V : Cell) (cd : Int32) (n : Nat) (f : Nat → Int32) (y t' : Addr) (V' : Cell) (cd' : Int32) (k : Nat) (g : Nat → Int32) (z : Int32) (htab : tab.before sargs s = true) (hfr : 2 ≤ R.frames) (hlo : W + 28 ≤ R.locals) :
    Back l R p e below s sargs yN len W (fun A₁ a₁ => A₁.cells + 0 ≤ R.cells ∧ A₁.slots + 0 ≤ R.slots ∧ P x t V cd n f y t' V' cd' k g z a₁ A₁.U) (fun A₁ _ v₁ B₁ => Says01 (SameT n f k g) v₁ A₁.U B₁.U ∧ B₁.locs = A₁.locs ++ [] ∧ B₁.cells = A₁.cells + 0 ∧ B₁.slots = A₁.slots + 0) :=
  (law l x t V cd n f y t' V' cd' k g z).pays htab hfr (by omega)
end SEq
end StrChars
namespace StrChars.Road
open Jvm Sem ClassFile Op Lib Jvm.Stand Jvm.Free Jvm.Free.XT
open Jvm.Lib.Cold (StaticIs)
/-- the words of String.equals(Object) -/
abbrev wordsEq : List Jvm.Cond := [.code SEq.yN SEq.yB 3 (some .boolean), .initialized ST, .classLink ST 10 ST, .fieldLink ST 38 ST "COMPACT_STRINGS" "Z", .fieldLink ST 15 ST "coder" "B", .fieldLink ST 9 ST "value" "[B", .methodLink ST 541 LEq.yN, .static LEq.yN, .code LEq.yN LEq.yB 3 (some .boolean), .initialized "java/lang/StringLatin1"]
theorem tabEq_of {a : Array Value} {s : State} (h : ∀ w ∈ wordsEq, w.before a s = true) : SEq.tab.before a s = true := by
  have hl : LEq.tab.before a s = true := unparts (wk h (.code LEq.yN LEq.yB 3 (some .boolean))) (wks h (.initialized LEq.yN.cls :: LEq.site))
  have q := consq hl h
  exact unparts (wk q (.code SEq.yN SEq.yB 3 (some .boolean))) (wks q (.initialized SEq.yN.cls :: SEq.site))
theorem movedEq {Z s : State} {a0 args : Array Value} (hZ : Z.Warmed39 s.vm) (hw : ∀ d ∈ wordsEq, d.before a0 Z = true) : ∀ d ∈ wordsEq, d.before args s = true := fun d hd => by
  have t : ∀ d ∈ wordsEq, (d.onTables && d.keepsFace) = true := by decide +kernel
  exact RoadKit.mv hZ (hw d hd) (t d hd)
/-- the road's facts of a String, as the laws ask it -/
theorem txt_of {Z U : State} {a0 : Array Value} {kI : Nat} (wi : (Jvm.Cond.instantiable ST kI).before a0 Z = true) (al : Z.vm.Alike U.vm) {x t : Addr} {kb : ClassId} {cs : List Int32} {cd N2 : Int32} {vs : List Value} (E : RoadKit.Exa Z U.heap x ST) (V : RoadKit.Fld Z U.heap x ST "value" "[B" (.ref t)) (C : RoadKit.Fld Z U.heap x ST "coder" "B" (.int cd)) (K : RoadKit.Arv Z U.heap t kb .byte N2 vs (.int 0)) (hc : CodA cs cd N2 vs) (hb : ∀ c ∈ cs, ¬ c < 0 ∧ ¬ (65535 : Int32) < c) (l2 : cs.length ≤ 4000) :
    ∃ A, Txt x t A cd cs.length (fun j => cs.getD j 0) U := by
  obtain ⟨A, K1, K2, K3, K4, K5, K6⟩ := K
  have hcod := hc.cod (by omega) K3 K5
  obtain ⟨D, fV, fC, hB, F1, F2, g1, g2, -, -⟩ := strObj wi al E V C
  exact ⟨A, ⟨_, hB.2.2.1, D, hB.1, rfl, by cases q : D.vm <;> first | rfl | exact absurd q (hB.2.1.2 _)⟩, Has.of hB F1 g1, Has.of hB F2 g2, ⟨K1.1, State.isArrayOf_alike al K1.2.1, K1.2.2, by rcases hcod with ⟨-, q, -⟩ | ⟨-, q, -⟩ <;> omega⟩, hcod, fun j hj => by
    have e : cs.getD j 0 = cs[j] := by simp [List.getD_eq_getElem?_getD, hj]
    show ¬ cs.getD j 0 < 0 ∧ ¬ 65535 < cs.getD j 0
    rw [e]; exact hb _ (List.getElem_mem _)⟩
theorem same_list (cs ds : List Int32) : SameT cs.length (fun j => cs.getD j 0) ds.length (fun j => ds.getD j 0) ↔ cs = ds := by
  constructor
  · rintro ⟨e, q⟩
    refine List.ext_getElem e fun j h1 h2 => ?_
    have := q j h1
    simpa [List.getD_eq_getElem?_getD, h1, h2] using this
  · rintro rfl
    exact ⟨rfl, fun _ _ => rfl⟩
/-- **equals(Object) OF TWO SUCH STRINGS**: 1 just where the chars are the same -/
theorem eqW {p : Program} {l : Launch} {e : Env} {R : Room} {s : State} {args : Array Value} {below : List Frame} {len W : Nat} {Z : State} {a0 : Array Value} {h : Heap} (hZ : Z.Warmed39 s.vm) (hw : ∀ d ∈ wordsEq, d.before a0 Z = true) {kI : Nat} (wi : (Jvm.Cond.instantiable ST kI).before a0 Z = true)
    {x t : Addr} {kb : ClassId} {cs : List Int32} {cd N2 : Int32} {vs : List Value} (E : RoadKit.Exa Z h x ST) (V : RoadKit.Fld Z h x ST "value" "[B" (.ref t)) (C : RoadKit.Fld Z h x ST "coder" "B" (.int cd)) (K : RoadKit.Arv Z h t kb .byte N2 vs (.int 0)) (hc : CodA cs cd N2 vs) (hb : ∀ c ∈ cs, ¬ c < 0 ∧ ¬ (65535 : Int32) < c) (l2 : cs.length ≤ 4000)
    {y t' : Addr} {kb' : ClassId} {ds : List Int32} {cd' N2' : Int32} {vs' : List Value} (E' : RoadKit.Exa Z h y ST) (V' : RoadKit.Fld Z h y ST "value" "[B" (.ref t')) (C' : RoadKit.Fld Z h y ST "coder" "B" (.int cd')) (K' : RoadKit.Arv Z h t' kb' .byte N2' vs' (.int 0)) (hc' : CodA ds cd' N2' vs') (hb' : ∀ c ∈ ds, ¬ c < 0 ∧ ¬ (65535 : Int32) < c) (l2' : ds.length ≤ 4000)
    {z : Int32} (S : RoadKit.Sta Z h ST "COMPACT_STRINGS" "Z" (.int z)) (hz : ¬ z = 0) (hfr : 2 ≤ R.frames) (hlo : W + 28 ≤ R.locals) :
    Back l R p e below s args (⟨"java/lang/String", "equals", "(Ljava/lang/Object;)Z"⟩ : MethodName) len W (fun P a => a = #[.ref x, .ref y] ∧ P.U.heap = h ∧ P.cells + 0 ≤ R.cells ∧ P.slots + 0 ≤ R.slots)
      (fun P _ v B => ∃ L, (((v = some (.int 1) ∧ cs = ds) ∨ (v = some (.int 0) ∧ ¬ cs = ds)) ∧ L = [] ∧ B.U.heap = h) ∧ B.locs = P.locs ++ L ∧ B.cells = P.cells + 0 ∧ B.slots = P.slots + 0) := by
  intro m meth c P g ig mk a X hg hsize hdg hW hn hp'
  obtain ⟨rfl, rfl, r1, r2⟩ := hp'
  have al : Z.vm.Alike P.U.vm := hZ.alike.trans X.warmed.alike
  obtain ⟨A, hx⟩ := txt_of wi al E V C K hc hb l2
  obtain ⟨A', hy⟩ := txt_of wi al E' V' C' K' hc' hb' l2'
  obtain ⟨v, B, X', ⟨⟨w, hv, hh, hq⟩, hl, hk, hs⟩, st⟩ := SEq.pays x t A cd cs.length (fun j => cs.getD j 0) y t' A' cd' ds.length (fun j => ds.getD j 0) z (tabEq_of (movedEq hZ hw)) hfr hlo m meth c P g ig mk _ X hg hsize hdg hW hn ⟨r1, r2, rfl, hx, hy, sta_is al S, hz⟩
  refine ⟨v, B, X', ⟨[], ⟨?_, rfl, hh⟩, hl, hk, hs⟩, st⟩
  rcases hq with ⟨rfl, q⟩ | ⟨rfl, q⟩
  · exact Or.inl ⟨hv, (same_list cs ds).mp q⟩
  · exact Or.inr ⟨hv, fun e => q ((same_list cs ds).mpr e)⟩
end StrChars.Road
namespace StrChars
open Jvm Sem ClassFile Op Lib Jvm.Stand Jvm.Free.XT Jvm.Free.ALB Jvm.Free.JM Jvm.Free
open Jvm.Lib.Cold (StaticIs)
namespace ChN
def yN : MethodName := ⟨"java/lang/String", "charAt", "(I)C"⟩
abbrev yB : ByteArray := jdk_42_method_56_code
theorem d0 : decode yB 0 = .ok (.aload_n 0, 1) := by decide +kernel
theorem d1 : decode yB 1 = .ok (.invokevirtual 492, 3) := by decide +kernel
theorem d4 : decode yB 4 = .ok (.ifCond (.eq) 12, 3) := by decide +kernel
theorem d7 : decode yB 7 = .ok (.aload_n 0, 1) := by decide +kernel
theorem d8 : decode yB 8 = .ok (.getfield 9, 3) := by decide +kernel
theorem d11 : decode yB 11 = .ok (.iload_n 1, 1) := by decide +kernel
theorem d12 : decode yB 12 = .ok (.invokestatic 495, 3) := by decide +kernel
theorem d15 : decode yB 15 = .ok (.ireturn, 1) := by decide +kernel
def site : List Cond := [.fieldLink "java/lang/String" 9 "java/lang/String" "value" "[B", IsL.tab, LChA.tab] ++ virtW "java/lang/String" 492 "java/lang/String" IsL.yN IsL.yN ++ staticW "java/lang/String" 495 LChA.yN
def tab : Cond := tabOf yN yB 2 (some .char) site
def P (x t : Addr) (V : Cell) (n : Nat) (f : Nat → Int32) (z : Int32) (fm : Value) (i : Nat) (args : Array Value) (s : State) : Prop := args = #[.ref x, .int (Int32.ofNat i)] ∧ Txt x t V 0 n f s ∧ i < n ∧ StaticIs s "java/lang/String" "COMPACT_STRINGS" "Z" (.int z) ∧ ¬ z = 0 ∧ StaticIs s "jdk/internal/util/Preconditions" "SIOOBE_FORMATTER" "Ljava/util/function/BiFunction;" fm ∧ fm.isRef = true
def E (f : Nat → Int32) (i : Nat) (r : Option Value) (s u : State) : Prop := XT.PureE (some (.int (f i))) r s u
/-- charAt(i) of a Latin-1 String of n chars, i < n: f i -/
theorem law (l : Launch) (x t : Addr) (V : Cell) (n : Nat) (f : Nat → Int32) (z : Int32) (fm : Value) (i : Nat) : Law l yN 2 1 3 40 yB 2 (some .char) site (P x t V n f z fm i) (E f i) [] 0 0 := by
  refine Law.of_walk (plainFor_of_name (by decide +kernel)) (by decide +kernel) (by decide +kernel) (by decide) (fun _ _ h => by rw [h.1]; rfl) (fun _ U U' hal hh h => ⟨h.1, h.2.1.mv hal hh, h.2.2.1, h.2.2.2.1.there hal hh, h.2.2.2.2.1, h.2.2.2.2.2.1.there hal hh, h.2.2.2.2.2.2⟩) (fun r U U' V V' h1 hal h2 h => XT.PureE.mv r U U' V V' h1 hal h2 h) ?_
  intro p e s m args below meth c s₁ X0 hexec hbytes hml hret hlk hnm hown hh0 W hP
  obtain ⟨rfl, hx, hi, s1, hz, s3, rf⟩ := hP
  have v31 := hx.2.2.2.1.2.2.2
  have hr := hx.2.2.2.2.2 i hi
  have hx0 := hx.mv X0.warmed.alike hh0
  have c1 : Steps p.tables e below (s₁.setTop (entryFrame m #[.ref x, .int (Int32.ofNat i)] 2)) (s₁.setTop (mkF m 1 #[.val (.ref x), .val (.int (Int32.ofNat i))] [.ref x])) := Steps.trans (entry rfl) (by
    show Steps p.tables e below (s₁.setTop (mkF m 0 #[.val (.ref x), .val (.int (Int32.ofNat i))] [])) _
    refine XS.aloadN X0.here hexec rfl (hb hbytes d0) rfl rfl ?_
    exact Steps.refl _)
  obtain ⟨v2, T2, X2, E2, g2⟩ := X0.callV hexec (IsL.law l x 0 z) hown (wks W (virtW "java/lang/String" 492 "java/lang/String" IsL.yN IsL.yN)) rfl (by decide) (wk W IsL.tab) (W := 0) (Nat.le_of_ble_eq_true rfl) (Nat.le_of_ble_eq_true rfl) (Nat.le_refl _) (Nat.le_refl _) (hx0.1.fc X0.warmed.alike) hx0.1.is (g := (mkF m 1 #[.val (.ref x), .val (.int (Int32.ofNat i))] [.ref x])) rfl (by rw [hml]; rfl) c1 (argsL := []) (rest := []) rfl rfl (by show 2 * 0 + 0 ≤ _; decide) (hb hbytes d1) (⟨rfl, hx0.2.2.1, hx.2.2.2.2.1.cd, s1.there X0.warmed.alike hh0, hz⟩)
  obtain ⟨rfl, q2⟩ := E2
  have hh2 := q2.trans hh0
  have hx2 := hx.mv X2.warmed.alike hh2
  obtain ⟨-, k1, k2⟩ | ⟨k0, -⟩ := hx.2.2.2.2.1
  · have c3 : Steps p.tables e below (s₁.setTop (entryFrame m #[.ref x, .int (Int32.ofNat i)] 2)) (T2.setTop (mkF m 8 #[.val (.ref x), .val (.int (Int32.ofNat i))] [.ref x])) := Steps.trans g2 (by
      refine XS.ifNo X2.here hexec rfl (hb hbytes d4) rfl (i0_eq_f (by decide)) ?_
      refine XS.aloadN X2.here hexec rfl (hb hbytes d7) rfl rfl ?_
      exact Steps.refl _)
    obtain ⟨T4, X4, q4, st4⟩ := X2.hget hexec hown (wk W (.fieldLink "java/lang/String" 9 "java/lang/String" "value" "[B")) hx2.2.1 (g := (mkF m 8 #[.val (.ref x), .val (.int (Int32.ofNat i))] [.ref x])) rfl (rest := []) rfl (hb hbytes d8)
    have hh4 := q4.trans hh2
    have c5 : Steps p.tables e below (s₁.setTop (entryFrame m #[.ref x, .int (Int32.ofNat i)] 2)) (T4.setTop (mkF m 12 #[.val (.ref x), .val (.int (Int32.ofNat i))] [.int (Int32.ofNat i), .ref t])) := (c3.trans (st4 _ (Steps.refl _))).trans (by
      refine XS.iloadN X4.here hexec rfl (hb hbytes d11) rfl ?_
      exact Steps.refl _)
    obtain ⟨v6, T6, X6, E6, g6⟩ := X4.callS hexec (LChA.law l t V i (lo8 (f i)) fm) hown (wks W (staticW "java/lang/String" 495 LChA.yN)) (wk W LChA.tab) (W := 0) (Nat.le_of_ble_eq_true rfl) (Nat.le_of_ble_eq_true rfl) (Nat.le_refl _) (Nat.le_refl _) (g := (mkF m 12 #[.val (.ref x), .val (.int (Int32.ofNat i))] [.int (Int32.ofNat i), .ref t])) rfl (by rw [hml]; rfl) c5 (argsL := [.ref t, .int (Int32.ofNat i)]) (rest := []) rfl rfl (by show 2 * 0 + 0 ≤ _; decide) (hb hbytes d12) (⟨rfl, hx.2.2.2.1.mv X4.warmed.alike hh4, (k2 i hi).1, s3.there X4.warmed.alike hh4, rf⟩)
    obtain ⟨rfl, q6⟩ := E6
    rw [chr8_lo8 hr.1 (k2 i hi).2] at g6
    exact ⟨T6, some (.int (f i)), _, _, _, X6, rfl, rfl, rfl, (fun h => by cases h), ⟨rfl, q6.trans hh4⟩, fun fs hl => Steps.trans g6 (X6.ireturnOut hexec hret (narrow_ch hr.1 hr.2) (Or.inr (Or.inr (Or.inr (Or.inl rfl)))) (hb hbytes d15) hl)⟩
  · exact absurd k0 (by decide)
theorem pays {l : Launch} {R : Room} {p : Program} {e : Env} {below : List Frame} {s : State} {sargs : Array Value} {len W : Nat} (x t : Addr) (V : Cell) (n : Nat) (f : Nat → Int32) (z : Int32) (fm : Value) (i : Nat) (htab : tab.before sargs s = true) (hfr : 4 ≤ R.frames) (hlo : W + 53 ≤ R.locals) :
    Back l R p e below s sargs yN len W (fun A₁ a₁ => A₁.cells + 0 ≤ R.cells ∧ A₁.slots + 0 ≤ R.slots ∧ P x t V n f z fm i a₁ A₁.U) (fun A₁ _ v₁ B₁ => E f i v₁ A₁.U B₁.U ∧ B₁.locs = A₁.locs ++ [] ∧ B₁.cells = A₁.cells + 0 ∧ B₁.slots = A₁.slots + 0) :=
  (law l x t V n f z fm i).pays htab hfr (by omega)
end ChN
end StrChars
namespace StrChars.Road
open Jvm Sem ClassFile Op Lib Jvm.Stand Jvm.Free Jvm.Free.XT
open Jvm.Lib.Cold (StaticIs)
/-- the words of String.charAt(int), the Latin-1 road alone -/
abbrev wordsChN : List Jvm.Cond := [.code ChN.yN ChN.yB 2 (some .char), .initialized ST, .fieldLink ST 9 ST "value" "[B", .fieldLink ST 38 ST "COMPACT_STRINGS" "Z", .fieldLink ST 15 ST "coder" "B", .code IsL.yN IsL.yB 1 (some .boolean), .methodLink ST 492 IsL.yN, .declares IsL.yN, .selects ST IsL.yN IsL.yN, .instanceMethod IsL.yN,
  .methodLink ST 495 LChA.yN, .static LChA.yN, .code LChA.yN LChA.yB 2 (some .char), .initialized "java/lang/StringLatin1", .methodLink "java/lang/StringLatin1" 9 JO.Str_checkIndex.yN, .static JO.Str_checkIndex.yN, .code JO.Str_checkIndex.yN JO.Str_checkIndex.yB 2 none,
  .fieldLink ST 1053 "jdk/internal/util/Preconditions" "SIOOBE_FORMATTER" "Ljava/util/function/BiFunction;", .methodLink ST 1059 JC.PreCheck.yN, .static JC.PreCheck.yN, .code JC.PreCheck.yN JC.PreCheck.yB 3 (some .int), .initialized "jdk/internal/util/Preconditions"]
theorem tabChN_of {a : Array Value} {s : State} (h : ∀ w ∈ wordsChN, w.before a s = true) : ChN.tab.before a s = true := by
  have hp : JC.PreCheck.tab.before a s = true := unparts (wk h (.code JC.PreCheck.yN JC.PreCheck.yB 3 (some .int))) (wks h (.initialized JC.PreCheck.yN.cls :: JC.PreCheck.site))
  have qk := consq hp h
  have hk : JO.Str_checkIndex.tab.before a s = true := unparts (wk qk (.code JO.Str_checkIndex.yN JO.Str_checkIndex.yB 2 none)) (wks qk (.initialized JO.Str_checkIndex.yN.cls :: JO.Str_checkIndex.site))
  have ql := consq hk h
  have hl : LChA.tab.before a s = true := unparts (wk ql (.code LChA.yN LChA.yB 2 (some .char))) (wks ql (.initialized LChA.yN.cls :: LChA.site))
  have hi : IsL.tab.before a s = true := unparts (wk h (.code IsL.yN IsL.yB 1 (some .boolean))) (wks h (.initialized IsL.yN.cls :: IsL.site))
  have q := consq hi (consq hl h)
  exact unparts (wk q (.code ChN.yN ChN.yB 2 (some .char))) (wks q (.initialized ChN.yN.cls :: ChN.site))
theorem movedChN {Z s : State} {a0 args : Array Value} (hZ : Z.Warmed39 s.vm) (hw : ∀ d ∈ wordsChN, d.before a0 Z = true) : ∀ d ∈ wordsChN, d.before args s = true := fun d hd => by
  have t : ∀ d ∈ wordsChN, (d.onTables && d.keepsFace) = true := by decide +kernel
  exact RoadKit.mv hZ (hw d hd) (t d hd)
/-- **charAt(i) OF A LATIN-1 STRING**, i < n: the char -/
theorem chN {p : Program} {l : Launch} {e : Env} {R : Room} {s : State} {args : Array Value} {below : List Frame} {len W : Nat} {Z : State} {a0 : Array Value} {h : Heap} (hZ : Z.Warmed39 s.vm) (hw : ∀ d ∈ wordsChN, d.before a0 Z = true) {kI : Nat} (wi : (Jvm.Cond.instantiable ST kI).before a0 Z = true)
    {x t : Addr} {kb : ClassId} {cs : List Int32} {N2 z : Int32} {vs : List Value} {fm : Value} {i : Nat} {j : Int32} (E : RoadKit.Exa Z h x ST) (V : RoadKit.Fld Z h x ST "value" "[B" (.ref t)) (C : RoadKit.Fld Z h x ST "coder" "B" (.int 0)) (K : RoadKit.Arv Z h t kb .byte N2 vs (.int 0)) (hc : CodA cs 0 N2 vs) (hb : ∀ c ∈ cs, ¬ c < 0 ∧ ¬ (65535 : Int32) < c)
    (S : RoadKit.Sta Z h ST "COMPACT_STRINGS" "Z" (.int z)) (hz : ¬ z = 0) (F : RoadKit.Sta Z h "jdk/internal/util/Preconditions" "SIOOBE_FORMATTER" "Ljava/util/function/BiFunction;" fm) (rf : fm.isRef = true) (l2 : cs.length ≤ 4000) (hi : i < cs.length) (hj : j = Int32.ofNat i) (hfr : 4 ≤ R.frames) (hlo : W + 53 ≤ R.locals) :
    Back l R p e below s args (⟨"java/lang/String", "charAt", "(I)C"⟩ : MethodName) len W (fun P a => a = #[.ref x, .int j] ∧ P.U.heap = h ∧ P.cells + 0 ≤ R.cells ∧ P.slots + 0 ≤ R.slots)
      (fun P _ v B => ∃ L, (v = some (.int (cs.getD i 0)) ∧ L = [] ∧ B.U.heap = h) ∧ B.locs = P.locs ++ L ∧ B.cells = P.cells + 0 ∧ B.slots = P.slots + 0) := by
  subst hj
  intro m meth c P g ig mk a X hg hsize hdg hW hn hp'
  obtain ⟨rfl, rfl, r1, r2⟩ := hp'
  have al : Z.vm.Alike P.U.vm := hZ.alike.trans X.warmed.alike
  obtain ⟨A, hx⟩ := txt_of wi al E V C K hc hb l2
  obtain ⟨v, B, X', ⟨⟨hv, hh⟩, hl, hk, hs⟩, st⟩ := ChN.pays x t A cs.length (fun j => cs.getD j 0) z fm i (tabChN_of (movedChN hZ hw)) hfr hlo m meth c P g ig mk _ X hg hsize hdg hW hn ⟨r1, r2, rfl, hx, hi, sta_is al S, hz, sta_is al F, rf⟩
  exact ⟨v, B, X', ⟨[], ⟨hv, rfl, hh⟩, hl, hk, hs⟩, st⟩
/-- what backV says of its String, as the contracts of this text ask it: cs's low bytes, coder 0 -/
theorem codOf {cs : List Int32} {n : Nat} (hn : cs.length = n) (hb : ∀ c ∈ cs, ¬ 255 < c) : CodA cs 0 (Int32.ofNat n) ((cs.map lo8).map Value.int) := Or.inl ⟨rfl, by rw [hn], by simp [List.map_map, Function.comp_def], hb⟩
end StrChars.Road
end Jvm.Pilot.@@N@@
namespace Jvm.Pilot.@@N@@
open Jvm Jvm.ClassFile Sem Op Lib Jvm.Free Jvm.Stand Jvm.LawKit Jvm.RoadKit Bundle Jvm.Pilot.@@N@@.Jvm.D
section OwnKit
variable {p : Program} {l : Launch} {e : Env} {R : Room} {s : State} {m : MethodId} {args : Array Value} {below : List Frame} {meth : Method} {c : Code} {T : State} {locs : List Loc} {cells slots : Nat} {Z : State} {a0 : Array Value} {h : Heap} {Q : Option Value → Heap → List Loc → Prop} {C S : Nat} {F : State → Outcome → Prop}
/-- what is left of a walk: from T with the top frame g the invocation comes to its end, and F holds there -/
def Go (p : Program) (e : Env) (below : List Frame) (F : State → Outcome → Prop) (T : State) (g : JFrame) : Prop :=
  ∃ t o, Steps p.tables e below (T.setTop g) t ∧ t.status = .running ∧ Ended t below o ∧ F t o
/-- it returned, Q holds, and no more has changed than the frame says -/
def FN (s : State) (Q : Option Value → Heap → List Loc → Prop) (C S : Nat) (t : State) (o : Outcome) : Prop := ∃ v L, o = .returned v ∧ Q v t.heap L ∧ FrameEnd s o t L C S
theorem Go.of {T' : State} {g g' : JFrame} (h : ∀ t, Steps p.tables e below (T'.setTop g') t → Steps p.tables e below (T.setTop g) t) (k : Go p e below F T' g') : Go p e below F T g := by
  obtain ⟨t, o, h1, h2⟩ := k
  exact ⟨t, o, h _ h1, h2⟩
theorem Go.cast {g g' : JFrame} (q : g = g') (k : Go p e below F T g') : Go p e below F T g := q ▸ k
theorem Go.ret (X : Stand p l e R s m args below meth c T locs cells slots) {v : Option Value} {g : JFrame} (hlk : meth.locks = false) (hv : meth.sig.returnType = none → v = none)
    (st : ∀ fs, (∀ (f : JFrame) (acts : List Action), f.method = m → f.locked = none → f.entered = [] → (doReturn e (T.setTop f) acts v).1 = T.setFrames fs) → Steps p.tables e below (T.setTop g) (T.setFrames fs))
    (hc : cells ≤ C) (hs : slots ≤ S) (hQ : Q v T.heap locs) : Go p e below (FN s Q C S) T g := by
  obtain ⟨fs, hr, hrun, hended, hW, hsame⟩ := X.leave (v := v) hv hlk
  exact ⟨_, _, st fs hr, hrun, hended, _, _, rfl, hQ, ⟨_, rfl⟩, hW, hsame.mono hc hs⟩
theorem Go.retN (X : Stand p l e R s m args below meth c T locs cells slots) (hx : p.tables.exec = Jvm.exec) (hlk : meth.locks = false) {pc : Nat} {Ls : Array Slot} {z : Int32} {rest : List Value} {t : FieldType} (hret : meth.sig.returnType = some t) (ht : t = .boolean ∨ t = .byte ∨ t = .char ∨ t = .short) (hd : decode c.code pc = .ok (.ireturn, 1))
    (hc : cells ≤ C) (hs : slots ≤ S) (hQ : Q (some (.int (nar t z))) T.heap locs) : Go p e below (FN s Q C S) T (mkF m pc Ls (.int z :: rest)) :=
  Go.ret X hlk (fun h => by rw [hret] at h; cases h) (fun _ hr => Jvm.RoadKit.retN X hx hret ht hd hr) hc hs hQ
theorem Go.retA (X : Stand p l e R s m args below meth c T locs cells slots) (hx : p.tables.exec = Jvm.exec) (hlk : meth.locks = false) {pc : Nat} {Ls : Array Slot} {w : Value} {rest : List Value} {t : FieldType} (hret : meth.sig.returnType = some t) (ht : t.isReference = true) (hw : w.isRef = true) (hd : decode c.code pc = .ok (.areturn, 1))
    (hc : cells ≤ C) (hs : slots ≤ S) (hQ : Q (some w) T.heap locs) : Go p e below (FN s Q C S) T (mkF m pc Ls (w :: rest)) :=
  Go.ret X hlk (fun h => by rw [hret] at h; cases h) (fun _ hr => retOut X hx hret (by cases t <;> cases w <;> first | rfl | (simp [FieldType.isReference] at ht) | (simp [Value.isRef] at hw)) (Or.inr (Or.inr (Or.inr (Or.inr ⟨rfl, ht, hw⟩)))) hd hr) hc hs hQ
theorem Go.retV (X : Stand p l e R s m args below meth c T locs cells slots) (hx : p.tables.exec = Jvm.exec) (hlk : meth.locks = false) {pc : Nat} {Ls : Array Slot} (hret : meth.sig.returnType = none) (hd : decode c.code pc = .ok (.return_, 1))
    (hc : cells ≤ C) (hs : slots ≤ S) (hQ : Q none T.heap locs) : Go p e below (FN s Q C S) T (mkF m pc Ls []) :=
  Go.ret X hlk (fun _ => rfl) (fun _ hr => X.returnOut hx hret hd hr) hc hs hQ
/-- a body's contract at given arguments and a given heap -/
def Ct (l : Launch) (y : MethodName) (bytes : ByteArray) (maxL : Nat) (ret : Option FieldType) (rm : Room) (Z : State) (h0 : Heap) (as' : Array Value) (Q : Option Value → Heap → List Loc → Prop) : Prop :=
  ∀ ws, MetFree l y (head1 (Jvm.Cond.code y bytes maxL ret :: ws) rm) (fun a U => a = as' ∧ Z.Warmed39 U.vm ∧ U.heap = h0) (fun _ _ _ _ _ => True) (fun _ U o U' => ∃ v L, o = .returned v ∧ Q v U'.heap L ∧ FrameEnd U o U' L rm.cells rm.slots)
theorem Ct.body {y : MethodName} {bytes : ByteArray} {maxL : Nat} {ret : Option FieldType} {rm : Room} {as' : Array Value} (hpl : plainFor y = true)
    (k : ∀ (p : Program) (e : Env) (s : State) (m : MethodId) (below : List Frame) (meth : Method) (c : Code) (T : State), p.tables.exec = Jvm.exec → c.code = bytes → c.maxLocals = maxL → s.vm.findClass y.cls = some m.cls → meth.name = y.name → meth.sig.returnType = ret → meth.locks = false → Z.Warmed39 s.vm →
      Stand p l e rm s m as' below meth c T [] 0 0 → T.heap = h → Go p e below (FN s Q rm.cells rm.slots) T (entryFrame m as' maxL)) : Ct l y bytes maxL ret rm Z h as' Q := fun ws => by
  refine MetFree.of_bodySF hpl hisR ?_
  intro p e s m args below meth c s₁ Bd hml0 hP hK
  obtain ⟨rfl, hZ, hh⟩ := hP
  exact k p e s m below meth c s₁ Bd.exec Bd.bytes hml0 (findClass_of_methodNamed Bd.named) (name_of_methodNamed Bd.named Bd.method).1 Bd.returns Bd.notSynchronized hZ (Stand.of_body Bd) (by rw [← hh, Bd.state]; rfl)
theorem Go.callS (X : Stand p l e R s m args below meth c T locs cells slots) (hx : p.tables.exec = Jvm.exec) (hZ : Z.Warmed39 s.vm) {own : String} {index : Nat} {y : MethodName} {bytes : ByteArray} {maxL : Nat} {ret : Option FieldType} (hown : s.vm.findClass own = some m.cls)
    (wl : (Jvm.Cond.methodLink own index y).before a0 Z = true) (wst : (Jvm.Cond.static y).before a0 Z = true) (wz : (Jvm.Cond.initialized y.cls).before a0 Z = true) (wc : (Jvm.Cond.code y bytes maxL ret).before a0 Z = true) (hy : y.cls ≠ "java/lang/invoke/MethodHandle" ∧ y.cls ≠ "java/lang/invoke/VarHandle")
    (eT : T.heap = h) {rm : Room} {argsL rest : List Value} {Q' : Option Value → Heap → List Loc → Prop} (hC : Ct l y bytes maxL ret rm Z h argsL.toArray Q') {pc : Nat} {Ls : Array Slot} {st : List Value} (hsz : Ls.size = c.maxLocals)
    (hlen : ∀ sig, parseMethodDescriptor y.desc = some sig → argsL.length = sig.parameters.length) (hst : st = argsL.reverse ++ rest) (hd : decode c.code pc = .ok (.invokestatic index, 3)) (hf : rm.frames + 1 ≤ R.frames) (hl : (rest.map fun v => v.category).sum + (maxL + 11) + rm.locals ≤ R.locals) (hc : cells + rm.cells ≤ R.cells) (hs : slots + rm.slots ≤ R.slots)
    (k : ∀ v T' L, Q' v T'.heap L → Stand p l e R s m args below meth c T' (locs ++ L) (cells + rm.cells) (slots + rm.slots) → Go p e below F T' (mkF m (pc + 3) Ls (v.toList ++ rest))) :
    Go p e below F T (mkF m pc Ls st) := by
  obtain ⟨v, _, ⟨T', L', k', n'⟩, -, X', ⟨L, hQ, l1, y1, z1⟩, stp⟩ := Jvm.LawKit.callS X hx (y := y) hown (mvT hZ wl) (mvT hZ wst) (mvT hZ wz) (mvT hZ wc) hy (backOf (W := (rest.map fun v => v.category).sum) (hC []) hZ wc wz hf hl) (g := mkF m pc Ls st) rfl hsz (argsL := argsL) (rest := rest) hlen hst (by show 2 * 0 + _ ≤ _; exact Nat.le_of_eq (Nat.zero_add _)) hd (fun _ _ => ⟨rfl, eT, hc, hs⟩)
  dsimp only [Pt.U, Pt.locs, Pt.cells, Pt.slots] at X' l1 y1 z1 stp hQ
  subst l1 y1 z1
  exact Go.of stp (k _ _ _ hQ X')
theorem Go.getF (X : Stand p l e R s m args below meth c T locs cells slots) (hx : p.tables.exec = Jvm.exec) (hZ : Z.Warmed39 s.vm) {own R0 O n d : String} {index : Nat} (hown : s.vm.findClass own = some m.cls) (w : (Jvm.Cond.fieldLink own index R0 n d).before a0 Z = true) (via : Via Z R0 O n d)
    (eT : T.heap = h) {a : Addr} {v : Value} (fF : Fld Z h a O n d v) {pc : Nat} {Ls : Array Slot} {rest : List Value} (hd : decode c.code pc = .ok (.getfield index, 3))
    (k : ∀ T', Stand p l e R s m args below meth c T' locs cells slots → T'.heap = h → Go p e below F T' (mkF m (pc + 3) Ls (v :: rest))) : Go p e below F T (mkF m pc Ls (.ref a :: rest)) := by
  obtain ⟨T', X', e', st⟩ := Jvm.RoadKit.getF X hx hZ hown (host := "") (Or.inl w) via eT fF (g := mkF m pc Ls (.ref a :: rest)) rfl rfl hd
  exact Go.of st (k _ X' e')
theorem Go.getS (X : Stand p l e R s m args below meth c T locs cells slots) (hx : p.tables.exec = Jvm.exec) (hZ : Z.Warmed39 s.vm) {own R0 O n d : String} {index : Nat} (hown : s.vm.findClass own = some m.cls) (w : (Jvm.Cond.fieldLink own index R0 n d).before a0 Z = true) (via : Via Z R0 O n d)
    (eT : T.heap = h) {v : Value} (fF : Sta Z h O n d v) {pc : Nat} {Ls : Array Slot} {rest : List Value} (hd : decode c.code pc = .ok (.getstatic index, 3))
    (k : ∀ T', Stand p l e R s m args below meth c T' locs cells slots → T'.heap = h → Go p e below F T' (mkF m (pc + 3) Ls (v :: rest))) : Go p e below F T (mkF m pc Ls rest) := by
  obtain ⟨T', X', e', st⟩ := getS2 X hx hZ hown (host := "") (Or.inl w) via eT fF (g := mkF m pc Ls rest) rfl hd
  exact Go.of st (k _ X' e')
theorem Go.putF (X : Stand p l e R s m args below meth c T locs cells slots) (hx : p.tables.exec = Jvm.exec) (hZ : Z.Warmed39 s.vm) {own R0 O n d K : String} {index kk : Nat} {ty : FieldType} (hown : s.vm.findClass own = some m.cls) (w : (Jvm.Cond.fieldLink own index R0 n d).before a0 Z = true) (via : Via Z R0 O n d)
    (eT : T.heap = h) {a : Addr} {v old : Value} (fF : Fld Z h a O n d old) (E : Exa Z h a K) (L : (Jvm.Cond.lays K O n d).before a0 Z = true ∨ ((Jvm.Cond.laysFinal K O n d).before a0 Z = true ∧ own = O ∧ meth.name = "<init>")) (wi : (Jvm.Cond.instantiable K kk).before a0 Z = true)
    (hty : parseFieldDescriptor d = some ty) (hn : narrow ty v = v) (hf : fits ty v = true) {pc : Nat} {Ls : Array Slot} {rest : List Value} (hd : decode c.code pc = .ok (.putfield index, 3))
    (k : ∀ T' h', Stand p l e R s m args below meth c T' (locs ++ [⟨a, Jvm.RoadKit.slotOf Z O n d⟩]) cells slots → T'.heap = h' → Wr h h' a (Jvm.RoadKit.slotOf Z O n d) v → Go p e below F T' (mkF m (pc + 3) Ls rest)) : Go p e below F T (mkF m pc Ls (v :: .ref a :: rest)) := by
  obtain ⟨T', h', X', e', W', st⟩ := Jvm.RoadKit.putF X hx hZ hown (host := "") (Or.inl w) via eT fF E L wi hty hn hf (g := mkF m pc Ls (v :: .ref a :: rest)) rfl rfl hd
  exact Go.of st (k _ _ X' e' W')
theorem Go.newO (X : Stand p l e R s m args below meth c T locs cells slots) (hx : p.tables.exec = Jvm.exec) (hZ : Z.Warmed39 s.vm) {own K : String} {index n : Nat} (hown : s.vm.findClass own = some m.cls) (w : (Jvm.Cond.classLink own index K).before a0 Z = true) (wi : (Jvm.Cond.instantiable K n).before a0 Z = true) (wz : (Jvm.Cond.initialized K).before a0 Z = true) (eT : T.heap = h)
    {pc : Nat} {Ls : Array Slot} {rest : List Value} (hd : decode c.code pc = .ok (.new index, 3)) (hc : cells + 1 ≤ R.cells) (hl : slots + n ≤ R.slots)
    (k : ∀ T' h' a, a = h.size → Stand p l e R s m args below meth c T' locs (cells + 1) (slots + n) → T'.heap = h' → Ext h h' → Exa Z h' a K → (∀ {O nm d : String} {ty : FieldType}, Laid Z a0 K O nm d → parseFieldDescriptor d = some ty → Fld Z h' a O nm d (defaultValue ty)) → Go p e below F T' (mkF m (pc + 3) Ls (.ref a :: rest))) : Go p e below F T (mkF m pc Ls rest) := by
  obtain ⟨T', h', X', e', E', A', D', -, st⟩ := Jvm.RoadKit.newO X hx hZ hown w wi wz eT (g := mkF m pc Ls rest) rfl hd hc hl
  exact Go.of st (k _ _ _ rfl X' e' E' A' D')
theorem Go.initO (X : Stand p l e R s m args below meth c T locs cells slots) (hx : p.tables.exec = Jvm.exec) (hZ : Z.Warmed39 s.vm) {own : String} {idx : Nat} (hown : s.vm.findClass own = some m.cls) (w1 : (Jvm.Cond.methodLink own idx Lib.objectInit).before a0 Z = true) (w2 : (Jvm.Cond.instanceMethod Lib.objectInit).before a0 Z = true)
    (w3 : (Jvm.Cond.code Lib.objectInit ⟨#[0xb1]⟩ 1 none).before a0 Z = true) (eT : T.heap = h) {a : Addr} {pc : Nat} {Ls : Array Slot} {rest : List Value} (hsz : Ls.size = c.maxLocals) (hd : decode c.code pc = .ok (.invokespecial idx, 3)) (hf : 1 ≤ R.frames) (hl : (rest.map fun v => v.category).sum + 12 ≤ R.locals)
    (k : ∀ T', Stand p l e R s m args below meth c T' locs cells slots → T'.heap = h → Go p e below F T' (mkF m (pc + 3) Ls rest)) : Go p e below F T (mkF m pc Ls (.ref a :: rest)) := by
  obtain ⟨T', X', e', st⟩ := Jvm.RoadKit.initO X hx hZ hown w1 w2 w3 eT (g := mkF m pc Ls (.ref a :: rest)) rfl hsz rfl hd hf (W := (rest.map fun v => v.category).sum) (by show 2 * 0 + _ ≤ _; exact Nat.le_of_eq (Nat.zero_add _)) hl
  exact Go.of st (k _ X' e')
end OwnKit
section OwnSteps
variable {p : Program} {l : Launch} {e : Env} {R : Room} {s : State} {m : MethodId} {args : Array Value} {below : List Frame} {meth : Method} {c : Code} {T : State} {locs : List Loc} {cells slots : Nat} {Z : State} {a0 : Array Value} {h : Heap} {F : State → Outcome → Prop}
theorem w_ {Z : State} {a0 : Array Value} {ts : List Jvm.Cond} (hw : ∀ d ∈ ts, d.before a0 Z = true) {d : Jvm.Cond} (i : Nat) (h : ts[i]? = some d) : d.before a0 Z = true := hw _ (List.mem_of_getElem? h)
theorem Go.s_iloadN (X : Stand p l e R s m args below meth c T locs cells slots) (hx : p.tables.exec = Jvm.exec) {pc q : Nat} {Ls : Array Slot} {st : List Value} {k : Fin 4} {v : Int32} (hd : decode c.code pc = .ok (.iload_n k, 1)) (hq : pc + 1 = q) (hl : Ls[k.val]? = some (.val (.int v))) (K : Go p e below F T (mkF m q Ls (.int v :: st))) : Go p e below F T (mkF m pc Ls (st)) := by
  subst hq
  exact Go.of (fun t k => XS.iloadN X.here hx rfl hd hl k) K
theorem Go.s_iload (X : Stand p l e R s m args below meth c T locs cells slots) (hx : p.tables.exec = Jvm.exec) {pc q : Nat} {Ls : Array Slot} {st : List Value} {k : Nat} {v : Int32} (hd : decode c.code pc = .ok (.iload k, 2)) (hq : pc + 2 = q) (hl : Ls[k]? = some (.val (.int v))) (K : Go p e below F T (mkF m q Ls (.int v :: st))) : Go p e below F T (mkF m pc Ls (st)) := by
  subst hq
  exact Go.of (fun t k => XS.iload X.here hx rfl hd hl k) K
theorem Go.s_aloadN (X : Stand p l e R s m args below meth c T locs cells slots) (hx : p.tables.exec = Jvm.exec) {pc q : Nat} {Ls : Array Slot} {st : List Value} {k : Fin 4} {v : Value} (hd : decode c.code pc = .ok (.aload_n k, 1)) (hq : pc + 1 = q) (hl : Ls[k.val]? = some (.val v)) (hv : v.isRef = true) (K : Go p e below F T (mkF m q Ls (v :: st))) : Go p e below F T (mkF m pc Ls (st)) := by
  subst hq
  exact Go.of (fun t k => XS.aloadN X.here hx rfl hd hl hv k) K
theorem Go.s_aload (X : Stand p l e R s m args below meth c T locs cells slots) (hx : p.tables.exec = Jvm.exec) {pc q : Nat} {Ls : Array Slot} {st : List Value} {k : Nat} {v : Value} (hd : decode c.code pc = .ok (.aload k, 2)) (hq : pc + 2 = q) (hl : Ls[k]? = some (.val v)) (hv : v.isRef = true) (K : Go p e below F T (mkF m q Ls (v :: st))) : Go p e below F T (mkF m pc Ls (st)) := by
  subst hq
  exact Go.of (fun t k => XS.aload X.here hx rfl hd hl hv k) K
theorem Go.s_istoreN (X : Stand p l e R s m args below meth c T locs cells slots) (hx : p.tables.exec = Jvm.exec) {pc q : Nat} {Ls : Array Slot} {st : List Value} {k : Fin 4} {x : Int32} {l' : Array Slot} (hd : decode c.code pc = .ok (.istore_n k, 1)) (hq : pc + 1 = q) (hl : storeLocals Ls k.val (.int x) = some l') (K : Go p e below F T (mkF m q l' (st))) : Go p e below F T (mkF m pc Ls (.int x :: st)) := by
  subst hq
  exact Go.of (fun t k => XS.istoreN X.here hx rfl hd rfl hl k) K
theorem Go.s_istore (X : Stand p l e R s m args below meth c T locs cells slots) (hx : p.tables.exec = Jvm.exec) {pc q : Nat} {Ls : Array Slot} {st : List Value} {k : Nat} {x : Int32} {l' : Array Slot} (hd : decode c.code pc = .ok (.istore k, 2)) (hq : pc + 2 = q) (hl : storeLocals Ls k (.int x) = some l') (K : Go p e below F T (mkF m q l' (st))) : Go p e below F T (mkF m pc Ls (.int x :: st)) := by
  subst hq
  exact Go.of (fun t k => XS.istore X.here hx rfl hd rfl hl k) K
theorem Go.s_astoreN (X : Stand p l e R s m args below meth c T locs cells slots) (hx : p.tables.exec = Jvm.exec) {pc q : Nat} {Ls : Array Slot} {st : List Value} {k : Fin 4} {x : Value} {l' : Array Slot} (hd : decode c.code pc = .ok (.astore_n k, 1)) (hq : pc + 1 = q) (hv : x.isRef = true) (hl : storeLocals Ls k.val x = some l') (K : Go p e below F T (mkF m q l' (st))) : Go p e below F T (mkF m pc Ls (x :: st)) := by
  subst hq
  exact Go.of (fun t k => XS.astoreN X.here hx rfl hd rfl hv hl k) K
theorem Go.s_astore (X : Stand p l e R s m args below meth c T locs cells slots) (hx : p.tables.exec = Jvm.exec) {pc q : Nat} {Ls : Array Slot} {st : List Value} {k : Nat} {x : Value} {l' : Array Slot} (hd : decode c.code pc = .ok (.astore k, 2)) (hq : pc + 2 = q) (hv : x.isRef = true) (hl : storeLocals Ls k x = some l') (K : Go p e below F T (mkF m q l' (st))) : Go p e below F T (mkF m pc Ls (x :: st)) := by
  subst hq
  exact Go.of (fun t k => XS.astore X.here hx rfl hd rfl hv hl k) K
theorem Go.s_iconst (X : Stand p l e R s m args below meth c T locs cells slots) (hx : p.tables.exec = Jvm.exec) {pc q : Nat} {Ls : Array Slot} {st : List Value} {i : Int} {z : Int32} (hd : decode c.code pc = .ok (.iconst i, 1)) (hq : pc + 1 = q) (hz : Int32.ofInt i = z) (K : Go p e below F T (mkF m q Ls (.int z :: st))) : Go p e below F T (mkF m pc Ls (st)) := by
  subst hq
  exact Go.of (fun t k => XS.iconst X.here hx rfl hd (hz ▸ k)) K
theorem Go.s_bipush (X : Stand p l e R s m args below meth c T locs cells slots) (hx : p.tables.exec = Jvm.exec) {pc q : Nat} {Ls : Array Slot} {st : List Value} {i : Int} {z : Int32} (hd : decode c.code pc = .ok (.bipush i, 2)) (hq : pc + 2 = q) (hz : (Int8.ofInt i).toInt32 = z) (K : Go p e below F T (mkF m q Ls (.int z :: st))) : Go p e below F T (mkF m pc Ls (st)) := by
  subst hq
  exact Go.of (fun t k => XS.bipush X.here hx rfl hd (hz ▸ k)) K
theorem Go.s_sipush (X : Stand p l e R s m args below meth c T locs cells slots) (hx : p.tables.exec = Jvm.exec) {pc q : Nat} {Ls : Array Slot} {st : List Value} {i : Int} {z : Int32} (hd : decode c.code pc = .ok (.sipush i, 3)) (hq : pc + 3 = q) (hz : (Int16.ofInt i).toInt32 = z) (K : Go p e below F T (mkF m q Ls (.int z :: st))) : Go p e below F T (mkF m pc Ls (st)) := by
  subst hq
  exact Go.of (fun t k => XS.sipush X.here hx rfl hd (hz ▸ k)) K
theorem Go.s_aconst_null (X : Stand p l e R s m args below meth c T locs cells slots) (hx : p.tables.exec = Jvm.exec) {pc q : Nat} {Ls : Array Slot} {st : List Value}  (hd : decode c.code pc = .ok (.aconst_null, 1)) (hq : pc + 1 = q)  (K : Go p e below F T (mkF m q Ls (.null :: st))) : Go p e below F T (mkF m pc Ls (st)) := by
  subst hq
  exact Go.of (fun t k => XS.aconstNull X.here hx rfl hd k) K
theorem Go.s_iadd (X : Stand p l e R s m args below meth c T locs cells slots) (hx : p.tables.exec = Jvm.exec) {pc q : Nat} {Ls : Array Slot} {st : List Value} {x y : Int32} (hd : decode c.code pc = .ok (.iadd, 1)) (hq : pc + 1 = q)  (K : Go p e below F T (mkF m q Ls (.int (x + y) :: st))) : Go p e below F T (mkF m pc Ls (.int y :: .int x :: st)) := by
  subst hq
  exact Go.of (fun t k => XS.iadd X.here hx rfl hd rfl k) K
theorem Go.s_isub (X : Stand p l e R s m args below meth c T locs cells slots) (hx : p.tables.exec = Jvm.exec) {pc q : Nat} {Ls : Array Slot} {st : List Value} {x y : Int32} (hd : decode c.code pc = .ok (.isub, 1)) (hq : pc + 1 = q)  (K : Go p e below F T (mkF m q Ls (.int (x - y) :: st))) : Go p e below F T (mkF m pc Ls (.int y :: .int x :: st)) := by
  subst hq
  exact Go.of (fun t k => XS.isub X.here hx rfl hd rfl k) K
theorem Go.s_iand (X : Stand p l e R s m args below meth c T locs cells slots) (hx : p.tables.exec = Jvm.exec) {pc q : Nat} {Ls : Array Slot} {st : List Value} {x y : Int32} (hd : decode c.code pc = .ok (.iand, 1)) (hq : pc + 1 = q)  (K : Go p e below F T (mkF m q Ls (.int (x &&& y) :: st))) : Go p e below F T (mkF m pc Ls (.int y :: .int x :: st)) := by
  subst hq
  exact Go.of (fun t k => XS.iand X.here hx rfl hd rfl k) K
theorem Go.s_iushr (X : Stand p l e R s m args below meth c T locs cells slots) (hx : p.tables.exec = Jvm.exec) {pc q : Nat} {Ls : Array Slot} {st : List Value} {x y : Int32} (hd : decode c.code pc = .ok (.iushr, 1)) (hq : pc + 1 = q)  (K : Go p e below F T (mkF m q Ls (.int ((x.toUInt32 >>> (y &&& 31).toUInt32).toInt32) :: st))) : Go p e below F T (mkF m pc Ls (.int y :: .int x :: st)) := by
  subst hq
  exact Go.of (fun t k => XS.iushr X.here hx rfl hd rfl k) K
theorem Go.s_i2c (X : Stand p l e R s m args below meth c T locs cells slots) (hx : p.tables.exec = Jvm.exec) {pc q : Nat} {Ls : Array Slot} {st : List Value} {x : Int32} (hd : decode c.code pc = .ok (.i2c, 1)) (hq : pc + 1 = q)  (K : Go p e below F T (mkF m q Ls (.int (x.toUInt32.toUInt16.toUInt32.toInt32) :: st))) : Go p e below F T (mkF m pc Ls (.int x :: st)) := by
  subst hq
  exact Go.of (fun t k => XS.i2c X.here hx rfl hd rfl k) K
theorem Go.s_irem (X : Stand p l e R s m args below meth c T locs cells slots) (hx : p.tables.exec = Jvm.exec) {pc q : Nat} {Ls : Array Slot} {st : List Value} {x y : Int32} (hd : decode c.code pc = .ok (.irem, 1)) (hq : pc + 1 = q) (hy : y ≠ 0) (K : Go p e below F T (mkF m q Ls (.int (x % y) :: st))) : Go p e below F T (mkF m pc Ls (.int y :: .int x :: st)) := by
  subst hq
  exact Go.of (fun t k => iremM X hx rfl hd rfl hy k) K
theorem Go.s_iinc (X : Stand p l e R s m args below meth c T locs cells slots) (hx : p.tables.exec = Jvm.exec) {pc q : Nat} {Ls : Array Slot} {st : List Value} {k : Nat} {cst : Int} {x : Int32} {l' : Array Slot} (hd : decode c.code pc = .ok (.iinc k cst, 3)) (hq : pc + 3 = q) (hl : Ls[k]? = some (.val (.int x))) (hl' : storeLocals Ls k (.int (x + Int32.ofInt cst)) = some l') (K : Go p e below F T (mkF m q l' (st))) : Go p e below F T (mkF m pc Ls (st)) := by
  subst hq
  exact Go.of (fun t k => XS.iinc X.here hx rfl hd hl hl' k) K
theorem Go.s_dup (X : Stand p l e R s m args below meth c T locs cells slots) (hx : p.tables.exec = Jvm.exec) {pc q : Nat} {Ls : Array Slot} {st : List Value} {x : Value} (hd : decode c.code pc = .ok (.dup, 1)) (hq : pc + 1 = q) (hc : x.category = 1) (K : Go p e below F T (mkF m q Ls (x :: x :: st))) : Go p e below F T (mkF m pc Ls (x :: st)) := by
  subst hq
  exact Go.of (fun t k => XS.dup X.here hx rfl hd rfl hc k) K
theorem Go.s_goto (X : Stand p l e R s m args below meth c T locs cells slots) (hx : p.tables.exec = Jvm.exec) {pc q : Nat} {Ls : Array Slot} {st : List Value}  {o : Int} (hd : decode c.code pc = .ok (.goto o, 3)) (ho : 0 ≤ (pc : Int) + o) (hp : ((pc : Int) + o).toNat = q)  (K : Go p e below F T (mkF m q Ls st)) : Go p e below F T (mkF m pc Ls (st)) :=
  Go.of (fun t k => XS.goto X.here hx rfl rfl hd ho hp k) K
theorem Go.s_ifYes (X : Stand p l e R s m args below meth c T locs cells slots) (hx : p.tables.exec = Jvm.exec) {pc q : Nat} {Ls : Array Slot} {st : List Value} {cd : ClassFile.Cond} {x : Int32} {o : Int} (hd : decode c.code pc = .ok (.ifCond cd o, 3)) (ho : 0 ≤ (pc : Int) + o) (hp : ((pc : Int) + o).toNat = q) (hc : ifCond.holds cd x = true) (K : Go p e below F T (mkF m q Ls st)) : Go p e below F T (mkF m pc Ls (.int x :: st)) :=
  Go.of (fun t k => XS.ifYes X.here hx rfl rfl hd rfl hc ho hp k) K
theorem Go.s_icmpYes (X : Stand p l e R s m args below meth c T locs cells slots) (hx : p.tables.exec = Jvm.exec) {pc q : Nat} {Ls : Array Slot} {st : List Value} {cd : ClassFile.Cond} {x y : Int32} {o : Int} (hd : decode c.code pc = .ok (.if_icmp cd o, 3)) (ho : 0 ≤ (pc : Int) + o) (hp : ((pc : Int) + o).toNat = q) (hc : if_icmp.holds cd x y = true) (K : Go p e below F T (mkF m q Ls st)) : Go p e below F T (mkF m pc Ls (.int y :: .int x :: st)) :=
  Go.of (fun t k => XS.icmpYes X.here hx rfl rfl hd rfl hc ho hp k) K
theorem Go.s_ifNo (X : Stand p l e R s m args below meth c T locs cells slots) (hx : p.tables.exec = Jvm.exec) {pc q : Nat} {Ls : Array Slot} {st : List Value} {cd : ClassFile.Cond} {o : Int} {x : Int32} (hd : decode c.code pc = .ok (.ifCond cd o, 3)) (hq : pc + 3 = q) (hc : ifCond.holds cd x = false) (K : Go p e below F T (mkF m q Ls (st))) : Go p e below F T (mkF m pc Ls (.int x :: st)) := by
  subst hq
  exact Go.of (fun t k => XS.ifNo X.here hx rfl hd rfl hc k) K
theorem Go.s_icmpNo (X : Stand p l e R s m args below meth c T locs cells slots) (hx : p.tables.exec = Jvm.exec) {pc q : Nat} {Ls : Array Slot} {st : List Value} {cd : ClassFile.Cond} {o : Int} {x y : Int32} (hd : decode c.code pc = .ok (.if_icmp cd o, 3)) (hq : pc + 3 = q) (hc : if_icmp.holds cd x y = false) (K : Go p e below F T (mkF m q Ls (st))) : Go p e below F T (mkF m pc Ls (.int y :: .int x :: st)) := by
  subst hq
  exact Go.of (fun t k => XS.icmpNo X.here hx rfl hd rfl hc k) K
theorem Go.s_acmp (X : Stand p l e R s m args below meth c T locs cells slots) (hx : p.tables.exec = Jvm.exec) {pc q : Nat} {Ls : Array Slot} {st : List Value} {cd : ACond} {x y : Value} {o : Int} {same : Bool} (hd : decode c.code pc = .ok (.if_acmp cd o, 3)) (h1 : x.isRef = true) (h2 : y.isRef = true) (hq : decide (x = y) = same) (ho : 0 ≤ (pc : Int) + o) (hp : q = if acV cd same = true then ((pc : Int) + o).toNat else pc + 3) (K : Go p e below F T (mkF m q Ls st)) : Go p e below F T (mkF m pc Ls (y :: x :: st)) :=
  Go.of (fun t k => Jvm.RoadKit.acmp (g := mkF m pc Ls (y :: x :: st)) X hx rfl h1 h2 rfl hd rfl hq ho hp k) K
theorem Go.s_ldc (X : Stand p l e R s m args below meth c T locs cells slots) (hx : p.tables.exec = Jvm.exec) {pc q : Nat} {Ls : Array Slot} {st : List Value} {own : String} {index : Nat} {v : Int32} (hd : decode c.code pc = .ok (.ldc index, 2)) (hq : pc + 2 = q) (hown : s.vm.findClass own = some m.cls) (w : (Jvm.Cond.constant own index v).before args s = true) (K : Go p e below F T (mkF m q Ls (.int v :: st))) : Go p e below F T (mkF m pc Ls st) := by
  subst hq
  exact Go.of (X.ldcInt hx hown w (g := mkF m pc Ls st) rfl hd) K
end OwnSteps
section OwnArr
variable {p : Program} {l : Launch} {e : Env} {R : Room} {s : State} {m : MethodId} {args : Array Value} {below : List Frame} {meth : Method} {c : Code} {T : State} {locs : List Loc} {cells slots : Nat} {Z : State} {a0 : Array Value} {h : Heap} {F : State → Outcome → Prop}
theorem Go.newP (X : Stand p l e R s m args below meth c T locs cells slots) (hx : p.tables.exec = Jvm.exec) (hZ : Z.Warmed39 s.vm) {aty : ArrayType} (w : (Jvm.Cond.arrayClass (newarray.typeOf aty)).before a0 Z = true) (eT : T.heap = h) {pc : Nat} {Ls : Array Slot} {n : Int32} {rest : List Value} (hd : decode c.code pc = .ok (.newarray aty, 2))
    (hn : ¬ n < 0) {cap : Nat} (hcap : n.toNatClampNeg ≤ cap) (hb : cap * 8 ≤ 536870912) (hc : cells + 1 ≤ R.cells) (hl : slots + cap ≤ R.slots)
    (k : ∀ T' h' a kc, a = h.size → Stand p l e R s m args below meth c T' locs (cells + 1) (slots + cap) → T'.heap = h' → Ext h h' → Arv Z h' a kc (newarray.typeOf aty) n [] (defaultValue (newarray.typeOf aty)) → Go p e below F T' (mkF m (pc + 2) Ls (.ref a :: rest))) : Go p e below F T (mkF m pc Ls (.int n :: rest)) := by
  obtain ⟨T', h', kc, X', e', E', A', st⟩ := Jvm.RoadKit.newP X hx hZ w eT (g := mkF m pc Ls (.int n :: rest)) rfl hd rfl hn hcap hb hc hl
  exact Go.of st (k _ _ _ kc rfl X' e' E' (Arv.new A' hn))
theorem Go.stC (X : Stand p l e R s m args below meth c T locs cells slots) (hx : p.tables.exec = Jvm.exec) (hZ : Z.Warmed39 s.vm) (eT : T.heap = h) {a : Addr} {kc : ClassId} {z j x : Int32} {vs : List Value} {dv : Value} (V : Arv Z h a kc .char z vs dv) (hj : ¬ j < 0 ∧ j < z) (i : Nat) (hji : j.toNatClampNeg = i) (hi : i < vs.length) {pc : Nat} {Ls : Array Slot} {rest : List Value} (hd : decode c.code pc = .ok (.castore, 1))
    (k : ∀ T' h', Stand p l e R s m args below meth c T' (locs ++ [⟨a, j.toNatClampNeg⟩]) cells slots → T'.heap = h' → Wr h h' a j.toNatClampNeg (.int (nar .char x)) → Arv Z h' a kc .char z (vs.set i (.int (nar .char x))) dv → Go p e below F T' (mkF m (pc + 1) Ls rest)) : Go p e below F T (mkF m pc Ls (.int x :: .int j :: .ref a :: rest)) := by
  obtain ⟨cl, A, q1, S1, q3, H, G⟩ := V
  obtain ⟨T', h', X', e', W', st⟩ := Jvm.RoadKit.stC X hx hZ eT A (x := x) (inb_of S1 hj) (g := mkF m pc Ls (.int x :: .int j :: .ref a :: rest)) rfl rfl hd
  exact Go.of st (k _ _ X' e' W' (Arv.set A q1 S1 q3 H G (fits_nar_char x) W' i hji hi))
theorem Go.ldR (X : Stand p l e R s m args below meth c T locs cells slots) (hx : p.tables.exec = Jvm.exec) (hZ : Z.Warmed39 s.vm) (eT : T.heap = h) {a : Addr} {kc : ClassId} {K : String} {z j : Int32} {vs : List Value} {dv w : Value} (V : Arv Z h a kc (.object K) z vs dv) (hj : ¬ j < 0 ∧ j < z) (hw : vs.getD j.toNatClampNeg dv = w) {pc : Nat} {Ls : Array Slot} {rest : List Value} (hd : decode c.code pc = .ok (.aaload, 1))
    (k : Go p e below F T (mkF m (pc + 1) Ls (w :: rest))) : Go p e below F T (mkF m pc Ls (.int j :: .ref a :: rest)) := by
  obtain ⟨cl, A, q1, S1, q3, H, G⟩ := V
  exact Go.of (fun t q => X.aaload hx (by rw [eT]; exact A.1) (State.isArrayOf_alike hZ.alike A.2.1) rfl A.2.2 (inb_of S1 hj) (H.at (inb_of S1 hj) hw) (g := mkF m pc Ls (.int j :: .ref a :: rest)) rfl rfl hd t q) k
theorem Go.len (X : Stand p l e R s m args below meth c T locs cells slots) (hx : p.tables.exec = Jvm.exec) (hZ : Z.Warmed39 s.vm) (eT : T.heap = h) {a : Addr} {kc : ClassId} {ty : FieldType} {z : Int32} {vs : List Value} {dv : Value} (V : Arv Z h a kc ty z vs dv) {pc : Nat} {Ls : Array Slot} {rest : List Value} (hd : decode c.code pc = .ok (.arraylength, 1))
    (k : Go p e below F T (mkF m (pc + 1) Ls (.int z :: rest))) : Go p e below F T (mkF m pc Ls (.ref a :: rest)) := by
  obtain ⟨cl, A, q1, S1, q3, H, G⟩ := V
  refine Go.of (fun t q => X.arraylength hx (by rw [eT]; exact A.1) (State.isArrayOf_alike hZ.alike A.2.1) (g := mkF m pc Ls (.ref a :: rest)) rfl rfl hd t q) ?_
  rw [len_of S1 q3]
  exact k
theorem getD_mapI (bs : List Int32) (i : Nat) : (bs.map Value.int).getD i (.int 0) = .int (bs.getD i 0) := by
  rw [List.getD_eq_getElem?_getD, List.getD_eq_getElem?_getD, List.getElem?_map]
  cases bs[i]? <;> rfl
end OwnArr
section OwnWide
variable {p : Program} {l : Launch} {e : Env} {R : Room} {s : State} {m : MethodId} {args : Array Value} {below : List Frame} {meth : Method} {c : Code} {T : State} {locs : List Loc} {cells slots : Nat} {Z : State} {a0 : Array Value} {h h' : Heap} {Q : Option Value → Heap → List Loc → Prop} {C S : Nat} {F : State → Outcome → Prop} {EL : List (String × Nat)} {vm0 : Vm}
/-- what a walk that may load String constants carries: its tables since its start, and the constants' invariant -/
def Wd (Z : State) (EL : List (String × Nat)) (s : State) (vm : Vm) (h : Heap) : Prop := (∃ k, s.Since vm k ∧ k ≤ h.size) ∧ CHr Z EL s.vm s.heap vm h
theorem Wd.ext (W : Wd Z EL s vm0 h) (E : Ext h h') : Wd Z EL s vm0 h' := by
  obtain ⟨⟨k, h1, h2⟩, h3⟩ := W
  exact ⟨⟨k, h1, Nat.le_trans h2 E.1⟩, h3.trans (CHr.ext E h3.1)⟩
theorem Wd.keep {ws : List Addr} (W : Wd Z EL s vm0 h) (K : Keep h h' ws) (hs : ∀ x ∈ ws, Safe Z EL vm0 h x) : Wd Z EL s vm0 h' := by
  obtain ⟨⟨k, h1, h2⟩, h3⟩ := W
  exact ⟨⟨k, h1, Nat.le_trans h2 K.1⟩, h3.trans (CHr.keep K hs h3.1)⟩
theorem Wd.wr {a : Addr} {sl : Nat} {v : Value} (W : Wd Z EL s vm0 h) (K : Wr h h' a sl v) (hs : Safe Z EL vm0 h a) : Wd Z EL s vm0 h' := W.keep (Keep.of_wr K) (sfS hs sf0)
def FNW (Z : State) (EL : List (String × Nat)) (s : State) (Q : Option Value → Heap → List Loc → Prop) (C S : Nat) (t : State) (o : Outcome) : Prop := ∃ v L, o = .returned v ∧ Q v t.heap L ∧ CHr Z EL s.vm s.heap t.vm t.heap ∧ ReturnedEndW s o t L C S
theorem Go.retW (X : Stand p l e R (s.setVm vm0) m args below meth c T locs cells slots) (hZ : Z.Warmed39 (s.setVm vm0).vm) (hEL : EW Z a0 EL) (eT : T.heap = h) (hW : Wd Z EL s vm0 h) {v : Option Value} {g : JFrame} (hlk : meth.locks = false) (hv : meth.sig.returnType = none → v = none)
    (st : ∀ fs, (∀ (f : JFrame) (acts : List Action), f.method = m → f.locked = none → f.entered = [] → (doReturn e (T.setTop f) acts v).1 = T.setFrames fs) → Steps p.tables e below (T.setTop g) (T.setFrames fs))
    (hc : cells ≤ C) (hs : slots ≤ S) (hQ : Q v h locs) : Go p e below (FNW Z EL s Q C S) T g := by
  subst eT
  obtain ⟨⟨k, hS, hk⟩, hr⟩ := hW
  obtain ⟨fs, hr', hrun, hended, hE⟩ := X.leaveW hS hk (v := v) hv hlk
  have A := hr.trans (CHv.at X hZ hEL hr.1)
  exact ⟨_, _, st fs hr', hrun, hended, _, _, rfl, hQ, A, hE.1, hE.2.1, hE.2.2.1, hE.2.2.2.mono hc hs⟩
theorem Go.retNW (X : Stand p l e R (s.setVm vm0) m args below meth c T locs cells slots) (hx : p.tables.exec = Jvm.exec) (hZ : Z.Warmed39 (s.setVm vm0).vm) (hEL : EW Z a0 EL) (eT : T.heap = h) (hW : Wd Z EL s vm0 h) (hlk : meth.locks = false) {pc : Nat} {Ls : Array Slot} {z : Int32} {rest : List Value} {t : FieldType} (hret : meth.sig.returnType = some t) (ht : t = .boolean ∨ t = .byte ∨ t = .char ∨ t = .short) (hd : decode c.code pc = .ok (.ireturn, 1))
    (hc : cells ≤ C) (hs : slots ≤ S) (hQ : Q (some (.int (nar t z))) h locs) : Go p e below (FNW Z EL s Q C S) T (mkF m pc Ls (.int z :: rest)) :=
  Go.retW X hZ hEL eT hW hlk (fun h => by rw [hret] at h; cases h) (fun _ hr => Jvm.RoadKit.retN X hx hret ht hd hr) hc hs hQ
theorem Go.retAW (X : Stand p l e R (s.setVm vm0) m args below meth c T locs cells slots) (hx : p.tables.exec = Jvm.exec) (hZ : Z.Warmed39 (s.setVm vm0).vm) (hEL : EW Z a0 EL) (eT : T.heap = h) (hW : Wd Z EL s vm0 h) (hlk : meth.locks = false) {pc : Nat} {Ls : Array Slot} {w : Value} {rest : List Value} {t : FieldType} (hret : meth.sig.returnType = some t) (ht : t.isReference = true) (hw : w.isRef = true) (hd : decode c.code pc = .ok (.areturn, 1))
    (hc : cells ≤ C) (hs : slots ≤ S) (hQ : Q (some w) h locs) : Go p e below (FNW Z EL s Q C S) T (mkF m pc Ls (w :: rest)) :=
  Go.retW X hZ hEL eT hW hlk (fun h => by rw [hret] at h; cases h) (fun _ hr => retOut X hx hret (by cases t <;> cases w <;> first | rfl | (simp [FieldType.isReference] at ht) | (simp [Value.isRef] at hw)) (Or.inr (Or.inr (Or.inr (Or.inr ⟨rfl, ht, hw⟩)))) hd hr) hc hs hQ
theorem Go.retVW (X : Stand p l e R (s.setVm vm0) m args below meth c T locs cells slots) (hx : p.tables.exec = Jvm.exec) (hZ : Z.Warmed39 (s.setVm vm0).vm) (hEL : EW Z a0 EL) (eT : T.heap = h) (hW : Wd Z EL s vm0 h) (hlk : meth.locks = false) {pc : Nat} {Ls : Array Slot} (hret : meth.sig.returnType = none) (hd : decode c.code pc = .ok (.return_, 1))
    (hc : cells ≤ C) (hs : slots ≤ S) (hQ : Q none h locs) : Go p e below (FNW Z EL s Q C S) T (mkF m pc Ls []) :=
  Go.retW X hZ hEL eT hW hlk (fun _ => rfl) (fun _ hr => X.returnOut hx hret hd hr) hc hs hQ
/-- a body's contract where it may load constants: sf: what it may write besides what it makes -/
def CtW (l : Launch) (y : MethodName) (bytes : ByteArray) (maxL : Nat) (ret : Option FieldType) (rm : Room) (Z : State) (EL : List (String × Nat)) (sf : List Addr) (h0 : Heap) (as' : Array Value) (Q : Option Value → Heap → List Loc → Prop) : Prop :=
  ∀ ws, MetFree l y (head1 (Jvm.Cond.code y bytes maxL ret :: ws) rm) (fun a U => a = as' ∧ Z.Warmed39 U.vm ∧ U.heap = h0 ∧ CHv Z EL U.vm h0 ∧ ∀ x ∈ sf, Safe Z EL U.vm h0 x) (fun _ _ _ _ _ => True)
    (fun _ U o U' => ∃ v L, o = .returned v ∧ Q v U'.heap L ∧ CHr Z EL U.vm U.heap U'.vm U'.heap ∧ ReturnedEndW U o U' L rm.cells rm.slots)
theorem CtW.body {y : MethodName} {bytes : ByteArray} {maxL : Nat} {ret : Option FieldType} {rm : Room} {sf : List Addr} {as' : Array Value} (hpl : plainFor y = true)
    (k : ∀ (p : Program) (e : Env) (s : State) (m : MethodId) (below : List Frame) (meth : Method) (c : Code) (T : State), p.tables.exec = Jvm.exec → c.code = bytes → c.maxLocals = maxL → (s.setVm s.vm).vm.findClass y.cls = some m.cls → meth.name = y.name → meth.sig.returnType = ret → meth.locks = false → Z.Warmed39 (s.setVm s.vm).vm →
      Wd Z EL s s.vm h → (∀ x ∈ sf, Safe Z EL s.vm h x) → Stand p l e rm (s.setVm s.vm) m as' below meth c T [] 0 0 → T.heap = h → Go p e below (FNW Z EL s Q rm.cells rm.slots) T (entryFrame m as' maxL)) : CtW l y bytes maxL ret rm Z EL sf h as' Q := fun ws => by
  refine MetFree.of_bodySF hpl hisR ?_
  intro p e s m args below meth c s₁ Bd hml0 hP hK
  obtain ⟨rfl, hZ, hh, hC, hsf⟩ := hP
  have h1 : s₁.heap = h := by rw [← hh, Bd.state]; rfl
  exact k p e s m below meth c s₁ Bd.exec Bd.bytes hml0 (findClass_of_methodNamed Bd.named) (name_of_methodNamed Bd.named Bd.method).1 Bd.returns Bd.notSynchronized hZ
    ⟨⟨s.heap.size, (State.WarmedH.refl s).since _, by rw [hh]; exact Nat.le_refl _⟩, by rw [hh]; exact CHr.refl hC⟩ hsf (Stand.of_body Bd) h1
theorem backW {y : MethodName} {bytes : ByteArray} {maxL : Nat} {ret : Option FieldType} {rm : Room} {sf : List Addr} {len W : Nat} {as' : Array Value} (hM : CtW l y bytes maxL ret rm Z EL sf h as' Q)
    (hZ : Z.Warmed39 vm0) (wc : (Jvm.Cond.code y bytes maxL ret).before a0 Z = true) (wz : (Jvm.Cond.initialized y.cls).before a0 Z = true) (hf : rm.frames + 1 ≤ R.frames) (hl : W + (maxL + 11) + rm.locals ≤ R.locals) (hEL : EW Z a0 EL) (H : CHv Z EL vm0 h) (hsf : ∀ x ∈ sf, Safe Z EL vm0 h x ∧ x < h.size) :
    BackS l R p e below (s.setVm vm0) args y len W (fun A a => a = as' ∧ A.U.heap = h ∧ A.cells + rm.cells ≤ R.cells ∧ A.slots + rm.slots ≤ R.slots)
      (fun A _ v B => ∃ L, Q v B.U.heap L ∧ B.locs = A.locs ++ L ∧ B.cells = A.cells + rm.cells ∧ B.slots = A.slots + rm.slots ∧ CHr Z EL vm0 h B.U.vm B.U.heap) := by
  refine BackS.of_freeW (bytes := bytes) (maxL := maxL) (ret := ret) (E := fun _ U o t L k n => (k = rm.cells ∧ n = rm.slots) ∧ ∃ v, o = .returned v ∧ Q v t.heap L ∧ CHr Z EL U.vm U.heap t.vm t.heap) (hM []) hf hl ?_ ?_ ?_ ?_ ?_
  · intro m meth c A a Y hp
    have hU : Z.Warmed39 A.U.vm := wtrans (s := s.setVm vm0) hZ Y.warmed
    refine ⟨?_, mv hU wc, mv hU wz, hp.2.2.1, hp.2.2.2⟩
    show (Jvm.Cond.and _ .tt).before a A.U = true
    rw [Jvm.Cond.before_and, mv hU wc]; rfl
  · intro m meth c A a g mk Y hp
    have A1 := CHv.at Y hZ hEL H
    exact ⟨hp.1, wtrans (s := s.setVm vm0) hZ Y.warmed, hp.2.1, A1.1, fun x hx => A1.safe (hsf x hx).2 (hsf x hx).1⟩
  · intro _ _ _ _ _ _ _ _ _; trivial
  · rintro _ _ _ _ ⟨v, L, h1, h2, h3, h4⟩
    exact ⟨L, _, _, h4, ⟨rfl, rfl⟩, v, h1, h2, h3⟩
  · rintro m meth c A a g mk v t L k n Y hp - - ⟨⟨rfl, rfl⟩, v', e1, e2, e3⟩
    cases e1
    refine ⟨L, e2, rfl, rfl, rfl, (CHv.at Y hZ hEL H).trans ?_⟩
    have q : A.U.heap = h := hp.2.1
    rw [← q]; exact e3
theorem Wd.next {vm1 : Vm} {n : Nat} (hW : Wd Z EL s vm0 h) (h2 : (s.setVm vm0).Since vm1 n) (hn : n ≤ h'.size) (g : h.size ≤ n) (hr : CHr Z EL vm0 h vm1 h') : Wd Z EL s vm1 h' := by
  obtain ⟨⟨k, hS, hk⟩, hr0⟩ := hW
  exact ⟨⟨n, hS.trans h2 (Nat.le_trans hk g), hn⟩, hr0.trans hr⟩
theorem Go.callSW (X : Stand p l e R (s.setVm vm0) m args below meth c T locs cells slots) (hx : p.tables.exec = Jvm.exec) (hZ : Z.Warmed39 (s.setVm vm0).vm) {own : String} {index : Nat} {y : MethodName} {bytes : ByteArray} {maxL : Nat} {ret : Option FieldType} (hown : (s.setVm vm0).vm.findClass own = some m.cls)
    (wl : (Jvm.Cond.methodLink own index y).before a0 Z = true) (wst : (Jvm.Cond.static y).before a0 Z = true) (wz : (Jvm.Cond.initialized y.cls).before a0 Z = true) (wc : (Jvm.Cond.code y bytes maxL ret).before a0 Z = true) (hy : y.cls ≠ "java/lang/invoke/MethodHandle" ∧ y.cls ≠ "java/lang/invoke/VarHandle")
    (eT : T.heap = h) (hEL : EW Z a0 EL) (hW : Wd Z EL s vm0 h) {sf : List Addr} (hsf : ∀ x ∈ sf, Safe Z EL vm0 h x ∧ x < h.size) {rm : Room} {argsL rest : List Value} {Q' : Option Value → Heap → List Loc → Prop} (hC : CtW l y bytes maxL ret rm Z EL sf h argsL.toArray Q') {pc : Nat} {Ls : Array Slot} {st : List Value} (hsz : Ls.size = c.maxLocals)
    (hlen : ∀ sig, parseMethodDescriptor y.desc = some sig → argsL.length = sig.parameters.length) (hst : st = argsL.reverse ++ rest) (hd : decode c.code pc = .ok (.invokestatic index, 3)) (hf : rm.frames + 1 ≤ R.frames) (hl : (rest.map fun v => v.category).sum + (maxL + 11) + rm.locals ≤ R.locals) (hc : cells + rm.cells ≤ R.cells) (hs : slots + rm.slots ≤ R.slots)
    (k : ∀ v T' L, Q' v T'.heap L → Stand p l e R (s.setVm T'.vm) m args below meth c T' (locs ++ L) (cells + rm.cells) (slots + rm.slots) → Z.Warmed39 (s.setVm T'.vm).vm → (s.setVm T'.vm).vm.findClass own = some m.cls → Wd Z EL s T'.vm T'.heap → Go p e below F T' (mkF m (pc + 3) Ls (v.toList ++ rest))) :
    Go p e below F T (mkF m pc Ls st) := by
  obtain ⟨v, _, ⟨T', L', k', n'⟩, -, X', h2, g, ⟨L, hQ, l1, y1, z1, hr⟩, stp⟩ := callSS X hx (y := y) hown (mvT hZ wl) (mvT hZ wst) (mvT hZ wz) (mvT hZ wc) hy (backW (W := (rest.map fun v => v.category).sum) hC hZ wc wz hf hl hEL hW.2.1 hsf) (g := mkF m pc Ls st) rfl hsz (argsL := argsL) (rest := rest) hlen hst (by show 2 * 0 + _ ≤ _; exact Nat.le_of_eq (Nat.zero_add _)) hd (fun _ _ => ⟨rfl, eT, hc, hs⟩)
  dsimp only [Pt.U, Pt.locs, Pt.cells, Pt.slots] at X' l1 y1 z1 stp hQ h2 g hr
  subst l1 y1 z1
  rw [eT] at g
  exact Go.of (fun t q => stp.trans q) (k _ _ _ hQ X' (State.Warmed39.trans hZ h2.1) ((h2.1.alike.findClass _ _).trans hown) (hW.next h2 (Nat.le_refl _) g hr))
theorem Go.callCW (X : Stand p l e R (s.setVm vm0) m args below meth c T locs cells slots) (hx : p.tables.exec = Jvm.exec) (hZ : Z.Warmed39 (s.setVm vm0).vm) {own : String} {index : Nat} {y : MethodName} {bytes : ByteArray} {maxL : Nat} (hy1 : y.name = "<init>") (hown : (s.setVm vm0).vm.findClass own = some m.cls)
    (wl : (Jvm.Cond.methodLink own index y).before a0 Z = true) (wim : (Jvm.Cond.instanceMethod y).before a0 Z = true) (wc : (Jvm.Cond.code y bytes maxL none).before a0 Z = true) (wz : (Jvm.Cond.initialized y.cls).before a0 Z = true) (hy : y.cls ≠ "java/lang/invoke/MethodHandle" ∧ y.cls ≠ "java/lang/invoke/VarHandle")
    (eT : T.heap = h) (hEL : EW Z a0 EL) (hW : Wd Z EL s vm0 h) {sf : List Addr} (hsf : ∀ x ∈ sf, Safe Z EL vm0 h x ∧ x < h.size) {b : Addr} {rm : Room} {argsL rest : List Value} {Q' : Option Value → Heap → List Loc → Prop} (hC : CtW l y bytes maxL none rm Z EL sf h (.ref b :: argsL).toArray Q') {pc : Nat} {Ls : Array Slot} {st : List Value} (hsz : Ls.size = c.maxLocals)
    (hlen : ∀ sig, parseMethodDescriptor y.desc = some sig → argsL.length = sig.parameters.length) (hst : st = argsL.reverse ++ .ref b :: rest) (hd : decode c.code pc = .ok (.invokespecial index, 3)) (hf : rm.frames + 1 ≤ R.frames) (hl : (rest.map fun v => v.category).sum + (maxL + 11) + rm.locals ≤ R.locals) (hc : cells + rm.cells ≤ R.cells) (hs : slots + rm.slots ≤ R.slots)
    (k : ∀ v T' L, Q' v T'.heap L → Stand p l e R (s.setVm T'.vm) m args below meth c T' (locs ++ L) (cells + rm.cells) (slots + rm.slots) → Z.Warmed39 (s.setVm T'.vm).vm → (s.setVm T'.vm).vm.findClass own = some m.cls → Wd Z EL s T'.vm T'.heap → Go p e below F T' (mkF m (pc + 3) Ls (v.toList ++ rest))) :
    Go p e below F T (mkF m pc Ls st) := by
  obtain ⟨v, _, ⟨T', L', k', n'⟩, -, X', h2, g, ⟨L, hQ, l1, y1, z1, hr⟩, stp⟩ := X.specialBackS hx (y := y) hy1 hown (mvT hZ wl) (mvT hZ wim) (mvT hZ wc) hy (backW (W := (rest.map fun v => v.category).sum) hC hZ wc wz hf hl hEL hW.2.1 hsf) (g := mkF m pc Ls st) rfl hsz (Steps.refl _) (a := b) (argsL := argsL) (rest := rest) hlen hst (by show 2 * 0 + _ ≤ _; exact Nat.le_of_eq (Nat.zero_add _)) hd (fun _ _ => ⟨rfl, eT, hc, hs⟩)
  dsimp only [Pt.U, Pt.locs, Pt.cells, Pt.slots] at X' l1 y1 z1 stp hQ h2 g hr
  subst l1 y1 z1
  rw [eT] at g
  exact Go.of (fun t q => stp.trans q) (k _ _ _ hQ X' (State.Warmed39.trans hZ h2.1) ((h2.1.alike.findClass _ _).trans hown) (hW.next h2 (Nat.le_refl _) g hr))
/-- the same walk, more room said to be used -/
theorem more (X : Stand p l e R s m args below meth c T locs cells slots) {c' s' : Nat} (hc : cells ≤ c') (hs : slots ≤ s') : Stand p l e R s m args below meth c T locs c' s' := { X with same := X.same.mono hc hs }
end OwnWide
section OwnStr
variable {p : Program} {l : Launch} {e : Env} {R : Room} {s : State} {m : MethodId} {args : Array Value} {below : List Frame} {meth : Method} {c : Code} {T : State} {locs : List Loc} {cells slots : Nat} {Z : State} {a0 : Array Value} {h h' : Heap} {F : State → Outcome → Prop} {EL : List (String × Nat)} {vm0 : Vm} {x : Addr} {cs : List Int32} {k : Nat}
abbrev ch1 (c : Int32) : Prop := ¬ c < 0 ∧ ¬ (255 : Int32) < c
abbrev chs (cs : List Int32) : Prop := ∀ c ∈ cs, ch1 c
theorem of255 {x : Int32} (h : ch1 x) : ∃ k : Fin 256, x = Int32.ofNat k.val := by
  have h0 := mt Int32.lt_iff_toInt_lt.mpr h.1
  have h1 := mt Int32.lt_iff_toInt_lt.mpr h.2
  have e0 : (0 : Int32).toInt = 0 := by decide
  have e1 : (255 : Int32).toInt = 255 := by decide
  refine ⟨⟨x.toInt.toNat, by omega⟩, ?_⟩
  apply Int32.toInt_inj.mp
  rw [Int32.toInt_ofNat_of_lt (by omega)]
  show x.toInt = ((x.toInt.toNat : Nat) : Int)
  omega
theorem nar_ch {x : Int32} (h : ch1 x) : nar .char x = x := by
  obtain ⟨k, rfl⟩ := of255 h
  exact (by decide +kernel : ∀ k : Fin 256, nar .char (Int32.ofNat k.val) = Int32.ofNat k.val) k
theorem up_ch {cs : List Int32} (h : chs cs) : ∀ c ∈ cs, ¬ c < 0 ∧ ¬ (65535 : Int32) < c := fun c hc => ⟨(h c hc).1, fun q => (h c hc).2 (by rw [Int32.lt_iff_toInt_lt] at q ⊢; have e1 : (65535 : Int32).toInt = 65535 := rfl; have e2 : (255 : Int32).toInt = 255 := rfl; omega)⟩
/-- a Latin-1 String of these chars, its two cells below k -/
def Str (Z : State) (h : Heap) (k : Nat) (x : Addr) (cs : List Int32) : Prop := ∃ (t : Addr) (kb : ClassId), Exa Z h x "java/lang/String" ∧ Fld Z h x "java/lang/String" "value" "[B" (.ref t) ∧ Fld Z h x "java/lang/String" "coder" "B" (.int 0) ∧ Arv Z h t kb .byte (Int32.ofNat cs.length) ((cs.map (fun c => c.toInt8.toInt32)).map Value.int) (.int 0) ∧ chs cs ∧ cs.length ≤ 4000 ∧ x < k ∧ t < k
theorem Str.ext (S : Str Z h k x cs) (E : Ext h h') : Str Z h' k x cs := by
  obtain ⟨t, kb, h1, h2, h3, h4, r⟩ := S
  exact ⟨t, kb, h1.ext E, h2.ext E, h3.ext E, h4.ext E, r⟩
theorem Str.up {k' : Nat} (S : Str Z h k x cs) (q : k ≤ k') : Str Z h k' x cs := by
  obtain ⟨t, kb, h1, h2, h3, h4, h5, h6, h7, h8⟩ := S
  exact ⟨t, kb, h1, h2, h3, h4, h5, h6, Nat.lt_of_lt_of_le h7 q, Nat.lt_of_lt_of_le h8 q⟩
theorem Str.keep {ws : List Addr} (S : Str Z h k x cs) (K : Keep h h' ws) (q : ∀ w ∈ ws, k ≤ w) : Str Z h' k x cs := by
  obtain ⟨t, kb, h1, h2, h3, h4, h5, h6, h7, h8⟩ := S
  have n1 : x ∉ ws := fun z => absurd h7 (Nat.not_lt.mpr (q x z))
  have n2 : t ∉ ws := fun z => absurd h8 (Nat.not_lt.mpr (q t z))
  exact ⟨t, kb, h1.keep K, h2.keep K n1, h3.keep K n1, h4.keep K n2, h5, h6, h7, h8⟩
theorem pdLen : parseMethodDescriptor "()I" = some ⟨[], some .int⟩ := by decide +kernel
theorem pdAt : parseMethodDescriptor "(I)C" = some ⟨[.int], some .char⟩ := by decide +kernel
theorem pdEq : parseMethodDescriptor "(Ljava/lang/Object;)Z" = some ⟨[(.object "java/lang/Object")], some .boolean⟩ := by decide +kernel
theorem pdNew : parseMethodDescriptor "([C)V" = some ⟨[(.array .char)], none⟩ := by decide +kernel
theorem Go.ldcW (X : Stand p l e R (s.setVm vm0) m args below meth c T locs cells slots) (hx : p.tables.exec = Jvm.exec) (hZ : Z.Warmed39 (s.setVm vm0).vm) {own text : String} {index : Nat} (hown : (s.setVm vm0).vm.findClass own = some m.cls) (w : (Jvm.Cond.stringLink own index text).before a0 Z = true) (wS : ∀ a ∈ Bundle.stringAtoms, a.before a0 Z = true)
    (eT : T.heap = h) (hEL : EW Z a0 EL) (hmem : (own, index) ∈ EL) (hW : Wd Z EL s vm0 h) (ht : (∀ c ∈ text.toList, c.toNat < 256) ∧ text.toList.map (fun c => Value.int (Jvm.Lit.byteI c.toNat.toUInt16)) = (cs.map (fun c => c.toInt8.toInt32)).map Value.int) (hcs : chs cs) (hn : cs.length ≤ 4000)
    {pc : Nat} {Ls : Array Slot} {rest : List Value} (hd : decode c.code pc = .ok (.ldc index, 2)) (hc : cells + 2 ≤ R.cells) (hl : slots + (4 * cs.length + 4) ≤ R.slots)
    (k : ∀ T' h' a, Stand p l e R (s.setVm T'.vm) m args below meth c T' locs (cells + 2) (slots + (4 * cs.length + 4)) → T'.heap = h' → Ext h h' → Z.Warmed39 (s.setVm T'.vm).vm → (s.setVm T'.vm).vm.findClass own = some m.cls → Str Z h' h'.size a cs → Wd Z EL s T'.vm h' → CHr Z EL vm0 h T'.vm h' → Go p e below F T' (mkF m (pc + 2) Ls (.ref a :: rest))) : Go p e below F T (mkF m pc Ls rest) := by
  obtain ⟨⟨k0, hS, hk⟩, hr⟩ := hW
  have el : text.toList.length = cs.length := by have := congrArg List.length ht.2; simpa using this
  have hz : ¬ Int32.ofNat cs.length < 0 := fun q => by
    have := Int32.lt_iff_toInt_lt.mp q
    rw [Int32.toInt_ofNat_of_lt (by omega)] at this
    have e0 : (0 : Int32).toInt = 0 := by decide
    omega
  have hv : (Int32.ofNat cs.length).toNatClampNeg = ((cs.map (fun c => c.toInt8.toInt32)).map Value.int).length := by
    rw [List.length_map, List.length_map]
    show (Int32.ofNat cs.length).toInt.toNat = _
    rw [Int32.toInt_ofNat_of_lt (by omega)]; rfl
  obtain ⟨a, T', h', k1, b, kb, X', e', E', S', k1', Z', o', E1, C1, V1, A1, l1, l2, r', -, -, st⟩ := ldcCH (n := 4 * cs.length) X hx hZ hown w wS eT hS hk hEL hmem hr.1 ht hz hv (g := mkF m pc Ls rest) rfl hd (by rw [el]; exact Nat.le_refl _) (by omega) hc hl
  exact Go.of st (k T' h' a X' e' E' Z' o' ⟨b, kb, E1, V1, C1, A1, hcs, hn, l1, l2⟩ ⟨⟨k1, S', k1'⟩, hr.trans r'⟩ r')
theorem Go.strLen (X : Stand p l e R s m args below meth c T locs cells slots) (hx : p.tables.exec = Jvm.exec) (hZ : Z.Warmed39 s.vm) {own : String} {index : Nat} (hown : s.vm.findClass own = some m.cls) (wl : (Jvm.Cond.methodLink own index ⟨"java/lang/String", "length", "()I"⟩).before a0 Z = true) (wd : (Jvm.Cond.declares ⟨"java/lang/String", "length", "()I"⟩).before a0 Z = true)
    (wsel : (Jvm.Cond.selects "java/lang/String" ⟨"java/lang/String", "length", "()I"⟩ ⟨"java/lang/String", "length", "()I"⟩).before a0 Z = true) (wim : (Jvm.Cond.instanceMethod ⟨"java/lang/String", "length", "()I"⟩).before a0 Z = true) (hln : ∀ d ∈ StrChars.Road.wordsLen, d.before a0 Z = true) (wi : (Jvm.Cond.instantiable "java/lang/String" 4).before a0 Z = true)
    (eT : T.heap = h) (S : Str Z h k x cs) {z : Int32} (CS : Sta Z h "java/lang/String" "COMPACT_STRINGS" "Z" (.int z)) (hz : ¬ z = 0) {pc : Nat} {Ls : Array Slot} {rest : List Value} (hsz : Ls.size = c.maxLocals) (hd : decode c.code pc = .ok (.invokevirtual index, 3)) (hf : 2 ≤ R.frames) (hl : (rest.map fun v => v.category).sum + 25 ≤ R.locals) (hc : cells ≤ R.cells) (hs : slots ≤ R.slots)
    (kk : ∀ T', Stand p l e R s m args below meth c T' locs cells slots → T'.heap = h → Go p e below F T' (mkF m (pc + 3) Ls (.int (Int32.ofNat cs.length) :: rest))) : Go p e below F T (mkF m pc Ls (.ref x :: rest)) := by
  obtain ⟨t, kb, E, V, C, K, hp, hn, -⟩ := S
  obtain ⟨cq, kq, qa, qb, qc⟩ := isOf hZ eT E
  obtain ⟨v, _, ⟨T', L', k', n'⟩, -, X', ⟨L, ⟨hv, hL, hh⟩, l1, y1, z1⟩, stp⟩ := X.virtualBack hx (y := ⟨"java/lang/String", "length", "()I"⟩) (z := ⟨"java/lang/String", "length", "()I"⟩) hown (mvT hZ wl) (mvT hZ wd) (notFace_of_selects (args := #[]) (mvT hZ wsel)) (mvT hZ wsel) (mvT hZ wim) (by decide)
    (StrChars.Road.lenW (W := (rest.map fun v => v.category).sum) hZ hln (kI := 4) wi E V C K (StrChars.Road.codOf rfl (fun c hc => (hp c hc).2)) (up_ch hp) CS hz hn hf hl) qa qc (g := mkF m pc Ls (.ref x :: rest)) rfl hsz (Steps.refl _) (argsL := []) (rest := rest) (lenOf pdLen rfl) rfl (by show 2 * 0 + _ ≤ _; exact Nat.le_of_eq (Nat.zero_add _)) hd (fun _ _ => ⟨rfl, eT, hc, hs⟩)
  dsimp only [Pt.U, Pt.locs, Pt.cells, Pt.slots] at X' l1 y1 z1 stp hh
  subst l1 y1 z1 hv hL
  rw [List.append_nil] at X'
  exact Go.of (fun t q => stp.trans q) (kk _ X' hh)
theorem Go.strAt (X : Stand p l e R s m args below meth c T locs cells slots) (hx : p.tables.exec = Jvm.exec) (hZ : Z.Warmed39 s.vm) {own : String} {index : Nat} (hown : s.vm.findClass own = some m.cls) (wl : (Jvm.Cond.methodLink own index ⟨"java/lang/String", "charAt", "(I)C"⟩).before a0 Z = true) (wd : (Jvm.Cond.declares ⟨"java/lang/String", "charAt", "(I)C"⟩).before a0 Z = true)
    (wsel : (Jvm.Cond.selects "java/lang/String" ⟨"java/lang/String", "charAt", "(I)C"⟩ ⟨"java/lang/String", "charAt", "(I)C"⟩).before a0 Z = true) (wim : (Jvm.Cond.instanceMethod ⟨"java/lang/String", "charAt", "(I)C"⟩).before a0 Z = true) (hch : ∀ d ∈ StrChars.Road.wordsChN, d.before a0 Z = true) (wi : (Jvm.Cond.instantiable "java/lang/String" 4).before a0 Z = true)
    (eT : T.heap = h) (S : Str Z h k x cs) {z : Int32} (CS : Sta Z h "java/lang/String" "COMPACT_STRINGS" "Z" (.int z)) (hz : ¬ z = 0) {fm : Value} (SF : Sta Z h "jdk/internal/util/Preconditions" "SIOOBE_FORMATTER" "Ljava/util/function/BiFunction;" fm) (rf : fm.isRef = true) {j : Int32} (hj0 : ¬ j < 0) (hj : j < Int32.ofNat cs.length)
    {pc : Nat} {Ls : Array Slot} {rest : List Value} (hsz : Ls.size = c.maxLocals) (hd : decode c.code pc = .ok (.invokevirtual index, 3)) (hf : 4 ≤ R.frames) (hl : (rest.map fun v => v.category).sum + 53 ≤ R.locals) (hc : cells ≤ R.cells) (hs : slots ≤ R.slots)
    (kk : ∀ T' r, ch1 r → Stand p l e R s m args below meth c T' locs cells slots → T'.heap = h → Go p e below F T' (mkF m (pc + 3) Ls (.int r :: rest))) : Go p e below F T (mkF m pc Ls (.int j :: .ref x :: rest)) := by
  obtain ⟨t, kb, E, V, C, K, hp, hn, -⟩ := S
  obtain ⟨cq, kq, qa, qb, qc⟩ := isOf hZ eT E
  have hi : j.toNatClampNeg < cs.length := by
    have q := Int32.lt_iff_toInt_lt.mp hj
    rw [Int32.toInt_ofNat_of_lt (by omega)] at q
    have := nat_of hj0
    omega
  obtain ⟨v, _, ⟨T', L', k', n'⟩, -, X', ⟨L, ⟨hv, hL, hh⟩, l1, y1, z1⟩, stp⟩ := X.virtualBack hx (y := ⟨"java/lang/String", "charAt", "(I)C"⟩) (z := ⟨"java/lang/String", "charAt", "(I)C"⟩) hown (mvT hZ wl) (mvT hZ wd) (notFace_of_selects (args := #[]) (mvT hZ wsel)) (mvT hZ wsel) (mvT hZ wim) (by decide)
    (StrChars.Road.chN (W := (rest.map fun v => v.category).sum) hZ hch (kI := 4) wi E V C K (StrChars.Road.codOf rfl (fun c hc => (hp c hc).2)) (up_ch hp) CS hz SF rf hn hi (j := j) (back32 hj0).1.symm hf hl) qa qc (g := mkF m pc Ls (.int j :: .ref x :: rest)) rfl hsz (Steps.refl _) (argsL := [.int j]) (rest := rest) (lenOf pdAt rfl) rfl (by show 2 * 0 + _ ≤ _; exact Nat.le_of_eq (Nat.zero_add _)) hd (fun _ _ => ⟨rfl, eT, hc, hs⟩)
  dsimp only [Pt.U, Pt.locs, Pt.cells, Pt.slots] at X' l1 y1 z1 stp hh
  subst l1 y1 z1 hv hL
  rw [List.append_nil] at X'
  refine Go.of (fun t q => stp.trans q) (kk _ _ ?_ X' hh)
  rw [List.getD_eq_getElem?_getD, List.getElem?_eq_getElem hi]
  exact hp _ (List.getElem_mem hi)
theorem Go.strEq (X : Stand p l e R s m args below meth c T locs cells slots) (hx : p.tables.exec = Jvm.exec) (hZ : Z.Warmed39 s.vm) {own : String} {index : Nat} (hown : s.vm.findClass own = some m.cls) (wl : (Jvm.Cond.methodLink own index ⟨"java/lang/String", "equals", "(Ljava/lang/Object;)Z"⟩).before a0 Z = true) (wd : (Jvm.Cond.declares ⟨"java/lang/String", "equals", "(Ljava/lang/Object;)Z"⟩).before a0 Z = true)
    (wsel : (Jvm.Cond.selects "java/lang/String" ⟨"java/lang/String", "equals", "(Ljava/lang/Object;)Z"⟩ ⟨"java/lang/String", "equals", "(Ljava/lang/Object;)Z"⟩).before a0 Z = true) (wim : (Jvm.Cond.instanceMethod ⟨"java/lang/String", "equals", "(Ljava/lang/Object;)Z"⟩).before a0 Z = true) (heq : ∀ d ∈ StrChars.Road.wordsEq, d.before a0 Z = true) (wi : (Jvm.Cond.instantiable "java/lang/String" 4).before a0 Z = true)
    (eT : T.heap = h) (S : Str Z h k x cs) {k2 : Nat} {y : Addr} {ds : List Int32} (S2 : Str Z h k2 y ds) {z : Int32} (CS : Sta Z h "java/lang/String" "COMPACT_STRINGS" "Z" (.int z)) (hz : ¬ z = 0)
    {pc : Nat} {Ls : Array Slot} {rest : List Value} (hsz : Ls.size = c.maxLocals) (hd : decode c.code pc = .ok (.invokevirtual index, 3)) (hf : 2 ≤ R.frames) (hl : (rest.map fun v => v.category).sum + 28 ≤ R.locals) (hc : cells ≤ R.cells) (hs : slots ≤ R.slots)
    (k1 : ∀ T', cs = ds → Stand p l e R s m args below meth c T' locs cells slots → T'.heap = h → Go p e below F T' (mkF m (pc + 3) Ls (.int (1 : Int32) :: rest)))
    (k0 : ∀ T', ¬ cs = ds → Stand p l e R s m args below meth c T' locs cells slots → T'.heap = h → Go p e below F T' (mkF m (pc + 3) Ls (.int (0 : Int32) :: rest))) : Go p e below F T (mkF m pc Ls (.ref y :: .ref x :: rest)) := by
  obtain ⟨t, kb, E, V, C, K, hp, hn, -⟩ := S
  obtain ⟨t', kb', E', V', C', K', hp', hn', -⟩ := S2
  obtain ⟨cq, kq, qa, qb, qc⟩ := isOf hZ eT E
  obtain ⟨v, _, ⟨T', L', k', n'⟩, -, X', ⟨L, ⟨hv, hL, hh⟩, l1, y1, z1⟩, stp⟩ := X.virtualBack hx (y := ⟨"java/lang/String", "equals", "(Ljava/lang/Object;)Z"⟩) (z := ⟨"java/lang/String", "equals", "(Ljava/lang/Object;)Z"⟩) hown (mvT hZ wl) (mvT hZ wd) (notFace_of_selects (args := #[]) (mvT hZ wsel)) (mvT hZ wsel) (mvT hZ wim) (by decide)
    (StrChars.Road.eqW (W := (rest.map fun v => v.category).sum) hZ heq (kI := 4) wi E V C K (StrChars.Road.codOf rfl (fun c hc => (hp c hc).2)) (up_ch hp) hn E' V' C' K' (StrChars.Road.codOf rfl (fun c hc => (hp' c hc).2)) (up_ch hp') hn' CS hz hf hl) qa qc (g := mkF m pc Ls (.ref y :: .ref x :: rest)) rfl hsz (Steps.refl _) (argsL := [.ref y]) (rest := rest) (lenOf pdEq rfl) rfl (by show 2 * 0 + _ ≤ _; exact Nat.le_of_eq (Nat.zero_add _)) hd (fun _ _ => ⟨rfl, eT, hc, hs⟩)
  dsimp only [Pt.U, Pt.locs, Pt.cells, Pt.slots] at X' l1 y1 z1 stp hh
  subst l1 y1 z1 hL
  rw [List.append_nil] at X'
  rcases hv with ⟨rfl, q⟩ | ⟨rfl, q⟩
  · exact Go.of (fun t q => stp.trans q) (k1 _ q X' hh)
  · exact Go.of (fun t q => stp.trans q) (k0 _ q X' hh)
/-- a char[] of chars 0 to 255 -/
def CA (Z : State) (h : Heap) (a : Addr) (kc : ClassId) (z : Int32) : Prop := ∃ as : List Int32, as.length = z.toNatClampNeg ∧ chs as ∧ Arv Z h a kc .char z (as.map Value.int) (.int 0)
theorem CA.new {a : Addr} {kc : ClassId} {z : Int32} (V : Arv Z h a kc .char z [] (.int 0)) : CA Z h a kc z := by
  refine ⟨List.replicate z.toNatClampNeg 0, List.length_replicate, fun c hc => ?_, V.pad fun i => ?_⟩
  · rw [List.eq_of_mem_replicate hc]; decide
  · rw [getD_mapI, List.getD_eq_getElem?_getD, List.getD_eq_getElem?_getD, List.getElem?_replicate]
    split <;> rfl
theorem CA.ext {a : Addr} {kc : ClassId} {z : Int32} (A : CA Z h a kc z) (E : Ext h h') : CA Z h' a kc z := by
  obtain ⟨as, h1, h2, h3⟩ := A
  exact ⟨as, h1, h2, h3.ext E⟩
theorem Go.stCA (X : Stand p l e R s m args below meth c T locs cells slots) (hx : p.tables.exec = Jvm.exec) (hZ : Z.Warmed39 s.vm) (eT : T.heap = h) {a : Addr} {kc : ClassId} {z j v : Int32} (A : CA Z h a kc z) (hj : ¬ j < 0 ∧ j < z) (hv : ch1 v) {pc : Nat} {Ls : Array Slot} {rest : List Value} (hd : decode c.code pc = .ok (.castore, 1))
    (kk : ∀ T' h', Stand p l e R s m args below meth c T' (locs ++ [⟨a, j.toNatClampNeg⟩]) cells slots → T'.heap = h' → Wr h h' a j.toNatClampNeg (.int (nar .char v)) → CA Z h' a kc z → Go p e below F T' (mkF m (pc + 1) Ls rest)) : Go p e below F T (mkF m pc Ls (.int v :: .int j :: .ref a :: rest)) := by
  obtain ⟨as, h1, h2, h3⟩ := A
  have hi : j.toNatClampNeg < as.length := by
    rw [h1]
    have q1 := Int32.lt_iff_toInt_lt.mp hj.2
    have q2 := nat_of hj.1
    have q3 : z.toInt.toNat = z.toNatClampNeg := rfl
    omega
  refine Go.stC X hx hZ eT h3 hj j.toNatClampNeg rfl (by rw [List.length_map]; exact hi) hd ?_
  intro T' h' X' e' W' V'
  refine kk T' h' X' e' W' ⟨as.set j.toNatClampNeg v, by rw [List.length_set]; exact h1, fun c hc => ?_, ?_⟩
  · rcases List.mem_or_eq_of_mem_set hc with q | q
    · exact h2 c q
    · rw [q]; exact hv
  · rw [List.map_set]
    rw [nar_ch hv] at V'
    exact V'
theorem Go.strNew (X : Stand p l e R s m args below meth c T locs cells slots) (hx : p.tables.exec = Jvm.exec) (hZ : Z.Warmed39 s.vm) {own : String} {index : Nat} (hown : s.vm.findClass own = some m.cls) (wl : (Jvm.Cond.methodLink own index ⟨"java/lang/String", "<init>", "([C)V"⟩).before a0 Z = true) (wim : (Jvm.Cond.instanceMethod ⟨"java/lang/String", "<init>", "([C)V"⟩).before a0 Z = true) {bytes : ByteArray}
    (wc : (Jvm.Cond.code ⟨"java/lang/String", "<init>", "([C)V"⟩ bytes 2 none).before a0 Z = true) (hws : ∀ d ∈ StrChars.Road.words, d.before a0 Z = true) (wi : (Jvm.Cond.instantiable "java/lang/String" 4).before a0 Z = true)
    (eT : T.heap = h) {n0 cap : Nat} {b : Addr} {kc : ClassId} {z : Int32} {v0 c0 : Value} (g : n0 ≤ x) (gh : n0 ≤ h.size) (E : Exa Z h x "java/lang/String") (V : Fld Z h x "java/lang/String" "value" "[B" v0) (C : Fld Z h x "java/lang/String" "coder" "B" c0) (A : CA Z h b kc z) (hz0 : ¬ z = 0) (hzc : z.toNatClampNeg ≤ cap) (hcap : cap ≤ 4000)
    {zc : Int32} (CS : Sta Z h "java/lang/String" "COMPACT_STRINGS" "Z" (.int zc)) (hz : ¬ zc = 0)
    {pc : Nat} {Ls : Array Slot} {rest : List Value} (hsz : Ls.size = c.maxLocals) (hd : decode c.code pc = .ok (.invokespecial index, 3)) (hf : 4 ≤ R.frames) (hl : (rest.map fun v => v.category).sum + 65 ≤ R.locals) (hc : cells + 1 ≤ R.cells) (hs : slots + cap ≤ R.slots)
    (kk : ∀ T' L as, Stand p l e R s m args below meth c T' (locs ++ L) (cells + 1) (slots + cap) → Fr n0 L → Keep h T'.heap [x] → Str Z T'.heap T'.heap.size x as → Go p e below F T' (mkF m (pc + 3) Ls rest)) : Go p e below F T (mkF m pc Ls (.ref b :: .ref x :: rest)) := by
  obtain ⟨as, h1, h2, K⟩ := A
  obtain ⟨cl, A1, q1, S1, q3, H, G⟩ := id K
  have hN : z = Int32.ofNat as.length := by rw [h1]; exact (back32 q3).1.symm
  have l0 : 0 < as.length := by
    rw [h1]
    refine Nat.pos_of_ne_zero fun q => hz0 ?_
    rw [← (back32 q3).1, q]; rfl
  obtain ⟨v, _, ⟨T', L', k', n'⟩, -, X', ⟨L, ⟨hv, N, K', E', C', t, kb, t1, t2, t3, V', A'⟩, l1, y1, z1⟩, stp⟩ := X.specialBack hx (y := ⟨"java/lang/String", "<init>", "([C)V"⟩) rfl hown (mvT hZ wl) (mvT hZ wim) (mvT hZ wc) (by decide)
    (StrChars.Road.backV (W := (rest.map fun v => v.category).sum) hZ hws (kI := 4) wi (cs := as) (bs := as.map (fun c => c.toInt8.toInt32)) (n := as.length) g gh E V C K CS hz rfl hN l0 (by omega) h2 rfl hf hl) (g := mkF m pc Ls (.ref b :: .ref x :: rest)) rfl hsz (Steps.refl _) (a := x) (argsL := [.ref b]) (rest := rest) (lenOf pdNew rfl) rfl (by show 2 * 0 + _ ≤ _; exact Nat.le_of_eq (Nat.zero_add _)) hd (fun _ _ => ⟨rfl, eT, hc, by show slots + as.length ≤ R.slots; omega⟩)
  dsimp only [Pt.U, Pt.locs, Pt.cells, Pt.slots] at X' l1 y1 z1 stp N K' E' C' V' A'
  subst l1 y1 z1 hv
  rw [hN] at A'
  exact Go.of (fun t q => stp.trans q) (kk _ _ as (more X' (Nat.le_refl _) (by omega)) N K' ⟨t, kb, E', V', C', A', h2, by omega, E'.lt, A'.lt⟩)
end OwnStr
def tx0 : List Int32 := [112, 97, 105, 100, 95, 116, 111, 112, 117, 112]
def tx1 : List Int32 := [103, 105, 102, 116]
def tx2 : List Int32 := [114, 101, 102, 117, 110, 100]
def tx3 : List Int32 := [111, 116, 104, 101, 114]
def tx4 : List Int32 := []
theorem hc0 : chs tx0 := by decide
theorem hc1 : chs tx1 := by decide
theorem hc2 : chs tx2 := by decide
theorem hc3 : chs tx3 := by decide
theorem hc4 : chs tx4 := by decide
theorem ht0 : (∀ c ∈ "paid_topup".toList, c.toNat < 256) ∧ "paid_topup".toList.map (fun c => Value.int (Jvm.Lit.byteI c.toNat.toUInt16)) = (tx0.map (fun c => c.toInt8.toInt32)).map Value.int := by decide +kernel
theorem ht1 : (∀ c ∈ "gift".toList, c.toNat < 256) ∧ "gift".toList.map (fun c => Value.int (Jvm.Lit.byteI c.toNat.toUInt16)) = (tx1.map (fun c => c.toInt8.toInt32)).map Value.int := by decide +kernel
theorem ht2 : (∀ c ∈ "refund".toList, c.toNat < 256) ∧ "refund".toList.map (fun c => Value.int (Jvm.Lit.byteI c.toNat.toUInt16)) = (tx2.map (fun c => c.toInt8.toInt32)).map Value.int := by decide +kernel
theorem ht3 : (∀ c ∈ "other".toList, c.toNat < 256) ∧ "other".toList.map (fun c => Value.int (Jvm.Lit.byteI c.toNat.toUInt16)) = (tx3.map (fun c => c.toInt8.toInt32)).map Value.int := by decide +kernel
theorem ht4 : (∀ c ∈ "".toList, c.toNat < 256) ∧ "".toList.map (fun c => Value.int (Jvm.Lit.byteI c.toNat.toUInt16)) = (tx4.map (fun c => c.toInt8.toInt32)).map Value.int := by decide +kernel
theorem w_str {Z : State} {a0 : Array Value} (hw : ∀ d ∈ tables_1, d.before a0 Z = true) : ∀ d ∈ Bundle.stringAtoms, d.before a0 Z = true := fun d hd => hw d ((by decide +kernel : ∀ d ∈ Bundle.stringAtoms, d ∈ tables_1) d hd)
theorem w_len {Z : State} {a0 : Array Value} (hw : ∀ d ∈ tables_1, d.before a0 Z = true) : ∀ d ∈ StrChars.Road.wordsLen, d.before a0 Z = true := fun d hd => hw d ((by decide +kernel : ∀ d ∈ StrChars.Road.wordsLen, d ∈ tables_1) d hd)
theorem w_at {Z : State} {a0 : Array Value} (hw : ∀ d ∈ tables_1, d.before a0 Z = true) : ∀ d ∈ StrChars.Road.wordsChN, d.before a0 Z = true := fun d hd => hw d ((by decide +kernel : ∀ d ∈ StrChars.Road.wordsChN, d ∈ tables_1) d hd)
theorem w_eq {Z : State} {a0 : Array Value} (hw : ∀ d ∈ tables_1, d.before a0 Z = true) : ∀ d ∈ StrChars.Road.wordsEq, d.before a0 Z = true := fun d hd => hw d ((by decide +kernel : ∀ d ∈ StrChars.Road.wordsEq, d ∈ tables_1) d hd)
theorem w_new {Z : State} {a0 : Array Value} (hw : ∀ d ∈ tables_1, d.before a0 Z = true) : ∀ d ∈ StrChars.Road.words, d.before a0 Z = true := fun d hd => hw d ((by decide +kernel : ∀ d ∈ StrChars.Road.words, d ∈ tables_1) d hd)
def pick (r0 r1 r2 r3 : Addr) (ds : List Int32) : Value := if ds = tx0 then .ref r0 else if ds = tx1 then .ref r1 else if ds = tx2 then .ref r2 else if ds = tx3 then .ref r3 else .null
theorem pick_is (r0 r1 r2 r3 : Addr) (ds : List Int32) : (∃ q, pick r0 r1 r2 r3 ds = .ref q) ∨ pick r0 r1 r2 r3 ds = .null := by
  unfold pick
  repeat' split
  all_goals first | exact Or.inr rfl | exact Or.inl ⟨_, rfl⟩
/-- the length of blank's array -/
def BL (x z : Int32) : Prop := 0 ≤ z.toInt ∧ z.toInt ≤ 11 ∧ (1 ≤ x.toInt → x.toInt ≤ 11 → z = x)
theorem cap11 {x z : Int32} (h : BL x z) : z.toNatClampNeg ≤ 11 := by
  have h1 := h.1
  have h2 := h.2.1
  have q : z.toInt.toNat = z.toNatClampNeg := rfl
  omega
theorem CA.safe {Z : State} {h : Heap} {a : Addr} {kc : ClassId} {z : Int32} {EL : List (String × Nat)} {vm : Vm} (A : CA Z h a kc z) (hal : Z.vm.Alike vm) : Safe Z EL vm h a := by
  obtain ⟨as, -, -, V⟩ := A
  exact Safe.arv hal V (by decide)
theorem and255c {x v : Int32} (h : (x &&& (255 : Int32)).toUInt32.toUInt16.toUInt32.toInt32 = v) : ch1 v := by
  have t : ∀ k : Fin 256, ch1 ((Int32.ofNat k.val).toUInt32.toUInt16.toUInt32.toInt32) := by decide +kernel
  have m := c_mask x (255 : Int32) 8 (by decide) (by decide)
  obtain ⟨k, e⟩ := of255 (x := x &&& (255 : Int32)) ⟨fun q => by have := Int32.lt_iff_toInt_lt.mp q; have e0 : (0 : Int32).toInt = 0 := (by decide); omega, fun q => by have := Int32.lt_iff_toInt_lt.mp q; have e0 : (255 : Int32).toInt = 255 := (by decide); omega⟩
  rw [← h, e]
  exact t k
theorem len_b {cs : List Int32} {v : Int32} (h : Int32.ofNat cs.length = v) (h4 : 4 ≤ cs.length) (h10 : cs.length ≤ 10) : 4 ≤ v.toInt ∧ v.toInt ≤ 10 := by
  rw [← h, Int32.toInt_ofNat_of_lt (by omega)]
  omega
theorem ne_zero {v : Int32} (h : 4 ≤ v.toInt) : v ≠ 0 := fun q => by
  rw [q] at h
  exact absurd h (by decide)
theorem idx_in {x z v : Int32} (hz : z = v) (h : 4 ≤ v.toInt) : ¬ ((x &&& (2147483647 : Int32)) % v) < 0 ∧ ((x &&& (2147483647 : Int32)) % v) < z := by
  subst hz
  have t1 := c_mask x (2147483647 : Int32) 31 (by decide) (by decide)
  have t2 := c_iremV (x &&& (2147483647 : Int32)) z
  have k0 : (0 : Int32).toInt = 0 := by decide
  refine ⟨fun q => ?_, Int32.lt_iff_toInt_lt.mpr ?_⟩
  · have := Int32.lt_iff_toInt_lt.mp q
    omega
  · omega
theorem len_small {args : Array Value} {s : State} {t : Term} {a : Addr} {c : Cell} {ty : FieldType} {k : Int32} (h : (Term.length t).eval args s none [] s = some (.int k)) (ht : t.eval args s none [] s = some (.ref a)) (A : Arr s s.heap a c ty) : c.slots.size < 2 ^ 31 ∧ c.slots.size.toInt32 = k := by
  have ha := A.fin (Vm.Alike.refl _)
  simp only [Term.eval, ht, ha, Option.bind_eq_bind, Option.bind_some] at h
  by_cases q : c.slots.size < 2 ^ 31
  · rw [if_pos q] at h
    injection h with h
    injection h with h
    exact ⟨q, h⟩
  · rw [if_neg q] at h
    cases h
theorem eqv_r {Z : State} {args : Array Value} {X F : Term} {y : Addr} (hF : F.eval args Z none [] Z = some (.ref y)) (h : (Jvm.Cond.eq X F).value args Z none Z [] = some true) : X.eval args Z none [] Z = some (.ref y) := Jvm.Cond.eq_refs (beq_iff_eq.mpr h) hF rfl
theorem elem_i {args : Array Value} {s : State} {t : Term} {a : Addr} {c : Cell} {ty : FieldType} {j v : Int32} (ht : t.eval args s none [] s = some (.ref a)) (A : Arr s s.heap a c ty) (hj : ¬ j < 0) (h : (Jvm.Cond.eq (.elem t (.int j)) (.int v)).value args s none s [] = some true) : c.slots[j.toNatClampNeg]? = some (.int v) :=
  (elem_f ht (Term.int_eval j) (A.fin (Vm.Alike.refl _)) hj).symm.trans (eqv_i (Term.int_eval v) h)
theorem elem_r {args : Array Value} {s : State} {t u : Term} {a y : Addr} {c : Cell} {ty : FieldType} {j : Int32} (ht : t.eval args s none [] s = some (.ref a)) (A : Arr s s.heap a c ty) (hj : ¬ j < 0) (hu : u.eval args s none [] s = some (.ref y)) (h : (Jvm.Cond.eq (.elem t (.int j)) u).value args s none s [] = some true) : c.slots[j.toNatClampNeg]? = some (.ref y) :=
  (elem_f ht (Term.int_eval j) (A.fin (Vm.Alike.refl _)) hj).symm.trans (eqv_r hu h)
theorem ne_of_not {args : Array Value} {s : State} {t : Term} {z : Int32} (ez : t.eval args s none [] s = some (.int z)) (h : (Jvm.Cond.not (.eq t (.int 0))).value args s none s [] = some true) : ¬ z = 0 := by
  intro q
  subst q
  simp [Cond.value, Term.eval, ez] at h
abbrev mn_12 : MethodName := ⟨"java/lang/String", "<init>", "([C)V"⟩
abbrev mn_13 : MethodName := ⟨"java/lang/String", "<init>", "([CIILjava/lang/Void;)V"⟩
abbrev mn_22 : MethodName := ⟨"com/example/tollbook/tollbook/book/AdjustmentReasonOfPinLaw", "expected", "(Ljava/lang/String;)Lcom/example/tollbook/tollbook/book/AdjustmentReason;"⟩
abbrev mn_18 : MethodName := ⟨"com/example/tollbook/tollbook/book/AdjustmentReason", "of", "(Ljava/lang/String;)Lcom/example/tollbook/tollbook/book/AdjustmentReason;"⟩
abbrev mn_19 : MethodName := ⟨"com/example/tollbook/tollbook/book/AdjustmentReason", "values", "()[Lcom/example/tollbook/tollbook/book/AdjustmentReason;"⟩
abbrev mn_5 : MethodName := ⟨"com/example/tollbook/tollbook/book/AdjustmentReasonOfPinLaw", "src", "(Ljava/lang/String;IC)C"⟩
abbrev mn_11 : MethodName := ⟨"com/example/tollbook/tollbook/book/AdjustmentReasonOfPinLaw", "put", "([CIC)V"⟩
abbrev mn_4 : MethodName := ⟨"com/example/tollbook/tollbook/book/AdjustmentReasonOfPinLaw", "blank", "(I)[C"⟩
abbrev mn_1 : MethodName := ⟨"com/example/tollbook/tollbook/book/AdjustmentReasonOfPinLaw", "name", "(I)Ljava/lang/String;"⟩
theorem pn_com_example_tollbook_tollbook_book_AdjustmentReasonOfPinLaw : plainName "com/example/tollbook/tollbook/book/AdjustmentReasonOfPinLaw" = true := by first | (simp [plainName, overriddenIn]; done) | decide +kernel
theorem d1_0 : decode method_3_code 0 = .ok (.iload_n 0, 1) := by decide +kernel
theorem d1_1 : decode method_3_code 1 = .ok (.ifCond .ne 6, 3) := by decide +kernel
theorem d1_4 : decode method_3_code 4 = .ok (.ldc 44, 2) := by decide +kernel
theorem d1_6 : decode method_3_code 6 = .ok (.areturn, 1) := by decide +kernel
theorem d1_7 : decode method_3_code 7 = .ok (.iload_n 0, 1) := by decide +kernel
theorem d1_8 : decode method_3_code 8 = .ok (.iconst 1, 1) := by decide +kernel
theorem d1_9 : decode method_3_code 9 = .ok (.if_icmp .ne 6, 3) := by decide +kernel
theorem d1_12 : decode method_3_code 12 = .ok (.ldc 46, 2) := by decide +kernel
theorem d1_14 : decode method_3_code 14 = .ok (.areturn, 1) := by decide +kernel
theorem d1_15 : decode method_3_code 15 = .ok (.iload_n 0, 1) := by decide +kernel
theorem d1_16 : decode method_3_code 16 = .ok (.iconst 2, 1) := by decide +kernel
theorem d1_17 : decode method_3_code 17 = .ok (.if_icmp .ne 6, 3) := by decide +kernel
theorem d1_20 : decode method_3_code 20 = .ok (.ldc 48, 2) := by decide +kernel
theorem d1_22 : decode method_3_code 22 = .ok (.areturn, 1) := by decide +kernel
theorem d1_23 : decode method_3_code 23 = .ok (.ldc 50, 2) := by decide +kernel
theorem d1_25 : decode method_3_code 25 = .ok (.areturn, 1) := by decide +kernel
theorem d4_0 : decode method_7_code 0 = .ok (.iload_n 0, 1) := by decide +kernel
theorem d4_1 : decode method_7_code 1 = .ok (.iconst 1, 1) := by decide +kernel
theorem d4_2 : decode method_7_code 2 = .ok (.if_icmp .ne 7, 3) := by decide +kernel
theorem d4_5 : decode method_7_code 5 = .ok (.iconst 1, 1) := by decide +kernel
theorem d4_6 : decode method_7_code 6 = .ok (.newarray .char, 2) := by decide +kernel
theorem d4_8 : decode method_7_code 8 = .ok (.areturn, 1) := by decide +kernel
theorem d4_9 : decode method_7_code 9 = .ok (.iload_n 0, 1) := by decide +kernel
theorem d4_10 : decode method_7_code 10 = .ok (.iconst 2, 1) := by decide +kernel
theorem d4_11 : decode method_7_code 11 = .ok (.if_icmp .ne 7, 3) := by decide +kernel
theorem d4_14 : decode method_7_code 14 = .ok (.iconst 2, 1) := by decide +kernel
theorem d4_15 : decode method_7_code 15 = .ok (.newarray .char, 2) := by decide +kernel
theorem d4_17 : decode method_7_code 17 = .ok (.areturn, 1) := by decide +kernel
theorem d4_18 : decode method_7_code 18 = .ok (.iload_n 0, 1) := by decide +kernel
theorem d4_19 : decode method_7_code 19 = .ok (.iconst 3, 1) := by decide +kernel
theorem d4_20 : decode method_7_code 20 = .ok (.if_icmp .ne 7, 3) := by decide +kernel
theorem d4_23 : decode method_7_code 23 = .ok (.iconst 3, 1) := by decide +kernel
theorem d4_24 : decode method_7_code 24 = .ok (.newarray .char, 2) := by decide +kernel
theorem d4_26 : decode method_7_code 26 = .ok (.areturn, 1) := by decide +kernel
theorem d4_27 : decode method_7_code 27 = .ok (.iload_n 0, 1) := by decide +kernel
theorem d4_28 : decode method_7_code 28 = .ok (.iconst 4, 1) := by decide +kernel
theorem d4_29 : decode method_7_code 29 = .ok (.if_icmp .ne 7, 3) := by decide +kernel
theorem d4_32 : decode method_7_code 32 = .ok (.iconst 4, 1) := by decide +kernel
theorem d4_33 : decode method_7_code 33 = .ok (.newarray .char, 2) := by decide +kernel
theorem d4_35 : decode method_7_code 35 = .ok (.areturn, 1) := by decide +kernel
theorem d4_36 : decode method_7_code 36 = .ok (.iload_n 0, 1) := by decide +kernel
theorem d4_37 : decode method_7_code 37 = .ok (.iconst 5, 1) := by decide +kernel
theorem d4_38 : decode method_7_code 38 = .ok (.if_icmp .ne 7, 3) := by decide +kernel
theorem d4_41 : decode method_7_code 41 = .ok (.iconst 5, 1) := by decide +kernel
theorem d4_42 : decode method_7_code 42 = .ok (.newarray .char, 2) := by decide +kernel
theorem d4_44 : decode method_7_code 44 = .ok (.areturn, 1) := by decide +kernel
theorem d4_45 : decode method_7_code 45 = .ok (.iload_n 0, 1) := by decide +kernel
theorem d4_46 : decode method_7_code 46 = .ok (.bipush 6, 2) := by decide +kernel
theorem d4_48 : decode method_7_code 48 = .ok (.if_icmp .ne 8, 3) := by decide +kernel
theorem d4_51 : decode method_7_code 51 = .ok (.bipush 6, 2) := by decide +kernel
theorem d4_53 : decode method_7_code 53 = .ok (.newarray .char, 2) := by decide +kernel
theorem d4_55 : decode method_7_code 55 = .ok (.areturn, 1) := by decide +kernel
theorem d4_56 : decode method_7_code 56 = .ok (.iload_n 0, 1) := by decide +kernel
theorem d4_57 : decode method_7_code 57 = .ok (.bipush 7, 2) := by decide +kernel
theorem d4_59 : decode method_7_code 59 = .ok (.if_icmp .ne 8, 3) := by decide +kernel
theorem d4_62 : decode method_7_code 62 = .ok (.bipush 7, 2) := by decide +kernel
theorem d4_64 : decode method_7_code 64 = .ok (.newarray .char, 2) := by decide +kernel
theorem d4_66 : decode method_7_code 66 = .ok (.areturn, 1) := by decide +kernel
theorem d4_67 : decode method_7_code 67 = .ok (.iload_n 0, 1) := by decide +kernel
theorem d4_68 : decode method_7_code 68 = .ok (.bipush 8, 2) := by decide +kernel
theorem d4_70 : decode method_7_code 70 = .ok (.if_icmp .ne 8, 3) := by decide +kernel
theorem d4_73 : decode method_7_code 73 = .ok (.bipush 8, 2) := by decide +kernel
theorem d4_75 : decode method_7_code 75 = .ok (.newarray .char, 2) := by decide +kernel
theorem d4_77 : decode method_7_code 77 = .ok (.areturn, 1) := by decide +kernel
theorem d4_78 : decode method_7_code 78 = .ok (.iload_n 0, 1) := by decide +kernel
theorem d4_79 : decode method_7_code 79 = .ok (.bipush 9, 2) := by decide +kernel
theorem d4_81 : decode method_7_code 81 = .ok (.if_icmp .ne 8, 3) := by decide +kernel
theorem d4_84 : decode method_7_code 84 = .ok (.bipush 9, 2) := by decide +kernel
theorem d4_86 : decode method_7_code 86 = .ok (.newarray .char, 2) := by decide +kernel
theorem d4_88 : decode method_7_code 88 = .ok (.areturn, 1) := by decide +kernel
theorem d4_89 : decode method_7_code 89 = .ok (.iload_n 0, 1) := by decide +kernel
theorem d4_90 : decode method_7_code 90 = .ok (.bipush 10, 2) := by decide +kernel
theorem d4_92 : decode method_7_code 92 = .ok (.if_icmp .ne 8, 3) := by decide +kernel
theorem d4_95 : decode method_7_code 95 = .ok (.bipush 10, 2) := by decide +kernel
theorem d4_97 : decode method_7_code 97 = .ok (.newarray .char, 2) := by decide +kernel
theorem d4_99 : decode method_7_code 99 = .ok (.areturn, 1) := by decide +kernel
theorem d4_100 : decode method_7_code 100 = .ok (.iload_n 0, 1) := by decide +kernel
theorem d4_101 : decode method_7_code 101 = .ok (.bipush 11, 2) := by decide +kernel
theorem d4_103 : decode method_7_code 103 = .ok (.if_icmp .ne 8, 3) := by decide +kernel
theorem d4_106 : decode method_7_code 106 = .ok (.bipush 11, 2) := by decide +kernel
theorem d4_108 : decode method_7_code 108 = .ok (.newarray .char, 2) := by decide +kernel
theorem d4_110 : decode method_7_code 110 = .ok (.areturn, 1) := by decide +kernel
theorem d4_111 : decode method_7_code 111 = .ok (.iconst 0, 1) := by decide +kernel
theorem d4_112 : decode method_7_code 112 = .ok (.newarray .char, 2) := by decide +kernel
theorem d4_114 : decode method_7_code 114 = .ok (.areturn, 1) := by decide +kernel
theorem d11_0 : decode method_6_code 0 = .ok (.iload_n 1, 1) := by decide +kernel
theorem d11_1 : decode method_6_code 1 = .ok (.aload_n 0, 1) := by decide +kernel
theorem d11_2 : decode method_6_code 2 = .ok (.arraylength, 1) := by decide +kernel
theorem d11_3 : decode method_6_code 3 = .ok (.if_icmp .ge 7, 3) := by decide +kernel
theorem d11_6 : decode method_6_code 6 = .ok (.aload_n 0, 1) := by decide +kernel
theorem d11_7 : decode method_6_code 7 = .ok (.iload_n 1, 1) := by decide +kernel
theorem d11_8 : decode method_6_code 8 = .ok (.iload_n 2, 1) := by decide +kernel
theorem d11_9 : decode method_6_code 9 = .ok (.castore, 1) := by decide +kernel
theorem d11_10 : decode method_6_code 10 = .ok (.return_, 1) := by decide +kernel
theorem d5_0 : decode method_5_code 0 = .ok (.iload_n 1, 1) := by decide +kernel
theorem d5_1 : decode method_5_code 1 = .ok (.aload_n 0, 1) := by decide +kernel
theorem d5_2 : decode method_5_code 2 = .ok (.invokevirtual 13, 3) := by decide +kernel
theorem d5_5 : decode method_5_code 5 = .ok (.if_icmp .ge 11, 3) := by decide +kernel
theorem d5_8 : decode method_5_code 8 = .ok (.aload_n 0, 1) := by decide +kernel
theorem d5_9 : decode method_5_code 9 = .ok (.iload_n 1, 1) := by decide +kernel
theorem d5_10 : decode method_5_code 10 = .ok (.invokevirtual 69, 3) := by decide +kernel
theorem d5_13 : decode method_5_code 13 = .ok (.goto 4, 3) := by decide +kernel
theorem d5_17 : decode method_5_code 17 = .ok (.ireturn, 1) := by decide +kernel
theorem d5_16 : decode method_5_code 16 = .ok (.iload_n 2, 1) := by decide +kernel
theorem pn_com_example_tollbook_tollbook_book_AdjustmentReason : plainName "com/example/tollbook/tollbook/book/AdjustmentReason" = true := by first | (simp [plainName, overriddenIn]; done) | decide +kernel
theorem d19_0 : decode prog_10_method_1_code 0 = .ok (.getstatic 16, 3) := by decide +kernel
theorem d19_3 : decode prog_10_method_1_code 3 = .ok (.invokevirtual 20, 3) := by decide +kernel
theorem d19_6 : decode prog_10_method_1_code 6 = .ok (.checkcast 21, 3) := by decide +kernel
theorem d19_9 : decode prog_10_method_1_code 9 = .ok (.areturn, 1) := by decide +kernel
theorem d18_0 : decode prog_10_method_4_code 0 = .ok (.invokestatic 50, 3) := by decide +kernel
theorem pd_5 : parseMethodDescriptor "()[Lcom/example/tollbook/tollbook/book/AdjustmentReason;" = some ⟨[], some (.array (.object "com/example/tollbook/tollbook/book/AdjustmentReason"))⟩ := by decide +kernel
theorem d18_3 : decode prog_10_method_4_code 3 = .ok (.astore_n 1, 1) := by decide +kernel
theorem d18_4 : decode prog_10_method_4_code 4 = .ok (.aload_n 1, 1) := by decide +kernel
theorem d18_5 : decode prog_10_method_4_code 5 = .ok (.arraylength, 1) := by decide +kernel
theorem d18_6 : decode prog_10_method_4_code 6 = .ok (.istore_n 2, 1) := by decide +kernel
theorem d18_7 : decode prog_10_method_4_code 7 = .ok (.iconst 0, 1) := by decide +kernel
theorem d18_8 : decode prog_10_method_4_code 8 = .ok (.istore_n 3, 1) := by decide +kernel
theorem d18_9 : decode prog_10_method_4_code 9 = .ok (.iload_n 3, 1) := by decide +kernel
theorem d18_10 : decode prog_10_method_4_code 10 = .ok (.iload_n 2, 1) := by decide +kernel
theorem d18_11 : decode prog_10_method_4_code 11 = .ok (.if_icmp .ge 29, 3) := by decide +kernel
theorem d18_14 : decode prog_10_method_4_code 14 = .ok (.aload_n 1, 1) := by decide +kernel
theorem d18_15 : decode prog_10_method_4_code 15 = .ok (.iload_n 3, 1) := by decide +kernel
theorem d18_16 : decode prog_10_method_4_code 16 = .ok (.aaload, 1) := by decide +kernel
theorem d18_17 : decode prog_10_method_4_code 17 = .ok (.astore 4, 2) := by decide +kernel
theorem d18_19 : decode prog_10_method_4_code 19 = .ok (.aload 4, 2) := by decide +kernel
theorem d18_21 : decode prog_10_method_4_code 21 = .ok (.getfield 35, 3) := by decide +kernel
theorem d18_24 : decode prog_10_method_4_code 24 = .ok (.aload_n 0, 1) := by decide +kernel
theorem d18_25 : decode prog_10_method_4_code 25 = .ok (.invokevirtual 54, 3) := by decide +kernel
theorem d18_28 : decode prog_10_method_4_code 28 = .ok (.ifCond .eq 6, 3) := by decide +kernel
theorem d18_31 : decode prog_10_method_4_code 31 = .ok (.aload 4, 2) := by decide +kernel
theorem d18_33 : decode prog_10_method_4_code 33 = .ok (.areturn, 1) := by decide +kernel
theorem d18_34 : decode prog_10_method_4_code 34 = .ok (.iinc 3 1, 3) := by decide +kernel
theorem d18_37 : decode prog_10_method_4_code 37 = .ok (.goto (-28), 3) := by decide +kernel
theorem d18_40 : decode prog_10_method_4_code 40 = .ok (.aconst_null, 1) := by decide +kernel
theorem d18_41 : decode prog_10_method_4_code 41 = .ok (.areturn, 1) := by decide +kernel
theorem d22_0 : decode method_4_code 0 = .ok (.aload_n 0, 1) := by decide +kernel
theorem d22_1 : decode method_4_code 1 = .ok (.ldc 44, 2) := by decide +kernel
theorem d22_3 : decode method_4_code 3 = .ok (.invokevirtual 52, 3) := by decide +kernel
theorem d22_6 : decode method_4_code 6 = .ok (.ifCond .eq 7, 3) := by decide +kernel
theorem d22_9 : decode method_4_code 9 = .ok (.getstatic 56, 3) := by decide +kernel
theorem d22_12 : decode method_4_code 12 = .ok (.areturn, 1) := by decide +kernel
theorem d22_13 : decode method_4_code 13 = .ok (.aload_n 0, 1) := by decide +kernel
theorem d22_14 : decode method_4_code 14 = .ok (.ldc 46, 2) := by decide +kernel
theorem d22_16 : decode method_4_code 16 = .ok (.invokevirtual 52, 3) := by decide +kernel
theorem d22_19 : decode method_4_code 19 = .ok (.ifCond .eq 7, 3) := by decide +kernel
theorem d22_22 : decode method_4_code 22 = .ok (.getstatic 60, 3) := by decide +kernel
theorem d22_25 : decode method_4_code 25 = .ok (.areturn, 1) := by decide +kernel
theorem d22_26 : decode method_4_code 26 = .ok (.aload_n 0, 1) := by decide +kernel
theorem d22_27 : decode method_4_code 27 = .ok (.ldc 48, 2) := by decide +kernel
theorem d22_29 : decode method_4_code 29 = .ok (.invokevirtual 52, 3) := by decide +kernel
theorem d22_32 : decode method_4_code 32 = .ok (.ifCond .eq 7, 3) := by decide +kernel
theorem d22_35 : decode method_4_code 35 = .ok (.getstatic 63, 3) := by decide +kernel
theorem d22_38 : decode method_4_code 38 = .ok (.areturn, 1) := by decide +kernel
theorem d22_39 : decode method_4_code 39 = .ok (.aload_n 0, 1) := by decide +kernel
theorem d22_40 : decode method_4_code 40 = .ok (.ldc 50, 2) := by decide +kernel
theorem d22_42 : decode method_4_code 42 = .ok (.invokevirtual 52, 3) := by decide +kernel
theorem d22_45 : decode method_4_code 45 = .ok (.ifCond .eq 7, 3) := by decide +kernel
theorem d22_48 : decode method_4_code 48 = .ok (.getstatic 66, 3) := by decide +kernel
theorem d22_51 : decode method_4_code 51 = .ok (.areturn, 1) := by decide +kernel
theorem d22_52 : decode method_4_code 52 = .ok (.aconst_null, 1) := by decide +kernel
theorem d22_53 : decode method_4_code 53 = .ok (.areturn, 1) := by decide +kernel
theorem pn_java_lang_String : plainName "java/lang/String" = true := by first | (simp [plainName, overriddenIn]; done) | decide +kernel
theorem d13_0 : decode jdk_42_method_149_code 0 = .ok (.aload_n 0, 1) := by decide +kernel
theorem d13_1 : decode jdk_42_method_149_code 1 = .ok (.invokespecial 1, 3) := by decide +kernel
theorem d13_4 : decode jdk_42_method_149_code 4 = .ok (.iload_n 3, 1) := by decide +kernel
theorem d13_5 : decode jdk_42_method_149_code 5 = .ok (.ifCond .ne 22, 3) := by decide +kernel
theorem d13_8 : decode jdk_42_method_149_code 8 = .ok (.aload_n 0, 1) := by decide +kernel
theorem d13_9 : decode jdk_42_method_149_code 9 = .ok (.ldc 7, 2) := by decide +kernel
theorem d13_11 : decode jdk_42_method_149_code 11 = .ok (.getfield 9, 3) := by decide +kernel
theorem d13_14 : decode jdk_42_method_149_code 14 = .ok (.putfield 9, 3) := by decide +kernel
theorem d13_17 : decode jdk_42_method_149_code 17 = .ok (.aload_n 0, 1) := by decide +kernel
theorem d13_18 : decode jdk_42_method_149_code 18 = .ok (.ldc 7, 2) := by decide +kernel
theorem d13_20 : decode jdk_42_method_149_code 20 = .ok (.getfield 15, 3) := by decide +kernel
theorem d13_23 : decode jdk_42_method_149_code 23 = .ok (.putfield 15, 3) := by decide +kernel
theorem d13_26 : decode jdk_42_method_149_code 26 = .ok (.return_, 1) := by decide +kernel
theorem d12_0 : decode jdk_42_method_3_code 0 = .ok (.aload_n 0, 1) := by decide +kernel
theorem d12_1 : decode jdk_42_method_3_code 1 = .ok (.aload_n 1, 1) := by decide +kernel
theorem d12_2 : decode jdk_42_method_3_code 2 = .ok (.iconst 0, 1) := by decide +kernel
theorem d12_3 : decode jdk_42_method_3_code 3 = .ok (.aload_n 1, 1) := by decide +kernel
theorem d12_4 : decode jdk_42_method_3_code 4 = .ok (.arraylength, 1) := by decide +kernel
theorem d12_5 : decode jdk_42_method_3_code 5 = .ok (.aconst_null, 1) := by decide +kernel
theorem d12_6 : decode jdk_42_method_3_code 6 = .ok (.invokespecial 27, 3) := by decide +kernel
theorem pd_20 : parseMethodDescriptor "([CIILjava/lang/Void;)V" = some ⟨[(.array .char), .int, .int, (.object "java/lang/Void")], none⟩ := by decide +kernel
theorem d12_9 : decode jdk_42_method_3_code 9 = .ok (.return_, 1) := by decide +kernel
theorem pd_7 : parseMethodDescriptor "(I)Ljava/lang/String;" = some ⟨[.int], some (.object "java/lang/String")⟩ := by decide +kernel
theorem pd_8 : parseMethodDescriptor "(I)[C" = some ⟨[.int], some (.array .char)⟩ := by decide +kernel
theorem pd_13 : parseMethodDescriptor "(Ljava/lang/String;IC)C" = some ⟨[(.object "java/lang/String"), .int, .char], some .char⟩ := by decide +kernel
theorem pd_18 : parseMethodDescriptor "([CIC)V" = some ⟨[(.array .char), .int, .char], none⟩ := by decide +kernel
theorem pd_12 : parseMethodDescriptor "(Ljava/lang/String;)Lcom/example/tollbook/tollbook/book/AdjustmentReason;" = some ⟨[(.object "java/lang/String")], some (.object "com/example/tollbook/tollbook/book/AdjustmentReason")⟩ := by decide +kernel
theorem ef_nam (m : MethodId) (x0 : Int32) : entryFrame m #[(.int x0)] 1 = mkF m 0 #[.val (.int x0)] [] := by first | (simp [entryFrame, mkF, argsToLocals, Value.category]; done) | rfl
set_option maxRecDepth 65536 in
set_option maxHeartbeats 40000000 in
theorem rm_nam (l : Launch) (Z : State) (a0 : Array Value) (hw : ∀ d ∈ tables_1, d.before a0 Z = true) (x0 : Int32) (h0 : Heap) (hEL : EW Z a0 consts_1) :
    CtW l mn_1 method_3_code 1 (some (.object "java/lang/String")) ({ frames := 0, cells := 2, slots := 44, locals := 0 } : Room) Z consts_1 [] h0 #[(.int x0)] (fun v h L => ∃ r cs, v = some (.ref r) ∧ L = [] ∧ Ext h0 h ∧ Str Z h h.size r cs ∧ 4 ≤ cs.length ∧ cs.length ≤ 10) := by
  refine CtW.body (plainFor_of_name pn_com_example_tollbook_tollbook_book_AdjustmentReasonOfPinLaw) ?_
  intro p e s m below meth c T0 hx hby hml hown hnm hret hlk hZ hW hsf X0 e0
  refine Go.cast (ef_nam m x0) ?_
  show Go p e below _ T0 (mkF m 0 #[.val (.int x0)] [])
  refine Go.s_iloadN X0 hx (hb hby d1_0) (q := 1) rfl rfl ?_
  by_cases c1_1 : x0 = (0 : Int32)
  · -- pc 1: x0 = (0 : Int32)
    refine Go.s_ifNo X0 hx (hb hby d1_1) (q := 4) rfl ((if0 _ _).trans (teq c1_1).2) ?_
    refine Go.ldcW (cs := tx0) X0 hx hZ hown (w_ hw 4 rfl) (w_str hw) e0 hEL (by decide) hW ht0 hc0 (by decide) (hb hby d1_4) (by decide) (by decide) ?_
    intro T2 h2 b2 X2 e2 E2 hZ hown S2 hW2 R2
    show Go p e below _ T2 (mkF m 6 #[.val (.int x0)] [(.ref b2)])
    refine Go.retAW X2 hx hZ hEL e2 hW2 hlk hret rfl rfl (hb hby d1_6) (by decide) (by decide) ?_
    exact ⟨_, _, rfl, rfl, E2, S2, by decide, by decide⟩
  · -- pc 1: not x0 = (0 : Int32)
    refine Go.s_ifYes X0 hx (hb hby d1_1) (q := 7) (by decide) (by decide) ((if0 _ _).trans (feq c1_1).2) ?_
    refine Go.s_iloadN X0 hx (hb hby d1_7) (q := 8) rfl rfl ?_
    refine Go.s_iconst X0 hx (hb hby d1_8) (q := 9) rfl (z := 1) rfl ?_
    by_cases c9_3 : x0 = (1 : Int32)
    · -- pc 9: x0 = (1 : Int32)
      refine Go.s_icmpNo X0 hx (hb hby d1_9) (q := 12) rfl (teq c9_3).2 ?_
      refine Go.ldcW (cs := tx1) X0 hx hZ hown (w_ hw 117 rfl) (w_str hw) e0 hEL (by decide) hW ht1 hc1 (by decide) (hb hby d1_12) (by decide) (by decide) ?_
      intro T4 h4 b4 X4 e4 E4 hZ hown S4 hW4 R4
      show Go p e below _ T4 (mkF m 14 #[.val (.int x0)] [(.ref b4)])
      refine Go.retAW X4 hx hZ hEL e4 hW4 hlk hret rfl rfl (hb hby d1_14) (by decide) (by decide) ?_
      exact ⟨_, _, rfl, rfl, E4, S4, by decide, by decide⟩
    · -- pc 9: not x0 = (1 : Int32)
      refine Go.s_icmpYes X0 hx (hb hby d1_9) (q := 15) (by decide) (by decide) (feq c9_3).2 ?_
      refine Go.s_iloadN X0 hx (hb hby d1_15) (q := 16) rfl rfl ?_
      refine Go.s_iconst X0 hx (hb hby d1_16) (q := 17) rfl (z := 2) rfl ?_
      by_cases c17_5 : x0 = (2 : Int32)
      · -- pc 17: x0 = (2 : Int32)
        refine Go.s_icmpNo X0 hx (hb hby d1_17) (q := 20) rfl (teq c17_5).2 ?_
        refine Go.ldcW (cs := tx2) X0 hx hZ hown (w_ hw 118 rfl) (w_str hw) e0 hEL (by decide) hW ht2 hc2 (by decide) (hb hby d1_20) (by decide) (by decide) ?_
        intro T6 h6 b6 X6 e6 E6 hZ hown S6 hW6 R6
        show Go p e below _ T6 (mkF m 22 #[.val (.int x0)] [(.ref b6)])
        refine Go.retAW X6 hx hZ hEL e6 hW6 hlk hret rfl rfl (hb hby d1_22) (by decide) (by decide) ?_
        exact ⟨_, _, rfl, rfl, E6, S6, by decide, by decide⟩
      · -- pc 17: not x0 = (2 : Int32)
        refine Go.s_icmpYes X0 hx (hb hby d1_17) (q := 23) (by decide) (by decide) (feq c17_5).2 ?_
        refine Go.ldcW (cs := tx3) X0 hx hZ hown (w_ hw 119 rfl) (w_str hw) e0 hEL (by decide) hW ht3 hc3 (by decide) (hb hby d1_23) (by decide) (by decide) ?_
        intro T7 h7 b7 X7 e7 E7 hZ hown S7 hW7 R7
        show Go p e below _ T7 (mkF m 25 #[.val (.int x0)] [(.ref b7)])
        refine Go.retAW X7 hx hZ hEL e7 hW7 hlk hret rfl rfl (hb hby d1_25) (by decide) (by decide) ?_
        exact ⟨_, _, rfl, rfl, E7, S7, by decide, by decide⟩
theorem ef_bla (m : MethodId) (x0 : Int32) : entryFrame m #[(.int x0)] 1 = mkF m 0 #[.val (.int x0)] [] := by first | (simp [entryFrame, mkF, argsToLocals, Value.category]; done) | rfl
set_option maxRecDepth 65536 in
set_option maxHeartbeats 40000000 in
theorem rm_bla (l : Launch) (Z : State) (a0 : Array Value) (hw : ∀ d ∈ tables_1, d.before a0 Z = true) (x0 : Int32) (h0 : Heap)  :
    Ct l mn_4 method_7_code 1 (some (.array .char)) ({ frames := 0, cells := 1, slots := 11, locals := 0 } : Room) Z h0 #[(.int x0)] (fun v h L => ∃ r kc z, v = some (.ref r) ∧ L = [] ∧ Ext h0 h ∧ r = h0.size ∧ BL x0 z ∧ CA Z h r kc z) := by
  refine Ct.body (plainFor_of_name pn_com_example_tollbook_tollbook_book_AdjustmentReasonOfPinLaw) ?_
  intro p e s m below meth c T0 hx hby hml hown hnm hret hlk hZ X0 e0
  refine Go.cast (ef_bla m x0) ?_
  show Go p e below _ T0 (mkF m 0 #[.val (.int x0)] [])
  refine Go.s_iloadN X0 hx (hb hby d4_0) (q := 1) rfl rfl ?_
  refine Go.s_iconst X0 hx (hb hby d4_1) (q := 2) rfl (z := 1) rfl ?_
  by_cases c2_1 : x0 = (1 : Int32)
  · -- pc 2: x0 = (1 : Int32)
    refine Go.s_icmpNo X0 hx (hb hby d4_2) (q := 5) rfl (teq c2_1).2 ?_
    refine Go.s_iconst X0 hx (hb hby d4_5) (q := 6) rfl (z := 1) rfl ?_
    refine Go.newP X0 hx hZ (w_ hw 29 rfl) e0 (hb hby d4_6) (by decide) (cap := 1) (by decide) (by decide) (by decide) (by decide) ?_
    intro T2 h2 b2 k2 g2 X2 e2 E2 V2
    have V2_3 : Arv Z h2 b2 k2 .char (1 : Int32) [(.int (0 : Int32))] (.int (0 : Int32)) := V2.pad (pad_rep [] (.int (0 : Int32)) 1)
    show Go p e below _ T2 (mkF m 8 #[.val (.int x0)] [(.ref b2)])
    refine Go.retA X2 hx hlk hret rfl rfl (hb hby d4_8) (by decide) (by decide) ?_
    try rw [e2]
    refine ⟨_, _, (1 : Int32), rfl, rfl, E2, g2, ?_, CA.new V2⟩
    have := congrArg Int32.toInt c2_1
    have := (by decide : (0 : Int32).toInt = 0)
    have := (by decide : (1 : Int32).toInt = 1)
    have := (by decide : (2 : Int32).toInt = 2)
    have := (by decide : (3 : Int32).toInt = 3)
    have := (by decide : (4 : Int32).toInt = 4)
    have := (by decide : (5 : Int32).toInt = 5)
    have := (by decide : (6 : Int32).toInt = 6)
    have := (by decide : (7 : Int32).toInt = 7)
    have := (by decide : (8 : Int32).toInt = 8)
    have := (by decide : (9 : Int32).toInt = 9)
    have := (by decide : (10 : Int32).toInt = 10)
    have := (by decide : (11 : Int32).toInt = 11)
    refine ⟨by decide, by decide, fun q1 q2 => ?_⟩
    exact Int32.toInt_inj.mp (by omega)
  · -- pc 2: not x0 = (1 : Int32)
    refine Go.s_icmpYes X0 hx (hb hby d4_2) (q := 9) (by decide) (by decide) (feq c2_1).2 ?_
    refine Go.s_iloadN X0 hx (hb hby d4_9) (q := 10) rfl rfl ?_
    refine Go.s_iconst X0 hx (hb hby d4_10) (q := 11) rfl (z := 2) rfl ?_
    by_cases c11_4 : x0 = (2 : Int32)
    · -- pc 11: x0 = (2 : Int32)
      refine Go.s_icmpNo X0 hx (hb hby d4_11) (q := 14) rfl (teq c11_4).2 ?_
      refine Go.s_iconst X0 hx (hb hby d4_14) (q := 15) rfl (z := 2) rfl ?_
      refine Go.newP X0 hx hZ (w_ hw 29 rfl) e0 (hb hby d4_15) (by decide) (cap := 2) (by decide) (by decide) (by decide) (by decide) ?_
      intro T5 h5 b5 k5 g5 X5 e5 E5 V5
      have V5_6 : Arv Z h5 b5 k5 .char (2 : Int32) [(.int (0 : Int32)), (.int (0 : Int32))] (.int (0 : Int32)) := V5.pad (pad_rep [] (.int (0 : Int32)) 2)
      show Go p e below _ T5 (mkF m 17 #[.val (.int x0)] [(.ref b5)])
      refine Go.retA X5 hx hlk hret rfl rfl (hb hby d4_17) (by decide) (by decide) ?_
      try rw [e5]
      refine ⟨_, _, (2 : Int32), rfl, rfl, E5, g5, ?_, CA.new V5⟩
      have := mt Int32.toInt_inj.mp c2_1
      have := congrArg Int32.toInt c11_4
      have := (by decide : (0 : Int32).toInt = 0)
      have := (by decide : (1 : Int32).toInt = 1)
      have := (by decide : (2 : Int32).toInt = 2)
      have := (by decide : (3 : Int32).toInt = 3)
      have := (by decide : (4 : Int32).toInt = 4)
      have := (by decide : (5 : Int32).toInt = 5)
      have := (by decide : (6 : Int32).toInt = 6)
      have := (by decide : (7 : Int32).toInt = 7)
      have := (by decide : (8 : Int32).toInt = 8)
      have := (by decide : (9 : Int32).toInt = 9)
      have := (by decide : (10 : Int32).toInt = 10)
      have := (by decide : (11 : Int32).toInt = 11)
      refine ⟨by decide, by decide, fun q1 q2 => ?_⟩
      exact Int32.toInt_inj.mp (by omega)
    · -- pc 11: not x0 = (2 : Int32)
      refine Go.s_icmpYes X0 hx (hb hby d4_11) (q := 18) (by decide) (by decide) (feq c11_4).2 ?_
      refine Go.s_iloadN X0 hx (hb hby d4_18) (q := 19) rfl rfl ?_
      refine Go.s_iconst X0 hx (hb hby d4_19) (q := 20) rfl (z := 3) rfl ?_
      by_cases c20_7 : x0 = (3 : Int32)
      · -- pc 20: x0 = (3 : Int32)
        refine Go.s_icmpNo X0 hx (hb hby d4_20) (q := 23) rfl (teq c20_7).2 ?_
        refine Go.s_iconst X0 hx (hb hby d4_23) (q := 24) rfl (z := 3) rfl ?_
        refine Go.newP X0 hx hZ (w_ hw 29 rfl) e0 (hb hby d4_24) (by decide) (cap := 3) (by decide) (by decide) (by decide) (by decide) ?_
        intro T8 h8 b8 k8 g8 X8 e8 E8 V8
        have V8_9 : Arv Z h8 b8 k8 .char (3 : Int32) [(.int (0 : Int32)), (.int (0 : Int32)), (.int (0 : Int32))] (.int (0 : Int32)) := V8.pad (pad_rep [] (.int (0 : Int32)) 3)
        show Go p e below _ T8 (mkF m 26 #[.val (.int x0)] [(.ref b8)])
        refine Go.retA X8 hx hlk hret rfl rfl (hb hby d4_26) (by decide) (by decide) ?_
        try rw [e8]
        refine ⟨_, _, (3 : Int32), rfl, rfl, E8, g8, ?_, CA.new V8⟩
        have := mt Int32.toInt_inj.mp c2_1
        have := mt Int32.toInt_inj.mp c11_4
        have := congrArg Int32.toInt c20_7
        have := (by decide : (0 : Int32).toInt = 0)
        have := (by decide : (1 : Int32).toInt = 1)
        have := (by decide : (2 : Int32).toInt = 2)
        have := (by decide : (3 : Int32).toInt = 3)
        have := (by decide : (4 : Int32).toInt = 4)
        have := (by decide : (5 : Int32).toInt = 5)
        have := (by decide : (6 : Int32).toInt = 6)
        have := (by decide : (7 : Int32).toInt = 7)
        have := (by decide : (8 : Int32).toInt = 8)
        have := (by decide : (9 : Int32).toInt = 9)
        have := (by decide : (10 : Int32).toInt = 10)
        have := (by decide : (11 : Int32).toInt = 11)
        refine ⟨by decide, by decide, fun q1 q2 => ?_⟩
        exact Int32.toInt_inj.mp (by omega)
      · -- pc 20: not x0 = (3 : Int32)
        refine Go.s_icmpYes X0 hx (hb hby d4_20) (q := 27) (by decide) (by decide) (feq c20_7).2 ?_
        refine Go.s_iloadN X0 hx (hb hby d4_27) (q := 28) rfl rfl ?_
        refine Go.s_iconst X0 hx (hb hby d4_28) (q := 29) rfl (z := 4) rfl ?_
        by_cases c29_10 : x0 = (4 : Int32)
        · -- pc 29: x0 = (4 : Int32)
          refine Go.s_icmpNo X0 hx (hb hby d4_29) (q := 32) rfl (teq c29_10).2 ?_
          refine Go.s_iconst X0 hx (hb hby d4_32) (q := 33) rfl (z := 4) rfl ?_
          refine Go.newP X0 hx hZ (w_ hw 29 rfl) e0 (hb hby d4_33) (by decide) (cap := 4) (by decide) (by decide) (by decide) (by decide) ?_
          intro T11 h11 b11 k11 g11 X11 e11 E11 V11
          have V11_12 : Arv Z h11 b11 k11 .char (4 : Int32) [(.int (0 : Int32)), (.int (0 : Int32)), (.int (0 : Int32)), (.int (0 : Int32))] (.int (0 : Int32)) := V11.pad (pad_rep [] (.int (0 : Int32)) 4)
          show Go p e below _ T11 (mkF m 35 #[.val (.int x0)] [(.ref b11)])
          refine Go.retA X11 hx hlk hret rfl rfl (hb hby d4_35) (by decide) (by decide) ?_
          try rw [e11]
          refine ⟨_, _, (4 : Int32), rfl, rfl, E11, g11, ?_, CA.new V11⟩
          have := mt Int32.toInt_inj.mp c2_1
          have := mt Int32.toInt_inj.mp c11_4
          have := mt Int32.toInt_inj.mp c20_7
          have := congrArg Int32.toInt c29_10
          have := (by decide : (0 : Int32).toInt = 0)
          have := (by decide : (1 : Int32).toInt = 1)
          have := (by decide : (2 : Int32).toInt = 2)
          have := (by decide : (3 : Int32).toInt = 3)
          have := (by decide : (4 : Int32).toInt = 4)
          have := (by decide : (5 : Int32).toInt = 5)
          have := (by decide : (6 : Int32).toInt = 6)
          have := (by decide : (7 : Int32).toInt = 7)
          have := (by decide : (8 : Int32).toInt = 8)
          have := (by decide : (9 : Int32).toInt = 9)
          have := (by decide : (10 : Int32).toInt = 10)
          have := (by decide : (11 : Int32).toInt = 11)
          refine ⟨by decide, by decide, fun q1 q2 => ?_⟩
          exact Int32.toInt_inj.mp (by omega)
        · -- pc 29: not x0 = (4 : Int32)
          refine Go.s_icmpYes X0 hx (hb hby d4_29) (q := 36) (by decide) (by decide) (feq c29_10).2 ?_
          refine Go.s_iloadN X0 hx (hb hby d4_36) (q := 37) rfl rfl ?_
          refine Go.s_iconst X0 hx (hb hby d4_37) (q := 38) rfl (z := 5) rfl ?_
          by_cases c38_13 : x0 = (5 : Int32)
          · -- pc 38: x0 = (5 : Int32)
            refine Go.s_icmpNo X0 hx (hb hby d4_38) (q := 41) rfl (teq c38_13).2 ?_
            refine Go.s_iconst X0 hx (hb hby d4_41) (q := 42) rfl (z := 5) rfl ?_
            refine Go.newP X0 hx hZ (w_ hw 29 rfl) e0 (hb hby d4_42) (by decide) (cap := 5) (by decide) (by decide) (by decide) (by decide) ?_
            intro T14 h14 b14 k14 g14 X14 e14 E14 V14
            have V14_15 : Arv Z h14 b14 k14 .char (5 : Int32) [(.int (0 : Int32)), (.int (0 : Int32)), (.int (0 : Int32)), (.int (0 : Int32)), (.int (0 : Int32))] (.int (0 : Int32)) := V14.pad (pad_rep [] (.int (0 : Int32)) 5)
            show Go p e below _ T14 (mkF m 44 #[.val (.int x0)] [(.ref b14)])
            refine Go.retA X14 hx hlk hret rfl rfl (hb hby d4_44) (by decide) (by decide) ?_
            try rw [e14]
            refine ⟨_, _, (5 : Int32), rfl, rfl, E14, g14, ?_, CA.new V14⟩
            have := mt Int32.toInt_inj.mp c2_1
            have := mt Int32.toInt_inj.mp c11_4
            have := mt Int32.toInt_inj.mp c20_7
            have := mt Int32.toInt_inj.mp c29_10
            have := congrArg Int32.toInt c38_13
            have := (by decide : (0 : Int32).toInt = 0)
            have := (by decide : (1 : Int32).toInt = 1)
            have := (by decide : (2 : Int32).toInt = 2)
            have := (by decide : (3 : Int32).toInt = 3)
            have := (by decide : (4 : Int32).toInt = 4)
            have := (by decide : (5 : Int32).toInt = 5)
            have := (by decide : (6 : Int32).toInt = 6)
            have := (by decide : (7 : Int32).toInt = 7)
            have := (by decide : (8 : Int32).toInt = 8)
            have := (by decide : (9 : Int32).toInt = 9)
            have := (by decide : (10 : Int32).toInt = 10)
            have := (by decide : (11 : Int32).toInt = 11)
            refine ⟨by decide, by decide, fun q1 q2 => ?_⟩
            exact Int32.toInt_inj.mp (by omega)
          · -- pc 38: not x0 = (5 : Int32)
            refine Go.s_icmpYes X0 hx (hb hby d4_38) (q := 45) (by decide) (by decide) (feq c38_13).2 ?_
            refine Go.s_iloadN X0 hx (hb hby d4_45) (q := 46) rfl rfl ?_
            refine Go.s_bipush X0 hx (hb hby d4_46) (q := 48) rfl (z := 6) rfl ?_
            by_cases c48_16 : x0 = (6 : Int32)
            · -- pc 48: x0 = (6 : Int32)
              refine Go.s_icmpNo X0 hx (hb hby d4_48) (q := 51) rfl (teq c48_16).2 ?_
              refine Go.s_bipush X0 hx (hb hby d4_51) (q := 53) rfl (z := 6) rfl ?_
              refine Go.newP X0 hx hZ (w_ hw 29 rfl) e0 (hb hby d4_53) (by decide) (cap := 6) (by decide) (by decide) (by decide) (by decide) ?_
              intro T17 h17 b17 k17 g17 X17 e17 E17 V17
              have V17_18 : Arv Z h17 b17 k17 .char (6 : Int32) [(.int (0 : Int32)), (.int (0 : Int32)), (.int (0 : Int32)), (.int (0 : Int32)), (.int (0 : Int32)), (.int (0 : Int32))] (.int (0 : Int32)) := V17.pad (pad_rep [] (.int (0 : Int32)) 6)
              show Go p e below _ T17 (mkF m 55 #[.val (.int x0)] [(.ref b17)])
              refine Go.retA X17 hx hlk hret rfl rfl (hb hby d4_55) (by decide) (by decide) ?_
              try rw [e17]
              refine ⟨_, _, (6 : Int32), rfl, rfl, E17, g17, ?_, CA.new V17⟩
              have := mt Int32.toInt_inj.mp c2_1
              have := mt Int32.toInt_inj.mp c11_4
              have := mt Int32.toInt_inj.mp c20_7
              have := mt Int32.toInt_inj.mp c29_10
              have := mt Int32.toInt_inj.mp c38_13
              have := congrArg Int32.toInt c48_16
              have := (by decide : (0 : Int32).toInt = 0)
              have := (by decide : (1 : Int32).toInt = 1)
              have := (by decide : (2 : Int32).toInt = 2)
              have := (by decide : (3 : Int32).toInt = 3)
              have := (by decide : (4 : Int32).toInt = 4)
              have := (by decide : (5 : Int32).toInt = 5)
              have := (by decide : (6 : Int32).toInt = 6)
              have := (by decide : (7 : Int32).toInt = 7)
              have := (by decide : (8 : Int32).toInt = 8)
              have := (by decide : (9 : Int32).toInt = 9)
              have := (by decide : (10 : Int32).toInt = 10)
              have := (by decide : (11 : Int32).toInt = 11)
              refine ⟨by decide, by decide, fun q1 q2 => ?_⟩
              exact Int32.toInt_inj.mp (by omega)
            · -- pc 48: not x0 = (6 : Int32)
              refine Go.s_icmpYes X0 hx (hb hby d4_48) (q := 56) (by decide) (by decide) (feq c48_16).2 ?_
              refine Go.s_iloadN X0 hx (hb hby d4_56) (q := 57) rfl rfl ?_
              refine Go.s_bipush X0 hx (hb hby d4_57) (q := 59) rfl (z := 7) rfl ?_
              by_cases c59_19 : x0 = (7 : Int32)
              · -- pc 59: x0 = (7 : Int32)
                refine Go.s_icmpNo X0 hx (hb hby d4_59) (q := 62) rfl (teq c59_19).2 ?_
                refine Go.s_bipush X0 hx (hb hby d4_62) (q := 64) rfl (z := 7) rfl ?_
                refine Go.newP X0 hx hZ (w_ hw 29 rfl) e0 (hb hby d4_64) (by decide) (cap := 7) (by decide) (by decide) (by decide) (by decide) ?_
                intro T20 h20 b20 k20 g20 X20 e20 E20 V20
                have V20_21 : Arv Z h20 b20 k20 .char (7 : Int32) [(.int (0 : Int32)), (.int (0 : Int32)), (.int (0 : Int32)), (.int (0 : Int32)), (.int (0 : Int32)), (.int (0 : Int32)), (.int (0 : Int32))] (.int (0 : Int32)) := V20.pad (pad_rep [] (.int (0 : Int32)) 7)
                show Go p e below _ T20 (mkF m 66 #[.val (.int x0)] [(.ref b20)])
                refine Go.retA X20 hx hlk hret rfl rfl (hb hby d4_66) (by decide) (by decide) ?_
                try rw [e20]
                refine ⟨_, _, (7 : Int32), rfl, rfl, E20, g20, ?_, CA.new V20⟩
                have := mt Int32.toInt_inj.mp c2_1
                have := mt Int32.toInt_inj.mp c11_4
                have := mt Int32.toInt_inj.mp c20_7
                have := mt Int32.toInt_inj.mp c29_10
                have := mt Int32.toInt_inj.mp c38_13
                have := mt Int32.toInt_inj.mp c48_16
                have := congrArg Int32.toInt c59_19
                have := (by decide : (0 : Int32).toInt = 0)
                have := (by decide : (1 : Int32).toInt = 1)
                have := (by decide : (2 : Int32).toInt = 2)
                have := (by decide : (3 : Int32).toInt = 3)
                have := (by decide : (4 : Int32).toInt = 4)
                have := (by decide : (5 : Int32).toInt = 5)
                have := (by decide : (6 : Int32).toInt = 6)
                have := (by decide : (7 : Int32).toInt = 7)
                have := (by decide : (8 : Int32).toInt = 8)
                have := (by decide : (9 : Int32).toInt = 9)
                have := (by decide : (10 : Int32).toInt = 10)
                have := (by decide : (11 : Int32).toInt = 11)
                refine ⟨by decide, by decide, fun q1 q2 => ?_⟩
                exact Int32.toInt_inj.mp (by omega)
              · -- pc 59: not x0 = (7 : Int32)
                refine Go.s_icmpYes X0 hx (hb hby d4_59) (q := 67) (by decide) (by decide) (feq c59_19).2 ?_
                refine Go.s_iloadN X0 hx (hb hby d4_67) (q := 68) rfl rfl ?_
                refine Go.s_bipush X0 hx (hb hby d4_68) (q := 70) rfl (z := 8) rfl ?_
                by_cases c70_22 : x0 = (8 : Int32)
                · -- pc 70: x0 = (8 : Int32)
                  refine Go.s_icmpNo X0 hx (hb hby d4_70) (q := 73) rfl (teq c70_22).2 ?_
                  refine Go.s_bipush X0 hx (hb hby d4_73) (q := 75) rfl (z := 8) rfl ?_
                  refine Go.newP X0 hx hZ (w_ hw 29 rfl) e0 (hb hby d4_75) (by decide) (cap := 8) (by decide) (by decide) (by decide) (by decide) ?_
                  intro T23 h23 b23 k23 g23 X23 e23 E23 V23
                  have V23_24 : Arv Z h23 b23 k23 .char (8 : Int32) [(.int (0 : Int32)), (.int (0 : Int32)), (.int (0 : Int32)), (.int (0 : Int32)), (.int (0 : Int32)), (.int (0 : Int32)), (.int (0 : Int32)), (.int (0 : Int32))] (.int (0 : Int32)) := V23.pad (pad_rep [] (.int (0 : Int32)) 8)
                  show Go p e below _ T23 (mkF m 77 #[.val (.int x0)] [(.ref b23)])
                  refine Go.retA X23 hx hlk hret rfl rfl (hb hby d4_77) (by decide) (by decide) ?_
                  try rw [e23]
                  refine ⟨_, _, (8 : Int32), rfl, rfl, E23, g23, ?_, CA.new V23⟩
                  have := mt Int32.toInt_inj.mp c2_1
                  have := mt Int32.toInt_inj.mp c11_4
                  have := mt Int32.toInt_inj.mp c20_7
                  have := mt Int32.toInt_inj.mp c29_10
                  have := mt Int32.toInt_inj.mp c38_13
                  have := mt Int32.toInt_inj.mp c48_16
                  have := mt Int32.toInt_inj.mp c59_19
                  have := congrArg Int32.toInt c70_22
                  have := (by decide : (0 : Int32).toInt = 0)
                  have := (by decide : (1 : Int32).toInt = 1)
                  have := (by decide : (2 : Int32).toInt = 2)
                  have := (by decide : (3 : Int32).toInt = 3)
                  have := (by decide : (4 : Int32).toInt = 4)
                  have := (by decide : (5 : Int32).toInt = 5)
                  have := (by decide : (6 : Int32).toInt = 6)
                  have := (by decide : (7 : Int32).toInt = 7)
                  have := (by decide : (8 : Int32).toInt = 8)
                  have := (by decide : (9 : Int32).toInt = 9)
                  have := (by decide : (10 : Int32).toInt = 10)
                  have := (by decide : (11 : Int32).toInt = 11)
                  refine ⟨by decide, by decide, fun q1 q2 => ?_⟩
                  exact Int32.toInt_inj.mp (by omega)
                · -- pc 70: not x0 = (8 : Int32)
                  refine Go.s_icmpYes X0 hx (hb hby d4_70) (q := 78) (by decide) (by decide) (feq c70_22).2 ?_
                  refine Go.s_iloadN X0 hx (hb hby d4_78) (q := 79) rfl rfl ?_
                  refine Go.s_bipush X0 hx (hb hby d4_79) (q := 81) rfl (z := 9) rfl ?_
                  by_cases c81_25 : x0 = (9 : Int32)
                  · -- pc 81: x0 = (9 : Int32)
                    refine Go.s_icmpNo X0 hx (hb hby d4_81) (q := 84) rfl (teq c81_25).2 ?_
                    refine Go.s_bipush X0 hx (hb hby d4_84) (q := 86) rfl (z := 9) rfl ?_
                    refine Go.newP X0 hx hZ (w_ hw 29 rfl) e0 (hb hby d4_86) (by decide) (cap := 9) (by decide) (by decide) (by decide) (by decide) ?_
                    intro T26 h26 b26 k26 g26 X26 e26 E26 V26
                    have V26_27 : Arv Z h26 b26 k26 .char (9 : Int32) [(.int (0 : Int32)), (.int (0 : Int32)), (.int (0 : Int32)), (.int (0 : Int32)), (.int (0 : Int32)), (.int (0 : Int32)), (.int (0 : Int32)), (.int (0 : Int32)), (.int (0 : Int32))] (.int (0 : Int32)) := V26.pad (pad_rep [] (.int (0 : Int32)) 9)
                    show Go p e below _ T26 (mkF m 88 #[.val (.int x0)] [(.ref b26)])
                    refine Go.retA X26 hx hlk hret rfl rfl (hb hby d4_88) (by decide) (by decide) ?_
                    try rw [e26]
                    refine ⟨_, _, (9 : Int32), rfl, rfl, E26, g26, ?_, CA.new V26⟩
                    have := mt Int32.toInt_inj.mp c2_1
                    have := mt Int32.toInt_inj.mp c11_4
                    have := mt Int32.toInt_inj.mp c20_7
                    have := mt Int32.toInt_inj.mp c29_10
                    have := mt Int32.toInt_inj.mp c38_13
                    have := mt Int32.toInt_inj.mp c48_16
                    have := mt Int32.toInt_inj.mp c59_19
                    have := mt Int32.toInt_inj.mp c70_22
                    have := congrArg Int32.toInt c81_25
                    have := (by decide : (0 : Int32).toInt = 0)
                    have := (by decide : (1 : Int32).toInt = 1)
                    have := (by decide : (2 : Int32).toInt = 2)
                    have := (by decide : (3 : Int32).toInt = 3)
                    have := (by decide : (4 : Int32).toInt = 4)
                    have := (by decide : (5 : Int32).toInt = 5)
                    have := (by decide : (6 : Int32).toInt = 6)
                    have := (by decide : (7 : Int32).toInt = 7)
                    have := (by decide : (8 : Int32).toInt = 8)
                    have := (by decide : (9 : Int32).toInt = 9)
                    have := (by decide : (10 : Int32).toInt = 10)
                    have := (by decide : (11 : Int32).toInt = 11)
                    refine ⟨by decide, by decide, fun q1 q2 => ?_⟩
                    exact Int32.toInt_inj.mp (by omega)
                  · -- pc 81: not x0 = (9 : Int32)
                    refine Go.s_icmpYes X0 hx (hb hby d4_81) (q := 89) (by decide) (by decide) (feq c81_25).2 ?_
                    refine Go.s_iloadN X0 hx (hb hby d4_89) (q := 90) rfl rfl ?_
                    refine Go.s_bipush X0 hx (hb hby d4_90) (q := 92) rfl (z := 10) rfl ?_
                    by_cases c92_28 : x0 = (10 : Int32)
                    · -- pc 92: x0 = (10 : Int32)
                      refine Go.s_icmpNo X0 hx (hb hby d4_92) (q := 95) rfl (teq c92_28).2 ?_
                      refine Go.s_bipush X0 hx (hb hby d4_95) (q := 97) rfl (z := 10) rfl ?_
                      refine Go.newP X0 hx hZ (w_ hw 29 rfl) e0 (hb hby d4_97) (by decide) (cap := 10) (by decide) (by decide) (by decide) (by decide) ?_
                      intro T29 h29 b29 k29 g29 X29 e29 E29 V29
                      have V29_30 : Arv Z h29 b29 k29 .char (10 : Int32) [(.int (0 : Int32)), (.int (0 : Int32)), (.int (0 : Int32)), (.int (0 : Int32)), (.int (0 : Int32)), (.int (0 : Int32)), (.int (0 : Int32)), (.int (0 : Int32)), (.int (0 : Int32)), (.int (0 : Int32))] (.int (0 : Int32)) := V29.pad (pad_rep [] (.int (0 : Int32)) 10)
                      show Go p e below _ T29 (mkF m 99 #[.val (.int x0)] [(.ref b29)])
                      refine Go.retA X29 hx hlk hret rfl rfl (hb hby d4_99) (by decide) (by decide) ?_
                      try rw [e29]
                      refine ⟨_, _, (10 : Int32), rfl, rfl, E29, g29, ?_, CA.new V29⟩
                      have := mt Int32.toInt_inj.mp c2_1
                      have := mt Int32.toInt_inj.mp c11_4
                      have := mt Int32.toInt_inj.mp c20_7
                      have := mt Int32.toInt_inj.mp c29_10
                      have := mt Int32.toInt_inj.mp c38_13
                      have := mt Int32.toInt_inj.mp c48_16
                      have := mt Int32.toInt_inj.mp c59_19
                      have := mt Int32.toInt_inj.mp c70_22
                      have := mt Int32.toInt_inj.mp c81_25
                      have := congrArg Int32.toInt c92_28
                      have := (by decide : (0 : Int32).toInt = 0)
                      have := (by decide : (1 : Int32).toInt = 1)
                      have := (by decide : (2 : Int32).toInt = 2)
                      have := (by decide : (3 : Int32).toInt = 3)
                      have := (by decide : (4 : Int32).toInt = 4)
                      have := (by decide : (5 : Int32).toInt = 5)
                      have := (by decide : (6 : Int32).toInt = 6)
                      have := (by decide : (7 : Int32).toInt = 7)
                      have := (by decide : (8 : Int32).toInt = 8)
                      have := (by decide : (9 : Int32).toInt = 9)
                      have := (by decide : (10 : Int32).toInt = 10)
                      have := (by decide : (11 : Int32).toInt = 11)
                      refine ⟨by decide, by decide, fun q1 q2 => ?_⟩
                      exact Int32.toInt_inj.mp (by omega)
                    · -- pc 92: not x0 = (10 : Int32)
                      refine Go.s_icmpYes X0 hx (hb hby d4_92) (q := 100) (by decide) (by decide) (feq c92_28).2 ?_
                      refine Go.s_iloadN X0 hx (hb hby d4_100) (q := 101) rfl rfl ?_
                      refine Go.s_bipush X0 hx (hb hby d4_101) (q := 103) rfl (z := 11) rfl ?_
                      by_cases c103_31 : x0 = (11 : Int32)
                      · -- pc 103: x0 = (11 : Int32)
                        refine Go.s_icmpNo X0 hx (hb hby d4_103) (q := 106) rfl (teq c103_31).2 ?_
                        refine Go.s_bipush X0 hx (hb hby d4_106) (q := 108) rfl (z := 11) rfl ?_
                        refine Go.newP X0 hx hZ (w_ hw 29 rfl) e0 (hb hby d4_108) (by decide) (cap := 11) (by decide) (by decide) (by decide) (by decide) ?_
                        intro T32 h32 b32 k32 g32 X32 e32 E32 V32
                        have V32_33 : Arv Z h32 b32 k32 .char (11 : Int32) [(.int (0 : Int32)), (.int (0 : Int32)), (.int (0 : Int32)), (.int (0 : Int32)), (.int (0 : Int32)), (.int (0 : Int32)), (.int (0 : Int32)), (.int (0 : Int32)), (.int (0 : Int32)), (.int (0 : Int32)), (.int (0 : Int32))] (.int (0 : Int32)) := V32.pad (pad_rep [] (.int (0 : Int32)) 11)
                        show Go p e below _ T32 (mkF m 110 #[.val (.int x0)] [(.ref b32)])
                        refine Go.retA X32 hx hlk hret rfl rfl (hb hby d4_110) (by decide) (by decide) ?_
                        try rw [e32]
                        refine ⟨_, _, (11 : Int32), rfl, rfl, E32, g32, ?_, CA.new V32⟩
                        have := mt Int32.toInt_inj.mp c2_1
                        have := mt Int32.toInt_inj.mp c11_4
                        have := mt Int32.toInt_inj.mp c20_7
                        have := mt Int32.toInt_inj.mp c29_10
                        have := mt Int32.toInt_inj.mp c38_13
                        have := mt Int32.toInt_inj.mp c48_16
                        have := mt Int32.toInt_inj.mp c59_19
                        have := mt Int32.toInt_inj.mp c70_22
                        have := mt Int32.toInt_inj.mp c81_25
                        have := mt Int32.toInt_inj.mp c92_28
                        have := congrArg Int32.toInt c103_31
                        have := (by decide : (0 : Int32).toInt = 0)
                        have := (by decide : (1 : Int32).toInt = 1)
                        have := (by decide : (2 : Int32).toInt = 2)
                        have := (by decide : (3 : Int32).toInt = 3)
                        have := (by decide : (4 : Int32).toInt = 4)
                        have := (by decide : (5 : Int32).toInt = 5)
                        have := (by decide : (6 : Int32).toInt = 6)
                        have := (by decide : (7 : Int32).toInt = 7)
                        have := (by decide : (8 : Int32).toInt = 8)
                        have := (by decide : (9 : Int32).toInt = 9)
                        have := (by decide : (10 : Int32).toInt = 10)
                        have := (by decide : (11 : Int32).toInt = 11)
                        refine ⟨by decide, by decide, fun q1 q2 => ?_⟩
                        exact Int32.toInt_inj.mp (by omega)
                      · -- pc 103: not x0 = (11 : Int32)
                        refine Go.s_icmpYes X0 hx (hb hby d4_103) (q := 111) (by decide) (by decide) (feq c103_31).2 ?_
                        refine Go.s_iconst X0 hx (hb hby d4_111) (q := 112) rfl (z := 0) rfl ?_
                        refine Go.newP X0 hx hZ (w_ hw 29 rfl) e0 (hb hby d4_112) (by decide) (cap := 0) (by decide) (by decide) (by decide) (by decide) ?_
                        intro T34 h34 b34 k34 g34 X34 e34 E34 V34
                        have V34_35 : Arv Z h34 b34 k34 .char (0 : Int32) [] (.int (0 : Int32)) := V34.pad (pad_rep [] (.int (0 : Int32)) 0)
                        show Go p e below _ T34 (mkF m 114 #[.val (.int x0)] [(.ref b34)])
                        refine Go.retA X34 hx hlk hret rfl rfl (hb hby d4_114) (by decide) (by decide) ?_
                        try rw [e34]
                        refine ⟨_, _, (0 : Int32), rfl, rfl, E34, g34, ?_, CA.new V34⟩
                        have := mt Int32.toInt_inj.mp c2_1
                        have := mt Int32.toInt_inj.mp c11_4
                        have := mt Int32.toInt_inj.mp c20_7
                        have := mt Int32.toInt_inj.mp c29_10
                        have := mt Int32.toInt_inj.mp c38_13
                        have := mt Int32.toInt_inj.mp c48_16
                        have := mt Int32.toInt_inj.mp c59_19
                        have := mt Int32.toInt_inj.mp c70_22
                        have := mt Int32.toInt_inj.mp c81_25
                        have := mt Int32.toInt_inj.mp c92_28
                        have := mt Int32.toInt_inj.mp c103_31
                        have := (by decide : (0 : Int32).toInt = 0)
                        have := (by decide : (1 : Int32).toInt = 1)
                        have := (by decide : (2 : Int32).toInt = 2)
                        have := (by decide : (3 : Int32).toInt = 3)
                        have := (by decide : (4 : Int32).toInt = 4)
                        have := (by decide : (5 : Int32).toInt = 5)
                        have := (by decide : (6 : Int32).toInt = 6)
                        have := (by decide : (7 : Int32).toInt = 7)
                        have := (by decide : (8 : Int32).toInt = 8)
                        have := (by decide : (9 : Int32).toInt = 9)
                        have := (by decide : (10 : Int32).toInt = 10)
                        have := (by decide : (11 : Int32).toInt = 11)
                        refine ⟨by decide, by decide, fun q1 q2 => ?_⟩
                        exact Int32.toInt_inj.mp (by omega)
theorem ef_put (m : MethodId) (x0 : Addr) (x1 : Int32) (x2 : Int32) : entryFrame m #[(.ref x0), (.int x1), (.int x2)] 3 = mkF m 0 #[.val (.ref x0), .val (.int x1), .val (.int x2)] [] := by first | (simp [entryFrame, mkF, argsToLocals, Value.category]; done) | rfl
set_option maxRecDepth 65536 in
set_option maxHeartbeats 40000000 in
theorem rm_put (l : Launch) (Z : State) (a0 : Array Value) (hw : ∀ d ∈ tables_1, d.before a0 Z = true) (a : Addr) (x1 : Int32) (x2 : Int32) (h0 : Heap) (n0 : Nat) (g_a : n0 ≤ a) (kc : ClassId) (z : Int32) (A_a : CA Z h0 a kc z) (hi : ¬ x1 < 0) (hc : ch1 x2) :
    Ct l mn_11 method_6_code 3 none ({ frames := 0, cells := 0, slots := 0, locals := 0 } : Room) Z h0 #[(.ref a), (.int x1), (.int x2)] (fun v h L => v = none ∧ Fr n0 L ∧ Keep h0 h [a] ∧ CA Z h a kc z) := by
  refine Ct.body (plainFor_of_name pn_com_example_tollbook_tollbook_book_AdjustmentReasonOfPinLaw) ?_
  intro p e s m below meth c T0 hx hby hml hown hnm hret hlk hZ X0 e0
  refine Go.cast (ef_put m a x1 x2) ?_
  show Go p e below _ T0 (mkF m 0 #[.val (.ref a), .val (.int x1), .val (.int x2)] [])
  refine Go.s_iloadN X0 hx (hb hby d11_0) (q := 1) rfl rfl ?_
  refine Go.s_aloadN X0 hx (hb hby d11_1) (q := 2) rfl rfl rfl ?_
  obtain ⟨as, hl1, hl2, V_a⟩ := id A_a
  refine Go.len X0 hx hZ e0 V_a (hb hby d11_2) ?_
  show Go p e below _ T0 (mkF m 3 #[.val (.ref a), .val (.int x1), .val (.int x2)] [(.int z), (.int x1)])
  by_cases c3_1 : x1 < z
  · -- pc 3: x1 < z
    refine Go.s_icmpNo X0 hx (hb hby d11_3) (q := 6) rfl (tlt c3_1).2.1 ?_
    refine Go.s_aloadN X0 hx (hb hby d11_6) (q := 7) rfl rfl rfl ?_
    refine Go.s_iloadN X0 hx (hb hby d11_7) (q := 8) rfl rfl ?_
    refine Go.s_iloadN X0 hx (hb hby d11_8) (q := 9) rfl rfl ?_
    refine Go.stCA X0 hx hZ e0 A_a ⟨hi, c3_1⟩ hc (hb hby d11_9) ?_
    intro T1 h1 X1 e1 W1 A1
    have N1 := Fr.snoc X1 (Fr.nil n0) g_a
    show Go p e below _ T1 (mkF m 10 #[.val (.ref a), .val (.int x1), .val (.int x2)] [])
    refine Go.retV X1 hx hlk hret (hb hby d11_10) (by decide) (by decide) ?_
    try rw [e1]
    exact ⟨rfl, N1, Keep.of_wr W1, A1⟩
  · -- pc 3: not x1 < z
    refine Go.s_icmpYes X0 hx (hb hby d11_3) (q := 10) (by decide) (by decide) (flt c3_1).2.1 ?_
    refine Go.retV X0 hx hlk hret (hb hby d11_10) (by decide) (by decide) ?_
    try rw [e0]
    exact ⟨rfl, Fr.nil _, Keep.refl _ _, A_a⟩
theorem ef_src (m : MethodId) (x0 : Addr) (x1 : Int32) (x2 : Int32) : entryFrame m #[(.ref x0), (.int x1), (.int x2)] 3 = mkF m 0 #[.val (.ref x0), .val (.int x1), .val (.int x2)] [] := by first | (simp [entryFrame, mkF, argsToLocals, Value.category]; done) | rfl
set_option maxRecDepth 65536 in
set_option maxHeartbeats 40000000 in
theorem rm_src (l : Launch) (Z : State) (a0 : Array Value) (hw : ∀ d ∈ tables_1, d.before a0 Z = true) (a : Addr) (x1 : Int32) (x2 : Int32) (h0 : Heap) (k : Nat) (cs : List Int32) (S_a : Str Z h0 k a cs) (zc : Int32) (CS : Sta Z h0 "java/lang/String" "COMPACT_STRINGS" "Z" (.int zc)) (hzc : ¬ zc = 0) (fm : Value) (SF : Sta Z h0 "jdk/internal/util/Preconditions" "SIOOBE_FORMATTER" "Ljava/util/function/BiFunction;" fm) (rf : fm.isRef = true) (hi : ¬ x1 < 0) (hc : ch1 x2) :
    Ct l mn_5 method_5_code 3 (some .char) ({ frames := 4, cells := 0, slots := 0, locals := 56 } : Room) Z h0 #[(.ref a), (.int x1), (.int x2)] (fun v h L => ∃ r, v = some (.int r) ∧ ch1 r ∧ L = [] ∧ h = h0) := by
  refine Ct.body (plainFor_of_name pn_com_example_tollbook_tollbook_book_AdjustmentReasonOfPinLaw) ?_
  intro p e s m below meth c T0 hx hby hml hown hnm hret hlk hZ X0 e0
  refine Go.cast (ef_src m a x1 x2) ?_
  show Go p e below _ T0 (mkF m 0 #[.val (.ref a), .val (.int x1), .val (.int x2)] [])
  refine Go.s_iloadN X0 hx (hb hby d5_0) (q := 1) rfl rfl ?_
  refine Go.s_aloadN X0 hx (hb hby d5_1) (q := 2) rfl rfl rfl ?_
  refine Go.strLen X0 hx hZ hown (w_ hw 12 rfl) (w_ hw 13 rfl) (w_ hw 15 rfl) (w_ hw 14 rfl) (w_len hw) (w_ hw 6 rfl) e0 S_a CS hzc (by rw [hml]; rfl) (hb hby d5_2) (by first | decide | exact Nat.le_of_ble_eq_true rfl) (by first | decide | exact Nat.le_of_ble_eq_true rfl) (by first | decide | exact Nat.le_of_ble_eq_true rfl) (by first | decide | exact Nat.le_of_ble_eq_true rfl) ?_
  intro T1 X1 e1
  show Go p e below _ T1 (mkF m 5 #[.val (.ref a), .val (.int x1), .val (.int x2)] [(.int (Int32.ofNat cs.length)), (.int x1)])
  by_cases c5_2 : x1 < (Int32.ofNat cs.length)
  · -- pc 5: x1 < (Int32.ofNat cs.length)
    refine Go.s_icmpNo X1 hx (hb hby d5_5) (q := 8) rfl (tlt c5_2).2.1 ?_
    refine Go.s_aloadN X1 hx (hb hby d5_8) (q := 9) rfl rfl rfl ?_
    refine Go.s_iloadN X1 hx (hb hby d5_9) (q := 10) rfl rfl ?_
    refine Go.strAt X1 hx hZ hown (w_ hw 33 rfl) (w_ hw 34 rfl) (w_ hw 36 rfl) (w_ hw 35 rfl) (w_at hw) (w_ hw 6 rfl) e1 S_a CS hzc SF rf hi c5_2 (by rw [hml]; rfl) (hb hby d5_10) (by first | decide | exact Nat.le_of_ble_eq_true rfl) (by first | decide | exact Nat.le_of_ble_eq_true rfl) (by first | decide | exact Nat.le_of_ble_eq_true rfl) (by first | decide | exact Nat.le_of_ble_eq_true rfl) ?_
    intro T3 y3 p3 X3 e3
    show Go p e below _ T3 (mkF m 13 #[.val (.ref a), .val (.int x1), .val (.int x2)] [(.int y3)])
    refine Go.s_goto X3 hx (hb hby d5_13) (q := 17) (by decide) (by decide) ?_
    refine Go.retN X3 hx hlk hret (by simp) (hb hby d5_17) (by decide) (by decide) ?_
    try rw [e3]
    exact ⟨_, rfl, (by rw [nar_ch p3]; exact p3), rfl, rfl⟩
  · -- pc 5: not x1 < (Int32.ofNat cs.length)
    refine Go.s_icmpYes X1 hx (hb hby d5_5) (q := 16) (by decide) (by decide) (flt c5_2).2.1 ?_
    refine Go.s_iloadN X1 hx (hb hby d5_16) (q := 17) rfl rfl ?_
    refine Go.retN X1 hx hlk hret (by simp) (hb hby d5_17) (by decide) (by decide) ?_
    try rw [e1]
    exact ⟨_, rfl, (by rw [nar_ch hc]; exact hc), rfl, rfl⟩
theorem ef_val (m : MethodId)  : entryFrame m #[] 0 = mkF m 0 #[] [] := by first | (simp [entryFrame, mkF, argsToLocals, Value.category]; done) | rfl
set_option maxRecDepth 65536 in
set_option maxHeartbeats 40000000 in
theorem rm_val (l : Launch) (Z : State) (a0 : Array Value) (hw : ∀ d ∈ tables_1, d.before a0 Z = true)  (h0 : Heap) (av r0 r1 r2 r3 : Addr) (kc : ClassId) (S_VALUES : Sta Z h0 "com/example/tollbook/tollbook/book/AdjustmentReason" "$VALUES" "[Lcom/example/tollbook/tollbook/book/AdjustmentReason;" (.ref av)) (V_av : Arv Z h0 av kc (.object "com/example/tollbook/tollbook/book/AdjustmentReason") (4 : Int32) [(.ref r0), (.ref r1), (.ref r2), (.ref r3)] .null) (E_av : Exa Z h0 av "[Lcom/example/tollbook/tollbook/book/AdjustmentReason;") :
    Ct l mn_19 prog_10_method_1_code 0 (some (.array (.object "com/example/tollbook/tollbook/book/AdjustmentReason"))) ({ frames := 1, cells := 1, slots := 4, locals := 14 } : Room) Z h0 #[] (fun v h L => ∃ r kc, v = some (.ref r) ∧ L = [] ∧ Ext h0 h ∧ Arv Z h r kc (.object "com/example/tollbook/tollbook/book/AdjustmentReason") (4 : Int32) [(.ref r0), (.ref r1), (.ref r2), (.ref r3)] .null) := by
  refine Ct.body (plainFor_of_name pn_com_example_tollbook_tollbook_book_AdjustmentReason) ?_
  intro p e s m below meth c T0 hx hby hml hown hnm hret hlk hZ X0 e0
  refine Go.cast (ef_val m ) ?_
  show Go p e below _ T0 (mkF m 0 #[] [])
  refine Go.getS X0 hx hZ hown (w_ hw 86 rfl) Via.refl e0 S_VALUES (hb hby d19_0) ?_
  intro T1 X1 e1
  obtain ⟨T8, h8, X8, e8, E8, V8, D8, st8⟩ := cloneH X1 hx hZ hown (w_ hw 88 rfl) (w_ hw 89 rfl) (w_ hw 93 rfl) (w_ hw 91 rfl) (w_ hw 92 rfl) (w_ hw 94 rfl) e1 (Arv.arh V_av) E_av (g := (mkF m 3 #[] [(.ref av)])) rfl (by rw [hml]; rfl) (rest := []) rfl (hb hby d19_3) (by decide) (W := 0) (cap := 4) (Nat.le_of_ble_eq_true rfl) (by decide) (by decide) (by decide) (by decide)
  refine Go.of st8 ?_
  obtain ⟨T9, X9, e9, st9⟩ := castY X8 hx hZ hown (w_ hw 100 rfl) e8 (Ins.self D8) (g := (mkF m 6 #[] [(.ref h0.size)])) rfl (rest := []) rfl (hb hby d19_6)
  refine Go.of st9 ?_
  show Go p e below _ T9 (mkF m 9 #[] [(.ref h0.size)])
  refine Go.retA X9 hx hlk hret rfl rfl (hb hby d19_9) (by decide) (by decide) ?_
  try rw [e9]
  exact ⟨_, _, rfl, rfl, E8, V8⟩
theorem ef_of (m : MethodId) (x0 : Addr) : entryFrame m #[(.ref x0)] 5 = mkF m 0 #[.val (.ref x0), .unset, .unset, .unset, .unset] [] := by first | (simp [entryFrame, mkF, argsToLocals, Value.category]; done) | rfl
set_option maxRecDepth 65536 in
set_option maxHeartbeats 40000000 in
theorem rm_of (l : Launch) (Z : State) (a0 : Array Value) (hw : ∀ d ∈ tables_1, d.before a0 Z = true) (a : Addr) (h0 : Heap) (k kw : Nat) (ds : List Int32) (S_a : Str Z h0 k a ds) (zc : Int32) (CS : Sta Z h0 "java/lang/String" "COMPACT_STRINGS" "Z" (.int zc)) (hzc : ¬ zc = 0) (av r0 r1 r2 r3 : Addr) (kc : ClassId) (S_VALUES : Sta Z h0 "com/example/tollbook/tollbook/book/AdjustmentReason" "$VALUES" "[Lcom/example/tollbook/tollbook/book/AdjustmentReason;" (.ref av)) (V_av : Arv Z h0 av kc (.object "com/example/tollbook/tollbook/book/AdjustmentReason") (4 : Int32) [(.ref r0), (.ref r1), (.ref r2), (.ref r3)] .null) (E_av : Exa Z h0 av "[Lcom/example/tollbook/tollbook/book/AdjustmentReason;") (w0 w1 w2 w3 : Addr) (FW0 : Fld Z h0 r0 "com/example/tollbook/tollbook/book/AdjustmentReason" "wireName" "Ljava/lang/String;" (.ref w0)) (SW0 : Str Z h0 kw w0 tx0) (FW1 : Fld Z h0 r1 "com/example/tollbook/tollbook/book/AdjustmentReason" "wireName" "Ljava/lang/String;" (.ref w1)) (SW1 : Str Z h0 kw w1 tx1) (FW2 : Fld Z h0 r2 "com/example/tollbook/tollbook/book/AdjustmentReason" "wireName" "Ljava/lang/String;" (.ref w2)) (SW2 : Str Z h0 kw w2 tx2) (FW3 : Fld Z h0 r3 "com/example/tollbook/tollbook/book/AdjustmentReason" "wireName" "Ljava/lang/String;" (.ref w3)) (SW3 : Str Z h0 kw w3 tx3) :
    Ct l mn_18 prog_10_method_4_code 5 (some (.object "com/example/tollbook/tollbook/book/AdjustmentReason")) ({ frames := 2, cells := 1, slots := 4, locals := 40 } : Room) Z h0 #[(.ref a)] (fun v h L => v = some (pick r0 r1 r2 r3 ds) ∧ L = [] ∧ Ext h0 h) := by
  refine Ct.body (plainFor_of_name pn_com_example_tollbook_tollbook_book_AdjustmentReason) ?_
  intro p e s m below meth c T0 hx hby hml hown hnm hret hlk hZ X0 e0
  refine Go.cast (ef_of m a) ?_
  show Go p e below _ T0 (mkF m 0 #[.val (.ref a), .unset, .unset, .unset, .unset] [])
  refine Go.callS (y := mn_19) X0 hx hZ hown (w_ hw 83 rfl) (w_ hw 84 rfl) (w_ hw 81 rfl) (w_ hw 85 rfl) (by decide) e0 (argsL := []) (rest := []) (rm_val l Z a0 hw _ av r0 r1 r2 r3 kc S_VALUES V_av E_av) (by rw [hml]; rfl) (lenOf pd_5 rfl) rfl (hb hby d18_0) (by decide) (by decide) (by decide) (by decide) ?_
  intro r1 T1 L1 q1 X1
  obtain ⟨r1a, k1a, rfl, rfl, E1, V1⟩ := q1
  rw [List.append_nil] at X1
  have CS_v2 := CS.ext E1
  have FW0_v3 := FW0.ext E1
  have SW0_v4 := SW0.ext E1
  have FW1_v5 := FW1.ext E1
  have SW1_v6 := SW1.ext E1
  have FW2_v7 := FW2.ext E1
  have SW2_v8 := SW2.ext E1
  have FW3_v9 := FW3.ext E1
  have SW3_v10 := SW3.ext E1
  have S_a_v11 := S_a.ext E1
  show Go p e below _ T1 (mkF m 3 #[.val (.ref a), .unset, .unset, .unset, .unset] [(.ref r1a)])
  refine Go.s_astoreN X1 hx (hb hby d18_3) (q := 4) rfl rfl (l' := #[.val (.ref a), .val (.ref r1a), .unset, .unset, .unset]) rfl ?_
  refine Go.s_aloadN X1 hx (hb hby d18_4) (q := 5) rfl rfl rfl ?_
  refine Go.len X1 hx hZ rfl V1 (hb hby d18_5) ?_
  show Go p e below _ T1 (mkF m 6 #[.val (.ref a), .val (.ref r1a), .unset, .unset, .unset] [(.int (4 : Int32))])
  refine Go.s_istoreN X1 hx (hb hby d18_6) (q := 7) rfl (l' := #[.val (.ref a), .val (.ref r1a), .val (.int (4 : Int32)), .unset, .unset]) rfl ?_
  refine Go.s_iconst X1 hx (hb hby d18_7) (q := 8) rfl (z := 0) rfl ?_
  refine Go.s_istoreN X1 hx (hb hby d18_8) (q := 9) rfl (l' := #[.val (.ref a), .val (.ref r1a), .val (.int (4 : Int32)), .val (.int (0 : Int32)), .unset]) rfl ?_
  refine Go.s_iloadN X1 hx (hb hby d18_9) (q := 10) rfl rfl ?_
  refine Go.s_iloadN X1 hx (hb hby d18_10) (q := 11) rfl rfl ?_
  refine Go.s_icmpNo X1 hx (hb hby d18_11) (q := 14) rfl (tlt (by decide : (0 : Int32) < (4 : Int32))).2.1 ?_
  refine Go.s_aloadN X1 hx (hb hby d18_14) (q := 15) rfl rfl rfl ?_
  refine Go.s_iloadN X1 hx (hb hby d18_15) (q := 16) rfl rfl ?_
  refine Go.ldR X1 hx hZ rfl V1 ⟨by decide, by decide⟩ (w := (.ref r0)) rfl (hb hby d18_16) ?_
  show Go p e below _ T1 (mkF m 17 #[.val (.ref a), .val (.ref r1a), .val (.int (4 : Int32)), .val (.int (0 : Int32)), .unset] [(.ref r0)])
  refine Go.s_astore X1 hx (hb hby d18_17) (q := 19) rfl rfl (l' := #[.val (.ref a), .val (.ref r1a), .val (.int (4 : Int32)), .val (.int (0 : Int32)), .val (.ref r0)]) rfl ?_
  refine Go.s_aload X1 hx (hb hby d18_19) (q := 21) rfl rfl rfl ?_
  refine Go.getF X1 hx hZ hown (w_ hw 102 rfl) Via.refl rfl FW0_v3 (hb hby d18_21) ?_
  intro T12 X12 e12
  show Go p e below _ T12 (mkF m 24 #[.val (.ref a), .val (.ref r1a), .val (.int (4 : Int32)), .val (.int (0 : Int32)), .val (.ref r0)] [(.ref w0)])
  refine Go.s_aloadN X12 hx (hb hby d18_24) (q := 25) rfl rfl rfl ?_
  refine Go.strEq X12 hx hZ hown (w_ hw 104 rfl) (w_ hw 105 rfl) (w_ hw 107 rfl) (w_ hw 106 rfl) (w_eq hw) (w_ hw 6 rfl) e12 SW0_v4 S_a_v11 CS_v2 hzc (by rw [hml]; rfl) (hb hby d18_25) (by first | decide | exact Nat.le_of_ble_eq_true rfl) (by first | decide | exact Nat.le_of_ble_eq_true rfl) (by first | decide | exact Nat.le_of_ble_eq_true rfl) (by first | decide | exact Nat.le_of_ble_eq_true rfl) ?_ ?_
  · intro T13 u13 X13 e13
    show Go p e below _ T13 (mkF m 28 #[.val (.ref a), .val (.ref r1a), .val (.int (4 : Int32)), .val (.int (0 : Int32)), .val (.ref r0)] [(.int (1 : Int32))])
    refine Go.s_ifNo X13 hx (hb hby d18_28) (q := 31) rfl ((if0 _ _).trans (feq (by decide : ¬ ((1 : Int32) = (0 : Int32)))).1) ?_
    refine Go.s_aload X13 hx (hb hby d18_31) (q := 33) rfl rfl rfl ?_
    refine Go.retA X13 hx hlk hret rfl rfl (hb hby d18_33) (by decide) (by decide) ?_
    try rw [e13]
    exact ⟨(congrArg some (if_pos u13.symm)).symm, rfl, E1⟩
  · intro T13 u13 X13 e13
    show Go p e below _ T13 (mkF m 28 #[.val (.ref a), .val (.ref r1a), .val (.int (4 : Int32)), .val (.int (0 : Int32)), .val (.ref r0)] [(.int (0 : Int32))])
    refine Go.s_ifYes X13 hx (hb hby d18_28) (q := 34) (by decide) (by decide) ((if0 _ _).trans (teq (by decide : (0 : Int32) = (0 : Int32))).1) ?_
    refine Go.s_iinc X13 hx (hb hby d18_34) (q := 37) rfl rfl (l' := #[.val (.ref a), .val (.ref r1a), .val (.int (4 : Int32)), .val (.int ((0 : Int32) + (1 : Int32))), .val (.ref r0)]) rfl ?_
    rw [(by decide : ((0 : Int32) + (1 : Int32)) = (1 : Int32))]
    refine Go.s_goto X13 hx (hb hby d18_37) (q := 9) (by decide) (by decide) ?_
    refine Go.s_iloadN X13 hx (hb hby d18_9) (q := 10) rfl rfl ?_
    refine Go.s_iloadN X13 hx (hb hby d18_10) (q := 11) rfl rfl ?_
    refine Go.s_icmpNo X13 hx (hb hby d18_11) (q := 14) rfl (tlt (by decide : (1 : Int32) < (4 : Int32))).2.1 ?_
    refine Go.s_aloadN X13 hx (hb hby d18_14) (q := 15) rfl rfl rfl ?_
    refine Go.s_iloadN X13 hx (hb hby d18_15) (q := 16) rfl rfl ?_
    refine Go.ldR X13 hx hZ e13 V1 ⟨by decide, by decide⟩ (w := (.ref r1)) rfl (hb hby d18_16) ?_
    show Go p e below _ T13 (mkF m 17 #[.val (.ref a), .val (.ref r1a), .val (.int (4 : Int32)), .val (.int (1 : Int32)), .val (.ref r0)] [(.ref r1)])
    refine Go.s_astore X13 hx (hb hby d18_17) (q := 19) rfl rfl (l' := #[.val (.ref a), .val (.ref r1a), .val (.int (4 : Int32)), .val (.int (1 : Int32)), .val (.ref r1)]) rfl ?_
    refine Go.s_aload X13 hx (hb hby d18_19) (q := 21) rfl rfl rfl ?_
    refine Go.getF X13 hx hZ hown (w_ hw 102 rfl) Via.refl e13 FW1_v5 (hb hby d18_21) ?_
    intro T14 X14 e14
    show Go p e below _ T14 (mkF m 24 #[.val (.ref a), .val (.ref r1a), .val (.int (4 : Int32)), .val (.int (1 : Int32)), .val (.ref r1)] [(.ref w1)])
    refine Go.s_aloadN X14 hx (hb hby d18_24) (q := 25) rfl rfl rfl ?_
    refine Go.strEq X14 hx hZ hown (w_ hw 104 rfl) (w_ hw 105 rfl) (w_ hw 107 rfl) (w_ hw 106 rfl) (w_eq hw) (w_ hw 6 rfl) e14 SW1_v6 S_a_v11 CS_v2 hzc (by rw [hml]; rfl) (hb hby d18_25) (by first | decide | exact Nat.le_of_ble_eq_true rfl) (by first | decide | exact Nat.le_of_ble_eq_true rfl) (by first | decide | exact Nat.le_of_ble_eq_true rfl) (by first | decide | exact Nat.le_of_ble_eq_true rfl) ?_ ?_
    · intro T15 u15 X15 e15
      show Go p e below _ T15 (mkF m 28 #[.val (.ref a), .val (.ref r1a), .val (.int (4 : Int32)), .val (.int (1 : Int32)), .val (.ref r1)] [(.int (1 : Int32))])
      refine Go.s_ifNo X15 hx (hb hby d18_28) (q := 31) rfl ((if0 _ _).trans (feq (by decide : ¬ ((1 : Int32) = (0 : Int32)))).1) ?_
      refine Go.s_aload X15 hx (hb hby d18_31) (q := 33) rfl rfl rfl ?_
      refine Go.retA X15 hx hlk hret rfl rfl (hb hby d18_33) (by decide) (by decide) ?_
      try rw [e15]
      exact ⟨(congrArg some ((if_neg (fun q => u13 q.symm)).trans (if_pos u15.symm))).symm, rfl, E1⟩
    · intro T15 u15 X15 e15
      show Go p e below _ T15 (mkF m 28 #[.val (.ref a), .val (.ref r1a), .val (.int (4 : Int32)), .val (.int (1 : Int32)), .val (.ref r1)] [(.int (0 : Int32))])
      refine Go.s_ifYes X15 hx (hb hby d18_28) (q := 34) (by decide) (by decide) ((if0 _ _).trans (teq (by decide : (0 : Int32) = (0 : Int32))).1) ?_
      refine Go.s_iinc X15 hx (hb hby d18_34) (q := 37) rfl rfl (l' := #[.val (.ref a), .val (.ref r1a), .val (.int (4 : Int32)), .val (.int ((1 : Int32) + (1 : Int32))), .val (.ref r1)]) rfl ?_
      rw [(by decide : ((1 : Int32) + (1 : Int32)) = (2 : Int32))]
      refine Go.s_goto X15 hx (hb hby d18_37) (q := 9) (by decide) (by decide) ?_
      refine Go.s_iloadN X15 hx (hb hby d18_9) (q := 10) rfl rfl ?_
      refine Go.s_iloadN X15 hx (hb hby d18_10) (q := 11) rfl rfl ?_
      refine Go.s_icmpNo X15 hx (hb hby d18_11) (q := 14) rfl (tlt (by decide : (2 : Int32) < (4 : Int32))).2.1 ?_
      refine Go.s_aloadN X15 hx (hb hby d18_14) (q := 15) rfl rfl rfl ?_
      refine Go.s_iloadN X15 hx (hb hby d18_15) (q := 16) rfl rfl ?_
      refine Go.ldR X15 hx hZ e15 V1 ⟨by decide, by decide⟩ (w := (.ref r2)) rfl (hb hby d18_16) ?_
      show Go p e below _ T15 (mkF m 17 #[.val (.ref a), .val (.ref r1a), .val (.int (4 : Int32)), .val (.int (2 : Int32)), .val (.ref r1)] [(.ref r2)])
      refine Go.s_astore X15 hx (hb hby d18_17) (q := 19) rfl rfl (l' := #[.val (.ref a), .val (.ref r1a), .val (.int (4 : Int32)), .val (.int (2 : Int32)), .val (.ref r2)]) rfl ?_
      refine Go.s_aload X15 hx (hb hby d18_19) (q := 21) rfl rfl rfl ?_
      refine Go.getF X15 hx hZ hown (w_ hw 102 rfl) Via.refl e15 FW2_v7 (hb hby d18_21) ?_
      intro T16 X16 e16
      show Go p e below _ T16 (mkF m 24 #[.val (.ref a), .val (.ref r1a), .val (.int (4 : Int32)), .val (.int (2 : Int32)), .val (.ref r2)] [(.ref w2)])
      refine Go.s_aloadN X16 hx (hb hby d18_24) (q := 25) rfl rfl rfl ?_
      refine Go.strEq X16 hx hZ hown (w_ hw 104 rfl) (w_ hw 105 rfl) (w_ hw 107 rfl) (w_ hw 106 rfl) (w_eq hw) (w_ hw 6 rfl) e16 SW2_v8 S_a_v11 CS_v2 hzc (by rw [hml]; rfl) (hb hby d18_25) (by first | decide | exact Nat.le_of_ble_eq_true rfl) (by first | decide | exact Nat.le_of_ble_eq_true rfl) (by first | decide | exact Nat.le_of_ble_eq_true rfl) (by first | decide | exact Nat.le_of_ble_eq_true rfl) ?_ ?_
      · intro T17 u17 X17 e17
        show Go p e below _ T17 (mkF m 28 #[.val (.ref a), .val (.ref r1a), .val (.int (4 : Int32)), .val (.int (2 : Int32)), .val (.ref r2)] [(.int (1 : Int32))])
        refine Go.s_ifNo X17 hx (hb hby d18_28) (q := 31) rfl ((if0 _ _).trans (feq (by decide : ¬ ((1 : Int32) = (0 : Int32)))).1) ?_
        refine Go.s_aload X17 hx (hb hby d18_31) (q := 33) rfl rfl rfl ?_
        refine Go.retA X17 hx hlk hret rfl rfl (hb hby d18_33) (by decide) (by decide) ?_
        try rw [e17]
        exact ⟨(congrArg some ((if_neg (fun q => u13 q.symm)).trans ((if_neg (fun q => u15 q.symm)).trans (if_pos u17.symm)))).symm, rfl, E1⟩
      · intro T17 u17 X17 e17
        show Go p e below _ T17 (mkF m 28 #[.val (.ref a), .val (.ref r1a), .val (.int (4 : Int32)), .val (.int (2 : Int32)), .val (.ref r2)] [(.int (0 : Int32))])
        refine Go.s_ifYes X17 hx (hb hby d18_28) (q := 34) (by decide) (by decide) ((if0 _ _).trans (teq (by decide : (0 : Int32) = (0 : Int32))).1) ?_
        refine Go.s_iinc X17 hx (hb hby d18_34) (q := 37) rfl rfl (l' := #[.val (.ref a), .val (.ref r1a), .val (.int (4 : Int32)), .val (.int ((2 : Int32) + (1 : Int32))), .val (.ref r2)]) rfl ?_
        rw [(by decide : ((2 : Int32) + (1 : Int32)) = (3 : Int32))]
        refine Go.s_goto X17 hx (hb hby d18_37) (q := 9) (by decide) (by decide) ?_
        refine Go.s_iloadN X17 hx (hb hby d18_9) (q := 10) rfl rfl ?_
        refine Go.s_iloadN X17 hx (hb hby d18_10) (q := 11) rfl rfl ?_
        refine Go.s_icmpNo X17 hx (hb hby d18_11) (q := 14) rfl (tlt (by decide : (3 : Int32) < (4 : Int32))).2.1 ?_
        refine Go.s_aloadN X17 hx (hb hby d18_14) (q := 15) rfl rfl rfl ?_
        refine Go.s_iloadN X17 hx (hb hby d18_15) (q := 16) rfl rfl ?_
        refine Go.ldR X17 hx hZ e17 V1 ⟨by decide, by decide⟩ (w := (.ref r3)) rfl (hb hby d18_16) ?_
        show Go p e below _ T17 (mkF m 17 #[.val (.ref a), .val (.ref r1a), .val (.int (4 : Int32)), .val (.int (3 : Int32)), .val (.ref r2)] [(.ref r3)])
        refine Go.s_astore X17 hx (hb hby d18_17) (q := 19) rfl rfl (l' := #[.val (.ref a), .val (.ref r1a), .val (.int (4 : Int32)), .val (.int (3 : Int32)), .val (.ref r3)]) rfl ?_
        refine Go.s_aload X17 hx (hb hby d18_19) (q := 21) rfl rfl rfl ?_
        refine Go.getF X17 hx hZ hown (w_ hw 102 rfl) Via.refl e17 FW3_v9 (hb hby d18_21) ?_
        intro T18 X18 e18
        show Go p e below _ T18 (mkF m 24 #[.val (.ref a), .val (.ref r1a), .val (.int (4 : Int32)), .val (.int (3 : Int32)), .val (.ref r3)] [(.ref w3)])
        refine Go.s_aloadN X18 hx (hb hby d18_24) (q := 25) rfl rfl rfl ?_
        refine Go.strEq X18 hx hZ hown (w_ hw 104 rfl) (w_ hw 105 rfl) (w_ hw 107 rfl) (w_ hw 106 rfl) (w_eq hw) (w_ hw 6 rfl) e18 SW3_v10 S_a_v11 CS_v2 hzc (by rw [hml]; rfl) (hb hby d18_25) (by first | decide | exact Nat.le_of_ble_eq_true rfl) (by first | decide | exact Nat.le_of_ble_eq_true rfl) (by first | decide | exact Nat.le_of_ble_eq_true rfl) (by first | decide | exact Nat.le_of_ble_eq_true rfl) ?_ ?_
        · intro T19 u19 X19 e19
          show Go p e below _ T19 (mkF m 28 #[.val (.ref a), .val (.ref r1a), .val (.int (4 : Int32)), .val (.int (3 : Int32)), .val (.ref r3)] [(.int (1 : Int32))])
          refine Go.s_ifNo X19 hx (hb hby d18_28) (q := 31) rfl ((if0 _ _).trans (feq (by decide : ¬ ((1 : Int32) = (0 : Int32)))).1) ?_
          refine Go.s_aload X19 hx (hb hby d18_31) (q := 33) rfl rfl rfl ?_
          refine Go.retA X19 hx hlk hret rfl rfl (hb hby d18_33) (by decide) (by decide) ?_
          try rw [e19]
          exact ⟨(congrArg some ((if_neg (fun q => u13 q.symm)).trans ((if_neg (fun q => u15 q.symm)).trans ((if_neg (fun q => u17 q.symm)).trans (if_pos u19.symm))))).symm, rfl, E1⟩
        · intro T19 u19 X19 e19
          show Go p e below _ T19 (mkF m 28 #[.val (.ref a), .val (.ref r1a), .val (.int (4 : Int32)), .val (.int (3 : Int32)), .val (.ref r3)] [(.int (0 : Int32))])
          refine Go.s_ifYes X19 hx (hb hby d18_28) (q := 34) (by decide) (by decide) ((if0 _ _).trans (teq (by decide : (0 : Int32) = (0 : Int32))).1) ?_
          refine Go.s_iinc X19 hx (hb hby d18_34) (q := 37) rfl rfl (l' := #[.val (.ref a), .val (.ref r1a), .val (.int (4 : Int32)), .val (.int ((3 : Int32) + (1 : Int32))), .val (.ref r3)]) rfl ?_
          rw [(by decide : ((3 : Int32) + (1 : Int32)) = (4 : Int32))]
          refine Go.s_goto X19 hx (hb hby d18_37) (q := 9) (by decide) (by decide) ?_
          refine Go.s_iloadN X19 hx (hb hby d18_9) (q := 10) rfl rfl ?_
          refine Go.s_iloadN X19 hx (hb hby d18_10) (q := 11) rfl rfl ?_
          refine Go.s_icmpYes X19 hx (hb hby d18_11) (q := 40) (by decide) (by decide) (flt (by decide : ¬ ((4 : Int32) < (4 : Int32)))).2.1 ?_
          refine Go.s_aconst_null X19 hx (hb hby d18_40) (q := 41) rfl ?_
          refine Go.retA X19 hx hlk hret rfl rfl (hb hby d18_41) (by decide) (by decide) ?_
          try rw [e19]
          exact ⟨(congrArg some ((if_neg (fun q => u13 q.symm)).trans ((if_neg (fun q => u15 q.symm)).trans ((if_neg (fun q => u17 q.symm)).trans (if_neg (fun q => u19 q.symm)))))).symm, rfl, E1⟩
theorem ef_exp (m : MethodId) (x0 : Addr) : entryFrame m #[(.ref x0)] 1 = mkF m 0 #[.val (.ref x0)] [] := by first | (simp [entryFrame, mkF, argsToLocals, Value.category]; done) | rfl
set_option maxRecDepth 65536 in
set_option maxHeartbeats 40000000 in
theorem rm_exp (l : Launch) (Z : State) (a0 : Array Value) (hw : ∀ d ∈ tables_1, d.before a0 Z = true) (a : Addr) (h0 : Heap) (hEL : EW Z a0 consts_1) (k : Nat) (ds : List Int32) (S_a : Str Z h0 k a ds) (zc : Int32) (CS : Sta Z h0 "java/lang/String" "COMPACT_STRINGS" "Z" (.int zc)) (hzc : ¬ zc = 0) (r0 r1 r2 r3 : Addr) (SG0 : Sta Z h0 "com/example/tollbook/tollbook/book/AdjustmentReason" "PAID_TOPUP" "Lcom/example/tollbook/tollbook/book/AdjustmentReason;" (.ref r0)) (SG1 : Sta Z h0 "com/example/tollbook/tollbook/book/AdjustmentReason" "GIFT" "Lcom/example/tollbook/tollbook/book/AdjustmentReason;" (.ref r1)) (SG2 : Sta Z h0 "com/example/tollbook/tollbook/book/AdjustmentReason" "REFUND" "Lcom/example/tollbook/tollbook/book/AdjustmentReason;" (.ref r2)) (SG3 : Sta Z h0 "com/example/tollbook/tollbook/book/AdjustmentReason" "OTHER" "Lcom/example/tollbook/tollbook/book/AdjustmentReason;" (.ref r3)) :
    CtW l mn_22 method_4_code 1 (some (.object "com/example/tollbook/tollbook/book/AdjustmentReason")) ({ frames := 2, cells := 8, slots := 116, locals := 40 } : Room) Z consts_1 [] h0 #[(.ref a)] (fun v h L => v = some (pick r0 r1 r2 r3 ds) ∧ L = []) := by
  refine CtW.body (plainFor_of_name pn_com_example_tollbook_tollbook_book_AdjustmentReasonOfPinLaw) ?_
  intro p e s m below meth c T0 hx hby hml hown hnm hret hlk hZ hW hsf X0 e0
  refine Go.cast (ef_exp m a) ?_
  show Go p e below _ T0 (mkF m 0 #[.val (.ref a)] [])
  refine Go.s_aloadN X0 hx (hb hby d22_0) (q := 1) rfl rfl rfl ?_
  refine Go.ldcW (cs := tx0) X0 hx hZ hown (w_ hw 4 rfl) (w_str hw) e0 hEL (by decide) hW ht0 hc0 (by decide) (hb hby d22_1) (by decide) (by decide) ?_
  intro T1 h1 b1 X1 e1 E1 hZ hown S1 hW1 R1
  have CS_v2 := CS.ext E1
  have S_a_v3 := S_a.ext E1
  have SG0_v4 := SG0.ext E1
  have SG1_v5 := SG1.ext E1
  have SG2_v6 := SG2.ext E1
  have SG3_v7 := SG3.ext E1
  refine Go.strEq X1 hx hZ hown (w_ hw 116 rfl) (w_ hw 105 rfl) (w_ hw 107 rfl) (w_ hw 106 rfl) (w_eq hw) (w_ hw 6 rfl) e1 S_a_v3 S1 CS_v2 hzc (by rw [hml]; rfl) (hb hby d22_3) (by first | decide | exact Nat.le_of_ble_eq_true rfl) (by first | decide | exact Nat.le_of_ble_eq_true rfl) (by first | decide | exact Nat.le_of_ble_eq_true rfl) (by first | decide | exact Nat.le_of_ble_eq_true rfl) ?_ ?_
  · intro T8 u8 X8 e8
    show Go p e below _ T8 (mkF m 6 #[.val (.ref a)] [(.int (1 : Int32))])
    refine Go.s_ifNo X8 hx (hb hby d22_6) (q := 9) rfl ((if0 _ _).trans (feq (by decide : ¬ ((1 : Int32) = (0 : Int32)))).1) ?_
    refine Go.getS X8 hx hZ hown (w_ hw 124 rfl) Via.refl e8 SG0_v4 (hb hby d22_9) ?_
    intro T9 X9 e9
    show Go p e below _ T9 (mkF m 12 #[.val (.ref a)] [(.ref r0)])
    refine Go.retAW X9 hx hZ hEL e9 hW1 hlk hret rfl rfl (hb hby d22_12) (by decide) (by decide) ?_
    exact ⟨(congrArg some (if_pos u8)).symm, rfl⟩
  · intro T8 u8 X8 e8
    show Go p e below _ T8 (mkF m 6 #[.val (.ref a)] [(.int (0 : Int32))])
    refine Go.s_ifYes X8 hx (hb hby d22_6) (q := 13) (by decide) (by decide) ((if0 _ _).trans (teq (by decide : (0 : Int32) = (0 : Int32))).1) ?_
    refine Go.s_aloadN X8 hx (hb hby d22_13) (q := 14) rfl rfl rfl ?_
    refine Go.ldcW (cs := tx1) X8 hx hZ hown (w_ hw 117 rfl) (w_str hw) e8 hEL (by decide) hW1 ht1 hc1 (by decide) (hb hby d22_14) (by decide) (by decide) ?_
    intro T10 h10 b10 X10 e10 E10 hZ hown S10 hW10 R10
    have CS_v11 := CS_v2.ext E10
    have S_a_v12 := S_a_v3.ext E10
    have SG0_v13 := SG0_v4.ext E10
    have SG1_v14 := SG1_v5.ext E10
    have SG2_v15 := SG2_v6.ext E10
    have SG3_v16 := SG3_v7.ext E10
    have S1_v17 := S1.ext E10
    refine Go.strEq X10 hx hZ hown (w_ hw 116 rfl) (w_ hw 105 rfl) (w_ hw 107 rfl) (w_ hw 106 rfl) (w_eq hw) (w_ hw 6 rfl) e10 S_a_v12 S10 CS_v11 hzc (by rw [hml]; rfl) (hb hby d22_16) (by first | decide | exact Nat.le_of_ble_eq_true rfl) (by first | decide | exact Nat.le_of_ble_eq_true rfl) (by first | decide | exact Nat.le_of_ble_eq_true rfl) (by first | decide | exact Nat.le_of_ble_eq_true rfl) ?_ ?_
    · intro T18 u18 X18 e18
      show Go p e below _ T18 (mkF m 19 #[.val (.ref a)] [(.int (1 : Int32))])
      refine Go.s_ifNo X18 hx (hb hby d22_19) (q := 22) rfl ((if0 _ _).trans (feq (by decide : ¬ ((1 : Int32) = (0 : Int32)))).1) ?_
      refine Go.getS X18 hx hZ hown (w_ hw 122 rfl) Via.refl e18 SG1_v14 (hb hby d22_22) ?_
      intro T19 X19 e19
      show Go p e below _ T19 (mkF m 25 #[.val (.ref a)] [(.ref r1)])
      refine Go.retAW X19 hx hZ hEL e19 hW10 hlk hret rfl rfl (hb hby d22_25) (by decide) (by decide) ?_
      exact ⟨(congrArg some ((if_neg u8).trans (if_pos u18))).symm, rfl⟩
    · intro T18 u18 X18 e18
      show Go p e below _ T18 (mkF m 19 #[.val (.ref a)] [(.int (0 : Int32))])
      refine Go.s_ifYes X18 hx (hb hby d22_19) (q := 26) (by decide) (by decide) ((if0 _ _).trans (teq (by decide : (0 : Int32) = (0 : Int32))).1) ?_
      refine Go.s_aloadN X18 hx (hb hby d22_26) (q := 27) rfl rfl rfl ?_
      refine Go.ldcW (cs := tx2) X18 hx hZ hown (w_ hw 118 rfl) (w_str hw) e18 hEL (by decide) hW10 ht2 hc2 (by decide) (hb hby d22_27) (by decide) (by decide) ?_
      intro T20 h20 b20 X20 e20 E20 hZ hown S20 hW20 R20
      have CS_v21 := CS_v11.ext E20
      have S_a_v22 := S_a_v12.ext E20
      have SG0_v23 := SG0_v13.ext E20
      have SG1_v24 := SG1_v14.ext E20
      have SG2_v25 := SG2_v15.ext E20
      have SG3_v26 := SG3_v16.ext E20
      have S1_v27 := S1_v17.ext E20
      have S10_v28 := S10.ext E20
      refine Go.strEq X20 hx hZ hown (w_ hw 116 rfl) (w_ hw 105 rfl) (w_ hw 107 rfl) (w_ hw 106 rfl) (w_eq hw) (w_ hw 6 rfl) e20 S_a_v22 S20 CS_v21 hzc (by rw [hml]; rfl) (hb hby d22_29) (by first | decide | exact Nat.le_of_ble_eq_true rfl) (by first | decide | exact Nat.le_of_ble_eq_true rfl) (by first | decide | exact Nat.le_of_ble_eq_true rfl) (by first | decide | exact Nat.le_of_ble_eq_true rfl) ?_ ?_
      · intro T29 u29 X29 e29
        show Go p e below _ T29 (mkF m 32 #[.val (.ref a)] [(.int (1 : Int32))])
        refine Go.s_ifNo X29 hx (hb hby d22_32) (q := 35) rfl ((if0 _ _).trans (feq (by decide : ¬ ((1 : Int32) = (0 : Int32)))).1) ?_
        refine Go.getS X29 hx hZ hown (w_ hw 123 rfl) Via.refl e29 SG2_v25 (hb hby d22_35) ?_
        intro T30 X30 e30
        show Go p e below _ T30 (mkF m 38 #[.val (.ref a)] [(.ref r2)])
        refine Go.retAW X30 hx hZ hEL e30 hW20 hlk hret rfl rfl (hb hby d22_38) (by decide) (by decide) ?_
        exact ⟨(congrArg some ((if_neg u8).trans ((if_neg u18).trans (if_pos u29)))).symm, rfl⟩
      · intro T29 u29 X29 e29
        show Go p e below _ T29 (mkF m 32 #[.val (.ref a)] [(.int (0 : Int32))])
        refine Go.s_ifYes X29 hx (hb hby d22_32) (q := 39) (by decide) (by decide) ((if0 _ _).trans (teq (by decide : (0 : Int32) = (0 : Int32))).1) ?_
        refine Go.s_aloadN X29 hx (hb hby d22_39) (q := 40) rfl rfl rfl ?_
        refine Go.ldcW (cs := tx3) X29 hx hZ hown (w_ hw 119 rfl) (w_str hw) e29 hEL (by decide) hW20 ht3 hc3 (by decide) (hb hby d22_40) (by decide) (by decide) ?_
        intro T31 h31 b31 X31 e31 E31 hZ hown S31 hW31 R31
        have CS_v32 := CS_v21.ext E31
        have S_a_v33 := S_a_v22.ext E31
        have SG0_v34 := SG0_v23.ext E31
        have SG1_v35 := SG1_v24.ext E31
        have SG2_v36 := SG2_v25.ext E31
        have SG3_v37 := SG3_v26.ext E31
        have S1_v38 := S1_v27.ext E31
        have S10_v39 := S10_v28.ext E31
        have S20_v40 := S20.ext E31
        refine Go.strEq X31 hx hZ hown (w_ hw 116 rfl) (w_ hw 105 rfl) (w_ hw 107 rfl) (w_ hw 106 rfl) (w_eq hw) (w_ hw 6 rfl) e31 S_a_v33 S31 CS_v32 hzc (by rw [hml]; rfl) (hb hby d22_42) (by first | decide | exact Nat.le_of_ble_eq_true rfl) (by first | decide | exact Nat.le_of_ble_eq_true rfl) (by first | decide | exact Nat.le_of_ble_eq_true rfl) (by first | decide | exact Nat.le_of_ble_eq_true rfl) ?_ ?_
        · intro T41 u41 X41 e41
          show Go p e below _ T41 (mkF m 45 #[.val (.ref a)] [(.int (1 : Int32))])
          refine Go.s_ifNo X41 hx (hb hby d22_45) (q := 48) rfl ((if0 _ _).trans (feq (by decide : ¬ ((1 : Int32) = (0 : Int32)))).1) ?_
          refine Go.getS X41 hx hZ hown (w_ hw 121 rfl) Via.refl e41 SG3_v37 (hb hby d22_48) ?_
          intro T42 X42 e42
          show Go p e below _ T42 (mkF m 51 #[.val (.ref a)] [(.ref r3)])
          refine Go.retAW X42 hx hZ hEL e42 hW31 hlk hret rfl rfl (hb hby d22_51) (by decide) (by decide) ?_
          exact ⟨(congrArg some ((if_neg u8).trans ((if_neg u18).trans ((if_neg u29).trans (if_pos u41))))).symm, rfl⟩
        · intro T41 u41 X41 e41
          show Go p e below _ T41 (mkF m 45 #[.val (.ref a)] [(.int (0 : Int32))])
          refine Go.s_ifYes X41 hx (hb hby d22_45) (q := 52) (by decide) (by decide) ((if0 _ _).trans (teq (by decide : (0 : Int32) = (0 : Int32))).1) ?_
          refine Go.s_aconst_null X41 hx (hb hby d22_52) (q := 53) rfl ?_
          refine Go.retAW X41 hx hZ hEL e41 hW31 hlk hret rfl rfl (hb hby d22_53) (by decide) (by decide) ?_
          exact ⟨(congrArg some ((if_neg u8).trans ((if_neg u18).trans ((if_neg u29).trans (if_neg u41))))).symm, rfl⟩
theorem ef_ini4 (m : MethodId) (x0 : Addr) (x1 : Addr) (x2 : Int32) (x3 : Int32) : entryFrame m #[(.ref x0), (.ref x1), (.int x2), (.int x3), .null] 6 = mkF m 0 #[.val (.ref x0), .val (.ref x1), .val (.int x2), .val (.int x3), .val .null, .unset] [] := by first | (simp [entryFrame, mkF, argsToLocals, Value.category]; done) | rfl
set_option maxRecDepth 65536 in
set_option maxHeartbeats 40000000 in
theorem rm_ini4 (l : Launch) (Z : State) (a0 : Array Value) (hw : ∀ d ∈ tables_1, d.before a0 Z = true) (a : Addr) (b : Addr) (h0 : Heap) (hEL : EW Z a0 consts_1) (n0 : Nat) (v0 c0 : Value) (E_a : Exa Z h0 a "java/lang/String") (F_v : Fld Z h0 a "java/lang/String" "value" "[B" v0) (F_c : Fld Z h0 a "java/lang/String" "coder" "B" c0) (g_a : n0 ≤ a) :
    CtW l mn_13 jdk_42_method_149_code 6 none ({ frames := 1, cells := 4, slots := 8, locals := 16 } : Room) Z consts_1 [a] h0 #[(.ref a), (.ref b), (.int (0 : Int32)), (.int (0 : Int32)), .null] (fun v h L => v = none ∧ Fr n0 L ∧ Keep h0 h [a] ∧ Str Z h h.size a tx4) := by
  refine CtW.body (plainFor_of_name pn_java_lang_String) ?_
  intro p e s m below meth c T0 hx hby hml hown hnm hret hlk hZ hW hsf X0 e0
  have hsa := hsf a (List.mem_cons_self ..)
  refine Go.cast (ef_ini4 m a b (0 : Int32) (0 : Int32)) ?_
  show Go p e below _ T0 (mkF m 0 #[.val (.ref a), .val (.ref b), .val (.int (0 : Int32)), .val (.int (0 : Int32)), .val .null, .unset] [])
  refine Go.s_aloadN X0 hx (hb hby d13_0) (q := 1) rfl rfl rfl ?_
  refine Go.initO X0 hx hZ hown (w_ hw 66 rfl) (w_ hw 67 rfl) (w_ hw 68 rfl) e0 (by rw [hml]; rfl) (hb hby d13_1) (by decide) (by decide) ?_
  intro T1 X1 e1
  show Go p e below _ T1 (mkF m 4 #[.val (.ref a), .val (.ref b), .val (.int (0 : Int32)), .val (.int (0 : Int32)), .val .null, .unset] [])
  refine Go.s_iloadN X1 hx (hb hby d13_4) (q := 5) rfl rfl ?_
  refine Go.s_ifNo X1 hx (hb hby d13_5) (q := 8) rfl ((if0 _ _).trans (teq (by decide : (0 : Int32) = (0 : Int32))).2) ?_
  refine Go.s_aloadN X1 hx (hb hby d13_8) (q := 9) rfl rfl rfl ?_
  have hlt_h0 : a < h0.size := E_a.lt
  refine Go.ldcW (cs := tx4) X1 hx hZ hown (w_ hw 120 rfl) (w_str hw) e1 hEL (by decide) hW ht4 hc4 (by decide) (hb hby d13_9) (by decide) (by decide) ?_
  intro T2 h2 b2 X2 e2 E2 hZ hown S2 hW2 R2
  have E_a_v3 := E_a.ext E2
  have F_v_v4 := F_v.ext E2
  have F_c_v5 := F_c.ext E2
  have fact_K_v6 := (Keep.refl h0 [a]).ext E2
  have sf2 := R2.safe hlt_h0 hsa
  obtain ⟨t7, kb7, Ec7, Vc7, Cc7, Ac7, -⟩ := id S2
  refine Go.getF X2 hx hZ hown (w_ hw 17 rfl) Via.refl e2 Vc7 (hb hby d13_11) ?_
  intro T7 X7 e7
  have ne_7 : t7 ≠ a := Ne.symm (Exa.neArv E_a_v3 Ac7 (w_ hw 6 rfl))
  show Go p e below _ T7 (mkF m 14 #[.val (.ref a), .val (.ref b), .val (.int (0 : Int32)), .val (.int (0 : Int32)), .val .null, .unset] [(.ref t7), (.ref a)])
  refine Go.putF X7 hx hZ hown (w_ hw 17 rfl) Via.refl e7 F_v_v4 E_a_v3 (Or.inr ⟨(w_ hw 8 rfl), rfl, hnm⟩) (w_ hw 6 rfl) (ty := (.array .byte)) (by decide) rfl rfl (hb hby d13_14) ?_
  intro T8 h8 X8 e8 W8
  have N8 := Fr.snoc X8 (Fr.nil n0) g_a
  have E_a_v9 := E_a_v3.wr W8
  have F_c_v10 := F_c_v5.other W8 (Or.inr (slot_ne (Or.inr (w_ hw 9 rfl)) (Or.inr (w_ hw 8 rfl)) (by decide) (t := .byte) (t' := (.array .byte)) (by decide) (by decide)))
  have fact_K_v11 := fact_K_v6.wr W8 (Or.inl (by simp))
  have Ac7_v12 := Ac7.other W8 ne_7
  have hWw8 := hW2.wr W8 sf2
  have sfw8 := Safe.wr W8 sf2 hW2.2.1 sf2
  have F_value_a_v13 := F_v_v4.same W8
  show Go p e below _ T8 (mkF m 17 #[.val (.ref a), .val (.ref b), .val (.int (0 : Int32)), .val (.int (0 : Int32)), .val .null, .unset] [])
  refine Go.s_aloadN X8 hx (hb hby d13_17) (q := 18) rfl rfl rfl ?_
  have hlt_h8 : a < h8.size := E_a_v9.lt
  refine Go.ldcW (cs := tx4) X8 hx hZ hown (w_ hw 120 rfl) (w_str hw) e8 hEL (by decide) hWw8 ht4 hc4 (by decide) (hb hby d13_18) (by decide) (by decide) ?_
  intro T14 h14 b14 X14 e14 E14 hZ hown S14 hW14 R14
  have E_a_v15 := E_a_v9.ext E14
  have F_c_v16 := F_c_v10.ext E14
  have fact_K_v17 := fact_K_v11.ext E14
  have Ac7_v18 := Ac7_v12.ext E14
  have F_value_a_v19 := F_value_a_v13.ext E14
  have sf14 := R14.safe hlt_h8 sfw8
  obtain ⟨t20, kb20, Ec20, Vc20, Cc20, Ac20, -⟩ := id S14
  refine Go.getF X14 hx hZ hown (w_ hw 24 rfl) Via.refl e14 Cc20 (hb hby d13_20) ?_
  intro T20 X20 e20
  refine Go.putF X20 hx hZ hown (w_ hw 24 rfl) Via.refl e20 F_c_v16 E_a_v15 (Or.inr ⟨(w_ hw 9 rfl), rfl, hnm⟩) (w_ hw 6 rfl) (ty := .byte) (by decide) (by decide) (by decide) (hb hby d13_23) ?_
  intro T21 h21 X21 e21 W21
  have N21 := Fr.snoc X21 N8 g_a
  have E_a_v22 := E_a_v15.wr W21
  have fact_K_v23 := fact_K_v17.wr W21 (Or.inl (by simp))
  have Ac7_v24 := Ac7_v18.other W21 ne_7
  have F_value_a_v25 := F_value_a_v19.other W21 (Or.inr (slot_ne (Or.inr (w_ hw 8 rfl)) (Or.inr (w_ hw 9 rfl)) (by decide) (t := (.array .byte)) (t' := .byte) (by decide) (by decide)))
  have hWw21 := hW14.wr W21 sf14
  have sfw21 := Safe.wr W21 sf14 hW14.2.1 sf14
  have F_coder_21 := F_c_v16.same W21
  show Go p e below _ T21 (mkF m 26 #[.val (.ref a), .val (.ref b), .val (.int (0 : Int32)), .val (.int (0 : Int32)), .val .null, .unset] [])
  refine Go.retVW X21 hx hZ hEL e21 hWw21 hlk hret (hb hby d13_26) (by decide) (by decide) ?_
  exact ⟨rfl, N21, fact_K_v23, ⟨t7, _, E_a_v22, F_value_a_v25, F_coder_21, Ac7_v24, hc4, by decide, E_a_v22.lt, Ac7_v24.lt⟩⟩
theorem ef_ini1 (m : MethodId) (x0 : Addr) (x1 : Addr) : entryFrame m #[(.ref x0), (.ref x1)] 2 = mkF m 0 #[.val (.ref x0), .val (.ref x1)] [] := by first | (simp [entryFrame, mkF, argsToLocals, Value.category]; done) | rfl
set_option maxRecDepth 65536 in
set_option maxHeartbeats 40000000 in
theorem rm_ini1 (l : Launch) (Z : State) (a0 : Array Value) (hw : ∀ d ∈ tables_1, d.before a0 Z = true) (a : Addr) (b : Addr) (h0 : Heap) (hEL : EW Z a0 consts_1) (n0 : Nat) (v0 c0 : Value) (E_a : Exa Z h0 a "java/lang/String") (F_v : Fld Z h0 a "java/lang/String" "value" "[B" v0) (F_c : Fld Z h0 a "java/lang/String" "coder" "B" c0) (g_a : n0 ≤ a) (kc : ClassId) (bs : List Value) (V_b : Arv Z h0 b kc .char (0 : Int32) bs (.int 0)) :
    CtW l mn_12 jdk_42_method_3_code 2 none ({ frames := 2, cells := 4, slots := 8, locals := 40 } : Room) Z consts_1 [a] h0 #[(.ref a), (.ref b)] (fun v h L => v = none ∧ Fr n0 L ∧ Keep h0 h [a] ∧ Str Z h h.size a tx4) := by
  refine CtW.body (plainFor_of_name pn_java_lang_String) ?_
  intro p e s m below meth c T0 hx hby hml hown hnm hret hlk hZ hW hsf X0 e0
  have hsa := hsf a (List.mem_cons_self ..)
  refine Go.cast (ef_ini1 m a b) ?_
  show Go p e below _ T0 (mkF m 0 #[.val (.ref a), .val (.ref b)] [])
  refine Go.s_aloadN X0 hx (hb hby d12_0) (q := 1) rfl rfl rfl ?_
  refine Go.s_aloadN X0 hx (hb hby d12_1) (q := 2) rfl rfl rfl ?_
  refine Go.s_iconst X0 hx (hb hby d12_2) (q := 3) rfl (z := 0) rfl ?_
  refine Go.s_aloadN X0 hx (hb hby d12_3) (q := 4) rfl rfl rfl ?_
  refine Go.len X0 hx hZ e0 V_b (hb hby d12_4) ?_
  show Go p e below _ T0 (mkF m 5 #[.val (.ref a), .val (.ref b)] [(.int (0 : Int32)), (.int (0 : Int32)), (.ref b), (.ref a)])
  refine Go.s_aconst_null X0 hx (hb hby d12_5) (q := 6) rfl ?_
  refine Go.callCW (y := mn_13) X0 hx hZ rfl hown (w_ hw 62 rfl) (w_ hw 63 rfl) (w_ hw 65 rfl) (w_ hw 5 rfl) (by decide) e0 hEL hW (sf := [a]) (allS ⟨hsa, E_a.lt⟩ all0) (b := a) (argsL := [(.ref b), (.int (0 : Int32)), (.int (0 : Int32)), .null]) (rest := []) (rm_ini4 l Z a0 hw a b h0 hEL n0 v0 c0 E_a F_v F_c g_a) (by rw [hml]; rfl) (lenOf pd_20 rfl) rfl (hb hby d12_6) (by decide) (by decide) (by decide) (by decide) ?_
  intro r1 T1 L1 q1 X1 hZ hown hW1
  obtain ⟨rfl, N1, K1, S1⟩ := q1
  show Go p e below _ T1 (mkF m 9 #[.val (.ref a), .val (.ref b)] [])
  refine Go.retVW X1 hx hZ hEL rfl hW1 hlk hret (hb hby d12_9) (by decide) (by decide) ?_
  exact ⟨rfl, (Fr.app (Fr.nil n0) N1), K1, S1⟩
theorem ef_law (m : MethodId) (x0 : Int32) (x1 : Int32) (x2 : Int32) (x3 : Int32) (x4 : Int32) : entryFrame m #[(.int x0), (.int x1), (.int x2), (.int x3), (.int x4)] maxLocals = mkF m 0 #[.val (.int x0), .val (.int x1), .val (.int x2), .val (.int x3), .val (.int x4), .unset, .unset, .unset, .unset, .unset, .unset, .unset, .unset, .unset] [] := by first | (simp [entryFrame, mkF, argsToLocals, Value.category, maxLocals]; done) | rfl
set_option maxRecDepth 65536 in
set_option maxHeartbeats 40000000 in
theorem rm_law (l : Launch) (Z : State) (a0 : Array Value) (hw : ∀ d ∈ tables_1, d.before a0 Z = true) (x0 : Int32) (x1 : Int32) (x2 : Int32) (x3 : Int32) (x4 : Int32) (h0 : Heap) (hEL : EW Z a0 consts_1) (n0 : Nat) (Z0 : n0 ≤ h0.size) (O0 : Old Z n0 h0) (zc : Int32) (CS : Sta Z Z.heap "java/lang/String" "COMPACT_STRINGS" "Z" (.int zc)) (hzc : ¬ zc = 0) (fm : Value) (SF : Sta Z Z.heap "jdk/internal/util/Preconditions" "SIOOBE_FORMATTER" "Ljava/util/function/BiFunction;" fm) (rf : fm.isRef = true) (av r0 r1 r2 r3 : Addr) (kc : ClassId) (S_VALUES : Sta Z Z.heap "com/example/tollbook/tollbook/book/AdjustmentReason" "$VALUES" "[Lcom/example/tollbook/tollbook/book/AdjustmentReason;" (.ref av)) (V_av : Arv Z Z.heap av kc (.object "com/example/tollbook/tollbook/book/AdjustmentReason") (4 : Int32) [(.ref r0), (.ref r1), (.ref r2), (.ref r3)] .null) (E_av : Exa Z Z.heap av "[Lcom/example/tollbook/tollbook/book/AdjustmentReason;") (kw : Nat) (w0 w1 w2 w3 : Addr) (FW0 : Fld Z Z.heap r0 "com/example/tollbook/tollbook/book/AdjustmentReason" "wireName" "Ljava/lang/String;" (.ref w0)) (SW0 : Str Z Z.heap kw w0 tx0) (FW1 : Fld Z Z.heap r1 "com/example/tollbook/tollbook/book/AdjustmentReason" "wireName" "Ljava/lang/String;" (.ref w1)) (SW1 : Str Z Z.heap kw w1 tx1) (FW2 : Fld Z Z.heap r2 "com/example/tollbook/tollbook/book/AdjustmentReason" "wireName" "Ljava/lang/String;" (.ref w2)) (SW2 : Str Z Z.heap kw w2 tx2) (FW3 : Fld Z Z.heap r3 "com/example/tollbook/tollbook/book/AdjustmentReason" "wireName" "Ljava/lang/String;" (.ref w3)) (SW3 : Str Z Z.heap kw w3 tx3)  (SG0 : Sta Z Z.heap "com/example/tollbook/tollbook/book/AdjustmentReason" "PAID_TOPUP" "Lcom/example/tollbook/tollbook/book/AdjustmentReason;" (.ref r0)) (SG1 : Sta Z Z.heap "com/example/tollbook/tollbook/book/AdjustmentReason" "GIFT" "Lcom/example/tollbook/tollbook/book/AdjustmentReason;" (.ref r1)) (SG2 : Sta Z Z.heap "com/example/tollbook/tollbook/book/AdjustmentReason" "REFUND" "Lcom/example/tollbook/tollbook/book/AdjustmentReason;" (.ref r2)) (SG3 : Sta Z Z.heap "com/example/tollbook/tollbook/book/AdjustmentReason" "OTHER" "Lcom/example/tollbook/tollbook/book/AdjustmentReason;" (.ref r3)) :
    CtW l x code maxLocals ret room_1 Z consts_1 [] h0 #[(.int x0), (.int x1), (.int x2), (.int x3), (.int x4)] (fun v h L => v = some (.int 1) ∧ Fr n0 L) := by
  refine CtW.body (plainFor_of_name pn_com_example_tollbook_tollbook_book_AdjustmentReasonOfPinLaw) ?_
  intro p e s m below meth c T0 hx hby hml hown hnm hret hlk hZ hW hsf X0 e0
  refine Go.cast (ef_law m x0 x1 x2 x3 x4) ?_
  show Go p e below _ T0 (mkF m 0 #[.val (.int x0), .val (.int x1), .val (.int x2), .val (.int x3), .val (.int x4), .unset, .unset, .unset, .unset, .unset, .unset, .unset, .unset, .unset] [])
  refine Go.s_iloadN X0 hx (hb hby at_0) (q := 1) rfl rfl ?_
  refine Go.s_iconst X0 hx (hb hby at_1) (q := 2) rfl (z := 3) rfl ?_
  refine Go.s_iand X0 hx (hb hby at_2) (q := 3) rfl ?_
  refine Go.callSW (y := mn_1) X0 hx hZ hown (w_ hw 0 rfl) (w_ hw 1 rfl) (w_ hw 2 rfl) (w_ hw 3 rfl) (by decide) e0 hEL hW (sf := []) all0 (argsL := [(.int (x0 &&& (3 : Int32)))]) (rest := []) (rm_nam l Z a0 hw (x0 &&& (3 : Int32)) h0 hEL) (by rw [hml]; rfl) (lenOf pd_7 rfl) rfl (hb hby at_3) (by decide) (by decide) (by decide) (by decide) ?_
  intro r1 T1 L1 q1 X1 hZ hown hW1
  obtain ⟨r1a, cs, rfl, rfl, E1, S1, c4, c10⟩ := q1
  rw [List.append_nil] at X1
  have Z0_v2 := Nat.le_trans Z0 E1.1
  have O0_v3 := Old.ext O0 E1
  show Go p e below _ T1 (mkF m 6 #[.val (.int x0), .val (.int x1), .val (.int x2), .val (.int x3), .val (.int x4), .unset, .unset, .unset, .unset, .unset, .unset, .unset, .unset, .unset] [(.ref r1a)])
  refine Go.s_astore X1 hx (hb hby at_6) (q := 8) rfl rfl (l' := #[.val (.int x0), .val (.int x1), .val (.int x2), .val (.int x3), .val (.int x4), .val (.ref r1a), .unset, .unset, .unset, .unset, .unset, .unset, .unset, .unset]) rfl ?_
  refine Go.s_aload X1 hx (hb hby at_8) (q := 10) rfl rfl rfl ?_
  refine Go.strLen X1 hx hZ hown (w_ hw 12 rfl) (w_ hw 13 rfl) (w_ hw 15 rfl) (w_ hw 14 rfl) (w_len hw) (w_ hw 6 rfl) rfl S1 (CS.ext O0_v3.2) hzc (by rw [hml]; rfl) (hb hby at_10) (by first | decide | exact Nat.le_of_ble_eq_true rfl) (by first | decide | exact Nat.le_of_ble_eq_true rfl) (by first | decide | exact Nat.le_of_ble_eq_true rfl) (by first | decide | exact Nat.le_of_ble_eq_true rfl) ?_
  intro T4 X4 e4
  show Go p e below _ T4 (mkF m 13 #[.val (.int x0), .val (.int x1), .val (.int x2), .val (.int x3), .val (.int x4), .val (.ref r1a), .unset, .unset, .unset, .unset, .unset, .unset, .unset, .unset] [(.int (Int32.ofNat cs.length))])
  refine Go.s_istore X4 hx (hb hby at_13) (q := 15) rfl (l' := #[.val (.int x0), .val (.int x1), .val (.int x2), .val (.int x3), .val (.int x4), .val (.ref r1a), .val (.int (Int32.ofNat cs.length)), .unset, .unset, .unset, .unset, .unset, .unset, .unset]) rfl ?_
  generalize hv5 : (Int32.ofNat cs.length) = v5
  obtain ⟨n4, n10⟩ := len_b hv5 c4 c10
  refine Go.s_iloadN X4 hx (hb hby at_15) (q := 16) rfl rfl ?_
  refine Go.s_ldc X4 hx (hb hby at_16) (q := 18) rfl hown (mvT hZ (w_ hw 25 rfl)) ?_
  refine Go.s_iand X4 hx (hb hby at_18) (q := 19) rfl ?_
  refine Go.s_iconst X4 hx (hb hby at_19) (q := 20) rfl (z := 5) rfl ?_
  refine Go.s_irem X4 hx (hb hby at_20) (q := 21) rfl (by decide) ?_
  refine Go.s_istore X4 hx (hb hby at_21) (q := 23) rfl (l' := #[.val (.int x0), .val (.int x1), .val (.int x2), .val (.int x3), .val (.int x4), .val (.ref r1a), .val (.int v5), .val (.int ((x1 &&& (2147483647 : Int32)) % (5 : Int32))), .unset, .unset, .unset, .unset, .unset, .unset]) rfl ?_
  generalize hv6 : ((x1 &&& (2147483647 : Int32)) % (5 : Int32)) = v6
  refine Go.s_iloadN X4 hx (hb hby at_23) (q := 24) rfl rfl ?_
  refine Go.s_sipush X4 hx (hb hby at_24) (q := 27) rfl (z := 255) rfl ?_
  refine Go.s_iand X4 hx (hb hby at_27) (q := 28) rfl ?_
  refine Go.s_i2c X4 hx (hb hby at_28) (q := 29) rfl ?_
  refine Go.s_istore X4 hx (hb hby at_29) (q := 31) rfl (l' := #[.val (.int x0), .val (.int x1), .val (.int x2), .val (.int x3), .val (.int x4), .val (.ref r1a), .val (.int v5), .val (.int v6), .val (.int ((x3 &&& (255 : Int32)).toUInt32.toUInt16.toUInt32.toInt32)), .unset, .unset, .unset, .unset, .unset]) rfl ?_
  generalize hv7 : ((x3 &&& (255 : Int32)).toUInt32.toUInt16.toUInt32.toInt32) = v7
  have ch_v7 := and255c hv7
  refine Go.s_iload X4 hx (hb hby at_31) (q := 33) rfl rfl ?_
  refine Go.s_sipush X4 hx (hb hby at_33) (q := 36) rfl (z := 255) rfl ?_
  refine Go.s_iand X4 hx (hb hby at_36) (q := 37) rfl ?_
  refine Go.s_i2c X4 hx (hb hby at_37) (q := 38) rfl ?_
  refine Go.s_istore X4 hx (hb hby at_38) (q := 40) rfl (l' := #[.val (.int x0), .val (.int x1), .val (.int x2), .val (.int x3), .val (.int x4), .val (.ref r1a), .val (.int v5), .val (.int v6), .val (.int v7), .val (.int ((x4 &&& (255 : Int32)).toUInt32.toUInt16.toUInt32.toInt32)), .unset, .unset, .unset, .unset]) rfl ?_
  generalize hv8 : ((x4 &&& (255 : Int32)).toUInt32.toUInt16.toUInt32.toInt32) = v8
  have ch_v8 := and255c hv8
  refine Go.s_iload X4 hx (hb hby at_40) (q := 42) rfl rfl ?_
  refine Go.s_iconst X4 hx (hb hby at_42) (q := 43) rfl (z := 2) rfl ?_
  by_cases c43_9 : v6 = (2 : Int32)
  · -- pc 43: v6 = (2 : Int32)
    refine Go.s_icmpNo X4 hx (hb hby at_43) (q := 46) rfl (teq c43_9).2 ?_
    refine Go.s_iload X4 hx (hb hby at_46) (q := 48) rfl rfl ?_
    refine Go.s_iconst X4 hx (hb hby at_48) (q := 49) rfl (z := 1) rfl ?_
    refine Go.s_isub X4 hx (hb hby at_49) (q := 50) rfl ?_
    refine Go.s_istore X4 hx (hb hby at_50) (q := 52) rfl (l' := #[.val (.int x0), .val (.int x1), .val (.int x2), .val (.int x3), .val (.int x4), .val (.ref r1a), .val (.int v5), .val (.int v6), .val (.int v7), .val (.int v8), .val (.int (v5 - (1 : Int32))), .unset, .unset, .unset]) rfl ?_
    generalize hv10 : (v5 - (1 : Int32)) = v10
    refine Go.s_goto X4 hx (hb hby at_52) (q := 92) (by decide) (by decide) ?_
    refine Go.s_iload X4 hx (hb hby at_92) (q := 94) rfl rfl ?_
    refine Go.callS (y := mn_4) X4 hx hZ hown (w_ hw 26 rfl) (w_ hw 27 rfl) (w_ hw 2 rfl) (w_ hw 28 rfl) (by decide) e4 (argsL := [(.int v10)]) (rest := []) (rm_bla l Z a0 hw v10 _) (by rw [hml]; rfl) (lenOf pd_8 rfl) rfl (hb hby at_94) (by decide) (by decide) (by decide) (by decide) ?_
    intro r11 T11 L11 q11 X11
    obtain ⟨r11a, k11a, z11a, rfl, rfl, E11, g11, hB, A11⟩ := q11
    rw [List.append_nil] at X11
    have g_a : n0 ≤ r11a := g11 ▸ Z0_v2
    have hka : T1.heap.size ≤ r11a := Nat.le_of_eq (g11).symm
    have Z0_v12 := Nat.le_trans Z0_v2 E11.1
    have O0_v13 := Old.ext O0_v3 E11
    have hW1_v14 := hW1.ext E11
    have S1_v15 := S1.ext E11
    show Go p e below _ T11 (mkF m 97 #[.val (.int x0), .val (.int x1), .val (.int x2), .val (.int x3), .val (.int x4), .val (.ref r1a), .val (.int v5), .val (.int v6), .val (.int v7), .val (.int v8), .val (.int v10), .unset, .unset, .unset] [(.ref r11a)])
    refine Go.s_astore X11 hx (hb hby at_97) (q := 99) rfl rfl (l' := #[.val (.int x0), .val (.int x1), .val (.int x2), .val (.int x3), .val (.int x4), .val (.ref r1a), .val (.int v5), .val (.int v6), .val (.int v7), .val (.int v8), .val (.int v10), .val (.ref r11a), .unset, .unset]) rfl ?_
    refine Go.s_iload X11 hx (hb hby at_99) (q := 101) rfl rfl ?_
    refine Go.s_iconst X11 hx (hb hby at_101) (q := 102) rfl (z := 4) rfl ?_
    have i102_16 : ¬ (v6 = (4 : Int32)) := by
      intro qq
      have := congrArg Int32.toInt c43_9
      have := (by decide : (2 : Int32).toInt = 2)
      have := (by decide : (4 : Int32).toInt = 4)
      have := congrArg Int32.toInt qq
      omega
    refine Go.s_icmpYes X11 hx (hb hby at_102) (q := 132) (by decide) (by decide) (feq i102_16).2 ?_
    refine Go.s_aload X11 hx (hb hby at_132) (q := 134) rfl rfl rfl ?_
    refine Go.s_iconst X11 hx (hb hby at_134) (q := 135) rfl (z := 0) rfl ?_
    refine Go.s_aload X11 hx (hb hby at_135) (q := 137) rfl rfl rfl ?_
    refine Go.s_iconst X11 hx (hb hby at_137) (q := 138) rfl (z := 0) rfl ?_
    refine Go.s_iload X11 hx (hb hby at_138) (q := 140) rfl rfl ?_
    refine Go.callS (y := mn_5) X11 hx hZ hown (w_ hw 30 rfl) (w_ hw 31 rfl) (w_ hw 2 rfl) (w_ hw 32 rfl) (by decide) rfl (argsL := [(.ref r1a), (.int (0 : Int32)), (.int v7)]) (rest := [(.int (0 : Int32)), (.ref r11a)]) (rm_src l Z a0 hw r1a (0 : Int32) v7 _ _ cs S1_v15 zc (CS.ext O0_v13.2) hzc fm (SF.ext O0_v13.2) rf (by decide) ch_v7) (by rw [hml]; rfl) (lenOf pd_13 rfl) rfl (hb hby at_140) (by first | decide | exact Nat.le_of_ble_eq_true rfl) (by first | decide | exact Nat.le_of_ble_eq_true rfl) (by first | decide | exact Nat.le_of_ble_eq_true rfl) (by first | decide | exact Nat.le_of_ble_eq_true rfl) ?_
    intro r17 T17 L17 q17 X17
    obtain ⟨w17, rfl, p17, rfl, e17⟩ := q17
    rw [List.append_nil] at X17
    show Go p e below _ T17 (mkF m 143 #[.val (.int x0), .val (.int x1), .val (.int x2), .val (.int x3), .val (.int x4), .val (.ref r1a), .val (.int v5), .val (.int v6), .val (.int v7), .val (.int v8), .val (.int v10), .val (.ref r11a), .unset, .unset] [(.int w17), (.int (0 : Int32)), (.ref r11a)])
    refine Go.callS (y := mn_11) X17 hx hZ hown (w_ hw 55 rfl) (w_ hw 56 rfl) (w_ hw 2 rfl) (w_ hw 57 rfl) (by decide) e17 (argsL := [(.ref r11a), (.int (0 : Int32)), (.int w17)]) (rest := []) (rm_put l Z a0 hw r11a (0 : Int32) w17 _ n0 g_a _ _ A11 (by decide) p17) (by rw [hml]; rfl) (lenOf pd_18 rfl) rfl (hb hby at_143) (by decide) (by decide) (by decide) (by decide) ?_
    intro r18 T18 L18 q18 X18
    obtain ⟨rfl, Nq18, K18, A18⟩ := q18
    have N18 := Fr.app (Fr.nil n0) Nq18
    have hWk18 := hW1_v14.keep K18 (sfS (CA.safe A11 hZ.alike) sf0)
    have O18 := Old.keep O0_v13 K18 (allS g_a all0)
    have S18k := S1_v15.keep K18 (allS hka all0)
    have Zk18 := Nat.le_trans Z0_v12 K18.1
    show Go p e below _ T18 (mkF m 146 #[.val (.int x0), .val (.int x1), .val (.int x2), .val (.int x3), .val (.int x4), .val (.ref r1a), .val (.int v5), .val (.int v6), .val (.int v7), .val (.int v8), .val (.int v10), .val (.ref r11a), .unset, .unset] [])
    refine Go.s_aload X18 hx (hb hby at_146) (q := 148) rfl rfl rfl ?_
    refine Go.s_iconst X18 hx (hb hby at_148) (q := 149) rfl (z := 1) rfl ?_
    refine Go.s_aload X18 hx (hb hby at_149) (q := 151) rfl rfl rfl ?_
    refine Go.s_iconst X18 hx (hb hby at_151) (q := 152) rfl (z := 1) rfl ?_
    refine Go.s_iload X18 hx (hb hby at_152) (q := 154) rfl rfl ?_
    refine Go.callS (y := mn_5) X18 hx hZ hown (w_ hw 30 rfl) (w_ hw 31 rfl) (w_ hw 2 rfl) (w_ hw 32 rfl) (by decide) rfl (argsL := [(.ref r1a), (.int (1 : Int32)), (.int v7)]) (rest := [(.int (1 : Int32)), (.ref r11a)]) (rm_src l Z a0 hw r1a (1 : Int32) v7 _ _ cs S18k zc (CS.ext O18.2) hzc fm (SF.ext O18.2) rf (by decide) ch_v7) (by rw [hml]; rfl) (lenOf pd_13 rfl) rfl (hb hby at_154) (by first | decide | exact Nat.le_of_ble_eq_true rfl) (by first | decide | exact Nat.le_of_ble_eq_true rfl) (by first | decide | exact Nat.le_of_ble_eq_true rfl) (by first | decide | exact Nat.le_of_ble_eq_true rfl) ?_
    intro r19 T19 L19 q19 X19
    obtain ⟨w19, rfl, p19, rfl, e19⟩ := q19
    rw [List.append_nil] at X19
    show Go p e below _ T19 (mkF m 157 #[.val (.int x0), .val (.int x1), .val (.int x2), .val (.int x3), .val (.int x4), .val (.ref r1a), .val (.int v5), .val (.int v6), .val (.int v7), .val (.int v8), .val (.int v10), .val (.ref r11a), .unset, .unset] [(.int w19), (.int (1 : Int32)), (.ref r11a)])
    refine Go.callS (y := mn_11) X19 hx hZ hown (w_ hw 55 rfl) (w_ hw 56 rfl) (w_ hw 2 rfl) (w_ hw 57 rfl) (by decide) e19 (argsL := [(.ref r11a), (.int (1 : Int32)), (.int w19)]) (rest := []) (rm_put l Z a0 hw r11a (1 : Int32) w19 _ n0 g_a _ _ A18 (by decide) p19) (by rw [hml]; rfl) (lenOf pd_18 rfl) rfl (hb hby at_157) (by decide) (by decide) (by decide) (by decide) ?_
    intro r20 T20 L20 q20 X20
    obtain ⟨rfl, Nq20, K20, A20⟩ := q20
    have N20 := Fr.app N18 Nq20
    have hWk20 := hWk18.keep K20 (sfS (CA.safe A18 hZ.alike) sf0)
    have O20 := Old.keep O18 K20 (allS g_a all0)
    have S20k := S18k.keep K20 (allS hka all0)
    have Zk20 := Nat.le_trans Zk18 K20.1
    show Go p e below _ T20 (mkF m 160 #[.val (.int x0), .val (.int x1), .val (.int x2), .val (.int x3), .val (.int x4), .val (.ref r1a), .val (.int v5), .val (.int v6), .val (.int v7), .val (.int v8), .val (.int v10), .val (.ref r11a), .unset, .unset] [])
    refine Go.s_aload X20 hx (hb hby at_160) (q := 162) rfl rfl rfl ?_
    refine Go.s_iconst X20 hx (hb hby at_162) (q := 163) rfl (z := 2) rfl ?_
    refine Go.s_aload X20 hx (hb hby at_163) (q := 165) rfl rfl rfl ?_
    refine Go.s_iconst X20 hx (hb hby at_165) (q := 166) rfl (z := 2) rfl ?_
    refine Go.s_iload X20 hx (hb hby at_166) (q := 168) rfl rfl ?_
    refine Go.callS (y := mn_5) X20 hx hZ hown (w_ hw 30 rfl) (w_ hw 31 rfl) (w_ hw 2 rfl) (w_ hw 32 rfl) (by decide) rfl (argsL := [(.ref r1a), (.int (2 : Int32)), (.int v7)]) (rest := [(.int (2 : Int32)), (.ref r11a)]) (rm_src l Z a0 hw r1a (2 : Int32) v7 _ _ cs S20k zc (CS.ext O20.2) hzc fm (SF.ext O20.2) rf (by decide) ch_v7) (by rw [hml]; rfl) (lenOf pd_13 rfl) rfl (hb hby at_168) (by first | decide | exact Nat.le_of_ble_eq_true rfl) (by first | decide | exact Nat.le_of_ble_eq_true rfl) (by first | decide | exact Nat.le_of_ble_eq_true rfl) (by first | decide | exact Nat.le_of_ble_eq_true rfl) ?_
    intro r21 T21 L21 q21 X21
    obtain ⟨w21, rfl, p21, rfl, e21⟩ := q21
    rw [List.append_nil] at X21
    show Go p e below _ T21 (mkF m 171 #[.val (.int x0), .val (.int x1), .val (.int x2), .val (.int x3), .val (.int x4), .val (.ref r1a), .val (.int v5), .val (.int v6), .val (.int v7), .val (.int v8), .val (.int v10), .val (.ref r11a), .unset, .unset] [(.int w21), (.int (2 : Int32)), (.ref r11a)])
    refine Go.callS (y := mn_11) X21 hx hZ hown (w_ hw 55 rfl) (w_ hw 56 rfl) (w_ hw 2 rfl) (w_ hw 57 rfl) (by decide) e21 (argsL := [(.ref r11a), (.int (2 : Int32)), (.int w21)]) (rest := []) (rm_put l Z a0 hw r11a (2 : Int32) w21 _ n0 g_a _ _ A20 (by decide) p21) (by rw [hml]; rfl) (lenOf pd_18 rfl) rfl (hb hby at_171) (by decide) (by decide) (by decide) (by decide) ?_
    intro r22 T22 L22 q22 X22
    obtain ⟨rfl, Nq22, K22, A22⟩ := q22
    have N22 := Fr.app N20 Nq22
    have hWk22 := hWk20.keep K22 (sfS (CA.safe A20 hZ.alike) sf0)
    have O22 := Old.keep O20 K22 (allS g_a all0)
    have S22k := S20k.keep K22 (allS hka all0)
    have Zk22 := Nat.le_trans Zk20 K22.1
    show Go p e below _ T22 (mkF m 174 #[.val (.int x0), .val (.int x1), .val (.int x2), .val (.int x3), .val (.int x4), .val (.ref r1a), .val (.int v5), .val (.int v6), .val (.int v7), .val (.int v8), .val (.int v10), .val (.ref r11a), .unset, .unset] [])
    refine Go.s_aload X22 hx (hb hby at_174) (q := 176) rfl rfl rfl ?_
    refine Go.s_iconst X22 hx (hb hby at_176) (q := 177) rfl (z := 3) rfl ?_
    refine Go.s_aload X22 hx (hb hby at_177) (q := 179) rfl rfl rfl ?_
    refine Go.s_iconst X22 hx (hb hby at_179) (q := 180) rfl (z := 3) rfl ?_
    refine Go.s_iload X22 hx (hb hby at_180) (q := 182) rfl rfl ?_
    refine Go.callS (y := mn_5) X22 hx hZ hown (w_ hw 30 rfl) (w_ hw 31 rfl) (w_ hw 2 rfl) (w_ hw 32 rfl) (by decide) rfl (argsL := [(.ref r1a), (.int (3 : Int32)), (.int v7)]) (rest := [(.int (3 : Int32)), (.ref r11a)]) (rm_src l Z a0 hw r1a (3 : Int32) v7 _ _ cs S22k zc (CS.ext O22.2) hzc fm (SF.ext O22.2) rf (by decide) ch_v7) (by rw [hml]; rfl) (lenOf pd_13 rfl) rfl (hb hby at_182) (by first | decide | exact Nat.le_of_ble_eq_true rfl) (by first | decide | exact Nat.le_of_ble_eq_true rfl) (by first | decide | exact Nat.le_of_ble_eq_true rfl) (by first | decide | exact Nat.le_of_ble_eq_true rfl) ?_
    intro r23 T23 L23 q23 X23
    obtain ⟨w23, rfl, p23, rfl, e23⟩ := q23
    rw [List.append_nil] at X23
    show Go p e below _ T23 (mkF m 185 #[.val (.int x0), .val (.int x1), .val (.int x2), .val (.int x3), .val (.int x4), .val (.ref r1a), .val (.int v5), .val (.int v6), .val (.int v7), .val (.int v8), .val (.int v10), .val (.ref r11a), .unset, .unset] [(.int w23), (.int (3 : Int32)), (.ref r11a)])
    refine Go.callS (y := mn_11) X23 hx hZ hown (w_ hw 55 rfl) (w_ hw 56 rfl) (w_ hw 2 rfl) (w_ hw 57 rfl) (by decide) e23 (argsL := [(.ref r11a), (.int (3 : Int32)), (.int w23)]) (rest := []) (rm_put l Z a0 hw r11a (3 : Int32) w23 _ n0 g_a _ _ A22 (by decide) p23) (by rw [hml]; rfl) (lenOf pd_18 rfl) rfl (hb hby at_185) (by decide) (by decide) (by decide) (by decide) ?_
    intro r24 T24 L24 q24 X24
    obtain ⟨rfl, Nq24, K24, A24⟩ := q24
    have N24 := Fr.app N22 Nq24
    have hWk24 := hWk22.keep K24 (sfS (CA.safe A22 hZ.alike) sf0)
    have O24 := Old.keep O22 K24 (allS g_a all0)
    have S24k := S22k.keep K24 (allS hka all0)
    have Zk24 := Nat.le_trans Zk22 K24.1
    show Go p e below _ T24 (mkF m 188 #[.val (.int x0), .val (.int x1), .val (.int x2), .val (.int x3), .val (.int x4), .val (.ref r1a), .val (.int v5), .val (.int v6), .val (.int v7), .val (.int v8), .val (.int v10), .val (.ref r11a), .unset, .unset] [])
    refine Go.s_aload X24 hx (hb hby at_188) (q := 190) rfl rfl rfl ?_
    refine Go.s_iconst X24 hx (hb hby at_190) (q := 191) rfl (z := 4) rfl ?_
    refine Go.s_aload X24 hx (hb hby at_191) (q := 193) rfl rfl rfl ?_
    refine Go.s_iconst X24 hx (hb hby at_193) (q := 194) rfl (z := 4) rfl ?_
    refine Go.s_iload X24 hx (hb hby at_194) (q := 196) rfl rfl ?_
    refine Go.callS (y := mn_5) X24 hx hZ hown (w_ hw 30 rfl) (w_ hw 31 rfl) (w_ hw 2 rfl) (w_ hw 32 rfl) (by decide) rfl (argsL := [(.ref r1a), (.int (4 : Int32)), (.int v7)]) (rest := [(.int (4 : Int32)), (.ref r11a)]) (rm_src l Z a0 hw r1a (4 : Int32) v7 _ _ cs S24k zc (CS.ext O24.2) hzc fm (SF.ext O24.2) rf (by decide) ch_v7) (by rw [hml]; rfl) (lenOf pd_13 rfl) rfl (hb hby at_196) (by first | decide | exact Nat.le_of_ble_eq_true rfl) (by first | decide | exact Nat.le_of_ble_eq_true rfl) (by first | decide | exact Nat.le_of_ble_eq_true rfl) (by first | decide | exact Nat.le_of_ble_eq_true rfl) ?_
    intro r25 T25 L25 q25 X25
    obtain ⟨w25, rfl, p25, rfl, e25⟩ := q25
    rw [List.append_nil] at X25
    show Go p e below _ T25 (mkF m 199 #[.val (.int x0), .val (.int x1), .val (.int x2), .val (.int x3), .val (.int x4), .val (.ref r1a), .val (.int v5), .val (.int v6), .val (.int v7), .val (.int v8), .val (.int v10), .val (.ref r11a), .unset, .unset] [(.int w25), (.int (4 : Int32)), (.ref r11a)])
    refine Go.callS (y := mn_11) X25 hx hZ hown (w_ hw 55 rfl) (w_ hw 56 rfl) (w_ hw 2 rfl) (w_ hw 57 rfl) (by decide) e25 (argsL := [(.ref r11a), (.int (4 : Int32)), (.int w25)]) (rest := []) (rm_put l Z a0 hw r11a (4 : Int32) w25 _ n0 g_a _ _ A24 (by decide) p25) (by rw [hml]; rfl) (lenOf pd_18 rfl) rfl (hb hby at_199) (by decide) (by decide) (by decide) (by decide) ?_
    intro r26 T26 L26 q26 X26
    obtain ⟨rfl, Nq26, K26, A26⟩ := q26
    have N26 := Fr.app N24 Nq26
    have hWk26 := hWk24.keep K26 (sfS (CA.safe A24 hZ.alike) sf0)
    have O26 := Old.keep O24 K26 (allS g_a all0)
    have S26k := S24k.keep K26 (allS hka all0)
    have Zk26 := Nat.le_trans Zk24 K26.1
    show Go p e below _ T26 (mkF m 202 #[.val (.int x0), .val (.int x1), .val (.int x2), .val (.int x3), .val (.int x4), .val (.ref r1a), .val (.int v5), .val (.int v6), .val (.int v7), .val (.int v8), .val (.int v10), .val (.ref r11a), .unset, .unset] [])
    refine Go.s_aload X26 hx (hb hby at_202) (q := 204) rfl rfl rfl ?_
    refine Go.s_iconst X26 hx (hb hby at_204) (q := 205) rfl (z := 5) rfl ?_
    refine Go.s_aload X26 hx (hb hby at_205) (q := 207) rfl rfl rfl ?_
    refine Go.s_iconst X26 hx (hb hby at_207) (q := 208) rfl (z := 5) rfl ?_
    refine Go.s_iload X26 hx (hb hby at_208) (q := 210) rfl rfl ?_
    refine Go.callS (y := mn_5) X26 hx hZ hown (w_ hw 30 rfl) (w_ hw 31 rfl) (w_ hw 2 rfl) (w_ hw 32 rfl) (by decide) rfl (argsL := [(.ref r1a), (.int (5 : Int32)), (.int v7)]) (rest := [(.int (5 : Int32)), (.ref r11a)]) (rm_src l Z a0 hw r1a (5 : Int32) v7 _ _ cs S26k zc (CS.ext O26.2) hzc fm (SF.ext O26.2) rf (by decide) ch_v7) (by rw [hml]; rfl) (lenOf pd_13 rfl) rfl (hb hby at_210) (by first | decide | exact Nat.le_of_ble_eq_true rfl) (by first | decide | exact Nat.le_of_ble_eq_true rfl) (by first | decide | exact Nat.le_of_ble_eq_true rfl) (by first | decide | exact Nat.le_of_ble_eq_true rfl) ?_
    intro r27 T27 L27 q27 X27
    obtain ⟨w27, rfl, p27, rfl, e27⟩ := q27
    rw [List.append_nil] at X27
    show Go p e below _ T27 (mkF m 213 #[.val (.int x0), .val (.int x1), .val (.int x2), .val (.int x3), .val (.int x4), .val (.ref r1a), .val (.int v5), .val (.int v6), .val (.int v7), .val (.int v8), .val (.int v10), .val (.ref r11a), .unset, .unset] [(.int w27), (.int (5 : Int32)), (.ref r11a)])
    refine Go.callS (y := mn_11) X27 hx hZ hown (w_ hw 55 rfl) (w_ hw 56 rfl) (w_ hw 2 rfl) (w_ hw 57 rfl) (by decide) e27 (argsL := [(.ref r11a), (.int (5 : Int32)), (.int w27)]) (rest := []) (rm_put l Z a0 hw r11a (5 : Int32) w27 _ n0 g_a _ _ A26 (by decide) p27) (by rw [hml]; rfl) (lenOf pd_18 rfl) rfl (hb hby at_213) (by decide) (by decide) (by decide) (by decide) ?_
    intro r28 T28 L28 q28 X28
    obtain ⟨rfl, Nq28, K28, A28⟩ := q28
    have N28 := Fr.app N26 Nq28
    have hWk28 := hWk26.keep K28 (sfS (CA.safe A26 hZ.alike) sf0)
    have O28 := Old.keep O26 K28 (allS g_a all0)
    have S28k := S26k.keep K28 (allS hka all0)
    have Zk28 := Nat.le_trans Zk26 K28.1
    show Go p e below _ T28 (mkF m 216 #[.val (.int x0), .val (.int x1), .val (.int x2), .val (.int x3), .val (.int x4), .val (.ref r1a), .val (.int v5), .val (.int v6), .val (.int v7), .val (.int v8), .val (.int v10), .val (.ref r11a), .unset, .unset] [])
    refine Go.s_aload X28 hx (hb hby at_216) (q := 218) rfl rfl rfl ?_
    refine Go.s_bipush X28 hx (hb hby at_218) (q := 220) rfl (z := 6) rfl ?_
    refine Go.s_aload X28 hx (hb hby at_220) (q := 222) rfl rfl rfl ?_
    refine Go.s_bipush X28 hx (hb hby at_222) (q := 224) rfl (z := 6) rfl ?_
    refine Go.s_iload X28 hx (hb hby at_224) (q := 226) rfl rfl ?_
    refine Go.callS (y := mn_5) X28 hx hZ hown (w_ hw 30 rfl) (w_ hw 31 rfl) (w_ hw 2 rfl) (w_ hw 32 rfl) (by decide) rfl (argsL := [(.ref r1a), (.int (6 : Int32)), (.int v7)]) (rest := [(.int (6 : Int32)), (.ref r11a)]) (rm_src l Z a0 hw r1a (6 : Int32) v7 _ _ cs S28k zc (CS.ext O28.2) hzc fm (SF.ext O28.2) rf (by decide) ch_v7) (by rw [hml]; rfl) (lenOf pd_13 rfl) rfl (hb hby at_226) (by first | decide | exact Nat.le_of_ble_eq_true rfl) (by first | decide | exact Nat.le_of_ble_eq_true rfl) (by first | decide | exact Nat.le_of_ble_eq_true rfl) (by first | decide | exact Nat.le_of_ble_eq_true rfl) ?_
    intro r29 T29 L29 q29 X29
    obtain ⟨w29, rfl, p29, rfl, e29⟩ := q29
    rw [List.append_nil] at X29
    show Go p e below _ T29 (mkF m 229 #[.val (.int x0), .val (.int x1), .val (.int x2), .val (.int x3), .val (.int x4), .val (.ref r1a), .val (.int v5), .val (.int v6), .val (.int v7), .val (.int v8), .val (.int v10), .val (.ref r11a), .unset, .unset] [(.int w29), (.int (6 : Int32)), (.ref r11a)])
    refine Go.callS (y := mn_11) X29 hx hZ hown (w_ hw 55 rfl) (w_ hw 56 rfl) (w_ hw 2 rfl) (w_ hw 57 rfl) (by decide) e29 (argsL := [(.ref r11a), (.int (6 : Int32)), (.int w29)]) (rest := []) (rm_put l Z a0 hw r11a (6 : Int32) w29 _ n0 g_a _ _ A28 (by decide) p29) (by rw [hml]; rfl) (lenOf pd_18 rfl) rfl (hb hby at_229) (by decide) (by decide) (by decide) (by decide) ?_
    intro r30 T30 L30 q30 X30
    obtain ⟨rfl, Nq30, K30, A30⟩ := q30
    have N30 := Fr.app N28 Nq30
    have hWk30 := hWk28.keep K30 (sfS (CA.safe A28 hZ.alike) sf0)
    have O30 := Old.keep O28 K30 (allS g_a all0)
    have S30k := S28k.keep K30 (allS hka all0)
    have Zk30 := Nat.le_trans Zk28 K30.1
    show Go p e below _ T30 (mkF m 232 #[.val (.int x0), .val (.int x1), .val (.int x2), .val (.int x3), .val (.int x4), .val (.ref r1a), .val (.int v5), .val (.int v6), .val (.int v7), .val (.int v8), .val (.int v10), .val (.ref r11a), .unset, .unset] [])
    refine Go.s_aload X30 hx (hb hby at_232) (q := 234) rfl rfl rfl ?_
    refine Go.s_bipush X30 hx (hb hby at_234) (q := 236) rfl (z := 7) rfl ?_
    refine Go.s_aload X30 hx (hb hby at_236) (q := 238) rfl rfl rfl ?_
    refine Go.s_bipush X30 hx (hb hby at_238) (q := 240) rfl (z := 7) rfl ?_
    refine Go.s_iload X30 hx (hb hby at_240) (q := 242) rfl rfl ?_
    refine Go.callS (y := mn_5) X30 hx hZ hown (w_ hw 30 rfl) (w_ hw 31 rfl) (w_ hw 2 rfl) (w_ hw 32 rfl) (by decide) rfl (argsL := [(.ref r1a), (.int (7 : Int32)), (.int v7)]) (rest := [(.int (7 : Int32)), (.ref r11a)]) (rm_src l Z a0 hw r1a (7 : Int32) v7 _ _ cs S30k zc (CS.ext O30.2) hzc fm (SF.ext O30.2) rf (by decide) ch_v7) (by rw [hml]; rfl) (lenOf pd_13 rfl) rfl (hb hby at_242) (by first | decide | exact Nat.le_of_ble_eq_true rfl) (by first | decide | exact Nat.le_of_ble_eq_true rfl) (by first | decide | exact Nat.le_of_ble_eq_true rfl) (by first | decide | exact Nat.le_of_ble_eq_true rfl) ?_
    intro r31 T31 L31 q31 X31
    obtain ⟨w31, rfl, p31, rfl, e31⟩ := q31
    rw [List.append_nil] at X31
    show Go p e below _ T31 (mkF m 245 #[.val (.int x0), .val (.int x1), .val (.int x2), .val (.int x3), .val (.int x4), .val (.ref r1a), .val (.int v5), .val (.int v6), .val (.int v7), .val (.int v8), .val (.int v10), .val (.ref r11a), .unset, .unset] [(.int w31), (.int (7 : Int32)), (.ref r11a)])
    refine Go.callS (y := mn_11) X31 hx hZ hown (w_ hw 55 rfl) (w_ hw 56 rfl) (w_ hw 2 rfl) (w_ hw 57 rfl) (by decide) e31 (argsL := [(.ref r11a), (.int (7 : Int32)), (.int w31)]) (rest := []) (rm_put l Z a0 hw r11a (7 : Int32) w31 _ n0 g_a _ _ A30 (by decide) p31) (by rw [hml]; rfl) (lenOf pd_18 rfl) rfl (hb hby at_245) (by decide) (by decide) (by decide) (by decide) ?_
    intro r32 T32 L32 q32 X32
    obtain ⟨rfl, Nq32, K32, A32⟩ := q32
    have N32 := Fr.app N30 Nq32
    have hWk32 := hWk30.keep K32 (sfS (CA.safe A30 hZ.alike) sf0)
    have O32 := Old.keep O30 K32 (allS g_a all0)
    have S32k := S30k.keep K32 (allS hka all0)
    have Zk32 := Nat.le_trans Zk30 K32.1
    show Go p e below _ T32 (mkF m 248 #[.val (.int x0), .val (.int x1), .val (.int x2), .val (.int x3), .val (.int x4), .val (.ref r1a), .val (.int v5), .val (.int v6), .val (.int v7), .val (.int v8), .val (.int v10), .val (.ref r11a), .unset, .unset] [])
    refine Go.s_aload X32 hx (hb hby at_248) (q := 250) rfl rfl rfl ?_
    refine Go.s_bipush X32 hx (hb hby at_250) (q := 252) rfl (z := 8) rfl ?_
    refine Go.s_aload X32 hx (hb hby at_252) (q := 254) rfl rfl rfl ?_
    refine Go.s_bipush X32 hx (hb hby at_254) (q := 256) rfl (z := 8) rfl ?_
    refine Go.s_iload X32 hx (hb hby at_256) (q := 258) rfl rfl ?_
    refine Go.callS (y := mn_5) X32 hx hZ hown (w_ hw 30 rfl) (w_ hw 31 rfl) (w_ hw 2 rfl) (w_ hw 32 rfl) (by decide) rfl (argsL := [(.ref r1a), (.int (8 : Int32)), (.int v7)]) (rest := [(.int (8 : Int32)), (.ref r11a)]) (rm_src l Z a0 hw r1a (8 : Int32) v7 _ _ cs S32k zc (CS.ext O32.2) hzc fm (SF.ext O32.2) rf (by decide) ch_v7) (by rw [hml]; rfl) (lenOf pd_13 rfl) rfl (hb hby at_258) (by first | decide | exact Nat.le_of_ble_eq_true rfl) (by first | decide | exact Nat.le_of_ble_eq_true rfl) (by first | decide | exact Nat.le_of_ble_eq_true rfl) (by first | decide | exact Nat.le_of_ble_eq_true rfl) ?_
    intro r33 T33 L33 q33 X33
    obtain ⟨w33, rfl, p33, rfl, e33⟩ := q33
    rw [List.append_nil] at X33
    show Go p e below _ T33 (mkF m 261 #[.val (.int x0), .val (.int x1), .val (.int x2), .val (.int x3), .val (.int x4), .val (.ref r1a), .val (.int v5), .val (.int v6), .val (.int v7), .val (.int v8), .val (.int v10), .val (.ref r11a), .unset, .unset] [(.int w33), (.int (8 : Int32)), (.ref r11a)])
    refine Go.callS (y := mn_11) X33 hx hZ hown (w_ hw 55 rfl) (w_ hw 56 rfl) (w_ hw 2 rfl) (w_ hw 57 rfl) (by decide) e33 (argsL := [(.ref r11a), (.int (8 : Int32)), (.int w33)]) (rest := []) (rm_put l Z a0 hw r11a (8 : Int32) w33 _ n0 g_a _ _ A32 (by decide) p33) (by rw [hml]; rfl) (lenOf pd_18 rfl) rfl (hb hby at_261) (by decide) (by decide) (by decide) (by decide) ?_
    intro r34 T34 L34 q34 X34
    obtain ⟨rfl, Nq34, K34, A34⟩ := q34
    have N34 := Fr.app N32 Nq34
    have hWk34 := hWk32.keep K34 (sfS (CA.safe A32 hZ.alike) sf0)
    have O34 := Old.keep O32 K34 (allS g_a all0)
    have S34k := S32k.keep K34 (allS hka all0)
    have Zk34 := Nat.le_trans Zk32 K34.1
    show Go p e below _ T34 (mkF m 264 #[.val (.int x0), .val (.int x1), .val (.int x2), .val (.int x3), .val (.int x4), .val (.ref r1a), .val (.int v5), .val (.int v6), .val (.int v7), .val (.int v8), .val (.int v10), .val (.ref r11a), .unset, .unset] [])
    refine Go.s_aload X34 hx (hb hby at_264) (q := 266) rfl rfl rfl ?_
    refine Go.s_bipush X34 hx (hb hby at_266) (q := 268) rfl (z := 9) rfl ?_
    refine Go.s_aload X34 hx (hb hby at_268) (q := 270) rfl rfl rfl ?_
    refine Go.s_bipush X34 hx (hb hby at_270) (q := 272) rfl (z := 9) rfl ?_
    refine Go.s_iload X34 hx (hb hby at_272) (q := 274) rfl rfl ?_
    refine Go.callS (y := mn_5) X34 hx hZ hown (w_ hw 30 rfl) (w_ hw 31 rfl) (w_ hw 2 rfl) (w_ hw 32 rfl) (by decide) rfl (argsL := [(.ref r1a), (.int (9 : Int32)), (.int v7)]) (rest := [(.int (9 : Int32)), (.ref r11a)]) (rm_src l Z a0 hw r1a (9 : Int32) v7 _ _ cs S34k zc (CS.ext O34.2) hzc fm (SF.ext O34.2) rf (by decide) ch_v7) (by rw [hml]; rfl) (lenOf pd_13 rfl) rfl (hb hby at_274) (by first | decide | exact Nat.le_of_ble_eq_true rfl) (by first | decide | exact Nat.le_of_ble_eq_true rfl) (by first | decide | exact Nat.le_of_ble_eq_true rfl) (by first | decide | exact Nat.le_of_ble_eq_true rfl) ?_
    intro r35 T35 L35 q35 X35
    obtain ⟨w35, rfl, p35, rfl, e35⟩ := q35
    rw [List.append_nil] at X35
    show Go p e below _ T35 (mkF m 277 #[.val (.int x0), .val (.int x1), .val (.int x2), .val (.int x3), .val (.int x4), .val (.ref r1a), .val (.int v5), .val (.int v6), .val (.int v7), .val (.int v8), .val (.int v10), .val (.ref r11a), .unset, .unset] [(.int w35), (.int (9 : Int32)), (.ref r11a)])
    refine Go.callS (y := mn_11) X35 hx hZ hown (w_ hw 55 rfl) (w_ hw 56 rfl) (w_ hw 2 rfl) (w_ hw 57 rfl) (by decide) e35 (argsL := [(.ref r11a), (.int (9 : Int32)), (.int w35)]) (rest := []) (rm_put l Z a0 hw r11a (9 : Int32) w35 _ n0 g_a _ _ A34 (by decide) p35) (by rw [hml]; rfl) (lenOf pd_18 rfl) rfl (hb hby at_277) (by decide) (by decide) (by decide) (by decide) ?_
    intro r36 T36 L36 q36 X36
    obtain ⟨rfl, Nq36, K36, A36⟩ := q36
    have N36 := Fr.app N34 Nq36
    have hWk36 := hWk34.keep K36 (sfS (CA.safe A34 hZ.alike) sf0)
    have O36 := Old.keep O34 K36 (allS g_a all0)
    have S36k := S34k.keep K36 (allS hka all0)
    have Zk36 := Nat.le_trans Zk34 K36.1
    show Go p e below _ T36 (mkF m 280 #[.val (.int x0), .val (.int x1), .val (.int x2), .val (.int x3), .val (.int x4), .val (.ref r1a), .val (.int v5), .val (.int v6), .val (.int v7), .val (.int v8), .val (.int v10), .val (.ref r11a), .unset, .unset] [])
    refine Go.s_aload X36 hx (hb hby at_280) (q := 282) rfl rfl rfl ?_
    refine Go.s_bipush X36 hx (hb hby at_282) (q := 284) rfl (z := 10) rfl ?_
    refine Go.s_aload X36 hx (hb hby at_284) (q := 286) rfl rfl rfl ?_
    refine Go.s_bipush X36 hx (hb hby at_286) (q := 288) rfl (z := 10) rfl ?_
    refine Go.s_iload X36 hx (hb hby at_288) (q := 290) rfl rfl ?_
    refine Go.callS (y := mn_5) X36 hx hZ hown (w_ hw 30 rfl) (w_ hw 31 rfl) (w_ hw 2 rfl) (w_ hw 32 rfl) (by decide) rfl (argsL := [(.ref r1a), (.int (10 : Int32)), (.int v7)]) (rest := [(.int (10 : Int32)), (.ref r11a)]) (rm_src l Z a0 hw r1a (10 : Int32) v7 _ _ cs S36k zc (CS.ext O36.2) hzc fm (SF.ext O36.2) rf (by decide) ch_v7) (by rw [hml]; rfl) (lenOf pd_13 rfl) rfl (hb hby at_290) (by first | decide | exact Nat.le_of_ble_eq_true rfl) (by first | decide | exact Nat.le_of_ble_eq_true rfl) (by first | decide | exact Nat.le_of_ble_eq_true rfl) (by first | decide | exact Nat.le_of_ble_eq_true rfl) ?_
    intro r37 T37 L37 q37 X37
    obtain ⟨w37, rfl, p37, rfl, e37⟩ := q37
    rw [List.append_nil] at X37
    show Go p e below _ T37 (mkF m 293 #[.val (.int x0), .val (.int x1), .val (.int x2), .val (.int x3), .val (.int x4), .val (.ref r1a), .val (.int v5), .val (.int v6), .val (.int v7), .val (.int v8), .val (.int v10), .val (.ref r11a), .unset, .unset] [(.int w37), (.int (10 : Int32)), (.ref r11a)])
    refine Go.callS (y := mn_11) X37 hx hZ hown (w_ hw 55 rfl) (w_ hw 56 rfl) (w_ hw 2 rfl) (w_ hw 57 rfl) (by decide) e37 (argsL := [(.ref r11a), (.int (10 : Int32)), (.int w37)]) (rest := []) (rm_put l Z a0 hw r11a (10 : Int32) w37 _ n0 g_a _ _ A36 (by decide) p37) (by rw [hml]; rfl) (lenOf pd_18 rfl) rfl (hb hby at_293) (by decide) (by decide) (by decide) (by decide) ?_
    intro r38 T38 L38 q38 X38
    obtain ⟨rfl, Nq38, K38, A38⟩ := q38
    have N38 := Fr.app N36 Nq38
    have hWk38 := hWk36.keep K38 (sfS (CA.safe A36 hZ.alike) sf0)
    have O38 := Old.keep O36 K38 (allS g_a all0)
    have S38k := S36k.keep K38 (allS hka all0)
    have Zk38 := Nat.le_trans Zk36 K38.1
    show Go p e below _ T38 (mkF m 296 #[.val (.int x0), .val (.int x1), .val (.int x2), .val (.int x3), .val (.int x4), .val (.ref r1a), .val (.int v5), .val (.int v6), .val (.int v7), .val (.int v8), .val (.int v10), .val (.ref r11a), .unset, .unset] [])
    refine Go.s_iload X38 hx (hb hby at_296) (q := 298) rfl rfl ?_
    refine Go.s_iconst X38 hx (hb hby at_298) (q := 299) rfl (z := 1) rfl ?_
    have i299_39 : ¬ (v6 = (1 : Int32)) := by
      intro qq
      have := congrArg Int32.toInt c43_9
      have := mt Int32.toInt_inj.mp i102_16
      have := (by decide : (1 : Int32).toInt = 1)
      have := (by decide : (2 : Int32).toInt = 2)
      have := (by decide : (4 : Int32).toInt = 4)
      have := congrArg Int32.toInt qq
      omega
    refine Go.s_icmpYes X38 hx (hb hby at_299) (q := 314) (by decide) (by decide) (feq i299_39).2 ?_
    refine Go.newO X38 hx hZ hown (w_ hw 58 rfl) (w_ hw 6 rfl) (w_ hw 5 rfl) rfl (hb hby at_314) (by decide) (by decide) ?_
    intro T40 h40 b40 g40 X40 e40 E40 A40 D40
    have g_b40 : n0 ≤ b40 := g40 ▸ Zk38
    have Zk38_v41 := Nat.le_trans Zk38 E40.1
    have O38_v42 := Old.ext O38 E40
    have hWk38_v43 := hWk38.ext E40
    have S38k_v44 := S38k.ext E40
    have A38_v45 := A38.ext E40
    have F_value_b40 : Fld Z h40 b40 "java/lang/String" "value" "[B" .null := D40 (Or.inr (w_ hw 8 rfl)) (ty := (.array .byte)) (by decide)
    have F_coder_b40 : Fld Z h40 b40 "java/lang/String" "coder" "B" (.int (0 : Int32)) := D40 (Or.inr (w_ hw 9 rfl)) (ty := .byte) (by decide)
    have hsx : Safe Z consts_1 _ h40 b40 := Safe.ext E40 hWk38.2.1 (Safe.new (Nat.le_of_eq g40.symm))
    show Go p e below _ T40 (mkF m 317 #[.val (.int x0), .val (.int x1), .val (.int x2), .val (.int x3), .val (.int x4), .val (.ref r1a), .val (.int v5), .val (.int v6), .val (.int v7), .val (.int v8), .val (.int v10), .val (.ref r11a), .unset, .unset] [(.ref b40)])
    refine Go.s_dup X40 hx (hb hby at_317) (q := 318) rfl rfl ?_
    refine Go.s_aload X40 hx (hb hby at_318) (q := 320) rfl rfl rfl ?_
    by_cases hz0 : z11a = 0
    · obtain ⟨as, hl1, hl2, V_b⟩ := id A38_v45
      rw [hz0] at V_b
      refine Go.callCW (y := mn_12) X40 hx hZ rfl hown (w_ hw 59 rfl) (w_ hw 60 rfl) (w_ hw 61 rfl) (w_ hw 5 rfl) (by decide) e40 hEL hWk38_v43 (sf := [b40]) (allS ⟨hsx, A40.lt⟩ all0) (b := b40) (argsL := [(.ref r11a)]) (rest := [(.ref b40)]) (rm_ini1 l Z a0 hw b40 r11a h40 hEL n0 _ _ A40 F_value_b40 F_coder_b40 g_b40 _ _ V_b) (by rw [hml]; rfl) (lenOf pdNew rfl) rfl (hb hby at_320) (by first | decide | exact Nat.le_of_ble_eq_true rfl) (by first | decide | exact Nat.le_of_ble_eq_true rfl) (by first | decide | exact Nat.le_of_ble_eq_true rfl) (by first | decide | exact Nat.le_of_ble_eq_true rfl) ?_
      intro r46 T46 L46 q46 X46 hZ hown hW46
      obtain ⟨rfl, Nq46, K46, S46⟩ := q46
      have N46 := Fr.app N38 Nq46
      have O46 := Old.keep O38_v42 K46 (allS g_b40 all0)
      have Zk46 := Nat.le_trans Zk38_v41 K46.1
      generalize hds : tx4 = ds at S46
      show Go p e below _ T46 (mkF m 323 #[.val (.int x0), .val (.int x1), .val (.int x2), .val (.int x3), .val (.int x4), .val (.ref r1a), .val (.int v5), .val (.int v6), .val (.int v7), .val (.int v8), .val (.int v10), .val (.ref r11a), .unset, .unset] [(.ref b40)])
      refine Go.s_astore X46 hx (hb hby at_323) (q := 325) rfl rfl (l' := #[.val (.int x0), .val (.int x1), .val (.int x2), .val (.int x3), .val (.int x4), .val (.ref r1a), .val (.int v5), .val (.int v6), .val (.int v7), .val (.int v8), .val (.int v10), .val (.ref r11a), .val (.ref b40), .unset]) rfl ?_
      refine Go.s_aload X46 hx (hb hby at_325) (q := 327) rfl rfl rfl ?_
      refine Go.callS (y := mn_18) X46 hx hZ hown (w_ hw 79 rfl) (w_ hw 80 rfl) (w_ hw 81 rfl) (w_ hw 82 rfl) (by decide) rfl (argsL := [(.ref b40)]) (rest := []) (rm_of l Z a0 hw b40 _ _ _ ds S46 zc (CS.ext O46.2) hzc av r0 r1 r2 r3 kc (S_VALUES.ext O46.2) (V_av.ext O46.2) (E_av.ext O46.2) w0 w1 w2 w3 (FW0.ext O46.2) (SW0.ext O46.2) (FW1.ext O46.2) (SW1.ext O46.2) (FW2.ext O46.2) (SW2.ext O46.2) (FW3.ext O46.2) (SW3.ext O46.2)) (by rw [hml]; rfl) (lenOf pd_12 rfl) rfl (hb hby at_327) (by decide) (by decide) (by decide) (by decide) ?_
      intro r47 T47 L47 q47 X47
      obtain ⟨rfl, rfl, E47⟩ := q47
      rw [List.append_nil] at X47
      have Zk46_v48 := Nat.le_trans Zk46 E47.1
      have O46_v49 := Old.ext O46 E47
      have hW46_v50 := hW46.ext E47
      have S46_v51 := S46.ext E47
      rcases pick_is r0 r1 r2 r3 ds with ⟨qr, hq⟩ | hq
      · rw [hq]
        show Go p e below _ T47 (mkF m 330 #[.val (.int x0), .val (.int x1), .val (.int x2), .val (.int x3), .val (.int x4), .val (.ref r1a), .val (.int v5), .val (.int v6), .val (.int v7), .val (.int v8), .val (.int v10), .val (.ref r11a), .val (.ref b40), .unset] [(.ref qr)])
        refine Go.s_astore X47 hx (hb hby at_330) (q := 332) rfl rfl (l' := #[.val (.int x0), .val (.int x1), .val (.int x2), .val (.int x3), .val (.int x4), .val (.ref r1a), .val (.int v5), .val (.int v6), .val (.int v7), .val (.int v8), .val (.int v10), .val (.ref r11a), .val (.ref b40), .val (.ref qr)]) rfl ?_
        refine Go.s_aload X47 hx (hb hby at_332) (q := 334) rfl rfl rfl ?_
        refine Go.s_aload X47 hx (hb hby at_334) (q := 336) rfl rfl rfl ?_
        refine Go.callSW (y := mn_22) X47 hx hZ hown (w_ hw 113 rfl) (w_ hw 114 rfl) (w_ hw 2 rfl) (w_ hw 115 rfl) (by decide) rfl hEL hW46_v50 (sf := []) all0 (argsL := [(.ref b40)]) (rest := [(.ref qr)]) (rm_exp l Z a0 hw b40 _ hEL _ ds S46_v51 zc (CS.ext O46_v49.2) hzc r0 r1 r2 r3 (SG0.ext O46_v49.2) (SG1.ext O46_v49.2) (SG2.ext O46_v49.2) (SG3.ext O46_v49.2)) (by rw [hml]; rfl) (lenOf pd_12 rfl) rfl (hb hby at_336) (by first | decide | exact Nat.le_of_ble_eq_true rfl) (by first | decide | exact Nat.le_of_ble_eq_true rfl) (by first | decide | exact Nat.le_of_ble_eq_true rfl) (by first | decide | exact Nat.le_of_ble_eq_true rfl) ?_
        intro r52 T52 L52 q52 X52 hZ hown hW52
        obtain ⟨rfl, rfl⟩ := q52
        rw [List.append_nil] at X52
        rw [hq]
        show Go p e below _ T52 (mkF m 339 #[.val (.int x0), .val (.int x1), .val (.int x2), .val (.int x3), .val (.int x4), .val (.ref r1a), .val (.int v5), .val (.int v6), .val (.int v7), .val (.int v8), .val (.int v10), .val (.ref r11a), .val (.ref b40), .val (.ref qr)] [(.ref qr), (.ref qr)])
        refine Go.s_acmp X52 hx (q := 342) (hb hby at_339) rfl rfl (same := true) (decide_eq_true rfl) (by decide) (by decide) ?_
        refine Go.s_iconst X52 hx (hb hby at_342) (q := 343) rfl (z := 1) rfl ?_
        refine Go.s_goto X52 hx (hb hby at_343) (q := 347) (by decide) (by decide) ?_
        refine Go.retNW X52 hx hZ hEL rfl hW52 hlk hret (by simp) (hb hby at_347) (by decide) (by decide) ?_
        exact ⟨by decide, N46⟩
      · rw [hq]
        show Go p e below _ T47 (mkF m 330 #[.val (.int x0), .val (.int x1), .val (.int x2), .val (.int x3), .val (.int x4), .val (.ref r1a), .val (.int v5), .val (.int v6), .val (.int v7), .val (.int v8), .val (.int v10), .val (.ref r11a), .val (.ref b40), .unset] [.null])
        refine Go.s_astore X47 hx (hb hby at_330) (q := 332) rfl rfl (l' := #[.val (.int x0), .val (.int x1), .val (.int x2), .val (.int x3), .val (.int x4), .val (.ref r1a), .val (.int v5), .val (.int v6), .val (.int v7), .val (.int v8), .val (.int v10), .val (.ref r11a), .val (.ref b40), .val .null]) rfl ?_
        refine Go.s_aload X47 hx (hb hby at_332) (q := 334) rfl rfl rfl ?_
        refine Go.s_aload X47 hx (hb hby at_334) (q := 336) rfl rfl rfl ?_
        refine Go.callSW (y := mn_22) X47 hx hZ hown (w_ hw 113 rfl) (w_ hw 114 rfl) (w_ hw 2 rfl) (w_ hw 115 rfl) (by decide) rfl hEL hW46_v50 (sf := []) all0 (argsL := [(.ref b40)]) (rest := [.null]) (rm_exp l Z a0 hw b40 _ hEL _ ds S46_v51 zc (CS.ext O46_v49.2) hzc r0 r1 r2 r3 (SG0.ext O46_v49.2) (SG1.ext O46_v49.2) (SG2.ext O46_v49.2) (SG3.ext O46_v49.2)) (by rw [hml]; rfl) (lenOf pd_12 rfl) rfl (hb hby at_336) (by first | decide | exact Nat.le_of_ble_eq_true rfl) (by first | decide | exact Nat.le_of_ble_eq_true rfl) (by first | decide | exact Nat.le_of_ble_eq_true rfl) (by first | decide | exact Nat.le_of_ble_eq_true rfl) ?_
        intro r53 T53 L53 q53 X53 hZ hown hW53
        obtain ⟨rfl, rfl⟩ := q53
        rw [List.append_nil] at X53
        rw [hq]
        show Go p e below _ T53 (mkF m 339 #[.val (.int x0), .val (.int x1), .val (.int x2), .val (.int x3), .val (.int x4), .val (.ref r1a), .val (.int v5), .val (.int v6), .val (.int v7), .val (.int v8), .val (.int v10), .val (.ref r11a), .val (.ref b40), .val .null] [.null, .null])
        refine Go.s_acmp X53 hx (q := 342) (hb hby at_339) rfl rfl (same := true) (decide_eq_true rfl) (by decide) (by decide) ?_
        refine Go.s_iconst X53 hx (hb hby at_342) (q := 343) rfl (z := 1) rfl ?_
        refine Go.s_goto X53 hx (hb hby at_343) (q := 347) (by decide) (by decide) ?_
        refine Go.retNW X53 hx hZ hEL rfl hW53 hlk hret (by simp) (hb hby at_347) (by decide) (by decide) ?_
        exact ⟨by decide, N46⟩
    · refine Go.strNew (cap := 11) X40 hx hZ hown (w_ hw 59 rfl) (w_ hw 60 rfl) (w_ hw 61 rfl) (w_new hw) (w_ hw 6 rfl) e40 g_b40 Zk38_v41 A40 F_value_b40 F_coder_b40 A38_v45 hz0 (cap11 hB) (by decide) (CS.ext O38_v42.2) hzc (by rw [hml]; rfl) (hb hby at_320) (by first | decide | exact Nat.le_of_ble_eq_true rfl) (by first | decide | exact Nat.le_of_ble_eq_true rfl) (by first | decide | exact Nat.le_of_ble_eq_true rfl) (by first | decide | exact Nat.le_of_ble_eq_true rfl) ?_
      intro T54 L54 as54 X54 Nq54 K54 S54
      have hW54 := hWk38_v43.keep K54 (sfS hsx sf0)
      have N54 := Fr.app N38 Nq54
      have O54 := Old.keep O38_v42 K54 (allS g_b40 all0)
      have Zk54 := Nat.le_trans Zk38_v41 K54.1
      generalize hds : as54 = ds at S54
      show Go p e below _ T54 (mkF m 323 #[.val (.int x0), .val (.int x1), .val (.int x2), .val (.int x3), .val (.int x4), .val (.ref r1a), .val (.int v5), .val (.int v6), .val (.int v7), .val (.int v8), .val (.int v10), .val (.ref r11a), .unset, .unset] [(.ref b40)])
      refine Go.s_astore X54 hx (hb hby at_323) (q := 325) rfl rfl (l' := #[.val (.int x0), .val (.int x1), .val (.int x2), .val (.int x3), .val (.int x4), .val (.ref r1a), .val (.int v5), .val (.int v6), .val (.int v7), .val (.int v8), .val (.int v10), .val (.ref r11a), .val (.ref b40), .unset]) rfl ?_
      refine Go.s_aload X54 hx (hb hby at_325) (q := 327) rfl rfl rfl ?_
      refine Go.callS (y := mn_18) X54 hx hZ hown (w_ hw 79 rfl) (w_ hw 80 rfl) (w_ hw 81 rfl) (w_ hw 82 rfl) (by decide) rfl (argsL := [(.ref b40)]) (rest := []) (rm_of l Z a0 hw b40 _ _ _ ds S54 zc (CS.ext O54.2) hzc av r0 r1 r2 r3 kc (S_VALUES.ext O54.2) (V_av.ext O54.2) (E_av.ext O54.2) w0 w1 w2 w3 (FW0.ext O54.2) (SW0.ext O54.2) (FW1.ext O54.2) (SW1.ext O54.2) (FW2.ext O54.2) (SW2.ext O54.2) (FW3.ext O54.2) (SW3.ext O54.2)) (by rw [hml]; rfl) (lenOf pd_12 rfl) rfl (hb hby at_327) (by decide) (by decide) (by decide) (by decide) ?_
      intro r55 T55 L55 q55 X55
      obtain ⟨rfl, rfl, E55⟩ := q55
      rw [List.append_nil] at X55
      have Zk54_v56 := Nat.le_trans Zk54 E55.1
      have O54_v57 := Old.ext O54 E55
      have hW54_v58 := hW54.ext E55
      have S54_v59 := S54.ext E55
      rcases pick_is r0 r1 r2 r3 ds with ⟨qr, hq⟩ | hq
      · rw [hq]
        show Go p e below _ T55 (mkF m 330 #[.val (.int x0), .val (.int x1), .val (.int x2), .val (.int x3), .val (.int x4), .val (.ref r1a), .val (.int v5), .val (.int v6), .val (.int v7), .val (.int v8), .val (.int v10), .val (.ref r11a), .val (.ref b40), .unset] [(.ref qr)])
        refine Go.s_astore X55 hx (hb hby at_330) (q := 332) rfl rfl (l' := #[.val (.int x0), .val (.int x1), .val (.int x2), .val (.int x3), .val (.int x4), .val (.ref r1a), .val (.int v5), .val (.int v6), .val (.int v7), .val (.int v8), .val (.int v10), .val (.ref r11a), .val (.ref b40), .val (.ref qr)]) rfl ?_
        refine Go.s_aload X55 hx (hb hby at_332) (q := 334) rfl rfl rfl ?_
        refine Go.s_aload X55 hx (hb hby at_334) (q := 336) rfl rfl rfl ?_
        refine Go.callSW (y := mn_22) X55 hx hZ hown (w_ hw 113 rfl) (w_ hw 114 rfl) (w_ hw 2 rfl) (w_ hw 115 rfl) (by decide) rfl hEL hW54_v58 (sf := []) all0 (argsL := [(.ref b40)]) (rest := [(.ref qr)]) (rm_exp l Z a0 hw b40 _ hEL _ ds S54_v59 zc (CS.ext O54_v57.2) hzc r0 r1 r2 r3 (SG0.ext O54_v57.2) (SG1.ext O54_v57.2) (SG2.ext O54_v57.2) (SG3.ext O54_v57.2)) (by rw [hml]; rfl) (lenOf pd_12 rfl) rfl (hb hby at_336) (by first | decide | exact Nat.le_of_ble_eq_true rfl) (by first | decide | exact Nat.le_of_ble_eq_true rfl) (by first | decide | exact Nat.le_of_ble_eq_true rfl) (by first | decide | exact Nat.le_of_ble_eq_true rfl) ?_
        intro r60 T60 L60 q60 X60 hZ hown hW60
        obtain ⟨rfl, rfl⟩ := q60
        rw [List.append_nil] at X60
        rw [hq]
        show Go p e below _ T60 (mkF m 339 #[.val (.int x0), .val (.int x1), .val (.int x2), .val (.int x3), .val (.int x4), .val (.ref r1a), .val (.int v5), .val (.int v6), .val (.int v7), .val (.int v8), .val (.int v10), .val (.ref r11a), .val (.ref b40), .val (.ref qr)] [(.ref qr), (.ref qr)])
        refine Go.s_acmp X60 hx (q := 342) (hb hby at_339) rfl rfl (same := true) (decide_eq_true rfl) (by decide) (by decide) ?_
        refine Go.s_iconst X60 hx (hb hby at_342) (q := 343) rfl (z := 1) rfl ?_
        refine Go.s_goto X60 hx (hb hby at_343) (q := 347) (by decide) (by decide) ?_
        refine Go.retNW X60 hx hZ hEL rfl hW60 hlk hret (by simp) (hb hby at_347) (by decide) (by decide) ?_
        exact ⟨by decide, N54⟩
      · rw [hq]
        show Go p e below _ T55 (mkF m 330 #[.val (.int x0), .val (.int x1), .val (.int x2), .val (.int x3), .val (.int x4), .val (.ref r1a), .val (.int v5), .val (.int v6), .val (.int v7), .val (.int v8), .val (.int v10), .val (.ref r11a), .val (.ref b40), .unset] [.null])
        refine Go.s_astore X55 hx (hb hby at_330) (q := 332) rfl rfl (l' := #[.val (.int x0), .val (.int x1), .val (.int x2), .val (.int x3), .val (.int x4), .val (.ref r1a), .val (.int v5), .val (.int v6), .val (.int v7), .val (.int v8), .val (.int v10), .val (.ref r11a), .val (.ref b40), .val .null]) rfl ?_
        refine Go.s_aload X55 hx (hb hby at_332) (q := 334) rfl rfl rfl ?_
        refine Go.s_aload X55 hx (hb hby at_334) (q := 336) rfl rfl rfl ?_
        refine Go.callSW (y := mn_22) X55 hx hZ hown (w_ hw 113 rfl) (w_ hw 114 rfl) (w_ hw 2 rfl) (w_ hw 115 rfl) (by decide) rfl hEL hW54_v58 (sf := []) all0 (argsL := [(.ref b40)]) (rest := [.null]) (rm_exp l Z a0 hw b40 _ hEL _ ds S54_v59 zc (CS.ext O54_v57.2) hzc r0 r1 r2 r3 (SG0.ext O54_v57.2) (SG1.ext O54_v57.2) (SG2.ext O54_v57.2) (SG3.ext O54_v57.2)) (by rw [hml]; rfl) (lenOf pd_12 rfl) rfl (hb hby at_336) (by first | decide | exact Nat.le_of_ble_eq_true rfl) (by first | decide | exact Nat.le_of_ble_eq_true rfl) (by first | decide | exact Nat.le_of_ble_eq_true rfl) (by first | decide | exact Nat.le_of_ble_eq_true rfl) ?_
        intro r61 T61 L61 q61 X61 hZ hown hW61
        obtain ⟨rfl, rfl⟩ := q61
        rw [List.append_nil] at X61
        rw [hq]
        show Go p e below _ T61 (mkF m 339 #[.val (.int x0), .val (.int x1), .val (.int x2), .val (.int x3), .val (.int x4), .val (.ref r1a), .val (.int v5), .val (.int v6), .val (.int v7), .val (.int v8), .val (.int v10), .val (.ref r11a), .val (.ref b40), .val .null] [.null, .null])
        refine Go.s_acmp X61 hx (q := 342) (hb hby at_339) rfl rfl (same := true) (decide_eq_true rfl) (by decide) (by decide) ?_
        refine Go.s_iconst X61 hx (hb hby at_342) (q := 343) rfl (z := 1) rfl ?_
        refine Go.s_goto X61 hx (hb hby at_343) (q := 347) (by decide) (by decide) ?_
        refine Go.retNW X61 hx hZ hEL rfl hW61 hlk hret (by simp) (hb hby at_347) (by decide) (by decide) ?_
        exact ⟨by decide, N54⟩
  · -- pc 43: not v6 = (2 : Int32)
    refine Go.s_icmpYes X4 hx (hb hby at_43) (q := 55) (by decide) (by decide) (feq c43_9).2 ?_
    refine Go.s_iload X4 hx (hb hby at_55) (q := 57) rfl rfl ?_
    refine Go.s_iconst X4 hx (hb hby at_57) (q := 58) rfl (z := 3) rfl ?_
    by_cases c58_62 : v6 = (3 : Int32)
    · -- pc 58: v6 = (3 : Int32)
      refine Go.s_icmpNo X4 hx (hb hby at_58) (q := 61) rfl (teq c58_62).2 ?_
      refine Go.s_iload X4 hx (hb hby at_61) (q := 63) rfl rfl ?_
      refine Go.s_iconst X4 hx (hb hby at_63) (q := 64) rfl (z := 1) rfl ?_
      refine Go.s_iadd X4 hx (hb hby at_64) (q := 65) rfl ?_
      refine Go.s_istore X4 hx (hb hby at_65) (q := 67) rfl (l' := #[.val (.int x0), .val (.int x1), .val (.int x2), .val (.int x3), .val (.int x4), .val (.ref r1a), .val (.int v5), .val (.int v6), .val (.int v7), .val (.int v8), .val (.int (v5 + (1 : Int32))), .unset, .unset, .unset]) rfl ?_
      generalize hv63 : (v5 + (1 : Int32)) = v63
      refine Go.s_goto X4 hx (hb hby at_67) (q := 92) (by decide) (by decide) ?_
      refine Go.s_iload X4 hx (hb hby at_92) (q := 94) rfl rfl ?_
      refine Go.callS (y := mn_4) X4 hx hZ hown (w_ hw 26 rfl) (w_ hw 27 rfl) (w_ hw 2 rfl) (w_ hw 28 rfl) (by decide) e4 (argsL := [(.int v63)]) (rest := []) (rm_bla l Z a0 hw v63 _) (by rw [hml]; rfl) (lenOf pd_8 rfl) rfl (hb hby at_94) (by decide) (by decide) (by decide) (by decide) ?_
      intro r64 T64 L64 q64 X64
      obtain ⟨r64a, k64a, z64a, rfl, rfl, E64, g64, hB, A64⟩ := q64
      rw [List.append_nil] at X64
      have g_a : n0 ≤ r64a := g64 ▸ Z0_v2
      have hka : T1.heap.size ≤ r64a := Nat.le_of_eq (g64).symm
      have Z0_v65 := Nat.le_trans Z0_v2 E64.1
      have O0_v66 := Old.ext O0_v3 E64
      have hW1_v67 := hW1.ext E64
      have S1_v68 := S1.ext E64
      show Go p e below _ T64 (mkF m 97 #[.val (.int x0), .val (.int x1), .val (.int x2), .val (.int x3), .val (.int x4), .val (.ref r1a), .val (.int v5), .val (.int v6), .val (.int v7), .val (.int v8), .val (.int v63), .unset, .unset, .unset] [(.ref r64a)])
      refine Go.s_astore X64 hx (hb hby at_97) (q := 99) rfl rfl (l' := #[.val (.int x0), .val (.int x1), .val (.int x2), .val (.int x3), .val (.int x4), .val (.ref r1a), .val (.int v5), .val (.int v6), .val (.int v7), .val (.int v8), .val (.int v63), .val (.ref r64a), .unset, .unset]) rfl ?_
      refine Go.s_iload X64 hx (hb hby at_99) (q := 101) rfl rfl ?_
      refine Go.s_iconst X64 hx (hb hby at_101) (q := 102) rfl (z := 4) rfl ?_
      have i102_69 : ¬ (v6 = (4 : Int32)) := by
        intro qq
        have := mt Int32.toInt_inj.mp c43_9
        have := congrArg Int32.toInt c58_62
        have := (by decide : (2 : Int32).toInt = 2)
        have := (by decide : (3 : Int32).toInt = 3)
        have := (by decide : (4 : Int32).toInt = 4)
        have := congrArg Int32.toInt qq
        omega
      refine Go.s_icmpYes X64 hx (hb hby at_102) (q := 132) (by decide) (by decide) (feq i102_69).2 ?_
      refine Go.s_aload X64 hx (hb hby at_132) (q := 134) rfl rfl rfl ?_
      refine Go.s_iconst X64 hx (hb hby at_134) (q := 135) rfl (z := 0) rfl ?_
      refine Go.s_aload X64 hx (hb hby at_135) (q := 137) rfl rfl rfl ?_
      refine Go.s_iconst X64 hx (hb hby at_137) (q := 138) rfl (z := 0) rfl ?_
      refine Go.s_iload X64 hx (hb hby at_138) (q := 140) rfl rfl ?_
      refine Go.callS (y := mn_5) X64 hx hZ hown (w_ hw 30 rfl) (w_ hw 31 rfl) (w_ hw 2 rfl) (w_ hw 32 rfl) (by decide) rfl (argsL := [(.ref r1a), (.int (0 : Int32)), (.int v7)]) (rest := [(.int (0 : Int32)), (.ref r64a)]) (rm_src l Z a0 hw r1a (0 : Int32) v7 _ _ cs S1_v68 zc (CS.ext O0_v66.2) hzc fm (SF.ext O0_v66.2) rf (by decide) ch_v7) (by rw [hml]; rfl) (lenOf pd_13 rfl) rfl (hb hby at_140) (by first | decide | exact Nat.le_of_ble_eq_true rfl) (by first | decide | exact Nat.le_of_ble_eq_true rfl) (by first | decide | exact Nat.le_of_ble_eq_true rfl) (by first | decide | exact Nat.le_of_ble_eq_true rfl) ?_
      intro r70 T70 L70 q70 X70
      obtain ⟨w70, rfl, p70, rfl, e70⟩ := q70
      rw [List.append_nil] at X70
      show Go p e below _ T70 (mkF m 143 #[.val (.int x0), .val (.int x1), .val (.int x2), .val (.int x3), .val (.int x4), .val (.ref r1a), .val (.int v5), .val (.int v6), .val (.int v7), .val (.int v8), .val (.int v63), .val (.ref r64a), .unset, .unset] [(.int w70), (.int (0 : Int32)), (.ref r64a)])
      refine Go.callS (y := mn_11) X70 hx hZ hown (w_ hw 55 rfl) (w_ hw 56 rfl) (w_ hw 2 rfl) (w_ hw 57 rfl) (by decide) e70 (argsL := [(.ref r64a), (.int (0 : Int32)), (.int w70)]) (rest := []) (rm_put l Z a0 hw r64a (0 : Int32) w70 _ n0 g_a _ _ A64 (by decide) p70) (by rw [hml]; rfl) (lenOf pd_18 rfl) rfl (hb hby at_143) (by decide) (by decide) (by decide) (by decide) ?_
      intro r71 T71 L71 q71 X71
      obtain ⟨rfl, Nq71, K71, A71⟩ := q71
      have N71 := Fr.app (Fr.nil n0) Nq71
      have hWk71 := hW1_v67.keep K71 (sfS (CA.safe A64 hZ.alike) sf0)
      have O71 := Old.keep O0_v66 K71 (allS g_a all0)
      have S71k := S1_v68.keep K71 (allS hka all0)
      have Zk71 := Nat.le_trans Z0_v65 K71.1
      show Go p e below _ T71 (mkF m 146 #[.val (.int x0), .val (.int x1), .val (.int x2), .val (.int x3), .val (.int x4), .val (.ref r1a), .val (.int v5), .val (.int v6), .val (.int v7), .val (.int v8), .val (.int v63), .val (.ref r64a), .unset, .unset] [])
      refine Go.s_aload X71 hx (hb hby at_146) (q := 148) rfl rfl rfl ?_
      refine Go.s_iconst X71 hx (hb hby at_148) (q := 149) rfl (z := 1) rfl ?_
      refine Go.s_aload X71 hx (hb hby at_149) (q := 151) rfl rfl rfl ?_
      refine Go.s_iconst X71 hx (hb hby at_151) (q := 152) rfl (z := 1) rfl ?_
      refine Go.s_iload X71 hx (hb hby at_152) (q := 154) rfl rfl ?_
      refine Go.callS (y := mn_5) X71 hx hZ hown (w_ hw 30 rfl) (w_ hw 31 rfl) (w_ hw 2 rfl) (w_ hw 32 rfl) (by decide) rfl (argsL := [(.ref r1a), (.int (1 : Int32)), (.int v7)]) (rest := [(.int (1 : Int32)), (.ref r64a)]) (rm_src l Z a0 hw r1a (1 : Int32) v7 _ _ cs S71k zc (CS.ext O71.2) hzc fm (SF.ext O71.2) rf (by decide) ch_v7) (by rw [hml]; rfl) (lenOf pd_13 rfl) rfl (hb hby at_154) (by first | decide | exact Nat.le_of_ble_eq_true rfl) (by first | decide | exact Nat.le_of_ble_eq_true rfl) (by first | decide | exact Nat.le_of_ble_eq_true rfl) (by first | decide | exact Nat.le_of_ble_eq_true rfl) ?_
      intro r72 T72 L72 q72 X72
      obtain ⟨w72, rfl, p72, rfl, e72⟩ := q72
      rw [List.append_nil] at X72
      show Go p e below _ T72 (mkF m 157 #[.val (.int x0), .val (.int x1), .val (.int x2), .val (.int x3), .val (.int x4), .val (.ref r1a), .val (.int v5), .val (.int v6), .val (.int v7), .val (.int v8), .val (.int v63), .val (.ref r64a), .unset, .unset] [(.int w72), (.int (1 : Int32)), (.ref r64a)])
      refine Go.callS (y := mn_11) X72 hx hZ hown (w_ hw 55 rfl) (w_ hw 56 rfl) (w_ hw 2 rfl) (w_ hw 57 rfl) (by decide) e72 (argsL := [(.ref r64a), (.int (1 : Int32)), (.int w72)]) (rest := []) (rm_put l Z a0 hw r64a (1 : Int32) w72 _ n0 g_a _ _ A71 (by decide) p72) (by rw [hml]; rfl) (lenOf pd_18 rfl) rfl (hb hby at_157) (by decide) (by decide) (by decide) (by decide) ?_
      intro r73 T73 L73 q73 X73
      obtain ⟨rfl, Nq73, K73, A73⟩ := q73
      have N73 := Fr.app N71 Nq73
      have hWk73 := hWk71.keep K73 (sfS (CA.safe A71 hZ.alike) sf0)
      have O73 := Old.keep O71 K73 (allS g_a all0)
      have S73k := S71k.keep K73 (allS hka all0)
      have Zk73 := Nat.le_trans Zk71 K73.1
      show Go p e below _ T73 (mkF m 160 #[.val (.int x0), .val (.int x1), .val (.int x2), .val (.int x3), .val (.int x4), .val (.ref r1a), .val (.int v5), .val (.int v6), .val (.int v7), .val (.int v8), .val (.int v63), .val (.ref r64a), .unset, .unset] [])
      refine Go.s_aload X73 hx (hb hby at_160) (q := 162) rfl rfl rfl ?_
      refine Go.s_iconst X73 hx (hb hby at_162) (q := 163) rfl (z := 2) rfl ?_
      refine Go.s_aload X73 hx (hb hby at_163) (q := 165) rfl rfl rfl ?_
      refine Go.s_iconst X73 hx (hb hby at_165) (q := 166) rfl (z := 2) rfl ?_
      refine Go.s_iload X73 hx (hb hby at_166) (q := 168) rfl rfl ?_
      refine Go.callS (y := mn_5) X73 hx hZ hown (w_ hw 30 rfl) (w_ hw 31 rfl) (w_ hw 2 rfl) (w_ hw 32 rfl) (by decide) rfl (argsL := [(.ref r1a), (.int (2 : Int32)), (.int v7)]) (rest := [(.int (2 : Int32)), (.ref r64a)]) (rm_src l Z a0 hw r1a (2 : Int32) v7 _ _ cs S73k zc (CS.ext O73.2) hzc fm (SF.ext O73.2) rf (by decide) ch_v7) (by rw [hml]; rfl) (lenOf pd_13 rfl) rfl (hb hby at_168) (by first | decide | exact Nat.le_of_ble_eq_true rfl) (by first | decide | exact Nat.le_of_ble_eq_true rfl) (by first | decide | exact Nat.le_of_ble_eq_true rfl) (by first | decide | exact Nat.le_of_ble_eq_true rfl) ?_
      intro r74 T74 L74 q74 X74
      obtain ⟨w74, rfl, p74, rfl, e74⟩ := q74
      rw [List.append_nil] at X74
      show Go p e below _ T74 (mkF m 171 #[.val (.int x0), .val (.int x1), .val (.int x2), .val (.int x3), .val (.int x4), .val (.ref r1a), .val (.int v5), .val (.int v6), .val (.int v7), .val (.int v8), .val (.int v63), .val (.ref r64a), .unset, .unset] [(.int w74), (.int (2 : Int32)), (.ref r64a)])
      refine Go.callS (y := mn_11) X74 hx hZ hown (w_ hw 55 rfl) (w_ hw 56 rfl) (w_ hw 2 rfl) (w_ hw 57 rfl) (by decide) e74 (argsL := [(.ref r64a), (.int (2 : Int32)), (.int w74)]) (rest := []) (rm_put l Z a0 hw r64a (2 : Int32) w74 _ n0 g_a _ _ A73 (by decide) p74) (by rw [hml]; rfl) (lenOf pd_18 rfl) rfl (hb hby at_171) (by decide) (by decide) (by decide) (by decide) ?_
      intro r75 T75 L75 q75 X75
      obtain ⟨rfl, Nq75, K75, A75⟩ := q75
      have N75 := Fr.app N73 Nq75
      have hWk75 := hWk73.keep K75 (sfS (CA.safe A73 hZ.alike) sf0)
      have O75 := Old.keep O73 K75 (allS g_a all0)
      have S75k := S73k.keep K75 (allS hka all0)
      have Zk75 := Nat.le_trans Zk73 K75.1
      show Go p e below _ T75 (mkF m 174 #[.val (.int x0), .val (.int x1), .val (.int x2), .val (.int x3), .val (.int x4), .val (.ref r1a), .val (.int v5), .val (.int v6), .val (.int v7), .val (.int v8), .val (.int v63), .val (.ref r64a), .unset, .unset] [])
      refine Go.s_aload X75 hx (hb hby at_174) (q := 176) rfl rfl rfl ?_
      refine Go.s_iconst X75 hx (hb hby at_176) (q := 177) rfl (z := 3) rfl ?_
      refine Go.s_aload X75 hx (hb hby at_177) (q := 179) rfl rfl rfl ?_
      refine Go.s_iconst X75 hx (hb hby at_179) (q := 180) rfl (z := 3) rfl ?_
      refine Go.s_iload X75 hx (hb hby at_180) (q := 182) rfl rfl ?_
      refine Go.callS (y := mn_5) X75 hx hZ hown (w_ hw 30 rfl) (w_ hw 31 rfl) (w_ hw 2 rfl) (w_ hw 32 rfl) (by decide) rfl (argsL := [(.ref r1a), (.int (3 : Int32)), (.int v7)]) (rest := [(.int (3 : Int32)), (.ref r64a)]) (rm_src l Z a0 hw r1a (3 : Int32) v7 _ _ cs S75k zc (CS.ext O75.2) hzc fm (SF.ext O75.2) rf (by decide) ch_v7) (by rw [hml]; rfl) (lenOf pd_13 rfl) rfl (hb hby at_182) (by first | decide | exact Nat.le_of_ble_eq_true rfl) (by first | decide | exact Nat.le_of_ble_eq_true rfl) (by first | decide | exact Nat.le_of_ble_eq_true rfl) (by first | decide | exact Nat.le_of_ble_eq_true rfl) ?_
      intro r76 T76 L76 q76 X76
      obtain ⟨w76, rfl, p76, rfl, e76⟩ := q76
      rw [List.append_nil] at X76
      show Go p e below _ T76 (mkF m 185 #[.val (.int x0), .val (.int x1), .val (.int x2), .val (.int x3), .val (.int x4), .val (.ref r1a), .val (.int v5), .val (.int v6), .val (.int v7), .val (.int v8), .val (.int v63), .val (.ref r64a), .unset, .unset] [(.int w76), (.int (3 : Int32)), (.ref r64a)])
      refine Go.callS (y := mn_11) X76 hx hZ hown (w_ hw 55 rfl) (w_ hw 56 rfl) (w_ hw 2 rfl) (w_ hw 57 rfl) (by decide) e76 (argsL := [(.ref r64a), (.int (3 : Int32)), (.int w76)]) (rest := []) (rm_put l Z a0 hw r64a (3 : Int32) w76 _ n0 g_a _ _ A75 (by decide) p76) (by rw [hml]; rfl) (lenOf pd_18 rfl) rfl (hb hby at_185) (by decide) (by decide) (by decide) (by decide) ?_
      intro r77 T77 L77 q77 X77
      obtain ⟨rfl, Nq77, K77, A77⟩ := q77
      have N77 := Fr.app N75 Nq77
      have hWk77 := hWk75.keep K77 (sfS (CA.safe A75 hZ.alike) sf0)
      have O77 := Old.keep O75 K77 (allS g_a all0)
      have S77k := S75k.keep K77 (allS hka all0)
      have Zk77 := Nat.le_trans Zk75 K77.1
      show Go p e below _ T77 (mkF m 188 #[.val (.int x0), .val (.int x1), .val (.int x2), .val (.int x3), .val (.int x4), .val (.ref r1a), .val (.int v5), .val (.int v6), .val (.int v7), .val (.int v8), .val (.int v63), .val (.ref r64a), .unset, .unset] [])
      refine Go.s_aload X77 hx (hb hby at_188) (q := 190) rfl rfl rfl ?_
      refine Go.s_iconst X77 hx (hb hby at_190) (q := 191) rfl (z := 4) rfl ?_
      refine Go.s_aload X77 hx (hb hby at_191) (q := 193) rfl rfl rfl ?_
      refine Go.s_iconst X77 hx (hb hby at_193) (q := 194) rfl (z := 4) rfl ?_
      refine Go.s_iload X77 hx (hb hby at_194) (q := 196) rfl rfl ?_
      refine Go.callS (y := mn_5) X77 hx hZ hown (w_ hw 30 rfl) (w_ hw 31 rfl) (w_ hw 2 rfl) (w_ hw 32 rfl) (by decide) rfl (argsL := [(.ref r1a), (.int (4 : Int32)), (.int v7)]) (rest := [(.int (4 : Int32)), (.ref r64a)]) (rm_src l Z a0 hw r1a (4 : Int32) v7 _ _ cs S77k zc (CS.ext O77.2) hzc fm (SF.ext O77.2) rf (by decide) ch_v7) (by rw [hml]; rfl) (lenOf pd_13 rfl) rfl (hb hby at_196) (by first | decide | exact Nat.le_of_ble_eq_true rfl) (by first | decide | exact Nat.le_of_ble_eq_true rfl) (by first | decide | exact Nat.le_of_ble_eq_true rfl) (by first | decide | exact Nat.le_of_ble_eq_true rfl) ?_
      intro r78 T78 L78 q78 X78
      obtain ⟨w78, rfl, p78, rfl, e78⟩ := q78
      rw [List.append_nil] at X78
      show Go p e below _ T78 (mkF m 199 #[.val (.int x0), .val (.int x1), .val (.int x2), .val (.int x3), .val (.int x4), .val (.ref r1a), .val (.int v5), .val (.int v6), .val (.int v7), .val (.int v8), .val (.int v63), .val (.ref r64a), .unset, .unset] [(.int w78), (.int (4 : Int32)), (.ref r64a)])
      refine Go.callS (y := mn_11) X78 hx hZ hown (w_ hw 55 rfl) (w_ hw 56 rfl) (w_ hw 2 rfl) (w_ hw 57 rfl) (by decide) e78 (argsL := [(.ref r64a), (.int (4 : Int32)), (.int w78)]) (rest := []) (rm_put l Z a0 hw r64a (4 : Int32) w78 _ n0 g_a _ _ A77 (by decide) p78) (by rw [hml]; rfl) (lenOf pd_18 rfl) rfl (hb hby at_199) (by decide) (by decide) (by decide) (by decide) ?_
      intro r79 T79 L79 q79 X79
      obtain ⟨rfl, Nq79, K79, A79⟩ := q79
      have N79 := Fr.app N77 Nq79
      have hWk79 := hWk77.keep K79 (sfS (CA.safe A77 hZ.alike) sf0)
      have O79 := Old.keep O77 K79 (allS g_a all0)
      have S79k := S77k.keep K79 (allS hka all0)
      have Zk79 := Nat.le_trans Zk77 K79.1
      show Go p e below _ T79 (mkF m 202 #[.val (.int x0), .val (.int x1), .val (.int x2), .val (.int x3), .val (.int x4), .val (.ref r1a), .val (.int v5), .val (.int v6), .val (.int v7), .val (.int v8), .val (.int v63), .val (.ref r64a), .unset, .unset] [])
      refine Go.s_aload X79 hx (hb hby at_202) (q := 204) rfl rfl rfl ?_
      refine Go.s_iconst X79 hx (hb hby at_204) (q := 205) rfl (z := 5) rfl ?_
      refine Go.s_aload X79 hx (hb hby at_205) (q := 207) rfl rfl rfl ?_
      refine Go.s_iconst X79 hx (hb hby at_207) (q := 208) rfl (z := 5) rfl ?_
      refine Go.s_iload X79 hx (hb hby at_208) (q := 210) rfl rfl ?_
      refine Go.callS (y := mn_5) X79 hx hZ hown (w_ hw 30 rfl) (w_ hw 31 rfl) (w_ hw 2 rfl) (w_ hw 32 rfl) (by decide) rfl (argsL := [(.ref r1a), (.int (5 : Int32)), (.int v7)]) (rest := [(.int (5 : Int32)), (.ref r64a)]) (rm_src l Z a0 hw r1a (5 : Int32) v7 _ _ cs S79k zc (CS.ext O79.2) hzc fm (SF.ext O79.2) rf (by decide) ch_v7) (by rw [hml]; rfl) (lenOf pd_13 rfl) rfl (hb hby at_210) (by first | decide | exact Nat.le_of_ble_eq_true rfl) (by first | decide | exact Nat.le_of_ble_eq_true rfl) (by first | decide | exact Nat.le_of_ble_eq_true rfl) (by first | decide | exact Nat.le_of_ble_eq_true rfl) ?_
      intro r80 T80 L80 q80 X80
      obtain ⟨w80, rfl, p80, rfl, e80⟩ := q80
      rw [List.append_nil] at X80
      show Go p e below _ T80 (mkF m 213 #[.val (.int x0), .val (.int x1), .val (.int x2), .val (.int x3), .val (.int x4), .val (.ref r1a), .val (.int v5), .val (.int v6), .val (.int v7), .val (.int v8), .val (.int v63), .val (.ref r64a), .unset, .unset] [(.int w80), (.int (5 : Int32)), (.ref r64a)])
      refine Go.callS (y := mn_11) X80 hx hZ hown (w_ hw 55 rfl) (w_ hw 56 rfl) (w_ hw 2 rfl) (w_ hw 57 rfl) (by decide) e80 (argsL := [(.ref r64a), (.int (5 : Int32)), (.int w80)]) (rest := []) (rm_put l Z a0 hw r64a (5 : Int32) w80 _ n0 g_a _ _ A79 (by decide) p80) (by rw [hml]; rfl) (lenOf pd_18 rfl) rfl (hb hby at_213) (by decide) (by decide) (by decide) (by decide) ?_
      intro r81 T81 L81 q81 X81
      obtain ⟨rfl, Nq81, K81, A81⟩ := q81
      have N81 := Fr.app N79 Nq81
      have hWk81 := hWk79.keep K81 (sfS (CA.safe A79 hZ.alike) sf0)
      have O81 := Old.keep O79 K81 (allS g_a all0)
      have S81k := S79k.keep K81 (allS hka all0)
      have Zk81 := Nat.le_trans Zk79 K81.1
      show Go p e below _ T81 (mkF m 216 #[.val (.int x0), .val (.int x1), .val (.int x2), .val (.int x3), .val (.int x4), .val (.ref r1a), .val (.int v5), .val (.int v6), .val (.int v7), .val (.int v8), .val (.int v63), .val (.ref r64a), .unset, .unset] [])
      refine Go.s_aload X81 hx (hb hby at_216) (q := 218) rfl rfl rfl ?_
      refine Go.s_bipush X81 hx (hb hby at_218) (q := 220) rfl (z := 6) rfl ?_
      refine Go.s_aload X81 hx (hb hby at_220) (q := 222) rfl rfl rfl ?_
      refine Go.s_bipush X81 hx (hb hby at_222) (q := 224) rfl (z := 6) rfl ?_
      refine Go.s_iload X81 hx (hb hby at_224) (q := 226) rfl rfl ?_
      refine Go.callS (y := mn_5) X81 hx hZ hown (w_ hw 30 rfl) (w_ hw 31 rfl) (w_ hw 2 rfl) (w_ hw 32 rfl) (by decide) rfl (argsL := [(.ref r1a), (.int (6 : Int32)), (.int v7)]) (rest := [(.int (6 : Int32)), (.ref r64a)]) (rm_src l Z a0 hw r1a (6 : Int32) v7 _ _ cs S81k zc (CS.ext O81.2) hzc fm (SF.ext O81.2) rf (by decide) ch_v7) (by rw [hml]; rfl) (lenOf pd_13 rfl) rfl (hb hby at_226) (by first | decide | exact Nat.le_of_ble_eq_true rfl) (by first | decide | exact Nat.le_of_ble_eq_true rfl) (by first | decide | exact Nat.le_of_ble_eq_true rfl) (by first | decide | exact Nat.le_of_ble_eq_true rfl) ?_
      intro r82 T82 L82 q82 X82
      obtain ⟨w82, rfl, p82, rfl, e82⟩ := q82
      rw [List.append_nil] at X82
      show Go p e below _ T82 (mkF m 229 #[.val (.int x0), .val (.int x1), .val (.int x2), .val (.int x3), .val (.int x4), .val (.ref r1a), .val (.int v5), .val (.int v6), .val (.int v7), .val (.int v8), .val (.int v63), .val (.ref r64a), .unset, .unset] [(.int w82), (.int (6 : Int32)), (.ref r64a)])
      refine Go.callS (y := mn_11) X82 hx hZ hown (w_ hw 55 rfl) (w_ hw 56 rfl) (w_ hw 2 rfl) (w_ hw 57 rfl) (by decide) e82 (argsL := [(.ref r64a), (.int (6 : Int32)), (.int w82)]) (rest := []) (rm_put l Z a0 hw r64a (6 : Int32) w82 _ n0 g_a _ _ A81 (by decide) p82) (by rw [hml]; rfl) (lenOf pd_18 rfl) rfl (hb hby at_229) (by decide) (by decide) (by decide) (by decide) ?_
      intro r83 T83 L83 q83 X83
      obtain ⟨rfl, Nq83, K83, A83⟩ := q83
      have N83 := Fr.app N81 Nq83
      have hWk83 := hWk81.keep K83 (sfS (CA.safe A81 hZ.alike) sf0)
      have O83 := Old.keep O81 K83 (allS g_a all0)
      have S83k := S81k.keep K83 (allS hka all0)
      have Zk83 := Nat.le_trans Zk81 K83.1
      show Go p e below _ T83 (mkF m 232 #[.val (.int x0), .val (.int x1), .val (.int x2), .val (.int x3), .val (.int x4), .val (.ref r1a), .val (.int v5), .val (.int v6), .val (.int v7), .val (.int v8), .val (.int v63), .val (.ref r64a), .unset, .unset] [])
      refine Go.s_aload X83 hx (hb hby at_232) (q := 234) rfl rfl rfl ?_
      refine Go.s_bipush X83 hx (hb hby at_234) (q := 236) rfl (z := 7) rfl ?_
      refine Go.s_aload X83 hx (hb hby at_236) (q := 238) rfl rfl rfl ?_
      refine Go.s_bipush X83 hx (hb hby at_238) (q := 240) rfl (z := 7) rfl ?_
      refine Go.s_iload X83 hx (hb hby at_240) (q := 242) rfl rfl ?_
      refine Go.callS (y := mn_5) X83 hx hZ hown (w_ hw 30 rfl) (w_ hw 31 rfl) (w_ hw 2 rfl) (w_ hw 32 rfl) (by decide) rfl (argsL := [(.ref r1a), (.int (7 : Int32)), (.int v7)]) (rest := [(.int (7 : Int32)), (.ref r64a)]) (rm_src l Z a0 hw r1a (7 : Int32) v7 _ _ cs S83k zc (CS.ext O83.2) hzc fm (SF.ext O83.2) rf (by decide) ch_v7) (by rw [hml]; rfl) (lenOf pd_13 rfl) rfl (hb hby at_242) (by first | decide | exact Nat.le_of_ble_eq_true rfl) (by first | decide | exact Nat.le_of_ble_eq_true rfl) (by first | decide | exact Nat.le_of_ble_eq_true rfl) (by first | decide | exact Nat.le_of_ble_eq_true rfl) ?_
      intro r84 T84 L84 q84 X84
      obtain ⟨w84, rfl, p84, rfl, e84⟩ := q84
      rw [List.append_nil] at X84
      show Go p e below _ T84 (mkF m 245 #[.val (.int x0), .val (.int x1), .val (.int x2), .val (.int x3), .val (.int x4), .val (.ref r1a), .val (.int v5), .val (.int v6), .val (.int v7), .val (.int v8), .val (.int v63), .val (.ref r64a), .unset, .unset] [(.int w84), (.int (7 : Int32)), (.ref r64a)])
      refine Go.callS (y := mn_11) X84 hx hZ hown (w_ hw 55 rfl) (w_ hw 56 rfl) (w_ hw 2 rfl) (w_ hw 57 rfl) (by decide) e84 (argsL := [(.ref r64a), (.int (7 : Int32)), (.int w84)]) (rest := []) (rm_put l Z a0 hw r64a (7 : Int32) w84 _ n0 g_a _ _ A83 (by decide) p84) (by rw [hml]; rfl) (lenOf pd_18 rfl) rfl (hb hby at_245) (by decide) (by decide) (by decide) (by decide) ?_
      intro r85 T85 L85 q85 X85
      obtain ⟨rfl, Nq85, K85, A85⟩ := q85
      have N85 := Fr.app N83 Nq85
      have hWk85 := hWk83.keep K85 (sfS (CA.safe A83 hZ.alike) sf0)
      have O85 := Old.keep O83 K85 (allS g_a all0)
      have S85k := S83k.keep K85 (allS hka all0)
      have Zk85 := Nat.le_trans Zk83 K85.1
      show Go p e below _ T85 (mkF m 248 #[.val (.int x0), .val (.int x1), .val (.int x2), .val (.int x3), .val (.int x4), .val (.ref r1a), .val (.int v5), .val (.int v6), .val (.int v7), .val (.int v8), .val (.int v63), .val (.ref r64a), .unset, .unset] [])
      refine Go.s_aload X85 hx (hb hby at_248) (q := 250) rfl rfl rfl ?_
      refine Go.s_bipush X85 hx (hb hby at_250) (q := 252) rfl (z := 8) rfl ?_
      refine Go.s_aload X85 hx (hb hby at_252) (q := 254) rfl rfl rfl ?_
      refine Go.s_bipush X85 hx (hb hby at_254) (q := 256) rfl (z := 8) rfl ?_
      refine Go.s_iload X85 hx (hb hby at_256) (q := 258) rfl rfl ?_
      refine Go.callS (y := mn_5) X85 hx hZ hown (w_ hw 30 rfl) (w_ hw 31 rfl) (w_ hw 2 rfl) (w_ hw 32 rfl) (by decide) rfl (argsL := [(.ref r1a), (.int (8 : Int32)), (.int v7)]) (rest := [(.int (8 : Int32)), (.ref r64a)]) (rm_src l Z a0 hw r1a (8 : Int32) v7 _ _ cs S85k zc (CS.ext O85.2) hzc fm (SF.ext O85.2) rf (by decide) ch_v7) (by rw [hml]; rfl) (lenOf pd_13 rfl) rfl (hb hby at_258) (by first | decide | exact Nat.le_of_ble_eq_true rfl) (by first | decide | exact Nat.le_of_ble_eq_true rfl) (by first | decide | exact Nat.le_of_ble_eq_true rfl) (by first | decide | exact Nat.le_of_ble_eq_true rfl) ?_
      intro r86 T86 L86 q86 X86
      obtain ⟨w86, rfl, p86, rfl, e86⟩ := q86
      rw [List.append_nil] at X86
      show Go p e below _ T86 (mkF m 261 #[.val (.int x0), .val (.int x1), .val (.int x2), .val (.int x3), .val (.int x4), .val (.ref r1a), .val (.int v5), .val (.int v6), .val (.int v7), .val (.int v8), .val (.int v63), .val (.ref r64a), .unset, .unset] [(.int w86), (.int (8 : Int32)), (.ref r64a)])
      refine Go.callS (y := mn_11) X86 hx hZ hown (w_ hw 55 rfl) (w_ hw 56 rfl) (w_ hw 2 rfl) (w_ hw 57 rfl) (by decide) e86 (argsL := [(.ref r64a), (.int (8 : Int32)), (.int w86)]) (rest := []) (rm_put l Z a0 hw r64a (8 : Int32) w86 _ n0 g_a _ _ A85 (by decide) p86) (by rw [hml]; rfl) (lenOf pd_18 rfl) rfl (hb hby at_261) (by decide) (by decide) (by decide) (by decide) ?_
      intro r87 T87 L87 q87 X87
      obtain ⟨rfl, Nq87, K87, A87⟩ := q87
      have N87 := Fr.app N85 Nq87
      have hWk87 := hWk85.keep K87 (sfS (CA.safe A85 hZ.alike) sf0)
      have O87 := Old.keep O85 K87 (allS g_a all0)
      have S87k := S85k.keep K87 (allS hka all0)
      have Zk87 := Nat.le_trans Zk85 K87.1
      show Go p e below _ T87 (mkF m 264 #[.val (.int x0), .val (.int x1), .val (.int x2), .val (.int x3), .val (.int x4), .val (.ref r1a), .val (.int v5), .val (.int v6), .val (.int v7), .val (.int v8), .val (.int v63), .val (.ref r64a), .unset, .unset] [])
      refine Go.s_aload X87 hx (hb hby at_264) (q := 266) rfl rfl rfl ?_
      refine Go.s_bipush X87 hx (hb hby at_266) (q := 268) rfl (z := 9) rfl ?_
      refine Go.s_aload X87 hx (hb hby at_268) (q := 270) rfl rfl rfl ?_
      refine Go.s_bipush X87 hx (hb hby at_270) (q := 272) rfl (z := 9) rfl ?_
      refine Go.s_iload X87 hx (hb hby at_272) (q := 274) rfl rfl ?_
      refine Go.callS (y := mn_5) X87 hx hZ hown (w_ hw 30 rfl) (w_ hw 31 rfl) (w_ hw 2 rfl) (w_ hw 32 rfl) (by decide) rfl (argsL := [(.ref r1a), (.int (9 : Int32)), (.int v7)]) (rest := [(.int (9 : Int32)), (.ref r64a)]) (rm_src l Z a0 hw r1a (9 : Int32) v7 _ _ cs S87k zc (CS.ext O87.2) hzc fm (SF.ext O87.2) rf (by decide) ch_v7) (by rw [hml]; rfl) (lenOf pd_13 rfl) rfl (hb hby at_274) (by first | decide | exact Nat.le_of_ble_eq_true rfl) (by first | decide | exact Nat.le_of_ble_eq_true rfl) (by first | decide | exact Nat.le_of_ble_eq_true rfl) (by first | decide | exact Nat.le_of_ble_eq_true rfl) ?_
      intro r88 T88 L88 q88 X88
      obtain ⟨w88, rfl, p88, rfl, e88⟩ := q88
      rw [List.append_nil] at X88
      show Go p e below _ T88 (mkF m 277 #[.val (.int x0), .val (.int x1), .val (.int x2), .val (.int x3), .val (.int x4), .val (.ref r1a), .val (.int v5), .val (.int v6), .val (.int v7), .val (.int v8), .val (.int v63), .val (.ref r64a), .unset, .unset] [(.int w88), (.int (9 : Int32)), (.ref r64a)])
      refine Go.callS (y := mn_11) X88 hx hZ hown (w_ hw 55 rfl) (w_ hw 56 rfl) (w_ hw 2 rfl) (w_ hw 57 rfl) (by decide) e88 (argsL := [(.ref r64a), (.int (9 : Int32)), (.int w88)]) (rest := []) (rm_put l Z a0 hw r64a (9 : Int32) w88 _ n0 g_a _ _ A87 (by decide) p88) (by rw [hml]; rfl) (lenOf pd_18 rfl) rfl (hb hby at_277) (by decide) (by decide) (by decide) (by decide) ?_
      intro r89 T89 L89 q89 X89
      obtain ⟨rfl, Nq89, K89, A89⟩ := q89
      have N89 := Fr.app N87 Nq89
      have hWk89 := hWk87.keep K89 (sfS (CA.safe A87 hZ.alike) sf0)
      have O89 := Old.keep O87 K89 (allS g_a all0)
      have S89k := S87k.keep K89 (allS hka all0)
      have Zk89 := Nat.le_trans Zk87 K89.1
      show Go p e below _ T89 (mkF m 280 #[.val (.int x0), .val (.int x1), .val (.int x2), .val (.int x3), .val (.int x4), .val (.ref r1a), .val (.int v5), .val (.int v6), .val (.int v7), .val (.int v8), .val (.int v63), .val (.ref r64a), .unset, .unset] [])
      refine Go.s_aload X89 hx (hb hby at_280) (q := 282) rfl rfl rfl ?_
      refine Go.s_bipush X89 hx (hb hby at_282) (q := 284) rfl (z := 10) rfl ?_
      refine Go.s_aload X89 hx (hb hby at_284) (q := 286) rfl rfl rfl ?_
      refine Go.s_bipush X89 hx (hb hby at_286) (q := 288) rfl (z := 10) rfl ?_
      refine Go.s_iload X89 hx (hb hby at_288) (q := 290) rfl rfl ?_
      refine Go.callS (y := mn_5) X89 hx hZ hown (w_ hw 30 rfl) (w_ hw 31 rfl) (w_ hw 2 rfl) (w_ hw 32 rfl) (by decide) rfl (argsL := [(.ref r1a), (.int (10 : Int32)), (.int v7)]) (rest := [(.int (10 : Int32)), (.ref r64a)]) (rm_src l Z a0 hw r1a (10 : Int32) v7 _ _ cs S89k zc (CS.ext O89.2) hzc fm (SF.ext O89.2) rf (by decide) ch_v7) (by rw [hml]; rfl) (lenOf pd_13 rfl) rfl (hb hby at_290) (by first | decide | exact Nat.le_of_ble_eq_true rfl) (by first | decide | exact Nat.le_of_ble_eq_true rfl) (by first | decide | exact Nat.le_of_ble_eq_true rfl) (by first | decide | exact Nat.le_of_ble_eq_true rfl) ?_
      intro r90 T90 L90 q90 X90
      obtain ⟨w90, rfl, p90, rfl, e90⟩ := q90
      rw [List.append_nil] at X90
      show Go p e below _ T90 (mkF m 293 #[.val (.int x0), .val (.int x1), .val (.int x2), .val (.int x3), .val (.int x4), .val (.ref r1a), .val (.int v5), .val (.int v6), .val (.int v7), .val (.int v8), .val (.int v63), .val (.ref r64a), .unset, .unset] [(.int w90), (.int (10 : Int32)), (.ref r64a)])
      refine Go.callS (y := mn_11) X90 hx hZ hown (w_ hw 55 rfl) (w_ hw 56 rfl) (w_ hw 2 rfl) (w_ hw 57 rfl) (by decide) e90 (argsL := [(.ref r64a), (.int (10 : Int32)), (.int w90)]) (rest := []) (rm_put l Z a0 hw r64a (10 : Int32) w90 _ n0 g_a _ _ A89 (by decide) p90) (by rw [hml]; rfl) (lenOf pd_18 rfl) rfl (hb hby at_293) (by decide) (by decide) (by decide) (by decide) ?_
      intro r91 T91 L91 q91 X91
      obtain ⟨rfl, Nq91, K91, A91⟩ := q91
      have N91 := Fr.app N89 Nq91
      have hWk91 := hWk89.keep K91 (sfS (CA.safe A89 hZ.alike) sf0)
      have O91 := Old.keep O89 K91 (allS g_a all0)
      have S91k := S89k.keep K91 (allS hka all0)
      have Zk91 := Nat.le_trans Zk89 K91.1
      show Go p e below _ T91 (mkF m 296 #[.val (.int x0), .val (.int x1), .val (.int x2), .val (.int x3), .val (.int x4), .val (.ref r1a), .val (.int v5), .val (.int v6), .val (.int v7), .val (.int v8), .val (.int v63), .val (.ref r64a), .unset, .unset] [])
      refine Go.s_iload X91 hx (hb hby at_296) (q := 298) rfl rfl ?_
      refine Go.s_iconst X91 hx (hb hby at_298) (q := 299) rfl (z := 1) rfl ?_
      have i299_92 : ¬ (v6 = (1 : Int32)) := by
        intro qq
        have := mt Int32.toInt_inj.mp c43_9
        have := congrArg Int32.toInt c58_62
        have := mt Int32.toInt_inj.mp i102_69
        have := (by decide : (1 : Int32).toInt = 1)
        have := (by decide : (2 : Int32).toInt = 2)
        have := (by decide : (3 : Int32).toInt = 3)
        have := (by decide : (4 : Int32).toInt = 4)
        have := congrArg Int32.toInt qq
        omega
      refine Go.s_icmpYes X91 hx (hb hby at_299) (q := 314) (by decide) (by decide) (feq i299_92).2 ?_
      refine Go.newO X91 hx hZ hown (w_ hw 58 rfl) (w_ hw 6 rfl) (w_ hw 5 rfl) rfl (hb hby at_314) (by decide) (by decide) ?_
      intro T93 h93 b93 g93 X93 e93 E93 A93 D93
      have g_b93 : n0 ≤ b93 := g93 ▸ Zk91
      have Zk91_v94 := Nat.le_trans Zk91 E93.1
      have O91_v95 := Old.ext O91 E93
      have hWk91_v96 := hWk91.ext E93
      have S91k_v97 := S91k.ext E93
      have A91_v98 := A91.ext E93
      have F_value_b93 : Fld Z h93 b93 "java/lang/String" "value" "[B" .null := D93 (Or.inr (w_ hw 8 rfl)) (ty := (.array .byte)) (by decide)
      have F_coder_b93 : Fld Z h93 b93 "java/lang/String" "coder" "B" (.int (0 : Int32)) := D93 (Or.inr (w_ hw 9 rfl)) (ty := .byte) (by decide)
      have hsx : Safe Z consts_1 _ h93 b93 := Safe.ext E93 hWk91.2.1 (Safe.new (Nat.le_of_eq g93.symm))
      show Go p e below _ T93 (mkF m 317 #[.val (.int x0), .val (.int x1), .val (.int x2), .val (.int x3), .val (.int x4), .val (.ref r1a), .val (.int v5), .val (.int v6), .val (.int v7), .val (.int v8), .val (.int v63), .val (.ref r64a), .unset, .unset] [(.ref b93)])
      refine Go.s_dup X93 hx (hb hby at_317) (q := 318) rfl rfl ?_
      refine Go.s_aload X93 hx (hb hby at_318) (q := 320) rfl rfl rfl ?_
      by_cases hz0 : z64a = 0
      · obtain ⟨as, hl1, hl2, V_b⟩ := id A91_v98
        rw [hz0] at V_b
        refine Go.callCW (y := mn_12) X93 hx hZ rfl hown (w_ hw 59 rfl) (w_ hw 60 rfl) (w_ hw 61 rfl) (w_ hw 5 rfl) (by decide) e93 hEL hWk91_v96 (sf := [b93]) (allS ⟨hsx, A93.lt⟩ all0) (b := b93) (argsL := [(.ref r64a)]) (rest := [(.ref b93)]) (rm_ini1 l Z a0 hw b93 r64a h93 hEL n0 _ _ A93 F_value_b93 F_coder_b93 g_b93 _ _ V_b) (by rw [hml]; rfl) (lenOf pdNew rfl) rfl (hb hby at_320) (by first | decide | exact Nat.le_of_ble_eq_true rfl) (by first | decide | exact Nat.le_of_ble_eq_true rfl) (by first | decide | exact Nat.le_of_ble_eq_true rfl) (by first | decide | exact Nat.le_of_ble_eq_true rfl) ?_
        intro r99 T99 L99 q99 X99 hZ hown hW99
        obtain ⟨rfl, Nq99, K99, S99⟩ := q99
        have N99 := Fr.app N91 Nq99
        have O99 := Old.keep O91_v95 K99 (allS g_b93 all0)
        have Zk99 := Nat.le_trans Zk91_v94 K99.1
        generalize hds : tx4 = ds at S99
        show Go p e below _ T99 (mkF m 323 #[.val (.int x0), .val (.int x1), .val (.int x2), .val (.int x3), .val (.int x4), .val (.ref r1a), .val (.int v5), .val (.int v6), .val (.int v7), .val (.int v8), .val (.int v63), .val (.ref r64a), .unset, .unset] [(.ref b93)])
        refine Go.s_astore X99 hx (hb hby at_323) (q := 325) rfl rfl (l' := #[.val (.int x0), .val (.int x1), .val (.int x2), .val (.int x3), .val (.int x4), .val (.ref r1a), .val (.int v5), .val (.int v6), .val (.int v7), .val (.int v8), .val (.int v63), .val (.ref r64a), .val (.ref b93), .unset]) rfl ?_
        refine Go.s_aload X99 hx (hb hby at_325) (q := 327) rfl rfl rfl ?_
        refine Go.callS (y := mn_18) X99 hx hZ hown (w_ hw 79 rfl) (w_ hw 80 rfl) (w_ hw 81 rfl) (w_ hw 82 rfl) (by decide) rfl (argsL := [(.ref b93)]) (rest := []) (rm_of l Z a0 hw b93 _ _ _ ds S99 zc (CS.ext O99.2) hzc av r0 r1 r2 r3 kc (S_VALUES.ext O99.2) (V_av.ext O99.2) (E_av.ext O99.2) w0 w1 w2 w3 (FW0.ext O99.2) (SW0.ext O99.2) (FW1.ext O99.2) (SW1.ext O99.2) (FW2.ext O99.2) (SW2.ext O99.2) (FW3.ext O99.2) (SW3.ext O99.2)) (by rw [hml]; rfl) (lenOf pd_12 rfl) rfl (hb hby at_327) (by decide) (by decide) (by decide) (by decide) ?_
        intro r100 T100 L100 q100 X100
        obtain ⟨rfl, rfl, E100⟩ := q100
        rw [List.append_nil] at X100
        have Zk99_v101 := Nat.le_trans Zk99 E100.1
        have O99_v102 := Old.ext O99 E100
        have hW99_v103 := hW99.ext E100
        have S99_v104 := S99.ext E100
        rcases pick_is r0 r1 r2 r3 ds with ⟨qr, hq⟩ | hq
        · rw [hq]
          show Go p e below _ T100 (mkF m 330 #[.val (.int x0), .val (.int x1), .val (.int x2), .val (.int x3), .val (.int x4), .val (.ref r1a), .val (.int v5), .val (.int v6), .val (.int v7), .val (.int v8), .val (.int v63), .val (.ref r64a), .val (.ref b93), .unset] [(.ref qr)])
          refine Go.s_astore X100 hx (hb hby at_330) (q := 332) rfl rfl (l' := #[.val (.int x0), .val (.int x1), .val (.int x2), .val (.int x3), .val (.int x4), .val (.ref r1a), .val (.int v5), .val (.int v6), .val (.int v7), .val (.int v8), .val (.int v63), .val (.ref r64a), .val (.ref b93), .val (.ref qr)]) rfl ?_
          refine Go.s_aload X100 hx (hb hby at_332) (q := 334) rfl rfl rfl ?_
          refine Go.s_aload X100 hx (hb hby at_334) (q := 336) rfl rfl rfl ?_
          refine Go.callSW (y := mn_22) X100 hx hZ hown (w_ hw 113 rfl) (w_ hw 114 rfl) (w_ hw 2 rfl) (w_ hw 115 rfl) (by decide) rfl hEL hW99_v103 (sf := []) all0 (argsL := [(.ref b93)]) (rest := [(.ref qr)]) (rm_exp l Z a0 hw b93 _ hEL _ ds S99_v104 zc (CS.ext O99_v102.2) hzc r0 r1 r2 r3 (SG0.ext O99_v102.2) (SG1.ext O99_v102.2) (SG2.ext O99_v102.2) (SG3.ext O99_v102.2)) (by rw [hml]; rfl) (lenOf pd_12 rfl) rfl (hb hby at_336) (by first | decide | exact Nat.le_of_ble_eq_true rfl) (by first | decide | exact Nat.le_of_ble_eq_true rfl) (by first | decide | exact Nat.le_of_ble_eq_true rfl) (by first | decide | exact Nat.le_of_ble_eq_true rfl) ?_
          intro r105 T105 L105 q105 X105 hZ hown hW105
          obtain ⟨rfl, rfl⟩ := q105
          rw [List.append_nil] at X105
          rw [hq]
          show Go p e below _ T105 (mkF m 339 #[.val (.int x0), .val (.int x1), .val (.int x2), .val (.int x3), .val (.int x4), .val (.ref r1a), .val (.int v5), .val (.int v6), .val (.int v7), .val (.int v8), .val (.int v63), .val (.ref r64a), .val (.ref b93), .val (.ref qr)] [(.ref qr), (.ref qr)])
          refine Go.s_acmp X105 hx (q := 342) (hb hby at_339) rfl rfl (same := true) (decide_eq_true rfl) (by decide) (by decide) ?_
          refine Go.s_iconst X105 hx (hb hby at_342) (q := 343) rfl (z := 1) rfl ?_
          refine Go.s_goto X105 hx (hb hby at_343) (q := 347) (by decide) (by decide) ?_
          refine Go.retNW X105 hx hZ hEL rfl hW105 hlk hret (by simp) (hb hby at_347) (by decide) (by decide) ?_
          exact ⟨by decide, N99⟩
        · rw [hq]
          show Go p e below _ T100 (mkF m 330 #[.val (.int x0), .val (.int x1), .val (.int x2), .val (.int x3), .val (.int x4), .val (.ref r1a), .val (.int v5), .val (.int v6), .val (.int v7), .val (.int v8), .val (.int v63), .val (.ref r64a), .val (.ref b93), .unset] [.null])
          refine Go.s_astore X100 hx (hb hby at_330) (q := 332) rfl rfl (l' := #[.val (.int x0), .val (.int x1), .val (.int x2), .val (.int x3), .val (.int x4), .val (.ref r1a), .val (.int v5), .val (.int v6), .val (.int v7), .val (.int v8), .val (.int v63), .val (.ref r64a), .val (.ref b93), .val .null]) rfl ?_
          refine Go.s_aload X100 hx (hb hby at_332) (q := 334) rfl rfl rfl ?_
          refine Go.s_aload X100 hx (hb hby at_334) (q := 336) rfl rfl rfl ?_
          refine Go.callSW (y := mn_22) X100 hx hZ hown (w_ hw 113 rfl) (w_ hw 114 rfl) (w_ hw 2 rfl) (w_ hw 115 rfl) (by decide) rfl hEL hW99_v103 (sf := []) all0 (argsL := [(.ref b93)]) (rest := [.null]) (rm_exp l Z a0 hw b93 _ hEL _ ds S99_v104 zc (CS.ext O99_v102.2) hzc r0 r1 r2 r3 (SG0.ext O99_v102.2) (SG1.ext O99_v102.2) (SG2.ext O99_v102.2) (SG3.ext O99_v102.2)) (by rw [hml]; rfl) (lenOf pd_12 rfl) rfl (hb hby at_336) (by first | decide | exact Nat.le_of_ble_eq_true rfl) (by first | decide | exact Nat.le_of_ble_eq_true rfl) (by first | decide | exact Nat.le_of_ble_eq_true rfl) (by first | decide | exact Nat.le_of_ble_eq_true rfl) ?_
          intro r106 T106 L106 q106 X106 hZ hown hW106
          obtain ⟨rfl, rfl⟩ := q106
          rw [List.append_nil] at X106
          rw [hq]
          show Go p e below _ T106 (mkF m 339 #[.val (.int x0), .val (.int x1), .val (.int x2), .val (.int x3), .val (.int x4), .val (.ref r1a), .val (.int v5), .val (.int v6), .val (.int v7), .val (.int v8), .val (.int v63), .val (.ref r64a), .val (.ref b93), .val .null] [.null, .null])
          refine Go.s_acmp X106 hx (q := 342) (hb hby at_339) rfl rfl (same := true) (decide_eq_true rfl) (by decide) (by decide) ?_
          refine Go.s_iconst X106 hx (hb hby at_342) (q := 343) rfl (z := 1) rfl ?_
          refine Go.s_goto X106 hx (hb hby at_343) (q := 347) (by decide) (by decide) ?_
          refine Go.retNW X106 hx hZ hEL rfl hW106 hlk hret (by simp) (hb hby at_347) (by decide) (by decide) ?_
          exact ⟨by decide, N99⟩
      · refine Go.strNew (cap := 11) X93 hx hZ hown (w_ hw 59 rfl) (w_ hw 60 rfl) (w_ hw 61 rfl) (w_new hw) (w_ hw 6 rfl) e93 g_b93 Zk91_v94 A93 F_value_b93 F_coder_b93 A91_v98 hz0 (cap11 hB) (by decide) (CS.ext O91_v95.2) hzc (by rw [hml]; rfl) (hb hby at_320) (by first | decide | exact Nat.le_of_ble_eq_true rfl) (by first | decide | exact Nat.le_of_ble_eq_true rfl) (by first | decide | exact Nat.le_of_ble_eq_true rfl) (by first | decide | exact Nat.le_of_ble_eq_true rfl) ?_
        intro T107 L107 as107 X107 Nq107 K107 S107
        have hW107 := hWk91_v96.keep K107 (sfS hsx sf0)
        have N107 := Fr.app N91 Nq107
        have O107 := Old.keep O91_v95 K107 (allS g_b93 all0)
        have Zk107 := Nat.le_trans Zk91_v94 K107.1
        generalize hds : as107 = ds at S107
        show Go p e below _ T107 (mkF m 323 #[.val (.int x0), .val (.int x1), .val (.int x2), .val (.int x3), .val (.int x4), .val (.ref r1a), .val (.int v5), .val (.int v6), .val (.int v7), .val (.int v8), .val (.int v63), .val (.ref r64a), .unset, .unset] [(.ref b93)])
        refine Go.s_astore X107 hx (hb hby at_323) (q := 325) rfl rfl (l' := #[.val (.int x0), .val (.int x1), .val (.int x2), .val (.int x3), .val (.int x4), .val (.ref r1a), .val (.int v5), .val (.int v6), .val (.int v7), .val (.int v8), .val (.int v63), .val (.ref r64a), .val (.ref b93), .unset]) rfl ?_
        refine Go.s_aload X107 hx (hb hby at_325) (q := 327) rfl rfl rfl ?_
        refine Go.callS (y := mn_18) X107 hx hZ hown (w_ hw 79 rfl) (w_ hw 80 rfl) (w_ hw 81 rfl) (w_ hw 82 rfl) (by decide) rfl (argsL := [(.ref b93)]) (rest := []) (rm_of l Z a0 hw b93 _ _ _ ds S107 zc (CS.ext O107.2) hzc av r0 r1 r2 r3 kc (S_VALUES.ext O107.2) (V_av.ext O107.2) (E_av.ext O107.2) w0 w1 w2 w3 (FW0.ext O107.2) (SW0.ext O107.2) (FW1.ext O107.2) (SW1.ext O107.2) (FW2.ext O107.2) (SW2.ext O107.2) (FW3.ext O107.2) (SW3.ext O107.2)) (by rw [hml]; rfl) (lenOf pd_12 rfl) rfl (hb hby at_327) (by decide) (by decide) (by decide) (by decide) ?_
        intro r108 T108 L108 q108 X108
        obtain ⟨rfl, rfl, E108⟩ := q108
        rw [List.append_nil] at X108
        have Zk107_v109 := Nat.le_trans Zk107 E108.1
        have O107_v110 := Old.ext O107 E108
        have hW107_v111 := hW107.ext E108
        have S107_v112 := S107.ext E108
        rcases pick_is r0 r1 r2 r3 ds with ⟨qr, hq⟩ | hq
        · rw [hq]
          show Go p e below _ T108 (mkF m 330 #[.val (.int x0), .val (.int x1), .val (.int x2), .val (.int x3), .val (.int x4), .val (.ref r1a), .val (.int v5), .val (.int v6), .val (.int v7), .val (.int v8), .val (.int v63), .val (.ref r64a), .val (.ref b93), .unset] [(.ref qr)])
          refine Go.s_astore X108 hx (hb hby at_330) (q := 332) rfl rfl (l' := #[.val (.int x0), .val (.int x1), .val (.int x2), .val (.int x3), .val (.int x4), .val (.ref r1a), .val (.int v5), .val (.int v6), .val (.int v7), .val (.int v8), .val (.int v63), .val (.ref r64a), .val (.ref b93), .val (.ref qr)]) rfl ?_
          refine Go.s_aload X108 hx (hb hby at_332) (q := 334) rfl rfl rfl ?_
          refine Go.s_aload X108 hx (hb hby at_334) (q := 336) rfl rfl rfl ?_
          refine Go.callSW (y := mn_22) X108 hx hZ hown (w_ hw 113 rfl) (w_ hw 114 rfl) (w_ hw 2 rfl) (w_ hw 115 rfl) (by decide) rfl hEL hW107_v111 (sf := []) all0 (argsL := [(.ref b93)]) (rest := [(.ref qr)]) (rm_exp l Z a0 hw b93 _ hEL _ ds S107_v112 zc (CS.ext O107_v110.2) hzc r0 r1 r2 r3 (SG0.ext O107_v110.2) (SG1.ext O107_v110.2) (SG2.ext O107_v110.2) (SG3.ext O107_v110.2)) (by rw [hml]; rfl) (lenOf pd_12 rfl) rfl (hb hby at_336) (by first | decide | exact Nat.le_of_ble_eq_true rfl) (by first | decide | exact Nat.le_of_ble_eq_true rfl) (by first | decide | exact Nat.le_of_ble_eq_true rfl) (by first | decide | exact Nat.le_of_ble_eq_true rfl) ?_
          intro r113 T113 L113 q113 X113 hZ hown hW113
          obtain ⟨rfl, rfl⟩ := q113
          rw [List.append_nil] at X113
          rw [hq]
          show Go p e below _ T113 (mkF m 339 #[.val (.int x0), .val (.int x1), .val (.int x2), .val (.int x3), .val (.int x4), .val (.ref r1a), .val (.int v5), .val (.int v6), .val (.int v7), .val (.int v8), .val (.int v63), .val (.ref r64a), .val (.ref b93), .val (.ref qr)] [(.ref qr), (.ref qr)])
          refine Go.s_acmp X113 hx (q := 342) (hb hby at_339) rfl rfl (same := true) (decide_eq_true rfl) (by decide) (by decide) ?_
          refine Go.s_iconst X113 hx (hb hby at_342) (q := 343) rfl (z := 1) rfl ?_
          refine Go.s_goto X113 hx (hb hby at_343) (q := 347) (by decide) (by decide) ?_
          refine Go.retNW X113 hx hZ hEL rfl hW113 hlk hret (by simp) (hb hby at_347) (by decide) (by decide) ?_
          exact ⟨by decide, N107⟩
        · rw [hq]
          show Go p e below _ T108 (mkF m 330 #[.val (.int x0), .val (.int x1), .val (.int x2), .val (.int x3), .val (.int x4), .val (.ref r1a), .val (.int v5), .val (.int v6), .val (.int v7), .val (.int v8), .val (.int v63), .val (.ref r64a), .val (.ref b93), .unset] [.null])
          refine Go.s_astore X108 hx (hb hby at_330) (q := 332) rfl rfl (l' := #[.val (.int x0), .val (.int x1), .val (.int x2), .val (.int x3), .val (.int x4), .val (.ref r1a), .val (.int v5), .val (.int v6), .val (.int v7), .val (.int v8), .val (.int v63), .val (.ref r64a), .val (.ref b93), .val .null]) rfl ?_
          refine Go.s_aload X108 hx (hb hby at_332) (q := 334) rfl rfl rfl ?_
          refine Go.s_aload X108 hx (hb hby at_334) (q := 336) rfl rfl rfl ?_
          refine Go.callSW (y := mn_22) X108 hx hZ hown (w_ hw 113 rfl) (w_ hw 114 rfl) (w_ hw 2 rfl) (w_ hw 115 rfl) (by decide) rfl hEL hW107_v111 (sf := []) all0 (argsL := [(.ref b93)]) (rest := [.null]) (rm_exp l Z a0 hw b93 _ hEL _ ds S107_v112 zc (CS.ext O107_v110.2) hzc r0 r1 r2 r3 (SG0.ext O107_v110.2) (SG1.ext O107_v110.2) (SG2.ext O107_v110.2) (SG3.ext O107_v110.2)) (by rw [hml]; rfl) (lenOf pd_12 rfl) rfl (hb hby at_336) (by first | decide | exact Nat.le_of_ble_eq_true rfl) (by first | decide | exact Nat.le_of_ble_eq_true rfl) (by first | decide | exact Nat.le_of_ble_eq_true rfl) (by first | decide | exact Nat.le_of_ble_eq_true rfl) ?_
          intro r114 T114 L114 q114 X114 hZ hown hW114
          obtain ⟨rfl, rfl⟩ := q114
          rw [List.append_nil] at X114
          rw [hq]
          show Go p e below _ T114 (mkF m 339 #[.val (.int x0), .val (.int x1), .val (.int x2), .val (.int x3), .val (.int x4), .val (.ref r1a), .val (.int v5), .val (.int v6), .val (.int v7), .val (.int v8), .val (.int v63), .val (.ref r64a), .val (.ref b93), .val .null] [.null, .null])
          refine Go.s_acmp X114 hx (q := 342) (hb hby at_339) rfl rfl (same := true) (decide_eq_true rfl) (by decide) (by decide) ?_
          refine Go.s_iconst X114 hx (hb hby at_342) (q := 343) rfl (z := 1) rfl ?_
          refine Go.s_goto X114 hx (hb hby at_343) (q := 347) (by decide) (by decide) ?_
          refine Go.retNW X114 hx hZ hEL rfl hW114 hlk hret (by simp) (hb hby at_347) (by decide) (by decide) ?_
          exact ⟨by decide, N107⟩
    · -- pc 58: not v6 = (3 : Int32)
      refine Go.s_icmpYes X4 hx (hb hby at_58) (q := 70) (by decide) (by decide) (feq c58_62).2 ?_
      refine Go.s_iload X4 hx (hb hby at_70) (q := 72) rfl rfl ?_
      refine Go.s_iconst X4 hx (hb hby at_72) (q := 73) rfl (z := 4) rfl ?_
      by_cases c73_115 : v6 = (4 : Int32)
      · -- pc 73: v6 = (4 : Int32)
        refine Go.s_icmpNo X4 hx (hb hby at_73) (q := 76) rfl (teq c73_115).2 ?_
        refine Go.s_iload X4 hx (hb hby at_76) (q := 78) rfl rfl ?_
        refine Go.s_bipush X4 hx (hb hby at_78) (q := 80) rfl (z := 8) rfl ?_
        refine Go.s_iushr X4 hx (hb hby at_80) (q := 81) rfl ?_
        refine Go.s_iconst X4 hx (hb hby at_81) (q := 82) rfl (z := 3) rfl ?_
        refine Go.s_iand X4 hx (hb hby at_82) (q := 83) rfl ?_
        refine Go.s_istore X4 hx (hb hby at_83) (q := 85) rfl (l' := #[.val (.int x0), .val (.int x1), .val (.int x2), .val (.int x3), .val (.int x4), .val (.ref r1a), .val (.int v5), .val (.int v6), .val (.int v7), .val (.int v8), .val (.int (((x4.toUInt32 >>> ((8 : Int32) &&& 31).toUInt32).toInt32) &&& (3 : Int32))), .unset, .unset, .unset]) rfl ?_
        generalize hv116 : (((x4.toUInt32 >>> ((8 : Int32) &&& 31).toUInt32).toInt32) &&& (3 : Int32)) = v116
        refine Go.s_goto X4 hx (hb hby at_85) (q := 92) (by decide) (by decide) ?_
        refine Go.s_iload X4 hx (hb hby at_92) (q := 94) rfl rfl ?_
        refine Go.callS (y := mn_4) X4 hx hZ hown (w_ hw 26 rfl) (w_ hw 27 rfl) (w_ hw 2 rfl) (w_ hw 28 rfl) (by decide) e4 (argsL := [(.int v116)]) (rest := []) (rm_bla l Z a0 hw v116 _) (by rw [hml]; rfl) (lenOf pd_8 rfl) rfl (hb hby at_94) (by decide) (by decide) (by decide) (by decide) ?_
        intro r117 T117 L117 q117 X117
        obtain ⟨r117a, k117a, z117a, rfl, rfl, E117, g117, hB, A117⟩ := q117
        rw [List.append_nil] at X117
        have g_a : n0 ≤ r117a := g117 ▸ Z0_v2
        have hka : T1.heap.size ≤ r117a := Nat.le_of_eq (g117).symm
        have Z0_v118 := Nat.le_trans Z0_v2 E117.1
        have O0_v119 := Old.ext O0_v3 E117
        have hW1_v120 := hW1.ext E117
        have S1_v121 := S1.ext E117
        show Go p e below _ T117 (mkF m 97 #[.val (.int x0), .val (.int x1), .val (.int x2), .val (.int x3), .val (.int x4), .val (.ref r1a), .val (.int v5), .val (.int v6), .val (.int v7), .val (.int v8), .val (.int v116), .unset, .unset, .unset] [(.ref r117a)])
        refine Go.s_astore X117 hx (hb hby at_97) (q := 99) rfl rfl (l' := #[.val (.int x0), .val (.int x1), .val (.int x2), .val (.int x3), .val (.int x4), .val (.ref r1a), .val (.int v5), .val (.int v6), .val (.int v7), .val (.int v8), .val (.int v116), .val (.ref r117a), .unset, .unset]) rfl ?_
        refine Go.s_iload X117 hx (hb hby at_99) (q := 101) rfl rfl ?_
        refine Go.s_iconst X117 hx (hb hby at_101) (q := 102) rfl (z := 4) rfl ?_
        refine Go.s_icmpNo X117 hx (hb hby at_102) (q := 105) rfl (teq c73_115).2 ?_
        refine Go.s_aload X117 hx (hb hby at_105) (q := 107) rfl rfl rfl ?_
        refine Go.s_iconst X117 hx (hb hby at_107) (q := 108) rfl (z := 0) rfl ?_
        refine Go.s_iload X117 hx (hb hby at_108) (q := 110) rfl rfl ?_
        refine Go.callS (y := mn_11) X117 hx hZ hown (w_ hw 55 rfl) (w_ hw 56 rfl) (w_ hw 2 rfl) (w_ hw 57 rfl) (by decide) rfl (argsL := [(.ref r117a), (.int (0 : Int32)), (.int v7)]) (rest := []) (rm_put l Z a0 hw r117a (0 : Int32) v7 _ n0 g_a _ _ A117 (by decide) ch_v7) (by rw [hml]; rfl) (lenOf pd_18 rfl) rfl (hb hby at_110) (by decide) (by decide) (by decide) (by decide) ?_
        intro r122 T122 L122 q122 X122
        obtain ⟨rfl, Nq122, K122, A122⟩ := q122
        have N122 := Fr.app (Fr.nil n0) Nq122
        have hWk122 := hW1_v120.keep K122 (sfS (CA.safe A117 hZ.alike) sf0)
        have O122 := Old.keep O0_v119 K122 (allS g_a all0)
        have S122k := S1_v121.keep K122 (allS hka all0)
        have Zk122 := Nat.le_trans Z0_v118 K122.1
        show Go p e below _ T122 (mkF m 113 #[.val (.int x0), .val (.int x1), .val (.int x2), .val (.int x3), .val (.int x4), .val (.ref r1a), .val (.int v5), .val (.int v6), .val (.int v7), .val (.int v8), .val (.int v116), .val (.ref r117a), .unset, .unset] [])
        refine Go.s_aload X122 hx (hb hby at_113) (q := 115) rfl rfl rfl ?_
        refine Go.s_iconst X122 hx (hb hby at_115) (q := 116) rfl (z := 1) rfl ?_
        refine Go.s_iload X122 hx (hb hby at_116) (q := 118) rfl rfl ?_
        refine Go.callS (y := mn_11) X122 hx hZ hown (w_ hw 55 rfl) (w_ hw 56 rfl) (w_ hw 2 rfl) (w_ hw 57 rfl) (by decide) rfl (argsL := [(.ref r117a), (.int (1 : Int32)), (.int v8)]) (rest := []) (rm_put l Z a0 hw r117a (1 : Int32) v8 _ n0 g_a _ _ A122 (by decide) ch_v8) (by rw [hml]; rfl) (lenOf pd_18 rfl) rfl (hb hby at_118) (by decide) (by decide) (by decide) (by decide) ?_
        intro r123 T123 L123 q123 X123
        obtain ⟨rfl, Nq123, K123, A123⟩ := q123
        have N123 := Fr.app N122 Nq123
        have hWk123 := hWk122.keep K123 (sfS (CA.safe A122 hZ.alike) sf0)
        have O123 := Old.keep O122 K123 (allS g_a all0)
        have S123k := S122k.keep K123 (allS hka all0)
        have Zk123 := Nat.le_trans Zk122 K123.1
        show Go p e below _ T123 (mkF m 121 #[.val (.int x0), .val (.int x1), .val (.int x2), .val (.int x3), .val (.int x4), .val (.ref r1a), .val (.int v5), .val (.int v6), .val (.int v7), .val (.int v8), .val (.int v116), .val (.ref r117a), .unset, .unset] [])
        refine Go.s_aload X123 hx (hb hby at_121) (q := 123) rfl rfl rfl ?_
        refine Go.s_iconst X123 hx (hb hby at_123) (q := 124) rfl (z := 2) rfl ?_
        refine Go.s_iload X123 hx (hb hby at_124) (q := 126) rfl rfl ?_
        refine Go.callS (y := mn_11) X123 hx hZ hown (w_ hw 55 rfl) (w_ hw 56 rfl) (w_ hw 2 rfl) (w_ hw 57 rfl) (by decide) rfl (argsL := [(.ref r117a), (.int (2 : Int32)), (.int v7)]) (rest := []) (rm_put l Z a0 hw r117a (2 : Int32) v7 _ n0 g_a _ _ A123 (by decide) ch_v7) (by rw [hml]; rfl) (lenOf pd_18 rfl) rfl (hb hby at_126) (by decide) (by decide) (by decide) (by decide) ?_
        intro r124 T124 L124 q124 X124
        obtain ⟨rfl, Nq124, K124, A124⟩ := q124
        have N124 := Fr.app N123 Nq124
        have hWk124 := hWk123.keep K124 (sfS (CA.safe A123 hZ.alike) sf0)
        have O124 := Old.keep O123 K124 (allS g_a all0)
        have S124k := S123k.keep K124 (allS hka all0)
        have Zk124 := Nat.le_trans Zk123 K124.1
        show Go p e below _ T124 (mkF m 129 #[.val (.int x0), .val (.int x1), .val (.int x2), .val (.int x3), .val (.int x4), .val (.ref r1a), .val (.int v5), .val (.int v6), .val (.int v7), .val (.int v8), .val (.int v116), .val (.ref r117a), .unset, .unset] [])
        refine Go.s_goto X124 hx (hb hby at_129) (q := 296) (by decide) (by decide) ?_
        refine Go.s_iload X124 hx (hb hby at_296) (q := 298) rfl rfl ?_
        refine Go.s_iconst X124 hx (hb hby at_298) (q := 299) rfl (z := 1) rfl ?_
        have i299_125 : ¬ (v6 = (1 : Int32)) := by
          intro qq
          have := mt Int32.toInt_inj.mp c43_9
          have := mt Int32.toInt_inj.mp c58_62
          have := congrArg Int32.toInt c73_115
          have := (by decide : (1 : Int32).toInt = 1)
          have := (by decide : (2 : Int32).toInt = 2)
          have := (by decide : (3 : Int32).toInt = 3)
          have := (by decide : (4 : Int32).toInt = 4)
          have := congrArg Int32.toInt qq
          omega
        refine Go.s_icmpYes X124 hx (hb hby at_299) (q := 314) (by decide) (by decide) (feq i299_125).2 ?_
        refine Go.newO X124 hx hZ hown (w_ hw 58 rfl) (w_ hw 6 rfl) (w_ hw 5 rfl) rfl (hb hby at_314) (by decide) (by decide) ?_
        intro T126 h126 b126 g126 X126 e126 E126 A126 D126
        have g_b126 : n0 ≤ b126 := g126 ▸ Zk124
        have Zk124_v127 := Nat.le_trans Zk124 E126.1
        have O124_v128 := Old.ext O124 E126
        have hWk124_v129 := hWk124.ext E126
        have S124k_v130 := S124k.ext E126
        have A124_v131 := A124.ext E126
        have F_value_b126 : Fld Z h126 b126 "java/lang/String" "value" "[B" .null := D126 (Or.inr (w_ hw 8 rfl)) (ty := (.array .byte)) (by decide)
        have F_coder_b126 : Fld Z h126 b126 "java/lang/String" "coder" "B" (.int (0 : Int32)) := D126 (Or.inr (w_ hw 9 rfl)) (ty := .byte) (by decide)
        have hsx : Safe Z consts_1 _ h126 b126 := Safe.ext E126 hWk124.2.1 (Safe.new (Nat.le_of_eq g126.symm))
        show Go p e below _ T126 (mkF m 317 #[.val (.int x0), .val (.int x1), .val (.int x2), .val (.int x3), .val (.int x4), .val (.ref r1a), .val (.int v5), .val (.int v6), .val (.int v7), .val (.int v8), .val (.int v116), .val (.ref r117a), .unset, .unset] [(.ref b126)])
        refine Go.s_dup X126 hx (hb hby at_317) (q := 318) rfl rfl ?_
        refine Go.s_aload X126 hx (hb hby at_318) (q := 320) rfl rfl rfl ?_
        by_cases hz0 : z117a = 0
        · obtain ⟨as, hl1, hl2, V_b⟩ := id A124_v131
          rw [hz0] at V_b
          refine Go.callCW (y := mn_12) X126 hx hZ rfl hown (w_ hw 59 rfl) (w_ hw 60 rfl) (w_ hw 61 rfl) (w_ hw 5 rfl) (by decide) e126 hEL hWk124_v129 (sf := [b126]) (allS ⟨hsx, A126.lt⟩ all0) (b := b126) (argsL := [(.ref r117a)]) (rest := [(.ref b126)]) (rm_ini1 l Z a0 hw b126 r117a h126 hEL n0 _ _ A126 F_value_b126 F_coder_b126 g_b126 _ _ V_b) (by rw [hml]; rfl) (lenOf pdNew rfl) rfl (hb hby at_320) (by first | decide | exact Nat.le_of_ble_eq_true rfl) (by first | decide | exact Nat.le_of_ble_eq_true rfl) (by first | decide | exact Nat.le_of_ble_eq_true rfl) (by first | decide | exact Nat.le_of_ble_eq_true rfl) ?_
          intro r132 T132 L132 q132 X132 hZ hown hW132
          obtain ⟨rfl, Nq132, K132, S132⟩ := q132
          have N132 := Fr.app N124 Nq132
          have O132 := Old.keep O124_v128 K132 (allS g_b126 all0)
          have Zk132 := Nat.le_trans Zk124_v127 K132.1
          generalize hds : tx4 = ds at S132
          show Go p e below _ T132 (mkF m 323 #[.val (.int x0), .val (.int x1), .val (.int x2), .val (.int x3), .val (.int x4), .val (.ref r1a), .val (.int v5), .val (.int v6), .val (.int v7), .val (.int v8), .val (.int v116), .val (.ref r117a), .unset, .unset] [(.ref b126)])
          refine Go.s_astore X132 hx (hb hby at_323) (q := 325) rfl rfl (l' := #[.val (.int x0), .val (.int x1), .val (.int x2), .val (.int x3), .val (.int x4), .val (.ref r1a), .val (.int v5), .val (.int v6), .val (.int v7), .val (.int v8), .val (.int v116), .val (.ref r117a), .val (.ref b126), .unset]) rfl ?_
          refine Go.s_aload X132 hx (hb hby at_325) (q := 327) rfl rfl rfl ?_
          refine Go.callS (y := mn_18) X132 hx hZ hown (w_ hw 79 rfl) (w_ hw 80 rfl) (w_ hw 81 rfl) (w_ hw 82 rfl) (by decide) rfl (argsL := [(.ref b126)]) (rest := []) (rm_of l Z a0 hw b126 _ _ _ ds S132 zc (CS.ext O132.2) hzc av r0 r1 r2 r3 kc (S_VALUES.ext O132.2) (V_av.ext O132.2) (E_av.ext O132.2) w0 w1 w2 w3 (FW0.ext O132.2) (SW0.ext O132.2) (FW1.ext O132.2) (SW1.ext O132.2) (FW2.ext O132.2) (SW2.ext O132.2) (FW3.ext O132.2) (SW3.ext O132.2)) (by rw [hml]; rfl) (lenOf pd_12 rfl) rfl (hb hby at_327) (by decide) (by decide) (by decide) (by decide) ?_
          intro r133 T133 L133 q133 X133
          obtain ⟨rfl, rfl, E133⟩ := q133
          rw [List.append_nil] at X133
          have Zk132_v134 := Nat.le_trans Zk132 E133.1
          have O132_v135 := Old.ext O132 E133
          have hW132_v136 := hW132.ext E133
          have S132_v137 := S132.ext E133
          rcases pick_is r0 r1 r2 r3 ds with ⟨qr, hq⟩ | hq
          · rw [hq]
            show Go p e below _ T133 (mkF m 330 #[.val (.int x0), .val (.int x1), .val (.int x2), .val (.int x3), .val (.int x4), .val (.ref r1a), .val (.int v5), .val (.int v6), .val (.int v7), .val (.int v8), .val (.int v116), .val (.ref r117a), .val (.ref b126), .unset] [(.ref qr)])
            refine Go.s_astore X133 hx (hb hby at_330) (q := 332) rfl rfl (l' := #[.val (.int x0), .val (.int x1), .val (.int x2), .val (.int x3), .val (.int x4), .val (.ref r1a), .val (.int v5), .val (.int v6), .val (.int v7), .val (.int v8), .val (.int v116), .val (.ref r117a), .val (.ref b126), .val (.ref qr)]) rfl ?_
            refine Go.s_aload X133 hx (hb hby at_332) (q := 334) rfl rfl rfl ?_
            refine Go.s_aload X133 hx (hb hby at_334) (q := 336) rfl rfl rfl ?_
            refine Go.callSW (y := mn_22) X133 hx hZ hown (w_ hw 113 rfl) (w_ hw 114 rfl) (w_ hw 2 rfl) (w_ hw 115 rfl) (by decide) rfl hEL hW132_v136 (sf := []) all0 (argsL := [(.ref b126)]) (rest := [(.ref qr)]) (rm_exp l Z a0 hw b126 _ hEL _ ds S132_v137 zc (CS.ext O132_v135.2) hzc r0 r1 r2 r3 (SG0.ext O132_v135.2) (SG1.ext O132_v135.2) (SG2.ext O132_v135.2) (SG3.ext O132_v135.2)) (by rw [hml]; rfl) (lenOf pd_12 rfl) rfl (hb hby at_336) (by first | decide | exact Nat.le_of_ble_eq_true rfl) (by first | decide | exact Nat.le_of_ble_eq_true rfl) (by first | decide | exact Nat.le_of_ble_eq_true rfl) (by first | decide | exact Nat.le_of_ble_eq_true rfl) ?_
            intro r138 T138 L138 q138 X138 hZ hown hW138
            obtain ⟨rfl, rfl⟩ := q138
            rw [List.append_nil] at X138
            rw [hq]
            show Go p e below _ T138 (mkF m 339 #[.val (.int x0), .val (.int x1), .val (.int x2), .val (.int x3), .val (.int x4), .val (.ref r1a), .val (.int v5), .val (.int v6), .val (.int v7), .val (.int v8), .val (.int v116), .val (.ref r117a), .val (.ref b126), .val (.ref qr)] [(.ref qr), (.ref qr)])
            refine Go.s_acmp X138 hx (q := 342) (hb hby at_339) rfl rfl (same := true) (decide_eq_true rfl) (by decide) (by decide) ?_
            refine Go.s_iconst X138 hx (hb hby at_342) (q := 343) rfl (z := 1) rfl ?_
            refine Go.s_goto X138 hx (hb hby at_343) (q := 347) (by decide) (by decide) ?_
            refine Go.retNW X138 hx hZ hEL rfl hW138 hlk hret (by simp) (hb hby at_347) (by decide) (by decide) ?_
            exact ⟨by decide, N132⟩
          · rw [hq]
            show Go p e below _ T133 (mkF m 330 #[.val (.int x0), .val (.int x1), .val (.int x2), .val (.int x3), .val (.int x4), .val (.ref r1a), .val (.int v5), .val (.int v6), .val (.int v7), .val (.int v8), .val (.int v116), .val (.ref r117a), .val (.ref b126), .unset] [.null])
            refine Go.s_astore X133 hx (hb hby at_330) (q := 332) rfl rfl (l' := #[.val (.int x0), .val (.int x1), .val (.int x2), .val (.int x3), .val (.int x4), .val (.ref r1a), .val (.int v5), .val (.int v6), .val (.int v7), .val (.int v8), .val (.int v116), .val (.ref r117a), .val (.ref b126), .val .null]) rfl ?_
            refine Go.s_aload X133 hx (hb hby at_332) (q := 334) rfl rfl rfl ?_
            refine Go.s_aload X133 hx (hb hby at_334) (q := 336) rfl rfl rfl ?_
            refine Go.callSW (y := mn_22) X133 hx hZ hown (w_ hw 113 rfl) (w_ hw 114 rfl) (w_ hw 2 rfl) (w_ hw 115 rfl) (by decide) rfl hEL hW132_v136 (sf := []) all0 (argsL := [(.ref b126)]) (rest := [.null]) (rm_exp l Z a0 hw b126 _ hEL _ ds S132_v137 zc (CS.ext O132_v135.2) hzc r0 r1 r2 r3 (SG0.ext O132_v135.2) (SG1.ext O132_v135.2) (SG2.ext O132_v135.2) (SG3.ext O132_v135.2)) (by rw [hml]; rfl) (lenOf pd_12 rfl) rfl (hb hby at_336) (by first | decide | exact Nat.le_of_ble_eq_true rfl) (by first | decide | exact Nat.le_of_ble_eq_true rfl) (by first | decide | exact Nat.le_of_ble_eq_true rfl) (by first | decide | exact Nat.le_of_ble_eq_true rfl) ?_
            intro r139 T139 L139 q139 X139 hZ hown hW139
            obtain ⟨rfl, rfl⟩ := q139
            rw [List.append_nil] at X139
            rw [hq]
            show Go p e below _ T139 (mkF m 339 #[.val (.int x0), .val (.int x1), .val (.int x2), .val (.int x3), .val (.int x4), .val (.ref r1a), .val (.int v5), .val (.int v6), .val (.int v7), .val (.int v8), .val (.int v116), .val (.ref r117a), .val (.ref b126), .val .null] [.null, .null])
            refine Go.s_acmp X139 hx (q := 342) (hb hby at_339) rfl rfl (same := true) (decide_eq_true rfl) (by decide) (by decide) ?_
            refine Go.s_iconst X139 hx (hb hby at_342) (q := 343) rfl (z := 1) rfl ?_
            refine Go.s_goto X139 hx (hb hby at_343) (q := 347) (by decide) (by decide) ?_
            refine Go.retNW X139 hx hZ hEL rfl hW139 hlk hret (by simp) (hb hby at_347) (by decide) (by decide) ?_
            exact ⟨by decide, N132⟩
        · refine Go.strNew (cap := 11) X126 hx hZ hown (w_ hw 59 rfl) (w_ hw 60 rfl) (w_ hw 61 rfl) (w_new hw) (w_ hw 6 rfl) e126 g_b126 Zk124_v127 A126 F_value_b126 F_coder_b126 A124_v131 hz0 (cap11 hB) (by decide) (CS.ext O124_v128.2) hzc (by rw [hml]; rfl) (hb hby at_320) (by first | decide | exact Nat.le_of_ble_eq_true rfl) (by first | decide | exact Nat.le_of_ble_eq_true rfl) (by first | decide | exact Nat.le_of_ble_eq_true rfl) (by first | decide | exact Nat.le_of_ble_eq_true rfl) ?_
          intro T140 L140 as140 X140 Nq140 K140 S140
          have hW140 := hWk124_v129.keep K140 (sfS hsx sf0)
          have N140 := Fr.app N124 Nq140
          have O140 := Old.keep O124_v128 K140 (allS g_b126 all0)
          have Zk140 := Nat.le_trans Zk124_v127 K140.1
          generalize hds : as140 = ds at S140
          show Go p e below _ T140 (mkF m 323 #[.val (.int x0), .val (.int x1), .val (.int x2), .val (.int x3), .val (.int x4), .val (.ref r1a), .val (.int v5), .val (.int v6), .val (.int v7), .val (.int v8), .val (.int v116), .val (.ref r117a), .unset, .unset] [(.ref b126)])
          refine Go.s_astore X140 hx (hb hby at_323) (q := 325) rfl rfl (l' := #[.val (.int x0), .val (.int x1), .val (.int x2), .val (.int x3), .val (.int x4), .val (.ref r1a), .val (.int v5), .val (.int v6), .val (.int v7), .val (.int v8), .val (.int v116), .val (.ref r117a), .val (.ref b126), .unset]) rfl ?_
          refine Go.s_aload X140 hx (hb hby at_325) (q := 327) rfl rfl rfl ?_
          refine Go.callS (y := mn_18) X140 hx hZ hown (w_ hw 79 rfl) (w_ hw 80 rfl) (w_ hw 81 rfl) (w_ hw 82 rfl) (by decide) rfl (argsL := [(.ref b126)]) (rest := []) (rm_of l Z a0 hw b126 _ _ _ ds S140 zc (CS.ext O140.2) hzc av r0 r1 r2 r3 kc (S_VALUES.ext O140.2) (V_av.ext O140.2) (E_av.ext O140.2) w0 w1 w2 w3 (FW0.ext O140.2) (SW0.ext O140.2) (FW1.ext O140.2) (SW1.ext O140.2) (FW2.ext O140.2) (SW2.ext O140.2) (FW3.ext O140.2) (SW3.ext O140.2)) (by rw [hml]; rfl) (lenOf pd_12 rfl) rfl (hb hby at_327) (by decide) (by decide) (by decide) (by decide) ?_
          intro r141 T141 L141 q141 X141
          obtain ⟨rfl, rfl, E141⟩ := q141
          rw [List.append_nil] at X141
          have Zk140_v142 := Nat.le_trans Zk140 E141.1
          have O140_v143 := Old.ext O140 E141
          have hW140_v144 := hW140.ext E141
          have S140_v145 := S140.ext E141
          rcases pick_is r0 r1 r2 r3 ds with ⟨qr, hq⟩ | hq
          · rw [hq]
            show Go p e below _ T141 (mkF m 330 #[.val (.int x0), .val (.int x1), .val (.int x2), .val (.int x3), .val (.int x4), .val (.ref r1a), .val (.int v5), .val (.int v6), .val (.int v7), .val (.int v8), .val (.int v116), .val (.ref r117a), .val (.ref b126), .unset] [(.ref qr)])
            refine Go.s_astore X141 hx (hb hby at_330) (q := 332) rfl rfl (l' := #[.val (.int x0), .val (.int x1), .val (.int x2), .val (.int x3), .val (.int x4), .val (.ref r1a), .val (.int v5), .val (.int v6), .val (.int v7), .val (.int v8), .val (.int v116), .val (.ref r117a), .val (.ref b126), .val (.ref qr)]) rfl ?_
            refine Go.s_aload X141 hx (hb hby at_332) (q := 334) rfl rfl rfl ?_
            refine Go.s_aload X141 hx (hb hby at_334) (q := 336) rfl rfl rfl ?_
            refine Go.callSW (y := mn_22) X141 hx hZ hown (w_ hw 113 rfl) (w_ hw 114 rfl) (w_ hw 2 rfl) (w_ hw 115 rfl) (by decide) rfl hEL hW140_v144 (sf := []) all0 (argsL := [(.ref b126)]) (rest := [(.ref qr)]) (rm_exp l Z a0 hw b126 _ hEL _ ds S140_v145 zc (CS.ext O140_v143.2) hzc r0 r1 r2 r3 (SG0.ext O140_v143.2) (SG1.ext O140_v143.2) (SG2.ext O140_v143.2) (SG3.ext O140_v143.2)) (by rw [hml]; rfl) (lenOf pd_12 rfl) rfl (hb hby at_336) (by first | decide | exact Nat.le_of_ble_eq_true rfl) (by first | decide | exact Nat.le_of_ble_eq_true rfl) (by first | decide | exact Nat.le_of_ble_eq_true rfl) (by first | decide | exact Nat.le_of_ble_eq_true rfl) ?_
            intro r146 T146 L146 q146 X146 hZ hown hW146
            obtain ⟨rfl, rfl⟩ := q146
            rw [List.append_nil] at X146
            rw [hq]
            show Go p e below _ T146 (mkF m 339 #[.val (.int x0), .val (.int x1), .val (.int x2), .val (.int x3), .val (.int x4), .val (.ref r1a), .val (.int v5), .val (.int v6), .val (.int v7), .val (.int v8), .val (.int v116), .val (.ref r117a), .val (.ref b126), .val (.ref qr)] [(.ref qr), (.ref qr)])
            refine Go.s_acmp X146 hx (q := 342) (hb hby at_339) rfl rfl (same := true) (decide_eq_true rfl) (by decide) (by decide) ?_
            refine Go.s_iconst X146 hx (hb hby at_342) (q := 343) rfl (z := 1) rfl ?_
            refine Go.s_goto X146 hx (hb hby at_343) (q := 347) (by decide) (by decide) ?_
            refine Go.retNW X146 hx hZ hEL rfl hW146 hlk hret (by simp) (hb hby at_347) (by decide) (by decide) ?_
            exact ⟨by decide, N140⟩
          · rw [hq]
            show Go p e below _ T141 (mkF m 330 #[.val (.int x0), .val (.int x1), .val (.int x2), .val (.int x3), .val (.int x4), .val (.ref r1a), .val (.int v5), .val (.int v6), .val (.int v7), .val (.int v8), .val (.int v116), .val (.ref r117a), .val (.ref b126), .unset] [.null])
            refine Go.s_astore X141 hx (hb hby at_330) (q := 332) rfl rfl (l' := #[.val (.int x0), .val (.int x1), .val (.int x2), .val (.int x3), .val (.int x4), .val (.ref r1a), .val (.int v5), .val (.int v6), .val (.int v7), .val (.int v8), .val (.int v116), .val (.ref r117a), .val (.ref b126), .val .null]) rfl ?_
            refine Go.s_aload X141 hx (hb hby at_332) (q := 334) rfl rfl rfl ?_
            refine Go.s_aload X141 hx (hb hby at_334) (q := 336) rfl rfl rfl ?_
            refine Go.callSW (y := mn_22) X141 hx hZ hown (w_ hw 113 rfl) (w_ hw 114 rfl) (w_ hw 2 rfl) (w_ hw 115 rfl) (by decide) rfl hEL hW140_v144 (sf := []) all0 (argsL := [(.ref b126)]) (rest := [.null]) (rm_exp l Z a0 hw b126 _ hEL _ ds S140_v145 zc (CS.ext O140_v143.2) hzc r0 r1 r2 r3 (SG0.ext O140_v143.2) (SG1.ext O140_v143.2) (SG2.ext O140_v143.2) (SG3.ext O140_v143.2)) (by rw [hml]; rfl) (lenOf pd_12 rfl) rfl (hb hby at_336) (by first | decide | exact Nat.le_of_ble_eq_true rfl) (by first | decide | exact Nat.le_of_ble_eq_true rfl) (by first | decide | exact Nat.le_of_ble_eq_true rfl) (by first | decide | exact Nat.le_of_ble_eq_true rfl) ?_
            intro r147 T147 L147 q147 X147 hZ hown hW147
            obtain ⟨rfl, rfl⟩ := q147
            rw [List.append_nil] at X147
            rw [hq]
            show Go p e below _ T147 (mkF m 339 #[.val (.int x0), .val (.int x1), .val (.int x2), .val (.int x3), .val (.int x4), .val (.ref r1a), .val (.int v5), .val (.int v6), .val (.int v7), .val (.int v8), .val (.int v116), .val (.ref r117a), .val (.ref b126), .val .null] [.null, .null])
            refine Go.s_acmp X147 hx (q := 342) (hb hby at_339) rfl rfl (same := true) (decide_eq_true rfl) (by decide) (by decide) ?_
            refine Go.s_iconst X147 hx (hb hby at_342) (q := 343) rfl (z := 1) rfl ?_
            refine Go.s_goto X147 hx (hb hby at_343) (q := 347) (by decide) (by decide) ?_
            refine Go.retNW X147 hx hZ hEL rfl hW147 hlk hret (by simp) (hb hby at_347) (by decide) (by decide) ?_
            exact ⟨by decide, N140⟩
      · -- pc 73: not v6 = (4 : Int32)
        refine Go.s_icmpYes X4 hx (hb hby at_73) (q := 88) (by decide) (by decide) (feq c73_115).2 ?_
        refine Go.s_iload X4 hx (hb hby at_88) (q := 90) rfl rfl ?_
        refine Go.s_istore X4 hx (hb hby at_90) (q := 92) rfl (l' := #[.val (.int x0), .val (.int x1), .val (.int x2), .val (.int x3), .val (.int x4), .val (.ref r1a), .val (.int v5), .val (.int v6), .val (.int v7), .val (.int v8), .val (.int v5), .unset, .unset, .unset]) rfl ?_
        refine Go.s_iload X4 hx (hb hby at_92) (q := 94) rfl rfl ?_
        refine Go.callS (y := mn_4) X4 hx hZ hown (w_ hw 26 rfl) (w_ hw 27 rfl) (w_ hw 2 rfl) (w_ hw 28 rfl) (by decide) e4 (argsL := [(.int v5)]) (rest := []) (rm_bla l Z a0 hw v5 _) (by rw [hml]; rfl) (lenOf pd_8 rfl) rfl (hb hby at_94) (by decide) (by decide) (by decide) (by decide) ?_
        intro r148 T148 L148 q148 X148
        obtain ⟨r148a, k148a, z148a, rfl, rfl, E148, g148, hB, A148⟩ := q148
        rw [List.append_nil] at X148
        have g_a : n0 ≤ r148a := g148 ▸ Z0_v2
        have hka : T1.heap.size ≤ r148a := Nat.le_of_eq (g148).symm
        have Z0_v149 := Nat.le_trans Z0_v2 E148.1
        have O0_v150 := Old.ext O0_v3 E148
        have hW1_v151 := hW1.ext E148
        have S1_v152 := S1.ext E148
        show Go p e below _ T148 (mkF m 97 #[.val (.int x0), .val (.int x1), .val (.int x2), .val (.int x3), .val (.int x4), .val (.ref r1a), .val (.int v5), .val (.int v6), .val (.int v7), .val (.int v8), .val (.int v5), .unset, .unset, .unset] [(.ref r148a)])
        refine Go.s_astore X148 hx (hb hby at_97) (q := 99) rfl rfl (l' := #[.val (.int x0), .val (.int x1), .val (.int x2), .val (.int x3), .val (.int x4), .val (.ref r1a), .val (.int v5), .val (.int v6), .val (.int v7), .val (.int v8), .val (.int v5), .val (.ref r148a), .unset, .unset]) rfl ?_
        refine Go.s_iload X148 hx (hb hby at_99) (q := 101) rfl rfl ?_
        refine Go.s_iconst X148 hx (hb hby at_101) (q := 102) rfl (z := 4) rfl ?_
        refine Go.s_icmpYes X148 hx (hb hby at_102) (q := 132) (by decide) (by decide) (feq c73_115).2 ?_
        refine Go.s_aload X148 hx (hb hby at_132) (q := 134) rfl rfl rfl ?_
        refine Go.s_iconst X148 hx (hb hby at_134) (q := 135) rfl (z := 0) rfl ?_
        refine Go.s_aload X148 hx (hb hby at_135) (q := 137) rfl rfl rfl ?_
        refine Go.s_iconst X148 hx (hb hby at_137) (q := 138) rfl (z := 0) rfl ?_
        refine Go.s_iload X148 hx (hb hby at_138) (q := 140) rfl rfl ?_
        refine Go.callS (y := mn_5) X148 hx hZ hown (w_ hw 30 rfl) (w_ hw 31 rfl) (w_ hw 2 rfl) (w_ hw 32 rfl) (by decide) rfl (argsL := [(.ref r1a), (.int (0 : Int32)), (.int v7)]) (rest := [(.int (0 : Int32)), (.ref r148a)]) (rm_src l Z a0 hw r1a (0 : Int32) v7 _ _ cs S1_v152 zc (CS.ext O0_v150.2) hzc fm (SF.ext O0_v150.2) rf (by decide) ch_v7) (by rw [hml]; rfl) (lenOf pd_13 rfl) rfl (hb hby at_140) (by first | decide | exact Nat.le_of_ble_eq_true rfl) (by first | decide | exact Nat.le_of_ble_eq_true rfl) (by first | decide | exact Nat.le_of_ble_eq_true rfl) (by first | decide | exact Nat.le_of_ble_eq_true rfl) ?_
        intro r153 T153 L153 q153 X153
        obtain ⟨w153, rfl, p153, rfl, e153⟩ := q153
        rw [List.append_nil] at X153
        show Go p e below _ T153 (mkF m 143 #[.val (.int x0), .val (.int x1), .val (.int x2), .val (.int x3), .val (.int x4), .val (.ref r1a), .val (.int v5), .val (.int v6), .val (.int v7), .val (.int v8), .val (.int v5), .val (.ref r148a), .unset, .unset] [(.int w153), (.int (0 : Int32)), (.ref r148a)])
        refine Go.callS (y := mn_11) X153 hx hZ hown (w_ hw 55 rfl) (w_ hw 56 rfl) (w_ hw 2 rfl) (w_ hw 57 rfl) (by decide) e153 (argsL := [(.ref r148a), (.int (0 : Int32)), (.int w153)]) (rest := []) (rm_put l Z a0 hw r148a (0 : Int32) w153 _ n0 g_a _ _ A148 (by decide) p153) (by rw [hml]; rfl) (lenOf pd_18 rfl) rfl (hb hby at_143) (by decide) (by decide) (by decide) (by decide) ?_
        intro r154 T154 L154 q154 X154
        obtain ⟨rfl, Nq154, K154, A154⟩ := q154
        have N154 := Fr.app (Fr.nil n0) Nq154
        have hWk154 := hW1_v151.keep K154 (sfS (CA.safe A148 hZ.alike) sf0)
        have O154 := Old.keep O0_v150 K154 (allS g_a all0)
        have S154k := S1_v152.keep K154 (allS hka all0)
        have Zk154 := Nat.le_trans Z0_v149 K154.1
        show Go p e below _ T154 (mkF m 146 #[.val (.int x0), .val (.int x1), .val (.int x2), .val (.int x3), .val (.int x4), .val (.ref r1a), .val (.int v5), .val (.int v6), .val (.int v7), .val (.int v8), .val (.int v5), .val (.ref r148a), .unset, .unset] [])
        refine Go.s_aload X154 hx (hb hby at_146) (q := 148) rfl rfl rfl ?_
        refine Go.s_iconst X154 hx (hb hby at_148) (q := 149) rfl (z := 1) rfl ?_
        refine Go.s_aload X154 hx (hb hby at_149) (q := 151) rfl rfl rfl ?_
        refine Go.s_iconst X154 hx (hb hby at_151) (q := 152) rfl (z := 1) rfl ?_
        refine Go.s_iload X154 hx (hb hby at_152) (q := 154) rfl rfl ?_
        refine Go.callS (y := mn_5) X154 hx hZ hown (w_ hw 30 rfl) (w_ hw 31 rfl) (w_ hw 2 rfl) (w_ hw 32 rfl) (by decide) rfl (argsL := [(.ref r1a), (.int (1 : Int32)), (.int v7)]) (rest := [(.int (1 : Int32)), (.ref r148a)]) (rm_src l Z a0 hw r1a (1 : Int32) v7 _ _ cs S154k zc (CS.ext O154.2) hzc fm (SF.ext O154.2) rf (by decide) ch_v7) (by rw [hml]; rfl) (lenOf pd_13 rfl) rfl (hb hby at_154) (by first | decide | exact Nat.le_of_ble_eq_true rfl) (by first | decide | exact Nat.le_of_ble_eq_true rfl) (by first | decide | exact Nat.le_of_ble_eq_true rfl) (by first | decide | exact Nat.le_of_ble_eq_true rfl) ?_
        intro r155 T155 L155 q155 X155
        obtain ⟨w155, rfl, p155, rfl, e155⟩ := q155
        rw [List.append_nil] at X155
        show Go p e below _ T155 (mkF m 157 #[.val (.int x0), .val (.int x1), .val (.int x2), .val (.int x3), .val (.int x4), .val (.ref r1a), .val (.int v5), .val (.int v6), .val (.int v7), .val (.int v8), .val (.int v5), .val (.ref r148a), .unset, .unset] [(.int w155), (.int (1 : Int32)), (.ref r148a)])
        refine Go.callS (y := mn_11) X155 hx hZ hown (w_ hw 55 rfl) (w_ hw 56 rfl) (w_ hw 2 rfl) (w_ hw 57 rfl) (by decide) e155 (argsL := [(.ref r148a), (.int (1 : Int32)), (.int w155)]) (rest := []) (rm_put l Z a0 hw r148a (1 : Int32) w155 _ n0 g_a _ _ A154 (by decide) p155) (by rw [hml]; rfl) (lenOf pd_18 rfl) rfl (hb hby at_157) (by decide) (by decide) (by decide) (by decide) ?_
        intro r156 T156 L156 q156 X156
        obtain ⟨rfl, Nq156, K156, A156⟩ := q156
        have N156 := Fr.app N154 Nq156
        have hWk156 := hWk154.keep K156 (sfS (CA.safe A154 hZ.alike) sf0)
        have O156 := Old.keep O154 K156 (allS g_a all0)
        have S156k := S154k.keep K156 (allS hka all0)
        have Zk156 := Nat.le_trans Zk154 K156.1
        show Go p e below _ T156 (mkF m 160 #[.val (.int x0), .val (.int x1), .val (.int x2), .val (.int x3), .val (.int x4), .val (.ref r1a), .val (.int v5), .val (.int v6), .val (.int v7), .val (.int v8), .val (.int v5), .val (.ref r148a), .unset, .unset] [])
        refine Go.s_aload X156 hx (hb hby at_160) (q := 162) rfl rfl rfl ?_
        refine Go.s_iconst X156 hx (hb hby at_162) (q := 163) rfl (z := 2) rfl ?_
        refine Go.s_aload X156 hx (hb hby at_163) (q := 165) rfl rfl rfl ?_
        refine Go.s_iconst X156 hx (hb hby at_165) (q := 166) rfl (z := 2) rfl ?_
        refine Go.s_iload X156 hx (hb hby at_166) (q := 168) rfl rfl ?_
        refine Go.callS (y := mn_5) X156 hx hZ hown (w_ hw 30 rfl) (w_ hw 31 rfl) (w_ hw 2 rfl) (w_ hw 32 rfl) (by decide) rfl (argsL := [(.ref r1a), (.int (2 : Int32)), (.int v7)]) (rest := [(.int (2 : Int32)), (.ref r148a)]) (rm_src l Z a0 hw r1a (2 : Int32) v7 _ _ cs S156k zc (CS.ext O156.2) hzc fm (SF.ext O156.2) rf (by decide) ch_v7) (by rw [hml]; rfl) (lenOf pd_13 rfl) rfl (hb hby at_168) (by first | decide | exact Nat.le_of_ble_eq_true rfl) (by first | decide | exact Nat.le_of_ble_eq_true rfl) (by first | decide | exact Nat.le_of_ble_eq_true rfl) (by first | decide | exact Nat.le_of_ble_eq_true rfl) ?_
        intro r157 T157 L157 q157 X157
        obtain ⟨w157, rfl, p157, rfl, e157⟩ := q157
        rw [List.append_nil] at X157
        show Go p e below _ T157 (mkF m 171 #[.val (.int x0), .val (.int x1), .val (.int x2), .val (.int x3), .val (.int x4), .val (.ref r1a), .val (.int v5), .val (.int v6), .val (.int v7), .val (.int v8), .val (.int v5), .val (.ref r148a), .unset, .unset] [(.int w157), (.int (2 : Int32)), (.ref r148a)])
        refine Go.callS (y := mn_11) X157 hx hZ hown (w_ hw 55 rfl) (w_ hw 56 rfl) (w_ hw 2 rfl) (w_ hw 57 rfl) (by decide) e157 (argsL := [(.ref r148a), (.int (2 : Int32)), (.int w157)]) (rest := []) (rm_put l Z a0 hw r148a (2 : Int32) w157 _ n0 g_a _ _ A156 (by decide) p157) (by rw [hml]; rfl) (lenOf pd_18 rfl) rfl (hb hby at_171) (by decide) (by decide) (by decide) (by decide) ?_
        intro r158 T158 L158 q158 X158
        obtain ⟨rfl, Nq158, K158, A158⟩ := q158
        have N158 := Fr.app N156 Nq158
        have hWk158 := hWk156.keep K158 (sfS (CA.safe A156 hZ.alike) sf0)
        have O158 := Old.keep O156 K158 (allS g_a all0)
        have S158k := S156k.keep K158 (allS hka all0)
        have Zk158 := Nat.le_trans Zk156 K158.1
        show Go p e below _ T158 (mkF m 174 #[.val (.int x0), .val (.int x1), .val (.int x2), .val (.int x3), .val (.int x4), .val (.ref r1a), .val (.int v5), .val (.int v6), .val (.int v7), .val (.int v8), .val (.int v5), .val (.ref r148a), .unset, .unset] [])
        refine Go.s_aload X158 hx (hb hby at_174) (q := 176) rfl rfl rfl ?_
        refine Go.s_iconst X158 hx (hb hby at_176) (q := 177) rfl (z := 3) rfl ?_
        refine Go.s_aload X158 hx (hb hby at_177) (q := 179) rfl rfl rfl ?_
        refine Go.s_iconst X158 hx (hb hby at_179) (q := 180) rfl (z := 3) rfl ?_
        refine Go.s_iload X158 hx (hb hby at_180) (q := 182) rfl rfl ?_
        refine Go.callS (y := mn_5) X158 hx hZ hown (w_ hw 30 rfl) (w_ hw 31 rfl) (w_ hw 2 rfl) (w_ hw 32 rfl) (by decide) rfl (argsL := [(.ref r1a), (.int (3 : Int32)), (.int v7)]) (rest := [(.int (3 : Int32)), (.ref r148a)]) (rm_src l Z a0 hw r1a (3 : Int32) v7 _ _ cs S158k zc (CS.ext O158.2) hzc fm (SF.ext O158.2) rf (by decide) ch_v7) (by rw [hml]; rfl) (lenOf pd_13 rfl) rfl (hb hby at_182) (by first | decide | exact Nat.le_of_ble_eq_true rfl) (by first | decide | exact Nat.le_of_ble_eq_true rfl) (by first | decide | exact Nat.le_of_ble_eq_true rfl) (by first | decide | exact Nat.le_of_ble_eq_true rfl) ?_
        intro r159 T159 L159 q159 X159
        obtain ⟨w159, rfl, p159, rfl, e159⟩ := q159
        rw [List.append_nil] at X159
        show Go p e below _ T159 (mkF m 185 #[.val (.int x0), .val (.int x1), .val (.int x2), .val (.int x3), .val (.int x4), .val (.ref r1a), .val (.int v5), .val (.int v6), .val (.int v7), .val (.int v8), .val (.int v5), .val (.ref r148a), .unset, .unset] [(.int w159), (.int (3 : Int32)), (.ref r148a)])
        refine Go.callS (y := mn_11) X159 hx hZ hown (w_ hw 55 rfl) (w_ hw 56 rfl) (w_ hw 2 rfl) (w_ hw 57 rfl) (by decide) e159 (argsL := [(.ref r148a), (.int (3 : Int32)), (.int w159)]) (rest := []) (rm_put l Z a0 hw r148a (3 : Int32) w159 _ n0 g_a _ _ A158 (by decide) p159) (by rw [hml]; rfl) (lenOf pd_18 rfl) rfl (hb hby at_185) (by decide) (by decide) (by decide) (by decide) ?_
        intro r160 T160 L160 q160 X160
        obtain ⟨rfl, Nq160, K160, A160⟩ := q160
        have N160 := Fr.app N158 Nq160
        have hWk160 := hWk158.keep K160 (sfS (CA.safe A158 hZ.alike) sf0)
        have O160 := Old.keep O158 K160 (allS g_a all0)
        have S160k := S158k.keep K160 (allS hka all0)
        have Zk160 := Nat.le_trans Zk158 K160.1
        show Go p e below _ T160 (mkF m 188 #[.val (.int x0), .val (.int x1), .val (.int x2), .val (.int x3), .val (.int x4), .val (.ref r1a), .val (.int v5), .val (.int v6), .val (.int v7), .val (.int v8), .val (.int v5), .val (.ref r148a), .unset, .unset] [])
        refine Go.s_aload X160 hx (hb hby at_188) (q := 190) rfl rfl rfl ?_
        refine Go.s_iconst X160 hx (hb hby at_190) (q := 191) rfl (z := 4) rfl ?_
        refine Go.s_aload X160 hx (hb hby at_191) (q := 193) rfl rfl rfl ?_
        refine Go.s_iconst X160 hx (hb hby at_193) (q := 194) rfl (z := 4) rfl ?_
        refine Go.s_iload X160 hx (hb hby at_194) (q := 196) rfl rfl ?_
        refine Go.callS (y := mn_5) X160 hx hZ hown (w_ hw 30 rfl) (w_ hw 31 rfl) (w_ hw 2 rfl) (w_ hw 32 rfl) (by decide) rfl (argsL := [(.ref r1a), (.int (4 : Int32)), (.int v7)]) (rest := [(.int (4 : Int32)), (.ref r148a)]) (rm_src l Z a0 hw r1a (4 : Int32) v7 _ _ cs S160k zc (CS.ext O160.2) hzc fm (SF.ext O160.2) rf (by decide) ch_v7) (by rw [hml]; rfl) (lenOf pd_13 rfl) rfl (hb hby at_196) (by first | decide | exact Nat.le_of_ble_eq_true rfl) (by first | decide | exact Nat.le_of_ble_eq_true rfl) (by first | decide | exact Nat.le_of_ble_eq_true rfl) (by first | decide | exact Nat.le_of_ble_eq_true rfl) ?_
        intro r161 T161 L161 q161 X161
        obtain ⟨w161, rfl, p161, rfl, e161⟩ := q161
        rw [List.append_nil] at X161
        show Go p e below _ T161 (mkF m 199 #[.val (.int x0), .val (.int x1), .val (.int x2), .val (.int x3), .val (.int x4), .val (.ref r1a), .val (.int v5), .val (.int v6), .val (.int v7), .val (.int v8), .val (.int v5), .val (.ref r148a), .unset, .unset] [(.int w161), (.int (4 : Int32)), (.ref r148a)])
        refine Go.callS (y := mn_11) X161 hx hZ hown (w_ hw 55 rfl) (w_ hw 56 rfl) (w_ hw 2 rfl) (w_ hw 57 rfl) (by decide) e161 (argsL := [(.ref r148a), (.int (4 : Int32)), (.int w161)]) (rest := []) (rm_put l Z a0 hw r148a (4 : Int32) w161 _ n0 g_a _ _ A160 (by decide) p161) (by rw [hml]; rfl) (lenOf pd_18 rfl) rfl (hb hby at_199) (by decide) (by decide) (by decide) (by decide) ?_
        intro r162 T162 L162 q162 X162
        obtain ⟨rfl, Nq162, K162, A162⟩ := q162
        have N162 := Fr.app N160 Nq162
        have hWk162 := hWk160.keep K162 (sfS (CA.safe A160 hZ.alike) sf0)
        have O162 := Old.keep O160 K162 (allS g_a all0)
        have S162k := S160k.keep K162 (allS hka all0)
        have Zk162 := Nat.le_trans Zk160 K162.1
        show Go p e below _ T162 (mkF m 202 #[.val (.int x0), .val (.int x1), .val (.int x2), .val (.int x3), .val (.int x4), .val (.ref r1a), .val (.int v5), .val (.int v6), .val (.int v7), .val (.int v8), .val (.int v5), .val (.ref r148a), .unset, .unset] [])
        refine Go.s_aload X162 hx (hb hby at_202) (q := 204) rfl rfl rfl ?_
        refine Go.s_iconst X162 hx (hb hby at_204) (q := 205) rfl (z := 5) rfl ?_
        refine Go.s_aload X162 hx (hb hby at_205) (q := 207) rfl rfl rfl ?_
        refine Go.s_iconst X162 hx (hb hby at_207) (q := 208) rfl (z := 5) rfl ?_
        refine Go.s_iload X162 hx (hb hby at_208) (q := 210) rfl rfl ?_
        refine Go.callS (y := mn_5) X162 hx hZ hown (w_ hw 30 rfl) (w_ hw 31 rfl) (w_ hw 2 rfl) (w_ hw 32 rfl) (by decide) rfl (argsL := [(.ref r1a), (.int (5 : Int32)), (.int v7)]) (rest := [(.int (5 : Int32)), (.ref r148a)]) (rm_src l Z a0 hw r1a (5 : Int32) v7 _ _ cs S162k zc (CS.ext O162.2) hzc fm (SF.ext O162.2) rf (by decide) ch_v7) (by rw [hml]; rfl) (lenOf pd_13 rfl) rfl (hb hby at_210) (by first | decide | exact Nat.le_of_ble_eq_true rfl) (by first | decide | exact Nat.le_of_ble_eq_true rfl) (by first | decide | exact Nat.le_of_ble_eq_true rfl) (by first | decide | exact Nat.le_of_ble_eq_true rfl) ?_
        intro r163 T163 L163 q163 X163
        obtain ⟨w163, rfl, p163, rfl, e163⟩ := q163
        rw [List.append_nil] at X163
        show Go p e below _ T163 (mkF m 213 #[.val (.int x0), .val (.int x1), .val (.int x2), .val (.int x3), .val (.int x4), .val (.ref r1a), .val (.int v5), .val (.int v6), .val (.int v7), .val (.int v8), .val (.int v5), .val (.ref r148a), .unset, .unset] [(.int w163), (.int (5 : Int32)), (.ref r148a)])
        refine Go.callS (y := mn_11) X163 hx hZ hown (w_ hw 55 rfl) (w_ hw 56 rfl) (w_ hw 2 rfl) (w_ hw 57 rfl) (by decide) e163 (argsL := [(.ref r148a), (.int (5 : Int32)), (.int w163)]) (rest := []) (rm_put l Z a0 hw r148a (5 : Int32) w163 _ n0 g_a _ _ A162 (by decide) p163) (by rw [hml]; rfl) (lenOf pd_18 rfl) rfl (hb hby at_213) (by decide) (by decide) (by decide) (by decide) ?_
        intro r164 T164 L164 q164 X164
        obtain ⟨rfl, Nq164, K164, A164⟩ := q164
        have N164 := Fr.app N162 Nq164
        have hWk164 := hWk162.keep K164 (sfS (CA.safe A162 hZ.alike) sf0)
        have O164 := Old.keep O162 K164 (allS g_a all0)
        have S164k := S162k.keep K164 (allS hka all0)
        have Zk164 := Nat.le_trans Zk162 K164.1
        show Go p e below _ T164 (mkF m 216 #[.val (.int x0), .val (.int x1), .val (.int x2), .val (.int x3), .val (.int x4), .val (.ref r1a), .val (.int v5), .val (.int v6), .val (.int v7), .val (.int v8), .val (.int v5), .val (.ref r148a), .unset, .unset] [])
        refine Go.s_aload X164 hx (hb hby at_216) (q := 218) rfl rfl rfl ?_
        refine Go.s_bipush X164 hx (hb hby at_218) (q := 220) rfl (z := 6) rfl ?_
        refine Go.s_aload X164 hx (hb hby at_220) (q := 222) rfl rfl rfl ?_
        refine Go.s_bipush X164 hx (hb hby at_222) (q := 224) rfl (z := 6) rfl ?_
        refine Go.s_iload X164 hx (hb hby at_224) (q := 226) rfl rfl ?_
        refine Go.callS (y := mn_5) X164 hx hZ hown (w_ hw 30 rfl) (w_ hw 31 rfl) (w_ hw 2 rfl) (w_ hw 32 rfl) (by decide) rfl (argsL := [(.ref r1a), (.int (6 : Int32)), (.int v7)]) (rest := [(.int (6 : Int32)), (.ref r148a)]) (rm_src l Z a0 hw r1a (6 : Int32) v7 _ _ cs S164k zc (CS.ext O164.2) hzc fm (SF.ext O164.2) rf (by decide) ch_v7) (by rw [hml]; rfl) (lenOf pd_13 rfl) rfl (hb hby at_226) (by first | decide | exact Nat.le_of_ble_eq_true rfl) (by first | decide | exact Nat.le_of_ble_eq_true rfl) (by first | decide | exact Nat.le_of_ble_eq_true rfl) (by first | decide | exact Nat.le_of_ble_eq_true rfl) ?_
        intro r165 T165 L165 q165 X165
        obtain ⟨w165, rfl, p165, rfl, e165⟩ := q165
        rw [List.append_nil] at X165
        show Go p e below _ T165 (mkF m 229 #[.val (.int x0), .val (.int x1), .val (.int x2), .val (.int x3), .val (.int x4), .val (.ref r1a), .val (.int v5), .val (.int v6), .val (.int v7), .val (.int v8), .val (.int v5), .val (.ref r148a), .unset, .unset] [(.int w165), (.int (6 : Int32)), (.ref r148a)])
        refine Go.callS (y := mn_11) X165 hx hZ hown (w_ hw 55 rfl) (w_ hw 56 rfl) (w_ hw 2 rfl) (w_ hw 57 rfl) (by decide) e165 (argsL := [(.ref r148a), (.int (6 : Int32)), (.int w165)]) (rest := []) (rm_put l Z a0 hw r148a (6 : Int32) w165 _ n0 g_a _ _ A164 (by decide) p165) (by rw [hml]; rfl) (lenOf pd_18 rfl) rfl (hb hby at_229) (by decide) (by decide) (by decide) (by decide) ?_
        intro r166 T166 L166 q166 X166
        obtain ⟨rfl, Nq166, K166, A166⟩ := q166
        have N166 := Fr.app N164 Nq166
        have hWk166 := hWk164.keep K166 (sfS (CA.safe A164 hZ.alike) sf0)
        have O166 := Old.keep O164 K166 (allS g_a all0)
        have S166k := S164k.keep K166 (allS hka all0)
        have Zk166 := Nat.le_trans Zk164 K166.1
        show Go p e below _ T166 (mkF m 232 #[.val (.int x0), .val (.int x1), .val (.int x2), .val (.int x3), .val (.int x4), .val (.ref r1a), .val (.int v5), .val (.int v6), .val (.int v7), .val (.int v8), .val (.int v5), .val (.ref r148a), .unset, .unset] [])
        refine Go.s_aload X166 hx (hb hby at_232) (q := 234) rfl rfl rfl ?_
        refine Go.s_bipush X166 hx (hb hby at_234) (q := 236) rfl (z := 7) rfl ?_
        refine Go.s_aload X166 hx (hb hby at_236) (q := 238) rfl rfl rfl ?_
        refine Go.s_bipush X166 hx (hb hby at_238) (q := 240) rfl (z := 7) rfl ?_
        refine Go.s_iload X166 hx (hb hby at_240) (q := 242) rfl rfl ?_
        refine Go.callS (y := mn_5) X166 hx hZ hown (w_ hw 30 rfl) (w_ hw 31 rfl) (w_ hw 2 rfl) (w_ hw 32 rfl) (by decide) rfl (argsL := [(.ref r1a), (.int (7 : Int32)), (.int v7)]) (rest := [(.int (7 : Int32)), (.ref r148a)]) (rm_src l Z a0 hw r1a (7 : Int32) v7 _ _ cs S166k zc (CS.ext O166.2) hzc fm (SF.ext O166.2) rf (by decide) ch_v7) (by rw [hml]; rfl) (lenOf pd_13 rfl) rfl (hb hby at_242) (by first | decide | exact Nat.le_of_ble_eq_true rfl) (by first | decide | exact Nat.le_of_ble_eq_true rfl) (by first | decide | exact Nat.le_of_ble_eq_true rfl) (by first | decide | exact Nat.le_of_ble_eq_true rfl) ?_
        intro r167 T167 L167 q167 X167
        obtain ⟨w167, rfl, p167, rfl, e167⟩ := q167
        rw [List.append_nil] at X167
        show Go p e below _ T167 (mkF m 245 #[.val (.int x0), .val (.int x1), .val (.int x2), .val (.int x3), .val (.int x4), .val (.ref r1a), .val (.int v5), .val (.int v6), .val (.int v7), .val (.int v8), .val (.int v5), .val (.ref r148a), .unset, .unset] [(.int w167), (.int (7 : Int32)), (.ref r148a)])
        refine Go.callS (y := mn_11) X167 hx hZ hown (w_ hw 55 rfl) (w_ hw 56 rfl) (w_ hw 2 rfl) (w_ hw 57 rfl) (by decide) e167 (argsL := [(.ref r148a), (.int (7 : Int32)), (.int w167)]) (rest := []) (rm_put l Z a0 hw r148a (7 : Int32) w167 _ n0 g_a _ _ A166 (by decide) p167) (by rw [hml]; rfl) (lenOf pd_18 rfl) rfl (hb hby at_245) (by decide) (by decide) (by decide) (by decide) ?_
        intro r168 T168 L168 q168 X168
        obtain ⟨rfl, Nq168, K168, A168⟩ := q168
        have N168 := Fr.app N166 Nq168
        have hWk168 := hWk166.keep K168 (sfS (CA.safe A166 hZ.alike) sf0)
        have O168 := Old.keep O166 K168 (allS g_a all0)
        have S168k := S166k.keep K168 (allS hka all0)
        have Zk168 := Nat.le_trans Zk166 K168.1
        show Go p e below _ T168 (mkF m 248 #[.val (.int x0), .val (.int x1), .val (.int x2), .val (.int x3), .val (.int x4), .val (.ref r1a), .val (.int v5), .val (.int v6), .val (.int v7), .val (.int v8), .val (.int v5), .val (.ref r148a), .unset, .unset] [])
        refine Go.s_aload X168 hx (hb hby at_248) (q := 250) rfl rfl rfl ?_
        refine Go.s_bipush X168 hx (hb hby at_250) (q := 252) rfl (z := 8) rfl ?_
        refine Go.s_aload X168 hx (hb hby at_252) (q := 254) rfl rfl rfl ?_
        refine Go.s_bipush X168 hx (hb hby at_254) (q := 256) rfl (z := 8) rfl ?_
        refine Go.s_iload X168 hx (hb hby at_256) (q := 258) rfl rfl ?_
        refine Go.callS (y := mn_5) X168 hx hZ hown (w_ hw 30 rfl) (w_ hw 31 rfl) (w_ hw 2 rfl) (w_ hw 32 rfl) (by decide) rfl (argsL := [(.ref r1a), (.int (8 : Int32)), (.int v7)]) (rest := [(.int (8 : Int32)), (.ref r148a)]) (rm_src l Z a0 hw r1a (8 : Int32) v7 _ _ cs S168k zc (CS.ext O168.2) hzc fm (SF.ext O168.2) rf (by decide) ch_v7) (by rw [hml]; rfl) (lenOf pd_13 rfl) rfl (hb hby at_258) (by first | decide | exact Nat.le_of_ble_eq_true rfl) (by first | decide | exact Nat.le_of_ble_eq_true rfl) (by first | decide | exact Nat.le_of_ble_eq_true rfl) (by first | decide | exact Nat.le_of_ble_eq_true rfl) ?_
        intro r169 T169 L169 q169 X169
        obtain ⟨w169, rfl, p169, rfl, e169⟩ := q169
        rw [List.append_nil] at X169
        show Go p e below _ T169 (mkF m 261 #[.val (.int x0), .val (.int x1), .val (.int x2), .val (.int x3), .val (.int x4), .val (.ref r1a), .val (.int v5), .val (.int v6), .val (.int v7), .val (.int v8), .val (.int v5), .val (.ref r148a), .unset, .unset] [(.int w169), (.int (8 : Int32)), (.ref r148a)])
        refine Go.callS (y := mn_11) X169 hx hZ hown (w_ hw 55 rfl) (w_ hw 56 rfl) (w_ hw 2 rfl) (w_ hw 57 rfl) (by decide) e169 (argsL := [(.ref r148a), (.int (8 : Int32)), (.int w169)]) (rest := []) (rm_put l Z a0 hw r148a (8 : Int32) w169 _ n0 g_a _ _ A168 (by decide) p169) (by rw [hml]; rfl) (lenOf pd_18 rfl) rfl (hb hby at_261) (by decide) (by decide) (by decide) (by decide) ?_
        intro r170 T170 L170 q170 X170
        obtain ⟨rfl, Nq170, K170, A170⟩ := q170
        have N170 := Fr.app N168 Nq170
        have hWk170 := hWk168.keep K170 (sfS (CA.safe A168 hZ.alike) sf0)
        have O170 := Old.keep O168 K170 (allS g_a all0)
        have S170k := S168k.keep K170 (allS hka all0)
        have Zk170 := Nat.le_trans Zk168 K170.1
        show Go p e below _ T170 (mkF m 264 #[.val (.int x0), .val (.int x1), .val (.int x2), .val (.int x3), .val (.int x4), .val (.ref r1a), .val (.int v5), .val (.int v6), .val (.int v7), .val (.int v8), .val (.int v5), .val (.ref r148a), .unset, .unset] [])
        refine Go.s_aload X170 hx (hb hby at_264) (q := 266) rfl rfl rfl ?_
        refine Go.s_bipush X170 hx (hb hby at_266) (q := 268) rfl (z := 9) rfl ?_
        refine Go.s_aload X170 hx (hb hby at_268) (q := 270) rfl rfl rfl ?_
        refine Go.s_bipush X170 hx (hb hby at_270) (q := 272) rfl (z := 9) rfl ?_
        refine Go.s_iload X170 hx (hb hby at_272) (q := 274) rfl rfl ?_
        refine Go.callS (y := mn_5) X170 hx hZ hown (w_ hw 30 rfl) (w_ hw 31 rfl) (w_ hw 2 rfl) (w_ hw 32 rfl) (by decide) rfl (argsL := [(.ref r1a), (.int (9 : Int32)), (.int v7)]) (rest := [(.int (9 : Int32)), (.ref r148a)]) (rm_src l Z a0 hw r1a (9 : Int32) v7 _ _ cs S170k zc (CS.ext O170.2) hzc fm (SF.ext O170.2) rf (by decide) ch_v7) (by rw [hml]; rfl) (lenOf pd_13 rfl) rfl (hb hby at_274) (by first | decide | exact Nat.le_of_ble_eq_true rfl) (by first | decide | exact Nat.le_of_ble_eq_true rfl) (by first | decide | exact Nat.le_of_ble_eq_true rfl) (by first | decide | exact Nat.le_of_ble_eq_true rfl) ?_
        intro r171 T171 L171 q171 X171
        obtain ⟨w171, rfl, p171, rfl, e171⟩ := q171
        rw [List.append_nil] at X171
        show Go p e below _ T171 (mkF m 277 #[.val (.int x0), .val (.int x1), .val (.int x2), .val (.int x3), .val (.int x4), .val (.ref r1a), .val (.int v5), .val (.int v6), .val (.int v7), .val (.int v8), .val (.int v5), .val (.ref r148a), .unset, .unset] [(.int w171), (.int (9 : Int32)), (.ref r148a)])
        refine Go.callS (y := mn_11) X171 hx hZ hown (w_ hw 55 rfl) (w_ hw 56 rfl) (w_ hw 2 rfl) (w_ hw 57 rfl) (by decide) e171 (argsL := [(.ref r148a), (.int (9 : Int32)), (.int w171)]) (rest := []) (rm_put l Z a0 hw r148a (9 : Int32) w171 _ n0 g_a _ _ A170 (by decide) p171) (by rw [hml]; rfl) (lenOf pd_18 rfl) rfl (hb hby at_277) (by decide) (by decide) (by decide) (by decide) ?_
        intro r172 T172 L172 q172 X172
        obtain ⟨rfl, Nq172, K172, A172⟩ := q172
        have N172 := Fr.app N170 Nq172
        have hWk172 := hWk170.keep K172 (sfS (CA.safe A170 hZ.alike) sf0)
        have O172 := Old.keep O170 K172 (allS g_a all0)
        have S172k := S170k.keep K172 (allS hka all0)
        have Zk172 := Nat.le_trans Zk170 K172.1
        show Go p e below _ T172 (mkF m 280 #[.val (.int x0), .val (.int x1), .val (.int x2), .val (.int x3), .val (.int x4), .val (.ref r1a), .val (.int v5), .val (.int v6), .val (.int v7), .val (.int v8), .val (.int v5), .val (.ref r148a), .unset, .unset] [])
        refine Go.s_aload X172 hx (hb hby at_280) (q := 282) rfl rfl rfl ?_
        refine Go.s_bipush X172 hx (hb hby at_282) (q := 284) rfl (z := 10) rfl ?_
        refine Go.s_aload X172 hx (hb hby at_284) (q := 286) rfl rfl rfl ?_
        refine Go.s_bipush X172 hx (hb hby at_286) (q := 288) rfl (z := 10) rfl ?_
        refine Go.s_iload X172 hx (hb hby at_288) (q := 290) rfl rfl ?_
        refine Go.callS (y := mn_5) X172 hx hZ hown (w_ hw 30 rfl) (w_ hw 31 rfl) (w_ hw 2 rfl) (w_ hw 32 rfl) (by decide) rfl (argsL := [(.ref r1a), (.int (10 : Int32)), (.int v7)]) (rest := [(.int (10 : Int32)), (.ref r148a)]) (rm_src l Z a0 hw r1a (10 : Int32) v7 _ _ cs S172k zc (CS.ext O172.2) hzc fm (SF.ext O172.2) rf (by decide) ch_v7) (by rw [hml]; rfl) (lenOf pd_13 rfl) rfl (hb hby at_290) (by first | decide | exact Nat.le_of_ble_eq_true rfl) (by first | decide | exact Nat.le_of_ble_eq_true rfl) (by first | decide | exact Nat.le_of_ble_eq_true rfl) (by first | decide | exact Nat.le_of_ble_eq_true rfl) ?_
        intro r173 T173 L173 q173 X173
        obtain ⟨w173, rfl, p173, rfl, e173⟩ := q173
        rw [List.append_nil] at X173
        show Go p e below _ T173 (mkF m 293 #[.val (.int x0), .val (.int x1), .val (.int x2), .val (.int x3), .val (.int x4), .val (.ref r1a), .val (.int v5), .val (.int v6), .val (.int v7), .val (.int v8), .val (.int v5), .val (.ref r148a), .unset, .unset] [(.int w173), (.int (10 : Int32)), (.ref r148a)])
        refine Go.callS (y := mn_11) X173 hx hZ hown (w_ hw 55 rfl) (w_ hw 56 rfl) (w_ hw 2 rfl) (w_ hw 57 rfl) (by decide) e173 (argsL := [(.ref r148a), (.int (10 : Int32)), (.int w173)]) (rest := []) (rm_put l Z a0 hw r148a (10 : Int32) w173 _ n0 g_a _ _ A172 (by decide) p173) (by rw [hml]; rfl) (lenOf pd_18 rfl) rfl (hb hby at_293) (by decide) (by decide) (by decide) (by decide) ?_
        intro r174 T174 L174 q174 X174
        obtain ⟨rfl, Nq174, K174, A174⟩ := q174
        have N174 := Fr.app N172 Nq174
        have hWk174 := hWk172.keep K174 (sfS (CA.safe A172 hZ.alike) sf0)
        have O174 := Old.keep O172 K174 (allS g_a all0)
        have S174k := S172k.keep K174 (allS hka all0)
        have Zk174 := Nat.le_trans Zk172 K174.1
        show Go p e below _ T174 (mkF m 296 #[.val (.int x0), .val (.int x1), .val (.int x2), .val (.int x3), .val (.int x4), .val (.ref r1a), .val (.int v5), .val (.int v6), .val (.int v7), .val (.int v8), .val (.int v5), .val (.ref r148a), .unset, .unset] [])
        refine Go.s_iload X174 hx (hb hby at_296) (q := 298) rfl rfl ?_
        refine Go.s_iconst X174 hx (hb hby at_298) (q := 299) rfl (z := 1) rfl ?_
        by_cases c299_175 : v6 = (1 : Int32)
        · -- pc 299: v6 = (1 : Int32)
          refine Go.s_icmpNo X174 hx (hb hby at_299) (q := 302) rfl (teq c299_175).2 ?_
          refine Go.s_aload X174 hx (hb hby at_302) (q := 304) rfl rfl rfl ?_
          refine Go.s_iloadN X174 hx (hb hby at_304) (q := 305) rfl rfl ?_
          refine Go.s_ldc X174 hx (hb hby at_305) (q := 307) rfl hown (mvT hZ (w_ hw 25 rfl)) ?_
          refine Go.s_iand X174 hx (hb hby at_307) (q := 308) rfl ?_
          refine Go.s_iload X174 hx (hb hby at_308) (q := 310) rfl rfl ?_
          refine Go.s_irem X174 hx (hb hby at_310) (q := 311) rfl (ne_zero n4) ?_
          refine Go.s_iload X174 hx (hb hby at_311) (q := 313) rfl rfl ?_
          have hzn : z148a = v5 := hB.2.2 (by omega) (by omega)
          refine Go.stCA X174 hx hZ rfl A174 (idx_in hzn n4) ch_v7 (hb hby at_313) ?_
          intro T176 h176 X176 e176 W176 A176
          have K176 := Keep.of_wr W176
          have N176 := Fr.snoc X176 N174 g_a
          have hWk176 := hWk174.keep K176 (sfS (CA.safe A174 hZ.alike) sf0)
          have O176 := Old.keep O174 K176 (allS g_a all0)
          have S176k := S174k.keep K176 (allS hka all0)
          have Zk176 := Nat.le_trans Zk174 K176.1
          show Go p e below _ T176 (mkF m 314 #[.val (.int x0), .val (.int x1), .val (.int x2), .val (.int x3), .val (.int x4), .val (.ref r1a), .val (.int v5), .val (.int v6), .val (.int v7), .val (.int v8), .val (.int v5), .val (.ref r148a), .unset, .unset] [])
          refine Go.newO X176 hx hZ hown (w_ hw 58 rfl) (w_ hw 6 rfl) (w_ hw 5 rfl) e176 (hb hby at_314) (by decide) (by decide) ?_
          intro T177 h177 b177 g177 X177 e177 E177 A177 D177
          have g_b177 : n0 ≤ b177 := g177 ▸ Zk176
          have Zk176_v178 := Nat.le_trans Zk176 E177.1
          have O176_v179 := Old.ext O176 E177
          have hWk176_v180 := hWk176.ext E177
          have S176k_v181 := S176k.ext E177
          have A176_v182 := A176.ext E177
          have F_value_b177 : Fld Z h177 b177 "java/lang/String" "value" "[B" .null := D177 (Or.inr (w_ hw 8 rfl)) (ty := (.array .byte)) (by decide)
          have F_coder_b177 : Fld Z h177 b177 "java/lang/String" "coder" "B" (.int (0 : Int32)) := D177 (Or.inr (w_ hw 9 rfl)) (ty := .byte) (by decide)
          have hsx : Safe Z consts_1 _ h177 b177 := Safe.ext E177 hWk176.2.1 (Safe.new (Nat.le_of_eq g177.symm))
          show Go p e below _ T177 (mkF m 317 #[.val (.int x0), .val (.int x1), .val (.int x2), .val (.int x3), .val (.int x4), .val (.ref r1a), .val (.int v5), .val (.int v6), .val (.int v7), .val (.int v8), .val (.int v5), .val (.ref r148a), .unset, .unset] [(.ref b177)])
          refine Go.s_dup X177 hx (hb hby at_317) (q := 318) rfl rfl ?_
          refine Go.s_aload X177 hx (hb hby at_318) (q := 320) rfl rfl rfl ?_
          by_cases hz0 : z148a = 0
          · obtain ⟨as, hl1, hl2, V_b⟩ := id A176_v182
            rw [hz0] at V_b
            refine Go.callCW (y := mn_12) X177 hx hZ rfl hown (w_ hw 59 rfl) (w_ hw 60 rfl) (w_ hw 61 rfl) (w_ hw 5 rfl) (by decide) e177 hEL hWk176_v180 (sf := [b177]) (allS ⟨hsx, A177.lt⟩ all0) (b := b177) (argsL := [(.ref r148a)]) (rest := [(.ref b177)]) (rm_ini1 l Z a0 hw b177 r148a h177 hEL n0 _ _ A177 F_value_b177 F_coder_b177 g_b177 _ _ V_b) (by rw [hml]; rfl) (lenOf pdNew rfl) rfl (hb hby at_320) (by first | decide | exact Nat.le_of_ble_eq_true rfl) (by first | decide | exact Nat.le_of_ble_eq_true rfl) (by first | decide | exact Nat.le_of_ble_eq_true rfl) (by first | decide | exact Nat.le_of_ble_eq_true rfl) ?_
            intro r183 T183 L183 q183 X183 hZ hown hW183
            obtain ⟨rfl, Nq183, K183, S183⟩ := q183
            have N183 := Fr.app N176 Nq183
            have O183 := Old.keep O176_v179 K183 (allS g_b177 all0)
            have Zk183 := Nat.le_trans Zk176_v178 K183.1
            generalize hds : tx4 = ds at S183
            show Go p e below _ T183 (mkF m 323 #[.val (.int x0), .val (.int x1), .val (.int x2), .val (.int x3), .val (.int x4), .val (.ref r1a), .val (.int v5), .val (.int v6), .val (.int v7), .val (.int v8), .val (.int v5), .val (.ref r148a), .unset, .unset] [(.ref b177)])
            refine Go.s_astore X183 hx (hb hby at_323) (q := 325) rfl rfl (l' := #[.val (.int x0), .val (.int x1), .val (.int x2), .val (.int x3), .val (.int x4), .val (.ref r1a), .val (.int v5), .val (.int v6), .val (.int v7), .val (.int v8), .val (.int v5), .val (.ref r148a), .val (.ref b177), .unset]) rfl ?_
            refine Go.s_aload X183 hx (hb hby at_325) (q := 327) rfl rfl rfl ?_
            refine Go.callS (y := mn_18) X183 hx hZ hown (w_ hw 79 rfl) (w_ hw 80 rfl) (w_ hw 81 rfl) (w_ hw 82 rfl) (by decide) rfl (argsL := [(.ref b177)]) (rest := []) (rm_of l Z a0 hw b177 _ _ _ ds S183 zc (CS.ext O183.2) hzc av r0 r1 r2 r3 kc (S_VALUES.ext O183.2) (V_av.ext O183.2) (E_av.ext O183.2) w0 w1 w2 w3 (FW0.ext O183.2) (SW0.ext O183.2) (FW1.ext O183.2) (SW1.ext O183.2) (FW2.ext O183.2) (SW2.ext O183.2) (FW3.ext O183.2) (SW3.ext O183.2)) (by rw [hml]; rfl) (lenOf pd_12 rfl) rfl (hb hby at_327) (by decide) (by decide) (by decide) (by decide) ?_
            intro r184 T184 L184 q184 X184
            obtain ⟨rfl, rfl, E184⟩ := q184
            rw [List.append_nil] at X184
            have Zk183_v185 := Nat.le_trans Zk183 E184.1
            have O183_v186 := Old.ext O183 E184
            have hW183_v187 := hW183.ext E184
            have S183_v188 := S183.ext E184
            rcases pick_is r0 r1 r2 r3 ds with ⟨qr, hq⟩ | hq
            · rw [hq]
              show Go p e below _ T184 (mkF m 330 #[.val (.int x0), .val (.int x1), .val (.int x2), .val (.int x3), .val (.int x4), .val (.ref r1a), .val (.int v5), .val (.int v6), .val (.int v7), .val (.int v8), .val (.int v5), .val (.ref r148a), .val (.ref b177), .unset] [(.ref qr)])
              refine Go.s_astore X184 hx (hb hby at_330) (q := 332) rfl rfl (l' := #[.val (.int x0), .val (.int x1), .val (.int x2), .val (.int x3), .val (.int x4), .val (.ref r1a), .val (.int v5), .val (.int v6), .val (.int v7), .val (.int v8), .val (.int v5), .val (.ref r148a), .val (.ref b177), .val (.ref qr)]) rfl ?_
              refine Go.s_aload X184 hx (hb hby at_332) (q := 334) rfl rfl rfl ?_
              refine Go.s_aload X184 hx (hb hby at_334) (q := 336) rfl rfl rfl ?_
              refine Go.callSW (y := mn_22) X184 hx hZ hown (w_ hw 113 rfl) (w_ hw 114 rfl) (w_ hw 2 rfl) (w_ hw 115 rfl) (by decide) rfl hEL hW183_v187 (sf := []) all0 (argsL := [(.ref b177)]) (rest := [(.ref qr)]) (rm_exp l Z a0 hw b177 _ hEL _ ds S183_v188 zc (CS.ext O183_v186.2) hzc r0 r1 r2 r3 (SG0.ext O183_v186.2) (SG1.ext O183_v186.2) (SG2.ext O183_v186.2) (SG3.ext O183_v186.2)) (by rw [hml]; rfl) (lenOf pd_12 rfl) rfl (hb hby at_336) (by first | decide | exact Nat.le_of_ble_eq_true rfl) (by first | decide | exact Nat.le_of_ble_eq_true rfl) (by first | decide | exact Nat.le_of_ble_eq_true rfl) (by first | decide | exact Nat.le_of_ble_eq_true rfl) ?_
              intro r189 T189 L189 q189 X189 hZ hown hW189
              obtain ⟨rfl, rfl⟩ := q189
              rw [List.append_nil] at X189
              rw [hq]
              show Go p e below _ T189 (mkF m 339 #[.val (.int x0), .val (.int x1), .val (.int x2), .val (.int x3), .val (.int x4), .val (.ref r1a), .val (.int v5), .val (.int v6), .val (.int v7), .val (.int v8), .val (.int v5), .val (.ref r148a), .val (.ref b177), .val (.ref qr)] [(.ref qr), (.ref qr)])
              refine Go.s_acmp X189 hx (q := 342) (hb hby at_339) rfl rfl (same := true) (decide_eq_true rfl) (by decide) (by decide) ?_
              refine Go.s_iconst X189 hx (hb hby at_342) (q := 343) rfl (z := 1) rfl ?_
              refine Go.s_goto X189 hx (hb hby at_343) (q := 347) (by decide) (by decide) ?_
              refine Go.retNW X189 hx hZ hEL rfl hW189 hlk hret (by simp) (hb hby at_347) (by decide) (by decide) ?_
              exact ⟨by decide, N183⟩
            · rw [hq]
              show Go p e below _ T184 (mkF m 330 #[.val (.int x0), .val (.int x1), .val (.int x2), .val (.int x3), .val (.int x4), .val (.ref r1a), .val (.int v5), .val (.int v6), .val (.int v7), .val (.int v8), .val (.int v5), .val (.ref r148a), .val (.ref b177), .unset] [.null])
              refine Go.s_astore X184 hx (hb hby at_330) (q := 332) rfl rfl (l' := #[.val (.int x0), .val (.int x1), .val (.int x2), .val (.int x3), .val (.int x4), .val (.ref r1a), .val (.int v5), .val (.int v6), .val (.int v7), .val (.int v8), .val (.int v5), .val (.ref r148a), .val (.ref b177), .val .null]) rfl ?_
              refine Go.s_aload X184 hx (hb hby at_332) (q := 334) rfl rfl rfl ?_
              refine Go.s_aload X184 hx (hb hby at_334) (q := 336) rfl rfl rfl ?_
              refine Go.callSW (y := mn_22) X184 hx hZ hown (w_ hw 113 rfl) (w_ hw 114 rfl) (w_ hw 2 rfl) (w_ hw 115 rfl) (by decide) rfl hEL hW183_v187 (sf := []) all0 (argsL := [(.ref b177)]) (rest := [.null]) (rm_exp l Z a0 hw b177 _ hEL _ ds S183_v188 zc (CS.ext O183_v186.2) hzc r0 r1 r2 r3 (SG0.ext O183_v186.2) (SG1.ext O183_v186.2) (SG2.ext O183_v186.2) (SG3.ext O183_v186.2)) (by rw [hml]; rfl) (lenOf pd_12 rfl) rfl (hb hby at_336) (by first | decide | exact Nat.le_of_ble_eq_true rfl) (by first | decide | exact Nat.le_of_ble_eq_true rfl) (by first | decide | exact Nat.le_of_ble_eq_true rfl) (by first | decide | exact Nat.le_of_ble_eq_true rfl) ?_
              intro r190 T190 L190 q190 X190 hZ hown hW190
              obtain ⟨rfl, rfl⟩ := q190
              rw [List.append_nil] at X190
              rw [hq]
              show Go p e below _ T190 (mkF m 339 #[.val (.int x0), .val (.int x1), .val (.int x2), .val (.int x3), .val (.int x4), .val (.ref r1a), .val (.int v5), .val (.int v6), .val (.int v7), .val (.int v8), .val (.int v5), .val (.ref r148a), .val (.ref b177), .val .null] [.null, .null])
              refine Go.s_acmp X190 hx (q := 342) (hb hby at_339) rfl rfl (same := true) (decide_eq_true rfl) (by decide) (by decide) ?_
              refine Go.s_iconst X190 hx (hb hby at_342) (q := 343) rfl (z := 1) rfl ?_
              refine Go.s_goto X190 hx (hb hby at_343) (q := 347) (by decide) (by decide) ?_
              refine Go.retNW X190 hx hZ hEL rfl hW190 hlk hret (by simp) (hb hby at_347) (by decide) (by decide) ?_
              exact ⟨by decide, N183⟩
          · refine Go.strNew (cap := 11) X177 hx hZ hown (w_ hw 59 rfl) (w_ hw 60 rfl) (w_ hw 61 rfl) (w_new hw) (w_ hw 6 rfl) e177 g_b177 Zk176_v178 A177 F_value_b177 F_coder_b177 A176_v182 hz0 (cap11 hB) (by decide) (CS.ext O176_v179.2) hzc (by rw [hml]; rfl) (hb hby at_320) (by first | decide | exact Nat.le_of_ble_eq_true rfl) (by first | decide | exact Nat.le_of_ble_eq_true rfl) (by first | decide | exact Nat.le_of_ble_eq_true rfl) (by first | decide | exact Nat.le_of_ble_eq_true rfl) ?_
            intro T191 L191 as191 X191 Nq191 K191 S191
            have hW191 := hWk176_v180.keep K191 (sfS hsx sf0)
            have N191 := Fr.app N176 Nq191
            have O191 := Old.keep O176_v179 K191 (allS g_b177 all0)
            have Zk191 := Nat.le_trans Zk176_v178 K191.1
            generalize hds : as191 = ds at S191
            show Go p e below _ T191 (mkF m 323 #[.val (.int x0), .val (.int x1), .val (.int x2), .val (.int x3), .val (.int x4), .val (.ref r1a), .val (.int v5), .val (.int v6), .val (.int v7), .val (.int v8), .val (.int v5), .val (.ref r148a), .unset, .unset] [(.ref b177)])
            refine Go.s_astore X191 hx (hb hby at_323) (q := 325) rfl rfl (l' := #[.val (.int x0), .val (.int x1), .val (.int x2), .val (.int x3), .val (.int x4), .val (.ref r1a), .val (.int v5), .val (.int v6), .val (.int v7), .val (.int v8), .val (.int v5), .val (.ref r148a), .val (.ref b177), .unset]) rfl ?_
            refine Go.s_aload X191 hx (hb hby at_325) (q := 327) rfl rfl rfl ?_
            refine Go.callS (y := mn_18) X191 hx hZ hown (w_ hw 79 rfl) (w_ hw 80 rfl) (w_ hw 81 rfl) (w_ hw 82 rfl) (by decide) rfl (argsL := [(.ref b177)]) (rest := []) (rm_of l Z a0 hw b177 _ _ _ ds S191 zc (CS.ext O191.2) hzc av r0 r1 r2 r3 kc (S_VALUES.ext O191.2) (V_av.ext O191.2) (E_av.ext O191.2) w0 w1 w2 w3 (FW0.ext O191.2) (SW0.ext O191.2) (FW1.ext O191.2) (SW1.ext O191.2) (FW2.ext O191.2) (SW2.ext O191.2) (FW3.ext O191.2) (SW3.ext O191.2)) (by rw [hml]; rfl) (lenOf pd_12 rfl) rfl (hb hby at_327) (by decide) (by decide) (by decide) (by decide) ?_
            intro r192 T192 L192 q192 X192
            obtain ⟨rfl, rfl, E192⟩ := q192
            rw [List.append_nil] at X192
            have Zk191_v193 := Nat.le_trans Zk191 E192.1
            have O191_v194 := Old.ext O191 E192
            have hW191_v195 := hW191.ext E192
            have S191_v196 := S191.ext E192
            rcases pick_is r0 r1 r2 r3 ds with ⟨qr, hq⟩ | hq
            · rw [hq]
              show Go p e below _ T192 (mkF m 330 #[.val (.int x0), .val (.int x1), .val (.int x2), .val (.int x3), .val (.int x4), .val (.ref r1a), .val (.int v5), .val (.int v6), .val (.int v7), .val (.int v8), .val (.int v5), .val (.ref r148a), .val (.ref b177), .unset] [(.ref qr)])
              refine Go.s_astore X192 hx (hb hby at_330) (q := 332) rfl rfl (l' := #[.val (.int x0), .val (.int x1), .val (.int x2), .val (.int x3), .val (.int x4), .val (.ref r1a), .val (.int v5), .val (.int v6), .val (.int v7), .val (.int v8), .val (.int v5), .val (.ref r148a), .val (.ref b177), .val (.ref qr)]) rfl ?_
              refine Go.s_aload X192 hx (hb hby at_332) (q := 334) rfl rfl rfl ?_
              refine Go.s_aload X192 hx (hb hby at_334) (q := 336) rfl rfl rfl ?_
              refine Go.callSW (y := mn_22) X192 hx hZ hown (w_ hw 113 rfl) (w_ hw 114 rfl) (w_ hw 2 rfl) (w_ hw 115 rfl) (by decide) rfl hEL hW191_v195 (sf := []) all0 (argsL := [(.ref b177)]) (rest := [(.ref qr)]) (rm_exp l Z a0 hw b177 _ hEL _ ds S191_v196 zc (CS.ext O191_v194.2) hzc r0 r1 r2 r3 (SG0.ext O191_v194.2) (SG1.ext O191_v194.2) (SG2.ext O191_v194.2) (SG3.ext O191_v194.2)) (by rw [hml]; rfl) (lenOf pd_12 rfl) rfl (hb hby at_336) (by first | decide | exact Nat.le_of_ble_eq_true rfl) (by first | decide | exact Nat.le_of_ble_eq_true rfl) (by first | decide | exact Nat.le_of_ble_eq_true rfl) (by first | decide | exact Nat.le_of_ble_eq_true rfl) ?_
              intro r197 T197 L197 q197 X197 hZ hown hW197
              obtain ⟨rfl, rfl⟩ := q197
              rw [List.append_nil] at X197
              rw [hq]
              show Go p e below _ T197 (mkF m 339 #[.val (.int x0), .val (.int x1), .val (.int x2), .val (.int x3), .val (.int x4), .val (.ref r1a), .val (.int v5), .val (.int v6), .val (.int v7), .val (.int v8), .val (.int v5), .val (.ref r148a), .val (.ref b177), .val (.ref qr)] [(.ref qr), (.ref qr)])
              refine Go.s_acmp X197 hx (q := 342) (hb hby at_339) rfl rfl (same := true) (decide_eq_true rfl) (by decide) (by decide) ?_
              refine Go.s_iconst X197 hx (hb hby at_342) (q := 343) rfl (z := 1) rfl ?_
              refine Go.s_goto X197 hx (hb hby at_343) (q := 347) (by decide) (by decide) ?_
              refine Go.retNW X197 hx hZ hEL rfl hW197 hlk hret (by simp) (hb hby at_347) (by decide) (by decide) ?_
              exact ⟨by decide, N191⟩
            · rw [hq]
              show Go p e below _ T192 (mkF m 330 #[.val (.int x0), .val (.int x1), .val (.int x2), .val (.int x3), .val (.int x4), .val (.ref r1a), .val (.int v5), .val (.int v6), .val (.int v7), .val (.int v8), .val (.int v5), .val (.ref r148a), .val (.ref b177), .unset] [.null])
              refine Go.s_astore X192 hx (hb hby at_330) (q := 332) rfl rfl (l' := #[.val (.int x0), .val (.int x1), .val (.int x2), .val (.int x3), .val (.int x4), .val (.ref r1a), .val (.int v5), .val (.int v6), .val (.int v7), .val (.int v8), .val (.int v5), .val (.ref r148a), .val (.ref b177), .val .null]) rfl ?_
              refine Go.s_aload X192 hx (hb hby at_332) (q := 334) rfl rfl rfl ?_
              refine Go.s_aload X192 hx (hb hby at_334) (q := 336) rfl rfl rfl ?_
              refine Go.callSW (y := mn_22) X192 hx hZ hown (w_ hw 113 rfl) (w_ hw 114 rfl) (w_ hw 2 rfl) (w_ hw 115 rfl) (by decide) rfl hEL hW191_v195 (sf := []) all0 (argsL := [(.ref b177)]) (rest := [.null]) (rm_exp l Z a0 hw b177 _ hEL _ ds S191_v196 zc (CS.ext O191_v194.2) hzc r0 r1 r2 r3 (SG0.ext O191_v194.2) (SG1.ext O191_v194.2) (SG2.ext O191_v194.2) (SG3.ext O191_v194.2)) (by rw [hml]; rfl) (lenOf pd_12 rfl) rfl (hb hby at_336) (by first | decide | exact Nat.le_of_ble_eq_true rfl) (by first | decide | exact Nat.le_of_ble_eq_true rfl) (by first | decide | exact Nat.le_of_ble_eq_true rfl) (by first | decide | exact Nat.le_of_ble_eq_true rfl) ?_
              intro r198 T198 L198 q198 X198 hZ hown hW198
              obtain ⟨rfl, rfl⟩ := q198
              rw [List.append_nil] at X198
              rw [hq]
              show Go p e below _ T198 (mkF m 339 #[.val (.int x0), .val (.int x1), .val (.int x2), .val (.int x3), .val (.int x4), .val (.ref r1a), .val (.int v5), .val (.int v6), .val (.int v7), .val (.int v8), .val (.int v5), .val (.ref r148a), .val (.ref b177), .val .null] [.null, .null])
              refine Go.s_acmp X198 hx (q := 342) (hb hby at_339) rfl rfl (same := true) (decide_eq_true rfl) (by decide) (by decide) ?_
              refine Go.s_iconst X198 hx (hb hby at_342) (q := 343) rfl (z := 1) rfl ?_
              refine Go.s_goto X198 hx (hb hby at_343) (q := 347) (by decide) (by decide) ?_
              refine Go.retNW X198 hx hZ hEL rfl hW198 hlk hret (by simp) (hb hby at_347) (by decide) (by decide) ?_
              exact ⟨by decide, N191⟩
        · -- pc 299: not v6 = (1 : Int32)
          refine Go.s_icmpYes X174 hx (hb hby at_299) (q := 314) (by decide) (by decide) (feq c299_175).2 ?_
          refine Go.newO X174 hx hZ hown (w_ hw 58 rfl) (w_ hw 6 rfl) (w_ hw 5 rfl) rfl (hb hby at_314) (by decide) (by decide) ?_
          intro T199 h199 b199 g199 X199 e199 E199 A199 D199
          have g_b199 : n0 ≤ b199 := g199 ▸ Zk174
          have Zk174_v200 := Nat.le_trans Zk174 E199.1
          have O174_v201 := Old.ext O174 E199
          have hWk174_v202 := hWk174.ext E199
          have S174k_v203 := S174k.ext E199
          have A174_v204 := A174.ext E199
          have F_value_b199 : Fld Z h199 b199 "java/lang/String" "value" "[B" .null := D199 (Or.inr (w_ hw 8 rfl)) (ty := (.array .byte)) (by decide)
          have F_coder_b199 : Fld Z h199 b199 "java/lang/String" "coder" "B" (.int (0 : Int32)) := D199 (Or.inr (w_ hw 9 rfl)) (ty := .byte) (by decide)
          have hsx : Safe Z consts_1 _ h199 b199 := Safe.ext E199 hWk174.2.1 (Safe.new (Nat.le_of_eq g199.symm))
          show Go p e below _ T199 (mkF m 317 #[.val (.int x0), .val (.int x1), .val (.int x2), .val (.int x3), .val (.int x4), .val (.ref r1a), .val (.int v5), .val (.int v6), .val (.int v7), .val (.int v8), .val (.int v5), .val (.ref r148a), .unset, .unset] [(.ref b199)])
          refine Go.s_dup X199 hx (hb hby at_317) (q := 318) rfl rfl ?_
          refine Go.s_aload X199 hx (hb hby at_318) (q := 320) rfl rfl rfl ?_
          by_cases hz0 : z148a = 0
          · obtain ⟨as, hl1, hl2, V_b⟩ := id A174_v204
            rw [hz0] at V_b
            refine Go.callCW (y := mn_12) X199 hx hZ rfl hown (w_ hw 59 rfl) (w_ hw 60 rfl) (w_ hw 61 rfl) (w_ hw 5 rfl) (by decide) e199 hEL hWk174_v202 (sf := [b199]) (allS ⟨hsx, A199.lt⟩ all0) (b := b199) (argsL := [(.ref r148a)]) (rest := [(.ref b199)]) (rm_ini1 l Z a0 hw b199 r148a h199 hEL n0 _ _ A199 F_value_b199 F_coder_b199 g_b199 _ _ V_b) (by rw [hml]; rfl) (lenOf pdNew rfl) rfl (hb hby at_320) (by first | decide | exact Nat.le_of_ble_eq_true rfl) (by first | decide | exact Nat.le_of_ble_eq_true rfl) (by first | decide | exact Nat.le_of_ble_eq_true rfl) (by first | decide | exact Nat.le_of_ble_eq_true rfl) ?_
            intro r205 T205 L205 q205 X205 hZ hown hW205
            obtain ⟨rfl, Nq205, K205, S205⟩ := q205
            have N205 := Fr.app N174 Nq205
            have O205 := Old.keep O174_v201 K205 (allS g_b199 all0)
            have Zk205 := Nat.le_trans Zk174_v200 K205.1
            generalize hds : tx4 = ds at S205
            show Go p e below _ T205 (mkF m 323 #[.val (.int x0), .val (.int x1), .val (.int x2), .val (.int x3), .val (.int x4), .val (.ref r1a), .val (.int v5), .val (.int v6), .val (.int v7), .val (.int v8), .val (.int v5), .val (.ref r148a), .unset, .unset] [(.ref b199)])
            refine Go.s_astore X205 hx (hb hby at_323) (q := 325) rfl rfl (l' := #[.val (.int x0), .val (.int x1), .val (.int x2), .val (.int x3), .val (.int x4), .val (.ref r1a), .val (.int v5), .val (.int v6), .val (.int v7), .val (.int v8), .val (.int v5), .val (.ref r148a), .val (.ref b199), .unset]) rfl ?_
            refine Go.s_aload X205 hx (hb hby at_325) (q := 327) rfl rfl rfl ?_
            refine Go.callS (y := mn_18) X205 hx hZ hown (w_ hw 79 rfl) (w_ hw 80 rfl) (w_ hw 81 rfl) (w_ hw 82 rfl) (by decide) rfl (argsL := [(.ref b199)]) (rest := []) (rm_of l Z a0 hw b199 _ _ _ ds S205 zc (CS.ext O205.2) hzc av r0 r1 r2 r3 kc (S_VALUES.ext O205.2) (V_av.ext O205.2) (E_av.ext O205.2) w0 w1 w2 w3 (FW0.ext O205.2) (SW0.ext O205.2) (FW1.ext O205.2) (SW1.ext O205.2) (FW2.ext O205.2) (SW2.ext O205.2) (FW3.ext O205.2) (SW3.ext O205.2)) (by rw [hml]; rfl) (lenOf pd_12 rfl) rfl (hb hby at_327) (by decide) (by decide) (by decide) (by decide) ?_
            intro r206 T206 L206 q206 X206
            obtain ⟨rfl, rfl, E206⟩ := q206
            rw [List.append_nil] at X206
            have Zk205_v207 := Nat.le_trans Zk205 E206.1
            have O205_v208 := Old.ext O205 E206
            have hW205_v209 := hW205.ext E206
            have S205_v210 := S205.ext E206
            rcases pick_is r0 r1 r2 r3 ds with ⟨qr, hq⟩ | hq
            · rw [hq]
              show Go p e below _ T206 (mkF m 330 #[.val (.int x0), .val (.int x1), .val (.int x2), .val (.int x3), .val (.int x4), .val (.ref r1a), .val (.int v5), .val (.int v6), .val (.int v7), .val (.int v8), .val (.int v5), .val (.ref r148a), .val (.ref b199), .unset] [(.ref qr)])
              refine Go.s_astore X206 hx (hb hby at_330) (q := 332) rfl rfl (l' := #[.val (.int x0), .val (.int x1), .val (.int x2), .val (.int x3), .val (.int x4), .val (.ref r1a), .val (.int v5), .val (.int v6), .val (.int v7), .val (.int v8), .val (.int v5), .val (.ref r148a), .val (.ref b199), .val (.ref qr)]) rfl ?_
              refine Go.s_aload X206 hx (hb hby at_332) (q := 334) rfl rfl rfl ?_
              refine Go.s_aload X206 hx (hb hby at_334) (q := 336) rfl rfl rfl ?_
              refine Go.callSW (y := mn_22) X206 hx hZ hown (w_ hw 113 rfl) (w_ hw 114 rfl) (w_ hw 2 rfl) (w_ hw 115 rfl) (by decide) rfl hEL hW205_v209 (sf := []) all0 (argsL := [(.ref b199)]) (rest := [(.ref qr)]) (rm_exp l Z a0 hw b199 _ hEL _ ds S205_v210 zc (CS.ext O205_v208.2) hzc r0 r1 r2 r3 (SG0.ext O205_v208.2) (SG1.ext O205_v208.2) (SG2.ext O205_v208.2) (SG3.ext O205_v208.2)) (by rw [hml]; rfl) (lenOf pd_12 rfl) rfl (hb hby at_336) (by first | decide | exact Nat.le_of_ble_eq_true rfl) (by first | decide | exact Nat.le_of_ble_eq_true rfl) (by first | decide | exact Nat.le_of_ble_eq_true rfl) (by first | decide | exact Nat.le_of_ble_eq_true rfl) ?_
              intro r211 T211 L211 q211 X211 hZ hown hW211
              obtain ⟨rfl, rfl⟩ := q211
              rw [List.append_nil] at X211
              rw [hq]
              show Go p e below _ T211 (mkF m 339 #[.val (.int x0), .val (.int x1), .val (.int x2), .val (.int x3), .val (.int x4), .val (.ref r1a), .val (.int v5), .val (.int v6), .val (.int v7), .val (.int v8), .val (.int v5), .val (.ref r148a), .val (.ref b199), .val (.ref qr)] [(.ref qr), (.ref qr)])
              refine Go.s_acmp X211 hx (q := 342) (hb hby at_339) rfl rfl (same := true) (decide_eq_true rfl) (by decide) (by decide) ?_
              refine Go.s_iconst X211 hx (hb hby at_342) (q := 343) rfl (z := 1) rfl ?_
              refine Go.s_goto X211 hx (hb hby at_343) (q := 347) (by decide) (by decide) ?_
              refine Go.retNW X211 hx hZ hEL rfl hW211 hlk hret (by simp) (hb hby at_347) (by decide) (by decide) ?_
              exact ⟨by decide, N205⟩
            · rw [hq]
              show Go p e below _ T206 (mkF m 330 #[.val (.int x0), .val (.int x1), .val (.int x2), .val (.int x3), .val (.int x4), .val (.ref r1a), .val (.int v5), .val (.int v6), .val (.int v7), .val (.int v8), .val (.int v5), .val (.ref r148a), .val (.ref b199), .unset] [.null])
              refine Go.s_astore X206 hx (hb hby at_330) (q := 332) rfl rfl (l' := #[.val (.int x0), .val (.int x1), .val (.int x2), .val (.int x3), .val (.int x4), .val (.ref r1a), .val (.int v5), .val (.int v6), .val (.int v7), .val (.int v8), .val (.int v5), .val (.ref r148a), .val (.ref b199), .val .null]) rfl ?_
              refine Go.s_aload X206 hx (hb hby at_332) (q := 334) rfl rfl rfl ?_
              refine Go.s_aload X206 hx (hb hby at_334) (q := 336) rfl rfl rfl ?_
              refine Go.callSW (y := mn_22) X206 hx hZ hown (w_ hw 113 rfl) (w_ hw 114 rfl) (w_ hw 2 rfl) (w_ hw 115 rfl) (by decide) rfl hEL hW205_v209 (sf := []) all0 (argsL := [(.ref b199)]) (rest := [.null]) (rm_exp l Z a0 hw b199 _ hEL _ ds S205_v210 zc (CS.ext O205_v208.2) hzc r0 r1 r2 r3 (SG0.ext O205_v208.2) (SG1.ext O205_v208.2) (SG2.ext O205_v208.2) (SG3.ext O205_v208.2)) (by rw [hml]; rfl) (lenOf pd_12 rfl) rfl (hb hby at_336) (by first | decide | exact Nat.le_of_ble_eq_true rfl) (by first | decide | exact Nat.le_of_ble_eq_true rfl) (by first | decide | exact Nat.le_of_ble_eq_true rfl) (by first | decide | exact Nat.le_of_ble_eq_true rfl) ?_
              intro r212 T212 L212 q212 X212 hZ hown hW212
              obtain ⟨rfl, rfl⟩ := q212
              rw [List.append_nil] at X212
              rw [hq]
              show Go p e below _ T212 (mkF m 339 #[.val (.int x0), .val (.int x1), .val (.int x2), .val (.int x3), .val (.int x4), .val (.ref r1a), .val (.int v5), .val (.int v6), .val (.int v7), .val (.int v8), .val (.int v5), .val (.ref r148a), .val (.ref b199), .val .null] [.null, .null])
              refine Go.s_acmp X212 hx (q := 342) (hb hby at_339) rfl rfl (same := true) (decide_eq_true rfl) (by decide) (by decide) ?_
              refine Go.s_iconst X212 hx (hb hby at_342) (q := 343) rfl (z := 1) rfl ?_
              refine Go.s_goto X212 hx (hb hby at_343) (q := 347) (by decide) (by decide) ?_
              refine Go.retNW X212 hx hZ hEL rfl hW212 hlk hret (by simp) (hb hby at_347) (by decide) (by decide) ?_
              exact ⟨by decide, N205⟩
          · refine Go.strNew (cap := 11) X199 hx hZ hown (w_ hw 59 rfl) (w_ hw 60 rfl) (w_ hw 61 rfl) (w_new hw) (w_ hw 6 rfl) e199 g_b199 Zk174_v200 A199 F_value_b199 F_coder_b199 A174_v204 hz0 (cap11 hB) (by decide) (CS.ext O174_v201.2) hzc (by rw [hml]; rfl) (hb hby at_320) (by first | decide | exact Nat.le_of_ble_eq_true rfl) (by first | decide | exact Nat.le_of_ble_eq_true rfl) (by first | decide | exact Nat.le_of_ble_eq_true rfl) (by first | decide | exact Nat.le_of_ble_eq_true rfl) ?_
            intro T213 L213 as213 X213 Nq213 K213 S213
            have hW213 := hWk174_v202.keep K213 (sfS hsx sf0)
            have N213 := Fr.app N174 Nq213
            have O213 := Old.keep O174_v201 K213 (allS g_b199 all0)
            have Zk213 := Nat.le_trans Zk174_v200 K213.1
            generalize hds : as213 = ds at S213
            show Go p e below _ T213 (mkF m 323 #[.val (.int x0), .val (.int x1), .val (.int x2), .val (.int x3), .val (.int x4), .val (.ref r1a), .val (.int v5), .val (.int v6), .val (.int v7), .val (.int v8), .val (.int v5), .val (.ref r148a), .unset, .unset] [(.ref b199)])
            refine Go.s_astore X213 hx (hb hby at_323) (q := 325) rfl rfl (l' := #[.val (.int x0), .val (.int x1), .val (.int x2), .val (.int x3), .val (.int x4), .val (.ref r1a), .val (.int v5), .val (.int v6), .val (.int v7), .val (.int v8), .val (.int v5), .val (.ref r148a), .val (.ref b199), .unset]) rfl ?_
            refine Go.s_aload X213 hx (hb hby at_325) (q := 327) rfl rfl rfl ?_
            refine Go.callS (y := mn_18) X213 hx hZ hown (w_ hw 79 rfl) (w_ hw 80 rfl) (w_ hw 81 rfl) (w_ hw 82 rfl) (by decide) rfl (argsL := [(.ref b199)]) (rest := []) (rm_of l Z a0 hw b199 _ _ _ ds S213 zc (CS.ext O213.2) hzc av r0 r1 r2 r3 kc (S_VALUES.ext O213.2) (V_av.ext O213.2) (E_av.ext O213.2) w0 w1 w2 w3 (FW0.ext O213.2) (SW0.ext O213.2) (FW1.ext O213.2) (SW1.ext O213.2) (FW2.ext O213.2) (SW2.ext O213.2) (FW3.ext O213.2) (SW3.ext O213.2)) (by rw [hml]; rfl) (lenOf pd_12 rfl) rfl (hb hby at_327) (by decide) (by decide) (by decide) (by decide) ?_
            intro r214 T214 L214 q214 X214
            obtain ⟨rfl, rfl, E214⟩ := q214
            rw [List.append_nil] at X214
            have Zk213_v215 := Nat.le_trans Zk213 E214.1
            have O213_v216 := Old.ext O213 E214
            have hW213_v217 := hW213.ext E214
            have S213_v218 := S213.ext E214
            rcases pick_is r0 r1 r2 r3 ds with ⟨qr, hq⟩ | hq
            · rw [hq]
              show Go p e below _ T214 (mkF m 330 #[.val (.int x0), .val (.int x1), .val (.int x2), .val (.int x3), .val (.int x4), .val (.ref r1a), .val (.int v5), .val (.int v6), .val (.int v7), .val (.int v8), .val (.int v5), .val (.ref r148a), .val (.ref b199), .unset] [(.ref qr)])
              refine Go.s_astore X214 hx (hb hby at_330) (q := 332) rfl rfl (l' := #[.val (.int x0), .val (.int x1), .val (.int x2), .val (.int x3), .val (.int x4), .val (.ref r1a), .val (.int v5), .val (.int v6), .val (.int v7), .val (.int v8), .val (.int v5), .val (.ref r148a), .val (.ref b199), .val (.ref qr)]) rfl ?_
              refine Go.s_aload X214 hx (hb hby at_332) (q := 334) rfl rfl rfl ?_
              refine Go.s_aload X214 hx (hb hby at_334) (q := 336) rfl rfl rfl ?_
              refine Go.callSW (y := mn_22) X214 hx hZ hown (w_ hw 113 rfl) (w_ hw 114 rfl) (w_ hw 2 rfl) (w_ hw 115 rfl) (by decide) rfl hEL hW213_v217 (sf := []) all0 (argsL := [(.ref b199)]) (rest := [(.ref qr)]) (rm_exp l Z a0 hw b199 _ hEL _ ds S213_v218 zc (CS.ext O213_v216.2) hzc r0 r1 r2 r3 (SG0.ext O213_v216.2) (SG1.ext O213_v216.2) (SG2.ext O213_v216.2) (SG3.ext O213_v216.2)) (by rw [hml]; rfl) (lenOf pd_12 rfl) rfl (hb hby at_336) (by first | decide | exact Nat.le_of_ble_eq_true rfl) (by first | decide | exact Nat.le_of_ble_eq_true rfl) (by first | decide | exact Nat.le_of_ble_eq_true rfl) (by first | decide | exact Nat.le_of_ble_eq_true rfl) ?_
              intro r219 T219 L219 q219 X219 hZ hown hW219
              obtain ⟨rfl, rfl⟩ := q219
              rw [List.append_nil] at X219
              rw [hq]
              show Go p e below _ T219 (mkF m 339 #[.val (.int x0), .val (.int x1), .val (.int x2), .val (.int x3), .val (.int x4), .val (.ref r1a), .val (.int v5), .val (.int v6), .val (.int v7), .val (.int v8), .val (.int v5), .val (.ref r148a), .val (.ref b199), .val (.ref qr)] [(.ref qr), (.ref qr)])
              refine Go.s_acmp X219 hx (q := 342) (hb hby at_339) rfl rfl (same := true) (decide_eq_true rfl) (by decide) (by decide) ?_
              refine Go.s_iconst X219 hx (hb hby at_342) (q := 343) rfl (z := 1) rfl ?_
              refine Go.s_goto X219 hx (hb hby at_343) (q := 347) (by decide) (by decide) ?_
              refine Go.retNW X219 hx hZ hEL rfl hW219 hlk hret (by simp) (hb hby at_347) (by decide) (by decide) ?_
              exact ⟨by decide, N213⟩
            · rw [hq]
              show Go p e below _ T214 (mkF m 330 #[.val (.int x0), .val (.int x1), .val (.int x2), .val (.int x3), .val (.int x4), .val (.ref r1a), .val (.int v5), .val (.int v6), .val (.int v7), .val (.int v8), .val (.int v5), .val (.ref r148a), .val (.ref b199), .unset] [.null])
              refine Go.s_astore X214 hx (hb hby at_330) (q := 332) rfl rfl (l' := #[.val (.int x0), .val (.int x1), .val (.int x2), .val (.int x3), .val (.int x4), .val (.ref r1a), .val (.int v5), .val (.int v6), .val (.int v7), .val (.int v8), .val (.int v5), .val (.ref r148a), .val (.ref b199), .val .null]) rfl ?_
              refine Go.s_aload X214 hx (hb hby at_332) (q := 334) rfl rfl rfl ?_
              refine Go.s_aload X214 hx (hb hby at_334) (q := 336) rfl rfl rfl ?_
              refine Go.callSW (y := mn_22) X214 hx hZ hown (w_ hw 113 rfl) (w_ hw 114 rfl) (w_ hw 2 rfl) (w_ hw 115 rfl) (by decide) rfl hEL hW213_v217 (sf := []) all0 (argsL := [(.ref b199)]) (rest := [.null]) (rm_exp l Z a0 hw b199 _ hEL _ ds S213_v218 zc (CS.ext O213_v216.2) hzc r0 r1 r2 r3 (SG0.ext O213_v216.2) (SG1.ext O213_v216.2) (SG2.ext O213_v216.2) (SG3.ext O213_v216.2)) (by rw [hml]; rfl) (lenOf pd_12 rfl) rfl (hb hby at_336) (by first | decide | exact Nat.le_of_ble_eq_true rfl) (by first | decide | exact Nat.le_of_ble_eq_true rfl) (by first | decide | exact Nat.le_of_ble_eq_true rfl) (by first | decide | exact Nat.le_of_ble_eq_true rfl) ?_
              intro r220 T220 L220 q220 X220 hZ hown hW220
              obtain ⟨rfl, rfl⟩ := q220
              rw [List.append_nil] at X220
              rw [hq]
              show Go p e below _ T220 (mkF m 339 #[.val (.int x0), .val (.int x1), .val (.int x2), .val (.int x3), .val (.int x4), .val (.ref r1a), .val (.int v5), .val (.int v6), .val (.int v7), .val (.int v8), .val (.int v5), .val (.ref r148a), .val (.ref b199), .val .null] [.null, .null])
              refine Go.s_acmp X220 hx (q := 342) (hb hby at_339) rfl rfl (same := true) (decide_eq_true rfl) (by decide) (by decide) ?_
              refine Go.s_iconst X220 hx (hb hby at_342) (q := 343) rfl (z := 1) rfl ?_
              refine Go.s_goto X220 hx (hb hby at_343) (q := 347) (by decide) (by decide) ?_
              refine Go.retNW X220 hx hZ hEL rfl hW220 hlk hret (by simp) (hb hby at_347) (by decide) (by decide) ?_
              exact ⟨by decide, N213⟩
set_option maxRecDepth 65536 in
set_option maxHeartbeats 40000000 in
theorem comes_1 {Post : Tables → Env → Array Value → State → Outcome → State → Prop} (hpost : ∀ tb e args s v u, (limb_1_1.after args s (.returned v) u = true ∧ limb_1_2.after args s (.returned v) u = true ∧ True) → ReturnedEndW s (.returned v) u (Jvm.fieldLocs frame_1_writes args s ++ Jvm.arrayLocs frame_1_arrays args s ++ Jvm.staticLocs frame_1_statics s) 32 5312 → Post tb e args s (.returned v) u) :
    ArmFor flags0 classFile x code maxLocals ret World_1 tables_1 room_1 Calls_1 rest_1 Pre_1 Post := by
  intro l hfl _ _ p e ha hc hk s m args below hf hA hF happ hP
  obtain ⟨hcalls, hrest, hpre⟩ := hP
  obtain ⟨-, -, -, hnamed, -, -, -, hat⟩ := (Spec.applies_iff hf).mp happ
  obtain ⟨hg, hn⟩ := and_e (Cond.before_iff.mp (show (Jvm.Cond.and given_1 narrow_1).before args s = true from hpre))
  obtain ⟨hgl, hgr⟩ := and_e hg
  obtain ⟨hgrl, hgrr⟩ := and_e hgr
  obtain ⟨hgrrl, hgrrr⟩ := and_e hgrr
  obtain ⟨hgrrrl, hgrrrr⟩ := and_e hgrrr
  obtain ⟨hgrrrrl, hgrrrrr⟩ := and_e hgrrrr
  obtain ⟨w0, w1, w2, w3, w4, rfl⟩ : ∃ w0 w1 w2 w3 w4 : Value, args = #[w0, w1, w2, w3, w4] := by
    have hs : args.size = 5 := by simpa [Cond.value, given_1] using hgl
    obtain ⟨L⟩ := args
    match L, hs with
    | [w0, w1, w2, w3, w4], _ => exact ⟨w0, w1, w2, w3, w4, rfl⟩
  have hw := fun d (hd : d ∈ tables_1) => atoms_spec (ws := Jvm.Cond.code x code maxLocals ret :: tables_1) hat d (List.mem_cons_of_mem _ hd)
  obtain ⟨i0, ev0⟩ := is_v hgrl
  obtain rfl : w0 = (.int i0) := Option.some.inj ev0
  obtain ⟨i1, ev1⟩ := is_v hgrrl
  obtain rfl : w1 = (.int i1) := Option.some.inj ev1
  obtain ⟨i2, ev2⟩ := is_v hgrrrl
  obtain rfl : w2 = (.int i2) := Option.some.inj ev2
  obtain ⟨i3, ev3⟩ := is_v hgrrrrl
  obtain rfl : w3 = (.int i3) := Option.some.inj ev3
  obtain ⟨i4, ev4⟩ := is_v hgrrrrr
  obtain rfl : w4 = (.int i4) := Option.some.inj ev4
  obtain ⟨hnl, hnr⟩ := and_e hn
  obtain ⟨hnrl, hnrr⟩ := and_e hnr
  obtain ⟨hnrrl, hnrrr⟩ := and_e hnrr
  obtain ⟨hnrrrl, hnrrrr⟩ := and_e hnrrr
  obtain ⟨hnrrrrl, hnrrrrr⟩ := and_e hnrrrr
  obtain ⟨hnrrrrrl, hnrrrrrr⟩ := and_e hnrrrrr
  obtain ⟨hnrrrrrrl, hnrrrrrrr⟩ := and_e hnrrrrrr
  obtain ⟨hnrrrrrrrl, hnrrrrrrrr⟩ := and_e hnrrrrrrr
  obtain ⟨hnrrrrrrrrl, hnrrrrrrrrr⟩ := and_e hnrrrrrrrr
  obtain ⟨hnrrrrrrrrrl, hnrrrrrrrrrr⟩ := and_e hnrrrrrrrrr
  obtain ⟨hnrrrrrrrrrrl, hnrrrrrrrrrrr⟩ := and_e hnrrrrrrrrrr
  obtain ⟨hnrrrrrrrrrrrl, hnrrrrrrrrrrrr⟩ := and_e hnrrrrrrrrrrr
  obtain ⟨hnrrrrrrrrrrrrl, hnrrrrrrrrrrrrr⟩ := and_e hnrrrrrrrrrrrr
  obtain ⟨hnrrrrrrrrrrrrrl, hnrrrrrrrrrrrrrr⟩ := and_e hnrrrrrrrrrrrrr
  obtain ⟨hnrrrrrrrrrrrrrrl, hnrrrrrrrrrrrrrrr⟩ := and_e hnrrrrrrrrrrrrrr
  obtain ⟨hnrrrrrrrrrrrrrrrl, hnrrrrrrrrrrrrrrrr⟩ := and_e hnrrrrrrrrrrrrrrr
  obtain ⟨hnrrrrrrrrrrrrrrrrl, hnrrrrrrrrrrrrrrrrr⟩ := and_e hnrrrrrrrrrrrrrrrr
  obtain ⟨hnrrrrrrrrrrrrrrrrrl, hnrrrrrrrrrrrrrrrrrr⟩ := and_e hnrrrrrrrrrrrrrrrrr
  obtain ⟨hnrrrrrrrrrrrrrrrrrrl, hnrrrrrrrrrrrrrrrrrrr⟩ := and_e hnrrrrrrrrrrrrrrrrrr
  obtain ⟨hnrrrrrrrrrrrrrrrrrrrl, hnrrrrrrrrrrrrrrrrrrrr⟩ := and_e hnrrrrrrrrrrrrrrrrrrr
  obtain ⟨hnrrrrrrrrrrrrrrrrrrrrl, hnrrrrrrrrrrrrrrrrrrrrr⟩ := and_e hnrrrrrrrrrrrrrrrrrrrr
  obtain ⟨hnrrrrrrrrrrrrrrrrrrrrrl, hnrrrrrrrrrrrrrrrrrrrrrr⟩ := and_e hnrrrrrrrrrrrrrrrrrrrrr
  obtain ⟨hnrrrrrrrrrrrrrrrrrrrrrrl, hnrrrrrrrrrrrrrrrrrrrrrrr⟩ := and_e hnrrrrrrrrrrrrrrrrrrrrrr
  obtain ⟨hnrrrrrrrrrrrrrrrrrrrrrrrl, hnrrrrrrrrrrrrrrrrrrrrrrrr⟩ := and_e hnrrrrrrrrrrrrrrrrrrrrrrr
  obtain ⟨hnrrrrrrrrrrrrrrrrrrrrrrrrl, hnrrrrrrrrrrrrrrrrrrrrrrrrr⟩ := and_e hnrrrrrrrrrrrrrrrrrrrrrrrr
  obtain ⟨hnrrrrrrrrrrrrrrrrrrrrrrrrrl, hnrrrrrrrrrrrrrrrrrrrrrrrrrr⟩ := and_e hnrrrrrrrrrrrrrrrrrrrrrrrrr
  obtain ⟨hnrrrrrrrrrrrrrrrrrrrrrrrrrrl, hnrrrrrrrrrrrrrrrrrrrrrrrrrrr⟩ := and_e hnrrrrrrrrrrrrrrrrrrrrrrrrrr
  obtain ⟨hnrrrrrrrrrrrrrrrrrrrrrrrrrrrl, hnrrrrrrrrrrrrrrrrrrrrrrrrrrrr⟩ := and_e hnrrrrrrrrrrrrrrrrrrrrrrrrrrr
  obtain ⟨hnrrrrrrrrrrrrrrrrrrrrrrrrrrrrl, hnrrrrrrrrrrrrrrrrrrrrrrrrrrrrr⟩ := and_e hnrrrrrrrrrrrrrrrrrrrrrrrrrrrr
  obtain ⟨hnrrrrrrrrrrrrrrrrrrrrrrrrrrrrrl, hnrrrrrrrrrrrrrrrrrrrrrrrrrrrrrr⟩ := and_e hnrrrrrrrrrrrrrrrrrrrrrrrrrrrrr
  obtain ⟨hnrrrrrrrrrrrrrrrrrrrrrrrrrrrrrrl, hnrrrrrrrrrrrrrrrrrrrrrrrrrrrrrrr⟩ := and_e hnrrrrrrrrrrrrrrrrrrrrrrrrrrrrrr
  obtain ⟨hnrrrrrrrrrrrrrrrrrrrrrrrrrrrrrrrl, hnrrrrrrrrrrrrrrrrrrrrrrrrrrrrrrrr⟩ := and_e hnrrrrrrrrrrrrrrrrrrrrrrrrrrrrrrr
  obtain ⟨hnrrrrrrrrrrrrrrrrrrrrrrrrrrrrrrrrl, hnrrrrrrrrrrrrrrrrrrrrrrrrrrrrrrrrr⟩ := and_e hnrrrrrrrrrrrrrrrrrrrrrrrrrrrrrrrr
  obtain ⟨hnrrrrrrrrrrrrrrrrrrrrrrrrrrrrrrrrrl, hnrrrrrrrrrrrrrrrrrrrrrrrrrrrrrrrrrr⟩ := and_e hnrrrrrrrrrrrrrrrrrrrrrrrrrrrrrrrrr
  obtain ⟨hnrrrrrrrrrrrrrrrrrrrrrrrrrrrrrrrrrrl, hnrrrrrrrrrrrrrrrrrrrrrrrrrrrrrrrrrrr⟩ := and_e hnrrrrrrrrrrrrrrrrrrrrrrrrrrrrrrrrrr
  obtain ⟨hnrrrrrrrrrrrrrrrrrrrrrrrrrrrrrrrrrrrl, hnrrrrrrrrrrrrrrrrrrrrrrrrrrrrrrrrrrrr⟩ := and_e hnrrrrrrrrrrrrrrrrrrrrrrrrrrrrrrrrrrr
  obtain ⟨hnrrrrrrrrrrrrrrrrrrrrrrrrrrrrrrrrrrrrl, hnrrrrrrrrrrrrrrrrrrrrrrrrrrrrrrrrrrrrr⟩ := and_e hnrrrrrrrrrrrrrrrrrrrrrrrrrrrrrrrrrrrr
  obtain ⟨hnrrrrrrrrrrrrrrrrrrrrrrrrrrrrrrrrrrrrrl, hnrrrrrrrrrrrrrrrrrrrrrrrrrrrrrrrrrrrrrr⟩ := and_e hnrrrrrrrrrrrrrrrrrrrrrrrrrrrrrrrrrrrrr
  obtain ⟨hnrrrrrrrrrrrrrrrrrrrrrrrrrrrrrrrrrrrrrrl, hnrrrrrrrrrrrrrrrrrrrrrrrrrrrrrrrrrrrrrrr⟩ := and_e hnrrrrrrrrrrrrrrrrrrrrrrrrrrrrrrrrrrrrrr
  obtain ⟨hnrrrrrrrrrrrrrrrrrrrrrrrrrrrrrrrrrrrrrrrl, hnrrrrrrrrrrrrrrrrrrrrrrrrrrrrrrrrrrrrrrrr⟩ := and_e hnrrrrrrrrrrrrrrrrrrrrrrrrrrrrrrrrrrrrrrr
  obtain ⟨hnrrrrrrrrrrrrrrrrrrrrrrrrrrrrrrrrrrrrrrrrl, hnrrrrrrrrrrrrrrrrrrrrrrrrrrrrrrrrrrrrrrrrr⟩ := and_e hnrrrrrrrrrrrrrrrrrrrrrrrrrrrrrrrrrrrrrrrr
  obtain ⟨hnrrrrrrrrrrrrrrrrrrrrrrrrrrrrrrrrrrrrrrrrrl, hnrrrrrrrrrrrrrrrrrrrrrrrrrrrrrrrrrrrrrrrrrr⟩ := and_e hnrrrrrrrrrrrrrrrrrrrrrrrrrrrrrrrrrrrrrrrrr
  obtain ⟨hnrrrrrrrrrrrrrrrrrrrrrrrrrrrrrrrrrrrrrrrrrrl, hnrrrrrrrrrrrrrrrrrrrrrrrrrrrrrrrrrrrrrrrrrrr⟩ := and_e hnrrrrrrrrrrrrrrrrrrrrrrrrrrrrrrrrrrrrrrrrrr
  obtain ⟨hnrrrrrrrrrrrrrrrrrrrrrrrrrrrrrrrrrrrrrrrrrrrl, hnrrrrrrrrrrrrrrrrrrrrrrrrrrrrrrrrrrrrrrrrrrrr⟩ := and_e hnrrrrrrrrrrrrrrrrrrrrrrrrrrrrrrrrrrrrrrrrrrr
  obtain ⟨hnrrrrrrrrrrrrrrrrrrrrrrrrrrrrrrrrrrrrrrrrrrrrl, hnrrrrrrrrrrrrrrrrrrrrrrrrrrrrrrrrrrrrrrrrrrrrr⟩ := and_e hnrrrrrrrrrrrrrrrrrrrrrrrrrrrrrrrrrrrrrrrrrrrr
  obtain ⟨hnrrrrrrrrrrrrrrrrrrrrrrrrrrrrrrrrrrrrrrrrrrrrrl, hnrrrrrrrrrrrrrrrrrrrrrrrrrrrrrrrrrrrrrrrrrrrrrr⟩ := and_e hnrrrrrrrrrrrrrrrrrrrrrrrrrrrrrrrrrrrrrrrrrrrrr
  obtain ⟨hnrrrrrrrrrrrrrrrrrrrrrrrrrrrrrrrrrrrrrrrrrrrrrrl, hnrrrrrrrrrrrrrrrrrrrrrrrrrrrrrrrrrrrrrrrrrrrrrrr⟩ := and_e hnrrrrrrrrrrrrrrrrrrrrrrrrrrrrrrrrrrrrrrrrrrrrrr
  obtain ⟨hnrrrrrrrrrrrrrrrrrrrrrrrrrrrrrrrrrrrrrrrrrrrrrrrl, hnrrrrrrrrrrrrrrrrrrrrrrrrrrrrrrrrrrrrrrrrrrrrrrrr⟩ := and_e hnrrrrrrrrrrrrrrrrrrrrrrrrrrrrrrrrrrrrrrrrrrrrrrr
  obtain ⟨hnrrrrrrrrrrrrrrrrrrrrrrrrrrrrrrrrrrrrrrrrrrrrrrrrl, hnrrrrrrrrrrrrrrrrrrrrrrrrrrrrrrrrrrrrrrrrrrrrrrrrr⟩ := and_e hnrrrrrrrrrrrrrrrrrrrrrrrrrrrrrrrrrrrrrrrrrrrrrrrr
  obtain ⟨hnrrrrrrrrrrrrrrrrrrrrrrrrrrrrrrrrrrrrrrrrrrrrrrrrrl, hnrrrrrrrrrrrrrrrrrrrrrrrrrrrrrrrrrrrrrrrrrrrrrrrrrr⟩ := and_e hnrrrrrrrrrrrrrrrrrrrrrrrrrrrrrrrrrrrrrrrrrrrrrrrrr
  obtain ⟨hnrrrrrrrrrrrrrrrrrrrrrrrrrrrrrrrrrrrrrrrrrrrrrrrrrrl, hnrrrrrrrrrrrrrrrrrrrrrrrrrrrrrrrrrrrrrrrrrrrrrrrrrrr⟩ := and_e hnrrrrrrrrrrrrrrrrrrrrrrrrrrrrrrrrrrrrrrrrrrrrrrrrrr
  obtain ⟨r0, ea0⟩ := exa_v hnrrrl
  have SG0 := Sta.start ea0 (Or.inr ⟨(w_ hw 81 rfl), (w_ hw 95 rfl)⟩)
  obtain ⟨r1, ea1⟩ := exa_v hnrrrrrl
  have SG1 := Sta.start ea1 (Or.inr ⟨(w_ hw 81 rfl), (w_ hw 96 rfl)⟩)
  obtain ⟨r2, ea2⟩ := exa_v hnrrrrrrrl
  have SG2 := Sta.start ea2 (Or.inr ⟨(w_ hw 81 rfl), (w_ hw 97 rfl)⟩)
  obtain ⟨r3, ea3⟩ := exa_v hnrrrrrrrrrl
  have SG3 := Sta.start ea3 (Or.inr ⟨(w_ hw 81 rfl), (w_ hw 98 rfl)⟩)
  have hfit : Fit s := fun {y c} hc i hi => by
    obtain ⟨ha, rfl⟩ := Array.getElem?_eq_some_iff.mp hc
    have q := List.all_eq_true.mp ((Array.all_eq_true_iff_forall_mem.mp hF) _ (Array.getElem_mem ha)) i (List.mem_range.mpr hi)
    simpa [Array.getElem?_eq_getElem hi] using q
  obtain ⟨av, eav⟩ := arr_v hnl
  have S_VALUES := Sta.start eav (Or.inr ⟨(w_ hw 81 rfl), (w_ hw 87 rfl)⟩)
  obtain ⟨cv, Av⟩ := Arr.start eav hnl
  have E_av := Exa.start eav hnrl
  have hlv := len_small (eqv_i (Term.int_eval _) hnrrl) eav Av
  have V_av : Arv s s.heap av cv.cls (.object "com/example/tollbook/tollbook/book/AdjustmentReason") (4 : Int32) [(.ref r0), (.ref r1), (.ref r2), (.ref r3)] .null := Arv.start hfit Av hlv.1 hlv.2 (by decide) rfl ⟨elem_r eav Av (by decide) ea0 hnrrrrl, elem_r eav Av (by decide) ea1 hnrrrrrrl, elem_r eav Av (by decide) ea2 hnrrrrrrrrl, elem_r eav Av (by decide) ea3 hnrrrrrrrrrrl, trivial⟩
  obtain ⟨w0w, ew0⟩ := exa_v hnrrrrrrrrrrrl
  have FW0 := Fld.start ((fld_at ea0).symm.trans ew0)
  have Ew0 := Exa.start ew0 hnrrrrrrrrrrrl
  have Cw0 := Fld.start ((fld_at ew0).symm.trans (eqv_i (Term.int_eval 0) hnrrrrrrrrrrrrl))
  obtain ⟨b0, eb0⟩ := arr_v hnrrrrrrrrrrrrrl
  have Vw0 := Fld.start ((fld_at ew0).symm.trans eb0)
  obtain ⟨cb0, Ab0⟩ := Arr.start eb0 hnrrrrrrrrrrrrrl
  have hlb0 := len_small (eqv_i (Term.int_eval _) hnrrrrrrrrrrrrrrl) eb0 Ab0
  have Bw0 : Arv s s.heap b0 cb0.cls .byte (Int32.ofNat tx0.length) ((tx0.map (fun c => c.toInt8.toInt32)).map Value.int) (.int 0) := Arv.start hfit Ab0 hlb0.1 (hlb0.2.trans (by decide)) (by decide) (by decide) ⟨elem_i eb0 Ab0 (by decide) hnrrrrrrrrrrrrrrrrrrrrrrrrrrrrrrrl, elem_i eb0 Ab0 (by decide) hnrrrrrrrrrrrrrrrrrrrrrrrrrrrrrrrrl, elem_i eb0 Ab0 (by decide) hnrrrrrrrrrrrrrrrrrrrrrrrrrrrrrrrrrl, elem_i eb0 Ab0 (by decide) hnrrrrrrrrrrrrrrrrrrrrrrrrrrrrrrrrrrl, elem_i eb0 Ab0 (by decide) hnrrrrrrrrrrrrrrrrrrrrrrrrrrrrrrrrrrrl, elem_i eb0 Ab0 (by decide) hnrrrrrrrrrrrrrrrrrrrrrrrrrrrrrrrrrrrrl, elem_i eb0 Ab0 (by decide) hnrrrrrrrrrrrrrrrrrrrrrrrrrrrrrrrrrrrrrl, elem_i eb0 Ab0 (by decide) hnrrrrrrrrrrrrrrrrrrrrrrrrrrrrrrrrrrrrrrl, elem_i eb0 Ab0 (by decide) hnrrrrrrrrrrrrrrrrrrrrrrrrrrrrrrrrrrrrrrrl, elem_i eb0 Ab0 (by decide) hnrrrrrrrrrrrrrrrrrrrrrrrrrrrrrrrrrrrrrrrrl, trivial⟩
  have SW0 : Str s s.heap s.heap.size w0w tx0 := ⟨b0, _, Ew0, Vw0, Cw0, Bw0, hc0, by decide, Ew0.lt, Bw0.lt⟩
  obtain ⟨w1w, ew1⟩ := exa_v hnrrrrrrrrrrrrrrrl
  have FW1 := Fld.start ((fld_at ea1).symm.trans ew1)
  have Ew1 := Exa.start ew1 hnrrrrrrrrrrrrrrrl
  have Cw1 := Fld.start ((fld_at ew1).symm.trans (eqv_i (Term.int_eval 0) hnrrrrrrrrrrrrrrrrl))
  obtain ⟨b1, eb1⟩ := arr_v hnrrrrrrrrrrrrrrrrrl
  have Vw1 := Fld.start ((fld_at ew1).symm.trans eb1)
  obtain ⟨cb1, Ab1⟩ := Arr.start eb1 hnrrrrrrrrrrrrrrrrrl
  have hlb1 := len_small (eqv_i (Term.int_eval _) hnrrrrrrrrrrrrrrrrrrl) eb1 Ab1
  have Bw1 : Arv s s.heap b1 cb1.cls .byte (Int32.ofNat tx1.length) ((tx1.map (fun c => c.toInt8.toInt32)).map Value.int) (.int 0) := Arv.start hfit Ab1 hlb1.1 (hlb1.2.trans (by decide)) (by decide) (by decide) ⟨elem_i eb1 Ab1 (by decide) hnrrrrrrrrrrrrrrrrrrrrrrrrrrrl, elem_i eb1 Ab1 (by decide) hnrrrrrrrrrrrrrrrrrrrrrrrrrrrrl, elem_i eb1 Ab1 (by decide) hnrrrrrrrrrrrrrrrrrrrrrrrrrrrrrl, elem_i eb1 Ab1 (by decide) hnrrrrrrrrrrrrrrrrrrrrrrrrrrrrrrl, trivial⟩
  have SW1 : Str s s.heap s.heap.size w1w tx1 := ⟨b1, _, Ew1, Vw1, Cw1, Bw1, hc1, by decide, Ew1.lt, Bw1.lt⟩
  obtain ⟨w2w, ew2⟩ := exa_v hnrrrrrrrrrrrrrrrrrrrl
  have FW2 := Fld.start ((fld_at ea2).symm.trans ew2)
  have Ew2 := Exa.start ew2 hnrrrrrrrrrrrrrrrrrrrl
  have Cw2 := Fld.start ((fld_at ew2).symm.trans (eqv_i (Term.int_eval 0) hnrrrrrrrrrrrrrrrrrrrrl))
  obtain ⟨b2, eb2⟩ := arr_v hnrrrrrrrrrrrrrrrrrrrrrl
  have Vw2 := Fld.start ((fld_at ew2).symm.trans eb2)
  obtain ⟨cb2, Ab2⟩ := Arr.start eb2 hnrrrrrrrrrrrrrrrrrrrrrl
  have hlb2 := len_small (eqv_i (Term.int_eval _) hnrrrrrrrrrrrrrrrrrrrrrrl) eb2 Ab2
  have Bw2 : Arv s s.heap b2 cb2.cls .byte (Int32.ofNat tx2.length) ((tx2.map (fun c => c.toInt8.toInt32)).map Value.int) (.int 0) := Arv.start hfit Ab2 hlb2.1 (hlb2.2.trans (by decide)) (by decide) (by decide) ⟨elem_i eb2 Ab2 (by decide) hnrrrrrrrrrrrrrrrrrrrrrrrrrrrrrrrrrrrrrrrrrl, elem_i eb2 Ab2 (by decide) hnrrrrrrrrrrrrrrrrrrrrrrrrrrrrrrrrrrrrrrrrrrl, elem_i eb2 Ab2 (by decide) hnrrrrrrrrrrrrrrrrrrrrrrrrrrrrrrrrrrrrrrrrrrrl, elem_i eb2 Ab2 (by decide) hnrrrrrrrrrrrrrrrrrrrrrrrrrrrrrrrrrrrrrrrrrrrrl, elem_i eb2 Ab2 (by decide) hnrrrrrrrrrrrrrrrrrrrrrrrrrrrrrrrrrrrrrrrrrrrrrl, elem_i eb2 Ab2 (by decide) hnrrrrrrrrrrrrrrrrrrrrrrrrrrrrrrrrrrrrrrrrrrrrrrl, trivial⟩
  have SW2 : Str s s.heap s.heap.size w2w tx2 := ⟨b2, _, Ew2, Vw2, Cw2, Bw2, hc2, by decide, Ew2.lt, Bw2.lt⟩
  obtain ⟨w3w, ew3⟩ := exa_v hnrrrrrrrrrrrrrrrrrrrrrrrl
  have FW3 := Fld.start ((fld_at ea3).symm.trans ew3)
  have Ew3 := Exa.start ew3 hnrrrrrrrrrrrrrrrrrrrrrrrl
  have Cw3 := Fld.start ((fld_at ew3).symm.trans (eqv_i (Term.int_eval 0) hnrrrrrrrrrrrrrrrrrrrrrrrrl))
  obtain ⟨b3, eb3⟩ := arr_v hnrrrrrrrrrrrrrrrrrrrrrrrrrl
  have Vw3 := Fld.start ((fld_at ew3).symm.trans eb3)
  obtain ⟨cb3, Ab3⟩ := Arr.start eb3 hnrrrrrrrrrrrrrrrrrrrrrrrrrl
  have hlb3 := len_small (eqv_i (Term.int_eval _) hnrrrrrrrrrrrrrrrrrrrrrrrrrrl) eb3 Ab3
  have Bw3 : Arv s s.heap b3 cb3.cls .byte (Int32.ofNat tx3.length) ((tx3.map (fun c => c.toInt8.toInt32)).map Value.int) (.int 0) := Arv.start hfit Ab3 hlb3.1 (hlb3.2.trans (by decide)) (by decide) (by decide) ⟨elem_i eb3 Ab3 (by decide) hnrrrrrrrrrrrrrrrrrrrrrrrrrrrrrrrrrrrrrrrrrrrrrrrl, elem_i eb3 Ab3 (by decide) hnrrrrrrrrrrrrrrrrrrrrrrrrrrrrrrrrrrrrrrrrrrrrrrrrl, elem_i eb3 Ab3 (by decide) hnrrrrrrrrrrrrrrrrrrrrrrrrrrrrrrrrrrrrrrrrrrrrrrrrrl, elem_i eb3 Ab3 (by decide) hnrrrrrrrrrrrrrrrrrrrrrrrrrrrrrrrrrrrrrrrrrrrrrrrrrrl, elem_i eb3 Ab3 (by decide) hnrrrrrrrrrrrrrrrrrrrrrrrrrrrrrrrrrrrrrrrrrrrrrrrrrrr, trivial⟩
  have SW3 : Str s s.heap s.heap.size w3w tx3 := ⟨b3, _, Ew3, Vw3, Cw3, Bw3, hc3, by decide, Ew3.lt, Bw3.lt⟩
  have hrs := Cond.before_iff.mp (show rest_1_c.before _ s = true from hrest)
  obtain ⟨q0, hrs⟩ := and_e hrs
  obtain ⟨q1, hrs⟩ := and_e hrs
  obtain ⟨q2, hrs⟩ := and_e hrs
  obtain ⟨q3, hrs⟩ := and_e hrs
  obtain ⟨q4, hrs⟩ := and_e hrs
  obtain ⟨q5, hrs⟩ := and_e hrs
  obtain ⟨q6, hrs⟩ := and_e hrs
  obtain ⟨q7, hrs⟩ := and_e hrs
  obtain ⟨q8, hrs⟩ := and_e hrs
  obtain ⟨zc, ez⟩ := is_v q1
  have CS := Sta.start ez (Or.inl (Cond.before_iff.mpr q0))
  have hzc := ne_of_not ez q2
  obtain ⟨fm, ef, rf⟩ := isR_v q8
  have SF := Sta.start ef (Or.inl (Cond.before_iff.mpr q7))
  have hEL : EW s _ consts_1 := (EW.cons (w_ hw 4 rfl) ht0.1 (EW.cons (w_ hw 117 rfl) ht1.1 (EW.cons (w_ hw 118 rfl) ht2.1 (EW.cons (w_ hw 119 rfl) ht3.1 (EW.cons (w_ hw 120 rfl) ht4.1 EW.nil)))))
  have hH : CHv s consts_1 s.vm s.heap := CHv.start hEL (fun p hp => hcalls.1 p hp) (Cond.before_iff.mpr q2) (w_ hw 7 rfl) (w_ hw 6 rfl)
  obtain ⟨n, o, h1, h2, h3, _, L, rfl, ⟨rfl, N⟩, -, hq⟩ := rm_law l s _ hw i0 i1 i2 i3 i4 s.heap hEL s.heap.size (Nat.le_refl _) (Old.start s) zc CS hzc fm SF rf av r0 r1 r2 r3 cv.cls S_VALUES V_av E_av s.heap.size w0w w1w w2w w3w FW0 SW0 FW1 SW1 FW2 SW2 FW3 SW3 SG0 SG1 SG2 SG3 tables_1 p e ha hc hk s m _ below hf ((Spec.applies_iff_loose hf).mp happ).1 ⟨rfl, State.Warmed39.refl s, rfl, hH, all0⟩ trivial
  refine ⟨n, _, h1, h2, h3, hpost _ _ _ _ _ _ ⟨Cond.after_iff.mpr rfl, Cond.after_iff.mpr (eq_i res_at (Term.int_eval (1)) rfl), trivial⟩ ⟨hq.1, hq.2.1, hq.2.2.1, (hq.2.2.2.sift fun y hy => Or.inr (N y hy)).mono (by decide) (by decide)⟩⟩
theorem main_1_1 : Claimed_1_1 := comes_1 fun _ _ _ _ _ _ h hF => ⟨h.1, hF⟩
theorem main_1_2 : Claimed_1_2 := comes_1 fun _ _ _ _ _ _ h hF => ⟨h.2.1, hF⟩
end Jvm.Pilot.@@N@@
namespace Jvm.Pilot.@@N@@
open Jvm Jvm.ClassFile Sem Op Lib Jvm.Free Jvm.Stand Jvm.Pilot.@@N@@.Jvm.D
/-! MADE BY PROGRAM (witnessworld.py) out of the Statement's table words and the real class files: 22 classes; the members and pool entries that the words name. The judged class is class 1, her method 1. -/
namespace start1
open Jvm.ClassFile
def u (s : String) : CpInfo := .utf8 (stringToUtf16 s)
/-- a pool by its gaps: so many unusable entries, then the entry; so many at the end -/
def gap : Nat → List CpInfo → List CpInfo
  | 0, r => r
  | n + 1, r => .unusable :: gap n r
def poolList (es : List (Nat × CpInfo)) (last : Nat) : List CpInfo := es.foldr (fun e r => gap e.1 (e.2 :: r)) (gap last [])
def pool (es : List (Nat × CpInfo)) (last : Nat) : Array CpInfo := ⟨poolList es last⟩
def fileOf (pool : Array CpInfo) (this : Nat) (attrs : Array Attribute := #[]) (ms : Array MethodInfo := #[]) (fl : Nat := 33) (sup : Nat := 0) (ifs : Array Nat := #[]) (fds : Array FieldInfo := #[]) : ClassFile where
  minorVersion := 0
  majorVersion := 65
  constantPool := pool
  accessFlags := fl
  thisClass := this
  superClass := sup
  interfaces := ifs
  fields := fds
  methods := ms
  attributes := attrs
def plain (name : String) (sup : Option ClassId) : Class where
  name := name
  kind := .ordinary
  loader := none
  accessFlags := 33
  super := sup
  interfaces := #[]
  cf := none
  fields := #[]
  methods := #[]
  instanceTypes := #[]
  staticTypes := #[]
  resolved := #[]
  callSites := []
  init := .initialized
  statics := none
  mirror := none

def pool0 : Array CpInfo := pool [(5, u "<init>"), (0, u "()V"), (1, .class_ 10), (1, u "java/lang/Object"), (85, u "clone"), (0, u "()Ljava/lang/Object;")] 26

def k0c0 : Code := { maxStack := 0, maxLocals := 1, code := object_method_1_code, exceptionTable := #[], attributes := #[] }
def k0m0 : Method := { name := "<init>", desc := "()V", sig := { parameters := [], returnType := none }, accessFlags := 1, code := some k0c0 }
def k0m1 : Method := { name := "clone", desc := "()Ljava/lang/Object;", sig := { parameters := [], returnType := some (.object "java/lang/Object") }, accessFlags := 260, code := none }
/-- java/lang/Object -/
def k0 : Class := { plain "java/lang/Object" none with
  accessFlags := 33
  interfaces := #[]
  cf := some (fileOf pool0 8 #[] #[{ accessFlags := 1, nameIndex := 5, descriptorIndex := 6, attributes := #[] }, { accessFlags := 260, nameIndex := 96, descriptorIndex := 97, attributes := #[] }] 33 0 #[] #[])
  fields := #[]
  methods := #[k0m0, k0m1]
  instanceTypes := #[]
  staticTypes := #[]
  resolved := Array.replicate 124 none
  statics := none }

def pool1 : Array CpInfo := pool [(2, .class_ 4), (1, u "java/lang/Object"), (0, u "<init>"), (0, u "()V"), (0, .methodref 8 9), (0, .class_ 10), (0, .nameAndType 11 12), (0, u "com/example/tollbook/tollbook/book/AdjustmentReasonOfPinLaw"), (0, u "name"), (0, u "(I)Ljava/lang/String;"), (0, .methodref 14 15), (0, .class_ 16), (0, .nameAndType 17 18), (0, u "java/lang/String"), (0, u "length"), (0, u "()I"), (0, .integer 2147483647), (0, .methodref 8 21), (0, .nameAndType 22 23), (0, u "blank"), (0, u "(I)[C"), (0, .methodref 8 25), (0, .nameAndType 26 27), (0, u "put"), (0, u "([CIC)V"), (0, .methodref 8 29), (0, .nameAndType 30 31), (0, u "src"), (0, u "(Ljava/lang/String;IC)C"), (0, .methodref 14 33), (0, .nameAndType 5 34), (0, u "([C)V"), (0, .methodref 36 37), (0, .class_ 38), (0, .nameAndType 39 40), (0, u "com/example/tollbook/tollbook/book/AdjustmentReason"), (0, u "of"), (0, u "(Ljava/lang/String;)Lcom/example/tollbook/tollbook/book/AdjustmentReason;"), (0, .methodref 8 42), (0, .nameAndType 43 40), (0, u "expected"), (0, .string 45), (0, u "paid_topup"), (0, .string 47), (0, u "gift"), (0, .string 49), (0, u "refund"), (0, .string 51), (0, u "other"), (0, .methodref 14 53), (0, .nameAndType 54 55), (0, u "equals"), (0, u "(Ljava/lang/Object;)Z"), (0, .fieldref 36 57), (0, .nameAndType 58 59), (0, u "PAID_TOPUP"), (0, u "Lcom/example/tollbook/tollbook/book/AdjustmentReason;"), (0, .fieldref 36 61), (0, .nameAndType 62 59), (0, u "GIFT"), (0, .fieldref 36 64), (0, .nameAndType 65 59), (0, u "REFUND"), (0, .fieldref 36 67), (0, .nameAndType 68 59), (0, u "OTHER"), (0, .methodref 14 70), (0, .nameAndType 71 72), (0, u "charAt"), (0, u "(I)C"), (2, u "law"), (0, u "(IIIII)Z")] 5

def k1m0 : Method := { name := "<init>", desc := "()V", sig := { parameters := [], returnType := none }, accessFlags := 2, code := none }
def k1c1 : Code := { maxStack := 5, maxLocals := 14, code := code, exceptionTable := #[], attributes := #[] }
def k1m1 : Method := { name := "law", desc := "(IIIII)Z", sig := { parameters := [.int, .int, .int, .int, .int], returnType := some .boolean }, accessFlags := 9, code := some k1c1 }
def k1c2 : Code := { maxStack := 2, maxLocals := 1, code := method_3_code, exceptionTable := #[], attributes := #[] }
def k1m2 : Method := { name := "name", desc := "(I)Ljava/lang/String;", sig := { parameters := [.int], returnType := some (.object "java/lang/String") }, accessFlags := 10, code := some k1c2 }
def k1c3 : Code := { maxStack := 2, maxLocals := 1, code := method_4_code, exceptionTable := #[], attributes := #[] }
def k1m3 : Method := { name := "expected", desc := "(Ljava/lang/String;)Lcom/example/tollbook/tollbook/book/AdjustmentReason;", sig := { parameters := [(.object "java/lang/String")], returnType := some (.object "com/example/tollbook/tollbook/book/AdjustmentReason") }, accessFlags := 10, code := some k1c3 }
def k1c4 : Code := { maxStack := 2, maxLocals := 3, code := method_5_code, exceptionTable := #[], attributes := #[] }
def k1m4 : Method := { name := "src", desc := "(Ljava/lang/String;IC)C", sig := { parameters := [(.object "java/lang/String"), .int, .char], returnType := some .char }, accessFlags := 10, code := some k1c4 }
def k1c5 : Code := { maxStack := 3, maxLocals := 3, code := method_6_code, exceptionTable := #[], attributes := #[] }
def k1m5 : Method := { name := "put", desc := "([CIC)V", sig := { parameters := [(.array .char), .int, .char], returnType := none }, accessFlags := 10, code := some k1c5 }
def k1c6 : Code := { maxStack := 2, maxLocals := 1, code := method_7_code, exceptionTable := #[], attributes := #[] }
def k1m6 : Method := { name := "blank", desc := "(I)[C", sig := { parameters := [.int], returnType := some (.array .char) }, accessFlags := 10, code := some k1c6 }
/-- com/example/tollbook/tollbook/book/AdjustmentReasonOfPinLaw -/
def k1 : Class := { plain "com/example/tollbook/tollbook/book/AdjustmentReasonOfPinLaw" (some 0) with
  accessFlags := 49
  interfaces := #[]
  cf := some (fileOf pool1 8 #[] #[{ accessFlags := 2, nameIndex := 5, descriptorIndex := 6, attributes := #[] }, { accessFlags := 9, nameIndex := 75, descriptorIndex := 76, attributes := #[] }, { accessFlags := 10, nameIndex := 11, descriptorIndex := 12, attributes := #[] }, { accessFlags := 10, nameIndex := 43, descriptorIndex := 40, attributes := #[] }, { accessFlags := 10, nameIndex := 30, descriptorIndex := 31, attributes := #[] }, { accessFlags := 10, nameIndex := 26, descriptorIndex := 27, attributes := #[] }, { accessFlags := 10, nameIndex := 22, descriptorIndex := 23, attributes := #[] }] 49 2 #[] #[])
  fields := #[]
  methods := #[k1m0, k1m1, k1m2, k1m3, k1m4, k1m5, k1m6]
  instanceTypes := #[]
  staticTypes := #[]
  resolved := Array.replicate 82 none
  statics := none }

def pool2 : Array CpInfo := pool [(1, .class_ 2), (0, u "java/io/Serializable"), (0, .class_ 4), (0, u "java/lang/Object")] 2

/-- java/io/Serializable -/
def k2 : Class := { plain "java/io/Serializable" (some 0) with
  accessFlags := 1537
  interfaces := #[]
  cf := some (fileOf pool2 1 #[] #[] 1537 3 #[] #[])
  fields := #[]
  methods := #[]
  instanceTypes := #[]
  staticTypes := #[]
  resolved := Array.replicate 7 none
  statics := none }

def pool3 : Array CpInfo := pool [(1, .class_ 2), (0, u "java/lang/Comparable"), (0, .class_ 4), (0, u "java/lang/Object")] 7

/-- java/lang/Comparable -/
def k3 : Class := { plain "java/lang/Comparable" (some 0) with
  accessFlags := 1537
  interfaces := #[]
  cf := some (fileOf pool3 1 #[] #[] 1537 3 #[] #[])
  fields := #[]
  methods := #[]
  instanceTypes := #[]
  staticTypes := #[]
  resolved := Array.replicate 12 none
  statics := none }

def pool4 : Array CpInfo := pool [(2, .class_ 4), (1, u "java/lang/CharSequence"), (42, .class_ 48), (0, u "java/lang/CharSequence$1CodePointIterator"), (10, .class_ 60), (0, u "java/lang/CharSequence$1CharIterator"), (5, .class_ 67), (0, u "java/lang/Object")] 63

/-- java/lang/CharSequence -/
def k4 : Class := { plain "java/lang/CharSequence" (some 0) with
  accessFlags := 1537
  interfaces := #[]
  cf := some (fileOf pool4 2 #[.nestMembers #[47, 59]] #[] 1537 66 #[] #[])
  fields := #[]
  methods := #[]
  instanceTypes := #[]
  staticTypes := #[]
  resolved := Array.replicate 131 none
  statics := none }

def pool5 : Array CpInfo := pool [(1, .class_ 2), (0, u "java/lang/constant/Constable"), (0, .class_ 4), (0, u "java/lang/Object")] 6

/-- java/lang/constant/Constable -/
def k5 : Class := { plain "java/lang/constant/Constable" (some 0) with
  accessFlags := 1537
  interfaces := #[]
  cf := some (fileOf pool5 1 #[] #[] 1537 3 #[] #[])
  fields := #[]
  methods := #[]
  instanceTypes := #[]
  staticTypes := #[]
  resolved := Array.replicate 11 none
  statics := none }

def pool6 : Array CpInfo := pool [(1, .class_ 2), (0, u "java/lang/constant/ConstantDesc"), (0, .class_ 4), (0, u "java/lang/Object")] 32

/-- java/lang/constant/ConstantDesc -/
def k6 : Class := { plain "java/lang/constant/ConstantDesc" (some 0) with
  accessFlags := 1537
  interfaces := #[]
  cf := some (fileOf pool6 1 #[] #[] 1537 3 #[] #[])
  fields := #[]
  methods := #[]
  instanceTypes := #[]
  staticTypes := #[]
  resolved := Array.replicate 37 none
  statics := none }

def pool7 : Array CpInfo := pool [(1, .methodref 2 3), (0, .class_ 4), (0, .nameAndType 5 6), (0, u "java/lang/Object"), (0, u "<init>"), (0, u "()V"), (0, .string 8), (0, u ""), (0, .fieldref 10 11), (0, .class_ 12), (0, .nameAndType 13 14), (0, u "java/lang/String"), (0, u "value"), (0, u "[B"), (0, .fieldref 10 16), (0, .nameAndType 17 18), (0, u "coder"), (0, u "B"), (2, u "hash"), (0, u "I"), (2, u "hashIsZero"), (0, u "Z"), (0, .methodref 10 28), (0, .nameAndType 5 29), (0, u "([CIILjava/lang/Void;)V"), (8, .fieldref 10 39), (0, .nameAndType 40 26), (0, u "COMPACT_STRINGS"), (1, .class_ 44), (1, u "java/lang/StringUTF16"), (0, u "compress"), (1, .methodref 42 48), (0, .nameAndType 49 50), (0, u "coderFromArrayLen"), (0, u "([BI)B"), (56, .class_ 109), (1, u "java/lang/StringLatin1"), (32, u "()Z"), (34, .methodref 42 178), (0, .nameAndType 45 179), (0, u "([CII)[B"), (154, u "()I"), (0, .methodref 10 336), (0, .nameAndType 17 337), (0, u "()B"), (25, u "([BI)C"), (27, u "(II)V"), (35, u "(I)C"), (64, .methodref 10 493), (0, .nameAndType 494 142), (0, u "isLatin1"), (0, .methodref 107 496), (0, .nameAndType 497 363), (0, u "charAt"), (3, u "checkIndex"), (5, u "length"), (33, .methodref 107 542), (0, .nameAndType 543 544), (0, u "equals"), (0, u "([B[B)Z"), (28, u "(Ljava/lang/Object;)Z"), (1, .class_ 576), (0, u "java/lang/CharSequence"), (22, u "CASE_INSENSITIVE_ORDER"), (0, u "Ljava/util/Comparator;"), (409, u "([C)V"), (42, .fieldref 1054 1055), (0, .class_ 1056), (0, .nameAndType 1057 1058), (0, u "jdk/internal/util/Preconditions"), (0, u "SIOOBE_FORMATTER"), (0, u "Ljava/util/function/BiFunction;"), (0, .methodref 1054 1060), (0, .nameAndType 501 1061), (0, u "(IILjava/util/function/BiFunction;)I"), (39, u "serialPersistentFields"), (0, u "[Ljava/io/ObjectStreamField;"), (0, .class_ 1104), (0, u "java/lang/String$CaseInsensitiveComparator"), (1, .class_ 1107), (0, u "java/io/Serializable"), (0, .class_ 1109), (0, u "java/lang/Comparable"), (0, .class_ 1111), (0, u "java/lang/constant/Constable"), (0, .class_ 1113), (0, u "java/lang/constant/ConstantDesc"), (2, u "serialVersionUID"), (0, u "J"), (3, u "REPL"), (0, u "C"), (2, u "LATIN1"), (1, u "UTF16")] 323

def k7m0 : Method := { name := "<init>", desc := "()V", sig := { parameters := [], returnType := none }, accessFlags := 1, code := none }
def k7c1 : Code := { maxStack := 5, maxLocals := 2, code := jdk_42_method_3_code, exceptionTable := #[], attributes := #[] }
def k7m1 : Method := { name := "<init>", desc := "([C)V", sig := { parameters := [(.array .char)], returnType := none }, accessFlags := 1, code := some k7c1 }
def k7c2 : Code := { maxStack := 2, maxLocals := 1, code := jdk_42_method_54_code, exceptionTable := #[], attributes := #[] }
def k7m2 : Method := { name := "length", desc := "()I", sig := { parameters := [], returnType := some .int }, accessFlags := 1, code := some k7c2 }
def k7c3 : Code := { maxStack := 2, maxLocals := 2, code := jdk_42_method_56_code, exceptionTable := #[], attributes := #[] }
def k7m3 : Method := { name := "charAt", desc := "(I)C", sig := { parameters := [.int], returnType := some .char }, accessFlags := 1, code := some k7c3 }
def k7c4 : Code := { maxStack := 2, maxLocals := 3, code := jdk_42_method_66_code, exceptionTable := #[], attributes := #[] }
def k7m4 : Method := { name := "equals", desc := "(Ljava/lang/Object;)Z", sig := { parameters := [(.object "java/lang/Object")], returnType := some .boolean }, accessFlags := 1, code := some k7c4 }
def k7c5 : Code := { maxStack := 4, maxLocals := 6, code := jdk_42_method_149_code, exceptionTable := #[], attributes := #[] }
def k7m5 : Method := { name := "<init>", desc := "([CIILjava/lang/Void;)V", sig := { parameters := [(.array .char), .int, .int, (.object "java/lang/Void")], returnType := none }, accessFlags := 2, code := some k7c5 }
def k7c6 : Code := { maxStack := 1, maxLocals := 1, code := jdk_42_method_152_code, exceptionTable := #[], attributes := #[] }
def k7m6 : Method := { name := "coder", desc := "()B", sig := { parameters := [], returnType := some .byte }, accessFlags := 0, code := some k7c6 }
def k7c7 : Code := { maxStack := 1, maxLocals := 1, code := jdk_42_method_154_code, exceptionTable := #[], attributes := #[] }
def k7m7 : Method := { name := "isLatin1", desc := "()Z", sig := { parameters := [], returnType := some .boolean }, accessFlags := 0, code := some k7c7 }
def k7c8 : Code := { maxStack := 3, maxLocals := 2, code := jdk_42_method_155_code, exceptionTable := #[], attributes := #[] }
def k7m8 : Method := { name := "checkIndex", desc := "(II)V", sig := { parameters := [.int, .int], returnType := none }, accessFlags := 8, code := some k7c8 }
/-- java/lang/String -/
def k7 : Class := { plain "java/lang/String" (some 0) with
  accessFlags := 49
  interfaces := #[2, 3, 4, 5, 6]
  cf := some (fileOf pool7 10 #[.nestMembers #[1103]] #[{ accessFlags := 1, nameIndex := 5, descriptorIndex := 6, attributes := #[] }, { accessFlags := 1, nameIndex := 5, descriptorIndex := 1010, attributes := #[] }, { accessFlags := 1, nameIndex := 507, descriptorIndex := 334, attributes := #[] }, { accessFlags := 1, nameIndex := 497, descriptorIndex := 427, attributes := #[] }, { accessFlags := 1, nameIndex := 543, descriptorIndex := 573, attributes := #[] }, { accessFlags := 2, nameIndex := 5, descriptorIndex := 29, attributes := #[] }, { accessFlags := 0, nameIndex := 17, descriptorIndex := 337, attributes := #[] }, { accessFlags := 0, nameIndex := 494, descriptorIndex := 142, attributes := #[] }, { accessFlags := 8, nameIndex := 501, descriptorIndex := 391, attributes := #[] }] 49 2 #[1106, 1108, 575, 1110, 1112] #[{ accessFlags := 18, nameIndex := 13, descriptorIndex := 14, attributes := #[] }, { accessFlags := 18, nameIndex := 17, descriptorIndex := 18, attributes := #[] }, { accessFlags := 2, nameIndex := 21, descriptorIndex := 22, attributes := #[] }, { accessFlags := 2, nameIndex := 25, descriptorIndex := 26, attributes := #[] }, { accessFlags := 26, nameIndex := 1116, descriptorIndex := 1117, attributes := #[] }, { accessFlags := 24, nameIndex := 40, descriptorIndex := 26, attributes := #[] }, { accessFlags := 26, nameIndex := 1101, descriptorIndex := 1102, attributes := #[] }, { accessFlags := 26, nameIndex := 1121, descriptorIndex := 1122, attributes := #[] }, { accessFlags := 25, nameIndex := 599, descriptorIndex := 600, attributes := #[] }, { accessFlags := 24, nameIndex := 1125, descriptorIndex := 18, attributes := #[] }, { accessFlags := 24, nameIndex := 1127, descriptorIndex := 18, attributes := #[] }])
  fields := #[{ name := "value", type := (.array .byte), accessFlags := 18, slot := 0, constantValue := 0 }, { name := "coder", type := .byte, accessFlags := 18, slot := 1, constantValue := 0 }, { name := "hash", type := .int, accessFlags := 2, slot := 2, constantValue := 0 }, { name := "hashIsZero", type := .boolean, accessFlags := 2, slot := 3, constantValue := 0 }, { name := "serialVersionUID", type := .long, accessFlags := 26, slot := 0, constantValue := 0 }, { name := "COMPACT_STRINGS", type := .boolean, accessFlags := 24, slot := 1, constantValue := 0 }, { name := "serialPersistentFields", type := (.array (.object "java/io/ObjectStreamField")), accessFlags := 26, slot := 2, constantValue := 0 }, { name := "REPL", type := .char, accessFlags := 26, slot := 3, constantValue := 0 }, { name := "CASE_INSENSITIVE_ORDER", type := (.object "java/util/Comparator"), accessFlags := 25, slot := 4, constantValue := 0 }, { name := "LATIN1", type := .byte, accessFlags := 24, slot := 5, constantValue := 0 }, { name := "UTF16", type := .byte, accessFlags := 24, slot := 6, constantValue := 0 }]
  methods := #[k7m0, k7m1, k7m2, k7m3, k7m4, k7m5, k7m6, k7m7, k7m8]
  instanceTypes := #[(.array .byte), .byte, .int, .boolean]
  staticTypes := #[.long, .boolean, (.array (.object "java/io/ObjectStreamField")), .char, (.object "java/util/Comparator"), .byte, .byte]
  resolved := Array.replicate 1451 none
  statics := some 0 }

def pool8 : Array CpInfo := pool [(1, .class_ 2), (0, u "java/lang/String"), (1, .class_ 6), (1, u "java/lang/Object"), (0, u "<init>"), (0, u "()V"), (0, .methodref 1 10), (0, .nameAndType 11 12), (0, u "checkIndex"), (0, u "(II)V"), (1, .class_ 16), (1, u "java/lang/StringLatin1"), (36, u "([BI)C"), (67, u "$assertionsDisabled"), (0, u "Z"), (98, .class_ 223), (1, u "java/lang/StringLatin1$LinesSpliterator"), (28, u "charAt"), (28, u "equals"), (0, u "([B[B)Z"), (107, .class_ 391), (0, u "java/lang/StringLatin1$CharsSpliterator")] 3

def k8m0 : Method := { name := "<init>", desc := "()V", sig := { parameters := [], returnType := none }, accessFlags := 0, code := none }
def k8c1 : Code := { maxStack := 2, maxLocals := 2, code := jdk_43_method_2_code, exceptionTable := #[], attributes := #[] }
def k8m1 : Method := { name := "charAt", desc := "([BI)C", sig := { parameters := [(.array .byte), .int], returnType := some .char }, accessFlags := 9, code := some k8c1 }
def k8c2 : Code := { maxStack := 3, maxLocals := 3, code := jdk_43_method_13_code, exceptionTable := #[], attributes := #[] }
def k8m2 : Method := { name := "equals", desc := "([B[B)Z", sig := { parameters := [(.array .byte), (.array .byte)], returnType := some .boolean }, accessFlags := 9, code := some k8c2 }
/-- java/lang/StringLatin1 -/
def k8 : Class := { plain "java/lang/StringLatin1" (some 0) with
  accessFlags := 48
  interfaces := #[]
  cf := some (fileOf pool8 14 #[.nestMembers #[390, 221]] #[{ accessFlags := 0, nameIndex := 7, descriptorIndex := 8, attributes := #[] }, { accessFlags := 9, nameIndex := 252, descriptorIndex := 53, attributes := #[] }, { accessFlags := 9, nameIndex := 281, descriptorIndex := 282, attributes := #[] }] 48 4 #[] #[{ accessFlags := 4120, nameIndex := 121, descriptorIndex := 122, attributes := #[] }])
  fields := #[{ name := "$assertionsDisabled", type := .boolean, accessFlags := 4120, slot := 0, constantValue := 0 }]
  methods := #[k8m0, k8m1, k8m2]
  instanceTypes := #[]
  staticTypes := #[.boolean]
  resolved := Array.replicate 395 none
  statics := none }

def pool9 : Array CpInfo := pool [(2, .class_ 4), (1, u "java/lang/Object"), (0, u "<init>"), (0, u "()V"), (17, .class_ 26), (1, u "jdk/internal/util/Preconditions"), (6, u "checkIndex"), (21, .class_ 56), (0, u "jdk/internal/util/Preconditions$4"), (57, .class_ 115), (0, u "jdk/internal/util/Preconditions$1"), (7, u "SIOOBE_FORMATTER"), (0, u "Ljava/util/function/BiFunction;"), (0, .class_ 126), (0, u "jdk/internal/util/Preconditions$2"), (3, u "AIOOBE_FORMATTER"), (0, .class_ 132), (0, u "jdk/internal/util/Preconditions$3"), (3, u "IOOBE_FORMATTER"), (41, u "(IILjava/util/function/BiFunction;)I")] 15

def k9m0 : Method := { name := "<init>", desc := "()V", sig := { parameters := [], returnType := none }, accessFlags := 1, code := none }
def k9c1 : Code := { maxStack := 3, maxLocals := 3, code := jdk_41_method_11_code, exceptionTable := #[], attributes := #[] }
def k9m1 : Method := { name := "checkIndex", desc := "(IILjava/util/function/BiFunction;)I", sig := { parameters := [.int, .int, (.object "java/util/function/BiFunction")], returnType := some .int }, accessFlags := 9, code := some k9c1 }
/-- jdk/internal/util/Preconditions -/
def k9 : Class := { plain "jdk/internal/util/Preconditions" (some 0) with
  accessFlags := 33
  interfaces := #[]
  cf := some (fileOf pool9 24 #[.nestMembers #[55, 131, 125, 114]] #[{ accessFlags := 1, nameIndex := 5, descriptorIndex := 6, attributes := #[] }, { accessFlags := 9, nameIndex := 33, descriptorIndex := 178, attributes := #[] }] 33 2 #[] #[{ accessFlags := 25, nameIndex := 123, descriptorIndex := 124, attributes := #[] }, { accessFlags := 25, nameIndex := 130, descriptorIndex := 124, attributes := #[] }, { accessFlags := 25, nameIndex := 136, descriptorIndex := 124, attributes := #[] }])
  fields := #[{ name := "SIOOBE_FORMATTER", type := (.object "java/util/function/BiFunction"), accessFlags := 25, slot := 0, constantValue := 0 }, { name := "AIOOBE_FORMATTER", type := (.object "java/util/function/BiFunction"), accessFlags := 25, slot := 1, constantValue := 0 }, { name := "IOOBE_FORMATTER", type := (.object "java/util/function/BiFunction"), accessFlags := 25, slot := 2, constantValue := 0 }]
  methods := #[k9m0, k9m1]
  instanceTypes := #[]
  staticTypes := #[(.object "java/util/function/BiFunction"), (.object "java/util/function/BiFunction"), (.object "java/util/function/BiFunction")]
  resolved := Array.replicate 194 none
  statics := some 1 }

def pool10 : Array CpInfo := pool [(6, .class_ 8), (1, u "java/lang/Object"), (0, u "<init>"), (0, u "()V"), (1, .class_ 14), (1, u "java/lang/StringUTF16"), (31, u "$assertionsDisabled"), (0, u "Z"), (13, u "HI_BYTE_SHIFT"), (0, u "I"), (2, u "LO_BYTE_SHIFT"), (49, .methodref 12 116), (0, .nameAndType 117 118), (0, u "compress"), (0, u "([CI[BII)I"), (3, u "([CII)[B"), (138, u "coderFromArrayLen"), (0, u "([BI)B"), (106, .class_ 371), (1, u "java/lang/StringUTF16$LinesSpliterator"), (58, u "MAX_LENGTH"), (196, .class_ 628), (0, u "java/lang/StringUTF16$CodePointsSpliterator"), (0, .class_ 630), (0, u "java/lang/StringUTF16$CharsSpliterator")] 4

def k10m0 : Method := { name := "<init>", desc := "()V", sig := { parameters := [], returnType := none }, accessFlags := 0, code := none }
def k10c1 : Code := { maxStack := 2, maxLocals := 2, code := jdk_52_method_15_code, exceptionTable := #[], attributes := #[] }
def k10m1 : Method := { name := "coderFromArrayLen", desc := "([BI)B", sig := { parameters := [(.array .byte), .int], returnType := some .byte }, accessFlags := 8, code := some k10c1 }
def k10c2 : Code := { maxStack := 5, maxLocals := 6, code := jdk_52_method_16_code, exceptionTable := #[], attributes := #[] }
def k10m2 : Method := { name := "compress", desc := "([CII)[B", sig := { parameters := [(.array .char), .int, .int], returnType := some (.array .byte) }, accessFlags := 9, code := some k10c2 }
def k10c3 : Code := { maxStack := 3, maxLocals := 7, code := jdk_52_method_21_code, exceptionTable := #[], attributes := #[] }
def k10m3 : Method := { name := "compress", desc := "([CI[BII)I", sig := { parameters := [(.array .char), .int, (.array .byte), .int, .int], returnType := some .int }, accessFlags := 9, code := some k10c3 }
/-- java/lang/StringUTF16 -/
def k10 : Class := { plain "java/lang/StringUTF16" (some 0) with
  accessFlags := 48
  interfaces := #[]
  cf := some (fileOf pool10 12 #[.nestMembers #[627, 629, 369]] #[{ accessFlags := 0, nameIndex := 9, descriptorIndex := 10, attributes := #[] }, { accessFlags := 8, nameIndex := 261, descriptorIndex := 262, attributes := #[] }, { accessFlags := 9, nameIndex := 117, descriptorIndex := 122, attributes := #[] }, { accessFlags := 9, nameIndex := 117, descriptorIndex := 118, attributes := #[] }] 48 6 #[] #[{ accessFlags := 26, nameIndex := 61, descriptorIndex := 62, attributes := #[] }, { accessFlags := 26, nameIndex := 65, descriptorIndex := 62, attributes := #[] }, { accessFlags := 24, nameIndex := 430, descriptorIndex := 62, attributes := #[] }, { accessFlags := 4120, nameIndex := 46, descriptorIndex := 47, attributes := #[] }])
  fields := #[{ name := "HI_BYTE_SHIFT", type := .int, accessFlags := 26, slot := 0, constantValue := 0 }, { name := "LO_BYTE_SHIFT", type := .int, accessFlags := 26, slot := 1, constantValue := 0 }, { name := "MAX_LENGTH", type := .int, accessFlags := 24, slot := 2, constantValue := 0 }, { name := "$assertionsDisabled", type := .boolean, accessFlags := 4120, slot := 3, constantValue := 0 }]
  methods := #[k10m0, k10m1, k10m2, k10m3]
  instanceTypes := #[]
  staticTypes := #[.int, .int, .int, .boolean]
  resolved := Array.replicate 635 none
  statics := none }

def pool11 : Array CpInfo := pool [(2, .class_ 4), (1, u "java/lang/Enum"), (0, u "name"), (0, u "Ljava/lang/String;"), (2, u "ordinal"), (0, u "I"), (1, .class_ 14), (1, u "java/lang/Object"), (4, u "hash"), (86, .class_ 108), (1, u "java/lang/Enum$EnumDesc"), (2, .class_ 112), (0, u "java/lang/constant/Constable"), (0, .class_ 114), (0, u "java/lang/Comparable"), (0, .class_ 116), (0, u "java/io/Serializable")] 87

/-- java/lang/Enum -/
def k11 : Class := { plain "java/lang/Enum" (some 0) with
  accessFlags := 1057
  interfaces := #[5, 3, 2]
  cf := some (fileOf pool11 2 #[.nestMembers #[106]] #[] 1057 12 #[111, 113, 115] #[{ accessFlags := 18, nameIndex := 5, descriptorIndex := 6, attributes := #[] }, { accessFlags := 18, nameIndex := 9, descriptorIndex := 10, attributes := #[] }, { accessFlags := 2, nameIndex := 19, descriptorIndex := 10, attributes := #[] }])
  fields := #[{ name := "name", type := (.object "java/lang/String"), accessFlags := 18, slot := 0, constantValue := 0 }, { name := "ordinal", type := .int, accessFlags := 18, slot := 1, constantValue := 0 }, { name := "hash", type := .int, accessFlags := 2, slot := 2, constantValue := 0 }]
  methods := #[]
  instanceTypes := #[(.object "java/lang/String"), .int, .int]
  staticTypes := #[]
  resolved := Array.replicate 204 none
  statics := none }

def pool12 : Array CpInfo := pool [(1, .class_ 2), (0, u "com/example/tollbook/tollbook/book/AdjustmentReason"), (2, u "PAID_TOPUP"), (0, u "Lcom/example/tollbook/tollbook/book/AdjustmentReason;"), (2, u "GIFT"), (2, u "REFUND"), (2, u "OTHER"), (0, .fieldref 1 17), (0, .nameAndType 18 19), (0, u "$VALUES"), (0, u "[Lcom/example/tollbook/tollbook/book/AdjustmentReason;"), (0, .methodref 21 22), (0, .class_ 19), (0, .nameAndType 23 24), (0, u "clone"), (0, u "()Ljava/lang/Object;"), (1, .class_ 28), (1, u "java/lang/Enum"), (6, .fieldref 1 36), (0, .nameAndType 37 38), (0, u "wireName"), (0, u "Ljava/lang/String;"), (2, u "purpose"), (2, u "debitsWhenNegative"), (0, u "Z"), (2, u "validity"), (0, u "Ljava/time/Period;"), (0, .methodref 1 51), (0, .nameAndType 52 53), (0, u "values"), (0, u "()[Lcom/example/tollbook/tollbook/book/AdjustmentReason;"), (0, .methodref 55 56), (0, .class_ 57), (0, .nameAndType 58 59), (0, u "java/lang/String"), (0, u "equals"), (0, u "(Ljava/lang/Object;)Z"), (58, u "(Ljava/lang/String;)Lcom/example/tollbook/tollbook/book/AdjustmentReason;"), (3, u "of")] 12

def k12c0 : Code := { maxStack := 1, maxLocals := 0, code := prog_10_method_1_code, exceptionTable := #[], attributes := #[] }
def k12m0 : Method := { name := "values", desc := "()[Lcom/example/tollbook/tollbook/book/AdjustmentReason;", sig := { parameters := [], returnType := some (.array (.object "com/example/tollbook/tollbook/book/AdjustmentReason")) }, accessFlags := 9, code := some k12c0 }
def k12c1 : Code := { maxStack := 2, maxLocals := 5, code := prog_10_method_4_code, exceptionTable := #[], attributes := #[] }
def k12m1 : Method := { name := "of", desc := "(Ljava/lang/String;)Lcom/example/tollbook/tollbook/book/AdjustmentReason;", sig := { parameters := [(.object "java/lang/String")], returnType := some (.object "com/example/tollbook/tollbook/book/AdjustmentReason") }, accessFlags := 8, code := some k12c1 }
/-- com/example/tollbook/tollbook/book/AdjustmentReason -/
def k12 : Class := { plain "com/example/tollbook/tollbook/book/AdjustmentReason" (some 11) with
  accessFlags := 16432
  interfaces := #[]
  cf := some (fileOf pool12 1 #[] #[{ accessFlags := 9, nameIndex := 52, descriptorIndex := 53, attributes := #[] }, { accessFlags := 8, nameIndex := 122, descriptorIndex := 118, attributes := #[] }] 16432 26 #[] #[{ accessFlags := 16409, nameIndex := 5, descriptorIndex := 6, attributes := #[] }, { accessFlags := 16409, nameIndex := 9, descriptorIndex := 6, attributes := #[] }, { accessFlags := 16409, nameIndex := 12, descriptorIndex := 6, attributes := #[] }, { accessFlags := 16409, nameIndex := 15, descriptorIndex := 6, attributes := #[] }, { accessFlags := 18, nameIndex := 37, descriptorIndex := 38, attributes := #[] }, { accessFlags := 18, nameIndex := 41, descriptorIndex := 38, attributes := #[] }, { accessFlags := 18, nameIndex := 44, descriptorIndex := 45, attributes := #[] }, { accessFlags := 18, nameIndex := 48, descriptorIndex := 49, attributes := #[] }, { accessFlags := 4122, nameIndex := 18, descriptorIndex := 19, attributes := #[] }])
  fields := #[{ name := "PAID_TOPUP", type := (.object "com/example/tollbook/tollbook/book/AdjustmentReason"), accessFlags := 16409, slot := 0, constantValue := 0 }, { name := "GIFT", type := (.object "com/example/tollbook/tollbook/book/AdjustmentReason"), accessFlags := 16409, slot := 1, constantValue := 0 }, { name := "REFUND", type := (.object "com/example/tollbook/tollbook/book/AdjustmentReason"), accessFlags := 16409, slot := 2, constantValue := 0 }, { name := "OTHER", type := (.object "com/example/tollbook/tollbook/book/AdjustmentReason"), accessFlags := 16409, slot := 3, constantValue := 0 }, { name := "wireName", type := (.object "java/lang/String"), accessFlags := 18, slot := 3, constantValue := 0 }, { name := "purpose", type := (.object "java/lang/String"), accessFlags := 18, slot := 4, constantValue := 0 }, { name := "debitsWhenNegative", type := .boolean, accessFlags := 18, slot := 5, constantValue := 0 }, { name := "validity", type := (.object "java/time/Period"), accessFlags := 18, slot := 6, constantValue := 0 }, { name := "$VALUES", type := (.array (.object "com/example/tollbook/tollbook/book/AdjustmentReason")), accessFlags := 4122, slot := 4, constantValue := 0 }]
  methods := #[k12m0, k12m1]
  instanceTypes := #[(.object "java/lang/String"), .int, .int, (.object "java/lang/String"), (.object "java/lang/String"), .boolean, (.object "java/time/Period")]
  staticTypes := #[(.object "com/example/tollbook/tollbook/book/AdjustmentReason"), (.object "com/example/tollbook/tollbook/book/AdjustmentReason"), (.object "com/example/tollbook/tollbook/book/AdjustmentReason"), (.object "com/example/tollbook/tollbook/book/AdjustmentReason"), (.array (.object "com/example/tollbook/tollbook/book/AdjustmentReason"))]
  resolved := Array.replicate 135 none
  statics := some 2 }

def pool13 : Array CpInfo := pool [(1, .class_ 2), (0, u "java/lang/Cloneable"), (0, .class_ 4), (0, u "java/lang/Object")] 2

/-- java/lang/Cloneable -/
def k13 : Class := { plain "java/lang/Cloneable" (some 0) with
  accessFlags := 1537
  interfaces := #[]
  cf := some (fileOf pool13 1 #[] #[] 1537 3 #[] #[])
  fields := #[]
  methods := #[]
  instanceTypes := #[]
  staticTypes := #[]
  resolved := Array.replicate 7 none
  statics := none }

def pool14 : Array CpInfo := pool [(9, u "<init>"), (6, .class_ 18), (1, u "java/lang/Object"), (0, u "()V"), (1, .class_ 23), (1, u "jdk/internal/util/ArraysSupport"), (0, u "LOG2_ARRAY_LONG_INDEX_SCALE"), (0, u "I"), (2, u "U"), (0, u "Ljdk/internal/misc/Unsafe;"), (8, u "BIG_ENDIAN"), (0, u "Z"), (8, u "LOG2_BYTE_BIT_SIZE"), (4, u "LOG2_ARRAY_INT_INDEX_SCALE"), (54, u "JLA"), (0, u "Ljdk/internal/access/JavaLangAccess;"), (11, u "LOG2_ARRAY_BOOLEAN_INDEX_SCALE"), (9, u "LOG2_ARRAY_BYTE_INDEX_SCALE"), (5, u "LOG2_ARRAY_CHAR_INDEX_SCALE"), (5, u "LOG2_ARRAY_SHORT_INDEX_SCALE"), (18, u "LOG2_ARRAY_FLOAT_INDEX_SCALE"), (24, u "LOG2_ARRAY_DOUBLE_INDEX_SCALE"), (89, u "T_BOOLEAN"), (2, u "T_CHAR"), (1, u "T_FLOAT"), (1, u "T_DOUBLE"), (1, u "T_BYTE"), (1, u "T_SHORT"), (1, u "T_INT"), (1, u "T_LONG"), (1, u "SOFT_MAX_ARRAY_LENGTH")] 83

def k14m0 : Method := { name := "<init>", desc := "()V", sig := { parameters := [], returnType := none }, accessFlags := 2, code := none }
/-- jdk/internal/util/ArraysSupport -/
def k14 : Class := { plain "jdk/internal/util/ArraysSupport" (some 0) with
  accessFlags := 33
  interfaces := #[]
  cf := some (fileOf pool14 21 #[] #[{ accessFlags := 2, nameIndex := 9, descriptorIndex := 19, attributes := #[] }] 33 16 #[] #[{ accessFlags := 24, nameIndex := 28, descriptorIndex := 29, attributes := #[] }, { accessFlags := 26, nameIndex := 38, descriptorIndex := 39, attributes := #[] }, { accessFlags := 25, nameIndex := 121, descriptorIndex := 25, attributes := #[] }, { accessFlags := 25, nameIndex := 131, descriptorIndex := 25, attributes := #[] }, { accessFlags := 25, nameIndex := 137, descriptorIndex := 25, attributes := #[] }, { accessFlags := 25, nameIndex := 143, descriptorIndex := 25, attributes := #[] }, { accessFlags := 25, nameIndex := 53, descriptorIndex := 25, attributes := #[] }, { accessFlags := 25, nameIndex := 24, descriptorIndex := 25, attributes := #[] }, { accessFlags := 25, nameIndex := 162, descriptorIndex := 25, attributes := #[] }, { accessFlags := 25, nameIndex := 187, descriptorIndex := 25, attributes := #[] }, { accessFlags := 26, nameIndex := 48, descriptorIndex := 25, attributes := #[] }, { accessFlags := 25, nameIndex := 277, descriptorIndex := 25, attributes := #[] }, { accessFlags := 25, nameIndex := 280, descriptorIndex := 25, attributes := #[] }, { accessFlags := 25, nameIndex := 282, descriptorIndex := 25, attributes := #[] }, { accessFlags := 25, nameIndex := 284, descriptorIndex := 25, attributes := #[] }, { accessFlags := 25, nameIndex := 286, descriptorIndex := 25, attributes := #[] }, { accessFlags := 25, nameIndex := 288, descriptorIndex := 25, attributes := #[] }, { accessFlags := 25, nameIndex := 290, descriptorIndex := 25, attributes := #[] }, { accessFlags := 25, nameIndex := 292, descriptorIndex := 25, attributes := #[] }, { accessFlags := 26, nameIndex := 108, descriptorIndex := 109, attributes := #[] }, { accessFlags := 25, nameIndex := 294, descriptorIndex := 25, attributes := #[] }])
  fields := #[{ name := "U", type := (.object "jdk/internal/misc/Unsafe"), accessFlags := 24, slot := 0, constantValue := 0 }, { name := "BIG_ENDIAN", type := .boolean, accessFlags := 26, slot := 1, constantValue := 0 }, { name := "LOG2_ARRAY_BOOLEAN_INDEX_SCALE", type := .int, accessFlags := 25, slot := 2, constantValue := 0 }, { name := "LOG2_ARRAY_BYTE_INDEX_SCALE", type := .int, accessFlags := 25, slot := 3, constantValue := 0 }, { name := "LOG2_ARRAY_CHAR_INDEX_SCALE", type := .int, accessFlags := 25, slot := 4, constantValue := 0 }, { name := "LOG2_ARRAY_SHORT_INDEX_SCALE", type := .int, accessFlags := 25, slot := 5, constantValue := 0 }, { name := "LOG2_ARRAY_INT_INDEX_SCALE", type := .int, accessFlags := 25, slot := 6, constantValue := 0 }, { name := "LOG2_ARRAY_LONG_INDEX_SCALE", type := .int, accessFlags := 25, slot := 7, constantValue := 0 }, { name := "LOG2_ARRAY_FLOAT_INDEX_SCALE", type := .int, accessFlags := 25, slot := 8, constantValue := 0 }, { name := "LOG2_ARRAY_DOUBLE_INDEX_SCALE", type := .int, accessFlags := 25, slot := 9, constantValue := 0 }, { name := "LOG2_BYTE_BIT_SIZE", type := .int, accessFlags := 26, slot := 10, constantValue := 0 }, { name := "T_BOOLEAN", type := .int, accessFlags := 25, slot := 11, constantValue := 0 }, { name := "T_CHAR", type := .int, accessFlags := 25, slot := 12, constantValue := 0 }, { name := "T_FLOAT", type := .int, accessFlags := 25, slot := 13, constantValue := 0 }, { name := "T_DOUBLE", type := .int, accessFlags := 25, slot := 14, constantValue := 0 }, { name := "T_BYTE", type := .int, accessFlags := 25, slot := 15, constantValue := 0 }, { name := "T_SHORT", type := .int, accessFlags := 25, slot := 16, constantValue := 0 }, { name := "T_INT", type := .int, accessFlags := 25, slot := 17, constantValue := 0 }, { name := "T_LONG", type := .int, accessFlags := 25, slot := 18, constantValue := 0 }, { name := "JLA", type := (.object "jdk/internal/access/JavaLangAccess"), accessFlags := 26, slot := 19, constantValue := 0 }, { name := "SOFT_MAX_ARRAY_LENGTH", type := .int, accessFlags := 25, slot := 20, constantValue := 0 }]
  methods := #[k14m0]
  instanceTypes := #[]
  staticTypes := #[(.object "jdk/internal/misc/Unsafe"), .boolean, .int, .int, .int, .int, .int, .int, .int, .int, .int, .int, .int, .int, .int, .int, .int, .int, .int, (.object "jdk/internal/access/JavaLangAccess"), .int]
  resolved := Array.replicate 378 none
  statics := none }

/-- the primitive byte -/
def k15 : Class := { plain "byte" none with kind := .primitive 'B', accessFlags := 0x411 }
/-- [B -/
def k16 : Class := { plain "[B" (some 0) with kind := .array 15 .byte, interfaces := #[13, 2], accessFlags := 1041 }

/-- the primitive char -/
def k17 : Class := { plain "char" none with kind := .primitive 'C', accessFlags := 0x411 }
/-- [C -/
def k18 : Class := { plain "[C" (some 0) with kind := .array 17 .char, interfaces := #[13, 2], accessFlags := 1041 }

/-- the primitive int -/
def k19 : Class := { plain "int" none with kind := .primitive 'I', accessFlags := 0x411 }
/-- [I -/
def k20 : Class := { plain "[I" (some 0) with kind := .array 19 .int, interfaces := #[13, 2], accessFlags := 1041 }

/-- [Lcom/example/tollbook/tollbook/book/AdjustmentReason; -/
def k21 : Class := { plain "[Lcom/example/tollbook/tollbook/book/AdjustmentReason;" (some 0) with kind := .array 12 (.object "com/example/tollbook/tollbook/book/AdjustmentReason"), interfaces := #[13, 2], accessFlags := 1041 }

def heap : Heap := #[{ cls := 7, slots := #[.long 0, .int 1, .null, .int 0, .null, .int 0, .int 0], vm := .statics 7 },
  { cls := 9, slots := #[.null, .null, .null], vm := .statics 9 },
  { cls := 12, slots := #[.ref 12, .ref 13, .ref 14, .ref 15, .ref 3], vm := .statics 12 },
  { cls := 21, slots := #[.ref 12, .ref 13, .ref 14, .ref 15], vm := .none },
  { cls := 16, slots := #[.int 112, .int 97, .int 105, .int 100, .int 95, .int 116, .int 111, .int 112, .int 117, .int 112], vm := .none },
  { cls := 16, slots := #[.int 103, .int 105, .int 102, .int 116], vm := .none },
  { cls := 16, slots := #[.int 114, .int 101, .int 102, .int 117, .int 110, .int 100], vm := .none },
  { cls := 16, slots := #[.int 111, .int 116, .int 104, .int 101, .int 114], vm := .none },
  { cls := 7, slots := #[.ref 4, .int 0, .int 0, .int 0], vm := .none },
  { cls := 7, slots := #[.ref 5, .int 0, .int 0, .int 0], vm := .none },
  { cls := 7, slots := #[.ref 6, .int 0, .int 0, .int 0], vm := .none },
  { cls := 7, slots := #[.ref 7, .int 0, .int 0, .int 0], vm := .none },
  { cls := 12, slots := #[.null, .int 0, .int 0, .ref 8, .null, .int 0, .null], vm := .none },
  { cls := 12, slots := #[.null, .int 1, .int 0, .ref 9, .null, .int 0, .null], vm := .none },
  { cls := 12, slots := #[.null, .int 2, .int 0, .ref 10, .null, .int 0, .null], vm := .none },
  { cls := 12, slots := #[.null, .int 3, .int 0, .ref 11, .null, .int 0, .null], vm := .none }]
def classes : Array Class := #[k0, k1, k2, k3, k4, k5, k6, k7, k8, k9, k10, k11, k12, k13, k14, k15, k16, k17, k18, k19, k20, k21]
def interned : List (Array UInt16 × Addr) := []
def slotsUsed : Nat := 88
def theMethod : MethodId := ⟨1, 1⟩
def args0 : Array Value := #[.int 1, .int 2, .int 3, .int 4, .int 5]
def aboutOver (below : List Frame) : State where
  vm := { classes := classes, interned := interned.toArray }
  heap := heap
  slotsUsed := slotsUsed
  threads := #[{ frames := .invoking theMethod args0 :: below }]
def below0 : List Frame := [.native { method := ⟨0, 0⟩, args := #[] }]
def about1 : State := aboutOver below0
def p0 : Program := .bare "" "" ""
def e0 : Env := launch0.env 0 0 0
theorem w_frames : about1.frames = Frame.invoking theMethod args0 :: below0 := rfl
set_option maxRecDepth 65536 in
theorem w_args : argsFit about1.vm theMethod args0 = true := by decide +kernel
set_option maxRecDepth 65536 in
theorem w_heap : heapFits about1 = true := by decide +kernel
set_option maxRecDepth 65536 in
theorem w_runnable : about1.curStatus? = some .runnable := by decide +kernel
set_option maxRecDepth 65536 in
theorem w_alone : about1.alone = true := by decide +kernel
set_option maxRecDepth 65536 in
theorem w_named : about1.methodNamed? x = some theMethod := by decide +kernel
set_option maxRecDepth 65536 in
theorem w_hears : about1.hears theMethod below0 = true := by decide +kernel
set_option maxRecDepth 65536 in
theorem w_ripe : about1.ripe theMethod args0 below0 = true := by decide +kernel
theorem w_running : about1.status = .running := rfl
set_option maxRecDepth 65536 in
theorem w_room : about1.hasRoom e0.platform room_1 = true :=
  launch0.hasRoom_least _ room_1 (by decide +kernel) (by decide +kernel) (by decide +kernel) (by decide +kernel) (by decide +kernel) (by decide +kernel)
theorem allAtoms_all (ts : List Jvm.Cond) (a : Array Jvm.Value) (st : Jvm.State) : (allAtoms ts).before a st = ts.all (fun c => c.before a st) := by
  induction ts with
  | nil => rfl
  | cons c t ih =>
    show (Jvm.Cond.and c (allAtoms t)).before a st = _
    rw [Jvm.Cond.before_and, ih, List.all_cons]
def words1 : List Jvm.Cond := Jvm.Cond.code x code maxLocals ret :: tables_1
/-- a 'code' word, met by the world's own term for the bytes: nothing is compared byte by byte -/
theorem code_word {y : MethodName} {bytes : ByteArray} {mx : Nat} {rt : Option FieldType} {a : Array Value} {s : State} {m : MethodId} {meth : Method} {c : Code} (h1 : s.methodNamed? y = some m) (h2 : s.vm.method? m = some meth) (h3 : meth.code = some c) (h4 : c.code = bytes)
    (h5 : (c.maxLocals == mx && c.exceptionTable.isEmpty && decide (c.maxStack ≤ mostOperands) && decide (meth.sig.returnType = rt) && !meth.locks && decide (parseMethodDescriptor y.desc = some meth.sig)) = true) : (Jvm.Cond.code y bytes mx rt).before a s = true := by
  simp only [Bool.and_eq_true, beq_iff_eq, Bool.not_eq_true', decide_eq_true_eq] at h5
  obtain ⟨⟨⟨⟨⟨g1, g2⟩, g3⟩, g4⟩, g5⟩, g6⟩ := h5
  simp [Cond.before, Cond.holds, Cond.value, h1, h2, h3, h4, g1, g2, g3, g4, g5, g6]
def isCode : Jvm.Cond → Bool
  | .code _ _ _ _ => true
  | _ => false
theorem all_split {L : List Jvm.Cond} {P : Jvm.Cond → Bool} (h1 : L.all (fun c => isCode c || P c) = true) (h2 : ∀ c ∈ L.filter isCode, P c = true) : L.all P = true := by
  refine List.all_eq_true.mpr fun c hc => ?_
  have h := List.all_eq_true.mp h1 c hc
  rcases Bool.eq_false_or_eq_true (isCode c) with hi | hi
  · exact h2 c (List.mem_filter.mpr ⟨hc, hi⟩)
  · simpa [hi] using h
set_option maxRecDepth 65536 in
theorem w_c0 : (Jvm.Cond.code x code maxLocals ret).before args0 about1 = true := code_word (m := ⟨1, 1⟩) (meth := k1m1) (c := k1c1) (by decide +kernel) rfl rfl rfl (by decide +kernel)
set_option maxRecDepth 65536 in
theorem w_c1 : (Jvm.Cond.code ({ cls := "com/example/tollbook/tollbook/book/AdjustmentReasonOfPinLaw", name := "name", desc := "(I)Ljava/lang/String;" } : Jvm.MethodName) method_3_code (1 : Nat) (Option.some (Jvm.ClassFile.FieldType.object "java/lang/String"))).before args0 about1 = true := code_word (m := ⟨1, 2⟩) (meth := k1m2) (c := k1c2) (by decide +kernel) rfl rfl rfl (by decide +kernel)
set_option maxRecDepth 65536 in
theorem w_c2 : (Jvm.Cond.code ({ cls := "java/lang/String", name := "length", desc := "()I" } : Jvm.MethodName) jdk_42_method_54_code (1 : Nat) (Option.some Jvm.ClassFile.FieldType.int)).before args0 about1 = true := code_word (m := ⟨7, 2⟩) (meth := k7m2) (c := k7c2) (by decide +kernel) rfl rfl rfl (by decide +kernel)
set_option maxRecDepth 65536 in
theorem w_c3 : (Jvm.Cond.code ({ cls := "java/lang/String", name := "coder", desc := "()B" } : Jvm.MethodName) jdk_42_method_152_code (1 : Nat) (Option.some Jvm.ClassFile.FieldType.byte)).before args0 about1 = true := code_word (m := ⟨7, 6⟩) (meth := k7m6) (c := k7c6) (by decide +kernel) rfl rfl rfl (by decide +kernel)
set_option maxRecDepth 65536 in
theorem w_c4 : (Jvm.Cond.code ({ cls := "com/example/tollbook/tollbook/book/AdjustmentReasonOfPinLaw", name := "blank", desc := "(I)[C" } : Jvm.MethodName) method_7_code (1 : Nat) (Option.some (Jvm.ClassFile.FieldType.array Jvm.ClassFile.FieldType.char))).before args0 about1 = true := code_word (m := ⟨1, 6⟩) (meth := k1m6) (c := k1c6) (by decide +kernel) rfl rfl rfl (by decide +kernel)
set_option maxRecDepth 65536 in
theorem w_c5 : (Jvm.Cond.code ({ cls := "com/example/tollbook/tollbook/book/AdjustmentReasonOfPinLaw", name := "src", desc := "(Ljava/lang/String;IC)C" } : Jvm.MethodName) method_5_code (3 : Nat) (Option.some Jvm.ClassFile.FieldType.char)).before args0 about1 = true := code_word (m := ⟨1, 4⟩) (meth := k1m4) (c := k1c4) (by decide +kernel) rfl rfl rfl (by decide +kernel)
set_option maxRecDepth 65536 in
theorem w_c6 : (Jvm.Cond.code ({ cls := "java/lang/String", name := "charAt", desc := "(I)C" } : Jvm.MethodName) jdk_42_method_56_code (2 : Nat) (Option.some Jvm.ClassFile.FieldType.char)).before args0 about1 = true := code_word (m := ⟨7, 3⟩) (meth := k7m3) (c := k7c3) (by decide +kernel) rfl rfl rfl (by decide +kernel)
set_option maxRecDepth 65536 in
theorem w_c7 : (Jvm.Cond.code ({ cls := "java/lang/String", name := "isLatin1", desc := "()Z" } : Jvm.MethodName) jdk_42_method_154_code (1 : Nat) (Option.some Jvm.ClassFile.FieldType.boolean)).before args0 about1 = true := code_word (m := ⟨7, 7⟩) (meth := k7m7) (c := k7c7) (by decide +kernel) rfl rfl rfl (by decide +kernel)
set_option maxRecDepth 65536 in
theorem w_c8 : (Jvm.Cond.code ({ cls := "java/lang/StringLatin1", name := "charAt", desc := "([BI)C" } : Jvm.MethodName) jdk_43_method_2_code (2 : Nat) (Option.some Jvm.ClassFile.FieldType.char)).before args0 about1 = true := code_word (m := ⟨8, 1⟩) (meth := k8m1) (c := k8c1) (by decide +kernel) rfl rfl rfl (by decide +kernel)
set_option maxRecDepth 65536 in
theorem w_c9 : (Jvm.Cond.code ({ cls := "java/lang/String", name := "checkIndex", desc := "(II)V" } : Jvm.MethodName) jdk_42_method_155_code (2 : Nat) (Option.none : Option Jvm.ClassFile.FieldType)).before args0 about1 = true := code_word (m := ⟨7, 8⟩) (meth := k7m8) (c := k7c8) (by decide +kernel) rfl rfl rfl (by decide +kernel)
set_option maxRecDepth 65536 in
theorem w_c10 : (Jvm.Cond.code ({ cls := "jdk/internal/util/Preconditions", name := "checkIndex", desc := "(IILjava/util/function/BiFunction;)I" } : Jvm.MethodName) jdk_41_method_11_code (3 : Nat) (Option.some Jvm.ClassFile.FieldType.int)).before args0 about1 = true := code_word (m := ⟨9, 1⟩) (meth := k9m1) (c := k9c1) (by decide +kernel) rfl rfl rfl (by decide +kernel)
set_option maxRecDepth 65536 in
theorem w_c11 : (Jvm.Cond.code ({ cls := "com/example/tollbook/tollbook/book/AdjustmentReasonOfPinLaw", name := "put", desc := "([CIC)V" } : Jvm.MethodName) method_6_code (3 : Nat) (Option.none : Option Jvm.ClassFile.FieldType)).before args0 about1 = true := code_word (m := ⟨1, 5⟩) (meth := k1m5) (c := k1c5) (by decide +kernel) rfl rfl rfl (by decide +kernel)
set_option maxRecDepth 65536 in
theorem w_c12 : (Jvm.Cond.code ({ cls := "java/lang/String", name := "<init>", desc := "([C)V" } : Jvm.MethodName) jdk_42_method_3_code (2 : Nat) (Option.none : Option Jvm.ClassFile.FieldType)).before args0 about1 = true := code_word (m := ⟨7, 1⟩) (meth := k7m1) (c := k7c1) (by decide +kernel) rfl rfl rfl (by decide +kernel)
set_option maxRecDepth 65536 in
theorem w_c13 : (Jvm.Cond.code ({ cls := "java/lang/String", name := "<init>", desc := "([CIILjava/lang/Void;)V" } : Jvm.MethodName) jdk_42_method_149_code (6 : Nat) (Option.none : Option Jvm.ClassFile.FieldType)).before args0 about1 = true := code_word (m := ⟨7, 5⟩) (meth := k7m5) (c := k7c5) (by decide +kernel) rfl rfl rfl (by decide +kernel)
set_option maxRecDepth 65536 in
theorem w_c14 : (Jvm.Cond.code ({ cls := "java/lang/Object", name := "<init>", desc := "()V" } : Jvm.MethodName) object_method_1_code (1 : Nat) (Option.none : Option Jvm.ClassFile.FieldType)).before args0 about1 = true := code_word (m := ⟨0, 0⟩) (meth := k0m0) (c := k0c0) (by decide +kernel) rfl rfl rfl (by decide +kernel)
set_option maxRecDepth 65536 in
theorem w_c15 : (Jvm.Cond.code ({ cls := "java/lang/StringUTF16", name := "compress", desc := "([CII)[B" } : Jvm.MethodName) jdk_52_method_16_code (6 : Nat) (Option.some (Jvm.ClassFile.FieldType.array Jvm.ClassFile.FieldType.byte))).before args0 about1 = true := code_word (m := ⟨10, 2⟩) (meth := k10m2) (c := k10c2) (by decide +kernel) rfl rfl rfl (by decide +kernel)
set_option maxRecDepth 65536 in
theorem w_c16 : (Jvm.Cond.code ({ cls := "java/lang/StringUTF16", name := "compress", desc := "([CI[BII)I" } : Jvm.MethodName) jdk_52_method_21_code (7 : Nat) (Option.some Jvm.ClassFile.FieldType.int)).before args0 about1 = true := code_word (m := ⟨10, 3⟩) (meth := k10m3) (c := k10c3) (by decide +kernel) rfl rfl rfl (by decide +kernel)
set_option maxRecDepth 65536 in
theorem w_c17 : (Jvm.Cond.code ({ cls := "java/lang/StringUTF16", name := "coderFromArrayLen", desc := "([BI)B" } : Jvm.MethodName) jdk_52_method_15_code (2 : Nat) (Option.some Jvm.ClassFile.FieldType.byte)).before args0 about1 = true := code_word (m := ⟨10, 1⟩) (meth := k10m1) (c := k10c1) (by decide +kernel) rfl rfl rfl (by decide +kernel)
set_option maxRecDepth 65536 in
theorem w_c18 : (Jvm.Cond.code ({ cls := "com/example/tollbook/tollbook/book/AdjustmentReason", name := "of", desc := "(Ljava/lang/String;)Lcom/example/tollbook/tollbook/book/AdjustmentReason;" } : Jvm.MethodName) prog_10_method_4_code (5 : Nat) (Option.some (Jvm.ClassFile.FieldType.object "com/example/tollbook/tollbook/book/AdjustmentReason"))).before args0 about1 = true := code_word (m := ⟨12, 1⟩) (meth := k12m1) (c := k12c1) (by decide +kernel) rfl rfl rfl (by decide +kernel)
set_option maxRecDepth 65536 in
theorem w_c19 : (Jvm.Cond.code ({ cls := "com/example/tollbook/tollbook/book/AdjustmentReason", name := "values", desc := "()[Lcom/example/tollbook/tollbook/book/AdjustmentReason;" } : Jvm.MethodName) prog_10_method_1_code (0 : Nat) (Option.some (Jvm.ClassFile.FieldType.array (Jvm.ClassFile.FieldType.object "com/example/tollbook/tollbook/book/AdjustmentReason")))).before args0 about1 = true := code_word (m := ⟨12, 0⟩) (meth := k12m0) (c := k12c0) (by decide +kernel) rfl rfl rfl (by decide +kernel)
set_option maxRecDepth 65536 in
theorem w_c20 : (Jvm.Cond.code ({ cls := "java/lang/String", name := "equals", desc := "(Ljava/lang/Object;)Z" } : Jvm.MethodName) jdk_42_method_66_code (3 : Nat) (Option.some Jvm.ClassFile.FieldType.boolean)).before args0 about1 = true := code_word (m := ⟨7, 4⟩) (meth := k7m4) (c := k7c4) (by decide +kernel) rfl rfl rfl (by decide +kernel)
set_option maxRecDepth 65536 in
theorem w_c21 : (Jvm.Cond.code ({ cls := "java/lang/StringLatin1", name := "equals", desc := "([B[B)Z" } : Jvm.MethodName) jdk_43_method_13_code (3 : Nat) (Option.some Jvm.ClassFile.FieldType.boolean)).before args0 about1 = true := code_word (m := ⟨8, 2⟩) (meth := k8m2) (c := k8c2) (by decide +kernel) rfl rfl rfl (by decide +kernel)
set_option maxRecDepth 65536 in
theorem w_c22 : (Jvm.Cond.code ({ cls := "com/example/tollbook/tollbook/book/AdjustmentReasonOfPinLaw", name := "expected", desc := "(Ljava/lang/String;)Lcom/example/tollbook/tollbook/book/AdjustmentReason;" } : Jvm.MethodName) method_4_code (1 : Nat) (Option.some (Jvm.ClassFile.FieldType.object "com/example/tollbook/tollbook/book/AdjustmentReason"))).before args0 about1 = true := code_word (m := ⟨1, 3⟩) (meth := k1m3) (c := k1c3) (by decide +kernel) rfl rfl rfl (by decide +kernel)
def codes1 : List Jvm.Cond := [Jvm.Cond.code x code maxLocals ret, Jvm.Cond.code ({ cls := "com/example/tollbook/tollbook/book/AdjustmentReasonOfPinLaw", name := "name", desc := "(I)Ljava/lang/String;" } : Jvm.MethodName) method_3_code (1 : Nat) (Option.some (Jvm.ClassFile.FieldType.object "java/lang/String")), Jvm.Cond.code ({ cls := "java/lang/String", name := "length", desc := "()I" } : Jvm.MethodName) jdk_42_method_54_code (1 : Nat) (Option.some Jvm.ClassFile.FieldType.int), Jvm.Cond.code ({ cls := "java/lang/String", name := "coder", desc := "()B" } : Jvm.MethodName) jdk_42_method_152_code (1 : Nat) (Option.some Jvm.ClassFile.FieldType.byte), Jvm.Cond.code ({ cls := "com/example/tollbook/tollbook/book/AdjustmentReasonOfPinLaw", name := "blank", desc := "(I)[C" } : Jvm.MethodName) method_7_code (1 : Nat) (Option.some (Jvm.ClassFile.FieldType.array Jvm.ClassFile.FieldType.char)), Jvm.Cond.code ({ cls := "com/example/tollbook/tollbook/book/AdjustmentReasonOfPinLaw", name := "src", desc := "(Ljava/lang/String;IC)C" } : Jvm.MethodName) method_5_code (3 : Nat) (Option.some Jvm.ClassFile.FieldType.char), Jvm.Cond.code ({ cls := "java/lang/String", name := "charAt", desc := "(I)C" } : Jvm.MethodName) jdk_42_method_56_code (2 : Nat) (Option.some Jvm.ClassFile.FieldType.char), Jvm.Cond.code ({ cls := "java/lang/String", name := "isLatin1", desc := "()Z" } : Jvm.MethodName) jdk_42_method_154_code (1 : Nat) (Option.some Jvm.ClassFile.FieldType.boolean), Jvm.Cond.code ({ cls := "java/lang/StringLatin1", name := "charAt", desc := "([BI)C" } : Jvm.MethodName) jdk_43_method_2_code (2 : Nat) (Option.some Jvm.ClassFile.FieldType.char), Jvm.Cond.code ({ cls := "java/lang/String", name := "checkIndex", desc := "(II)V" } : Jvm.MethodName) jdk_42_method_155_code (2 : Nat) (Option.none : Option Jvm.ClassFile.FieldType), Jvm.Cond.code ({ cls := "jdk/internal/util/Preconditions", name := "checkIndex", desc := "(IILjava/util/function/BiFunction;)I" } : Jvm.MethodName) jdk_41_method_11_code (3 : Nat) (Option.some Jvm.ClassFile.FieldType.int), Jvm.Cond.code ({ cls := "com/example/tollbook/tollbook/book/AdjustmentReasonOfPinLaw", name := "put", desc := "([CIC)V" } : Jvm.MethodName) method_6_code (3 : Nat) (Option.none : Option Jvm.ClassFile.FieldType), Jvm.Cond.code ({ cls := "java/lang/String", name := "<init>", desc := "([C)V" } : Jvm.MethodName) jdk_42_method_3_code (2 : Nat) (Option.none : Option Jvm.ClassFile.FieldType), Jvm.Cond.code ({ cls := "java/lang/String", name := "<init>", desc := "([CIILjava/lang/Void;)V" } : Jvm.MethodName) jdk_42_method_149_code (6 : Nat) (Option.none : Option Jvm.ClassFile.FieldType), Jvm.Cond.code ({ cls := "java/lang/Object", name := "<init>", desc := "()V" } : Jvm.MethodName) object_method_1_code (1 : Nat) (Option.none : Option Jvm.ClassFile.FieldType), Jvm.Cond.code ({ cls := "java/lang/StringUTF16", name := "compress", desc := "([CII)[B" } : Jvm.MethodName) jdk_52_method_16_code (6 : Nat) (Option.some (Jvm.ClassFile.FieldType.array Jvm.ClassFile.FieldType.byte)), Jvm.Cond.code ({ cls := "java/lang/StringUTF16", name := "compress", desc := "([CI[BII)I" } : Jvm.MethodName) jdk_52_method_21_code (7 : Nat) (Option.some Jvm.ClassFile.FieldType.int), Jvm.Cond.code ({ cls := "java/lang/StringUTF16", name := "coderFromArrayLen", desc := "([BI)B" } : Jvm.MethodName) jdk_52_method_15_code (2 : Nat) (Option.some Jvm.ClassFile.FieldType.byte), Jvm.Cond.code ({ cls := "com/example/tollbook/tollbook/book/AdjustmentReason", name := "of", desc := "(Ljava/lang/String;)Lcom/example/tollbook/tollbook/book/AdjustmentReason;" } : Jvm.MethodName) prog_10_method_4_code (5 : Nat) (Option.some (Jvm.ClassFile.FieldType.object "com/example/tollbook/tollbook/book/AdjustmentReason")), Jvm.Cond.code ({ cls := "com/example/tollbook/tollbook/book/AdjustmentReason", name := "values", desc := "()[Lcom/example/tollbook/tollbook/book/AdjustmentReason;" } : Jvm.MethodName) prog_10_method_1_code (0 : Nat) (Option.some (Jvm.ClassFile.FieldType.array (Jvm.ClassFile.FieldType.object "com/example/tollbook/tollbook/book/AdjustmentReason"))), Jvm.Cond.code ({ cls := "java/lang/String", name := "equals", desc := "(Ljava/lang/Object;)Z" } : Jvm.MethodName) jdk_42_method_66_code (3 : Nat) (Option.some Jvm.ClassFile.FieldType.boolean), Jvm.Cond.code ({ cls := "java/lang/StringLatin1", name := "equals", desc := "([B[B)Z" } : Jvm.MethodName) jdk_43_method_13_code (3 : Nat) (Option.some Jvm.ClassFile.FieldType.boolean), Jvm.Cond.code ({ cls := "com/example/tollbook/tollbook/book/AdjustmentReasonOfPinLaw", name := "expected", desc := "(Ljava/lang/String;)Lcom/example/tollbook/tollbook/book/AdjustmentReason;" } : Jvm.MethodName) method_4_code (1 : Nat) (Option.some (Jvm.ClassFile.FieldType.object "com/example/tollbook/tollbook/book/AdjustmentReason"))]
set_option maxRecDepth 65536 in
theorem codes_eq : words1.filter isCode = codes1 := rfl
theorem w_codes : ∀ c ∈ words1.filter isCode, c.before args0 about1 = true := by
  rw [codes_eq]
  intro c hc
  simp only [codes1, List.mem_cons, List.not_mem_nil, or_false] at hc
  rcases hc with rfl | rfl | rfl | rfl | rfl | rfl | rfl | rfl | rfl | rfl | rfl | rfl | rfl | rfl | rfl | rfl | rfl | rfl | rfl | rfl | rfl | rfl | rfl
  · exact w_c0
  · exact w_c1
  · exact w_c2
  · exact w_c3
  · exact w_c4
  · exact w_c5
  · exact w_c6
  · exact w_c7
  · exact w_c8
  · exact w_c9
  · exact w_c10
  · exact w_c11
  · exact w_c12
  · exact w_c13
  · exact w_c14
  · exact w_c15
  · exact w_c16
  · exact w_c17
  · exact w_c18
  · exact w_c19
  · exact w_c20
  · exact w_c21
  · exact w_c22
set_option maxRecDepth 65536 in
theorem w_t1 : (words1.take 24).all (fun c => isCode c || c.before args0 about1) = true := by decide +kernel
set_option maxRecDepth 65536 in
theorem w_t2 : ((words1.drop 24).take 24).all (fun c => isCode c || c.before args0 about1) = true := by decide +kernel
set_option maxRecDepth 65536 in
theorem w_t3 : (((words1.drop 24).drop 24).take 24).all (fun c => isCode c || c.before args0 about1) = true := by decide +kernel
set_option maxRecDepth 65536 in
theorem w_t4 : ((((words1.drop 24).drop 24).drop 24).take 24).all (fun c => isCode c || c.before args0 about1) = true := by decide +kernel
set_option maxRecDepth 65536 in
theorem w_t5 : (((((words1.drop 24).drop 24).drop 24).drop 24).take 24).all (fun c => isCode c || c.before args0 about1) = true := by decide +kernel
set_option maxRecDepth 65536 in
theorem w_t6 : (((((words1.drop 24).drop 24).drop 24).drop 24).drop 24).all (fun c => isCode c || c.before args0 about1) = true := by decide +kernel
theorem w_tables : (allAtoms (Jvm.Cond.code x code maxLocals ret :: tables_1)).before args0 about1 = true := by
  rw [allAtoms_all]
  show words1.all (fun c => c.before args0 about1) = true
  refine all_split ?_ w_codes
  rw [← List.take_append_drop 24 words1, List.all_append, w_t1, ← List.take_append_drop 24 (words1.drop 24), List.all_append, w_t2, ← List.take_append_drop 24 ((words1.drop 24).drop 24), List.all_append, w_t3, ← List.take_append_drop 24 (((words1.drop 24).drop 24).drop 24), List.all_append, w_t4, ← List.take_append_drop 24 ((((words1.drop 24).drop 24).drop 24).drop 24), List.all_append, w_t5, w_t6]
  rfl
set_option maxRecDepth 65536 in
theorem w_rest : rest_1_c.before args0 about1 = true := by decide +kernel
set_option maxRecDepth 65536 in
theorem w_case : (Jvm.Cond.and given_1 narrow_1).before args0 about1 = true := by decide +kernel
set_option maxRecDepth 65536 in
theorem w_consts : constsHeld consts_1 about1 := Jvm.Lit.constsHeldB_iff.mp (by decide +kernel)
theorem w_applies : (headSpec (Jvm.Cond.code x code maxLocals ret :: tables_1) room_1).applies x e0.platform about1 = true :=
  (Spec.applies_iff w_frames).mpr ⟨w_running, w_runnable, w_alone, w_named, w_hears, w_ripe, w_room, w_tables⟩
theorem atStart : AtStart classFile x code maxLocals ret World_1 tables_1 room_1 Calls_1 rest_1 Pre_1 launch0 p0 e0 about1 theMethod args0 below0 :=
  ⟨lists_1, trivial, launch0.admits_env _ _ _, launch0.least_env, fairChoices_fair.cas, fairChoices_fair.clock, w_frames, w_args, w_heap, w_applies, ⟨w_consts, trivial⟩, w_rest, w_case⟩
end start1
theorem witness_1 : WitnessClaimed_1 := ⟨start1.p0, start1.e0, start1.about1, start1.theMethod, start1.args0, start1.below0, start1.atStart⟩
end Jvm.Pilot.@@N@@
