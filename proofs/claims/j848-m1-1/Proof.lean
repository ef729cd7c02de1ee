import JvmDerived
import JvmDerived.Pilot.@@N@@Statement
import JvmDerived.Pilot.@@N@@Code
set_option linter.unusedVariables false
set_option linter.unusedSimpArgs false
/- laws to paste: Road.backV, StrChars.lo8_inj, StrChars.pair_says, StrChars.shr0, StrChars.hi8, StrChars.lo8, StrChars.pairCh (cut by pick.py; bodies as the Statement names them) -/
namespace Jvm.Pilot.@@N@@
namespace StrChars
open Jvm Sem ClassFile Op Lib Jvm.Stand Jvm.Free.XT Jvm.Free.ALB Jvm.Free.JM Jvm.Free
open Jvm.Lib.Cold (StaticIs)
/-- a char array whose places are chars -/
def Ch (a : Addr) (A : Cell) (U : State) : Prop := Arr .char a A U ∧ Typed .char A
theorem Ch.mv {a : Addr} {A : Cell} {U U' : State} (h : Ch a A U) (hal : U.vm.Alike U'.vm) (hh : U'.heap = U.heap) : Ch a A U' := ⟨h.1.mv hal hh, h.2⟩
theorem Ch.keep {a : Addr} {A : Cell} {U U' : State} (h : Ch a A U) (hal : U.vm.Alike U'.vm) (hk : U'.heap[a]? = some A) : Ch a A U' := ⟨h.1.keep hal hk, h.2⟩
/-- what place i of a char[]'s cell holds -/
def cv (A : Cell) (i : Nat) : Int32 := match A.slots[i]? with | some (.int x) => x | _ => 0
theorem Ch.get {a : Addr} {A : Cell} {U : State} (h : Ch a A U) {i : Nat} (hi : i < A.slots.size) : A.slots[i]? = some (.int (cv A i)) := by
  have e := Array.getElem?_eq_getElem hi
  have f := h.2 i _ e
  unfold cv; rw [e]
  generalize A.slots[i] = v at f
  cases v <;> simp [fits] at f ⊢
/-- the byte that i2b leaves of a char -/
def lo8 (x : Int32) : Int32 := x.toInt8.toInt32
theorem fits_lo8 (y : Int32) : fits .byte (.int (lo8 y)) = true := by
  have h1 := y.toInt8.le_toInt
  have h2 := y.toInt8.toInt_lt
  simp only [lo8, fits, Bool.and_eq_true, decide_eq_true_eq, Int32.le_iff_toInt_le, Int8.toInt_toInt32, show (-128 : Int32).toInt = -128 from by decide, show (127 : Int32).toInt = 127 from by decide]
  omega
/-- A' is A but that each place j of lo .. hi - 1 holds f j -/
def Laid (A A' : Cell) (lo hi : Nat) (f : Nat → Value) : Prop := A'.cls = A.cls ∧ A'.vm = A.vm ∧ A'.slots.size = A.slots.size ∧ ∀ i, A'.slots[i]? = if lo ≤ i ∧ i < hi then some (f i) else A.slots[i]?
theorem Laid.zero (A : Cell) (lo : Nat) (f : Nat → Value) : Laid A A lo (lo + 0) f := ⟨rfl, rfl, rfl, fun i => by rw [if_neg (by omega)]⟩
theorem Laid.step {A Ak : Cell} {lo k : Nat} {f : Nat → Value} {v : Value} (h : Laid A Ak lo k f) (hlo : lo ≤ k) (hk : k < Ak.slots.size) (hv : v = f k) : Laid A (Ak.setSlot k v) lo (k + 1) f := by
  refine ⟨h.1, h.2.1, by simpa [Cell.setSlot] using h.2.2.1, fun i => ?_⟩
  by_cases e : k = i
  · subst e; rw [Cell.slots_setSlot_self v hk, if_pos (by omega), hv]
  · rw [Cell.slots_setSlot_ne v e, h.2.2.2 i]
    by_cases q : lo ≤ i ∧ i < k
    · rw [if_pos q, if_pos (by omega)]
    · rw [if_neg q, if_neg (by omega)]
def U16 : String := "java/lang/StringUTF16"
namespace Cmp5
def yN : MethodName := ⟨"java/lang/StringUTF16", "compress", "([CI[BII)I"⟩
abbrev yB : ByteArray := jdk_52_method_21_code
theorem d0 : decode yB 0 = .ok (.iconst 0, 1) := by decide +kernel
theorem d1 : decode yB 1 = .ok (.istore 5, 2) := by decide +kernel
theorem d3 : decode yB 3 = .ok (.iload 5, 2) := by decide +kernel
theorem d5 : decode yB 5 = .ok (.iload 4, 2) := by decide +kernel
theorem d7 : decode yB 7 = .ok (.if_icmp (.ge) 37, 3) := by decide +kernel
theorem d10 : decode yB 10 = .ok (.aload_n 0, 1) := by decide +kernel
theorem d11 : decode yB 11 = .ok (.iload_n 1, 1) := by decide +kernel
theorem d12 : decode yB 12 = .ok (.caload, 1) := by decide +kernel
theorem d13 : decode yB 13 = .ok (.istore 6, 2) := by decide +kernel
theorem d15 : decode yB 15 = .ok (.iload 6, 2) := by decide +kernel
theorem d17 : decode yB 17 = .ok (.sipush 255, 3) := by decide +kernel
theorem d20 : decode yB 20 = .ok (.if_icmp (.le) 6, 3) := by decide +kernel
theorem d26 : decode yB 26 = .ok (.aload_n 2, 1) := by decide +kernel
theorem d27 : decode yB 27 = .ok (.iload_n 3, 1) := by decide +kernel
theorem d28 : decode yB 28 = .ok (.iload 6, 2) := by decide +kernel
theorem d30 : decode yB 30 = .ok (.i2b, 1) := by decide +kernel
theorem d31 : decode yB 31 = .ok (.bastore, 1) := by decide +kernel
theorem d32 : decode yB 32 = .ok (.iinc 1 1, 3) := by decide +kernel
theorem d35 : decode yB 35 = .ok (.iinc 3 1, 3) := by decide +kernel
theorem d38 : decode yB 38 = .ok (.iinc 5 1, 3) := by decide +kernel
theorem d41 : decode yB 41 = .ok (.goto (-38), 3) := by decide +kernel
theorem d44 : decode yB 44 = .ok (.iload 4, 2) := by decide +kernel
theorem d46 : decode yB 46 = .ok (.ireturn, 1) := by decide +kernel
def site : List Cond := []
def tab : Cond := tabOf yN yB 7 (some .int) site
def P (b : Addr) (A : Cell) (d : Addr) (B : Cell) (o q len : Nat) (args : Array Value) (s : State) : Prop := args = #[.ref b, .int (Int32.ofNat o), .ref d, .int (Int32.ofNat q), .int (Int32.ofNat len)] ∧ Ch b A s ∧ Arr .byte d B s ∧ b ≠ d ∧ o + len ≤ A.slots.size ∧ q + len ≤ B.slots.size ∧ ∀ i, i < len → ¬ 255 < cv A (o + i)
def E (b : Addr) (A : Cell) (d : Addr) (B : Cell) (o q len : Nat) (r : Option Value) (s u : State) : Prop := r = some (.int (Int32.ofNat len)) ∧ ∃ B', Put d B' s u ∧ Laid B B' q (q + len) (fun j => Value.int (lo8 (cv A (o + (j - q)))))
/-- no char of the range above 255: len; the places written hold each char's low byte -/
theorem law (l : Launch) (b : Addr) (A : Cell) (d : Addr) (B : Cell) (o q len : Nat) : Law l yN 5 5 0 0 yB 7 (some .int) site (P b A d B o q len) (E b A d B o q len) (copyLocs d q len) 0 0 := by
  refine Law.of_walk (plainFor_of_name (by decide +kernel)) (by decide +kernel) (by decide +kernel) (by decide) (fun _ _ h => by rw [h.1]; rfl) (fun _ U U' hal hh h => ⟨h.1, h.2.1.mv hal hh, h.2.2.1.mv hal hh, h.2.2.2⟩) (fun r U U' V V' h1 hal h2 h => ⟨h.1, h.2.elim fun B' q => ⟨B', q.1.mv h1 h2, q.2⟩⟩) ?_
  intro p e s m args below meth c s₁ X0 hexec hbytes hml hret hlk hnm hown hh0 W hP
  obtain ⟨rfl, hA, hB, hne, l1, l2, hp⟩ := hP
  have c1 : Steps p.tables e below (s₁.setTop (entryFrame m #[.ref b, .int (Int32.ofNat o), .ref d, .int (Int32.ofNat q), .int (Int32.ofNat len)] 7)) (s₁.setTop (mkF m 0 #[.val (.ref b), .val (.int (Int32.ofNat o)), .val (.ref d), .val (.int (Int32.ofNat q)), .val (.int (Int32.ofNat len)), .unset, .unset] [])) := entry rfl
  have hA0 := hA.1.mv X0.warmed.alike hh0
  have hB0 := hB.mv X0.warmed.alike hh0
  have a31 := hA.1.2.2.2
  have c2 : Steps p.tables e below (s₁.setTop (entryFrame m #[.ref b, .int (Int32.ofNat o), .ref d, .int (Int32.ofNat q), .int (Int32.ofNat len)] 7)) (s₁.setTop (mkF m 3 #[.val (.ref b), .val (.int (Int32.ofNat o)), .val (.ref d), .val (.int (Int32.ofNat q)), .val (.int (Int32.ofNat len)), .val (.int 0), .unset] [])) := c1.trans (by
    refine iconstV X0.here hexec rfl 0 (hb hbytes d0) (by decide) ?_
    refine XS.istore X0.here hexec rfl (hb hbytes d1) rfl rfl ?_
    exact Steps.refl _)
  have loop : ∀ (r i : Nat), i + r = len → ∀ (z : Slot), (z = .unset ∨ ∃ w, z = .val w ∧ w.category = 1) → ∀ (Tl : State) (Bk : Cell), Stand p l e { frames := 0, locals := 0, cells := 0, slots := 0 } s m #[.ref b, .int (Int32.ofNat o), .ref d, .int (Int32.ofNat q), .int (Int32.ofNat len)] below meth c Tl ([] ++ copyLocs d q i) 0 0 → Put d Bk s₁ Tl → Laid B Bk q (q + i) (fun j => Value.int (lo8 (cv A (o + (j - q))))) →
      Steps p.tables e below (s₁.setTop (entryFrame m #[.ref b, .int (Int32.ofNat o), .ref d, .int (Int32.ofNat q), .int (Int32.ofNat len)] 7)) (Tl.setTop (mkF m 3 #[.val (.ref b), .val (.int (Int32.ofNat (o + i))), .val (.ref d), .val (.int (Int32.ofNat (q + i))), .val (.int (Int32.ofNat len)), .val (.int (Int32.ofNat i)), z] [])) → ∃ (T' : State) (B' : Cell) (z' : Slot), Stand p l e { frames := 0, locals := 0, cells := 0, slots := 0 } s m #[.ref b, .int (Int32.ofNat o), .ref d, .int (Int32.ofNat q), .int (Int32.ofNat len)] below meth c T' ([] ++ copyLocs d q len) 0 0 ∧ Put d B' s₁ T' ∧ Laid B B' q (q + len) (fun j => Value.int (lo8 (cv A (o + (j - q))))) ∧
      Steps p.tables e below (s₁.setTop (entryFrame m #[.ref b, .int (Int32.ofNat o), .ref d, .int (Int32.ofNat q), .int (Int32.ofNat len)] 7)) (T'.setTop (mkF m 3 #[.val (.ref b), .val (.int (Int32.ofNat (o + len))), .val (.ref d), .val (.int (Int32.ofNat (q + len))), .val (.int (Int32.ofNat len)), .val (.int (Int32.ofNat len)), z'] [])) := by
    intro r
    induction r with
    | zero =>
      intro i hi z hz Tl Bk Xl pl fl cl
      have hil : i = len := by omega
      rw [hil] at Xl fl cl
      exact ⟨Tl, Bk, z, Xl, pl, fl, cl⟩
    | succ r ih =>
      intro i hi z hz Tl Bk Xl pl fl cl
      have all := X0.warmed.alike.symm.trans Xl.warmed.alike
      have hAl := hA0.keep all (pl.other hne hA0.1)
      have hBk := hB0.like all pl.1 fl.1 fl.2.1 fl.2.2.1
      have hlt : q + i < Bk.slots.size := by rw [fl.2.2.1]; omega
      have c3 : Steps p.tables e below (s₁.setTop (entryFrame m #[.ref b, .int (Int32.ofNat o), .ref d, .int (Int32.ofNat q), .int (Int32.ofNat len)] 7)) (Tl.setTop (mkF m 12 #[.val (.ref b), .val (.int (Int32.ofNat (o + i))), .val (.ref d), .val (.int (Int32.ofNat (q + i))), .val (.int (Int32.ofNat len)), .val (.int (Int32.ofNat i)), z] [.int (Int32.ofNat (o + i)), .ref b])) := cl.trans (by
        refine XS.iload Xl.here hexec rfl (hb hbytes d3) rfl ?_
        refine XS.iload Xl.here hexec rfl (hb hbytes d5) rfl ?_
        refine XS.icmpNo Xl.here hexec rfl (hb hbytes d7) rfl (ii_ge_f (lt32 (by omega) (by omega))) ?_
        refine XS.aloadN Xl.here hexec rfl (hb hbytes d10) rfl rfl ?_
        refine XS.iloadN Xl.here hexec rfl (hb hbytes d11) rfl ?_
        exact Steps.refl _)
      have c4 : Steps p.tables e below (s₁.setTop (entryFrame m #[.ref b, .int (Int32.ofNat o), .ref d, .int (Int32.ofNat q), .int (Int32.ofNat len)] 7)) (Tl.setTop (mkF m 13 #[.val (.ref b), .val (.int (Int32.ofNat (o + i))), .val (.ref d), .val (.int (Int32.ofNat (q + i))), .val (.int (Int32.ofNat len)), .val (.int (Int32.ofNat i)), z] [.int (cv A (o + i))])) := c3.trans (by
        refine Xl.aget hexec hAl rfl (hA.get (i := o + i) (by omega)) rfl rfl (hb hbytes d12) ?_
        exact Steps.refl _)
      have c5 : Steps p.tables e below (s₁.setTop (entryFrame m #[.ref b, .int (Int32.ofNat o), .ref d, .int (Int32.ofNat q), .int (Int32.ofNat len)] 7)) (Tl.setTop (mkF m 15 #[.val (.ref b), .val (.int (Int32.ofNat (o + i))), .val (.ref d), .val (.int (Int32.ofNat (q + i))), .val (.int (Int32.ofNat len)), .val (.int (Int32.ofNat i)), .val (.int (cv A (o + i)))] [])) := c4.trans (by
        refine XS.istoreS Xl.here hexec rfl (hb hbytes d13) rfl rfl hz ?_
        exact Steps.refl _)
      have c6 : Steps p.tables e below (s₁.setTop (entryFrame m #[.ref b, .int (Int32.ofNat o), .ref d, .int (Int32.ofNat q), .int (Int32.ofNat len)] 7)) (Tl.setTop (mkF m 31 #[.val (.ref b), .val (.int (Int32.ofNat (o + i))), .val (.ref d), .val (.int (Int32.ofNat (q + i))), .val (.int (Int32.ofNat len)), .val (.int (Int32.ofNat i)), .val (.int (cv A (o + i)))] [.int (lo8 (cv A (o + i))), .int (Int32.ofNat (q + i)), .ref d])) := c5.trans (by
        refine XS.iload Xl.here hexec rfl (hb hbytes d15) rfl ?_
        refine sipushV Xl.here hexec rfl 255 (hb hbytes d17) (by decide) ?_
        refine XS.icmpYes Xl.here hexec rfl (pc0 := 20) rfl (hb hbytes d20) rfl (ii_le_t (hp i (by omega))) (by decide) rfl ?_
        refine XS.aloadN Xl.here hexec rfl (hb hbytes d26) rfl rfl ?_
        refine XS.iloadN Xl.here hexec rfl (hb hbytes d27) rfl ?_
        refine XS.iload Xl.here hexec rfl (hb hbytes d28) rfl ?_
        refine i2b Xl.here hexec rfl (hb hbytes d30) rfl ?_
        exact Steps.refl _)
      obtain ⟨T7, X7, p7, st7⟩ := Xl.aput hexec hBk rfl hlt rfl (fits_lo8 (cv A (o + i))) (g := (mkF m 31 #[.val (.ref b), .val (.int (Int32.ofNat (o + i))), .val (.ref d), .val (.int (Int32.ofNat (q + i))), .val (.int (Int32.ofNat len)), .val (.int (Int32.ofNat i)), .val (.int (cv A (o + i)))] [.int (lo8 (cv A (o + i))), .int (Int32.ofNat (q + i)), .ref d])) rfl (rest := []) rfl (hb hbytes d31)
      have c8 : Steps p.tables e below (s₁.setTop (entryFrame m #[.ref b, .int (Int32.ofNat o), .ref d, .int (Int32.ofNat q), .int (Int32.ofNat len)] 7)) (T7.setTop (mkF m 32 #[.val (.ref b), .val (.int (Int32.ofNat (o + i))), .val (.ref d), .val (.int (Int32.ofNat (q + i))), .val (.int (Int32.ofNat len)), .val (.int (Int32.ofNat i)), .val (.int (cv A (o + i)))] [])) := c6.trans (st7 _ (Steps.refl _))
      have c9 : Steps p.tables e below (s₁.setTop (entryFrame m #[.ref b, .int (Int32.ofNat o), .ref d, .int (Int32.ofNat q), .int (Int32.ofNat len)] 7)) (T7.setTop (mkF m 3 #[.val (.ref b), .val (.int (Int32.ofNat (o + i) + 1)), .val (.ref d), .val (.int (Int32.ofNat (q + i) + 1)), .val (.int (Int32.ofNat len)), .val (.int (Int32.ofNat i + 1)), .val (.int (cv A (o + i)))] [])) := c8.trans (by
        refine iincV X7.here hexec rfl 1 (hb hbytes d32) (by decide) rfl rfl ?_
        refine iincV X7.here hexec rfl 1 (hb hbytes d35) (by decide) rfl rfl ?_
        refine iincV X7.here hexec rfl 1 (hb hbytes d38) (by decide) rfl rfl ?_
        refine XS.goto X7.here hexec rfl (pc0 := 41) rfl (hb hbytes d41) (by decide) rfl ?_
        exact Steps.refl _)
      have c10 : Steps p.tables e below (s₁.setTop (entryFrame m #[.ref b, .int (Int32.ofNat o), .ref d, .int (Int32.ofNat q), .int (Int32.ofNat len)] 7)) (T7.setTop (mkF m 3 #[.val (.ref b), .val (.int (Int32.ofNat (o + (i + 1)))), .val (.ref d), .val (.int (Int32.ofNat (q + (i + 1)))), .val (.int (Int32.ofNat len)), .val (.int (Int32.ofNat (i + 1))), .val (.int (cv A (o + i)))] [])) := by
        have := c9
        rw [succ32, succ32, succ32] at this
        exact this
      exact ih (i + 1) (by omega) _ (Or.inr ⟨_, rfl, rfl⟩) T7 _ (by rw [copyLocs_step, ← List.append_assoc]; exact X7) (pl.trans p7) (fl.step (by omega) hlt (by simp)) c10
  obtain ⟨T9, B9, z9, X9, p9, f9, g9⟩ := loop len 0 (by omega) .unset (Or.inl rfl) s₁ B (by simpa [copyLocs] using X0) ⟨hB0.1, fun _ _ => rfl, rfl⟩ (Laid.zero _ _ _) c2
  have c11 : Steps p.tables e below (s₁.setTop (entryFrame m #[.ref b, .int (Int32.ofNat o), .ref d, .int (Int32.ofNat q), .int (Int32.ofNat len)] 7)) (T9.setTop (mkF m 46 #[.val (.ref b), .val (.int (Int32.ofNat (o + len))), .val (.ref d), .val (.int (Int32.ofNat (q + len))), .val (.int (Int32.ofNat len)), .val (.int (Int32.ofNat len)), z9] [.int (Int32.ofNat len)])) := g9.trans (by
    refine XS.iload X9.here hexec rfl (hb hbytes d3) rfl ?_
    refine XS.iload X9.here hexec rfl (hb hbytes d5) rfl ?_
    refine XS.icmpYes X9.here hexec rfl (pc0 := 7) rfl (hb hbytes d7) rfl (ii_ge_t (nlt32 (by omega) (Nat.le_refl _))) (by decide) rfl ?_
    refine XS.iload X9.here hexec rfl (hb hbytes d44) rfl ?_
    exact Steps.refl _)
  exact ⟨T9, some (.int (Int32.ofNat len)), _, _, _, X9, by simp, rfl, rfl, (fun h => by cases h), ⟨rfl, B9, p9.from hh0, f9⟩, fun fs hl => c11.trans (X9.ireturnOut hexec hret rfl (Or.inl rfl) (hb hbytes d46) hl)⟩
end Cmp5
namespace Cmp3
def yN : MethodName := ⟨"java/lang/StringUTF16", "compress", "([CII)[B"⟩
abbrev yB : ByteArray := jdk_52_method_16_code
theorem d0 : decode yB 0 = .ok (.iload_n 2, 1) := by decide +kernel
theorem d1 : decode yB 1 = .ok (.newarray .byte, 2) := by decide +kernel
theorem d3 : decode yB 3 = .ok (.astore_n 3, 1) := by decide +kernel
theorem d4 : decode yB 4 = .ok (.aload_n 0, 1) := by decide +kernel
theorem d5 : decode yB 5 = .ok (.iload_n 1, 1) := by decide +kernel
theorem d6 : decode yB 6 = .ok (.aload_n 3, 1) := by decide +kernel
theorem d7 : decode yB 7 = .ok (.iconst 0, 1) := by decide +kernel
theorem d8 : decode yB 8 = .ok (.iload_n 2, 1) := by decide +kernel
theorem d9 : decode yB 9 = .ok (.invokestatic 115, 3) := by decide +kernel
theorem d12 : decode yB 12 = .ok (.istore 4, 2) := by decide +kernel
theorem d14 : decode yB 14 = .ok (.iload 4, 2) := by decide +kernel
theorem d16 : decode yB 16 = .ok (.iload_n 2, 1) := by decide +kernel
theorem d17 : decode yB 17 = .ok (.if_icmp (.eq) 40, 3) := by decide +kernel
theorem d57 : decode yB 57 = .ok (.aload_n 3, 1) := by decide +kernel
theorem d58 : decode yB 58 = .ok (.areturn, 1) := by decide +kernel
def site : List Cond := [.arrayClass .byte, Cmp5.tab] ++ staticW U16 115 Cmp5.yN
def tab : Cond := tabOf yN yB 6 (some (.array .byte)) site
def P (b : Addr) (A : Cell) (o len : Nat) (args : Array Value) (s : State) : Prop := args = #[.ref b, .int (Int32.ofNat o), .int (Int32.ofNat len)] ∧ Ch b A s ∧ o + len ≤ A.slots.size ∧ len ≤ 536870912 ∧ ∀ i, i < len → ¬ 255 < cv A (o + i)
def E (b : Addr) (A : Cell) (o len : Nat) (r : Option Value) (s u : State) : Prop := NewArr .byte "[B" len (fun j => .int (lo8 (cv A (o + j)))) r s u ∧ u.heap.size = s.heap.size + 1
/-- no char of the range above 255: a new byte[] of their low bytes -/
theorem law (l : Launch) (b : Addr) (A : Cell) (o len : Nat) : Law l yN 3 3 1 18 yB 6 (some (.array .byte)) site (P b A o len) (E b A o len) [] 1 len := by
  refine Law.of_walk (plainFor_of_name (by decide +kernel)) (by decide +kernel) (by decide +kernel) (by decide) (fun _ _ h => by rw [h.1]; rfl) (fun _ U U' hal hh h => ⟨h.1, h.2.1.mv hal hh, h.2.2⟩) (fun r U U' V V' h1 hal h2 h => ⟨NewArr.mv r U U' V V' h1 hal h2 h.1, by rw [h1, h2]; exact h.2⟩) ?_
  intro p e s m args below meth c s₁ X0 hexec hbytes hml hret hlk hnm hown hh0 W hP
  obtain ⟨rfl, hA, l1, l2, hp⟩ := hP
  have a31 := hA.1.2.2.2
  have c1 : Steps p.tables e below (s₁.setTop (entryFrame m #[.ref b, .int (Int32.ofNat o), .int (Int32.ofNat len)] 6)) (s₁.setTop (mkF m 0 #[.val (.ref b), .val (.int (Int32.ofNat o)), .val (.int (Int32.ofNat len)), .unset, .unset, .unset] [])) := entry rfl
  have c2 : Steps p.tables e below (s₁.setTop (entryFrame m #[.ref b, .int (Int32.ofNat o), .int (Int32.ofNat len)] 6)) (s₁.setTop (mkF m 1 #[.val (.ref b), .val (.int (Int32.ofNat o)), .val (.int (Int32.ofNat len)), .unset, .unset, .unset] [.int (Int32.ofNat len)])) := c1.trans (by
    refine XS.iloadN X0.here hexec rfl (hb hbytes d0) rfl ?_
    exact Steps.refl _)
  obtain ⟨T3, B3, X3, ba3, bs3, bv3, bh3, bf3, st3⟩ := X0.anew hexec (atype := .byte) (wk W (.arrayClass .byte)) rfl (by show len * 1 ≤ _; omega) (by omega) (g := (mkF m 1 #[.val (.ref b), .val (.int (Int32.ofNat o)), .val (.int (Int32.ofNat len)), .unset, .unset, .unset] [.int (Int32.ofNat len)])) rfl (hb hbytes d1) (rest := []) rfl (Nat.le_refl _) (by show 0 + len ≤ len; omega)
  rw [hh0] at ba3 st3
  have kp3 : XT.Kept s T3 := (XT.Kept.of_eq hh0).push bh3
  have hA3 := hA.keep X3.warmed.alike (kp3 _ _ hA.1.1)
  have hne : b ≠ s.heap.size := hA.1.ne
  have c4 : Steps p.tables e below (s₁.setTop (entryFrame m #[.ref b, .int (Int32.ofNat o), .int (Int32.ofNat len)] 6)) (T3.setTop (mkF m 3 #[.val (.ref b), .val (.int (Int32.ofNat o)), .val (.int (Int32.ofNat len)), .unset, .unset, .unset] [.ref s.heap.size])) := c2.trans (st3 _ (Steps.refl _))
  have c5 : Steps p.tables e below (s₁.setTop (entryFrame m #[.ref b, .int (Int32.ofNat o), .int (Int32.ofNat len)] 6)) (T3.setTop (mkF m 9 #[.val (.ref b), .val (.int (Int32.ofNat o)), .val (.int (Int32.ofNat len)), .val (.ref s.heap.size), .unset, .unset] [.int (Int32.ofNat len), .int 0, .ref s.heap.size, .int (Int32.ofNat o), .ref b])) := c4.trans (by
    refine XS.astoreN X3.here hexec rfl (hb hbytes d3) rfl rfl rfl ?_
    refine XS.aloadN X3.here hexec rfl (hb hbytes d4) rfl rfl ?_
    refine XS.iloadN X3.here hexec rfl (hb hbytes d5) rfl ?_
    refine XS.aloadN X3.here hexec rfl (hb hbytes d6) rfl rfl ?_
    refine iconstV X3.here hexec rfl 0 (hb hbytes d7) (by decide) ?_
    refine XS.iloadN X3.here hexec rfl (hb hbytes d8) rfl ?_
    exact Steps.refl _)
  obtain ⟨v6, T6, X6, E6, g6⟩ := X3.callS hexec (Cmp5.law l b A s.heap.size B3 o 0 len) hown (wks W (staticW U16 115 Cmp5.yN)) (wk W Cmp5.tab) (W := 0) (Nat.le_of_ble_eq_true rfl) (Nat.le_of_ble_eq_true rfl) (Nat.le_refl _) (by show 0 + len + 0 ≤ len; omega) (g := (mkF m 9 #[.val (.ref b), .val (.int (Int32.ofNat o)), .val (.int (Int32.ofNat len)), .val (.ref s.heap.size), .unset, .unset] [.int (Int32.ofNat len), .int (Int32.ofNat 0), .ref s.heap.size, .int (Int32.ofNat o), .ref b])) rfl (by rw [hml]; rfl) c5 (argsL := [.ref b, .int (Int32.ofNat o), .ref s.heap.size, .int (Int32.ofNat 0), .int (Int32.ofNat len)]) (rest := []) rfl rfl (by show 2 * 0 + 0 ≤ _; decide) (hb hbytes d9) (⟨rfl, hA3, ba3, hne, l1, by rw [bs3]; simp, hp⟩)
  obtain ⟨rfl, B6, p6, f6⟩ := E6
  have c7 : Steps p.tables e below (s₁.setTop (entryFrame m #[.ref b, .int (Int32.ofNat o), .int (Int32.ofNat len)] 6)) (T6.setTop (mkF m 12 #[.val (.ref b), .val (.int (Int32.ofNat o)), .val (.int (Int32.ofNat len)), .val (.ref s.heap.size), .unset, .unset] [.int (Int32.ofNat len)])) := g6
  have c8 : Steps p.tables e below (s₁.setTop (entryFrame m #[.ref b, .int (Int32.ofNat o), .int (Int32.ofNat len)] 6)) (T6.setTop (mkF m 58 #[.val (.ref b), .val (.int (Int32.ofNat o)), .val (.int (Int32.ofNat len)), .val (.ref s.heap.size), .val (.int (Int32.ofNat len)), .unset] [.ref s.heap.size])) := c7.trans (by
    refine XS.istore X6.here hexec rfl (hb hbytes d12) rfl rfl ?_
    refine XS.iload X6.here hexec rfl (hb hbytes d14) rfl ?_
    refine XS.iloadN X6.here hexec rfl (hb hbytes d16) rfl ?_
    refine XS.icmpYes X6.here hexec rfl (pc0 := 17) rfl (hb hbytes d17) rfl (ii_eq_t rfl) (by decide) rfl ?_
    refine XS.aloadN X6.here hexec rfl (hb hbytes d57) rfl rfl ?_
    exact Steps.refl _)
  have X8 := X6.wide (L' := []) (cells' := 1) (slots' := len) (fun x hx hlt => by
    simp only [List.nil_append, copyLocs, List.mem_map, List.mem_range] at hx
    obtain ⟨i, -, rfl⟩ := hx
    exact absurd hlt (Nat.lt_irrefl _)) (Nat.le_refl _) (by omega)
  exact ⟨T6, some (.ref s.heap.size), _, _, _, X8, rfl, rfl, rfl, (fun h => by cases h), ⟨⟨rfl, B6, ba3.like (X3.warmed.alike.symm.trans X6.warmed.alike) p6.1 f6.1 f6.2.1 f6.2.2.1, f6.2.1.trans bv3, by rw [X6.warmed.alike.findClass, f6.1]; exact bf3, by rw [f6.2.2.1, bs3]; simp, fun j hj => by rw [f6.2.2.2 j, if_pos (by omega)]; rfl, kp3.put p6 (Nat.le_refl _)⟩, by rw [p6.2.2, bh3, hh0]; simp⟩, fun fs hl => c8.trans (X8.areturnOut hexec rfl hret rfl (hb hbytes d58) hl)⟩
end Cmp3
namespace CodL
def yN : MethodName := ⟨"java/lang/StringUTF16", "coderFromArrayLen", "([BI)B"⟩
abbrev yB : ByteArray := jdk_52_method_15_code
theorem d0 : decode yB 0 = .ok (.iload_n 1, 1) := by decide +kernel
theorem d1 : decode yB 1 = .ok (.aload_n 0, 1) := by decide +kernel
theorem d2 : decode yB 2 = .ok (.arraylength, 1) := by decide +kernel
theorem d3 : decode yB 3 = .ok (.isub, 1) := by decide +kernel
theorem d4 : decode yB 4 = .ok (.bipush 31, 2) := by decide +kernel
theorem d6 : decode yB 6 = .ok (.iushr, 1) := by decide +kernel
theorem d7 : decode yB 7 = .ok (.i2b, 1) := by decide +kernel
theorem d8 : decode yB 8 = .ok (.ireturn, 1) := by decide +kernel
def site : List Cond := []
def tab : Cond := tabOf yN yB 2 (some .byte) site
def P (d : Addr) (B : Cell) (args : Array Value) (s : State) : Prop := args = #[.ref d, .int (Int32.ofNat B.slots.size)] ∧ Arr .byte d B s
def E (r : Option Value) (s u : State) : Prop := XT.PureE (some (.int 0)) r s u
/-- an array as long as the number of chars: LATIN1 -/
theorem law (l : Launch) (d : Addr) (B : Cell) : Law l yN 2 2 0 0 yB 2 (some .byte) site (P d B) E [] 0 0 := by
  refine Law.of_walk (plainFor_of_name (by decide +kernel)) (by decide +kernel) (by decide +kernel) (by decide) (fun _ _ h => by rw [h.1]; rfl) (fun _ U U' hal hh h => ⟨h.1, h.2.mv hal hh⟩) (fun r U U' V V' h1 hal h2 h => XT.PureE.mv r U U' V V' h1 hal h2 h) ?_
  intro p e s m args below meth c s₁ X0 hexec hbytes hml hret hlk hnm hown hh0 W hP
  obtain ⟨rfl, hB⟩ := hP
  have hB0 := hB.mv X0.warmed.alike hh0
  have c1 : Steps p.tables e below (s₁.setTop (entryFrame m #[.ref d, .int (Int32.ofNat B.slots.size)] 2)) (s₁.setTop (mkF m 0 #[.val (.ref d), .val (.int (Int32.ofNat B.slots.size))] [])) := entry rfl
  have c2 : Steps p.tables e below (s₁.setTop (entryFrame m #[.ref d, .int (Int32.ofNat B.slots.size)] 2)) (s₁.setTop (mkF m 2 #[.val (.ref d), .val (.int (Int32.ofNat B.slots.size))] [.ref d, .int (Int32.ofNat B.slots.size)])) := c1.trans (by
    refine XS.iloadN X0.here hexec rfl (hb hbytes d0) rfl ?_
    refine XS.aloadN X0.here hexec rfl (hb hbytes d1) rfl rfl ?_
    exact Steps.refl _)
  have c3 : Steps p.tables e below (s₁.setTop (entryFrame m #[.ref d, .int (Int32.ofNat B.slots.size)] 2)) (s₁.setTop (mkF m 8 #[.val (.ref d), .val (.int (Int32.ofNat B.slots.size))] [.int (lo8 (ushr (Int32.ofNat B.slots.size - Int32.ofNat B.slots.size) 31))])) := c2.trans (by
    refine X0.alen hexec hB0 rfl rfl (hb hbytes d2) ?_
    refine XS.isub X0.here hexec rfl (hb hbytes d3) rfl ?_
    refine bipushV X0.here hexec rfl 31 (hb hbytes d4) (by decide) ?_
    refine iushr X0.here hexec rfl (hb hbytes d6) rfl ?_
    refine i2b X0.here hexec rfl (hb hbytes d7) rfl ?_
    exact Steps.refl _)
  have e0 : lo8 (ushr (Int32.ofNat B.slots.size - Int32.ofNat B.slots.size) 31) = 0 := by rw [Int32.sub_self]; decide
  rw [e0] at c3
  exact ⟨s₁, some (.int 0), _, _, _, X0, rfl, rfl, rfl, (fun h => by cases h), ⟨rfl, hh0⟩, fun fs hl => c3.trans (X0.ireturnOut hexec hret rfl (Or.inr (Or.inr (Or.inl rfl))) (hb hbytes d8) hl)⟩
end CodL
/-- the String at a is Latin-1 over a new byte[] (the heap's one new cell): the low bytes of the len chars of A from o on; every cell but a is kept -/
def Got (a : Addr) (D : Cell) (fV fC : Field) (A : Cell) (o len : Nat) (r : Option Value) (s u : State) : Prop := r = none ∧ ∃ D' V : Cell, Blank "java/lang/String" a D' u ∧ Same D D' [fV.slot, fC.slot] ∧ D'.slots[fV.slot]? = some (.ref s.heap.size) ∧ D'.slots[fC.slot]? = some (.int 0) ∧ Arr .byte s.heap.size V u ∧ V.vm = .none ∧ u.vm.findClass "[B" = some V.cls ∧ V.slots.size = len ∧ (∀ j, j < len → V.slots[j]? = some (.int (lo8 (cv A (o + j))))) ∧ (∀ (y : Addr) (c : Cell), y ≠ a → s.heap[y]? = some c → u.heap[y]? = some c) ∧ u.heap.size = s.heap.size + 1
theorem Got.mv {a : Addr} {D A : Cell} {fV fC : Field} {o len : Nat} : ∀ r (U U' V V' : State), U'.heap = U.heap → V.vm.Alike V'.vm → V'.heap = V.heap → Got a D fV fC A o len r U V → Got a D fV fC A o len r U' V' :=
  fun r U U' V V' h1 hal h2 ⟨e0, D', X, a1, a2, a3, a4, a5, a6, a7, a8, a9, a10, a11⟩ => ⟨e0, D', X, a1.mv hal h2, a2, by rw [h1]; exact a3, a4, by rw [h1]; exact a5.mv hal h2, a6, by rw [hal.findClass]; exact a7, a8, a9, by rw [h1, h2]; exact a10, by rw [h1, h2]; exact a11⟩
namespace New4
def yN : MethodName := ⟨"java/lang/String", "<init>", "([CIILjava/lang/Void;)V"⟩
abbrev yB : ByteArray := jdk_42_method_149_code
theorem d0 : decode yB 0 = .ok (.aload_n 0, 1) := by decide +kernel
theorem d1 : decode yB 1 = .ok (.invokespecial 1, 3) := by decide +kernel
theorem d4 : decode yB 4 = .ok (.iload_n 3, 1) := by decide +kernel
theorem d5 : decode yB 5 = .ok (.ifCond (.ne) 22, 3) := by decide +kernel
theorem d27 : decode yB 27 = .ok (.getstatic 38, 3) := by decide +kernel
theorem d30 : decode yB 30 = .ok (.ifCond (.eq) 28, 3) := by decide +kernel
theorem d33 : decode yB 33 = .ok (.aload_n 1, 1) := by decide +kernel
theorem d34 : decode yB 34 = .ok (.iload_n 2, 1) := by decide +kernel
theorem d35 : decode yB 35 = .ok (.iload_n 3, 1) := by decide +kernel
theorem d36 : decode yB 36 = .ok (.invokestatic 177, 3) := by decide +kernel
theorem d39 : decode yB 39 = .ok (.astore 5, 2) := by decide +kernel
theorem d41 : decode yB 41 = .ok (.aload_n 0, 1) := by decide +kernel
theorem d42 : decode yB 42 = .ok (.aload 5, 2) := by decide +kernel
theorem d44 : decode yB 44 = .ok (.iload_n 3, 1) := by decide +kernel
theorem d45 : decode yB 45 = .ok (.invokestatic 47, 3) := by decide +kernel
theorem d48 : decode yB 48 = .ok (.putfield 15, 3) := by decide +kernel
theorem d51 : decode yB 51 = .ok (.aload_n 0, 1) := by decide +kernel
theorem d52 : decode yB 52 = .ok (.aload 5, 2) := by decide +kernel
theorem d54 : decode yB 54 = .ok (.putfield 9, 3) := by decide +kernel
theorem d57 : decode yB 57 = .ok (.return_, 1) := by decide +kernel
def site : List Cond := [.fieldLink "java/lang/String" 38 "java/lang/String" "COMPACT_STRINGS" "Z", Cmp3.tab, CodL.tab, .laysFinal "java/lang/String" "java/lang/String" "value" "[B", .fieldLink "java/lang/String" 9 "java/lang/String" "value" "[B", .laysFinal "java/lang/String" "java/lang/String" "coder" "B", .fieldLink "java/lang/String" 15 "java/lang/String" "coder" "B"] ++ objW "java/lang/String" 1 ++ staticW "java/lang/String" 177 Cmp3.yN ++ staticW "java/lang/String" 47 CodL.yN
def tab : Cond := tabOf yN yB 6 none site
def P (a : Addr) (D : Cell) (fV fC : Field) (b : Addr) (A : Cell) (z : Int32) (o len : Nat) (args : Array Value) (s : State) : Prop := args = #[.ref a, .ref b, .int (Int32.ofNat o), .int (Int32.ofNat len), .null] ∧ Blank "java/lang/String" a D s ∧ Found "java/lang/String" "value" "[B" fV s ∧ Found "java/lang/String" "coder" "B" fC s ∧ Ch b A s ∧ StaticIs s "java/lang/String" "COMPACT_STRINGS" "Z" (.int z) ∧ ¬ z = 0 ∧ 0 < len ∧ o + len ≤ A.slots.size ∧ len ≤ 536870912 ∧ ∀ i, i < len → ¬ 255 < cv A (o + i)
def E (a : Addr) (D : Cell) (fV fC : Field) (A : Cell) (o len : Nat) (r : Option Value) (s u : State) : Prop := Got a D fV fC A o len r s u
/-- len > 0, no char of the range above 255: a Latin-1 String of their low bytes -/
theorem law (l : Launch) (a : Addr) (D : Cell) (fV fC : Field) (b : Addr) (A : Cell) (z : Int32) (o len : Nat) : Law l yN 5 4 2 35 yB 6 none site (P a D fV fC b A z o len) (E a D fV fC A o len) [⟨a, fC.slot⟩, ⟨a, fV.slot⟩] 1 len := by
  refine Law.of_walk (plainFor_of_name (by decide +kernel)) (by decide +kernel) (by decide +kernel) (by decide) (fun _ _ h => by rw [h.1]; rfl) (fun _ U U' hal hh h => ⟨h.1, h.2.1.mv hal hh, h.2.2.1.al hal, h.2.2.2.1.al hal, h.2.2.2.2.1.mv hal hh, h.2.2.2.2.2.1.there hal hh, h.2.2.2.2.2.2⟩) (fun r U U' V V' h1 hal h2 h => Got.mv r U U' V V' h1 hal h2 h) ?_
  intro p e s m args below meth c s₁ X0 hexec hbytes hml hret hlk hnm hown hh0 W hP
  obtain ⟨rfl, hB, f1, f2, hA, s1, hz, l0, l1, l2, hp⟩ := hP
  have a31 := hA.1.2.2.2
  have c1 : Steps p.tables e below (s₁.setTop (entryFrame m #[.ref a, .ref b, .int (Int32.ofNat o), .int (Int32.ofNat len), .null] 6)) (s₁.setTop (mkF m 0 #[.val (.ref a), .val (.ref b), .val (.int (Int32.ofNat o)), .val (.int (Int32.ofNat len)), .val .null, .unset] [])) := entry rfl
  have c2 : Steps p.tables e below (s₁.setTop (entryFrame m #[.ref a, .ref b, .int (Int32.ofNat o), .int (Int32.ofNat len), .null] 6)) (s₁.setTop (mkF m 1 #[.val (.ref a), .val (.ref b), .val (.int (Int32.ofNat o)), .val (.int (Int32.ofNat len)), .val .null, .unset] [.ref a])) := c1.trans (by
    refine XS.aloadN X0.here hexec rfl (hb hbytes d0) rfl rfl ?_
    exact Steps.refl _)
  obtain ⟨T3, X3, q3, st3⟩ := X0.oinit hexec hown (wks W (objW "java/lang/String" 1)) (g := (mkF m 1 #[.val (.ref a), .val (.ref b), .val (.int (Int32.ofNat o)), .val (.int (Int32.ofNat len)), .val .null, .unset] [.ref a])) rfl (by rw [hml]; rfl) (rest := []) rfl (hb hbytes d1) (W := 0) (by show 2 * 0 + 0 ≤ _; decide) (Nat.le_of_ble_eq_true rfl) (Nat.le_of_ble_eq_true rfl)
  have hh3 := q3.trans hh0
  have c4 : Steps p.tables e below (s₁.setTop (entryFrame m #[.ref a, .ref b, .int (Int32.ofNat o), .int (Int32.ofNat len), .null] 6)) (T3.setTop (mkF m 27 #[.val (.ref a), .val (.ref b), .val (.int (Int32.ofNat o)), .val (.int (Int32.ofNat len)), .val .null, .unset] [])) := (c2.trans (st3 _ (Steps.refl _))).trans (by
    refine XS.iloadN X3.here hexec rfl (hb hbytes d4) rfl ?_
    refine XS.ifYes X3.here hexec rfl (pc0 := 5) rfl (hb hbytes d5) rfl (i0_ne_t (nz32 (by omega) l0)) (by decide) rfl ?_
    exact Steps.refl _)
  obtain ⟨T5, X5, q5, st5⟩ := X3.sget hexec hown (wk W (.fieldLink "java/lang/String" 38 "java/lang/String" "COMPACT_STRINGS" "Z")) s1 (fun _ _ h => by rw [hh3]; exact h) (g := (mkF m 27 #[.val (.ref a), .val (.ref b), .val (.int (Int32.ofNat o)), .val (.int (Int32.ofNat len)), .val .null, .unset] [])) rfl (hb hbytes d27)
  have hh5 := q5.trans hh3
  have c6 : Steps p.tables e below (s₁.setTop (entryFrame m #[.ref a, .ref b, .int (Int32.ofNat o), .int (Int32.ofNat len), .null] 6)) (T5.setTop (mkF m 30 #[.val (.ref a), .val (.ref b), .val (.int (Int32.ofNat o)), .val (.int (Int32.ofNat len)), .val .null, .unset] [.int z])) := c4.trans (st5 _ (Steps.refl _))
  have c7 : Steps p.tables e below (s₁.setTop (entryFrame m #[.ref a, .ref b, .int (Int32.ofNat o), .int (Int32.ofNat len), .null] 6)) (T5.setTop (mkF m 36 #[.val (.ref a), .val (.ref b), .val (.int (Int32.ofNat o)), .val (.int (Int32.ofNat len)), .val .null, .unset] [.int (Int32.ofNat len), .int (Int32.ofNat o), .ref b])) := c6.trans (by
    refine XS.ifNo X5.here hexec rfl (hb hbytes d30) rfl (i0_eq_f hz) ?_
    refine XS.aloadN X5.here hexec rfl (hb hbytes d33) rfl rfl ?_
    refine XS.iloadN X5.here hexec rfl (hb hbytes d34) rfl ?_
    refine XS.iloadN X5.here hexec rfl (hb hbytes d35) rfl ?_
    exact Steps.refl _)
  obtain ⟨v8, T8, X8, E8, g8⟩ := X5.callS hexec (Cmp3.law l b A o len) hown (wks W (staticW "java/lang/String" 177 Cmp3.yN)) (wk W Cmp3.tab) (W := 0) (Nat.le_of_ble_eq_true rfl) (Nat.le_of_ble_eq_true rfl) (Nat.le_refl _) (by show 0 + len ≤ len; omega) (g := (mkF m 36 #[.val (.ref a), .val (.ref b), .val (.int (Int32.ofNat o)), .val (.int (Int32.ofNat len)), .val .null, .unset] [.int (Int32.ofNat len), .int (Int32.ofNat o), .ref b])) rfl (by rw [hml]; rfl) c7 (argsL := [.ref b, .int (Int32.ofNat o), .int (Int32.ofNat len)]) (rest := []) rfl rfl (by show 2 * 0 + 0 ≤ _; decide) (hb hbytes d36) (⟨rfl, hA.mv X5.warmed.alike hh5, l1, l2, hp⟩)
  obtain ⟨e8, z8⟩ := E8
  obtain ⟨rfl, N, n1, n2, n3, n4, n5, n6⟩ := NewArr.mv _ T5 s _ _ hh5.symm (Vm.Alike.refl _) rfl e8
  rw [hh5] at z8
  have hB1 := hB.keep X8.warmed.alike (n6 _ _ hB.1)
  have hne : s.heap.size ≠ a := (Nat.ne_of_lt (Array.getElem?_eq_some_iff.mp hB.1).1).symm
  have c9 : Steps p.tables e below (s₁.setTop (entryFrame m #[.ref a, .ref b, .int (Int32.ofNat o), .int (Int32.ofNat len), .null] 6)) (T8.setTop (mkF m 39 #[.val (.ref a), .val (.ref b), .val (.int (Int32.ofNat o)), .val (.int (Int32.ofNat len)), .val .null, .unset] [.ref s.heap.size])) := g8
  have c10 : Steps p.tables e below (s₁.setTop (entryFrame m #[.ref a, .ref b, .int (Int32.ofNat o), .int (Int32.ofNat len), .null] 6)) (T8.setTop (mkF m 45 #[.val (.ref a), .val (.ref b), .val (.int (Int32.ofNat o)), .val (.int (Int32.ofNat len)), .val .null, .val (.ref s.heap.size)] [.int (Int32.ofNat N.slots.size), .ref s.heap.size, .ref a])) := by
    have hc : Steps p.tables e below (s₁.setTop (entryFrame m #[.ref a, .ref b, .int (Int32.ofNat o), .int (Int32.ofNat len), .null] 6)) (T8.setTop (mkF m 45 #[.val (.ref a), .val (.ref b), .val (.int (Int32.ofNat o)), .val (.int (Int32.ofNat len)), .val .null, .val (.ref s.heap.size)] [.int (Int32.ofNat len), .ref s.heap.size, .ref a])) := c9.trans (by
      refine XS.astore X8.here hexec rfl (hb hbytes d39) rfl rfl rfl ?_
      refine XS.aloadN X8.here hexec rfl (hb hbytes d41) rfl rfl ?_
      refine XS.aload X8.here hexec rfl (hb hbytes d42) rfl rfl ?_
      refine XS.iloadN X8.here hexec rfl (hb hbytes d44) rfl ?_
      exact Steps.refl _)
    rw [n4]; exact hc
  obtain ⟨v11, T11, X11, E11, g11⟩ := X8.callS hexec (CodL.law l s.heap.size N) hown (wks W (staticW "java/lang/String" 47 CodL.yN)) (wk W CodL.tab) (W := 1) (Nat.le_of_ble_eq_true rfl) (Nat.le_of_ble_eq_true rfl) (Nat.le_refl _) (by show 0 + len + 0 ≤ len; omega) (g := (mkF m 45 #[.val (.ref a), .val (.ref b), .val (.int (Int32.ofNat o)), .val (.int (Int32.ofNat len)), .val .null, .val (.ref s.heap.size)] [.int (Int32.ofNat N.slots.size), .ref s.heap.size, .ref a])) rfl (by rw [hml]; rfl) c10 (argsL := [.ref s.heap.size, .int (Int32.ofNat N.slots.size)]) (rest := [.ref a]) rfl rfl (by show 2 * 0 + (1 + 0) ≤ _; decide) (hb hbytes d45) (⟨rfl, n1⟩)
  obtain ⟨rfl, q11⟩ := E11
  have hB11 := hB1.mv (X8.warmed.alike.symm.trans X11.warmed.alike) q11
  have c12 : Steps p.tables e below (s₁.setTop (entryFrame m #[.ref a, .ref b, .int (Int32.ofNat o), .int (Int32.ofNat len), .null] 6)) (T11.setTop (mkF m 48 #[.val (.ref a), .val (.ref b), .val (.int (Int32.ofNat o)), .val (.int (Int32.ofNat len)), .val .null, .val (.ref s.heap.size)] [.int 0, .ref a])) := g11
  obtain ⟨T13, X13, p13, bl13, sl13, st13⟩ := X11.finit hexec hown (wk W (.fieldLink "java/lang/String" 15 "java/lang/String" "coder" "B")) (Or.inr ⟨_, (wk W (.laysFinal "java/lang/String" "java/lang/String" "coder" "B"))⟩) (Or.inl ⟨rfl, hnm⟩) f2 (Or.inl rfl) hB11 (t := .byte) (by decide +kernel) rfl (g := (mkF m 48 #[.val (.ref a), .val (.ref b), .val (.int (Int32.ofNat o)), .val (.int (Int32.ofNat len)), .val .null, .val (.ref s.heap.size)] [.int 0, .ref a])) rfl (rest := []) rfl (hb hbytes d48)
  have c14 : Steps p.tables e below (s₁.setTop (entryFrame m #[.ref a, .ref b, .int (Int32.ofNat o), .int (Int32.ofNat len), .null] 6)) (T13.setTop (mkF m 54 #[.val (.ref a), .val (.ref b), .val (.int (Int32.ofNat o)), .val (.int (Int32.ofNat len)), .val .null, .val (.ref s.heap.size)] [.ref s.heap.size, .ref a])) := (c12.trans (st13 _ (Steps.refl _))).trans (by
    refine XS.aloadN X13.here hexec rfl (hb hbytes d51) rfl rfl ?_
    refine XS.aload X13.here hexec rfl (hb hbytes d52) rfl rfl ?_
    exact Steps.refl _)
  obtain ⟨T15, X15, p15, bl15, sl15, st15⟩ := X13.finit hexec hown (wk W (.fieldLink "java/lang/String" 9 "java/lang/String" "value" "[B")) (Or.inr ⟨_, (wk W (.laysFinal "java/lang/String" "java/lang/String" "value" "[B"))⟩) (Or.inl ⟨rfl, hnm⟩) f1 (Or.inl rfl) bl13 (t := (.array .byte)) (by decide +kernel) rfl (g := (mkF m 54 #[.val (.ref a), .val (.ref b), .val (.int (Int32.ofNat o)), .val (.int (Int32.ofNat len)), .val .null, .val (.ref s.heap.size)] [.ref s.heap.size, .ref a])) rfl (rest := []) rfl (hb hbytes d54)
  have c16 : Steps p.tables e below (s₁.setTop (entryFrame m #[.ref a, .ref b, .int (Int32.ofNat o), .int (Int32.ofNat len), .null] 6)) (T15.setTop (mkF m 57 #[.val (.ref a), .val (.ref b), .val (.int (Int32.ofNat o)), .val (.int (Int32.ofNat len)), .val .null, .val (.ref s.heap.size)] [])) := c14.trans (st15 _ (Steps.refl _))
  have ap := apart (Or.inr ⟨_, (wk W (.laysFinal "java/lang/String" "java/lang/String" "value" "[B"))⟩) (Or.inr ⟨_, (wk W (.laysFinal "java/lang/String" "java/lang/String" "coder" "B"))⟩) f1 f2 (t₁ := .array .byte) (t₂ := .byte) (by decide +kernel) (by decide +kernel) (by decide)
  have al := X8.warmed.alike.symm.trans X15.warmed.alike
  have n7 : T11.heap[s.heap.size]? = some N := by rw [q11]; exact n1.1
  exact ⟨T15, none, _, _, _, X15, by simp, rfl, by omega, (fun _ => rfl), ⟨rfl, _, N, bl15, ((Same.refl D _).set _ (by simp)).set _ (by simp), sl15, (Cell.slots_setSlot_ne _ ap).trans sl13, n1.keep al (p15.other hne (p13.other hne n7)), n2, by rw [al.findClass]; exact n3, n4, n5, fun y c h1 h2 => p15.other h1 (p13.other h1 (by rw [q11]; exact n6 y c h2)), by rw [p15.2.2, p13.2.2, q11]; exact z8⟩, fun fs hl => c16.trans (X15.returnOut hexec hret (hb hbytes d57) hl)⟩
end New4
namespace New1
def yN : MethodName := ⟨"java/lang/String", "<init>", "([C)V"⟩
abbrev yB : ByteArray := jdk_42_method_3_code
theorem d0 : decode yB 0 = .ok (.aload_n 0, 1) := by decide +kernel
theorem d1 : decode yB 1 = .ok (.aload_n 1, 1) := by decide +kernel
theorem d2 : decode yB 2 = .ok (.iconst 0, 1) := by decide +kernel
theorem d3 : decode yB 3 = .ok (.aload_n 1, 1) := by decide +kernel
theorem d4 : decode yB 4 = .ok (.arraylength, 1) := by decide +kernel
theorem d5 : decode yB 5 = .ok (.aconst_null, 1) := by decide +kernel
theorem d6 : decode yB 6 = .ok (.invokespecial 27, 3) := by decide +kernel
theorem d9 : decode yB 9 = .ok (.return_, 1) := by decide +kernel
def site : List Cond := [New4.tab] ++ initW "java/lang/String" 27 New4.yN
def tab : Cond := tabOf yN yB 2 none site
def P (a : Addr) (D : Cell) (fV fC : Field) (b : Addr) (A : Cell) (z : Int32) (args : Array Value) (s : State) : Prop := args = #[.ref a, .ref b] ∧ Blank "java/lang/String" a D s ∧ Found "java/lang/String" "value" "[B" fV s ∧ Found "java/lang/String" "coder" "B" fC s ∧ Ch b A s ∧ StaticIs s "java/lang/String" "COMPACT_STRINGS" "Z" (.int z) ∧ ¬ z = 0 ∧ 0 < A.slots.size ∧ A.slots.size ≤ 536870912 ∧ ∀ i, i < A.slots.size → ¬ 255 < cv A i
def E (a : Addr) (D : Cell) (fV fC : Field) (A : Cell) (r : Option Value) (s u : State) : Prop := Got a D fV fC A 0 A.slots.size r s u
/-- new String(chars), not empty, no char above 255: a Latin-1 String of their low bytes -/
theorem law (l : Launch) (a : Addr) (D : Cell) (fV fC : Field) (b : Addr) (A : Cell) (z : Int32) : Law l yN 2 1 3 52 yB 2 none site (P a D fV fC b A z) (E a D fV fC A) [⟨a, fC.slot⟩, ⟨a, fV.slot⟩] 1 A.slots.size := by
  refine Law.of_walk (plainFor_of_name (by decide +kernel)) (by decide +kernel) (by decide +kernel) (by decide) (fun _ _ h => by rw [h.1]; rfl) (fun _ U U' hal hh h => ⟨h.1, h.2.1.mv hal hh, h.2.2.1.al hal, h.2.2.2.1.al hal, h.2.2.2.2.1.mv hal hh, h.2.2.2.2.2.1.there hal hh, h.2.2.2.2.2.2⟩) (fun r U U' V V' h1 hal h2 h => Got.mv r U U' V V' h1 hal h2 h) ?_
  intro p e s m args below meth c s₁ X0 hexec hbytes hml hret hlk hnm hown hh0 W hP
  obtain ⟨rfl, hB, f1, f2, hA, s1, hz, l0, l2, hp⟩ := hP
  have c1 : Steps p.tables e below (s₁.setTop (entryFrame m #[.ref a, .ref b] 2)) (s₁.setTop (mkF m 0 #[.val (.ref a), .val (.ref b)] [])) := entry rfl
  have c2 : Steps p.tables e below (s₁.setTop (entryFrame m #[.ref a, .ref b] 2)) (s₁.setTop (mkF m 6 #[.val (.ref a), .val (.ref b)] [.null, .int (Int32.ofNat A.slots.size), .int 0, .ref b, .ref a])) := c1.trans (by
    refine XS.aloadN X0.here hexec rfl (hb hbytes d0) rfl rfl ?_
    refine XS.aloadN X0.here hexec rfl (hb hbytes d1) rfl rfl ?_
    refine iconstV X0.here hexec rfl 0 (hb hbytes d2) (by decide) ?_
    refine XS.aloadN X0.here hexec rfl (hb hbytes d3) rfl rfl ?_
    refine X0.alen hexec (hA.1.mv X0.warmed.alike hh0) rfl rfl (hb hbytes d4) ?_
    refine XS.aconstNull X0.here hexec rfl (hb hbytes d5) ?_
    exact Steps.refl _)
  obtain ⟨v3, T3, X3, E3, g3⟩ := X0.callN hexec (New4.law l a D fV fC b A z 0 A.slots.size) rfl hown (wks W (initW "java/lang/String" 27 New4.yN)) (W New4.tab (by simp only [site, List.mem_cons, List.mem_append, true_or, or_true])) (W := 0) (Nat.le_of_ble_eq_true rfl) (Nat.le_of_ble_eq_true rfl) (Nat.le_refl _) (by show 0 + A.slots.size ≤ A.slots.size; omega) (g := (mkF m 6 #[.val (.ref a), .val (.ref b)] [.null, .int (Int32.ofNat A.slots.size), .int (Int32.ofNat 0), .ref b, .ref a])) rfl (by rw [hml]; rfl) c2 (argsL := [.ref b, .int (Int32.ofNat 0), .int (Int32.ofNat A.slots.size), .null]) (rest := []) rfl rfl (by show 2 * 0 + 0 ≤ _; decide) (hb hbytes d6) (⟨rfl, hB.mv X0.warmed.alike hh0, f1.al X0.warmed.alike, f2.al X0.warmed.alike, hA.mv X0.warmed.alike hh0, s1.there X0.warmed.alike hh0, hz, l0, by omega, l2, fun i hi => by rw [Nat.zero_add]; exact hp i hi⟩)
  have e0 := Got.mv _ s₁ s _ _ hh0.symm (Vm.Alike.refl _) rfl E3
  obtain rfl := e0.1
  have c4 : Steps p.tables e below (s₁.setTop (entryFrame m #[.ref a, .ref b] 2)) (T3.setTop (mkF m 9 #[.val (.ref a), .val (.ref b)] [])) := g3
  exact ⟨T3, none, _, _, _, X3, by simp, rfl, by omega, (fun _ => rfl), e0, fun fs hl => c4.trans (X3.returnOut hexec hret (hb hbytes d9) hl)⟩
theorem pays {l : Launch} {R : Room} {p : Program} {e : Env} {below : List Frame} {s : State} {sargs : Array Value} {len W : Nat} (a : Addr) (D : Cell) (fV fC : Field) (b : Addr) (A : Cell) (z : Int32) (htab : tab.before sargs s = true) (hfr : 4 ≤ R.frames) (hlo : W + 65 ≤ R.locals) :
    Back l R p e below s sargs yN len W (fun A₁ a₁ => A₁.cells + 1 ≤ R.cells ∧ A₁.slots + A.slots.size ≤ R.slots ∧ P a D fV fC b A z a₁ A₁.U) (fun A₁ _ v₁ B₁ => E a D fV fC A v₁ A₁.U B₁.U ∧ B₁.locs = A₁.locs ++ [⟨a, fC.slot⟩, ⟨a, fV.slot⟩] ∧ B₁.cells = A₁.cells + 1 ∧ B₁.slots = A₁.slots + A.slots.size) :=
  (law l a D fV fC b A z).pays htab hfr (by omega)
end New1
/-- the byte, read back as charAt reads it, is the char -/
theorem lo8_mask {x : Int32} (h0 : ¬ x < 0) (h1 : ¬ 255 < x) : lo8 x &&& 255 = x := by
  have t : ∀ k : Fin 256, lo8 (Int32.ofNat k.val) &&& 255 = Int32.ofNat k.val := by decide +kernel
  rw [Int32.lt_iff_toInt_lt] at h0 h1
  have e0 : (0 : Int32).toInt = 0 := rfl
  have e1 : (255 : Int32).toInt = 255 := rfl
  obtain ⟨k, hk⟩ : ∃ k : Nat, x.toInt = k := ⟨x.toInt.toNat, by omega⟩
  have hx : x = Int32.ofNat k := Int32.toInt_inj.mp (by rw [hk, Int32.toInt_ofNat_small (by omega)])
  rw [hx]
  exact t ⟨k, by omega⟩
end StrChars
namespace StrChars.Road
open Jvm Sem ClassFile Op Lib Jvm.Stand Jvm.Free Jvm.Free.XT
open Jvm.Lib.Cold (StaticIs)
abbrev ST : String := "java/lang/String"
/-- every table word that New1's law asks, flat -/
abbrev words : List Jvm.Cond := [.code New1.yN New1.yB 2 none, .initialized ST, .methodLink ST 27 New4.yN, .instanceMethod New4.yN,
  .code New4.yN New4.yB 6 none, .fieldLink ST 38 ST "COMPACT_STRINGS" "Z", .laysFinal ST ST "value" "[B", .fieldLink ST 9 ST "value" "[B", .laysFinal ST ST "coder" "B", .fieldLink ST 15 ST "coder" "B",
  .methodLink ST 1 Lib.objectInit, .instanceMethod Lib.objectInit, .code Lib.objectInit ⟨#[0xb1]⟩ 1 none, .methodLink ST 177 Cmp3.yN, .static Cmp3.yN, .methodLink ST 47 CodL.yN, .static CodL.yN,
  .code Cmp3.yN Cmp3.yB 6 (some (.array .byte)), .initialized U16, .arrayClass .byte, .methodLink U16 115 Cmp5.yN, .static Cmp5.yN, .code Cmp5.yN Cmp5.yB 7 (some .int), .code CodL.yN CodL.yB 2 (some .byte)]
theorem tab_of {a : Array Value} {s : State} (h : ∀ w ∈ words, w.before a s = true) : New1.tab.before a s = true := by
  have h5 : Cmp5.tab.before a s = true := unparts (wk h (.code Cmp5.yN Cmp5.yB 7 (some .int))) (wks h (.initialized Cmp5.yN.cls :: Cmp5.site))
  have hc : CodL.tab.before a s = true := unparts (wk h (.code CodL.yN CodL.yB 2 (some .byte))) (wks h (.initialized CodL.yN.cls :: CodL.site))
  have q5 : ∀ w ∈ Cmp5.tab :: words, w.before a s = true := fun w hw => (List.mem_cons.mp hw).elim (fun e => e ▸ h5) (h w)
  have h3 : Cmp3.tab.before a s = true := unparts (wk q5 (.code Cmp3.yN Cmp3.yB 6 (some (.array .byte)))) (wks q5 (.initialized Cmp3.yN.cls :: Cmp3.site))
  have q3 : ∀ w ∈ Cmp3.tab :: CodL.tab :: words, w.before a s = true := fun w hw => (List.mem_cons.mp hw).elim (fun e => e ▸ h3) fun hw => (List.mem_cons.mp hw).elim (fun e => e ▸ hc) (h w)
  have h4 : New4.tab.before a s = true := unparts (wk q3 (.code New4.yN New4.yB 6 none)) (wks q3 (.initialized New4.yN.cls :: New4.site))
  have q4 : ∀ w ∈ New4.tab :: words, w.before a s = true := fun w hw => (List.mem_cons.mp hw).elim (fun e => e ▸ h4) (h w)
  exact unparts (wk q4 (.code New1.yN New1.yB 2 none)) (wks q4 (.initialized New1.yN.cls :: New1.site))
/-- the words ride from the start Z to the walk's own state -/
theorem moved {Z s : State} {a0 args : Array Value} (hZ : Z.Warmed39 s.vm) (hw : ∀ d ∈ words, d.before a0 Z = true) : ∀ d ∈ words, d.before args s = true := fun d hd => by
  have q := hw d hd
  have t : ∀ d ∈ words, d = .arrayClass .byte ∨ (d.onTables && d.keepsFace) = true := by decide +kernel
  rcases t d hd with rfl | t
  · exact RoadKit.mvA hZ q
  · exact RoadKit.mv hZ q t
/-- WHAT COMES BACK, over the tables of the start Z: h the heap at the call, h' behind it -/
def Q (Z : State) (x : Addr) (A : Cell) (h : Heap) (v : Option Value) (h' : Heap) (L : List Loc) : Prop := v = none ∧ (∀ y ∈ L, y.base = x) ∧ RoadKit.Keep h h' [x] ∧ h'.size = h.size + 1 ∧ RoadKit.Exa Z h' x ST ∧ RoadKit.Fld Z h' x ST "value" "[B" (.ref h.size) ∧ RoadKit.Fld Z h' x ST "coder" "B" (.int 0) ∧
  (∃ V : Cell, RoadKit.Arr Z h' h.size V .byte ∧ V.vm = .none ∧ Z.vm.findClass "[B" = some V.cls ∧ V.slots.size = A.slots.size ∧ ∀ j, j < A.slots.size → V.slots[j]? = some (.int (lo8 (cv A j)))) ∧
  ∀ (O n d : String) (w : Value), RoadKit.Fld Z h x O n d w → RoadKit.slotOf Z O n d ≠ RoadKit.slotOf Z ST "value" "[B" → RoadKit.slotOf Z O n d ≠ RoadKit.slotOf Z ST "coder" "B" → RoadKit.Fld Z h' x O n d w
/-- **new String(chars) AT A CALL, IN THE ROAD'S FORM**: for specialBack behind newO: x the fresh String, b the char[] with the cell A -/
theorem back {p : Program} {l : Launch} {e : Env} {R : Room} {s : State} {args : Array Value} {below : List Frame} {len W : Nat} {Z : State} {a0 : Array Value} {h : Heap} (hZ : Z.Warmed39 s.vm) (hw : ∀ d ∈ words, d.before a0 Z = true) {kI : Nat} (wi : (Jvm.Cond.instantiable ST kI).before a0 Z = true)
    {x b : Addr} {A : Cell} {z : Int32} {v0 c0 : Value} (E : RoadKit.Exa Z h x ST) (V : RoadKit.Fld Z h x ST "value" "[B" v0) (C : RoadKit.Fld Z h x ST "coder" "B" c0) (K : RoadKit.Arr Z h b A .char) (hty : Typed .char A) (S : RoadKit.Sta Z h ST "COMPACT_STRINGS" "Z" (.int z)) (hz : ¬ z = 0)
    (l0 : 0 < A.slots.size) (l2 : A.slots.size ≤ 536870912) (hp : ∀ i, i < A.slots.size → ¬ 255 < cv A i) (hfr : 4 ≤ R.frames) (hlo : W + 65 ≤ R.locals) :
    Back l R p e below s args New1.yN len W (fun P a => a = #[.ref x, .ref b] ∧ P.U.heap = h ∧ P.cells + 1 ≤ R.cells ∧ P.slots + A.slots.size ≤ R.slots)
      (fun P _ v B => ∃ L, Q Z x A h v B.U.heap L ∧ B.locs = P.locs ++ L ∧ B.cells = P.cells + 1 ∧ B.slots = P.slots + A.slots.size) := by
  intro m meth c P g ig mk a X hg hsize hdg hW hn hp'
  obtain ⟨rfl, rfl, r1, r2⟩ := hp'
  have al : Z.vm.Alike P.U.vm := hZ.alike.trans X.warmed.alike
  obtain ⟨D, cfV, kV, iV, fV, hD, gV, stV, knV, obV, asV, slV⟩ := id V
  obtain ⟨D', cfC, kC, iC, fC, hD', gC, stC, -, -, asC, slC⟩ := id C
  cases hD.symm.trans hD'
  obtain ⟨D2, kD, e1, e2, e3, e4, e5⟩ := id E
  cases hD.symm.trans e1
  obtain ⟨c2, k2, i1, i2, i3, -⟩ := Cond.instantiable_spec wi
  cases e2.symm.trans i1
  cases e3.symm.trans i2
  obtain ⟨kU, u1, u2⟩ := al.2.2 _ _ e3
  have hB : Blank ST x D P.U := ⟨hD, ⟨knV, fun q hq => by rw [hq] at obV; cases obV⟩, by rw [al.findClass]; exact e2, kU, u1, by rw [u2]; exact i3, by rw [u2]; exact e5 i3⟩
  have F1 : Found ST "value" "[B" fV P.U := ⟨SBG.found_only al ⟨cfV, kV, iV, gV⟩, stV⟩
  have F2 : Found ST "coder" "B" fC P.U := ⟨SBG.found_only al ⟨cfC, kC, iC, gC⟩, stC⟩
  have hA : Ch b A P.U := ⟨⟨K.1, State.isArrayOf_alike al K.2.1, K.2.2, by omega⟩, hty⟩
  have hS : StaticIs P.U ST "COMPACT_STRINGS" "Z" (.int z) := by
    obtain ⟨cfS, iS, kS, fS, st, cS, t1, t2, t3, t4, t5, t6, t7⟩ := S
    exact StaticIs.there (s := { Z with heap := P.U.heap }) ⟨cfS, iS, kS, fS, st, cS, t1, t2, t3, t4, t5, (fun q => by rw [q] at t6; cases t6), t7⟩ al rfl
  obtain ⟨v, B, X', ⟨⟨hv, E', V', q1, q2, q3, q4, q5, q6, q7, q8, q9, q10, q11⟩, hl, hc, hs⟩, st⟩ := New1.pays x D fV fC b A z (tab_of (moved hZ hw)) hfr hlo m meth c P g ig mk _ X hg hsize hdg hW hn ⟨r1, r2, rfl, hB, F1, F2, hA, hS, hz, l0, l2, hp⟩
  have al' : Z.vm.Alike B.U.vm := hZ.alike.trans X'.warmed.alike
  have hsz : E'.slots.size = D.slots.size := by
    obtain ⟨-, -, -, kB, w1, w2, w3⟩ := q1
    obtain ⟨kB', y1, y2⟩ := al'.2.2 _ _ e3
    rw [q2.2.1] at w1
    cases w1.symm.trans y1
    rw [w3, e5 i3, y2]
  refine ⟨v, B, X', ⟨_, ⟨hv, ?_, ⟨by omega, fun y cy hy hn' => q10 y cy (by simpa using hn') hy, fun y cy hy => ?_⟩, q11, ⟨E', _, q1.1, by rw [q2.2.1]; exact e2, by rw [q2.2.1]; exact e3, by rw [q2.1]; exact obV, fun _ => by rw [hsz]; exact e5 i3⟩,
    ⟨E', cfV, kV, iV, fV, q1.1, gV, stV, by rw [q2.1]; exact knV, by rw [q2.1]; exact obV, by rw [q2.2.1]; exact asV, q3⟩, ⟨E', cfC, kC, iC, fC, q1.1, gC, stC, by rw [q2.1]; exact knV, by rw [q2.1]; exact obV, by rw [q2.2.1]; exact asC, q4⟩,
    ⟨V', ⟨q5.1, State.isArrayOf_alike al'.symm q5.2.1, q5.2.2.1⟩, q6, by rw [← al'.findClass]; exact q7, q8, fun j hj => by have := q9 j hj; rwa [Nat.zero_add] at this⟩, fun O n d w F n1 n2 => ?_⟩, hl, hc, hs⟩, st⟩
  · intro y hy
    simp only [List.mem_cons, List.not_mem_nil, or_false] at hy
    rcases hy with rfl | rfl <;> rfl
  · by_cases q : y = x
    · subst q
      cases hD.symm.trans hy
      exact ⟨E', q1.1, q2.2.1, q2.1, hsz⟩
    · exact ⟨cy, q10 y cy q hy, rfl, rfl, rfl⟩
  · obtain ⟨D3, cf, k, i, f, g1, g2, g3, g4, g5, g6, g7⟩ := F
    cases hD.symm.trans g1
    simp only [RoadKit.slotOf, g2, gV, gC, Option.map_some, Option.getD_some] at n1 n2
    exact ⟨E', cf, k, i, f, q1.1, g2, g3, by rw [q2.1]; exact g4, by rw [q2.1]; exact g5, by rw [q2.2.1]; exact g6, by rw [q2.2.2 f.slot (by simp [n1, n2])]; exact g7⟩
end StrChars.Road
namespace StrChars.Road
open Jvm Sem ClassFile Op Lib Jvm.Stand Jvm.Free Jvm.Free.XT
/-- WHAT COMES BACK, the byte[] as a list of values -/
def QA (Z : State) (x : Addr) (zn : Int32) (cs : List Int32) (h : Heap) (v : Option Value) (h' : Heap) (L : List Loc) : Prop := v = none ∧ (∀ y ∈ L, y.base = x) ∧ RoadKit.Keep h h' [x] ∧ h'.size = h.size + 1 ∧ RoadKit.Exa Z h' x ST ∧ RoadKit.Fld Z h' x ST "value" "[B" (.ref h.size) ∧ RoadKit.Fld Z h' x ST "coder" "B" (.int 0) ∧
  (∃ kb, Z.vm.findClass "[B" = some kb ∧ RoadKit.Arv Z h' h.size kb .byte zn (cs.map fun c => .int (lo8 c)) (.int 0)) ∧
  ∀ (O n d : String) (w : Value), RoadKit.Fld Z h x O n d w → RoadKit.slotOf Z O n d ≠ RoadKit.slotOf Z ST "value" "[B" → RoadKit.slotOf Z O n d ≠ RoadKit.slotOf Z ST "coder" "B" → RoadKit.Fld Z h' x O n d w
/-- **new String(chars) AT A CALL, THE ARRAYS AS LISTS**: the char[] at b holds cs, not empty, no char above 255 -/
theorem backArv {p : Program} {l : Launch} {e : Env} {R : Room} {s : State} {args : Array Value} {below : List Frame} {len W : Nat} {Z : State} {a0 : Array Value} {h : Heap} (hZ : Z.Warmed39 s.vm) (hw : ∀ d ∈ words, d.before a0 Z = true) {kI : Nat} (wi : (Jvm.Cond.instantiable ST kI).before a0 Z = true)
    {x b : Addr} {k : ClassId} {zn z : Int32} {cs : List Int32} {dv v0 c0 : Value} (E : RoadKit.Exa Z h x ST) (V : RoadKit.Fld Z h x ST "value" "[B" v0) (C : RoadKit.Fld Z h x ST "coder" "B" c0) (K : RoadKit.Arv Z h b k .char zn (cs.map Value.int) dv) (S : RoadKit.Sta Z h ST "COMPACT_STRINGS" "Z" (.int z)) (hz : ¬ z = 0)
    (hlen : zn.toNatClampNeg = cs.length) (h0 : 0 < cs.length) (hbig : cs.length ≤ 536870912) (hall : ∀ c ∈ cs, ¬ 255 < c) (hfr : 4 ≤ R.frames) (hlo : W + 65 ≤ R.locals) :
    Back l R p e below s args New1.yN len W (fun P a => a = #[.ref x, .ref b] ∧ P.U.heap = h ∧ P.cells + 1 ≤ R.cells ∧ P.slots + cs.length ≤ R.slots)
      (fun P _ v B => ∃ L, QA Z x zn cs h v B.U.heap L ∧ B.locs = P.locs ++ L ∧ B.cells = P.cells + 1 ∧ B.slots = P.slots + cs.length) := by
  obtain ⟨A, K1, K2, K3, K4, K5, K6⟩ := K
  have e : A.slots.size = cs.length := K3.trans hlen
  have hat : ∀ (i : Nat) (hi : i < cs.length), A.slots[i]? = some (.int cs[i]) := fun i hi => by rw [K5 i (by omega)]; simp [List.getD_eq_getElem?_getD, hi]
  have hcv : ∀ (i : Nat) (hi : i < cs.length), cv A i = cs[i] := fun i hi => by unfold cv; rw [hat i hi]
  have hty : Typed .char A := fun i v hv => by
    have hi : i < A.slots.size := (Array.getElem?_eq_some_iff.mp hv).1
    have q := K5 i hi
    rw [hv] at q
    rw [Option.some.inj q]
    exact K6 i hi
  refine Back.mono (back hZ hw wi E V C K1 hty S hz (by omega) (by omega) (fun i hi => by rw [hcv i (by omega)]; exact hall _ (List.getElem_mem _)) hfr hlo) (fun P a hp => ⟨hp.1, hp.2.1, hp.2.2.1, by rw [e]; exact hp.2.2.2⟩) (fun P a v B hp hq => ?_)
  obtain ⟨L, ⟨q1, q2, q3, q4, q5, q6, q7, ⟨V', v1, v2, v3, v4, v5⟩, q9⟩, hl, hc, hs⟩ := hq
  refine ⟨L, ⟨q1, q2, q3, q4, q5, q6, q7, ⟨V'.cls, v3, V', v1, rfl, by rw [v4, e, hlen], K4, fun i hi => ?_, fun i hi => ?_⟩, q9⟩, hl, hc, by rw [hs, e]⟩
  · have hi' : i < cs.length := by omega
    rw [v5 i (by omega), hcv i hi']; simp [List.getD_eq_getElem?_getD, hi']
  · have hi' : i < cs.length := by omega
    simp only [List.getD_eq_getElem?_getD, List.getElem?_map, List.getElem?_eq_getElem hi', Option.map_some, Option.getD_some]
    exact fits_lo8 _
end StrChars.Road
namespace StrChars.Road
open Jvm Sem ClassFile Op Lib Jvm.Stand Jvm.Free Jvm.Free.XT
/-- WHAT COMES BACK, in the writer's own shape -/
def QV (Z : State) (x : Addr) (N : Int32) (bs : List Int32) (h : Heap) (n0 : Nat) (v : Option Value) (h' : Heap) (L : List Loc) : Prop := v = none ∧ RoadKit.Fr n0 L ∧ RoadKit.Keep h h' [x] ∧ RoadKit.Exa Z h' x ST ∧ RoadKit.Fld Z h' x ST "coder" "B" (.int 0) ∧
  ∃ (t : Addr) (kb : ClassId), n0 ≤ t ∧ h.size ≤ t ∧ ¬ t = x ∧ RoadKit.Fld Z h' x ST "value" "[B" (.ref t) ∧ RoadKit.Arv Z h' t kb .byte N (bs.map Value.int) (.int 0)
/-- **new String(chars) AT A CALL, FOR THE WRITER**: a char[] of n known ints, each 0 to 255 -/
theorem backV {p : Program} {l : Launch} {e : Env} {R : Room} {s : State} {args : Array Value} {below : List Frame} {len W : Nat} {Z : State} {a0 : Array Value} {h : Heap} (hZ : Z.Warmed39 s.vm) (hw : ∀ d ∈ words, d.before a0 Z = true) {kI : Nat} (wi : (Jvm.Cond.instantiable ST kI).before a0 Z = true)
    {x b : Addr} {kC : ClassId} {cs bs : List Int32} {d v0 c0 : Value} {z N : Int32} {n n0 : Nat} (hx0 : n0 ≤ x) (hh0 : n0 ≤ h.size) (E : RoadKit.Exa Z h x ST) (V : RoadKit.Fld Z h x ST "value" "[B" v0) (C : RoadKit.Fld Z h x ST "coder" "B" c0) (K : RoadKit.Arv Z h b kC .char N (cs.map Value.int) d) (S : RoadKit.Sta Z h ST "COMPACT_STRINGS" "Z" (.int z)) (hz : ¬ z = 0)
    (hn : cs.length = n) (hN : N = Int32.ofNat n) (l0 : 0 < n) (l2 : n ≤ 4000) (hp : ∀ c ∈ cs, ¬ c < 0 ∧ ¬ (255 : Int32) < c) (hb : bs = cs.map (fun c => c.toInt8.toInt32)) (hfr : 4 ≤ R.frames) (hlo : W + 65 ≤ R.locals) :
    Back l R p e below s args (⟨"java/lang/String", "<init>", "([C)V"⟩ : MethodName) len W (fun P a => a = #[.ref x, .ref b] ∧ P.U.heap = h ∧ P.cells + 1 ≤ R.cells ∧ P.slots + n ≤ R.slots)
      (fun P _ v B => ∃ L, QV Z x N bs h n0 v B.U.heap L ∧ B.locs = P.locs ++ L ∧ B.cells = P.cells + 1 ∧ B.slots = P.slots + n) := by
  subst hn hN hb
  refine Back.mono (backArv hZ hw wi E V C K S hz (n32 (by omega)) l0 (by omega) (fun c hc => (hp c hc).2) hfr hlo) (fun P a hp => hp) (fun P a v B hp hq => ?_)
  obtain ⟨L, ⟨q1, q2, q3, q4, q5, q6, q7, ⟨kb, v1, v2⟩, q9⟩, hl, hc, hs⟩ := hq
  exact ⟨L, ⟨q1, fun y hy => by rw [q2 y hy]; exact hx0, q3, q5, q7, h.size, kb, hh0, Nat.le_refl _, Nat.ne_of_gt E.lt, q6, by rw [List.map_map]; exact v2⟩, hl, hc, hs⟩
end StrChars.Road
namespace StrChars
open Jvm Sem ClassFile Op Lib Jvm.Stand Jvm.Free.XT Jvm.Free.ALB Jvm.Free.JM Jvm.Free
open Jvm.Lib.Cold (StaticIs)
def hi8 (x : Int32) : Int32 := lo8 (x >>> ((8 : Int32) &&& 31))
/-- what StringUTF16.getChar makes of two bytes -/
def pairCh (u v : Int32) : Int32 := (((u &&& 255) <<< ((0 : Int32) &&& 31)) ||| ((v &&& 255) <<< ((8 : Int32) &&& 31))).toUInt32.toUInt16.toUInt32.toInt32
theorem shr0 (c : Int32) : c >>> ((0 : Int32) &&& 31) = c := by
  have e : ((0 : Int32) &&& 31) = 0 := by decide
  rw [e]
  apply Int32.toBitVec_inj.mp
  rw [Int32.toBitVec_shiftRight]
  have e1 : ((0 : Int32).toBitVec.smod 32) = 0#32 := by decide
  rw [e1, BitVec.sshiftRight_eq']
  exact BitVec.sshiftRight_zero
theorem lo8_and (x : Int32) : (lo8 x &&& 255).toBitVec.toNat = x.toBitVec.toNat % 256 := by
  have h : (lo8 x).toBitVec = (x.toBitVec.signExtend 8).signExtend 32 := by rw [lo8, Int8.toBitVec_toInt32, Int32.toBitVec_toInt8]
  rw [Int32.toBitVec_and, BitVec.toNat_and, h]
  have e : ((x.toBitVec.signExtend 8).signExtend 32).toNat % 256 = x.toBitVec.toNat % 256 := by
    rw [BitVec.toNat_signExtend]
    have hlt := x.toBitVec.isLt
    simp only [BitVec.toNat_setWidth, BitVec.toNat_signExtend]
    split <;> split <;> omega
  rw [← e]
  exact Nat.and_two_pow_sub_one_eq_mod _ 8
theorem pair_says {c : Int32} (h0 : ¬ c < 0) (h1 : ¬ 65535 < c) : pairCh (lo8 c) (hi8 c) = c := by
  rw [Int32.lt_iff_toInt_lt] at h0 h1
  have e0 : (0 : Int32).toInt = 0 := rfl
  have e1 : (65535 : Int32).toInt = 65535 := rfl
  have hc : c.toInt = c.toBitVec.toNat := by
    have := c.toBitVec.isLt
    have e : c.toInt = c.toBitVec.toInt := rfl
    rw [e] at h0 h1
    rw [e]
    rw [BitVec.toInt_eq_toNat_cond] at h0 h1 ⊢
    split at h0 <;> split <;> omega
  have hn : c.toBitVec.toNat < 65536 := by omega
  have a1 := lo8_and c
  have a2 : (hi8 c &&& 255).toBitVec.toNat = c.toBitVec.toNat / 256 := by
    rw [hi8, lo8_and]
    have e : ((8 : Int32) &&& 31) = 8 := by decide
    rw [e, Int32.toBitVec_shiftRight]
    have e2 : ((8 : Int32).toBitVec.smod 32) = 8#32 := by decide
    rw [e2, BitVec.sshiftRight_eq', BitVec.toNat_sshiftRight_of_msb_false (by rw [BitVec.msb_eq_false_iff_two_mul_lt]; omega)]
    show c.toBitVec.toNat >>> 8 % 256 = _
    rw [Nat.shiftRight_eq_div_pow]
    omega
  unfold pairCh
  apply Int32.toBitVec_inj.mp
  apply BitVec.eq_of_toNat_eq
  have f0 : ((0 : Int32) &&& 31) = 0 := by decide
  have f8 : ((8 : Int32) &&& 31) = 8 := by decide
  rw [f0, f8]
  have g : (((lo8 c &&& 255) <<< (0 : Int32)) ||| ((hi8 c &&& 255) <<< (8 : Int32))).toBitVec.toNat = c.toBitVec.toNat := by
    rw [Int32.toBitVec_or, Int32.toBitVec_shiftLeft, Int32.toBitVec_shiftLeft]
    have s0 : ((0 : Int32).toBitVec.smod 32) = 0#32 := by decide
    have s8 : ((8 : Int32).toBitVec.smod 32) = 8#32 := by decide
    rw [s0, s8, BitVec.toNat_or]
    simp only [BitVec.shiftLeft_eq', BitVec.toNat_shiftLeft, a1, a2]
    show (c.toBitVec.toNat % 256) <<< 0 % 2 ^ 32 ||| (c.toBitVec.toNat / 256) <<< 8 % 2 ^ 32 = _
    rw [Nat.shiftLeft_zero, Nat.mod_eq_of_lt (show c.toBitVec.toNat % 256 < 2 ^ 32 by omega), Nat.mod_eq_of_lt (show (c.toBitVec.toNat / 256) <<< 8 < 2 ^ 32 by rw [Nat.shiftLeft_eq]; omega), Nat.or_comm, ← Nat.shiftLeft_add_eq_or_of_lt (by omega), Nat.shiftLeft_eq]
    omega
  show BitVec.toNat (((((lo8 c &&& 255) <<< (0 : Int32)) ||| ((hi8 c &&& 255) <<< (8 : Int32))).toBitVec.setWidth 16).setWidth 32) = _
  rw [BitVec.toNat_setWidth, BitVec.toNat_setWidth, g]
  omega
end StrChars
namespace StrChars
open Jvm Sem ClassFile Op Lib Jvm.Stand Jvm.Free.XT Jvm.Free.ALB Jvm.Free.JM Jvm.Free
open Jvm.Lib.Cold (StaticIs)
theorem lo8_inj {x y : Int32} (h0 : ¬ x < 0) (h1 : ¬ 255 < x) (k0 : ¬ y < 0) (k1 : ¬ 255 < y) (h : lo8 x = lo8 y) : x = y := by
  rw [← lo8_mask h0 h1, ← lo8_mask k0 k1, h]
end StrChars
end Jvm.Pilot.@@N@@
namespace Jvm.Pilot.@@N@@
open Jvm Jvm.ClassFile Sem Op Lib Jvm.Free Jvm.Stand Jvm.LawKit Jvm.RoadKit Bundle Jvm.Pilot.@@N@@.Jvm.D
/-! A walk in continuation form over the library's Stand (one rule an instruction; the state T, the tables, the written places and the start's tables are hidden in Wk). -/
abbrev Cx : Type := Program × Launch × Env × Room × State × MethodId × Array Value × List Frame × Method × Code × Bool × (Option Value → Heap → Prop)
/-- what is known of the tables at hand: Cln: the start's own (nothing interned so far); Dty: nothing -/
abbrev Ph : Type := State → Vm → Prop
def Cln : Ph := fun s v => v = s.vm
def Dty : Ph := fun _ _ => True
def PhA : Bool → Ph → Ph
  | false, ph => ph
  | true, _ => Dty
abbrev Els : Type := List (String × Nat)
theorem chv_nil {Z : State} {vm : Vm} {h : Heap} : CHv Z [] vm h := fun p hp => by cases hp
def Cx.me (K : Cx) : MethodId := K.2.2.2.2.2.1
def EndW : Bool → State → Outcome → State → List Loc → Nat → Nat → Prop
  | false, s, o, t, L, k, n => FrameEnd s o t L k n
  | true, s, o, t, L, k, n => ReturnedEndW s o t L k n
def Pst (Z : State) (n : Nat) (Q : Option Value → Heap → Prop) (v : Option Value) (h : Heap) (L : List Loc) : Prop := Q v h ∧ Fr Z.heap.size L ∧ Ext Z.heap h ∧ n ≤ h.size
def rV (Q : Value → Heap → Prop) (v : Option Value) (h : Heap) : Prop := ∃ x, v = some x ∧ Q x h
def rU (Q : Heap → Prop) (v : Option Value) (h : Heap) : Prop := v = none ∧ Q h
def Wk (Z : State) : Cx → Ph → State → Heap → Nat → Nat → Prop
  | (p, l, e, R, s, m, args, below, meth, c, w, Q), ph, T, h, n1, n2 => ∃ vm0 k0 locs, Stand p l e R (s.setVm vm0) m args below meth c T locs n1 n2 ∧ s.Since vm0 k0 ∧ k0 ≤ T.heap.size ∧ Z.Warmed39 vm0 ∧ Fr Z.heap.size locs ∧ T.heap = h ∧ ph s vm0
def Go (Z : State) : Cx → State → Prop
  | (p, l, e, R, s, m, args, below, meth, c, w, Q), st => ∃ s₂ o, Steps p.tables e below st s₂ ∧ s₂.status = .running ∧ Ended s₂ below o ∧ ∃ v L, o = .returned v ∧ Pst Z s.heap.size Q v s₂.heap L ∧ EndW w s o s₂ L R.cells R.slots
def Run (Z : State) (K : Cx) (ph : Ph) (h : Heap) (n1 n2 pc : Nat) (ls : Array Slot) (st : List Value) : Prop := ∀ T, Ext Z.heap h → Wk Z K ph T h n1 n2 → Go Z K (T.setTop (mkF K.me pc ls st))
def Ok (Z : State) : Cx → Els → String → ByteArray → Nat → Option FieldType → String → Room → Launch → Bool → (Option Value → Heap → Prop) → Prop
  | (p, l, e, R, s, m, args, below, meth, c, w, Q), EL, own, code, maxL, ret, nm, R0, l0, w0, Q0 => p.tables.exec = Jvm.exec ∧ c.code = code ∧ c.maxLocals = maxL ∧ (∀ vm0, Z.Warmed39 vm0 → vm0.findClass own = some m.cls) ∧ meth.sig.returnType = ret ∧ meth.locks = false ∧ meth.name = nm ∧ R = R0 ∧ l = l0 ∧ w = w0 ∧ Q = Q0 ∧ CHv Z EL s.vm Z.heap
def Con (l : Launch) (Z : State) (EL : Els) (ws : List Jvm.Cond) (w : Bool) (y : MethodName) (bytes : ByteArray) (maxL : Nat) (ret : Option FieldType) (R : Room) (as : Array Value) (h0 : Heap) (Q : Option Value → Heap → Prop) : Prop :=
  Ext Z.heap h0 → MetFree l y (head1 (Jvm.Cond.code y bytes maxL ret :: ws) R) (fun a U => a = as ∧ Z.Warmed39 U.vm ∧ U.heap = h0 ∧ CHv Z EL U.vm Z.heap) (fun _ _ _ _ _ => True) (fun _ U o U' => ∃ v L, o = .returned v ∧ Pst Z h0.size Q v U'.heap L ∧ EndW w U o U' L R.cells R.slots)
def Pay (Z : State) (EL : Els) : Bool → Launch → Room → MethodName → Nat → Nat → Array Value → Heap → Nat → Nat → (Option Value → Heap → Prop) → Prop
  | false, l, R, y, len, W, as, h, k, n, Q => ∀ (p : Program) (e : Env) (below : List Frame) (s : State) (args : Array Value), Z.Warmed39 s.vm → CHv Z EL s.vm Z.heap → Ext Z.heap h →
      Back l R p e below s args y len W (fun A a => a = as ∧ A.U.heap = h ∧ A.cells + k ≤ R.cells ∧ A.slots + n ≤ R.slots) (fun A _ v B => ∃ L, Pst Z h.size Q v B.U.heap L ∧ B.locs = A.locs ++ L ∧ B.cells = A.cells + k ∧ B.slots = A.slots + n)
  | true, l, R, y, len, W, as, h, k, n, Q => ∀ (p : Program) (e : Env) (below : List Frame) (s : State) (args : Array Value), Z.Warmed39 s.vm → CHv Z EL s.vm Z.heap → Ext Z.heap h →
      BackS l R p e below s args y len W (fun A a => a = as ∧ A.U.heap = h ∧ A.cells + k ≤ R.cells ∧ A.slots + n ≤ R.slots) (fun A _ v B => ∃ L, Pst Z h.size Q v B.U.heap L ∧ B.locs = A.locs ++ L ∧ B.cells = A.cells + k ∧ B.slots = A.slots + n)
section Walk
variable {Z : State} {K : Cx} {EL : Els} {ph : Ph} {own : String} {code : ByteArray} {maxL : Nat} {ret : Option FieldType} {nm : String} {R : Room} {l : Launch} {w : Bool} {Q : Option Value → Heap → Prop} {h : Heap} {n1 n2 pc pc' pcY : Nat} {ls ls' : Array Slot} {st st' : List Value} {a0 : Array Value}
theorem rS (ok : Ok Z K EL own code maxL ret nm R l w Q) (hr : Run Z K ph h n1 n2 pc' ls' st')
    (f : ∀ (p : Program) (e : Env) (below : List Frame) (m : MethodId) (c : Code) (T : State), At T m c below → p.tables.exec = Jvm.exec → c.code = code → ∀ t, Steps p.tables e below (T.setTop (mkF m pc' ls' st')) t → Steps p.tables e below (T.setTop (mkF m pc ls st)) t) : Run Z K ph h n1 n2 pc ls st := by
  obtain ⟨p, l1, e, R1, s, m, args, below, meth, c, w1, Q1⟩ := K
  obtain ⟨hx, hby, -⟩ := ok
  intro T X W
  obtain ⟨s₂, o, h1, r⟩ := hr T X W
  obtain ⟨vm0, k0, locs, S, -⟩ := W
  exact ⟨s₂, o, f p e below m c T S.here hx hby _ h1, r⟩
theorem rX (ok : Ok Z K EL own code maxL ret nm R l w Q) (hr : Run Z K ph h n1 n2 pc' ls' st')
    (f : ∀ (p : Program) (e : Env) (s : State) (m : MethodId) (args : Array Value) (below : List Frame) (meth : Method) (c : Code) (T : State) (locs : List Loc), Stand p l e R s m args below meth c T locs n1 n2 → p.tables.exec = Jvm.exec → c.code = code → Z.Warmed39 s.vm → s.vm.findClass own = some m.cls → T.heap = h →
      ∀ t, Steps p.tables e below (T.setTop (mkF m pc' ls' st')) t → Steps p.tables e below (T.setTop (mkF m pc ls st)) t) : Run Z K ph h n1 n2 pc ls st := by
  obtain ⟨p, l1, e, R1, s, m, args, below, meth, c, w1, Q1⟩ := K
  obtain ⟨hx, hby, -, ho, -, -, -, rfl, rfl, -⟩ := ok
  intro T X W
  obtain ⟨s₂, o, h1, r⟩ := hr T X W
  obtain ⟨vm0, k0, locs, S, -, -, hZ, -, eT, -⟩ := W
  exact ⟨s₂, o, f p e (s.setVm vm0) m args below meth c T locs S hx hby hZ (ho vm0 hZ) eT _ h1, r⟩
theorem rH (ok : Ok Z K EL own code maxL ret nm R l w Q) {P : Heap → Prop} {m1 m2 : Nat}
    (f : ∀ (p : Program) (e : Env) (s : State) (m : MethodId) (args : Array Value) (below : List Frame) (meth : Method) (c : Code) (T : State) (locs : List Loc), Stand p l e R s m args below meth c T locs n1 n2 → p.tables.exec = Jvm.exec → c.code = code → c.maxLocals = maxL → Z.Warmed39 s.vm → s.vm.findClass own = some m.cls → meth.name = nm → T.heap = h → Ext Z.heap h →
      ∃ T' h' L, Stand p l e R s m args below meth c T' (locs ++ L) m1 m2 ∧ T'.heap = h' ∧ Fr Z.heap.size L ∧ h.size ≤ h'.size ∧ Ext Z.heap h' ∧ P h' ∧ ∀ t, Steps p.tables e below (T'.setTop (mkF m pc' ls' st')) t → Steps p.tables e below (T.setTop (mkF m pc ls st)) t)
    (hr : ∀ h', P h' → Run Z K ph h' m1 m2 pc' ls' st') : Run Z K ph h n1 n2 pc ls st := by
  obtain ⟨p, l1, e, R1, s, m, args, below, meth, c, w1, Q1⟩ := K
  obtain ⟨hx, hby, hml, ho, hret, hlk, hnm, rfl, rfl, rfl, rfl, hCH⟩ := ok
  intro T X W
  obtain ⟨vm0, k0, locs, S, hS, hk, hZ, hF, eT, hw⟩ := W
  obtain ⟨T', h', L, S', eT', hL, hle, hX', hP, hst⟩ := f p e (s.setVm vm0) m args below meth c T locs S hx hby hml hZ (ho vm0 hZ) hnm eT X
  obtain ⟨s₂, o, h1, r⟩ := hr h' hP T' hX' ⟨vm0, k0, locs ++ L, S', hS, by rw [eT']; rw [eT] at hk; exact Nat.le_trans hk hle, hZ, hF.app hL, eT', hw⟩
  exact ⟨s₂, o, hst _ h1, r⟩
theorem r_old (f : Ext Z.heap h → Run Z K ph h n1 n2 pc ls st) : Run Z K ph h n1 n2 pc ls st := fun T X W => f X T X W
theorem r_more {m1 m2 : Nat} (hc : n1 ≤ m1) (hn : n2 ≤ m2) (hr : Run Z K ph h m1 m2 pc ls st) : Run Z K ph h n1 n2 pc ls st := by
  obtain ⟨p, l1, e, R1, s, m, args, below, meth, c, w1, Q1⟩ := K
  intro T X W
  obtain ⟨vm0, k0, locs, S, r⟩ := W
  exact hr T X ⟨vm0, k0, locs, S.more hc hn, r⟩

theorem r_iadd (ok : Ok Z K EL own code maxL ret nm R l w Q) (hp : pc + 1 = pc') {x y : Int32} (hd : decode code pc = .ok (.iadd, 1)) (hr : Run Z K ph h n1 n2 pc' ls (.int (x + y) :: st)) : Run Z K ph h n1 n2 pc ls (.int y :: .int x :: st) := by
  subst hp; exact rS ok hr fun p e below m c T A hx hby t => XS.iadd (g := mkF m pc ls (.int y :: .int x :: st)) A hx rfl (hb hby hd) rfl
theorem r_isub (ok : Ok Z K EL own code maxL ret nm R l w Q) (hp : pc + 1 = pc') {x y : Int32} (hd : decode code pc = .ok (.isub, 1)) (hr : Run Z K ph h n1 n2 pc' ls (.int (x - y) :: st)) : Run Z K ph h n1 n2 pc ls (.int y :: .int x :: st) := by
  subst hp; exact rS ok hr fun p e below m c T A hx hby t => XS.isub (g := mkF m pc ls (.int y :: .int x :: st)) A hx rfl (hb hby hd) rfl
theorem r_imul (ok : Ok Z K EL own code maxL ret nm R l w Q) (hp : pc + 1 = pc') {x y : Int32} (hd : decode code pc = .ok (.imul, 1)) (hr : Run Z K ph h n1 n2 pc' ls (.int (x * y) :: st)) : Run Z K ph h n1 n2 pc ls (.int y :: .int x :: st) := by
  subst hp; exact rS ok hr fun p e below m c T A hx hby t => XS.imul (g := mkF m pc ls (.int y :: .int x :: st)) A hx rfl (hb hby hd) rfl
theorem r_iand (ok : Ok Z K EL own code maxL ret nm R l w Q) (hp : pc + 1 = pc') {x y : Int32} (hd : decode code pc = .ok (.iand, 1)) (hr : Run Z K ph h n1 n2 pc' ls (.int (x &&& y) :: st)) : Run Z K ph h n1 n2 pc ls (.int y :: .int x :: st) := by
  subst hp; exact rS ok hr fun p e below m c T A hx hby t => XS.iand (g := mkF m pc ls (.int y :: .int x :: st)) A hx rfl (hb hby hd) rfl
theorem r_ior (ok : Ok Z K EL own code maxL ret nm R l w Q) (hp : pc + 1 = pc') {x y : Int32} (hd : decode code pc = .ok (.ior, 1)) (hr : Run Z K ph h n1 n2 pc' ls (.int (x ||| y) :: st)) : Run Z K ph h n1 n2 pc ls (.int y :: .int x :: st) := by
  subst hp; exact rS ok hr fun p e below m c T A hx hby t => XS.ior (g := mkF m pc ls (.int y :: .int x :: st)) A hx rfl (hb hby hd) rfl
theorem r_ixor (ok : Ok Z K EL own code maxL ret nm R l w Q) (hp : pc + 1 = pc') {x y : Int32} (hd : decode code pc = .ok (.ixor, 1)) (hr : Run Z K ph h n1 n2 pc' ls (.int (x ^^^ y) :: st)) : Run Z K ph h n1 n2 pc ls (.int y :: .int x :: st) := by
  subst hp; exact rS ok hr fun p e below m c T A hx hby t => XS.ixor (g := mkF m pc ls (.int y :: .int x :: st)) A hx rfl (hb hby hd) rfl
theorem r_ishl (ok : Ok Z K EL own code maxL ret nm R l w Q) (hp : pc + 1 = pc') {x y : Int32} (hd : decode code pc = .ok (.ishl, 1)) (hr : Run Z K ph h n1 n2 pc' ls (.int (x <<< (y &&& 31)) :: st)) : Run Z K ph h n1 n2 pc ls (.int y :: .int x :: st) := by
  subst hp; exact rS ok hr fun p e below m c T A hx hby t => XS.ishl (g := mkF m pc ls (.int y :: .int x :: st)) A hx rfl (hb hby hd) rfl
theorem r_ishr (ok : Ok Z K EL own code maxL ret nm R l w Q) (hp : pc + 1 = pc') {x y : Int32} (hd : decode code pc = .ok (.ishr, 1)) (hr : Run Z K ph h n1 n2 pc' ls (.int (x >>> (y &&& 31)) :: st)) : Run Z K ph h n1 n2 pc ls (.int y :: .int x :: st) := by
  subst hp; exact rS ok hr fun p e below m c T A hx hby t => XS.ishr (g := mkF m pc ls (.int y :: .int x :: st)) A hx rfl (hb hby hd) rfl
theorem r_iushr (ok : Ok Z K EL own code maxL ret nm R l w Q) (hp : pc + 1 = pc') {x y : Int32} (hd : decode code pc = .ok (.iushr, 1)) (hr : Run Z K ph h n1 n2 pc' ls (.int ((x.toUInt32 >>> (y &&& 31).toUInt32).toInt32) :: st)) : Run Z K ph h n1 n2 pc ls (.int y :: .int x :: st) := by
  subst hp; exact rS ok hr fun p e below m c T A hx hby t => XS.iushr (g := mkF m pc ls (.int y :: .int x :: st)) A hx rfl (hb hby hd) rfl
theorem r_ladd (ok : Ok Z K EL own code maxL ret nm R l w Q) (hp : pc + 1 = pc') {x y : Int64} (hd : decode code pc = .ok (.ladd, 1)) (hr : Run Z K ph h n1 n2 pc' ls (.long (x + y) :: st)) : Run Z K ph h n1 n2 pc ls (.long y :: .long x :: st) := by
  subst hp; exact rS ok hr fun p e below m c T A hx hby t => XS.ladd (g := mkF m pc ls (.long y :: .long x :: st)) A hx rfl (hb hby hd) rfl
theorem r_lsub (ok : Ok Z K EL own code maxL ret nm R l w Q) (hp : pc + 1 = pc') {x y : Int64} (hd : decode code pc = .ok (.lsub, 1)) (hr : Run Z K ph h n1 n2 pc' ls (.long (x - y) :: st)) : Run Z K ph h n1 n2 pc ls (.long y :: .long x :: st) := by
  subst hp; exact rS ok hr fun p e below m c T A hx hby t => XS.lsub (g := mkF m pc ls (.long y :: .long x :: st)) A hx rfl (hb hby hd) rfl
theorem r_lmul (ok : Ok Z K EL own code maxL ret nm R l w Q) (hp : pc + 1 = pc') {x y : Int64} (hd : decode code pc = .ok (.lmul, 1)) (hr : Run Z K ph h n1 n2 pc' ls (.long (x * y) :: st)) : Run Z K ph h n1 n2 pc ls (.long y :: .long x :: st) := by
  subst hp; exact rS ok hr fun p e below m c T A hx hby t => XS.lmul (g := mkF m pc ls (.long y :: .long x :: st)) A hx rfl (hb hby hd) rfl
theorem r_land (ok : Ok Z K EL own code maxL ret nm R l w Q) (hp : pc + 1 = pc') {x y : Int64} (hd : decode code pc = .ok (.land, 1)) (hr : Run Z K ph h n1 n2 pc' ls (.long (x &&& y) :: st)) : Run Z K ph h n1 n2 pc ls (.long y :: .long x :: st) := by
  subst hp; exact rS ok hr fun p e below m c T A hx hby t => XS.land (g := mkF m pc ls (.long y :: .long x :: st)) A hx rfl (hb hby hd) rfl
theorem r_lor (ok : Ok Z K EL own code maxL ret nm R l w Q) (hp : pc + 1 = pc') {x y : Int64} (hd : decode code pc = .ok (.lor, 1)) (hr : Run Z K ph h n1 n2 pc' ls (.long (x ||| y) :: st)) : Run Z K ph h n1 n2 pc ls (.long y :: .long x :: st) := by
  subst hp; exact rS ok hr fun p e below m c T A hx hby t => XS.lor (g := mkF m pc ls (.long y :: .long x :: st)) A hx rfl (hb hby hd) rfl
theorem r_lxor (ok : Ok Z K EL own code maxL ret nm R l w Q) (hp : pc + 1 = pc') {x y : Int64} (hd : decode code pc = .ok (.lxor, 1)) (hr : Run Z K ph h n1 n2 pc' ls (.long (x ^^^ y) :: st)) : Run Z K ph h n1 n2 pc ls (.long y :: .long x :: st) := by
  subst hp; exact rS ok hr fun p e below m c T A hx hby t => XS.lxor (g := mkF m pc ls (.long y :: .long x :: st)) A hx rfl (hb hby hd) rfl
theorem r_lshl (ok : Ok Z K EL own code maxL ret nm R l w Q) (hp : pc + 1 = pc') {x : Int64} {y : Int32} (hd : decode code pc = .ok (.lshl, 1)) (hr : Run Z K ph h n1 n2 pc' ls (.long (x <<< (y &&& 0x3f).toInt64) :: st)) : Run Z K ph h n1 n2 pc ls (.int y :: .long x :: st) := by
  subst hp; exact rS ok hr fun p e below m c T A hx hby t => XS.lshl (g := mkF m pc ls (.int y :: .long x :: st)) A hx rfl (hb hby hd) rfl
theorem r_lshr (ok : Ok Z K EL own code maxL ret nm R l w Q) (hp : pc + 1 = pc') {x : Int64} {y : Int32} (hd : decode code pc = .ok (.lshr, 1)) (hr : Run Z K ph h n1 n2 pc' ls (.long (x >>> (y &&& 0x3f).toInt64) :: st)) : Run Z K ph h n1 n2 pc ls (.int y :: .long x :: st) := by
  subst hp; exact rS ok hr fun p e below m c T A hx hby t => XS.lshr (g := mkF m pc ls (.int y :: .long x :: st)) A hx rfl (hb hby hd) rfl
theorem r_lushr (ok : Ok Z K EL own code maxL ret nm R l w Q) (hp : pc + 1 = pc') {x : Int64} {y : Int32} (hd : decode code pc = .ok (.lushr, 1)) (hr : Run Z K ph h n1 n2 pc' ls (.long ((x.toUInt64 >>> (y &&& 0x3f).toInt64.toUInt64).toInt64) :: st)) : Run Z K ph h n1 n2 pc ls (.int y :: .long x :: st) := by
  subst hp; exact rS ok hr fun p e below m c T A hx hby t => XS.lushr (g := mkF m pc ls (.int y :: .long x :: st)) A hx rfl (hb hby hd) rfl
theorem r_ineg (ok : Ok Z K EL own code maxL ret nm R l w Q) (hp : pc + 1 = pc') {x : Int32} (hd : decode code pc = .ok (.ineg, 1)) (hr : Run Z K ph h n1 n2 pc' ls (.int (-x) :: st)) : Run Z K ph h n1 n2 pc ls (.int x :: st) := by
  subst hp; exact rS ok hr fun p e below m c T A hx hby t => XS.ineg (g := mkF m pc ls (.int x :: st)) A hx rfl (hb hby hd) rfl
theorem r_lneg (ok : Ok Z K EL own code maxL ret nm R l w Q) (hp : pc + 1 = pc') {x : Int64} (hd : decode code pc = .ok (.lneg, 1)) (hr : Run Z K ph h n1 n2 pc' ls (.long (-x) :: st)) : Run Z K ph h n1 n2 pc ls (.long x :: st) := by
  subst hp; exact rS ok hr fun p e below m c T A hx hby t => XS.lneg (g := mkF m pc ls (.long x :: st)) A hx rfl (hb hby hd) rfl
theorem r_i2l (ok : Ok Z K EL own code maxL ret nm R l w Q) (hp : pc + 1 = pc') {x : Int32} (hd : decode code pc = .ok (.i2l, 1)) (hr : Run Z K ph h n1 n2 pc' ls (.long (x.toInt64) :: st)) : Run Z K ph h n1 n2 pc ls (.int x :: st) := by
  subst hp; exact rS ok hr fun p e below m c T A hx hby t => XS.i2l (g := mkF m pc ls (.int x :: st)) A hx rfl (hb hby hd) rfl
theorem r_l2i (ok : Ok Z K EL own code maxL ret nm R l w Q) (hp : pc + 1 = pc') {x : Int64} (hd : decode code pc = .ok (.l2i, 1)) (hr : Run Z K ph h n1 n2 pc' ls (.int (x.toInt32) :: st)) : Run Z K ph h n1 n2 pc ls (.long x :: st) := by
  subst hp; exact rS ok hr fun p e below m c T A hx hby t => XS.l2i (g := mkF m pc ls (.long x :: st)) A hx rfl (hb hby hd) rfl
theorem r_i2b (ok : Ok Z K EL own code maxL ret nm R l w Q) (hp : pc + 1 = pc') {x : Int32} (hd : decode code pc = .ok (.i2b, 1)) (hr : Run Z K ph h n1 n2 pc' ls (.int (x.toInt8.toInt32) :: st)) : Run Z K ph h n1 n2 pc ls (.int x :: st) := by
  subst hp; exact rS ok hr fun p e below m c T A hx hby t => XS.i2b (g := mkF m pc ls (.int x :: st)) A hx rfl (hb hby hd) rfl
theorem r_i2s (ok : Ok Z K EL own code maxL ret nm R l w Q) (hp : pc + 1 = pc') {x : Int32} (hd : decode code pc = .ok (.i2s, 1)) (hr : Run Z K ph h n1 n2 pc' ls (.int (x.toInt16.toInt32) :: st)) : Run Z K ph h n1 n2 pc ls (.int x :: st) := by
  subst hp; exact rS ok hr fun p e below m c T A hx hby t => XS.i2s (g := mkF m pc ls (.int x :: st)) A hx rfl (hb hby hd) rfl
theorem r_i2c (ok : Ok Z K EL own code maxL ret nm R l w Q) (hp : pc + 1 = pc') {x : Int32} (hd : decode code pc = .ok (.i2c, 1)) (hr : Run Z K ph h n1 n2 pc' ls (.int (x.toUInt32.toUInt16.toUInt32.toInt32) :: st)) : Run Z K ph h n1 n2 pc ls (.int x :: st) := by
  subst hp; exact rS ok hr fun p e below m c T A hx hby t => XS.i2c (g := mkF m pc ls (.int x :: st)) A hx rfl (hb hby hd) rfl
theorem r_iload (ok : Ok Z K EL own code maxL ret nm R l w Q) (hp : pc + 2 = pc') {k : Nat} {v : Int32} (hd : decode code pc = .ok (.iload k, 2)) (hl : ls[k]? = some (.val (.int v))) (hr : Run Z K ph h n1 n2 pc' ls (.int v :: st)) : Run Z K ph h n1 n2 pc ls st := by
  subst hp; exact rS ok hr fun p e below m c T A hx hby t => XS.iload (g := mkF m pc ls st) A hx rfl (hb hby hd) hl
theorem r_iloadN (ok : Ok Z K EL own code maxL ret nm R l w Q) (hp : pc + 1 = pc') {k : Fin 4} {v : Int32} (hd : decode code pc = .ok (.iload_n k, 1)) (hl : ls[k.val]? = some (.val (.int v))) (hr : Run Z K ph h n1 n2 pc' ls (.int v :: st)) : Run Z K ph h n1 n2 pc ls st := by
  subst hp; exact rS ok hr fun p e below m c T A hx hby t => XS.iloadN (g := mkF m pc ls st) A hx rfl (hb hby hd) hl
theorem r_istore (ok : Ok Z K EL own code maxL ret nm R l w Q) (hp : pc + 2 = pc') {x : Int32} {k : Nat} {ls' : Int32 → Array Slot} (hd : decode code pc = .ok (.istore k, 2)) (hl : ∀ z, storeLocals ls k (.int z) = some (ls' z)) (hr : ∀ z, z = x → Run Z K ph h n1 n2 pc' (ls' z) st) : Run Z K ph h n1 n2 pc ls (.int x :: st) := by
  subst hp; exact rS ok (hr x rfl) fun p e below m c T A hx hby t => XS.istore (g := mkF m pc ls (.int x :: st)) A hx rfl (hb hby hd) rfl (hl x)
theorem r_istoreN (ok : Ok Z K EL own code maxL ret nm R l w Q) (hp : pc + 1 = pc') {x : Int32} {k : Fin 4} {ls' : Int32 → Array Slot} (hd : decode code pc = .ok (.istore_n k, 1)) (hl : ∀ z, storeLocals ls k.val (.int z) = some (ls' z)) (hr : ∀ z, z = x → Run Z K ph h n1 n2 pc' (ls' z) st) : Run Z K ph h n1 n2 pc ls (.int x :: st) := by
  subst hp; exact rS ok (hr x rfl) fun p e below m c T A hx hby t => XS.istoreN (g := mkF m pc ls (.int x :: st)) A hx rfl (hb hby hd) rfl (hl x)
theorem r_lload (ok : Ok Z K EL own code maxL ret nm R l w Q) (hp : pc + 2 = pc') {k : Nat} {v : Int64} (hd : decode code pc = .ok (.lload k, 2)) (hl : ls[k]? = some (.val (.long v))) (hr : Run Z K ph h n1 n2 pc' ls (.long v :: st)) : Run Z K ph h n1 n2 pc ls st := by
  subst hp; exact rS ok hr fun p e below m c T A hx hby t => XS.lload (g := mkF m pc ls st) A hx rfl (hb hby hd) hl
theorem r_lloadN (ok : Ok Z K EL own code maxL ret nm R l w Q) (hp : pc + 1 = pc') {k : Fin 4} {v : Int64} (hd : decode code pc = .ok (.lload_n k, 1)) (hl : ls[k.val]? = some (.val (.long v))) (hr : Run Z K ph h n1 n2 pc' ls (.long v :: st)) : Run Z K ph h n1 n2 pc ls st := by
  subst hp; exact rS ok hr fun p e below m c T A hx hby t => XS.lloadN (g := mkF m pc ls st) A hx rfl (hb hby hd) hl
theorem r_lstore (ok : Ok Z K EL own code maxL ret nm R l w Q) (hp : pc + 2 = pc') {x : Int64} {k : Nat} {ls' : Int64 → Array Slot} (hd : decode code pc = .ok (.lstore k, 2)) (hl : ∀ z, storeLocals ls k (.long z) = some (ls' z)) (hr : ∀ z, z = x → Run Z K ph h n1 n2 pc' (ls' z) st) : Run Z K ph h n1 n2 pc ls (.long x :: st) := by
  subst hp; exact rS ok (hr x rfl) fun p e below m c T A hx hby t => XS.lstore (g := mkF m pc ls (.long x :: st)) A hx rfl (hb hby hd) rfl (hl x)
theorem r_lstoreN (ok : Ok Z K EL own code maxL ret nm R l w Q) (hp : pc + 1 = pc') {x : Int64} {k : Fin 4} {ls' : Int64 → Array Slot} (hd : decode code pc = .ok (.lstore_n k, 1)) (hl : ∀ z, storeLocals ls k.val (.long z) = some (ls' z)) (hr : ∀ z, z = x → Run Z K ph h n1 n2 pc' (ls' z) st) : Run Z K ph h n1 n2 pc ls (.long x :: st) := by
  subst hp; exact rS ok (hr x rfl) fun p e below m c T A hx hby t => XS.lstoreN (g := mkF m pc ls (.long x :: st)) A hx rfl (hb hby hd) rfl (hl x)
theorem r_astore (ok : Ok Z K EL own code maxL ret nm R l w Q) (hp : pc + 2 = pc') {x : Value} {k : Nat} {ls' : Array Slot} (hd : decode code pc = .ok (.astore k, 2)) (hv : x.isRef = true) (hl : storeLocals ls k x = some ls') (hr : Run Z K ph h n1 n2 pc' ls' st) : Run Z K ph h n1 n2 pc ls (x :: st) := by
  subst hp; exact rS ok hr fun p e below m c T A hx hby t => XS.astore (g := mkF m pc ls (x :: st)) A hx rfl (hb hby hd) rfl hv hl
theorem r_aload (ok : Ok Z K EL own code maxL ret nm R l w Q) (hp : pc + 2 = pc') {v : Value} {k : Nat} (hd : decode code pc = .ok (.aload k, 2)) (hl : ls[k]? = some (.val v)) (hv : v.isRef = true) (hr : Run Z K ph h n1 n2 pc' ls (v :: st)) : Run Z K ph h n1 n2 pc ls st := by
  subst hp; exact rS ok hr fun p e below m c T A hx hby t => XS.aload (g := mkF m pc ls st) A hx rfl (hb hby hd) hl hv
theorem r_astoreN (ok : Ok Z K EL own code maxL ret nm R l w Q) (hp : pc + 1 = pc') {x : Value} {k : Fin 4} {ls' : Array Slot} (hd : decode code pc = .ok (.astore_n k, 1)) (hv : x.isRef = true) (hl : storeLocals ls k.val x = some ls') (hr : Run Z K ph h n1 n2 pc' ls' st) : Run Z K ph h n1 n2 pc ls (x :: st) := by
  subst hp; exact rS ok hr fun p e below m c T A hx hby t => XS.astoreN (g := mkF m pc ls (x :: st)) A hx rfl (hb hby hd) rfl hv hl
theorem r_aloadN (ok : Ok Z K EL own code maxL ret nm R l w Q) (hp : pc + 1 = pc') {v : Value} {k : Fin 4} (hd : decode code pc = .ok (.aload_n k, 1)) (hl : ls[k.val]? = some (.val v)) (hv : v.isRef = true) (hr : Run Z K ph h n1 n2 pc' ls (v :: st)) : Run Z K ph h n1 n2 pc ls st := by
  subst hp; exact rS ok hr fun p e below m c T A hx hby t => XS.aloadN (g := mkF m pc ls st) A hx rfl (hb hby hd) hl hv
theorem r_iconst (ok : Ok Z K EL own code maxL ret nm R l w Q) (hp : pc + 1 = pc') {i : Int} (hd : decode code pc = .ok (.iconst i, 1)) (hr : Run Z K ph h n1 n2 pc' ls (.int (Int32.ofInt i) :: st)) : Run Z K ph h n1 n2 pc ls st := by
  subst hp; exact rS ok hr fun p e below m c T A hx hby t => XS.iconst (g := mkF m pc ls st) A hx rfl (hb hby hd)
theorem r_bipush (ok : Ok Z K EL own code maxL ret nm R l w Q) (hp : pc + 2 = pc') {i : Int} (hd : decode code pc = .ok (.bipush i, 2)) (hr : Run Z K ph h n1 n2 pc' ls (.int (Int8.ofInt i).toInt32 :: st)) : Run Z K ph h n1 n2 pc ls st := by
  subst hp; exact rS ok hr fun p e below m c T A hx hby t => XS.bipush (g := mkF m pc ls st) A hx rfl (hb hby hd)
theorem r_iconstV (ok : Ok Z K EL own code maxL ret nm R l w Q) (hp : pc + 1 = pc') (v : Int32) {i : Int} (hd : decode code pc = .ok (.iconst i, 1)) (hv : Int32.ofInt i = v) (hr : Run Z K ph h n1 n2 pc' ls (.int v :: st)) : Run Z K ph h n1 n2 pc ls st := by
  subst hp hv; exact rS ok hr fun p e below m c T A hx hby t => XS.iconst (g := mkF m pc ls st) A hx rfl (hb hby hd)
theorem r_bipushV (ok : Ok Z K EL own code maxL ret nm R l w Q) (hp : pc + 2 = pc') (v : Int32) {i : Int} (hd : decode code pc = .ok (.bipush i, 2)) (hv : (Int8.ofInt i).toInt32 = v) (hr : Run Z K ph h n1 n2 pc' ls (.int v :: st)) : Run Z K ph h n1 n2 pc ls st := by
  subst hp hv; exact rS ok hr fun p e below m c T A hx hby t => XS.bipush (g := mkF m pc ls st) A hx rfl (hb hby hd)
theorem r_sipushV (ok : Ok Z K EL own code maxL ret nm R l w Q) (hp : pc + 3 = pc') (v : Int32) {i : Int} (hd : decode code pc = .ok (.sipush i, 3)) (hv : (Int16.ofInt i).toInt32 = v) (hr : Run Z K ph h n1 n2 pc' ls (.int v :: st)) : Run Z K ph h n1 n2 pc ls st := by
  subst hp hv; exact rS ok hr fun p e below m c T A hx hby t => XS.sipush (g := mkF m pc ls st) A hx rfl (hb hby hd)
theorem r_lconst (ok : Ok Z K EL own code maxL ret nm R l w Q) (hp : pc + 1 = pc') (v : Int64) {k : Fin 2} (hd : decode code pc = .ok (.lconst k, 1)) (hv : (k.val : Nat).toInt64 = v) (hr : Run Z K ph h n1 n2 pc' ls (.long v :: st)) : Run Z K ph h n1 n2 pc ls st := by
  subst hp hv; exact rS ok hr fun p e below m c T A hx hby t => XS.lconst (g := mkF m pc ls st) A hx rfl (hb hby hd)
theorem r_aconst_null (ok : Ok Z K EL own code maxL ret nm R l w Q) (hp : pc + 1 = pc') (hd : decode code pc = .ok (.aconst_null, 1)) (hr : Run Z K ph h n1 n2 pc' ls (.null :: st)) : Run Z K ph h n1 n2 pc ls st := by
  subst hp; exact rS ok hr fun p e below m c T A hx hby t => XS.aconstNull (g := mkF m pc ls st) A hx rfl (hb hby hd)
theorem r_dup (ok : Ok Z K EL own code maxL ret nm R l w Q) (hp : pc + 1 = pc') {x : Value} (hd : decode code pc = .ok (.dup, 1)) (hc : x.category = 1) (hr : Run Z K ph h n1 n2 pc' ls (x :: x :: st)) : Run Z K ph h n1 n2 pc ls (x :: st) := by
  subst hp; exact rS ok hr fun p e below m c T A hx hby t => XS.dup (g := mkF m pc ls (x :: st)) A hx rfl (hb hby hd) rfl hc
theorem r_dup_x1 (ok : Ok Z K EL own code maxL ret nm R l w Q) (hp : pc + 1 = pc') {x y : Value} (hd : decode code pc = .ok (.dup_x1, 1)) (hc : x.category = 1) (hc' : y.category = 1) (hr : Run Z K ph h n1 n2 pc' ls (x :: y :: x :: st)) : Run Z K ph h n1 n2 pc ls (x :: y :: st) := by
  subst hp; exact rS ok hr fun p e below m c T A hx hby t => XS.dupX1 (g := mkF m pc ls (x :: y :: st)) A hx rfl (hb hby hd) rfl hc hc'
theorem r_dup2 (ok : Ok Z K EL own code maxL ret nm R l w Q) (hp : pc + 1 = pc') {x y : Value} (hd : decode code pc = .ok (.dup2, 1)) (hc : x.category = 1) (hc' : y.category = 1) (hr : Run Z K ph h n1 n2 pc' ls (x :: y :: x :: y :: st)) : Run Z K ph h n1 n2 pc ls (x :: y :: st) := by
  subst hp; exact rS ok hr fun p e below m c T A hx hby t => XT.dup2 (g := mkF m pc ls (x :: y :: st)) A hx rfl (hb hby hd) rfl hc hc'
theorem r_dup2L (ok : Ok Z K EL own code maxL ret nm R l w Q) (hp : pc + 1 = pc') {x : Int64} (hd : decode code pc = .ok (.dup2, 1)) (hr : Run Z K ph h n1 n2 pc' ls (.long x :: .long x :: st)) : Run Z K ph h n1 n2 pc ls (.long x :: st) := by
  subst hp; exact rS ok hr fun p e below m c T A hx hby t => XT.dup2L (g := mkF m pc ls (.long x :: st)) A hx rfl (hb hby hd) rfl
theorem r_pop (ok : Ok Z K EL own code maxL ret nm R l w Q) (hp : pc + 1 = pc') {x : Value} (hd : decode code pc = .ok (.pop, 1)) (hc : x.category = 1) (hr : Run Z K ph h n1 n2 pc' ls st) : Run Z K ph h n1 n2 pc ls (x :: st) := by
  subst hp; exact rS ok hr fun p e below m c T A hx hby t => XS.pop (g := mkF m pc ls (x :: st)) A hx rfl (hb hby hd) rfl hc
theorem r_lcmp (ok : Ok Z K EL own code maxL ret nm R l w Q) (hp : pc + 1 = pc') {x y : Int64} (hd : decode code pc = .ok (.lcmp, 1)) (hr : Run Z K ph h n1 n2 pc' ls (.int (lcmpW x y) :: st)) : Run Z K ph h n1 n2 pc ls (.long y :: .long x :: st) := by
  subst hp; exact rS ok hr fun p e below m c T A hx hby t => XS.lcmp (g := mkF m pc ls (.long y :: .long x :: st)) A hx rfl (hb hby hd) rfl
theorem r_idiv (ok : Ok Z K EL own code maxL ret nm R l w Q) (hp : pc + 1 = pc') {x y : Int32} (hd : decode code pc = .ok (.idiv, 1)) (hy : y ≠ 0) (hr : Run Z K ph h n1 n2 pc' ls (.int (x / y) :: st)) : Run Z K ph h n1 n2 pc ls (.int y :: .int x :: st) := by
  subst hp; exact rS ok hr fun p e below m c T A hx hby t => XS.idiv (g := mkF m pc ls (.int y :: .int x :: st)) A hx rfl (hb hby hd) rfl hy
theorem r_iinc (ok : Ok Z K EL own code maxL ret nm R l w Q) (hp : pc + 3 = pc') {k : Nat} {cst : Int} {x : Int32} {ls' : Int32 → Array Slot} (hd : decode code pc = .ok (.iinc k cst, 3)) (hl : ls[k]? = some (.val (.int x))) (hl' : ∀ z, storeLocals ls k (.int z) = some (ls' z)) (hr : ∀ z, z = x + Int32.ofInt cst → Run Z K ph h n1 n2 pc' (ls' z) st) : Run Z K ph h n1 n2 pc ls st := by
  subst hp; exact rS ok (hr _ rfl) fun p e below m c T A hx hby t => XS.iinc (g := mkF m pc ls st) A hx rfl (hb hby hd) hl (hl' _)
theorem r_goto (ok : Ok Z K EL own code maxL ret nm R l w Q) {o : Int} (hd : decode code pc = .ok (.goto o, 3)) (ho : 0 ≤ (pc : Int) + o) (hp : ((pc : Int) + o).toNat = pc') (hr : Run Z K ph h n1 n2 pc' ls st) : Run Z K ph h n1 n2 pc ls st := by
  exact rS ok hr fun p e below m c T A hx hby t => XS.goto (g := mkF m pc ls st) A hx rfl rfl (hb hby hd) ho hp
theorem r_icmp_eq (ok : Ok Z K EL own code maxL ret nm R l w Q) (hp : pc + 3 = pc') {x y : Int32} {o : Int} (hd : decode code pc = .ok (.if_icmp .eq o, 3)) (ho : 0 ≤ (pc : Int) + o) (hq : ((pc : Int) + o).toNat = pcY) (hy : x = y → Run Z K ph h n1 n2 pcY ls st) (hn : ¬ x = y → Run Z K ph h n1 n2 pc' ls st) : Run Z K ph h n1 n2 pc ls (.int y :: .int x :: st) := by
  subst hp
  by_cases q : x = y
  · exact rS ok (hy q) fun p e below m c T A hx hby t => XS.icmpYes (g := mkF m pc ls (.int y :: .int x :: st)) A hx rfl rfl (hb hby hd) rfl (teq q).1 ho hq
  · exact rS ok (hn q) fun p e below m c T A hx hby t => XS.icmpNo (g := mkF m pc ls (.int y :: .int x :: st)) A hx rfl (hb hby hd) rfl (feq q).1
theorem r_if_eq (ok : Ok Z K EL own code maxL ret nm R l w Q) (hp : pc + 3 = pc') {x : Int32} {o : Int} (hd : decode code pc = .ok (.ifCond .eq o, 3)) (ho : 0 ≤ (pc : Int) + o) (hq : ((pc : Int) + o).toNat = pcY) (hy : x = (0 : Int32) → Run Z K ph h n1 n2 pcY ls st) (hn : ¬ x = (0 : Int32) → Run Z K ph h n1 n2 pc' ls st) : Run Z K ph h n1 n2 pc ls (.int x :: st) := by
  subst hp
  by_cases q : x = (0 : Int32)
  · exact rS ok (hy q) fun p e below m c T A hx hby t => XS.ifYes (g := mkF m pc ls (.int x :: st)) A hx rfl rfl (hb hby hd) rfl ((if0 _ _).trans (teq q).1) ho hq
  · exact rS ok (hn q) fun p e below m c T A hx hby t => XS.ifNo (g := mkF m pc ls (.int x :: st)) A hx rfl (hb hby hd) rfl ((if0 _ _).trans (feq q).1)
theorem r_icmp_ne (ok : Ok Z K EL own code maxL ret nm R l w Q) (hp : pc + 3 = pc') {x y : Int32} {o : Int} (hd : decode code pc = .ok (.if_icmp .ne o, 3)) (ho : 0 ≤ (pc : Int) + o) (hq : ((pc : Int) + o).toNat = pcY) (hy : ¬ x = y → Run Z K ph h n1 n2 pcY ls st) (hn : x = y → Run Z K ph h n1 n2 pc' ls st) : Run Z K ph h n1 n2 pc ls (.int y :: .int x :: st) := by
  subst hp
  by_cases q : x = y
  · exact rS ok (hn q) fun p e below m c T A hx hby t => XS.icmpNo (g := mkF m pc ls (.int y :: .int x :: st)) A hx rfl (hb hby hd) rfl (teq q).2
  · exact rS ok (hy q) fun p e below m c T A hx hby t => XS.icmpYes (g := mkF m pc ls (.int y :: .int x :: st)) A hx rfl rfl (hb hby hd) rfl (feq q).2 ho hq
theorem r_if_ne (ok : Ok Z K EL own code maxL ret nm R l w Q) (hp : pc + 3 = pc') {x : Int32} {o : Int} (hd : decode code pc = .ok (.ifCond .ne o, 3)) (ho : 0 ≤ (pc : Int) + o) (hq : ((pc : Int) + o).toNat = pcY) (hy : ¬ x = (0 : Int32) → Run Z K ph h n1 n2 pcY ls st) (hn : x = (0 : Int32) → Run Z K ph h n1 n2 pc' ls st) : Run Z K ph h n1 n2 pc ls (.int x :: st) := by
  subst hp
  by_cases q : x = (0 : Int32)
  · exact rS ok (hn q) fun p e below m c T A hx hby t => XS.ifNo (g := mkF m pc ls (.int x :: st)) A hx rfl (hb hby hd) rfl ((if0 _ _).trans (teq q).2)
  · exact rS ok (hy q) fun p e below m c T A hx hby t => XS.ifYes (g := mkF m pc ls (.int x :: st)) A hx rfl rfl (hb hby hd) rfl ((if0 _ _).trans (feq q).2) ho hq
theorem r_icmp_lt (ok : Ok Z K EL own code maxL ret nm R l w Q) (hp : pc + 3 = pc') {x y : Int32} {o : Int} (hd : decode code pc = .ok (.if_icmp .lt o, 3)) (ho : 0 ≤ (pc : Int) + o) (hq : ((pc : Int) + o).toNat = pcY) (hy : x < y → Run Z K ph h n1 n2 pcY ls st) (hn : ¬ x < y → Run Z K ph h n1 n2 pc' ls st) : Run Z K ph h n1 n2 pc ls (.int y :: .int x :: st) := by
  subst hp
  by_cases q : x < y
  · exact rS ok (hy q) fun p e below m c T A hx hby t => XS.icmpYes (g := mkF m pc ls (.int y :: .int x :: st)) A hx rfl rfl (hb hby hd) rfl (tlt q).1 ho hq
  · exact rS ok (hn q) fun p e below m c T A hx hby t => XS.icmpNo (g := mkF m pc ls (.int y :: .int x :: st)) A hx rfl (hb hby hd) rfl (flt q).1
theorem r_if_lt (ok : Ok Z K EL own code maxL ret nm R l w Q) (hp : pc + 3 = pc') {x : Int32} {o : Int} (hd : decode code pc = .ok (.ifCond .lt o, 3)) (ho : 0 ≤ (pc : Int) + o) (hq : ((pc : Int) + o).toNat = pcY) (hy : x < (0 : Int32) → Run Z K ph h n1 n2 pcY ls st) (hn : ¬ x < (0 : Int32) → Run Z K ph h n1 n2 pc' ls st) : Run Z K ph h n1 n2 pc ls (.int x :: st) := by
  subst hp
  by_cases q : x < (0 : Int32)
  · exact rS ok (hy q) fun p e below m c T A hx hby t => XS.ifYes (g := mkF m pc ls (.int x :: st)) A hx rfl rfl (hb hby hd) rfl ((if0 _ _).trans (tlt q).1) ho hq
  · exact rS ok (hn q) fun p e below m c T A hx hby t => XS.ifNo (g := mkF m pc ls (.int x :: st)) A hx rfl (hb hby hd) rfl ((if0 _ _).trans (flt q).1)
theorem r_icmp_ge (ok : Ok Z K EL own code maxL ret nm R l w Q) (hp : pc + 3 = pc') {x y : Int32} {o : Int} (hd : decode code pc = .ok (.if_icmp .ge o, 3)) (ho : 0 ≤ (pc : Int) + o) (hq : ((pc : Int) + o).toNat = pcY) (hy : ¬ x < y → Run Z K ph h n1 n2 pcY ls st) (hn : x < y → Run Z K ph h n1 n2 pc' ls st) : Run Z K ph h n1 n2 pc ls (.int y :: .int x :: st) := by
  subst hp
  by_cases q : x < y
  · exact rS ok (hn q) fun p e below m c T A hx hby t => XS.icmpNo (g := mkF m pc ls (.int y :: .int x :: st)) A hx rfl (hb hby hd) rfl (tlt q).2.1
  · exact rS ok (hy q) fun p e below m c T A hx hby t => XS.icmpYes (g := mkF m pc ls (.int y :: .int x :: st)) A hx rfl rfl (hb hby hd) rfl (flt q).2.1 ho hq
theorem r_if_ge (ok : Ok Z K EL own code maxL ret nm R l w Q) (hp : pc + 3 = pc') {x : Int32} {o : Int} (hd : decode code pc = .ok (.ifCond .ge o, 3)) (ho : 0 ≤ (pc : Int) + o) (hq : ((pc : Int) + o).toNat = pcY) (hy : ¬ x < (0 : Int32) → Run Z K ph h n1 n2 pcY ls st) (hn : x < (0 : Int32) → Run Z K ph h n1 n2 pc' ls st) : Run Z K ph h n1 n2 pc ls (.int x :: st) := by
  subst hp
  by_cases q : x < (0 : Int32)
  · exact rS ok (hn q) fun p e below m c T A hx hby t => XS.ifNo (g := mkF m pc ls (.int x :: st)) A hx rfl (hb hby hd) rfl ((if0 _ _).trans (tlt q).2.1)
  · exact rS ok (hy q) fun p e below m c T A hx hby t => XS.ifYes (g := mkF m pc ls (.int x :: st)) A hx rfl rfl (hb hby hd) rfl ((if0 _ _).trans (flt q).2.1) ho hq
theorem r_icmp_gt (ok : Ok Z K EL own code maxL ret nm R l w Q) (hp : pc + 3 = pc') {x y : Int32} {o : Int} (hd : decode code pc = .ok (.if_icmp .gt o, 3)) (ho : 0 ≤ (pc : Int) + o) (hq : ((pc : Int) + o).toNat = pcY) (hy : y < x → Run Z K ph h n1 n2 pcY ls st) (hn : ¬ y < x → Run Z K ph h n1 n2 pc' ls st) : Run Z K ph h n1 n2 pc ls (.int y :: .int x :: st) := by
  subst hp
  by_cases q : y < x
  · exact rS ok (hy q) fun p e below m c T A hx hby t => XS.icmpYes (g := mkF m pc ls (.int y :: .int x :: st)) A hx rfl rfl (hb hby hd) rfl (tlt q).2.2.1 ho hq
  · exact rS ok (hn q) fun p e below m c T A hx hby t => XS.icmpNo (g := mkF m pc ls (.int y :: .int x :: st)) A hx rfl (hb hby hd) rfl (flt q).2.2.1
theorem r_if_gt (ok : Ok Z K EL own code maxL ret nm R l w Q) (hp : pc + 3 = pc') {x : Int32} {o : Int} (hd : decode code pc = .ok (.ifCond .gt o, 3)) (ho : 0 ≤ (pc : Int) + o) (hq : ((pc : Int) + o).toNat = pcY) (hy : (0 : Int32) < x → Run Z K ph h n1 n2 pcY ls st) (hn : ¬ (0 : Int32) < x → Run Z K ph h n1 n2 pc' ls st) : Run Z K ph h n1 n2 pc ls (.int x :: st) := by
  subst hp
  by_cases q : (0 : Int32) < x
  · exact rS ok (hy q) fun p e below m c T A hx hby t => XS.ifYes (g := mkF m pc ls (.int x :: st)) A hx rfl rfl (hb hby hd) rfl ((if0 _ _).trans (tlt q).2.2.1) ho hq
  · exact rS ok (hn q) fun p e below m c T A hx hby t => XS.ifNo (g := mkF m pc ls (.int x :: st)) A hx rfl (hb hby hd) rfl ((if0 _ _).trans (flt q).2.2.1)
theorem r_icmp_le (ok : Ok Z K EL own code maxL ret nm R l w Q) (hp : pc + 3 = pc') {x y : Int32} {o : Int} (hd : decode code pc = .ok (.if_icmp .le o, 3)) (ho : 0 ≤ (pc : Int) + o) (hq : ((pc : Int) + o).toNat = pcY) (hy : ¬ y < x → Run Z K ph h n1 n2 pcY ls st) (hn : y < x → Run Z K ph h n1 n2 pc' ls st) : Run Z K ph h n1 n2 pc ls (.int y :: .int x :: st) := by
  subst hp
  by_cases q : y < x
  · exact rS ok (hn q) fun p e below m c T A hx hby t => XS.icmpNo (g := mkF m pc ls (.int y :: .int x :: st)) A hx rfl (hb hby hd) rfl (tlt q).2.2.2
  · exact rS ok (hy q) fun p e below m c T A hx hby t => XS.icmpYes (g := mkF m pc ls (.int y :: .int x :: st)) A hx rfl rfl (hb hby hd) rfl (flt q).2.2.2 ho hq
theorem r_if_le (ok : Ok Z K EL own code maxL ret nm R l w Q) (hp : pc + 3 = pc') {x : Int32} {o : Int} (hd : decode code pc = .ok (.ifCond .le o, 3)) (ho : 0 ≤ (pc : Int) + o) (hq : ((pc : Int) + o).toNat = pcY) (hy : ¬ (0 : Int32) < x → Run Z K ph h n1 n2 pcY ls st) (hn : (0 : Int32) < x → Run Z K ph h n1 n2 pc' ls st) : Run Z K ph h n1 n2 pc ls (.int x :: st) := by
  subst hp
  by_cases q : (0 : Int32) < x
  · exact rS ok (hn q) fun p e below m c T A hx hby t => XS.ifNo (g := mkF m pc ls (.int x :: st)) A hx rfl (hb hby hd) rfl ((if0 _ _).trans (tlt q).2.2.2)
  · exact rS ok (hy q) fun p e below m c T A hx hby t => XS.ifYes (g := mkF m pc ls (.int x :: st)) A hx rfl rfl (hb hby hd) rfl ((if0 _ _).trans (flt q).2.2.2) ho hq
theorem r_ifnull_null (ok : Ok Z K EL own code maxL ret nm R l w Q)  {o : Int} (hd : decode code pc = .ok (.ifnull o, 3)) (ho : 0 ≤ (pc : Int) + o) (hp : ((pc : Int) + o).toNat = pc') (hr : Run Z K ph h n1 n2 pc' ls st) : Run Z K ph h n1 n2 pc ls (.null :: st) := by
  exact rS ok hr fun p e below m c T A hx hby t => XS.ifnullYes (g := mkF m pc ls (.null :: st)) A hx rfl rfl (hb hby hd) rfl ho hp
theorem r_ifnull_ref (ok : Ok Z K EL own code maxL ret nm R l w Q) (hp : pc + 3 = pc') {b : Addr} {o : Int} (hd : decode code pc = .ok (.ifnull o, 3)) (hr : Run Z K ph h n1 n2 pc' ls st) : Run Z K ph h n1 n2 pc ls (.ref b :: st) := by
  subst hp; exact rS ok hr fun p e below m c T A hx hby t => XS.ifnullNo (g := mkF m pc ls (.ref b :: st)) A hx rfl (hb hby hd) rfl
theorem r_ifnonnull_null (ok : Ok Z K EL own code maxL ret nm R l w Q) (hp : pc + 3 = pc')  {o : Int} (hd : decode code pc = .ok (.ifnonnull o, 3)) (hr : Run Z K ph h n1 n2 pc' ls st) : Run Z K ph h n1 n2 pc ls (.null :: st) := by
  subst hp; exact rS ok hr fun p e below m c T A hx hby t => XS.ifnonnullNo (g := mkF m pc ls (.null :: st)) A hx rfl (hb hby hd) rfl
theorem r_ifnonnull_ref (ok : Ok Z K EL own code maxL ret nm R l w Q) {b : Addr} {o : Int} (hd : decode code pc = .ok (.ifnonnull o, 3)) (ho : 0 ≤ (pc : Int) + o) (hp : ((pc : Int) + o).toNat = pc') (hr : Run Z K ph h n1 n2 pc' ls st) : Run Z K ph h n1 n2 pc ls (.ref b :: st) := by
  exact rS ok hr fun p e below m c T A hx hby t => XS.ifnonnullYes (g := mkF m pc ls (.ref b :: st)) A hx rfl rfl (hb hby hd) rfl ho hp

theorem endW_mono {s t : State} {o : Outcome} {L : List Loc} {k n k' n' : Nat} (h : EndW w s o t L k n) (hk : k ≤ k') (hn : n ≤ n') : EndW w s o t L k' n' := by
  cases w
  · exact ⟨h.1, h.2.1, h.2.2.mono hk hn⟩
  · exact ⟨h.1, h.2.1, h.2.2.1, h.2.2.2.mono hk hn⟩
/-- the end of a walk -/
theorem rEnd (ok : Ok Z K EL own code maxL ret nm R l w Q) {v : Option Value} (hv : ret = none → v = none) (hq : Q v h) (hc : n1 ≤ R.cells) (hn : n2 ≤ R.slots) (hcl : w = true ∨ (∀ s v, ph s v → v = s.vm))
    (f : ∀ (p : Program) (e : Env) (s : State) (m : MethodId) (args : Array Value) (below : List Frame) (meth : Method) (c : Code) (T : State) (locs : List Loc), Stand p l e R s m args below meth c T locs n1 n2 → p.tables.exec = Jvm.exec → c.code = code → meth.sig.returnType = ret → ∀ fs, (∀ (g : JFrame) (acts : List Action), g.method = m → g.locked = none → g.entered = [] → (doReturn e (T.setTop g) acts v).1 = T.setFrames fs) →
      Steps p.tables e below (T.setTop (mkF m pc ls st)) (T.setFrames fs)) : Run Z K ph h n1 n2 pc ls st := by
  obtain ⟨p, l1, e, R1, s, m, args, below, meth, c, w1, Q1⟩ := K
  obtain ⟨hx, hby, hml, ho, hret, hlk, hnm, rfl, rfl, rfl, rfl, hCH⟩ := ok
  intro T X W
  obtain ⟨vm0, k0, locs, S, hS, hk, hZ, hF, eT, hw⟩ := W
  have hsz : s.heap.size ≤ T.heap.size := S.same.2.1
  cases w1
  · obtain rfl := (hcl.resolve_left (fun q => nomatch q)) _ _ hw
    obtain ⟨fs, hr, hrun, hended, hW, hsame⟩ := S.leave (v := v) (fun q => hv (hret ▸ q)) hlk
    exact ⟨_, _, f p e _ m args below meth c T locs S hx hby hret fs hr, hrun, hended, v, locs, rfl, ⟨by show Q1 v T.heap; rw [eT]; exact hq, hF, by show Ext Z.heap T.heap; rw [eT]; exact X, hsz⟩, ⟨_, rfl⟩, hW, State.sameButNew.mono hsame hc hn⟩
  · obtain ⟨fs, hr, hrun, hended, hE⟩ := S.leaveW hS hk (v := v) (fun q => hv (hret ▸ q)) hlk
    exact ⟨_, _, f p e _ m args below meth c T locs S hx hby hret fs hr, hrun, hended, v, locs, rfl, ⟨by show Q1 v T.heap; rw [eT]; exact hq, hF, by show Ext Z.heap T.heap; rw [eT]; exact X, hsz⟩, hE.1, hE.2.1, hE.2.2.1, State.sameButNew.mono hE.2.2.2 hc hn⟩
theorem r_return {Q' : Heap → Prop} (ok : Ok Z K EL own code maxL none nm R l w (rU Q')) (hd : decode code pc = .ok (.return_, 1)) (hq : Q' h) (hc : n1 ≤ R.cells) (hn : n2 ≤ R.slots) (hcl : w = true ∨ (∀ s v, ph s v → v = s.vm) := by first | exact Or.inl rfl | exact Or.inr (fun _ _ q => q)) : Run Z K ph h n1 n2 pc ls [] :=
  rEnd ok (v := none) (fun _ => rfl) ⟨rfl, hq⟩ hc hn hcl fun p e s m args below meth c T locs S hx hby hret fs hr => S.returnOut hx hret (hb hby hd) hr
theorem r_ret {t : FieldType} {i : Instr} {x : Value} {Q' : Value → Heap → Prop} (ok : Ok Z K EL own code maxL (some t) nm R l w (rV Q')) (hd : decode code pc = .ok (i, 1)) (hnr : narrow t x = x)
    (hi : (i = .ireturn ∧ (t = .int ∨ t = .boolean ∨ t = .byte ∨ t = .char ∨ t = .short) ∧ ∃ z, x = .int z) ∨ (i = .lreturn ∧ t = .long ∧ ∃ z, x = .long z) ∨ (i = .dreturn ∧ t = .double ∧ ∃ z, x = .double z) ∨ (i = .freturn ∧ t = .float ∧ ∃ z, x = .float z) ∨ (i = .areturn ∧ t.isReference = true ∧ x.isRef = true))
    (hc : n1 ≤ R.cells) (hn : n2 ≤ R.slots) (hq : Q' x h) (hcl : w = true ∨ (∀ s v, ph s v → v = s.vm) := by first | exact Or.inl rfl | exact Or.inr (fun _ _ q => q)) : Run Z K ph h n1 n2 pc ls (x :: st) :=
  rEnd ok (v := some x) (fun q => nomatch q) ⟨x, rfl, hq⟩ hc hn hcl fun p e s m args below meth c T locs S hx hby hret fs hr => retOut S hx hret hnr hi (hb hby hd) hr
theorem r_ireturn {t : FieldType} {z : Int32} {Q' : Value → Heap → Prop} (ok : Ok Z K EL own code maxL (some t) nm R l w (rV Q')) (hd : decode code pc = .ok (.ireturn, 1)) (hnr : narrow t (.int z) = .int z) (ht : t = .int ∨ t = .boolean ∨ t = .byte ∨ t = .char ∨ t = .short) (hc : n1 ≤ R.cells) (hn : n2 ≤ R.slots) (hq : Q' (.int z) h) (hcl : w = true ∨ (∀ s v, ph s v → v = s.vm) := by first | exact Or.inl rfl | exact Or.inr (fun _ _ q => q)) : Run Z K ph h n1 n2 pc ls (.int z :: st) :=
  r_ret ok hd hnr (Or.inl ⟨rfl, ht, z, rfl⟩) hc hn hq hcl
theorem r_areturn {t : FieldType} {x : Value} {Q' : Value → Heap → Prop} (ok : Ok Z K EL own code maxL (some t) nm R l w (rV Q')) (hd : decode code pc = .ok (.areturn, 1)) (hnr : narrow t x = x) (ht : t.isReference = true) (hx : x.isRef = true) (hc : n1 ≤ R.cells) (hn : n2 ≤ R.slots) (hq : Q' x h) (hcl : w = true ∨ (∀ s v, ph s v → v = s.vm) := by first | exact Or.inl rfl | exact Or.inr (fun _ _ q => q)) : Run Z K ph h n1 n2 pc ls (x :: st) :=
  r_ret ok hd hnr (Or.inr (Or.inr (Or.inr (Or.inr ⟨rfl, ht, hx⟩)))) hc hn hq hcl
theorem r_lreturn {z : Int64} {Q' : Value → Heap → Prop} (ok : Ok Z K EL own code maxL (some .long) nm R l w (rV Q')) (hd : decode code pc = .ok (.lreturn, 1)) (hc : n1 ≤ R.cells) (hn : n2 ≤ R.slots) (hq : Q' (.long z) h) (hcl : w = true ∨ (∀ s v, ph s v → v = s.vm) := by first | exact Or.inl rfl | exact Or.inr (fun _ _ q => q)) : Run Z K ph h n1 n2 pc ls (.long z :: st) :=
  r_ret ok hd rfl (Or.inr (Or.inl ⟨rfl, rfl, z, rfl⟩)) hc hn hq hcl
/-- the beginning of a walk -/
theorem body {y : MethodName} {ws : List Jvm.Cond} {as : Array Value} (pn : plainFor y = true) (ent : ∀ m, entryFrame m as maxL = mkF m 0 ls []) (run : ∀ K, Ok Z K EL y.cls code maxL ret y.name R l w Q → Run Z K Cln h 0 0 0 ls []) : Con l Z EL ws w y code maxL ret R as h Q := by
  intro X
  refine MetFree.of_bodySF pn hisR ?_
  intro p e s m args below meth c s₁ Bd hml0 hP hK
  obtain ⟨rfl, hZ, hh, hCH⟩ := hP
  have hown : s.vm.findClass y.cls = some m.cls := findClass_of_methodNamed Bd.named
  have hnm := (name_of_methodNamed Bd.named Bd.method).1
  have X0 : Stand p l e R s m args below meth c s₁ [] 0 0 := Stand.of_body Bd
  have e0 : s₁.heap = h := by rw [← hh, Bd.state]; rfl
  have ok : Ok Z (p, l, e, R, s, m, args, below, meth, c, w, Q) EL y.cls code maxL ret y.name R l w Q :=
    ⟨Bd.exec, Bd.bytes, hml0, fun vm0 hv => by rw [hv.alike.findClass, ← hZ.alike.findClass]; exact hown, Bd.returns, Bd.notSynchronized, hnm, rfl, rfl, rfl, rfl, hCH⟩
  obtain ⟨s₂, o, h1, h2, h3, v, L, rfl, h4, h5⟩ := run _ ok s₁ X ⟨s.vm, 0, [], X0, (State.WarmedH.refl s).since 0, Nat.zero_le _, hZ, Fr.nil _, e0, rfl⟩
  exact ⟨s₂, _, castTop (ent m) h1, h2, h3, v, L, rfl, by rw [← hh]; exact h4, h5⟩
theorem Con.pay {y : MethodName} {bytes : ByteArray} {mL : Nat} {rt : Option FieldType} {R' : Room} {as : Array Value} {w' : Bool} {Q' : Option Value → Heap → Prop} {len W : Nat} (con : Con l Z EL [] w' y bytes mL rt R' as h Q') (hEL : EW Z a0 EL) (wc : (Jvm.Cond.code y bytes mL rt).before a0 Z = true) (wz : (Jvm.Cond.initialized y.cls).before a0 Z = true) (hf : R'.frames + 1 ≤ R.frames) (hl : W + (mL + 11) + R'.locals ≤ R.locals) :
    Pay Z EL w' l R y len W as h R'.cells R'.slots Q' := by
  cases w'
  · intro p e below s args hZ H X
    exact Back.of_free (bytes := bytes) (maxL := mL) (ret := rt) (E := fun _ _ o t L k n => k = R'.cells ∧ n = R'.slots ∧ ∃ v, o = .returned v ∧ Pst Z h.size Q' v t.heap L) (con X) hf hl
      (fun m meth c A a Y hp => have hU : Z.Warmed39 A.U.vm := wtrans hZ Y.warmed
        ⟨by show (Jvm.Cond.and _ .tt).before a A.U = true; rw [Cond.before_and, mv hU wc]; rfl, mv hU wc, mv hU wz, hp.2.2.1, hp.2.2.2⟩)
      (fun m meth c A a g mk Y hp => ⟨hp.1, wtrans hZ Y.warmed, hp.2.1, (CHv.at (vm0 := s.vm) (s := s) Y hZ hEL H).1⟩) (fun _ _ _ _ _ _ _ _ _ => trivial)
      (fun _ _ _ _ ⟨v, L, h1, h2, h3⟩ => ⟨L, _, _, h3, rfl, rfl, v, h1, h2⟩)
      (fun m meth c A a g mk v t L k n Y hp _ _ ⟨e1, e2, v', e3, e4⟩ => by cases e3; subst e1 e2; exact ⟨L, e4, rfl, rfl, rfl⟩)
  · intro p e below s args hZ H X
    exact BackS.of_freeW (bytes := bytes) (maxL := mL) (ret := rt) (E := fun _ _ o t L k n => k = R'.cells ∧ n = R'.slots ∧ ∃ v, o = .returned v ∧ Pst Z h.size Q' v t.heap L) (con X) hf hl
      (fun m meth c A a Y hp => have hU : Z.Warmed39 A.U.vm := wtrans hZ Y.warmed
        ⟨by show (Jvm.Cond.and _ .tt).before a A.U = true; rw [Cond.before_and, mv hU wc]; rfl, mv hU wc, mv hU wz, hp.2.2.1, hp.2.2.2⟩)
      (fun m meth c A a g mk Y hp => ⟨hp.1, wtrans hZ Y.warmed, hp.2.1, (CHv.at (vm0 := s.vm) (s := s) Y hZ hEL H).1⟩) (fun _ _ _ _ _ _ _ _ _ => trivial)
      (fun _ _ _ _ ⟨v, L, h1, h2, h3⟩ => ⟨L, _, _, h3, rfl, rfl, v, h1, h2⟩)
      (fun m meth c A a g mk v t L k n Y hp _ _ ⟨e1, e2, v', e3, e4⟩ => by cases e3; subst e1 e2; exact ⟨L, e4, rfl, rfl, rfl⟩)

theorem st1 {ls ls' : Array Slot} {i : Nat} {o : Slot} {v : Value} (ho : One o) (hold : ls[i]? = some o) (hv : v.category = 1) (e : ls.setIfInBounds i (.val v) = ls') : storeLocals ls i v = some ls' := by rw [XS.store1 hold ho hv, e]
theorem ext_wr {h' : Heap} {a : Addr} {sl : Nat} {v : Value} (X : Ext Z.heap h) (W : Wr h h' a sl v) (g : Z.heap.size ≤ a) : Ext Z.heap h' :=
  (Old.wr (n0 := Z.heap.size) ⟨rfl, X⟩ W g).2
theorem ext_keep {h' : Heap} {ws : List Addr} (X : Ext Z.heap h) (K : Keep h h' ws) (q : ∀ x ∈ ws, Z.heap.size ≤ x) : Ext Z.heap h' :=
  (Old.keep (n0 := Z.heap.size) ⟨rfl, X⟩ K q).2
theorem ext_trans {h1 h2 h3 : Heap} (A : Ext h1 h2) (B : Ext h2 h3) : Ext h1 h3 := ⟨Nat.le_trans A.1 B.1, fun a c q => B.2 a c (A.2 a c q)⟩
theorem r_irem (ok : Ok Z K EL own code maxL ret nm R l w Q) (hp : pc + 1 = pc') {x y : Int32} (hd : decode code pc = .ok (.irem, 1)) (hy : y ≠ 0) (hr : Run Z K ph h n1 n2 pc' ls (.int (x % y) :: st)) : Run Z K ph h n1 n2 pc ls (.int y :: .int x :: st) := by
  subst hp; exact rX ok hr fun p e s m args below meth c T locs X hx hby hZ ho eT t => iremM (g := mkF m pc ls (.int y :: .int x :: st)) X hx rfl (hb hby hd) rfl hy
theorem r_new (ok : Ok Z K EL own code maxL ret nm R l w Q) (hp : pc + 3 = pc') {C : String} {idx k : Nat} (hd : decode code pc = .ok (.new idx, 3)) (w1 : (Jvm.Cond.classLink own idx C).before a0 Z = true) (w2 : (Jvm.Cond.instantiable C k).before a0 Z = true) (w3 : (Jvm.Cond.initialized C).before a0 Z = true) (hc : n1 + 1 ≤ R.cells) (hn : n2 + k ≤ R.slots)
    (hr : ∀ h' a, a = h.size → Z.heap.size ≤ a → Ext h h' → Exa Z h' a C → (∀ {O nm d : String} {ty : FieldType}, Laid Z a0 C O nm d → parseFieldDescriptor d = some ty → Fld Z h' a O nm d (defaultValue ty)) → Run Z K ph h' (n1 + 1) (n2 + k) pc' ls (.ref a :: st)) : Run Z K ph h n1 n2 pc ls st := by
  subst hp
  refine r_old fun X0 => ?_
  refine rH ok (P := fun h' => Ext h h' ∧ Exa Z h' h.size C ∧ (∀ {O nm d : String} {ty : FieldType}, Laid Z a0 C O nm d → parseFieldDescriptor d = some ty → Fld Z h' h.size O nm d (defaultValue ty))) (m1 := n1 + 1) (m2 := n2 + k) (fun p e s m args below meth c T locs X hx hby hml hZ ho hnm eT X0 => ?_) (fun h' q => hr h' _ rfl X0.1 q.1 q.2.1 q.2.2)
  obtain ⟨T', h', X', e', E, A, D, -, st'⟩ := newO X hx hZ ho w1 w2 w3 eT (g := mkF m pc ls st) rfl (hb hby hd) hc hn
  exact ⟨T', h', [], by rw [List.append_nil]; exact X', e', Fr.nil _, E.1, ext_trans X0 E, ⟨E, A, D⟩, st'⟩
theorem r_newarray (ok : Ok Z K EL own code maxL ret nm R l w Q) (hp : pc + 2 = pc') {aty : ArrayType} {n : Int32} (cap : Nat) (hd : decode code pc = .ok (.newarray aty, 2)) (w1 : (Jvm.Cond.arrayClass (newarray.typeOf aty)).before a0 Z = true) (hn0 : ¬ n < 0) (hcap : n.toNatClampNeg ≤ cap) (hbg : cap * 8 ≤ 536870912) (hc : n1 + 1 ≤ R.cells) (hn : n2 + cap ≤ R.slots)
    (hr : ∀ h' a kA, a = h.size → Z.heap.size ≤ a → Ext h h' → Arv Z h' a kA (newarray.typeOf aty) n [] (defaultValue (newarray.typeOf aty)) → Run Z K ph h' (n1 + 1) (n2 + cap) pc' ls (.ref a :: st)) : Run Z K ph h n1 n2 pc ls (.int n :: st) := by
  subst hp
  refine r_old fun X0 => ?_
  refine rH ok (P := fun h' => Ext h h' ∧ ∃ kA, Arv Z h' h.size kA (newarray.typeOf aty) n [] (defaultValue (newarray.typeOf aty))) (m1 := n1 + 1) (m2 := n2 + cap) (fun p e s m args below meth c T locs X hx hby hml hZ ho hnm eT X0 => ?_) (fun h' q => by obtain ⟨q1, kA, q2⟩ := q; exact hr h' _ kA rfl X0.1 q1 q2)
  obtain ⟨T', h', kA, X', e', E, A, st'⟩ := newP X hx hZ w1 eT (g := mkF m pc ls (.int n :: st)) rfl (hb hby hd) rfl hn0 (cap := cap) hcap hbg hc hn
  exact ⟨T', h', [], by rw [List.append_nil]; exact X', e', Fr.nil _, E.1, ext_trans X0 E, ⟨E, kA, Arv.new A hn0⟩, st'⟩
theorem r_anewarray (ok : Ok Z K EL own code maxL ret nm R l w Q) (hp : pc + 3 = pc') {C : String} {idx : Nat} {n : Int32} (cap : Nat) (hd : decode code pc = .ok (.anewarray idx, 3)) (w1 : (Jvm.Cond.classLink own idx C).before a0 Z = true) (w2 : (Jvm.Cond.arrayOver (.object C)).before a0 Z = true) (hn0 : ¬ n < 0) (hcap : n.toNatClampNeg ≤ cap) (hbg : cap * 8 ≤ 536870912) (hc : n1 + 1 ≤ R.cells) (hn : n2 + cap ≤ R.slots)
    (hr : ∀ h' a kA, a = h.size → Z.heap.size ≤ a → Ext h h' → Ovr Z kA C → Arv Z h' a kA (.object C) n [] .null → Run Z K ph h' (n1 + 1) (n2 + cap) pc' ls (.ref a :: st)) : Run Z K ph h n1 n2 pc ls (.int n :: st) := by
  subst hp
  refine r_old fun X0 => ?_
  refine rH ok (P := fun h' => Ext h h' ∧ ∃ kA, Ovr Z kA C ∧ Arv Z h' h.size kA (.object C) n [] .null) (m1 := n1 + 1) (m2 := n2 + cap) (fun p e s m args below meth c T locs X hx hby hml hZ ho hnm eT X0 => ?_) (fun h' q => by obtain ⟨q1, kA, q2, q3⟩ := q; exact hr h' _ kA rfl X0.1 q1 q2 q3)
  obtain ⟨T', h', kA, X', e', E, A, O, st'⟩ := newR X hx hZ ho w1 w2 eT (g := mkF m pc ls (.int n :: st)) rfl (hb hby hd) rfl hn0 (cap := cap) hcap hbg hc hn
  exact ⟨T', h', [], by rw [List.append_nil]; exact X', e', Fr.nil _, E.1, ext_trans X0 E, ⟨E, kA, O, Arv.new A hn0⟩, st'⟩
/-- a law that leaves the heap as it is and moves the state -/
theorem rT (ok : Ok Z K EL own code maxL ret nm R l w Q) (hr : Run Z K ph h n1 n2 pc' ls' st')
    (f : ∀ (p : Program) (e : Env) (s : State) (m : MethodId) (args : Array Value) (below : List Frame) (meth : Method) (c : Code) (T : State) (locs : List Loc), Stand p l e R s m args below meth c T locs n1 n2 → p.tables.exec = Jvm.exec → c.code = code → c.maxLocals = maxL → Z.Warmed39 s.vm → s.vm.findClass own = some m.cls → T.heap = h →
      ∃ T', Stand p l e R s m args below meth c T' locs n1 n2 ∧ T'.heap = h ∧ ∀ t, Steps p.tables e below (T'.setTop (mkF m pc' ls' st')) t → Steps p.tables e below (T.setTop (mkF m pc ls st)) t) : Run Z K ph h n1 n2 pc ls st := by
  refine rH ok (P := fun h' => h' = h) (m1 := n1) (m2 := n2) (fun p e s m args below meth c T locs X hx hby hml hZ ho hnm eT X0 => ?_) (fun h' q => q ▸ hr)
  obtain ⟨T', X', e', st'⟩ := f p e s m args below meth c T locs X hx hby hml hZ ho eT
  exact ⟨T', h, [], by rw [List.append_nil]; exact X', e', Fr.nil _, Nat.le_refl _, X0, rfl, st'⟩
theorem r_getfield (ok : Ok Z K EL own code maxL ret nm R l w Q) (hp : pc + 3 = pc') {R0 O n d host : String} {idx : Nat} {a : Addr} {v : Value} (hd : decode code pc = .ok (.getfield idx, 3)) (w1 : (Jvm.Cond.fieldLink own idx R0 n d).before a0 Z = true ∨ (Jvm.Cond.fieldLinkNest own idx R0 n d host).before a0 Z = true) (via : Via Z R0 O n d) (F : Fld Z h a O n d v) (hr : Run Z K ph h n1 n2 pc' ls (v :: st)) : Run Z K ph h n1 n2 pc ls (.ref a :: st) := by
  subst hp
  exact rT ok hr fun p e s m args below meth c T locs X hx hby hml hZ ho eT => getF X hx hZ ho w1 via eT F (g := mkF m pc ls (.ref a :: st)) rfl rfl (hb hby hd)
theorem r_getstatic (ok : Ok Z K EL own code maxL ret nm R l w Q) (hp : pc + 3 = pc') {R0 O n d : String} {idx : Nat} {v : Value} (hd : decode code pc = .ok (.getstatic idx, 3)) (w1 : (Jvm.Cond.fieldLink own idx R0 n d).before a0 Z = true) (via : Via Z R0 O n d) (F : Sta Z Z.heap O n d v) (hr : Run Z K ph h n1 n2 pc' ls (v :: st)) : Run Z K ph h n1 n2 pc ls st := by
  subst hp
  refine r_old fun X0 => ?_
  exact rT ok hr fun p e s m args below meth c T locs X hx hby hml hZ ho eT => getS X (host := "") hx hZ ho w1 via eT (F.ext X0) (g := mkF m pc ls st) rfl (hb hby hd)
theorem r_getstaticN (ok : Ok Z K EL own code maxL ret nm R l w Q) (hp : pc + 3 = pc') {R0 O n d host : String} {idx : Nat} {v : Value} (hd : decode code pc = .ok (.getstatic idx, 3)) (w1 : (Jvm.Cond.fieldLink own idx R0 n d).before a0 Z = true ∨ (Jvm.Cond.fieldLinkNest own idx R0 n d host).before a0 Z = true) (via : Via Z R0 O n d) (F : Sta Z Z.heap O n d v) (hr : Run Z K ph h n1 n2 pc' ls (v :: st)) : Run Z K ph h n1 n2 pc ls st := by
  subst hp
  refine r_old fun X0 => ?_
  exact rT ok hr fun p e s m args below meth c T locs X hx hby hml hZ ho eT => getS2 X hx hZ ho w1 via eT (F.ext X0) (g := mkF m pc ls st) rfl (hb hby hd)
theorem r_checkcast (ok : Ok Z K EL own code maxL ret nm R l w Q) (hp : pc + 3 = pc') {C : String} {idx : Nat} {a : Addr} (hd : decode code pc = .ok (.checkcast idx, 3)) (w1 : (Jvm.Cond.classLink own idx C).before a0 Z = true) (F : Ins Z h a C true) (hr : Run Z K ph h n1 n2 pc' ls (.ref a :: st)) : Run Z K ph h n1 n2 pc ls (.ref a :: st) := by
  subst hp
  exact rT ok hr fun p e s m args below meth c T locs X hx hby hml hZ ho eT => castY X hx hZ ho w1 eT F (g := mkF m pc ls (.ref a :: st)) rfl rfl (hb hby hd)
theorem r_checkcastNull (ok : Ok Z K EL own code maxL ret nm R l w Q) (hp : pc + 3 = pc') {idx : Nat} (hd : decode code pc = .ok (.checkcast idx, 3)) (hr : Run Z K ph h n1 n2 pc' ls (.null :: st)) : Run Z K ph h n1 n2 pc ls (.null :: st) := by
  subst hp
  exact rX ok hr fun p e s m args below meth c T locs X hx hby hZ ho eT t => X.checkcastNull hx (g := mkF m pc ls (.null :: st)) rfl rfl (hb hby hd) t
theorem r_instanceof (ok : Ok Z K EL own code maxL ret nm R l w Q) (hp : pc + 3 = pc') {C : String} {idx : Nat} {a : Addr} (hd : decode code pc = .ok (.instanceof idx, 3)) (w1 : (Jvm.Cond.classLink own idx C).before a0 Z = true) (F : Ins Z h a C true) (hr : Run Z K ph h n1 n2 pc' ls (.int 1 :: st)) : Run Z K ph h n1 n2 pc ls (.ref a :: st) := by
  subst hp
  exact rT ok hr fun p e s m args below meth c T locs X hx hby hml hZ ho eT => instY X hx hZ ho w1 eT F (g := mkF m pc ls (.ref a :: st)) rfl rfl (hb hby hd)
theorem r_instanceofNo (ok : Ok Z K EL own code maxL ret nm R l w Q) (hp : pc + 3 = pc') {C D : String} {idx : Nat} {a : Addr} (hd : decode code pc = .ok (.instanceof idx, 3)) (w1 : (Jvm.Cond.classLink own idx C).before a0 Z = true) (E : Exa Z h a D) (F : ∃ c t, Z.vm.findClass D = some c ∧ Z.vm.findClass C = some t ∧ Z.vm.assignable c t = false) (hr : Run Z K ph h n1 n2 pc' ls (.int 0 :: st)) : Run Z K ph h n1 n2 pc ls (.ref a :: st) := by
  subst hp
  exact rT ok hr fun p e s m args below meth c T locs X hx hby hml hZ ho eT => instNo X hx hZ ho w1 eT E F (g := mkF m pc ls (.ref a :: st)) rfl rfl (hb hby hd)
theorem r_acmp (ok : Ok Z K EL own code maxL ret nm R l w Q) {cd : ACond} {x y : Value} {o : Int} {same : Bool} (h1 : x.isRef = true) (h2 : y.isRef = true) (hd : decode code pc = .ok (.if_acmp cd o, 3)) (hq : decide (x = y) = same) (ho : 0 ≤ (pc : Int) + o) (hp : pc' = if acV cd same = true then ((pc : Int) + o).toNat else pc + 3) (hr : Run Z K ph h n1 n2 pc' ls st) : Run Z K ph h n1 n2 pc ls (y :: x :: st) :=
  rX ok hr fun p e s m args below meth c T locs X hx hby hZ hw eT t => acmp (g := mkF m pc ls (y :: x :: st)) X hx rfl h1 h2 rfl (hb hby hd) rfl hq ho hp
theorem r_init (ok : Ok Z K EL own code maxL ret nm R l w Q) (hp : pc + 3 = pc') {idx : Nat} {a : Addr} (hd : decode code pc = .ok (.invokespecial idx, 3)) (w1 : (Jvm.Cond.methodLink own idx Lib.objectInit).before a0 Z = true) (w2 : (Jvm.Cond.instanceMethod Lib.objectInit).before a0 Z = true) (w3 : (Jvm.Cond.code Lib.objectInit ⟨#[0xb1]⟩ 1 none).before a0 Z = true) (hls : ls.size = maxL) (hf : 1 ≤ R.frames) (hl : (st.map fun v => v.category).sum + 12 ≤ R.locals) (hr : Run Z K ph h n1 n2 pc' ls st) : Run Z K ph h n1 n2 pc ls (.ref a :: st) := by
  subst hp
  exact rT ok hr fun p e s m args below meth c T locs X hx hby hml hZ ho eT => initO X hx hZ ho w1 w2 w3 eT (g := mkF m pc ls (.ref a :: st)) rfl (by rw [hml]; exact hls) rfl (hb hby hd) hf (W := (st.map fun v => v.category).sum) (by show 2 * 0 + _ ≤ _; omega) hl
theorem r_putfield (ok : Ok Z K EL own code maxL ret nm R l w Q) (hp : pc + 3 = pc') {R0 O n d host C : String} {idx kk : Nat} {ty : FieldType} {a : Addr} {v old : Value} (hd : decode code pc = .ok (.putfield idx, 3)) (w1 : (Jvm.Cond.fieldLink own idx R0 n d).before a0 Z = true ∨ (Jvm.Cond.fieldLinkNest own idx R0 n d host).before a0 Z = true) (via : Via Z R0 O n d) (w2 : (Jvm.Cond.lays C O n d).before a0 Z = true ∨ ((Jvm.Cond.laysFinal C O n d).before a0 Z = true ∧ own = O ∧ nm = "<init>")) (w3 : (Jvm.Cond.instantiable C kk).before a0 Z = true)
    (F : Fld Z h a O n d old) (E : Exa Z h a C) (g : Z.heap.size ≤ a) (hty : parseFieldDescriptor d = some ty) (hn : narrow ty v = v) (hf : fits ty v = true) (hr : ∀ h', Wr h h' a (RoadKit.slotOf Z O n d) v → Fld Z h' a O n d v → Exa Z h' a C → Run Z K ph h' n1 n2 pc' ls st) : Run Z K ph h n1 n2 pc ls (v :: .ref a :: st) := by
  subst hp
  refine rH ok (P := fun h' => Wr h h' a (RoadKit.slotOf Z O n d) v) (m1 := n1) (m2 := n2) (fun p e s m args below meth c T locs X hx hby hml hZ ho hnm eT X0 => ?_) (fun h' q => hr h' q (F.same q) (E.wr q))
  obtain ⟨T', h', X', e', W, st'⟩ := putF X hx hZ ho w1 via eT F E (w2.imp id fun q => ⟨q.1, q.2.1, hnm.trans q.2.2⟩) w3 hty hn hf (g := mkF m pc ls (v :: .ref a :: st)) rfl rfl (hb hby hd)
  exact ⟨T', h', _, X', e', (fun y hy => by cases List.mem_singleton.mp hy; exact g), Nat.le_of_eq W.size.symm, ext_wr X0 W g, W, st'⟩
theorem r_putfieldN (ok : Ok Z K EL own code maxL ret nm R l w Q) (hp : pc + 3 = pc') {R0 O n d C : String} {idx kk : Nat} {ty : FieldType} {a : Addr} {v v' old : Value} (hd : decode code pc = .ok (.putfield idx, 3)) (w1 : (Jvm.Cond.fieldLink own idx R0 n d).before a0 Z = true) (via : Via Z R0 O n d) (w2 : (Jvm.Cond.lays C O n d).before a0 Z = true ∨ ((Jvm.Cond.laysFinal C O n d).before a0 Z = true ∧ own = O ∧ nm = "<init>")) (w3 : (Jvm.Cond.instantiable C kk).before a0 Z = true)
    (F : Fld Z h a O n d old) (E : Exa Z h a C) (g : Z.heap.size ≤ a) (hty : parseFieldDescriptor d = some ty) (hn : narrow ty v = v') (hf : fits ty v' = true) (hr : ∀ h', Wr h h' a (RoadKit.slotOf Z O n d) v' → Fld Z h' a O n d v' → Exa Z h' a C → Run Z K ph h' n1 n2 pc' ls st) : Run Z K ph h n1 n2 pc ls (v :: .ref a :: st) := by
  subst hp
  refine rH ok (P := fun h' => Wr h h' a (RoadKit.slotOf Z O n d) v') (m1 := n1) (m2 := n2) (fun p e s m args below meth c T locs X hx hby hml hZ ho hnm eT X0 => ?_) (fun h' q => hr h' q (F.same q) (E.wr q))
  obtain ⟨T', h', X', e', W, st'⟩ := putFN X hx hZ ho w1 via eT F E (w2.imp id fun q => ⟨q.1, q.2.1, hnm.trans q.2.2⟩) w3 hty hn hf (g := mkF m pc ls (v :: .ref a :: st)) rfl rfl (hb hby hd)
  exact ⟨T', h', _, X', e', (fun y hy => by cases List.mem_singleton.mp hy; exact g), Nat.le_of_eq W.size.symm, ext_wr X0 W g, W, st'⟩
/-- an array's length -/
theorem r_arraylength (ok : Ok Z K EL own code maxL ret nm R l w Q) (hp : pc + 1 = pc') {a : Addr} {k : ClassId} {ty : FieldType} {n : Int32} {vs : List Value} {dv : Value} (hd : decode code pc = .ok (.arraylength, 1)) (A : Arv Z h a k ty n vs dv) (hr : Run Z K ph h n1 n2 pc' ls (.int n :: st)) : Run Z K ph h n1 n2 pc ls (.ref a :: st) := by
  subst hp
  obtain ⟨cl, Ar, q, S, N, H, G⟩ := A
  exact rX ok hr fun p e s m args below meth c T locs X hx hby hZ ho eT t ht => X.arraylength hx (a := a) (cell := cl) (ty := ty) (by rw [eT]; exact Ar.1) (State.isArrayOf_alike hZ.alike Ar.2.1) (g := mkF m pc ls (.ref a :: st)) rfl rfl (hb hby hd) t (by rw [len_of S N]; exact ht)
/-- an element's place -/
theorem getD_at {c : Cell} {vs : List Value} {dv : Value} {j n : Int32} (S : c.slots.size = n.toNatClampNeg) (H : Has c vs dv) (q : ¬ j < 0 ∧ j < n) : c.slots[j.toNatClampNeg]? = some (vs.getD j.toNatClampNeg dv) := H.at (inb_of S q) rfl
theorem r_caload (ok : Ok Z K EL own code maxL ret nm R l w Q) (hp : pc + 1 = pc') {a : Addr} {k : ClassId} {n j : Int32} {vs : List Value} {v dv : Value} (hd : decode code pc = .ok (.caload, 1)) (A : Arv Z h a k .char n vs dv) (q : ¬ j < 0 ∧ j < n) (hv : vs.getD j.toNatClampNeg dv = v) (hr : Run Z K ph h n1 n2 pc' ls (v :: st)) : Run Z K ph h n1 n2 pc ls (.int j :: .ref a :: st) := by
  subst hp
  obtain ⟨cl, Ar, q1, S, N, H, G⟩ := A
  exact rX ok hr fun p e s m args below meth c T locs X hx hby hZ ho eT t => X.caload hx (j := j) (v := v) (by rw [eT]; exact Ar.1) (State.isArrayOf_alike hZ.alike Ar.2.1) Ar.2.2 (inb_of S q) (H.at (inb_of S q) hv) (g := mkF m pc ls (.int j :: .ref a :: st)) rfl rfl (hb hby hd) t
theorem r_baload (ok : Ok Z K EL own code maxL ret nm R l w Q) (hp : pc + 1 = pc') {a : Addr} {k : ClassId} {n j : Int32} {vs : List Value} {v dv : Value} (hd : decode code pc = .ok (.baload, 1)) (A : Arv Z h a k .byte n vs dv) (q : ¬ j < 0 ∧ j < n) (hv : vs.getD j.toNatClampNeg dv = v) (hr : Run Z K ph h n1 n2 pc' ls (v :: st)) : Run Z K ph h n1 n2 pc ls (.int j :: .ref a :: st) := by
  subst hp
  obtain ⟨cl, Ar, q1, S, N, H, G⟩ := A
  exact rX ok hr fun p e s m args below meth c T locs X hx hby hZ ho eT t => X.baloadBytes hx (j := j) (v := v) (by rw [eT]; exact Ar.1) (State.isArrayOf_alike hZ.alike Ar.2.1) Ar.2.2 (inb_of S q) (H.at (inb_of S q) hv) (g := mkF m pc ls (.int j :: .ref a :: st)) rfl rfl (hb hby hd) t
theorem r_baloadZ (ok : Ok Z K EL own code maxL ret nm R l w Q) (hp : pc + 1 = pc') {a : Addr} {k : ClassId} {n j : Int32} {vs : List Value} {v dv : Value} (hd : decode code pc = .ok (.baload, 1)) (A : Arv Z h a k .boolean n vs dv) (q : ¬ j < 0 ∧ j < n) (hv : vs.getD j.toNatClampNeg dv = v) (hr : Run Z K ph h n1 n2 pc' ls (v :: st)) : Run Z K ph h n1 n2 pc ls (.int j :: .ref a :: st) := by
  subst hp
  obtain ⟨cl, Ar, q1, S, N, H, G⟩ := A
  exact rX ok hr fun p e s m args below meth c T locs X hx hby hZ ho eT t => X.baloadBooleans hx (j := j) (v := v) (by rw [eT]; exact Ar.1) (State.isArrayOf_alike hZ.alike Ar.2.1) Ar.2.2 (inb_of S q) (H.at (inb_of S q) hv) (g := mkF m pc ls (.int j :: .ref a :: st)) rfl rfl (hb hby hd) t
theorem r_aaload (ok : Ok Z K EL own code maxL ret nm R l w Q) (hp : pc + 1 = pc') {a : Addr} {k : ClassId} {ty : FieldType} {n j : Int32} {vs : List Value} {v dv : Value} (hd : decode code pc = .ok (.aaload, 1)) (hty : ty.isReference = true) (A : Arv Z h a k ty n vs dv) (q : ¬ j < 0 ∧ j < n) (hv : vs.getD j.toNatClampNeg dv = v) (hr : Run Z K ph h n1 n2 pc' ls (v :: st)) : Run Z K ph h n1 n2 pc ls (.int j :: .ref a :: st) := by
  subst hp
  obtain ⟨cl, Ar, q1, S, N, H, G⟩ := A
  exact rX ok hr fun p e s m args below meth c T locs X hx hby hZ ho eT t => X.aaload hx (j := j) (v := v) (by rw [eT]; exact Ar.1) (State.isArrayOf_alike hZ.alike Ar.2.1) hty Ar.2.2 (inb_of S q) (H.at (inb_of S q) hv) (g := mkF m pc ls (.int j :: .ref a :: st)) rfl rfl (hb hby hd) t
/-- stores into arrays -/
theorem r_castore (ok : Ok Z K EL own code maxL ret nm R l w Q) (hp : pc + 1 = pc') {a : Addr} {k : ClassId} {n j x : Int32} {vs : List Value} {dv : Value} (i : Nat) (hd : decode code pc = .ok (.castore, 1)) (A : Arv Z h a k .char n vs dv) (g : Z.heap.size ≤ a) (q : ¬ j < 0 ∧ j < n) (hj : j.toNatClampNeg = i) (hi : i < vs.length) (hr : ∀ h', Wr h h' a j.toNatClampNeg (.int (nar .char x)) → Arv Z h' a k .char n (vs.set i (.int (nar .char x))) dv → Run Z K ph h' n1 n2 pc' ls st) : Run Z K ph h n1 n2 pc ls (.int x :: .int j :: .ref a :: st) := by
  subst hp
  obtain ⟨cl, Ar, q1, S, N, H, G⟩ := A
  refine rH ok (P := fun h' => Wr h h' a j.toNatClampNeg (.int (nar .char x))) (m1 := n1) (m2 := n2) (fun p e s m args below meth c T locs X hx hby hml hZ ho hnm eT X0 => ?_) (fun h' W => hr h' W (Arv.set Ar q1 S N H G (fits_nar_char _) W i hj hi))
  obtain ⟨T', h', X', e', W, st'⟩ := stC X hx hZ eT Ar (inb_of S q) (g := mkF m pc ls (.int x :: .int j :: .ref a :: st)) rfl rfl (hb hby hd)
  exact ⟨T', h', _, X', e', (fun y hy => by cases List.mem_singleton.mp hy; exact g), Nat.le_of_eq W.size.symm, ext_wr X0 W g, W, st'⟩
theorem r_bastore (ok : Ok Z K EL own code maxL ret nm R l w Q) (hp : pc + 1 = pc') {a : Addr} {k : ClassId} {n j x : Int32} {vs : List Value} {dv : Value} (i : Nat) (hd : decode code pc = .ok (.bastore, 1)) (A : Arv Z h a k .byte n vs dv) (g : Z.heap.size ≤ a) (q : ¬ j < 0 ∧ j < n) (hj : j.toNatClampNeg = i) (hi : i < vs.length) (hr : ∀ h', Wr h h' a j.toNatClampNeg (.int (nar .byte x)) → Arv Z h' a k .byte n (vs.set i (.int (nar .byte x))) dv → Run Z K ph h' n1 n2 pc' ls st) : Run Z K ph h n1 n2 pc ls (.int x :: .int j :: .ref a :: st) := by
  subst hp
  obtain ⟨cl, Ar, q1, S, N, H, G⟩ := A
  refine rH ok (P := fun h' => Wr h h' a j.toNatClampNeg (.int (nar .byte x))) (m1 := n1) (m2 := n2) (fun p e s m args below meth c T locs X hx hby hml hZ ho hnm eT X0 => ?_) (fun h' W => hr h' W (Arv.set Ar q1 S N H G (fits_nar_byte _) W i hj hi))
  obtain ⟨T', h', X', e', W, st'⟩ := stB X hx hZ eT Ar (inb_of S q) (g := mkF m pc ls (.int x :: .int j :: .ref a :: st)) rfl rfl (hb hby hd)
  exact ⟨T', h', _, X', e', (fun y hy => by cases List.mem_singleton.mp hy; exact g), Nat.le_of_eq W.size.symm, ext_wr X0 W g, W, st'⟩
theorem r_aastore (ok : Ok Z K EL own code maxL ret nm R l w Q) (hp : pc + 1 = pc') {a : Addr} {k : ClassId} {ty : FieldType} {n j : Int32} {v : Value} {vs : List Value} {dv : Value} (i : Nat) (hd : decode code pc = .ok (.aastore, 1)) (hty : ty.isReference = true) (A : Arv Z h a k ty n vs dv) (F : Sto Z h a v) (hv : fits ty v = true) (g : Z.heap.size ≤ a) (q : ¬ j < 0 ∧ j < n) (hj : j.toNatClampNeg = i) (hi : i < vs.length) (hr : ∀ h', Wr h h' a j.toNatClampNeg v → Arv Z h' a k ty n (vs.set i v) dv → Run Z K ph h' n1 n2 pc' ls st) : Run Z K ph h n1 n2 pc ls (v :: .int j :: .ref a :: st) := by
  subst hp
  obtain ⟨cl, Ar, q1, S, N, H, G⟩ := A
  refine rH ok (P := fun h' => Wr h h' a j.toNatClampNeg v) (m1 := n1) (m2 := n2) (fun p e s m args below meth c T locs X hx hby hml hZ ho hnm eT X0 => ?_) (fun h' W => hr h' W (Arv.set Ar q1 S N H G hv W i hj hi))
  obtain ⟨T', h', X', e', W, st'⟩ := stR X hx hZ eT Ar (inb_of S q) hty F (g := mkF m pc ls (v :: .int j :: .ref a :: st)) rfl rfl (hb hby hd)
  exact ⟨T', h', _, X', e', (fun y hy => by cases List.mem_singleton.mp hy; exact g), Nat.le_of_eq W.size.symm, ext_wr X0 W g, W, st'⟩
/-- constants out of the pool -/
theorem r_ldcI (ok : Ok Z K EL own code maxL ret nm R l w Q) (hp : pc + 2 = pc') {idx : Nat} {v : Int32} (hd : decode code pc = .ok (.ldc idx, 2)) (w1 : (Jvm.Cond.constant own idx v).before a0 Z = true) (hr : Run Z K ph h n1 n2 pc' ls (.int v :: st)) : Run Z K ph h n1 n2 pc ls st := by
  subst hp; exact rX ok hr fun p e s m args below meth c T locs X hx hby hZ ho eT t => X.ldcI hx ho (mv hZ w1) (g := mkF m pc ls st) rfl (hb hby hd)

/-- what a call leaves, of a walk that hasn't interned | that may have -/
theorem rCall (ok : Ok Z K EL own code maxL ret nm R l w Q) {w' : Bool} {EL' : Els} {k n : Nat} {as : Array Value} {rest : List Value} {Q' : Option Value → Heap → Prop} (hww : w' = true → w = true) (hEL : EL' = [] ∨ EL' = EL ∧ ∀ s v, ph s v → v = s.vm)
    (f0 : w' = false → ∀ (p : Program) (e : Env) (s : State) (m : MethodId) (args : Array Value) (below : List Frame) (meth : Method) (c : Code) (T : State) (locs : List Loc), Stand p l e R s m args below meth c T locs n1 n2 → p.tables.exec = Jvm.exec → c.code = code → c.maxLocals = maxL → Z.Warmed39 s.vm → s.vm.findClass own = some m.cls → T.heap = h → CHv Z EL' s.vm Z.heap → Ext Z.heap h →
      ∃ (v : Option Value) (vm₁ : Vm) (B : Pt), Stand p l e R s m args below meth c B.U B.locs B.cells B.slots ∧ (∃ L, Pst Z h.size Q' v B.U.heap L ∧ B.locs = locs ++ L ∧ B.cells = n1 + k ∧ B.slots = n2 + n) ∧ ∀ t, Steps p.tables e below (B.U.setTop (mkF m pc' ls (v.toList ++ rest))) t → Steps p.tables e below (T.setTop (mkF m pc ls st)) t)
    (f1 : w' = true → ∀ (p : Program) (e : Env) (s : State) (m : MethodId) (args : Array Value) (below : List Frame) (meth : Method) (c : Code) (T : State) (locs : List Loc), Stand p l e R s m args below meth c T locs n1 n2 → p.tables.exec = Jvm.exec → c.code = code → c.maxLocals = maxL → Z.Warmed39 s.vm → s.vm.findClass own = some m.cls → T.heap = h → CHv Z EL' s.vm Z.heap → Ext Z.heap h →
      ∃ (v : Option Value) (vm₁ : Vm) (B : Pt), Stand p l e R (s.setVm B.U.vm) m args below meth c B.U B.locs B.cells B.slots ∧ s.Since B.U.vm B.U.heap.size ∧ (∃ L, Pst Z h.size Q' v B.U.heap L ∧ B.locs = locs ++ L ∧ B.cells = n1 + k ∧ B.slots = n2 + n) ∧ ∀ t, Steps p.tables e below (B.U.setTop (mkF m pc' ls (v.toList ++ rest))) t → Steps p.tables e below (T.setTop (mkF m pc ls st)) t)
    (hr : ∀ v h', Q' v h' → h.size ≤ h'.size → Run Z K (PhA w' ph) h' (n1 + k) (n2 + n) pc' ls (v.toList ++ rest)) : Run Z K ph h n1 n2 pc ls st := by
  obtain ⟨p, l1, e, R1, s, m, args, below, meth, c, w1, Q1⟩ := K
  obtain ⟨hx, hby, hml, ho, hret, hlk, hnm, rfl, rfl, rfl, rfl, hCH⟩ := ok
  intro T X W
  obtain ⟨vm0, k0, locs, S, hS, hk, hZ, hF, eT, hw⟩ := W
  have hC : CHv Z EL' (s.setVm vm0).vm Z.heap := by
    rcases hEL with rfl | ⟨rfl, q⟩
    · exact chv_nil
    · rw [q _ _ hw]; exact hCH
  cases w'
  · obtain ⟨v, vm₁, ⟨U, Lq, c1, s1⟩, S', ⟨L, ⟨hq, hL, hX', hle⟩, e1, e2, e3⟩, hst⟩ := f0 rfl p e (s.setVm vm0) m args below meth c T locs S hx hby hml hZ (ho vm0 hZ) eT hC X
    dsimp only [Pt.U, Pt.locs, Pt.cells, Pt.slots] at S' hq hX' hle e1 e2 e3 hst
    subst e1 e2 e3
    obtain ⟨s₂, o, h1, r⟩ := hr v U.heap hq hle U hX' ⟨vm0, k0, _, S', hS, by rw [eT] at hk; exact Nat.le_trans hk hle, hZ, hF.app hL, rfl, hw⟩
    exact ⟨s₂, o, hst _ h1, r⟩
  · obtain ⟨v, vm₁, ⟨U, Lq, c1, s1⟩, S', hS', ⟨L, ⟨hq, hL, hX', hle⟩, e1, e2, e3⟩, hst⟩ := f1 rfl p e (s.setVm vm0) m args below meth c T locs S hx hby hml hZ (ho vm0 hZ) eT hC X
    dsimp only [Pt.U, Pt.locs, Pt.cells, Pt.slots] at S' hS' hq hX' hle e1 e2 e3 hst
    subst e1 e2 e3
    obtain ⟨s₂, o, h1, r⟩ := hr v U.heap hq hle U hX' ⟨U.vm, U.heap.size, _, S', hS.trans hS' (by rw [eT] at hk; exact Nat.le_trans hk hle), Nat.le_refl _, State.Warmed39.trans (t := s.setVm vm0) hZ hS'.1, hF.app hL, rfl, trivial⟩
    exact ⟨s₂, o, hst _ h1, r⟩
section Calls
variable {y : MethodName} {idx : Nat} {bytes : ByteArray} {mL : Nat} {rt : Option FieldType} {ps : List FieldType} {rty : Option FieldType} {w' : Bool} {EL' : Els} {W k n : Nat} {as : Array Value} {Q' : Option Value → Heap → Prop} {argsL rest : List Value}
theorem r_static (ok : Ok Z K EL own code maxL ret nm R l w Q) (hp : pc + 3 = pc') (hd : decode code pc = .ok (.invokestatic idx, 3)) (w1 : (Jvm.Cond.methodLink own idx y).before a0 Z = true) (w2 : (Jvm.Cond.static y).before a0 Z = true) (w3 : (Jvm.Cond.initialized y.cls).before a0 Z = true) (w4 : (Jvm.Cond.code y bytes mL rt).before a0 Z = true)
    (hy : y.cls ≠ "java/lang/invoke/MethodHandle" ∧ y.cls ≠ "java/lang/invoke/VarHandle") (pd : parseMethodDescriptor y.desc = some ⟨ps, rty⟩) (pay : Pay Z EL' w' l R y 3 W as h k n Q') (hww : w' = true → w = true) (hEL : EL' = [] ∨ EL' = EL ∧ ∀ s v, ph s v → v = s.vm) (hls : ls.size = maxL) (has : argsL.toArray = as) (hst : st = argsL.reverse ++ rest) (hlen : argsL.length = ps.length) (hW : (rest.map fun v => v.category).sum ≤ W) (hc : n1 + k ≤ R.cells) (hn : n2 + n ≤ R.slots)
    (hr : ∀ v h', Q' v h' → h.size ≤ h'.size → Run Z K (PhA w' ph) h' (n1 + k) (n2 + n) pc' ls (v.toList ++ rest)) : Run Z K ph h n1 n2 pc ls st := by
  subst hp has
  refine rCall ok (w' := w') (as := argsL.toArray) hww hEL (fun hw0 p e s m args below meth c T locs S hx hby hml hZ ho eT hC X => ?_) (fun hw0 p e s m args below meth c T locs S hx hby hml hZ ho eT hC X => ?_) hr
  · subst hw0
    obtain ⟨v, vm₁, B, -, S', hQ, hst'⟩ := Jvm.LawKit.callS S hx ho (mvT hZ w1) (mvT hZ w2) (mvT hZ w3) (mvT hZ w4) hy (pay p e below s args hZ hC X) (g := mkF m pc ls st) rfl (by rw [hml]; exact hls) (argsL := argsL) (rest := rest) (lenOf pd hlen) hst (by show 2 * 0 + _ ≤ _; omega) (hb hby hd) (fun _ _ => ⟨rfl, eT, hc, hn⟩)
    exact ⟨v, vm₁, B, S', hQ, hst'⟩
  · subst hw0
    obtain ⟨v, vm₁, B, -, S', hS, -, hQ, hst'⟩ := callSS S hx ho (mvT hZ w1) (mvT hZ w2) (mvT hZ w3) (mvT hZ w4) hy (pay p e below s args hZ hC X) (g := mkF m pc ls st) rfl (by rw [hml]; exact hls) (argsL := argsL) (rest := rest) (lenOf pd hlen) hst (by show 2 * 0 + _ ≤ _; omega) (hb hby hd) (fun _ _ => ⟨rfl, eT, hc, hn⟩)
    exact ⟨v, vm₁, B, S', hS, hQ, fun t ht => hst'.trans ht⟩
theorem r_special {a : Addr} (ok : Ok Z K EL own code maxL ret nm R l w Q) (hp : pc + 3 = pc') (hd : decode code pc = .ok (.invokespecial idx, 3)) (hy1 : y.name = "<init>") (w1 : (Jvm.Cond.methodLink own idx y).before a0 Z = true) (w2 : (Jvm.Cond.instanceMethod y).before a0 Z = true) (w4 : (Jvm.Cond.code y bytes mL none).before a0 Z = true)
    (hy : y.cls ≠ "java/lang/invoke/MethodHandle" ∧ y.cls ≠ "java/lang/invoke/VarHandle") (pd : parseMethodDescriptor y.desc = some ⟨ps, rty⟩) (pay : Pay Z EL' w' l R y 3 W as h k n Q') (hww : w' = true → w = true) (hEL : EL' = [] ∨ EL' = EL ∧ ∀ s v, ph s v → v = s.vm) (hls : ls.size = maxL) (has : (.ref a :: argsL).toArray = as) (hst : st = argsL.reverse ++ .ref a :: rest) (hlen : argsL.length = ps.length) (hW : (rest.map fun v => v.category).sum ≤ W) (hc : n1 + k ≤ R.cells) (hn : n2 + n ≤ R.slots)
    (hr : ∀ v h', Q' v h' → h.size ≤ h'.size → Run Z K (PhA w' ph) h' (n1 + k) (n2 + n) pc' ls (v.toList ++ rest)) : Run Z K ph h n1 n2 pc ls st := by
  subst hp has
  refine rCall ok (w' := w') (as := (.ref a :: argsL).toArray) hww hEL (fun hw0 p e s m args below meth c T locs S hx hby hml hZ ho eT hC X => ?_) (fun hw0 p e s m args below meth c T locs S hx hby hml hZ ho eT hC X => ?_) hr
  · subst hw0
    obtain ⟨v, vm₁, B, -, S', hQ, hst'⟩ := S.specialBack hx hy1 ho (mvT hZ w1) (mvT hZ w2) (mvT hZ w4) hy (pay p e below s args hZ hC X) (g := mkF m pc ls st) rfl (by rw [hml]; exact hls) (Steps.refl _) (a := a) (argsL := argsL) (rest := rest) (lenOf pd hlen) hst (by show 2 * 0 + _ ≤ _; omega) (hb hby hd) (fun _ _ => ⟨rfl, eT, hc, hn⟩)
    exact ⟨v, vm₁, B, S', hQ, fun t ht => hst'.trans ht⟩
  · subst hw0
    obtain ⟨v, vm₁, B, -, S', hS, -, hQ, hst'⟩ := S.specialBackS hx hy1 ho (mvT hZ w1) (mvT hZ w2) (mvT hZ w4) hy (pay p e below s args hZ hC X) (g := mkF m pc ls st) rfl (by rw [hml]; exact hls) (Steps.refl _) (a := a) (argsL := argsL) (rest := rest) (lenOf pd hlen) hst (by show 2 * 0 + _ ≤ _; omega) (hb hby hd) (fun _ _ => ⟨rfl, eT, hc, hn⟩)
    exact ⟨v, vm₁, B, S', hS, hQ, fun t ht => hst'.trans ht⟩
theorem r_virtual {a : Addr} {C : String} {z : MethodName} (ok : Ok Z K EL own code maxL ret nm R l w Q) (hp : pc + 3 = pc') (hd : decode code pc = .ok (.invokevirtual idx, 3)) (w1 : (Jvm.Cond.methodLink own idx y).before a0 Z = true) (w2 : (Jvm.Cond.declares y).before a0 Z = true) (w3 : (Jvm.Cond.selects C y z).before a0 Z = true) (w4 : (Jvm.Cond.instanceMethod z).before a0 Z = true) (nf : ∀ (s : State), Z.Warmed39 s.vm → NotFace s y) (E : Exa Z h a C)
    (hy : y.cls ≠ "java/lang/invoke/MethodHandle" ∧ y.cls ≠ "java/lang/invoke/VarHandle") (pd : parseMethodDescriptor y.desc = some ⟨ps, rty⟩) (pay : Pay Z EL' w' l R z 3 W as h k n Q') (hww : w' = true → w = true) (hEL : EL' = [] ∨ EL' = EL ∧ ∀ s v, ph s v → v = s.vm) (hls : ls.size = maxL) (has : (.ref a :: argsL).toArray = as) (hst : st = argsL.reverse ++ .ref a :: rest) (hlen : argsL.length = ps.length) (hW : (rest.map fun v => v.category).sum ≤ W) (hc : n1 + k ≤ R.cells) (hn : n2 + n ≤ R.slots)
    (hr : ∀ v h', Q' v h' → h.size ≤ h'.size → Run Z K (PhA w' ph) h' (n1 + k) (n2 + n) pc' ls (v.toList ++ rest)) : Run Z K ph h n1 n2 pc ls st := by
  subst hp has
  refine rCall ok (w' := w') (as := (.ref a :: argsL).toArray) hww hEL (fun hw0 p e s m args below meth c T locs S hx hby hml hZ ho eT hC X => ?_) (fun hw0 p e s m args below meth c T locs S hx hby hml hZ ho eT hC X => ?_) hr
  · subst hw0
    obtain ⟨cq, kq, qa, qb, qc⟩ := isOf hZ eT E
    obtain ⟨v, vm₁, B, -, S', hQ, hst'⟩ := S.virtualBack hx ho (mvT hZ w1) (mvT hZ w2) (nf s hZ) (mvT hZ w3) (mvT hZ w4) hy (pay p e below s args hZ hC X) qa qc (g := mkF m pc ls st) rfl (by rw [hml]; exact hls) (Steps.refl _) (argsL := argsL) (rest := rest) (lenOf pd hlen) hst (by show 2 * 0 + _ ≤ _; omega) (hb hby hd) (fun _ _ => ⟨rfl, eT, hc, hn⟩)
    exact ⟨v, vm₁, B, S', hQ, fun t ht => hst'.trans ht⟩
  · subst hw0
    obtain ⟨cq, kq, qa, qb, qc⟩ := isOf hZ eT E
    obtain ⟨v, vm₁, B, -, S', hS, -, hQ, hst'⟩ := S.virtualBackS hx ho (mvT hZ w1) (mvT hZ w2) (nf s hZ) (mvT hZ w3) (mvT hZ w4) hy (pay p e below s args hZ hC X) qa qc (g := mkF m pc ls st) rfl (by rw [hml]; exact hls) (Steps.refl _) (argsL := argsL) (rest := rest) (lenOf pd hlen) hst (by show 2 * 0 + _ ≤ _; omega) (hb hby hd) (fun _ _ => ⟨rfl, eT, hc, hn⟩)
    exact ⟨v, vm₁, B, S', hS, hQ, fun t ht => hst'.trans ht⟩
theorem nf_sel {C : String} {z : MethodName} (w3 : (Jvm.Cond.selects C y y).before a0 Z = true) : ∀ (s : State), Z.Warmed39 s.vm → NotFace s y := fun s hZ => notFace_of_selects (args := #[]) (mvT hZ w3)
end Calls
theorem cV {rest : List Value} {m1 m2 : Nat} {Q' : Value → Heap → Prop} (f : ∀ x h', Q' x h' → h.size ≤ h'.size → Run Z K ph h' m1 m2 pc ls (x :: rest)) : ∀ v h', rV Q' v h' → h.size ≤ h'.size → Run Z K ph h' m1 m2 pc ls (v.toList ++ rest) := by
  rintro _ h' ⟨x, rfl, q⟩ hl; exact f x h' q hl
theorem cU {rest : List Value} {m1 m2 : Nat} {Q' : Heap → Prop} (f : ∀ h', Q' h' → h.size ≤ h'.size → Run Z K ph h' m1 m2 pc ls rest) : ∀ v h', rU Q' v h' → h.size ≤ h'.size → Run Z K ph h' m1 m2 pc ls (v.toList ++ rest) := by
  rintro _ h' ⟨rfl, q⟩ hl; exact f h' q hl
theorem r_gen {x : Int32} (hr : ∀ z, z = x → Run Z K ph h n1 n2 pc ls (.int z :: st)) : Run Z K ph h n1 n2 pc ls (.int x :: st) := hr x rfl
theorem r_genL {x : Int64} (hr : ∀ z, z = x → Run Z K ph h n1 n2 pc ls (.long z :: st)) : Run Z K ph h n1 n2 pc ls (.long x :: st) := hr x rfl
theorem Pay.more {y : MethodName} {len W k n k' n' : Nat} {as : Array Value} {Q' : Option Value → Heap → Prop} (H : Pay Z EL false l R y len W as h k n Q') (hk : k ≤ k') (hn : n ≤ n') : Pay Z EL false l R y len W as h k' n' Q' := by
  intro p e below s args hZ H0 X m meth c A g ig mk a S hg hsize hdg hW hnm hp
  obtain ⟨v, B, S', ⟨L, q, e1, e2, e3⟩, hs⟩ := H p e below s args hZ H0 X m meth c A g ig mk a S hg hsize hdg hW hnm ⟨hp.1, hp.2.1, by have := hp.2.2.1; omega, by have := hp.2.2.2; omega⟩
  exact ⟨v, (B.U, B.locs, A.cells + k', A.slots + n'), Stand.more S' (by show B.cells ≤ A.cells + k'; rw [e2]; omega) (by show B.slots ≤ A.slots + n'; rw [e3]; omega), ⟨L, q, e1, rfl, rfl⟩, hs⟩
/-- a String constant that may be new to the machine -/
theorem r_ldcS (ok : Ok Z K EL own code maxL ret nm R l true Q) (hp : pc + 2 = pc') {idx : Nat} {text : String} (n : Nat) (hd : decode code pc = .ok (.ldc idx, 2)) (w1 : (Jvm.Cond.stringLink own idx text).before a0 Z = true) (wS : ∀ a ∈ Bundle.stringAtoms, a.before a0 Z = true) (hn : 4 * text.toList.length ≤ n) (hbig : n ≤ 536870912) (hc : n1 + 2 ≤ R.cells) (hl : n2 + (n + 4) ≤ R.slots)
    (hr : ∀ h' a, Ext h h' → Run Z K Dty h' (n1 + 2) (n2 + (n + 4)) pc' ls (.ref a :: st)) : Run Z K ph h n1 n2 pc ls st := by
  subst hp
  obtain ⟨p, l1, e, R1, s, m, args, below, meth, c, w1', Q1⟩ := K
  obtain ⟨hx, hby, hml, ho, hret, hlk, hnm, rfl, rfl, rfl, rfl, hCH⟩ := ok
  intro T X W
  obtain ⟨vm0, k0, locs, S, hS, hk, hZ, hF, eT, hw⟩ := W
  obtain ⟨a, T', h', k1, S', e', E, hS', hk', hZ', -, hst⟩ := ldcS S hx hZ (ho vm0 hZ) w1 wS eT hS (by rw [eT] at hk; exact hk) (g := mkF m pc ls st) rfl (hb hby hd) hn hbig hc hl
  obtain ⟨s₂, o, h1, r⟩ := hr h' a E T' (ext_trans X E) ⟨T'.vm, k1, locs, S', hS', by rw [e']; exact hk', hZ', hF, e', trivial⟩
  exact ⟨s₂, o, hst _ h1, r⟩
/-- a String constant, read, where nothing has been interned so far; and the same once more behind it -/
theorem r_ldcL (ok : Ok Z K EL own code maxL ret nm R l true Q) (hp : pc + 2 = pc') {idx : Nat} {text : String} (n : Nat) {vs : List Value} {z : Int32} (hd : decode code pc = .ok (.ldc idx, 2)) (w1 : (Jvm.Cond.stringLink own idx text).before a0 Z = true) (wS : ∀ a ∈ Bundle.stringAtoms, a.before a0 Z = true) (hEL : EW Z a0 EL) (hmem : (own, idx) ∈ EL) (hcl : ∀ s v, ph s v → v = s.vm) (ht : (∀ c ∈ text.toList, c.toNat < 256) ∧ text.toList.map (fun c => Value.int (Jvm.Lit.byteI c.toNat.toUInt16)) = vs) (hz : ¬ z < 0) (hvl : z.toNatClampNeg = vs.length) (hn : 4 * text.toList.length ≤ n) (hbig : n ≤ 536870912) (hc : n1 + 2 ≤ R.cells) (hl : n2 + (n + 4) ≤ R.slots)
    (hr : ∀ h' a b k, Ext h h' → Exa Z h' a "java/lang/String" → Fld Z h' a "java/lang/String" "coder" "B" (.int 0) → Fld Z h' a "java/lang/String" "value" "[B" (.ref b) → Arv Z h' b k .byte z vs (.int 0) → Run Z K (fun s v => Lit (s.setVm v) own idx a) h' (n1 + 2) (n2 + (n + 4)) pc' ls (.ref a :: st)) : Run Z K ph h n1 n2 pc ls st := by
  subst hp
  obtain ⟨p, l1, e, R1, s, m, args, below, meth, c, w1', Q1⟩ := K
  obtain ⟨hx, hby, hml, ho, hret, hlk, hnm, rfl, rfl, rfl, rfl, hCH⟩ := ok
  intro T X W
  obtain ⟨vm0, k0, locs, S, hS, hk, hZ, hF, eT, hw⟩ := W
  have hC : CHv Z EL vm0 h := by rw [hcl _ _ hw]; exact hCH.ext X
  obtain ⟨a, T', h', k1, b, k, S', e', E, hS', hk', hZ', -, q1, q2, q3, q4, -, -, -, hL, -, hst⟩ := ldcCH S hx hZ (ho vm0 hZ) w1 wS eT hS (by rw [eT] at hk; exact hk) hEL hmem hC ht hz hvl (g := mkF m pc ls st) rfl (hb hby hd) hn hbig hc hl
  obtain ⟨s₂, o, h1, r⟩ := hr h' a b k E q1 q2 q3 q4 T' (ext_trans X E) ⟨T'.vm, k1, locs, S', hS', by rw [e']; exact hk', hZ', hF, e', hL⟩
  exact ⟨s₂, o, hst _ h1, r⟩
theorem r_ldcAgain (ok : Ok Z K EL own code maxL ret nm R l w Q) (hp : pc + 2 = pc') {idx : Nat} {text : String} {a : Addr} (hd : decode code pc = .ok (.ldc idx, 2)) (w1 : (Jvm.Cond.stringLink own idx text).before a0 Z = true) (hph : ∀ s v, ph s v → Lit (s.setVm v) own idx a) (hr : Run Z K ph h n1 n2 pc' ls (.ref a :: st)) : Run Z K ph h n1 n2 pc ls st := by
  subst hp
  obtain ⟨p, l1, e, R1, s, m, args, below, meth, c, w1', Q1⟩ := K
  obtain ⟨hx, hby, hml, ho, hret, hlk, hnm, rfl, rfl, rfl, rfl, hCH⟩ := ok
  intro T X W
  obtain ⟨s₂, o, h1, r⟩ := hr T X W
  obtain ⟨vm0, k0, locs, S, hS, hk, hZ, hF, eT, hw⟩ := W
  exact ⟨s₂, o, ldcAgain S hx hZ (ho vm0 hZ) w1 (hph _ _ hw) (g := mkF m pc ls st) rfl (hb hby hd) _ h1, r⟩
/-- getClass through an interface; a Class constant -/
theorem r_getClassI {a mr : Addr} {C : String} {xi : MethodName} {idx count : Nat} (ok : Ok Z K EL own code maxL ret nm R l w Q) (hp : pc + 5 = pc') (hd : decode code pc = .ok (.invokeinterface idx count, 5)) (w1 : (Jvm.Cond.methodLink own idx xi).before a0 Z = true) (w2 : (Jvm.Cond.declares Jvm.Stand.gcN).before a0 Z = true) (w3 : (Jvm.Cond.interfaceMethod xi.cls "java/lang/Object" xi.name xi.desc).before a0 Z = true) (w4 : (Jvm.Cond.selects C xi Jvm.Stand.gcN).before a0 Z = true) (w5 : (Jvm.Cond.instanceMethod Jvm.Stand.gcN).before a0 Z = true) (w6 : (Jvm.Cond.publicMethod Jvm.Stand.gcN).before a0 Z = true) (w7 : (Jvm.Cond.unhidden C xi.name xi.desc).before a0 Z = true) (w8 : (Jvm.Cond.castable C xi.cls).before a0 Z = true) (w9 : (Jvm.Cond.native Jvm.Stand.gcN).before a0 Z = true) (hx1 : xi.cls ≠ "java/lang/invoke/MethodHandle" ∧ xi.cls ≠ "java/lang/invoke/VarHandle") (hx2 : xi.cls ≠ "java/lang/Object") (hx3 : xi.name = "getClass") (hx4 : xi.desc = "()Ljava/lang/Class;") (E : Exa Z h a C) (M : Mir Z C mr) (hls : ls.size = maxL) (hf : 1 ≤ R.frames) (hl : (st.map fun v => v.category).sum + (nativeFrameWords "java/lang/Object" "getClass" 1 + 11) ≤ R.locals) (hr : Run Z K ph h n1 n2 pc' ls (.ref mr :: st)) : Run Z K ph h n1 n2 pc ls (.ref a :: st) := by
  subst hp
  refine rT ok hr fun p e s m args below meth c T locs X hx hby hml hZ ho eT => ?_
  obtain ⟨cB, kB, i1, i2, i3⟩ := isOf hZ eT E
  obtain ⟨cc, kc, m1, m2, m3, -⟩ := M
  obtain ⟨k', q, ek⟩ := hZ.alike.2.2 _ _ m2
  have i1' := i1
  rw [hZ.alike.findClass] at i1'
  cases i1'.symm.trans m1
  obtain ⟨vm', X', st'⟩ := X.getClassOfI hx ho (mvT hZ w1) (mvT hZ w2) (Jvm.Free.ULB.iface_rides hZ.alike w3) (mvT hZ w4) (mvT hZ w5) (mvT hZ w6) (mvT hZ w7) (mvT hZ w8) (mvT hZ w9) hx1 hx2 hx3 hx4 i1 q i3 (mir := mr) (by rw [ek]; exact m3) (g := mkF m pc ls (.ref a :: st)) rfl (by rw [hml]; exact hls) rfl (hb hby hd) hf (by show 2 * 0 + _ + _ ≤ _; omega)
  exact ⟨_, X', eT, st'⟩
theorem r_ldcMir {mr : Addr} {C : String} {idx : Nat} (ok : Ok Z K EL own code maxL ret nm R l w Q) (hp : pc + 2 = pc') (hd : decode code pc = .ok (.ldc idx, 2)) (w1 : (Jvm.Cond.classLink own idx C).before a0 Z = true) (M : Mir Z C mr) (hr : Run Z K ph h n1 n2 pc' ls (.ref mr :: st)) : Run Z K ph h n1 n2 pc ls st := by
  subst hp
  refine rT ok hr fun p e s m args below meth c T locs X hx hby hml hZ ho eT => ?_
  obtain ⟨cc, kc, m1, m2, m3, -⟩ := M
  obtain ⟨k', q, ek⟩ := hZ.alike.2.2 _ _ m2
  have hev : (Term.mirror C).eval args s none [] s = some (.ref mr) := by
    have f1 : s.vm.findClass C = some cc := by rw [hZ.alike.findClass]; exact m1
    have f2 : k'.mirror = some mr := by rw [ek]; exact m3
    simp [Term.eval, f1, q, f2]
  obtain ⟨vm', X', st'⟩ := X.ldcMirror hx ho (mvT hZ w1) hev (g := mkF m pc ls st) rfl (hb hby hd)
  exact ⟨_, X', eT, st'⟩
theorem r_ph {ph' : Ph} (q : ∀ s v, ph s v → ph' s v) (hr : Run Z K ph' h n1 n2 pc ls st) : Run Z K ph h n1 n2 pc ls st := by
  obtain ⟨p, l1, e, R1, s, m, args, below, meth, c, w1', Q1⟩ := K
  intro T X W
  obtain ⟨vm0, k0, locs, S, hS, hk, hZ, hF, eT, hw⟩ := W
  exact hr T X ⟨vm0, k0, locs, S, hS, hk, hZ, hF, eT, q _ _ hw⟩

/-! small numbers as ints -/
theorem ofN_toInt {n : Nat} (h : n < 2 ^ 31) : (Int32.ofNat n).toInt = (n : Int) := Int32.toInt_ofNat_of_lt h
theorem ofN_lt {i n : Nat} (hi : i < 2 ^ 31) (hn : n < 2 ^ 31) : Int32.ofNat i < Int32.ofNat n ↔ i < n := by
  rw [Int32.lt_iff_toInt_lt, ofN_toInt hi, ofN_toInt hn]; omega
theorem ofN_nn {n : Nat} (h : n < 2 ^ 31) : ¬ Int32.ofNat n < 0 := by
  rw [Int32.lt_iff_toInt_lt, ofN_toInt h]; show ¬ (n : Int) < 0; omega
theorem ofN_inj {i n : Nat} (hi : i < 2 ^ 31) (hn : n < 2 ^ 31) (e : Int32.ofNat i = Int32.ofNat n) : i = n := by
  have := congrArg Int32.toInt e
  rw [ofN_toInt hi, ofN_toInt hn] at this; omega
theorem ofN_nat {n : Nat} (h : n < 2 ^ 31) : (Int32.ofNat n).toNatClampNeg = n := by
  show (Int32.ofNat n).toInt.toNat = n
  rw [ofN_toInt h]; rfl
theorem ofN_eq {x : Int32} {n : Nat} (hn : n < 2 ^ 31) (e : x.toInt = (n : Int)) : x = Int32.ofNat n := by
  apply Int32.toInt_inj.mp; rw [e, ofN_toInt hn]
theorem ofN_add {i n : Nat} (h : i + n < 2 ^ 31) : Int32.ofNat i + Int32.ofNat n = Int32.ofNat (i + n) := by
  apply ofN_eq h
  have := c_iadd (Int32.ofNat i) (Int32.ofNat n)
  have r := rng32 (Int32.ofNat i + Int32.ofNat n)
  rw [ofN_toInt (by omega), ofN_toInt (by omega)] at this
  omega

end Walk
theorem own_ne {a b : Addr} {n : Nat} (h : a < n) (e : b = n) : a ≠ b := fun q => Nat.lt_irrefl n (by rw [q, e] at h; exact h)
theorem own_ne' {a b : Addr} {n : Nat} (h : a < n) (e : n ≤ b) : a ≠ b := fun q => Nat.lt_irrefl n (Nat.lt_of_le_of_lt e (by rw [q] at h; exact h))

/-! new String(char[]) as a payer -/
theorem own_c255 (x : Int32) : ¬ nar .char ((x &&& (255 : Int32)).toUInt32.toUInt16.toUInt32.toInt32) < 0 ∧ ¬ (255 : Int32) < nar .char ((x &&& (255 : Int32)).toUInt32.toUInt16.toUInt32.toInt32) := by
  have a := c_mask x 255 8 (by decide) (by decide)
  have b := c_i2c (x &&& (255 : Int32))
  have c := c_i2c ((x &&& (255 : Int32)).toUInt32.toUInt16.toUInt32.toInt32)
  have e0 : (0 : Int32).toInt = 0 := rfl
  have e255 : (255 : Int32).toInt = 255 := rfl
  rw [Int32.lt_iff_toInt_lt, Int32.lt_iff_toInt_lt, e0, e255]
  show ¬ (((x &&& (255 : Int32)).toUInt32.toUInt16.toUInt32.toInt32).toUInt32.toUInt16.toUInt32.toInt32).toInt < 0 ∧ ¬ (255 : Int) < (((x &&& (255 : Int32)).toUInt32.toUInt16.toUInt32.toInt32).toUInt32.toUInt16.toUInt32.toInt32).toInt
  omega
abbrev strN : MethodName := ⟨"java/lang/String", "<init>", "([C)V"⟩
theorem payStr (l : Launch) (Z : State) (a0 : Array Value) (hw : ∀ d ∈ tables_1, d.before a0 Z = true) (R : Room) {W : Nat} (cap : Nat) {h : Heap} {x b : Addr} {kC : ClassId} {cs : List Int32} {d v0 c0 : Value} {z N : Int32} (hws : ∀ d ∈ StrChars.Road.words, d ∈ tables_1) {kI : Nat} (wi : (Jvm.Cond.instantiable "java/lang/String" kI).before a0 Z = true) (hx0 : Z.heap.size ≤ x) (E : Exa Z h x "java/lang/String") (V : Fld Z h x "java/lang/String" "value" "[B" v0) (C : Fld Z h x "java/lang/String" "coder" "B" c0) (K : Arv Z h b kC .char N (cs.map Value.int) d)
    (S : Sta Z Z.heap "java/lang/String" "COMPACT_STRINGS" "Z" (.int z)) (hz : ¬ z = 0) (hN : N = Int32.ofNat cs.length) (l0 : 0 < cs.length) (hcap : cs.length ≤ cap) (l2 : cap ≤ 4000) (hp : ∀ c ∈ cs, ¬ c < 0 ∧ ¬ (255 : Int32) < c) (hfr : 4 ≤ R.frames) (hlo : W + 65 ≤ R.locals) :
    Pay Z [] false l R strN 3 W #[.ref x, .ref b] h 1 cap (rU fun h' => Keep h h' [x] ∧ Exa Z h' x "java/lang/String" ∧ Fld Z h' x "java/lang/String" "coder" "B" (.int 0) ∧ ∃ (t : Addr) (kb : ClassId), Z.heap.size ≤ t ∧ h.size ≤ t ∧ ¬ t = x ∧ Fld Z h' x "java/lang/String" "value" "[B" (.ref t) ∧ Arv Z h' t kb .byte N ((cs.map fun c => c.toInt8.toInt32).map Value.int) (.int 0)) := by
  refine Pay.more (n := cs.length) (k := 1) ?_ (Nat.le_refl _) hcap
  intro p e below s args hZ _ X
  refine Back.mono (StrChars.Road.backV (n0 := Z.heap.size) hZ (fun d hd => hw d (hws d hd)) wi hx0 X.1 E V C K (S.ext X) hz rfl hN l0 (Nat.le_trans hcap l2) hp rfl hfr hlo) (fun A a q => q) (fun A a v B hp' hq => ?_)
  obtain ⟨L, ⟨q1, q2, q3, q4, q5, t, kb, q6, q7, q8, q9, q10⟩, r⟩ := hq
  exact ⟨L, ⟨⟨q1, q3, q4, q5, t, kb, q6, q7, q8, q9, q10⟩, q2, ext_keep X q3 (fun y hy => by cases List.mem_singleton.mp hy; exact hx0), q3.1⟩, r⟩

theorem pn_0 : plainName "com/example/vigilant_scheduler/vigilantscheduler/job/JobIdPatternIsPlainIdPinLaw" = true := by first | (simp [plainName, overriddenIn]; done) | decide +kernel
theorem pn_1 : plainName "java/lang/String" = true := by first | (simp [plainName, overriddenIn]; done) | decide +kernel
theorem pn_2 : plainName "com/example/vigilant_scheduler/vigilantscheduler/job/JobIdPattern" = true := by first | (simp [plainName, overriddenIn]; done) | decide +kernel
theorem pn_3 : plainName "java/lang/StringLatin1" = true := by first | (simp [plainName, overriddenIn]; done) | decide +kernel
theorem pn_4 : plainName "java/lang/StringUTF16" = true := by first | (simp [plainName, overriddenIn]; done) | decide +kernel
theorem pn_5 : plainName "jdk/internal/util/Preconditions" = true := by first | (simp [plainName, overriddenIn]; done) | decide +kernel
theorem pd_0 : parseMethodDescriptor "(I)C" = some ⟨[.int], some .char⟩ := by decide +kernel
theorem pd_1 : parseMethodDescriptor "([C)V" = some ⟨[(.array .char)], none⟩ := by decide +kernel
theorem pd_2 : parseMethodDescriptor "([CIILjava/lang/Void;)V" = some ⟨[(.array .char), .int, .int, (.object "java/lang/Void")], none⟩ := by decide +kernel
theorem pd_3 : parseMethodDescriptor "()V" = some ⟨[], none⟩ := by decide +kernel
theorem pd_4 : parseMethodDescriptor "(Ljava/lang/String;)Z" = some ⟨[(.object "java/lang/String")], some .boolean⟩ := by decide +kernel
theorem pd_5 : parseMethodDescriptor "(I)I" = some ⟨[.int], some .int⟩ := by decide +kernel
theorem pd_6 : parseMethodDescriptor "(II)I" = some ⟨[.int, .int], some .int⟩ := by decide +kernel
theorem pd_7 : parseMethodDescriptor "()Z" = some ⟨[], some .boolean⟩ := by decide +kernel
theorem pd_8 : parseMethodDescriptor "()I" = some ⟨[], some .int⟩ := by decide +kernel
theorem pd_9 : parseMethodDescriptor "()B" = some ⟨[], some .byte⟩ := by decide +kernel
theorem pd_10 : parseMethodDescriptor "([BIII)I" = some ⟨[(.array .byte), .int, .int, .int], some .int⟩ := by decide +kernel
theorem pd_11 : parseMethodDescriptor "(I)Z" = some ⟨[.int], some .boolean⟩ := by decide +kernel
theorem pd_12 : parseMethodDescriptor "([CII)[B" = some ⟨[(.array .char), .int, .int], some (.array .byte)⟩ := by decide +kernel
theorem pd_13 : parseMethodDescriptor "([CI[BII)I" = some ⟨[(.array .char), .int, (.array .byte), .int, .int], some .int⟩ := by decide +kernel
theorem pd_14 : parseMethodDescriptor "([BI)B" = some ⟨[(.array .byte), .int], some .byte⟩ := by decide +kernel
theorem pd_15 : parseMethodDescriptor "(C)Z" = some ⟨[.char], some .boolean⟩ := by decide +kernel
theorem pd_16 : parseMethodDescriptor "(I)[B" = some ⟨[.int], some (.array .byte)⟩ := by decide +kernel
theorem pd_17 : parseMethodDescriptor "([BII)V" = some ⟨[(.array .byte), .int, .int], none⟩ := by decide +kernel
theorem pd_18 : parseMethodDescriptor "([BI)C" = some ⟨[(.array .byte), .int], some .char⟩ := by decide +kernel
theorem pd_19 : parseMethodDescriptor "(II[B)V" = some ⟨[.int, .int, (.array .byte)], none⟩ := by decide +kernel
theorem pd_20 : parseMethodDescriptor "([B)I" = some ⟨[(.array .byte)], some .int⟩ := by decide +kernel
theorem pd_21 : parseMethodDescriptor "(III)V" = some ⟨[.int, .int, .int], none⟩ := by decide +kernel
theorem pd_22 : parseMethodDescriptor "(IIILjava/util/function/BiFunction;)I" = some ⟨[.int, .int, .int, (.object "java/util/function/BiFunction")], some .int⟩ := by decide +kernel
theorem pd_23 : parseMethodDescriptor "(IIII)Z" = some ⟨[.int, .int, .int, .int], some .boolean⟩ := by decide +kernel
abbrev ST : String := "java/lang/String"
abbrev SU : String := "java/lang/StringUTF16"
abbrev EL1 : Els := [("java/lang/String", 7)]
abbrev RZ : Room := { frames := 0, cells := 0, slots := 0, locals := 0 }
abbrev R1 : Room := { frames := 1, cells := 0, slots := 0, locals := 12 }
section Claim
theorem hEW (Z : State) (a0 : Array Value) (hw : ∀ d ∈ tables_1, d.before a0 Z = true) : EW Z a0 EL1 := EW.cons (hw _ (List.mem_of_getElem? (i := 19) rfl)) (by decide) EW.nil
theorem hatoms (Z : State) (a0 : Array Value) (hw : ∀ d ∈ tables_1, d.before a0 Z = true) : ∀ a ∈ Bundle.stringAtoms, a.before a0 Z = true := fun d hd => hw d ((by decide +kernel : ∀ d ∈ Bundle.stringAtoms, d ∈ tables_1) d hd)
theorem d2_0 : decode jdk_42_method_149_code 0 = .ok (.aload_n 0, 1) := by decide +kernel
theorem d2_1 : decode jdk_42_method_149_code 1 = .ok (.invokespecial 1, 3) := by decide +kernel
theorem d2_4 : decode jdk_42_method_149_code 4 = .ok (.iload_n 3, 1) := by decide +kernel
theorem d2_5 : decode jdk_42_method_149_code 5 = .ok (.ifCond .ne 22, 3) := by decide +kernel
theorem d2_8 : decode jdk_42_method_149_code 8 = .ok (.aload_n 0, 1) := by decide +kernel
theorem d2_9 : decode jdk_42_method_149_code 9 = .ok (.ldc 7, 2) := by decide +kernel
theorem d2_11 : decode jdk_42_method_149_code 11 = .ok (.getfield 9, 3) := by decide +kernel
theorem d2_14 : decode jdk_42_method_149_code 14 = .ok (.putfield 9, 3) := by decide +kernel
theorem d2_17 : decode jdk_42_method_149_code 17 = .ok (.aload_n 0, 1) := by decide +kernel
theorem d2_18 : decode jdk_42_method_149_code 18 = .ok (.ldc 7, 2) := by decide +kernel
theorem d2_20 : decode jdk_42_method_149_code 20 = .ok (.getfield 15, 3) := by decide +kernel
theorem d2_23 : decode jdk_42_method_149_code 23 = .ok (.putfield 15, 3) := by decide +kernel
theorem d2_26 : decode jdk_42_method_149_code 26 = .ok (.return_, 1) := by decide +kernel
theorem d2_27 : decode jdk_42_method_149_code 27 = .ok (.getstatic 38, 3) := by decide +kernel
theorem d2_30 : decode jdk_42_method_149_code 30 = .ok (.ifCond .eq 28, 3) := by decide +kernel
theorem d2_33 : decode jdk_42_method_149_code 33 = .ok (.aload_n 1, 1) := by decide +kernel
theorem d2_34 : decode jdk_42_method_149_code 34 = .ok (.iload_n 2, 1) := by decide +kernel
theorem d2_35 : decode jdk_42_method_149_code 35 = .ok (.iload_n 3, 1) := by decide +kernel
theorem d2_36 : decode jdk_42_method_149_code 36 = .ok (.invokestatic 177, 3) := by decide +kernel
theorem d2_39 : decode jdk_42_method_149_code 39 = .ok (.astore 5, 2) := by decide +kernel
theorem d2_41 : decode jdk_42_method_149_code 41 = .ok (.aload_n 0, 1) := by decide +kernel
theorem d2_42 : decode jdk_42_method_149_code 42 = .ok (.aload 5, 2) := by decide +kernel
theorem d2_44 : decode jdk_42_method_149_code 44 = .ok (.iload_n 3, 1) := by decide +kernel
theorem d2_45 : decode jdk_42_method_149_code 45 = .ok (.invokestatic 47, 3) := by decide +kernel
theorem d2_48 : decode jdk_42_method_149_code 48 = .ok (.putfield 15, 3) := by decide +kernel
theorem d2_51 : decode jdk_42_method_149_code 51 = .ok (.aload_n 0, 1) := by decide +kernel
theorem d2_52 : decode jdk_42_method_149_code 52 = .ok (.aload 5, 2) := by decide +kernel
theorem d2_54 : decode jdk_42_method_149_code 54 = .ok (.putfield 9, 3) := by decide +kernel
theorem d2_57 : decode jdk_42_method_149_code 57 = .ok (.return_, 1) := by decide +kernel
theorem d2_58 : decode jdk_42_method_149_code 58 = .ok (.aload_n 0, 1) := by decide +kernel
theorem d2_59 : decode jdk_42_method_149_code 59 = .ok (.iconst 1, 1) := by decide +kernel
theorem d2_60 : decode jdk_42_method_149_code 60 = .ok (.putfield 15, 3) := by decide +kernel
theorem d2_63 : decode jdk_42_method_149_code 63 = .ok (.aload_n 0, 1) := by decide +kernel
theorem d2_64 : decode jdk_42_method_149_code 64 = .ok (.aload_n 1, 1) := by decide +kernel
theorem d2_65 : decode jdk_42_method_149_code 65 = .ok (.iload_n 2, 1) := by decide +kernel
theorem d2_66 : decode jdk_42_method_149_code 66 = .ok (.iload_n 3, 1) := by decide +kernel
theorem d2_67 : decode jdk_42_method_149_code 67 = .ok (.invokestatic 180, 3) := by decide +kernel
theorem d2_70 : decode jdk_42_method_149_code 70 = .ok (.putfield 9, 3) := by decide +kernel
theorem d2_73 : decode jdk_42_method_149_code 73 = .ok (.return_, 1) := by decide +kernel
abbrev R2 : Room := { frames := 1, cells := 2, slots := 4, locals := 12 }
set_option maxRecDepth 65536 in
theorem rmS2 (l : Launch) (Z : State) (a0 : Array Value) (hw : ∀ d ∈ tables_1, d.before a0 Z = true) (a1 a2 : Addr) (p3 : Int32) (u1 u2 : Value) (h0 : Heap) (E : Exa Z h0 a1 ST) (Fv : Fld Z h0 a1 ST "value" "[B" u1) (Fc : Fld Z h0 a1 ST "coder" "B" u2) (g : Z.heap.size ≤ a1) :
    Con l Z EL1 [] true (⟨"java/lang/String", "<init>", "([CIILjava/lang/Void;)V"⟩ : MethodName) jdk_42_method_149_code 6 none R2 #[.ref a1, .ref a2, .int p3, .int 0, .null] h0 (rU fun h => Keep h0 h [a1] ∧ Exa Z h a1 ST ∧ Fld Z h a1 ST "coder" "B" (.int 0) ∧ ∃ t kb, Fld Z h a1 ST "value" "[B" (.ref t) ∧ Arv Z h t kb .byte 0 [] (.int 0)) := by
  refine body (ls := #[.val (.ref a1), .val (.ref a2), .val (.int p3), .val (.int 0), .val .null, .unset]) (plainFor_of_name pn_1) (fun m => by first | (simp [entryFrame, mkF, argsToLocals, Value.category]; done) | rfl) fun K ok => ?_
  refine r_aloadN (pc' := 1) ok rfl d2_0 rfl rfl ?_
  refine r_init (pc' := 4) ok rfl d2_1 (hw _ (List.mem_of_getElem? (i := 16) rfl)) (hw _ (List.mem_of_getElem? (i := 17) rfl)) (hw _ (List.mem_of_getElem? (i := 18) rfl)) rfl (by decide) (Nat.le_of_ble_eq_true rfl) ?_
  refine r_iloadN (pc' := 5) ok rfl d2_4 rfl ?_
  refine r_if_ne (pc' := 8) (pcY := 27) ok rfl d2_5 (by decide) (by decide) ?_ ?_
  · intro hc
    exact absurd rfl hc
  intro _
  refine r_aloadN (pc' := 9) ok rfl d2_8 rfl rfl ?_
  refine r_ldcL (pc' := 11) ok rfl 0 d2_9 (hw _ (List.mem_of_getElem? (i := 19) rfl)) (hatoms Z a0 hw) (hEW Z a0 hw) (List.mem_singleton.mpr rfl) (fun _ _ q => q) (vs := []) (z := 0) ⟨by decide, rfl⟩ (by decide) rfl (by decide) (by decide) (by decide) (by decide) ?_
  intro h1 b1 t1 k1 X1 L1 Lc Lv La
  refine r_getfield (pc' := 14) (host := "") ok rfl d2_11 (Or.inl (hw _ (List.mem_of_getElem? (i := 25) rfl))) Via.refl Lv ?_
  replace E := E.ext X1
  replace Fv := Fv.ext X1
  replace Fc := Fc.ext X1
  have ne := Exa.neArv E La (hw _ (List.mem_of_getElem? (i := 7) rfl))
  refine r_putfield (pc' := 17) (host := "") ok rfl d2_14 (Or.inl (hw _ (List.mem_of_getElem? (i := 25) rfl))) Via.refl (Or.inr ⟨(hw _ (List.mem_of_getElem? (i := 21) rfl)), rfl, rfl⟩) (hw _ (List.mem_of_getElem? (i := 7) rfl)) Fv E g (ty := (.array .byte)) (by decide) rfl rfl ?_
  intro h3 W3 F3 E3
  replace Fc := Fc.other W3 (Or.inr (slot_ne (Or.inr (hw _ (List.mem_of_getElem? (i := 22) rfl))) (Or.inr (hw _ (List.mem_of_getElem? (i := 21) rfl))) (by decide) (t := .byte) (t' := (.array .byte)) (by decide) (by decide)))
  replace Lc := Lc.other W3 (Or.inr (slot_ne (Or.inr (hw _ (List.mem_of_getElem? (i := 22) rfl))) (Or.inr (hw _ (List.mem_of_getElem? (i := 21) rfl))) (by decide) (t := .byte) (t' := (.array .byte)) (by decide) (by decide)))
  replace La := La.other W3 ne.symm
  refine r_aloadN (pc' := 18) ok rfl d2_17 rfl rfl ?_
  refine r_ldcAgain (pc' := 20) (a := b1) ok rfl d2_18 (hw _ (List.mem_of_getElem? (i := 19) rfl)) (fun _ _ q => q) ?_
  refine r_getfield (pc' := 23) (host := "") ok rfl d2_20 (Or.inl (hw _ (List.mem_of_getElem? (i := 26) rfl))) Via.refl Lc ?_
  refine r_putfieldN (pc' := 26) ok rfl d2_23 (hw _ (List.mem_of_getElem? (i := 26) rfl)) Via.refl (Or.inr ⟨(hw _ (List.mem_of_getElem? (i := 22) rfl)), rfl, rfl⟩) (hw _ (List.mem_of_getElem? (i := 7) rfl)) Fc E3 g (ty := .byte) (by decide) rfl (by decide) ?_
  intro h4 W4 F4 E4
  replace F3 := F3.other W4 (Or.inr (slot_ne (Or.inr (hw _ (List.mem_of_getElem? (i := 21) rfl))) (Or.inr (hw _ (List.mem_of_getElem? (i := 22) rfl))) (by decide) (t := (.array .byte)) (t' := .byte) (by decide) (by decide)))
  replace La := La.other W4 ne.symm
  refine r_return ok d2_26 ?_ (by decide) (by decide)
  exact ⟨(((Keep.refl h0 [a1]).ext X1).wr W3 (Or.inl (List.mem_singleton.mpr rfl))).wr W4 (Or.inl (List.mem_singleton.mpr rfl)), E4, F4, t1, k1, F3, La⟩
theorem d3_0 : decode jdk_42_method_3_code 0 = .ok (.aload_n 0, 1) := by decide +kernel
theorem d3_1 : decode jdk_42_method_3_code 1 = .ok (.aload_n 1, 1) := by decide +kernel
theorem d3_2 : decode jdk_42_method_3_code 2 = .ok (.iconst 0, 1) := by decide +kernel
theorem d3_3 : decode jdk_42_method_3_code 3 = .ok (.aload_n 1, 1) := by decide +kernel
theorem d3_4 : decode jdk_42_method_3_code 4 = .ok (.arraylength, 1) := by decide +kernel
theorem d3_5 : decode jdk_42_method_3_code 5 = .ok (.aconst_null, 1) := by decide +kernel
theorem d3_6 : decode jdk_42_method_3_code 6 = .ok (.invokespecial 27, 3) := by decide +kernel
theorem d3_9 : decode jdk_42_method_3_code 9 = .ok (.return_, 1) := by decide +kernel
abbrev R3 : Room := { frames := 2, cells := 2, slots := 4, locals := 30 }
set_option maxRecDepth 65536 in
theorem rmS1 (l : Launch) (Z : State) (a0 : Array Value) (hw : ∀ d ∈ tables_1, d.before a0 Z = true) (a1 a2 : Addr) (kc : ClassId) (u1 u2 : Value) (h0 : Heap) (E : Exa Z h0 a1 ST) (Fv : Fld Z h0 a1 ST "value" "[B" u1) (Fc : Fld Z h0 a1 ST "coder" "B" u2) (g : Z.heap.size ≤ a1) (V : Arv Z h0 a2 kc .char 0 [] (.int 0)) :
    Con l Z EL1 [] true (⟨"java/lang/String", "<init>", "([C)V"⟩ : MethodName) jdk_42_method_3_code 2 none R3 #[.ref a1, .ref a2] h0 (rU fun h => Keep h0 h [a1] ∧ Exa Z h a1 ST ∧ Fld Z h a1 ST "coder" "B" (.int 0) ∧ ∃ t kb, Fld Z h a1 ST "value" "[B" (.ref t) ∧ Arv Z h t kb .byte 0 [] (.int 0)) := by
  refine body (ls := #[.val (.ref a1), .val (.ref a2)]) (plainFor_of_name pn_1) (fun m => by first | (simp [entryFrame, mkF, argsToLocals, Value.category]; done) | rfl) fun K ok => ?_
  refine r_aloadN (pc' := 1) ok rfl d3_0 rfl rfl ?_
  refine r_aloadN (pc' := 2) ok rfl d3_1 rfl rfl ?_
  refine r_iconstV (pc' := 3) ok rfl (0 : Int32) d3_2 rfl ?_
  refine r_aloadN (pc' := 4) ok rfl d3_3 rfl rfl ?_
  refine r_arraylength (pc' := 5) ok rfl d3_4 V ?_
  refine r_aconst_null (pc' := 6) ok rfl d3_5 ?_
  refine r_special (pc' := 9) ok rfl d3_6 rfl (hw _ (List.mem_of_getElem? (i := 12) rfl)) (hw _ (List.mem_of_getElem? (i := 13) rfl)) (hw _ (List.mem_of_getElem? (i := 15) rfl)) (by decide) pd_2 (Con.pay (W := 0) (rmS2 l Z a0 hw a1 a2 0 u1 u2 h0 E Fv Fc g) (hEW Z a0 hw) (hw _ (List.mem_of_getElem? (i := 15) rfl)) (hw _ (List.mem_of_getElem? (i := 8) rfl)) (by decide) (by decide)) (fun _ => rfl) (Or.inr ⟨rfl, fun _ _ q => q⟩) rfl (argsL := [(.ref a2), .int _, .int _, .null]) (rest := []) rfl rfl rfl (Nat.le_of_ble_eq_true rfl) (by decide) (by decide) (cU fun h1 q1 le1 => ?_)
  refine r_return ok d3_9 ?_ (by decide) (by decide)
  exact q1
theorem own_inc {i : Nat} (h : i + 1 < 2 ^ 31) : Int32.ofNat i + Int32.ofInt 1 = Int32.ofNat (i + 1) := ofN_add (n := 1) h
theorem own_getD {cs : List Int32} {d : Value} {i : Nat} (h : i < cs.length) : (cs.map Value.int).getD i d = .int (cs.getD i 0) := by simp [List.getD_eq_getElem?_getD, h]
/-! compress, where a char above 255 stands at i0 and none ahead of it -/
theorem d5_0 : decode jdk_52_method_21_code 0 = .ok (.iconst 0, 1) := by decide +kernel
theorem d5_1 : decode jdk_52_method_21_code 1 = .ok (.istore 5, 2) := by decide +kernel
theorem d5_3 : decode jdk_52_method_21_code 3 = .ok (.iload 5, 2) := by decide +kernel
theorem d5_5 : decode jdk_52_method_21_code 5 = .ok (.iload 4, 2) := by decide +kernel
theorem d5_7 : decode jdk_52_method_21_code 7 = .ok (.if_icmp .ge 37, 3) := by decide +kernel
theorem d5_10 : decode jdk_52_method_21_code 10 = .ok (.aload_n 0, 1) := by decide +kernel
theorem d5_11 : decode jdk_52_method_21_code 11 = .ok (.iload_n 1, 1) := by decide +kernel
theorem d5_12 : decode jdk_52_method_21_code 12 = .ok (.caload, 1) := by decide +kernel
theorem d5_13 : decode jdk_52_method_21_code 13 = .ok (.istore 6, 2) := by decide +kernel
theorem d5_15 : decode jdk_52_method_21_code 15 = .ok (.iload 6, 2) := by decide +kernel
theorem d5_17 : decode jdk_52_method_21_code 17 = .ok (.sipush 255, 3) := by decide +kernel
theorem d5_20 : decode jdk_52_method_21_code 20 = .ok (.if_icmp .le 6, 3) := by decide +kernel
theorem d5_23 : decode jdk_52_method_21_code 23 = .ok (.iload 5, 2) := by decide +kernel
theorem d5_25 : decode jdk_52_method_21_code 25 = .ok (.ireturn, 1) := by decide +kernel
theorem d5_26 : decode jdk_52_method_21_code 26 = .ok (.aload_n 2, 1) := by decide +kernel
theorem d5_27 : decode jdk_52_method_21_code 27 = .ok (.iload_n 3, 1) := by decide +kernel
theorem d5_28 : decode jdk_52_method_21_code 28 = .ok (.iload 6, 2) := by decide +kernel
theorem d5_30 : decode jdk_52_method_21_code 30 = .ok (.i2b, 1) := by decide +kernel
theorem d5_31 : decode jdk_52_method_21_code 31 = .ok (.bastore, 1) := by decide +kernel
theorem d5_32 : decode jdk_52_method_21_code 32 = .ok (.iinc 1 1, 3) := by decide +kernel
theorem d5_35 : decode jdk_52_method_21_code 35 = .ok (.iinc 3 1, 3) := by decide +kernel
theorem d5_38 : decode jdk_52_method_21_code 38 = .ok (.iinc 5 1, 3) := by decide +kernel
theorem d5_41 : decode jdk_52_method_21_code 41 = .ok (.goto (-38), 3) := by decide +kernel
theorem d5_44 : decode jdk_52_method_21_code 44 = .ok (.iload 4, 2) := by decide +kernel
theorem d5_46 : decode jdk_52_method_21_code 46 = .ok (.ireturn, 1) := by decide +kernel
set_option maxRecDepth 65536 in
theorem rmC5 (l : Launch) (Z : State) (a0 : Array Value) (hw : ∀ d ∈ tables_1, d.before a0 Z = true) (a d : Addr) (kc kd : ClassId) (N : Int32) (cs : List Int32) (dv : Value) (bs0 : List Value) (i0 : Nat) (h0 : Heap) (hN : N = Int32.ofNat cs.length) (hlen : cs.length ≤ 4000) (hi0 : i0 < cs.length) (hlo : ∀ j, j < i0 → ¬ (255 : Int32) < cs.getD j 0) (hhi : (255 : Int32) < cs.getD i0 0)
    (V : Arv Z h0 a kc .char N (cs.map Value.int) dv) (B : Arv Z h0 d kd .byte N bs0 (.int 0)) (hbs : bs0.length = cs.length) (g : Z.heap.size ≤ d) (hne : a ≠ d) :
    Con l Z [] [] false (⟨"java/lang/StringUTF16", "compress", "([CI[BII)I"⟩ : MethodName) jdk_52_method_21_code 7 (some .int) RZ #[.ref a, .int 0, .ref d, .int 0, .int N] h0 (rV fun x h => x = .int (Int32.ofNat i0) ∧ Keep h0 h [d]) := by
  refine body (ls := #[.val (.ref a), .val (.int 0), .val (.ref d), .val (.int 0), .val (.int N), .unset, .unset]) (plainFor_of_name pn_4) (fun m => by first | (simp [entryFrame, mkF, argsToLocals, Value.category]; done) | rfl) fun K ok => ?_
  refine r_iconstV (pc' := 1) ok rfl (0 : Int32) d5_0 rfl ?_
  refine r_istore (pc' := 3) (ls' := fun z => #[.val (.ref a), .val (.int 0), .val (.ref d), .val (.int 0), .val (.int N), .val (.int z), .unset]) ok rfl d5_1 (fun _ => rfl) ?_
  intro v1 ev1
  rw [show (v1 : Int32) = Int32.ofNat 0 from ev1]
  have loop : ∀ (k i : Nat) (s6 : Slot) (h : Heap) (bs : List Value), i + k = i0 → One s6 → Keep h0 h [d] → Arv Z h d kd .byte N bs (.int 0) → bs.length = cs.length → Run Z K Cln h 0 0 3 #[.val (.ref a), .val (.int (Int32.ofNat i)), .val (.ref d), .val (.int (Int32.ofNat i)), .val (.int N), .val (.int (Int32.ofNat i)), s6] [] := by
    intro k
    induction k with
    | zero =>
      intro i s6 h bs hik o_s6 Kp B hbs
      obtain rfl : i = i0 := hik
      have V' := V.keep Kp (ninS hne nin0)
      refine r_iload (pc' := 5) ok rfl d5_3 rfl ?_
      refine r_iload (pc' := 7) ok rfl d5_5 rfl ?_
      refine r_icmp_ge (pc' := 10) (pcY := 44) ok rfl d5_7 (by decide) (by decide) ?_ ?_
      · intro hc
        rw [hN] at hc
        exact absurd ((ofN_lt (by omega) (by omega)).mpr hi0) hc
      intro _
      refine r_aloadN (pc' := 11) ok rfl d5_10 rfl rfl ?_
      refine r_iloadN (pc' := 12) ok rfl d5_11 rfl ?_
      refine r_caload (pc' := 13) ok rfl d5_12 V' ⟨ofN_nn (by omega), by rw [hN]; exact (ofN_lt (by omega) (by omega)).mpr hi0⟩ (Eq.trans (by rw [ofN_nat (by omega)]) (own_getD hi0)) ?_
      refine r_istore (pc' := 15) (ls' := fun z => #[.val (.ref a), .val (.int (Int32.ofNat i)), .val (.ref d), .val (.int (Int32.ofNat i)), .val (.int N), .val (.int (Int32.ofNat i)), .val (.int z)]) ok rfl d5_13 (fun _ => st1 o_s6 rfl rfl rfl) ?_
      intro v13 ev13
      refine r_iload (pc' := 17) ok rfl d5_15 rfl ?_
      refine r_sipushV (pc' := 20) ok rfl (255 : Int32) d5_17 rfl ?_
      refine r_icmp_le (pc' := 23) (pcY := 26) ok rfl d5_20 (by decide) (by decide) ?_ ?_
      · intro hc
        rw [ev13] at hc
        exact absurd hhi hc
      intro _
      refine r_iload (pc' := 25) ok rfl d5_23 rfl ?_
      refine r_ireturn ok d5_25 rfl (by simp) (by decide) (by decide) ?_
      exact ⟨rfl, Kp⟩
    | succ k ih =>
      intro i s6 h bs hik o_s6 Kp B hbs
      have V' := V.keep Kp (ninS hne nin0)
      have hi : i < cs.length := by omega
      refine r_iload (pc' := 5) ok rfl d5_3 rfl ?_
      refine r_iload (pc' := 7) ok rfl d5_5 rfl ?_
      refine r_icmp_ge (pc' := 10) (pcY := 44) ok rfl d5_7 (by decide) (by decide) ?_ ?_
      · intro hc
        rw [hN] at hc
        exact absurd ((ofN_lt (by omega) (by omega)).mpr hi) hc
      intro _
      refine r_aloadN (pc' := 11) ok rfl d5_10 rfl rfl ?_
      refine r_iloadN (pc' := 12) ok rfl d5_11 rfl ?_
      refine r_caload (pc' := 13) ok rfl d5_12 V' ⟨ofN_nn (by omega), by rw [hN]; exact (ofN_lt (by omega) (by omega)).mpr hi⟩ (Eq.trans (by rw [ofN_nat (by omega)]) (own_getD hi)) ?_
      refine r_istore (pc' := 15) (ls' := fun z => #[.val (.ref a), .val (.int (Int32.ofNat i)), .val (.ref d), .val (.int (Int32.ofNat i)), .val (.int N), .val (.int (Int32.ofNat i)), .val (.int z)]) ok rfl d5_13 (fun _ => st1 o_s6 rfl rfl rfl) ?_
      intro v13 ev13
      refine r_iload (pc' := 17) ok rfl d5_15 rfl ?_
      refine r_sipushV (pc' := 20) ok rfl (255 : Int32) d5_17 rfl ?_
      refine r_icmp_le (pc' := 23) (pcY := 26) ok rfl d5_20 (by decide) (by decide) ?_ ?_
      rotate_left
      · intro hc
        rw [ev13] at hc
        exact absurd hc (hlo i (by omega))
      intro _
      refine r_aloadN (pc' := 27) ok rfl d5_26 rfl rfl ?_
      refine r_iloadN (pc' := 28) ok rfl d5_27 rfl ?_
      refine r_iload (pc' := 30) ok rfl d5_28 rfl ?_
      refine r_i2b (pc' := 31) ok rfl d5_30 ?_
      refine r_bastore (pc' := 32) ok rfl i d5_31 B g ⟨ofN_nn (by omega), by rw [hN]; exact (ofN_lt (by omega) (by omega)).mpr hi⟩ (ofN_nat (by omega)) (by omega) ?_
      intro h7 W7 V7
      refine r_iinc (pc' := 35) (ls' := fun z => #[.val (.ref a), .val (.int z), .val (.ref d), .val (.int (Int32.ofNat i)), .val (.int N), .val (.int (Int32.ofNat i)), .val (.int v13)]) ok rfl d5_32 rfl (fun _ => rfl) ?_
      intro v32 ev32
      refine r_iinc (pc' := 38) (ls' := fun z => #[.val (.ref a), .val (.int v32), .val (.ref d), .val (.int z), .val (.int N), .val (.int (Int32.ofNat i)), .val (.int v13)]) ok rfl d5_35 rfl (fun _ => rfl) ?_
      intro v35 ev35
      refine r_iinc (pc' := 41) (ls' := fun z => #[.val (.ref a), .val (.int v32), .val (.ref d), .val (.int v35), .val (.int N), .val (.int z), .val (.int v13)]) ok rfl d5_38 rfl (fun _ => rfl) ?_
      intro v38 ev38
      refine r_goto (pc' := 3) ok d5_41 (by decide) (by decide) ?_
      rw [show v32 = Int32.ofNat (i + 1) by rw [ev32]; exact own_inc (by omega), show v35 = Int32.ofNat (i + 1) by rw [ev35]; exact own_inc (by omega), show v38 = Int32.ofNat (i + 1) by rw [ev38]; exact own_inc (by omega)]
      exact ih (i + 1) _ h7 _ (by omega) (One.val rfl) (Kp.wr W7 (Or.inl (List.mem_singleton.mpr rfl))) V7 (by rw [List.length_set]; exact hbs)
  exact loop i0 0 _ h0 bs0 (by omega) One.u (Keep.refl _ _) B hbs
/-! the UTF16 road's small ones -/
theorem d6_0 : decode jdk_52_method_3_code 0 = .ok (.iload_n 0, 1) := by decide +kernel
theorem d6_1 : decode jdk_52_method_3_code 1 = .ok (.ifCond .ge 11, 3) := by decide +kernel
theorem d6_4 : decode jdk_52_method_3_code 4 = .ok (.new 17, 3) := by decide +kernel
theorem d6_7 : decode jdk_52_method_3_code 7 = .ok (.dup, 1) := by decide +kernel
theorem d6_8 : decode jdk_52_method_3_code 8 = .ok (.invokespecial 19, 3) := by decide +kernel
theorem d6_11 : decode jdk_52_method_3_code 11 = .ok (.athrow, 1) := by decide +kernel
theorem d6_12 : decode jdk_52_method_3_code 12 = .ok (.iload_n 0, 1) := by decide +kernel
theorem d6_13 : decode jdk_52_method_3_code 13 = .ok (.ldc 20, 2) := by decide +kernel
theorem d6_15 : decode jdk_52_method_3_code 15 = .ok (.if_icmp .lt 40, 3) := by decide +kernel
theorem d6_18 : decode jdk_52_method_3_code 18 = .ok (.new 21, 3) := by decide +kernel
theorem d6_21 : decode jdk_52_method_3_code 21 = .ok (.dup, 1) := by decide +kernel
theorem d6_22 : decode jdk_52_method_3_code 22 = .ok (.new 23, 3) := by decide +kernel
theorem d6_25 : decode jdk_52_method_3_code 25 = .ok (.dup, 1) := by decide +kernel
theorem d6_26 : decode jdk_52_method_3_code 26 = .ok (.invokespecial 25, 3) := by decide +kernel
theorem d6_29 : decode jdk_52_method_3_code 29 = .ok (.ldc 26, 2) := by decide +kernel
theorem d6_31 : decode jdk_52_method_3_code 31 = .ok (.invokevirtual 28, 3) := by decide +kernel
theorem d6_34 : decode jdk_52_method_3_code 34 = .ok (.iload_n 0, 1) := by decide +kernel
theorem d6_35 : decode jdk_52_method_3_code 35 = .ok (.invokevirtual 32, 3) := by decide +kernel
theorem d6_38 : decode jdk_52_method_3_code 38 = .ok (.ldc 35, 2) := by decide +kernel
theorem d6_40 : decode jdk_52_method_3_code 40 = .ok (.invokevirtual 28, 3) := by decide +kernel
theorem d6_43 : decode jdk_52_method_3_code 43 = .ok (.ldc 20, 2) := by decide +kernel
theorem d6_45 : decode jdk_52_method_3_code 45 = .ok (.invokevirtual 32, 3) := by decide +kernel
theorem d6_48 : decode jdk_52_method_3_code 48 = .ok (.invokevirtual 37, 3) := by decide +kernel
theorem d6_51 : decode jdk_52_method_3_code 51 = .ok (.invokespecial 41, 3) := by decide +kernel
theorem d6_54 : decode jdk_52_method_3_code 54 = .ok (.athrow, 1) := by decide +kernel
theorem d6_55 : decode jdk_52_method_3_code 55 = .ok (.iload_n 0, 1) := by decide +kernel
theorem d6_56 : decode jdk_52_method_3_code 56 = .ok (.iconst 1, 1) := by decide +kernel
theorem d6_57 : decode jdk_52_method_3_code 57 = .ok (.ishl, 1) := by decide +kernel
theorem d6_58 : decode jdk_52_method_3_code 58 = .ok (.ireturn, 1) := by decide +kernel
set_option maxRecDepth 65536 in
theorem rmNBL (l : Launch) (Z : State) (a0 : Array Value) (hw : ∀ d ∈ tables_1, d.before a0 Z = true) (n : Int32) (h0 : Heap) (hn : ¬ n < 0) (hs : n < 1073741823) : Con l Z [] [] false (⟨"java/lang/StringUTF16", "newBytesLength", "(I)I"⟩ : MethodName) jdk_52_method_3_code 1 (some .int) RZ #[.int n] h0 (rV fun x h => x = .int (n <<< ((1 : Int32) &&& 31)) ∧ h0 = h) := by
  refine body (ls := #[.val (.int n)]) (plainFor_of_name pn_4) (fun m => by first | (simp [entryFrame, mkF, argsToLocals, Value.category]; done) | rfl) fun K ok => ?_
  refine r_iloadN (pc' := 1) ok rfl d6_0 rfl ?_
  refine r_if_ge (pc' := 4) (pcY := 12) ok rfl d6_1 (by decide) (by decide) ?_ ?_
  rotate_left
  · intro hc
    exact absurd hc hn
  intro _
  refine r_iloadN (pc' := 13) ok rfl d6_12 rfl ?_
  refine r_ldcI (pc' := 15) ok rfl d6_13 (hw _ (List.mem_of_getElem? (i := 96) rfl)) ?_
  refine r_icmp_lt (pc' := 18) (pcY := 55) ok rfl d6_15 (by decide) (by decide) ?_ ?_
  rotate_left
  · intro hc
    exact absurd hs hc
  intro _
  refine r_iloadN (pc' := 56) ok rfl d6_55 rfl ?_
  refine r_iconstV (pc' := 57) ok rfl (1 : Int32) d6_56 rfl ?_
  refine r_ishl (pc' := 58) ok rfl d6_57 ?_
  refine r_ireturn ok d6_58 rfl (by simp) (by decide) (by decide) ?_
  exact ⟨rfl, rfl⟩
theorem d7_0 : decode jdk_52_method_2_code 0 = .ok (.iload_n 0, 1) := by decide +kernel
theorem d7_1 : decode jdk_52_method_2_code 1 = .ok (.invokestatic 11, 3) := by decide +kernel
theorem d7_4 : decode jdk_52_method_2_code 4 = .ok (.newarray .byte, 2) := by decide +kernel
theorem d7_6 : decode jdk_52_method_2_code 6 = .ok (.areturn, 1) := by decide +kernel
abbrev R7 : Room := { frames := 1, cells := 1, slots := 6, locals := 12 }
set_option maxRecDepth 65536 in
theorem rmNB (l : Launch) (Z : State) (a0 : Array Value) (hw : ∀ d ∈ tables_1, d.before a0 Z = true) (n : Int32) (m : Nat) (h0 : Heap) (hn : n = Int32.ofNat m) (hm : m ≤ 3) : Con l Z [] [] false (⟨"java/lang/StringUTF16", "newBytesFor", "(I)[B"⟩ : MethodName) jdk_52_method_2_code 1 (some (.array .byte)) R7 #[.int n] h0 (rV fun x h => ∃ b kb, x = .ref b ∧ b = h0.size ∧ Z.heap.size ≤ b ∧ Ext h0 h ∧ Arv Z h b kb .byte (Int32.ofNat (2 * m)) [] (.int 0)) := by
  have hN : n <<< ((1 : Int32) &&& 31) = Int32.ofNat (2 * m) := by
    subst hn
    obtain rfl | rfl | rfl | rfl : m = 0 ∨ m = 1 ∨ m = 2 ∨ m = 3 := by omega
    all_goals decide
  have h1 : ¬ n < 0 := by rw [hn]; exact ofN_nn (by omega)
  have h2 : n < 1073741823 := by rw [hn]; exact (ofN_lt (n := 1073741823) (by omega) (by omega)).mpr (by omega)
  refine body (ls := #[.val (.int n)]) (plainFor_of_name pn_4) (fun m => by first | (simp [entryFrame, mkF, argsToLocals, Value.category]; done) | rfl) fun K ok => ?_
  refine r_iloadN (pc' := 1) ok rfl d7_0 rfl ?_
  refine r_static (pc' := 4) ok rfl d7_1 (hw _ (List.mem_of_getElem? (i := 93) rfl)) (hw _ (List.mem_of_getElem? (i := 94) rfl)) (hw _ (List.mem_of_getElem? (i := 73) rfl)) (hw _ (List.mem_of_getElem? (i := 95) rfl)) (by decide) pd_5 (Con.pay (W := 0) (rmNBL l Z a0 hw n h0 h1 h2) EW.nil (hw _ (List.mem_of_getElem? (i := 95) rfl)) (hw _ (List.mem_of_getElem? (i := 73) rfl)) (by decide) (by decide)) (fun q => nomatch q) (Or.inl rfl) rfl (argsL := [(.int n)]) (rest := []) rfl rfl rfl (Nat.le_of_ble_eq_true rfl) (by decide) (by decide) (cV fun x1 h1 q1 le1 => ?_)
  obtain ⟨rfl, rfl⟩ := q1
  rw [hN]
  refine r_newarray (pc' := 6) ok rfl (6) d7_4 (hw _ (List.mem_of_getElem? (i := 20) rfl)) (ofN_nn (by omega)) (by rw [ofN_nat (by omega)]; omega) (by decide) (by decide) (by decide) ?_
  intro h2 b2 k2 g2 z2 E2 V2
  refine r_areturn ok d7_6 rfl rfl rfl (by decide) (by decide) ?_
  exact ⟨b2, k2, rfl, g2, z2, E2, V2⟩
def WBy (vs : List Value) (cs : List Int32) (n : Nat) : Prop := ∀ j, j < n → vs.getD (2 * j) (.int 0) = .int (StrChars.lo8 (cs.getD j 0)) ∧ vs.getD (2 * j + 1) (.int 0) = .int (StrChars.hi8 (cs.getD j 0))
theorem own_dbl {i : Nat} (h : i ≤ 3) : Int32.ofNat i <<< ((1 : Int32) &&& 31) = Int32.ofNat (2 * i) := by
  obtain rfl | rfl | rfl | rfl : i = 0 ∨ i = 1 ∨ i = 2 ∨ i = 3 := by omega
  all_goals decide
theorem own_byte (x : Int32) : nar .byte (x.toInt8.toInt32) = x.toInt8.toInt32 := by
  show (x.toInt8.toInt32).toInt8.toInt32 = x.toInt8.toInt32
  rw [Int8.toInt8_toInt32]
theorem own_set {vs : List Value} {i j : Nat} {v d : Value} : (vs.set i v).getD j d = if i = j ∧ i < vs.length then v else vs.getD j d := by
  rw [List.getD_eq_getElem?_getD, List.getElem?_set]
  split
  · rename_i e; subst e
    by_cases q : i < vs.length
    · simp [q]
    · simp [q, List.getD_eq_getElem?_getD, List.getElem?_eq_none (Nat.le_of_not_lt q)]
  · rename_i e
    simp [e, List.getD_eq_getElem?_getD]
theorem d8_0 : decode jdk_52_method_4_code 0 = .ok (.getstatic 44, 3) := by decide +kernel
theorem d8_3 : decode jdk_52_method_4_code 3 = .ok (.ifCond .ne 25, 3) := by decide +kernel
theorem d8_6 : decode jdk_52_method_4_code 6 = .ok (.iload_n 1, 1) := by decide +kernel
theorem d8_7 : decode jdk_52_method_4_code 7 = .ok (.ifCond .lt 11, 3) := by decide +kernel
theorem d8_10 : decode jdk_52_method_4_code 10 = .ok (.iload_n 1, 1) := by decide +kernel
theorem d8_11 : decode jdk_52_method_4_code 11 = .ok (.aload_n 0, 1) := by decide +kernel
theorem d8_12 : decode jdk_52_method_4_code 12 = .ok (.invokestatic 48, 3) := by decide +kernel
theorem d8_15 : decode jdk_52_method_4_code 15 = .ok (.if_icmp .lt 13, 3) := by decide +kernel
theorem d8_18 : decode jdk_52_method_4_code 18 = .ok (.new 52, 3) := by decide +kernel
theorem d8_21 : decode jdk_52_method_4_code 21 = .ok (.dup, 1) := by decide +kernel
theorem d8_22 : decode jdk_52_method_4_code 22 = .ok (.ldc 54, 2) := by decide +kernel
theorem d8_24 : decode jdk_52_method_4_code 24 = .ok (.invokespecial 56, 3) := by decide +kernel
theorem d8_27 : decode jdk_52_method_4_code 27 = .ok (.athrow, 1) := by decide +kernel
theorem d8_28 : decode jdk_52_method_4_code 28 = .ok (.iload_n 1, 1) := by decide +kernel
theorem d8_29 : decode jdk_52_method_4_code 29 = .ok (.iconst 1, 1) := by decide +kernel
theorem d8_30 : decode jdk_52_method_4_code 30 = .ok (.ishl, 1) := by decide +kernel
theorem d8_31 : decode jdk_52_method_4_code 31 = .ok (.istore_n 1, 1) := by decide +kernel
theorem d8_32 : decode jdk_52_method_4_code 32 = .ok (.aload_n 0, 1) := by decide +kernel
theorem d8_33 : decode jdk_52_method_4_code 33 = .ok (.iload_n 1, 1) := by decide +kernel
theorem d8_34 : decode jdk_52_method_4_code 34 = .ok (.iinc 1 1, 3) := by decide +kernel
theorem d8_37 : decode jdk_52_method_4_code 37 = .ok (.iload_n 2, 1) := by decide +kernel
theorem d8_38 : decode jdk_52_method_4_code 38 = .ok (.getstatic 59, 3) := by decide +kernel
theorem d8_41 : decode jdk_52_method_4_code 41 = .ok (.ishr, 1) := by decide +kernel
theorem d8_42 : decode jdk_52_method_4_code 42 = .ok (.i2b, 1) := by decide +kernel
theorem d8_43 : decode jdk_52_method_4_code 43 = .ok (.bastore, 1) := by decide +kernel
theorem d8_44 : decode jdk_52_method_4_code 44 = .ok (.aload_n 0, 1) := by decide +kernel
theorem d8_45 : decode jdk_52_method_4_code 45 = .ok (.iload_n 1, 1) := by decide +kernel
theorem d8_46 : decode jdk_52_method_4_code 46 = .ok (.iload_n 2, 1) := by decide +kernel
theorem d8_47 : decode jdk_52_method_4_code 47 = .ok (.getstatic 63, 3) := by decide +kernel
theorem d8_50 : decode jdk_52_method_4_code 50 = .ok (.ishr, 1) := by decide +kernel
theorem d8_51 : decode jdk_52_method_4_code 51 = .ok (.i2b, 1) := by decide +kernel
theorem d8_52 : decode jdk_52_method_4_code 52 = .ok (.bastore, 1) := by decide +kernel
theorem d8_53 : decode jdk_52_method_4_code 53 = .ok (.return_, 1) := by decide +kernel
set_option maxRecDepth 65536 in
theorem rmPut (l : Launch) (Z : State) (a0 : Array Value) (hw : ∀ d ∈ tables_1, d.before a0 Z = true) (b : Addr) (kb : ClassId) (i c N2 : Int32) (m : Nat) (vs : List Value) (h0 : Heap) (A1 : Sta Z Z.heap SU "$assertionsDisabled" "Z" (.int 1)) (A2 : Sta Z Z.heap SU "HI_BYTE_SHIFT" "I" (.int 0)) (A3 : Sta Z Z.heap SU "LO_BYTE_SHIFT" "I" (.int 8)) (hi : i = Int32.ofNat m) (hm : m ≤ 2) (hN : N2 = Int32.ofNat vs.length) (hl : 2 * m + 1 < vs.length) (hl6 : vs.length ≤ 6) (V : Arv Z h0 b kb .byte N2 vs (.int 0)) (g : Z.heap.size ≤ b) :
    Con l Z [] [] false (⟨"java/lang/StringUTF16", "putChar", "([BII)V"⟩ : MethodName) jdk_52_method_4_code 3 none RZ #[.ref b, .int i, .int c] h0 (rU fun h => Keep h0 h [b] ∧ Arv Z h b kb .byte N2 ((vs.set (2 * m) (.int (StrChars.lo8 c))).set (2 * m + 1) (.int (StrChars.hi8 c))) (.int 0)) := by
  refine body (ls := #[.val (.ref b), .val (.int i), .val (.int c)]) (plainFor_of_name pn_4) (fun m => by first | (simp [entryFrame, mkF, argsToLocals, Value.category]; done) | rfl) fun K ok => ?_
  refine r_getstatic (pc' := 3) ok rfl d8_0 (hw _ (List.mem_of_getElem? (i := 100) rfl)) Via.refl A1 ?_
  refine r_if_ne (pc' := 6) (pcY := 28) ok rfl d8_3 (by decide) (by decide) ?_ ?_
  rotate_left
  · intro hc
    exact absurd hc (by decide)
  intro _
  refine r_iloadN (pc' := 29) ok rfl d8_28 rfl ?_
  refine r_iconstV (pc' := 30) ok rfl (1 : Int32) d8_29 rfl ?_
  refine r_ishl (pc' := 31) ok rfl d8_30 ?_
  refine r_istoreN (pc' := 32) (ls' := fun z => #[.val (.ref b), .val (.int z), .val (.int c)]) ok rfl d8_31 (fun _ => rfl) ?_
  intro v31 ev31
  have e31 : v31 = Int32.ofNat (2 * m) := by rw [ev31, hi]; exact own_dbl (by omega)
  refine r_aloadN (pc' := 33) ok rfl d8_32 rfl rfl ?_
  refine r_iloadN (pc' := 34) ok rfl d8_33 rfl ?_
  refine r_iinc (pc' := 37) (ls' := fun z => #[.val (.ref b), .val (.int z), .val (.int c)]) ok rfl d8_34 rfl (fun _ => rfl) ?_
  intro v34 ev34
  refine r_iloadN (pc' := 38) ok rfl d8_37 rfl ?_
  have e34 : v34 = Int32.ofNat (2 * m + 1) := by rw [ev34, e31]; exact own_inc (by omega)
  refine r_getstatic (pc' := 41) ok rfl d8_38 (hw _ (List.mem_of_getElem? (i := 101) rfl)) Via.refl A2 ?_
  refine r_ishr (pc' := 42) ok rfl d8_41 ?_
  refine r_i2b (pc' := 43) ok rfl d8_42 ?_
  refine r_bastore (pc' := 44) ok rfl (2*m) d8_43 V g ⟨by rw [e31]; exact ofN_nn (by omega), by rw [e31, hN]; exact (ofN_lt (by omega) (by omega)).mpr (by omega)⟩ (by rw [e31]; exact ofN_nat (by omega)) (by omega) ?_
  intro h1 W1 V1
  refine r_aloadN (pc' := 45) ok rfl d8_44 rfl rfl ?_
  refine r_iloadN (pc' := 46) ok rfl d8_45 rfl ?_
  refine r_iloadN (pc' := 47) ok rfl d8_46 rfl ?_
  refine r_getstatic (pc' := 50) ok rfl d8_47 (hw _ (List.mem_of_getElem? (i := 102) rfl)) Via.refl A3 ?_
  refine r_ishr (pc' := 51) ok rfl d8_50 ?_
  refine r_i2b (pc' := 52) ok rfl d8_51 ?_
  refine r_bastore (pc' := 53) ok rfl (2*m+1) d8_52 V1 g ⟨by rw [e34]; exact ofN_nn (by omega), by rw [e34, hN]; exact (ofN_lt (by omega) (by omega)).mpr (by omega)⟩ (by rw [e34]; exact ofN_nat (by omega)) (by rw [List.length_set]; omega) ?_
  intro h2 W2 V2
  rw [own_byte, own_byte, StrChars.shr0] at V2
  refine r_return ok d8_53 ?_ (by decide) (by decide)
  exact ⟨((Keep.refl h0 [b]).wr W1 (Or.inl (List.mem_singleton.mpr rfl))).wr W2 (Or.inl (List.mem_singleton.mpr rfl)), V2⟩
theorem d9_0 : decode jdk_52_method_5_code 0 = .ok (.getstatic 44, 3) := by decide +kernel
theorem d9_3 : decode jdk_52_method_5_code 3 = .ok (.ifCond .ne 25, 3) := by decide +kernel
theorem d9_6 : decode jdk_52_method_5_code 6 = .ok (.iload_n 1, 1) := by decide +kernel
theorem d9_7 : decode jdk_52_method_5_code 7 = .ok (.ifCond .lt 11, 3) := by decide +kernel
theorem d9_10 : decode jdk_52_method_5_code 10 = .ok (.iload_n 1, 1) := by decide +kernel
theorem d9_11 : decode jdk_52_method_5_code 11 = .ok (.aload_n 0, 1) := by decide +kernel
theorem d9_12 : decode jdk_52_method_5_code 12 = .ok (.invokestatic 48, 3) := by decide +kernel
theorem d9_15 : decode jdk_52_method_5_code 15 = .ok (.if_icmp .lt 13, 3) := by decide +kernel
theorem d9_18 : decode jdk_52_method_5_code 18 = .ok (.new 52, 3) := by decide +kernel
theorem d9_21 : decode jdk_52_method_5_code 21 = .ok (.dup, 1) := by decide +kernel
theorem d9_22 : decode jdk_52_method_5_code 22 = .ok (.ldc 54, 2) := by decide +kernel
theorem d9_24 : decode jdk_52_method_5_code 24 = .ok (.invokespecial 56, 3) := by decide +kernel
theorem d9_27 : decode jdk_52_method_5_code 27 = .ok (.athrow, 1) := by decide +kernel
theorem d9_28 : decode jdk_52_method_5_code 28 = .ok (.iload_n 1, 1) := by decide +kernel
theorem d9_29 : decode jdk_52_method_5_code 29 = .ok (.iconst 1, 1) := by decide +kernel
theorem d9_30 : decode jdk_52_method_5_code 30 = .ok (.ishl, 1) := by decide +kernel
theorem d9_31 : decode jdk_52_method_5_code 31 = .ok (.istore_n 1, 1) := by decide +kernel
theorem d9_32 : decode jdk_52_method_5_code 32 = .ok (.aload_n 0, 1) := by decide +kernel
theorem d9_33 : decode jdk_52_method_5_code 33 = .ok (.iload_n 1, 1) := by decide +kernel
theorem d9_34 : decode jdk_52_method_5_code 34 = .ok (.iinc 1 1, 3) := by decide +kernel
theorem d9_37 : decode jdk_52_method_5_code 37 = .ok (.baload, 1) := by decide +kernel
theorem d9_38 : decode jdk_52_method_5_code 38 = .ok (.sipush 255, 3) := by decide +kernel
theorem d9_41 : decode jdk_52_method_5_code 41 = .ok (.iand, 1) := by decide +kernel
theorem d9_42 : decode jdk_52_method_5_code 42 = .ok (.getstatic 59, 3) := by decide +kernel
theorem d9_45 : decode jdk_52_method_5_code 45 = .ok (.ishl, 1) := by decide +kernel
theorem d9_46 : decode jdk_52_method_5_code 46 = .ok (.aload_n 0, 1) := by decide +kernel
theorem d9_47 : decode jdk_52_method_5_code 47 = .ok (.iload_n 1, 1) := by decide +kernel
theorem d9_48 : decode jdk_52_method_5_code 48 = .ok (.baload, 1) := by decide +kernel
theorem d9_49 : decode jdk_52_method_5_code 49 = .ok (.sipush 255, 3) := by decide +kernel
theorem d9_52 : decode jdk_52_method_5_code 52 = .ok (.iand, 1) := by decide +kernel
theorem d9_53 : decode jdk_52_method_5_code 53 = .ok (.getstatic 63, 3) := by decide +kernel
theorem d9_56 : decode jdk_52_method_5_code 56 = .ok (.ishl, 1) := by decide +kernel
theorem d9_57 : decode jdk_52_method_5_code 57 = .ok (.ior, 1) := by decide +kernel
theorem d9_58 : decode jdk_52_method_5_code 58 = .ok (.i2c, 1) := by decide +kernel
theorem d9_59 : decode jdk_52_method_5_code 59 = .ok (.ireturn, 1) := by decide +kernel
theorem own_pairnar (u v : Int32) : narrow .char (.int (StrChars.pairCh u v)) = .int (StrChars.pairCh u v) := by
  show Value.int _ = Value.int _
  unfold StrChars.pairCh
  simp only [UInt32.toUInt32_toInt32, UInt16.toUInt16_toUInt32]
set_option maxRecDepth 65536 in
theorem rmGet (l : Launch) (Z : State) (a0 : Array Value) (hw : ∀ d ∈ tables_1, d.before a0 Z = true) (b : Addr) (kb : ClassId) (i N2 u v : Int32) (m : Nat) (vs : List Value) (h0 : Heap) (A1 : Sta Z Z.heap SU "$assertionsDisabled" "Z" (.int 1)) (A2 : Sta Z Z.heap SU "HI_BYTE_SHIFT" "I" (.int 0)) (A3 : Sta Z Z.heap SU "LO_BYTE_SHIFT" "I" (.int 8)) (hi : i = Int32.ofNat m) (hm : m ≤ 2) (hN : N2 = Int32.ofNat vs.length) (hl : 2 * m + 1 < vs.length) (hl6 : vs.length ≤ 6) (V : Arv Z h0 b kb .byte N2 vs (.int 0)) (hu : vs.getD (2 * m) (.int 0) = .int u) (hv : vs.getD (2 * m + 1) (.int 0) = .int v) :
    Con l Z [] [] false (⟨"java/lang/StringUTF16", "getChar", "([BI)C"⟩ : MethodName) jdk_52_method_5_code 2 (some .char) RZ #[.ref b, .int i] h0 (rV fun x h => x = .int (StrChars.pairCh u v) ∧ h0 = h) := by
  refine body (ls := #[.val (.ref b), .val (.int i)]) (plainFor_of_name pn_4) (fun m => by first | (simp [entryFrame, mkF, argsToLocals, Value.category]; done) | rfl) fun K ok => ?_
  refine r_getstatic (pc' := 3) ok rfl d9_0 (hw _ (List.mem_of_getElem? (i := 100) rfl)) Via.refl A1 ?_
  refine r_if_ne (pc' := 6) (pcY := 28) ok rfl d9_3 (by decide) (by decide) ?_ ?_
  rotate_left
  · intro hc
    exact absurd hc (by decide)
  intro _
  refine r_iloadN (pc' := 29) ok rfl d9_28 rfl ?_
  refine r_iconstV (pc' := 30) ok rfl (1 : Int32) d9_29 rfl ?_
  refine r_ishl (pc' := 31) ok rfl d9_30 ?_
  refine r_istoreN (pc' := 32) (ls' := fun z => #[.val (.ref b), .val (.int z)]) ok rfl d9_31 (fun _ => rfl) ?_
  intro v31 ev31
  have e31 : v31 = Int32.ofNat (2 * m) := by rw [ev31, hi]; exact own_dbl (by omega)
  refine r_aloadN (pc' := 33) ok rfl d9_32 rfl rfl ?_
  refine r_iloadN (pc' := 34) ok rfl d9_33 rfl ?_
  refine r_iinc (pc' := 37) (ls' := fun z => #[.val (.ref b), .val (.int z)]) ok rfl d9_34 rfl (fun _ => rfl) ?_
  intro v34 ev34
  have e34 : v34 = Int32.ofNat (2 * m + 1) := by rw [ev34, e31]; exact own_inc (by omega)
  refine r_baload (pc' := 38) ok rfl d9_37 V ⟨by rw [e31]; exact ofN_nn (by omega), by rw [e31, hN]; exact (ofN_lt (by omega) (by omega)).mpr (by omega)⟩ (Eq.trans (by rw [e31, ofN_nat (by omega)]) (hu)) ?_
  refine r_sipushV (pc' := 41) ok rfl (255 : Int32) d9_38 rfl ?_
  refine r_iand (pc' := 42) ok rfl d9_41 ?_
  refine r_getstatic (pc' := 45) ok rfl d9_42 (hw _ (List.mem_of_getElem? (i := 101) rfl)) Via.refl A2 ?_
  refine r_ishl (pc' := 46) ok rfl d9_45 ?_
  refine r_aloadN (pc' := 47) ok rfl d9_46 rfl rfl ?_
  refine r_iloadN (pc' := 48) ok rfl d9_47 rfl ?_
  refine r_baload (pc' := 49) ok rfl d9_48 V ⟨by rw [e34]; exact ofN_nn (by omega), by rw [e34, hN]; exact (ofN_lt (by omega) (by omega)).mpr (by omega)⟩ (Eq.trans (by rw [e34, ofN_nat (by omega)]) (hv)) ?_
  refine r_sipushV (pc' := 52) ok rfl (255 : Int32) d9_49 rfl ?_
  refine r_iand (pc' := 53) ok rfl d9_52 ?_
  refine r_getstatic (pc' := 56) ok rfl d9_53 (hw _ (List.mem_of_getElem? (i := 102) rfl)) Via.refl A3 ?_
  refine r_ishl (pc' := 57) ok rfl d9_56 ?_
  refine r_ior (pc' := 58) ok rfl d9_57 ?_
  refine r_i2c (pc' := 59) ok rfl d9_58 ?_
  refine r_ireturn ok d9_59 (own_pairnar u v) (by simp) (by decide) (by decide) ?_
  exact ⟨rfl, rfl⟩
theorem d10_0 : decode jdk_52_method_14_code 0 = .ok (.iload_n 2, 1) := by decide +kernel
theorem d10_1 : decode jdk_52_method_14_code 1 = .ok (.invokestatic 107, 3) := by decide +kernel
theorem d10_4 : decode jdk_52_method_14_code 4 = .ok (.astore_n 3, 1) := by decide +kernel
theorem d10_5 : decode jdk_52_method_14_code 5 = .ok (.iconst 0, 1) := by decide +kernel
theorem d10_6 : decode jdk_52_method_14_code 6 = .ok (.istore 4, 2) := by decide +kernel
theorem d10_8 : decode jdk_52_method_14_code 8 = .ok (.iload 4, 2) := by decide +kernel
theorem d10_10 : decode jdk_52_method_14_code 10 = .ok (.iload_n 2, 1) := by decide +kernel
theorem d10_11 : decode jdk_52_method_14_code 11 = .ok (.if_icmp .ge 21, 3) := by decide +kernel
theorem d10_14 : decode jdk_52_method_14_code 14 = .ok (.aload_n 3, 1) := by decide +kernel
theorem d10_15 : decode jdk_52_method_14_code 15 = .ok (.iload 4, 2) := by decide +kernel
theorem d10_17 : decode jdk_52_method_14_code 17 = .ok (.aload_n 0, 1) := by decide +kernel
theorem d10_18 : decode jdk_52_method_14_code 18 = .ok (.iload_n 1, 1) := by decide +kernel
theorem d10_19 : decode jdk_52_method_14_code 19 = .ok (.caload, 1) := by decide +kernel
theorem d10_20 : decode jdk_52_method_14_code 20 = .ok (.invokestatic 111, 3) := by decide +kernel
theorem d10_23 : decode jdk_52_method_14_code 23 = .ok (.iinc 1 1, 3) := by decide +kernel
theorem d10_26 : decode jdk_52_method_14_code 26 = .ok (.iinc 4 1, 3) := by decide +kernel
theorem d10_29 : decode jdk_52_method_14_code 29 = .ok (.goto (-21), 3) := by decide +kernel
theorem d10_32 : decode jdk_52_method_14_code 32 = .ok (.aload_n 3, 1) := by decide +kernel
theorem d10_33 : decode jdk_52_method_14_code 33 = .ok (.areturn, 1) := by decide +kernel
abbrev R10 : Room := { frames := 2, cells := 1, slots := 6, locals := 30 }
set_option maxRecDepth 65536 in
theorem rmTB (l : Launch) (Z : State) (a0 : Array Value) (hw : ∀ d ∈ tables_1, d.before a0 Z = true) (a : Addr) (kc : ClassId) (n : Int32) (cs : List Int32) (dv : Value) (h0 : Heap) (A1 : Sta Z Z.heap SU "$assertionsDisabled" "Z" (.int 1)) (A2 : Sta Z Z.heap SU "HI_BYTE_SHIFT" "I" (.int 0)) (A3 : Sta Z Z.heap SU "LO_BYTE_SHIFT" "I" (.int 8)) (hn : n = Int32.ofNat cs.length) (hl : cs.length ≤ 3) (V : Arv Z h0 a kc .char n (cs.map Value.int) dv) :
    Con l Z [] [] false (⟨"java/lang/StringUTF16", "toBytes", "([CII)[B"⟩ : MethodName) jdk_52_method_14_code 5 (some (.array .byte)) R10 #[.ref a, .int 0, .int n] h0 (rV fun x h => ∃ b kb vs, x = .ref b ∧ h0.size ≤ b ∧ Z.heap.size ≤ b ∧ Keep h0 h [] ∧ vs.length = 2 * cs.length ∧ WBy vs cs cs.length ∧ Arv Z h b kb .byte (Int32.ofNat (2 * cs.length)) vs (.int 0)) := by
  refine body (ls := #[.val (.ref a), .val (.int 0), .val (.int n), .unset, .unset]) (plainFor_of_name pn_4) (fun m => by first | (simp [entryFrame, mkF, argsToLocals, Value.category]; done) | rfl) fun K ok => ?_
  refine r_iloadN (pc' := 1) ok rfl d10_0 rfl ?_
  refine r_static (pc' := 4) ok rfl d10_1 (hw _ (List.mem_of_getElem? (i := 90) rfl)) (hw _ (List.mem_of_getElem? (i := 91) rfl)) (hw _ (List.mem_of_getElem? (i := 73) rfl)) (hw _ (List.mem_of_getElem? (i := 92) rfl)) (by decide) pd_16 (Con.pay (W := 0) (rmNB l Z a0 hw n cs.length h0 hn hl) EW.nil (hw _ (List.mem_of_getElem? (i := 92) rfl)) (hw _ (List.mem_of_getElem? (i := 73) rfl)) (by decide) (by decide)) (fun q => nomatch q) (Or.inl rfl) rfl (argsL := [(.int n)]) (rest := []) rfl rfl rfl (Nat.le_of_ble_eq_true rfl) (by decide) (by decide) (cV fun x1 h1 q1 le1 => ?_)
  obtain ⟨b, kb, rfl, gb, zb, E1, B1⟩ := q1
  have hab : a ≠ b := own_ne V.lt gb
  refine r_astoreN (pc' := 5) (ls' := #[.val (.ref a), .val (.int 0), .val (.int n), .val (.ref b), .unset]) ok rfl d10_4 rfl rfl ?_
  refine r_iconstV (pc' := 6) ok rfl (0 : Int32) d10_5 rfl ?_
  refine r_istore (pc' := 8) (ls' := fun z => #[.val (.ref a), .val (.int 0), .val (.int n), .val (.ref b), .val (.int z)]) ok rfl d10_6 (fun _ => rfl) ?_
  intro v6 ev6
  rw [show v6 = Int32.ofNat 0 from ev6]
  have loop : ∀ (k i : Nat) (h : Heap) (vs : List Value), i + k = cs.length → Keep h0 h [] → vs.length = 2 * cs.length → WBy vs cs i → Arv Z h b kb .byte (Int32.ofNat (2 * cs.length)) vs (.int 0) → Run Z K Cln h 1 6 8 #[.val (.ref a), .val (.int (Int32.ofNat i)), .val (.int n), .val (.ref b), .val (.int (Int32.ofNat i))] [] := by
    intro k
    induction k with
    | zero =>
      intro i h vs hik Kp hvl hw' B
      obtain rfl : i = cs.length := hik
      refine r_iload (pc' := 10) ok rfl d10_8 rfl ?_
      refine r_iloadN (pc' := 11) ok rfl d10_10 rfl ?_
      refine r_icmp_ge (pc' := 14) (pcY := 32) ok rfl d10_11 (by decide) (by decide) ?_ ?_
      rotate_left
      · intro hc
        rw [hn] at hc
        exact absurd hc Int32.lt_irrefl
      intro _
      refine r_aloadN (pc' := 33) ok rfl d10_32 rfl rfl ?_
      refine r_areturn ok d10_33 rfl rfl rfl (by decide) (by decide) ?_
      exact ⟨b, kb, vs, rfl, Nat.le_of_eq gb.symm, zb, Kp, hvl, hw', B⟩
    | succ k ih =>
      intro i h vs hik Kp hvl hw' B
      have hi : i < cs.length := by omega
      have V' := V.keep Kp nin0
      refine r_iload (pc' := 10) ok rfl d10_8 rfl ?_
      refine r_iloadN (pc' := 11) ok rfl d10_10 rfl ?_
      refine r_icmp_ge (pc' := 14) (pcY := 32) ok rfl d10_11 (by decide) (by decide) ?_ ?_
      · intro hc
        rw [hn] at hc
        exact absurd ((ofN_lt (by omega) (by omega)).mpr hi) hc
      intro _
      refine r_aloadN (pc' := 15) ok rfl d10_14 rfl rfl ?_
      refine r_iload (pc' := 17) ok rfl d10_15 rfl ?_
      refine r_aloadN (pc' := 18) ok rfl d10_17 rfl rfl ?_
      refine r_iloadN (pc' := 19) ok rfl d10_18 rfl ?_
      refine r_caload (pc' := 20) ok rfl d10_19 V' ⟨ofN_nn (by omega), by rw [hn]; exact (ofN_lt (by omega) (by omega)).mpr hi⟩ (Eq.trans (by rw [ofN_nat (by omega)]) (own_getD hi)) ?_
      refine r_static (pc' := 23) ok rfl d10_20 (hw _ (List.mem_of_getElem? (i := 97) rfl)) (hw _ (List.mem_of_getElem? (i := 98) rfl)) (hw _ (List.mem_of_getElem? (i := 73) rfl)) (hw _ (List.mem_of_getElem? (i := 99) rfl)) (by decide) pd_17 (Con.pay (W := 0) (rmPut l Z a0 hw b kb (Int32.ofNat i) (cs.getD i 0) _ i vs h A1 A2 A3 rfl (by omega) (by rw [hvl]) (by omega) (by omega) B zb) EW.nil (hw _ (List.mem_of_getElem? (i := 99) rfl)) (hw _ (List.mem_of_getElem? (i := 73) rfl)) (by decide) (by decide)) (fun q => nomatch q) (Or.inl rfl) rfl (argsL := [(.ref b), (.int (Int32.ofNat i)), .int _]) (rest := []) rfl rfl rfl (Nat.le_of_ble_eq_true rfl) (by decide) (by decide) (cU fun h2 q2 le2 => ?_)
      obtain ⟨K2, B2⟩ := q2
      refine r_iinc (pc' := 26) (ls' := fun z => #[.val (.ref a), .val (.int z), .val (.int n), .val (.ref b), .val (.int (Int32.ofNat i))]) ok rfl d10_23 rfl (fun _ => rfl) ?_
      intro v23 ev23
      refine r_iinc (pc' := 29) (ls' := fun z => #[.val (.ref a), .val (.int v23), .val (.int n), .val (.ref b), .val (.int z)]) ok rfl d10_26 rfl (fun _ => rfl) ?_
      intro v26 ev26
      refine r_goto (pc' := 8) ok d10_29 (by decide) (by decide) ?_
      rw [show v23 = Int32.ofNat (i + 1) by rw [ev23]; exact own_inc (by omega), show v26 = Int32.ofNat (i + 1) by rw [ev26]; exact own_inc (by omega)]
      refine ih (i + 1) h2 _ (by omega) (Kp.trans K2 (fun y hy => by cases List.mem_singleton.mp hy; exact Or.inr (Nat.le_of_eq gb.symm))) (by rw [List.length_set, List.length_set]; exact hvl) ?_ B2
      intro j hj
      by_cases e : j = i
      · subst e
        rw [own_set, if_neg (by omega), own_set, if_pos (by omega), own_set, if_pos (by rw [List.length_set]; omega)]
        exact ⟨rfl, rfl⟩
      · rw [own_set, if_neg (by omega), own_set, if_neg (by omega), own_set, if_neg (by omega), own_set, if_neg (by omega)]
        exact hw' j (by omega)
  refine loop cs.length 0 h1 _ (by omega) ((Keep.refl h0 []).ext E1) ?_ (fun j hj => absurd hj (Nat.not_lt_zero _)) (B1.pad (vs' := [] ++ List.replicate (2 * cs.length) (.int 0)) (pad_rep [] (.int 0) (2 * cs.length)))
  simp
theorem d11_0 : decode jdk_52_method_16_code 0 = .ok (.iload_n 2, 1) := by decide +kernel
theorem d11_1 : decode jdk_52_method_16_code 1 = .ok (.newarray .byte, 2) := by decide +kernel
theorem d11_3 : decode jdk_52_method_16_code 3 = .ok (.astore_n 3, 1) := by decide +kernel
theorem d11_4 : decode jdk_52_method_16_code 4 = .ok (.aload_n 0, 1) := by decide +kernel
theorem d11_5 : decode jdk_52_method_16_code 5 = .ok (.iload_n 1, 1) := by decide +kernel
theorem d11_6 : decode jdk_52_method_16_code 6 = .ok (.aload_n 3, 1) := by decide +kernel
theorem d11_7 : decode jdk_52_method_16_code 7 = .ok (.iconst 0, 1) := by decide +kernel
theorem d11_8 : decode jdk_52_method_16_code 8 = .ok (.iload_n 2, 1) := by decide +kernel
theorem d11_9 : decode jdk_52_method_16_code 9 = .ok (.invokestatic 115, 3) := by decide +kernel
theorem d11_12 : decode jdk_52_method_16_code 12 = .ok (.istore 4, 2) := by decide +kernel
theorem d11_14 : decode jdk_52_method_16_code 14 = .ok (.iload 4, 2) := by decide +kernel
theorem d11_16 : decode jdk_52_method_16_code 16 = .ok (.iload_n 2, 1) := by decide +kernel
theorem d11_17 : decode jdk_52_method_16_code 17 = .ok (.if_icmp .eq 40, 3) := by decide +kernel
theorem d11_20 : decode jdk_52_method_16_code 20 = .ok (.aload_n 0, 1) := by decide +kernel
theorem d11_21 : decode jdk_52_method_16_code 21 = .ok (.iload_n 1, 1) := by decide +kernel
theorem d11_22 : decode jdk_52_method_16_code 22 = .ok (.iload_n 2, 1) := by decide +kernel
theorem d11_23 : decode jdk_52_method_16_code 23 = .ok (.invokestatic 119, 3) := by decide +kernel
theorem d11_26 : decode jdk_52_method_16_code 26 = .ok (.astore 5, 2) := by decide +kernel
theorem d11_28 : decode jdk_52_method_16_code 28 = .ok (.aload 5, 2) := by decide +kernel
theorem d11_30 : decode jdk_52_method_16_code 30 = .ok (.iload 4, 2) := by decide +kernel
theorem d11_32 : decode jdk_52_method_16_code 32 = .ok (.invokestatic 71, 3) := by decide +kernel
theorem d11_35 : decode jdk_52_method_16_code 35 = .ok (.sipush 255, 3) := by decide +kernel
theorem d11_38 : decode jdk_52_method_16_code 38 = .ok (.if_icmp .gt 16, 3) := by decide +kernel
theorem d11_41 : decode jdk_52_method_16_code 41 = .ok (.aload 5, 2) := by decide +kernel
theorem d11_43 : decode jdk_52_method_16_code 43 = .ok (.iconst 0, 1) := by decide +kernel
theorem d11_44 : decode jdk_52_method_16_code 44 = .ok (.aload_n 3, 1) := by decide +kernel
theorem d11_45 : decode jdk_52_method_16_code 45 = .ok (.iconst 0, 1) := by decide +kernel
theorem d11_46 : decode jdk_52_method_16_code 46 = .ok (.iload_n 2, 1) := by decide +kernel
theorem d11_47 : decode jdk_52_method_16_code 47 = .ok (.invokestatic 123, 3) := by decide +kernel
theorem d11_50 : decode jdk_52_method_16_code 50 = .ok (.iload_n 2, 1) := by decide +kernel
theorem d11_51 : decode jdk_52_method_16_code 51 = .ok (.if_icmp .eq 6, 3) := by decide +kernel
theorem d11_54 : decode jdk_52_method_16_code 54 = .ok (.aload 5, 2) := by decide +kernel
theorem d11_56 : decode jdk_52_method_16_code 56 = .ok (.areturn, 1) := by decide +kernel
theorem d11_57 : decode jdk_52_method_16_code 57 = .ok (.aload_n 3, 1) := by decide +kernel
theorem d11_58 : decode jdk_52_method_16_code 58 = .ok (.areturn, 1) := by decide +kernel
abbrev R11 : Room := { frames := 3, cells := 2, slots := 9, locals := 60 }
set_option maxRecDepth 65536 in
theorem rmC3 (l : Launch) (Z : State) (a0 : Array Value) (hw : ∀ d ∈ tables_1, d.before a0 Z = true) (a : Addr) (kc : ClassId) (n : Int32) (cs : List Int32) (dv : Value) (i0 : Nat) (h0 : Heap) (A1 : Sta Z Z.heap SU "$assertionsDisabled" "Z" (.int 1)) (A2 : Sta Z Z.heap SU "HI_BYTE_SHIFT" "I" (.int 0)) (A3 : Sta Z Z.heap SU "LO_BYTE_SHIFT" "I" (.int 8)) (hn : n = Int32.ofNat cs.length) (hl : cs.length ≤ 3) (hi0 : i0 < cs.length) (hlo : ∀ j, j < i0 → ¬ (255 : Int32) < cs.getD j 0) (hhi : (255 : Int32) < cs.getD i0 0) (hch : ∀ c ∈ cs, ¬ c < 0 ∧ ¬ (65535 : Int32) < c) (V : Arv Z h0 a kc .char n (cs.map Value.int) dv) :
    Con l Z [] [] false (⟨"java/lang/StringUTF16", "compress", "([CII)[B"⟩ : MethodName) jdk_52_method_16_code 6 (some (.array .byte)) R11 #[.ref a, .int 0, .int n] h0 (rV fun x h => ∃ b kb vs, x = .ref b ∧ h0.size ≤ b ∧ Z.heap.size ≤ b ∧ Keep h0 h [] ∧ vs.length = 2 * cs.length ∧ WBy vs cs cs.length ∧ Arv Z h b kb .byte (Int32.ofNat (2 * cs.length)) vs (.int 0)) := by
  refine body (ls := #[.val (.ref a), .val (.int 0), .val (.int n), .unset, .unset, .unset]) (plainFor_of_name pn_4) (fun m => by first | (simp [entryFrame, mkF, argsToLocals, Value.category]; done) | rfl) fun K ok => ?_
  refine r_iloadN (pc' := 1) ok rfl d11_0 rfl ?_
  refine r_newarray (pc' := 3) ok rfl (3) d11_1 (hw _ (List.mem_of_getElem? (i := 20) rfl)) (by rw [hn]; exact ofN_nn (by omega)) (by rw [hn, ofN_nat (by omega)]; omega) (by decide) (by decide) (by decide) ?_
  intro h1 b1 k1 g1 z1 E1 V1
  replace V1 := V1.pad (pad_rep [] _ cs.length)
  have hab : a ≠ b1 := own_ne V.lt g1
  refine r_astoreN (pc' := 4) (ls' := #[.val (.ref a), .val (.int 0), .val (.int n), .val (.ref b1), .unset, .unset]) ok rfl d11_3 rfl rfl ?_
  refine r_aloadN (pc' := 5) ok rfl d11_4 rfl rfl ?_
  refine r_iloadN (pc' := 6) ok rfl d11_5 rfl ?_
  refine r_aloadN (pc' := 7) ok rfl d11_6 rfl rfl ?_
  refine r_iconstV (pc' := 8) ok rfl (0 : Int32) d11_7 rfl ?_
  refine r_iloadN (pc' := 9) ok rfl d11_8 rfl ?_
  refine r_static (pc' := 12) ok rfl d11_9 (hw _ (List.mem_of_getElem? (i := 75) rfl)) (hw _ (List.mem_of_getElem? (i := 76) rfl)) (hw _ (List.mem_of_getElem? (i := 73) rfl)) (hw _ (List.mem_of_getElem? (i := 77) rfl)) (by decide) pd_13 (Con.pay (W := 0) (rmC5 l Z a0 hw a b1 kc k1 n cs dv _ i0 h1 hn (by omega) hi0 hlo hhi (V.ext E1) V1 (by simp) z1 hab) EW.nil (hw _ (List.mem_of_getElem? (i := 77) rfl)) (hw _ (List.mem_of_getElem? (i := 73) rfl)) (by decide) (by decide)) (fun q => nomatch q) (Or.inl rfl) rfl (argsL := [(.ref a), (.int 0), (.ref b1), .int _, (.int n)]) (rest := []) rfl rfl rfl (Nat.le_of_ble_eq_true rfl) (by decide) (by decide) (cV fun x2 h2 q2 le2 => ?_)
  obtain ⟨rfl, K2⟩ := q2
  have K02 : Keep h0 h2 [] := ((Keep.refl h0 []).ext E1).trans K2 (fun y hy => by cases List.mem_singleton.mp hy; exact Or.inr (Nat.le_of_eq g1.symm))
  refine r_istore (pc' := 14) (ls' := fun z => #[.val (.ref a), .val (.int 0), .val (.int n), .val (.ref b1), .val (.int z), .unset]) ok rfl d11_12 (fun _ => rfl) ?_
  intro v12 ev12
  refine r_iload (pc' := 16) ok rfl d11_14 rfl ?_
  refine r_iloadN (pc' := 17) ok rfl d11_16 rfl ?_
  refine r_icmp_eq (pc' := 20) (pcY := 57) ok rfl d11_17 (by decide) (by decide) ?_ ?_
  · intro hc
    rw [ev12, hn] at hc
    exact absurd (ofN_inj (by omega) (by omega) hc) (by omega)
  intro _
  refine r_aloadN (pc' := 21) ok rfl d11_20 rfl rfl ?_
  refine r_iloadN (pc' := 22) ok rfl d11_21 rfl ?_
  refine r_iloadN (pc' := 23) ok rfl d11_22 rfl ?_
  refine r_static (pc' := 26) ok rfl d11_23 (hw _ (List.mem_of_getElem? (i := 87) rfl)) (hw _ (List.mem_of_getElem? (i := 88) rfl)) (hw _ (List.mem_of_getElem? (i := 73) rfl)) (hw _ (List.mem_of_getElem? (i := 89) rfl)) (by decide) pd_12 (Con.pay (W := 0) (rmTB l Z a0 hw a kc n cs dv h2 A1 A2 A3 hn hl (V.keep K02 nin0)) EW.nil (hw _ (List.mem_of_getElem? (i := 89) rfl)) (hw _ (List.mem_of_getElem? (i := 73) rfl)) (by decide) (by decide)) (fun q => nomatch q) (Or.inl rfl) rfl (argsL := [(.ref a), (.int 0), (.int n)]) (rest := []) rfl rfl rfl (Nat.le_of_ble_eq_true rfl) (by decide) (by decide) (cV fun x3 h3 q3 le3 => ?_)
  obtain ⟨t, kt, vs, rfl, ht1, ht2, K3, hvl, hwb, B3⟩ := q3
  refine r_astore (pc' := 28) (ls' := #[.val (.ref a), .val (.int 0), .val (.int n), .val (.ref b1), .val (.int v12), .val (.ref t)]) ok rfl d11_26 rfl rfl ?_
  refine r_aload (pc' := 30) ok rfl d11_28 rfl rfl ?_
  refine r_iload (pc' := 32) ok rfl d11_30 rfl ?_
  refine r_static (pc' := 35) ok rfl d11_32 (hw _ (List.mem_of_getElem? (i := 103) rfl)) (hw _ (List.mem_of_getElem? (i := 104) rfl)) (hw _ (List.mem_of_getElem? (i := 73) rfl)) (hw _ (List.mem_of_getElem? (i := 105) rfl)) (by decide) pd_18 (Con.pay (W := 0) (rmGet l Z a0 hw t kt v12 _ _ _ i0 vs h3 A1 A2 A3 ev12 (by omega) (by rw [hvl]) (by omega) (by omega) B3 (hwb i0 hi0).1 (hwb i0 hi0).2) EW.nil (hw _ (List.mem_of_getElem? (i := 105) rfl)) (hw _ (List.mem_of_getElem? (i := 73) rfl)) (by decide) (by decide)) (fun q => nomatch q) (Or.inl rfl) rfl (argsL := [(.ref t), (.int v12)]) (rest := []) rfl rfl rfl (Nat.le_of_ble_eq_true rfl) (by decide) (by decide) (cV fun x4 h4 q4 le4 => ?_)
  obtain ⟨rfl, rfl⟩ := q4
  have hmem : cs.getD i0 0 ∈ cs := by simp [List.getD_eq_getElem?_getD, hi0]
  rw [StrChars.pair_says (hch _ hmem).1 (hch _ hmem).2]
  refine r_sipushV (pc' := 38) ok rfl (255 : Int32) d11_35 rfl ?_
  refine r_icmp_gt (pc' := 41) (pcY := 54) ok rfl d11_38 (by decide) (by decide) ?_ ?_
  rotate_left
  · intro hc
    exact absurd hhi hc
  intro _
  refine r_aload (pc' := 56) ok rfl d11_54 rfl rfl ?_
  refine r_areturn ok d11_56 rfl rfl rfl (by decide) (by decide) ?_
  exact ⟨t, kt, vs, rfl, Nat.le_trans K02.1 ht1, ht2, K02.trans K3 (fun y hy => nomatch hy), hvl, hwb, B3⟩
theorem d12_0 : decode jdk_52_method_15_code 0 = .ok (.iload_n 1, 1) := by decide +kernel
theorem d12_1 : decode jdk_52_method_15_code 1 = .ok (.aload_n 0, 1) := by decide +kernel
theorem d12_2 : decode jdk_52_method_15_code 2 = .ok (.arraylength, 1) := by decide +kernel
theorem d12_3 : decode jdk_52_method_15_code 3 = .ok (.isub, 1) := by decide +kernel
theorem d12_4 : decode jdk_52_method_15_code 4 = .ok (.bipush 31, 2) := by decide +kernel
theorem d12_6 : decode jdk_52_method_15_code 6 = .ok (.iushr, 1) := by decide +kernel
theorem d12_7 : decode jdk_52_method_15_code 7 = .ok (.i2b, 1) := by decide +kernel
theorem d12_8 : decode jdk_52_method_15_code 8 = .ok (.ireturn, 1) := by decide +kernel
set_option maxRecDepth 65536 in
theorem rmCd (l : Launch) (Z : State) (a0 : Array Value) (hw : ∀ d ∈ tables_1, d.before a0 Z = true) (b : Addr) (kb : ClassId) (n : Int32) (m : Nat) (vs : List Value) (dv : Value) (h0 : Heap) (hn : n = Int32.ofNat m) (hm : m ≤ 3) (hm0 : 0 < m) (B : Arv Z h0 b kb .byte (Int32.ofNat (2 * m)) vs dv) :
    Con l Z [] [] false (⟨"java/lang/StringUTF16", "coderFromArrayLen", "([BI)B"⟩ : MethodName) jdk_52_method_15_code 2 (some .byte) RZ #[.ref b, .int n] h0 (rV fun x h => x = .int 1 ∧ h0 = h) := by
  have e : (((n - Int32.ofNat (2 * m)).toUInt32 >>> (((31 : Int32) &&& 31)).toUInt32).toInt32).toInt8.toInt32 = 1 := by
    subst hn
    obtain rfl | rfl | rfl : m = 1 ∨ m = 2 ∨ m = 3 := by omega
    all_goals decide
  refine body (ls := #[.val (.ref b), .val (.int n)]) (plainFor_of_name pn_4) (fun m => by first | (simp [entryFrame, mkF, argsToLocals, Value.category]; done) | rfl) fun K ok => ?_
  refine r_iloadN (pc' := 1) ok rfl d12_0 rfl ?_
  refine r_aloadN (pc' := 2) ok rfl d12_1 rfl rfl ?_
  refine r_arraylength (pc' := 3) ok rfl d12_2 B ?_
  refine r_isub (pc' := 4) ok rfl d12_3 ?_
  refine r_bipushV (pc' := 6) ok rfl (31 : Int32) d12_4 rfl ?_
  refine r_iushr (pc' := 7) ok rfl d12_6 ?_
  refine r_i2b (pc' := 8) ok rfl d12_7 ?_
  rw [e]
  refine r_ireturn ok d12_8 rfl (by simp) (by decide) (by decide) ?_
  exact ⟨rfl, rfl⟩
abbrev R13 : Room := { frames := 4, cells := 2, slots := 9, locals := 90 }
set_option maxRecDepth 65536 in
theorem rmS2u (l : Launch) (Z : State) (a0 : Array Value) (hw : ∀ d ∈ tables_1, d.before a0 Z = true) (a1 a2 : Addr) (kc : ClassId) (n G1 : Int32) (cs : List Int32) (dv u1 u2 : Value) (i0 : Nat) (h0 : Heap) (S1 : Sta Z Z.heap ST "COMPACT_STRINGS" "Z" (.int G1)) (P1 : ¬ G1 = 0) (A1 : Sta Z Z.heap SU "$assertionsDisabled" "Z" (.int 1)) (A2 : Sta Z Z.heap SU "HI_BYTE_SHIFT" "I" (.int 0)) (A3 : Sta Z Z.heap SU "LO_BYTE_SHIFT" "I" (.int 8)) (hn : n = Int32.ofNat cs.length) (hl : cs.length ≤ 3) (hi0 : i0 < cs.length) (hlo : ∀ j, j < i0 → ¬ (255 : Int32) < cs.getD j 0) (hhi : (255 : Int32) < cs.getD i0 0) (hch : ∀ c ∈ cs, ¬ c < 0 ∧ ¬ (65535 : Int32) < c) (V : Arv Z h0 a2 kc .char n (cs.map Value.int) dv)
    (E : Exa Z h0 a1 ST) (Fv : Fld Z h0 a1 ST "value" "[B" u1) (Fc : Fld Z h0 a1 ST "coder" "B" u2) (g : Z.heap.size ≤ a1) :
    Con l Z [] [] false (⟨"java/lang/String", "<init>", "([CIILjava/lang/Void;)V"⟩ : MethodName) jdk_42_method_149_code 6 none R13 #[.ref a1, .ref a2, .int 0, .int n, .null] h0 (rU fun h => Keep h0 h [a1] ∧ Exa Z h a1 ST ∧ Fld Z h a1 ST "coder" "B" (.int 1) ∧ ∃ t kb vs, Fld Z h a1 ST "value" "[B" (.ref t) ∧ vs.length = 2 * cs.length ∧ WBy vs cs cs.length ∧ Arv Z h t kb .byte (Int32.ofNat (2 * cs.length)) vs (.int 0)) := by
  refine body (ls := #[.val (.ref a1), .val (.ref a2), .val (.int 0), .val (.int n), .val .null, .unset]) (plainFor_of_name pn_1) (fun m => by first | (simp [entryFrame, mkF, argsToLocals, Value.category]; done) | rfl) fun K ok => ?_
  refine r_aloadN (pc' := 1) ok rfl d2_0 rfl rfl ?_
  refine r_init (pc' := 4) ok rfl d2_1 (hw _ (List.mem_of_getElem? (i := 16) rfl)) (hw _ (List.mem_of_getElem? (i := 17) rfl)) (hw _ (List.mem_of_getElem? (i := 18) rfl)) rfl (by decide) (Nat.le_of_ble_eq_true rfl) ?_
  refine r_iloadN (pc' := 5) ok rfl d2_4 rfl ?_
  refine r_if_ne (pc' := 8) (pcY := 27) ok rfl d2_5 (by decide) (by decide) ?_ ?_
  rotate_left
  · intro hc
    rw [hn] at hc
    exact absurd (ofN_inj (n := 0) (by omega) (by omega) hc) (by omega)
  intro _
  refine r_getstatic (pc' := 30) ok rfl d2_27 (hw _ (List.mem_of_getElem? (i := 46) rfl)) Via.refl S1 ?_
  refine r_if_eq (pc' := 33) (pcY := 58) ok rfl d2_30 (by decide) (by decide) ?_ ?_
  · intro hc
    exact absurd hc P1
  intro _
  refine r_aloadN (pc' := 34) ok rfl d2_33 rfl rfl ?_
  refine r_iloadN (pc' := 35) ok rfl d2_34 rfl ?_
  refine r_iloadN (pc' := 36) ok rfl d2_35 rfl ?_
  refine r_static (pc' := 39) ok rfl d2_36 (hw _ (List.mem_of_getElem? (i := 71) rfl)) (hw _ (List.mem_of_getElem? (i := 72) rfl)) (hw _ (List.mem_of_getElem? (i := 73) rfl)) (hw _ (List.mem_of_getElem? (i := 74) rfl)) (by decide) pd_12 (Con.pay (W := 0) (rmC3 l Z a0 hw a2 kc n cs dv i0 h0 A1 A2 A3 hn hl hi0 hlo hhi hch V) EW.nil (hw _ (List.mem_of_getElem? (i := 74) rfl)) (hw _ (List.mem_of_getElem? (i := 73) rfl)) (by decide) (by decide)) (fun q => nomatch q) (Or.inl rfl) rfl (argsL := [(.ref a2), (.int 0), (.int n)]) (rest := []) rfl rfl rfl (Nat.le_of_ble_eq_true rfl) (by decide) (by decide) (cV fun x1 h1 q1 le1 => ?_)
  obtain ⟨t, kt, vs, rfl, ht1, ht2, K1, hvl, hwb, B1⟩ := q1
  refine r_astore (pc' := 41) (ls' := #[.val (.ref a1), .val (.ref a2), .val (.int 0), .val (.int n), .val .null, .val (.ref t)]) ok rfl d2_39 rfl rfl ?_
  refine r_aloadN (pc' := 42) ok rfl d2_41 rfl rfl ?_
  refine r_aload (pc' := 44) ok rfl d2_42 rfl rfl ?_
  refine r_iloadN (pc' := 45) ok rfl d2_44 rfl ?_
  refine r_static (pc' := 48) ok rfl d2_45 (hw _ (List.mem_of_getElem? (i := 78) rfl)) (hw _ (List.mem_of_getElem? (i := 79) rfl)) (hw _ (List.mem_of_getElem? (i := 73) rfl)) (hw _ (List.mem_of_getElem? (i := 80) rfl)) (by decide) pd_14 (Con.pay (W := 1) (rmCd l Z a0 hw t kt n cs.length vs _ h1 hn hl (by omega) B1) EW.nil (hw _ (List.mem_of_getElem? (i := 80) rfl)) (hw _ (List.mem_of_getElem? (i := 73) rfl)) (by decide) (by decide)) (fun q => nomatch q) (Or.inl rfl) rfl (argsL := [(.ref t), (.int n)]) (rest := [(.ref a1)]) rfl rfl rfl (Nat.le_of_ble_eq_true rfl) (by decide) (by decide) (cV fun x2 h2 q2 le2 => ?_)
  obtain ⟨rfl, rfl⟩ := q2
  replace E := E.keep K1
  replace Fv := Fv.keep K1 nin0
  replace Fc := Fc.keep K1 nin0
  have ne := Exa.neArv E B1 (hw _ (List.mem_of_getElem? (i := 7) rfl))
  refine r_putfieldN (pc' := 51) ok rfl d2_48 (hw _ (List.mem_of_getElem? (i := 26) rfl)) Via.refl (Or.inr ⟨(hw _ (List.mem_of_getElem? (i := 22) rfl)), rfl, rfl⟩) (hw _ (List.mem_of_getElem? (i := 7) rfl)) Fc E g (ty := .byte) (by decide) rfl (by decide) ?_
  intro h3 W3 F3 E3
  replace Fv := Fv.other W3 (Or.inr (slot_ne (Or.inr (hw _ (List.mem_of_getElem? (i := 21) rfl))) (Or.inr (hw _ (List.mem_of_getElem? (i := 22) rfl))) (by decide) (t := (.array .byte)) (t' := .byte) (by decide) (by decide)))
  refine r_aloadN (pc' := 52) ok rfl d2_51 rfl rfl ?_
  refine r_aload (pc' := 54) ok rfl d2_52 rfl rfl ?_
  refine r_putfield (pc' := 57) (host := "") ok rfl d2_54 (Or.inl (hw _ (List.mem_of_getElem? (i := 25) rfl))) Via.refl (Or.inr ⟨(hw _ (List.mem_of_getElem? (i := 21) rfl)), rfl, rfl⟩) (hw _ (List.mem_of_getElem? (i := 7) rfl)) Fv E3 g (ty := (.array .byte)) (by decide) rfl rfl ?_
  intro h4 W4 F4 E4
  replace F3 := F3.other W4 (Or.inr (slot_ne (Or.inr (hw _ (List.mem_of_getElem? (i := 22) rfl))) (Or.inr (hw _ (List.mem_of_getElem? (i := 21) rfl))) (by decide) (t := .byte) (t' := (.array .byte)) (by decide) (by decide)))
  refine r_return ok d2_57 ?_ (by decide) (by decide)
  exact ⟨(((Keep.refl h0 [a1]).trans K1 (fun y hy => nomatch hy)).wr W3 (Or.inl (List.mem_singleton.mpr rfl))).wr W4 (Or.inl (List.mem_singleton.mpr rfl)), E4, F3, t, kt, vs, F4, hvl, hwb, (B1.other W3 ne.symm).other W4 ne.symm⟩
abbrev R14 : Room := { frames := 5, cells := 2, slots := 9, locals := 120 }
set_option maxRecDepth 65536 in
theorem rmS1u (l : Launch) (Z : State) (a0 : Array Value) (hw : ∀ d ∈ tables_1, d.before a0 Z = true) (a1 a2 : Addr) (kc : ClassId) (n G1 : Int32) (cs : List Int32) (dv u1 u2 : Value) (i0 : Nat) (h0 : Heap) (S1 : Sta Z Z.heap ST "COMPACT_STRINGS" "Z" (.int G1)) (P1 : ¬ G1 = 0) (A1 : Sta Z Z.heap SU "$assertionsDisabled" "Z" (.int 1)) (A2 : Sta Z Z.heap SU "HI_BYTE_SHIFT" "I" (.int 0)) (A3 : Sta Z Z.heap SU "LO_BYTE_SHIFT" "I" (.int 8)) (hn : n = Int32.ofNat cs.length) (hl : cs.length ≤ 3) (hi0 : i0 < cs.length) (hlo : ∀ j, j < i0 → ¬ (255 : Int32) < cs.getD j 0) (hhi : (255 : Int32) < cs.getD i0 0) (hch : ∀ c ∈ cs, ¬ c < 0 ∧ ¬ (65535 : Int32) < c) (V : Arv Z h0 a2 kc .char n (cs.map Value.int) dv)
    (E : Exa Z h0 a1 ST) (Fv : Fld Z h0 a1 ST "value" "[B" u1) (Fc : Fld Z h0 a1 ST "coder" "B" u2) (g : Z.heap.size ≤ a1) :
    Con l Z [] [] false (⟨"java/lang/String", "<init>", "([C)V"⟩ : MethodName) jdk_42_method_3_code 2 none R14 #[.ref a1, .ref a2] h0 (rU fun h => Keep h0 h [a1] ∧ Exa Z h a1 ST ∧ Fld Z h a1 ST "coder" "B" (.int 1) ∧ ∃ t kb vs, Fld Z h a1 ST "value" "[B" (.ref t) ∧ vs.length = 2 * cs.length ∧ WBy vs cs cs.length ∧ Arv Z h t kb .byte (Int32.ofNat (2 * cs.length)) vs (.int 0)) := by
  refine body (ls := #[.val (.ref a1), .val (.ref a2)]) (plainFor_of_name pn_1) (fun m => by first | (simp [entryFrame, mkF, argsToLocals, Value.category]; done) | rfl) fun K ok => ?_
  refine r_aloadN (pc' := 1) ok rfl d3_0 rfl rfl ?_
  refine r_aloadN (pc' := 2) ok rfl d3_1 rfl rfl ?_
  refine r_iconstV (pc' := 3) ok rfl (0 : Int32) d3_2 rfl ?_
  refine r_aloadN (pc' := 4) ok rfl d3_3 rfl rfl ?_
  refine r_arraylength (pc' := 5) ok rfl d3_4 V ?_
  refine r_aconst_null (pc' := 6) ok rfl d3_5 ?_
  refine r_special (pc' := 9) ok rfl d3_6 rfl (hw _ (List.mem_of_getElem? (i := 12) rfl)) (hw _ (List.mem_of_getElem? (i := 13) rfl)) (hw _ (List.mem_of_getElem? (i := 15) rfl)) (by decide) pd_2 (Con.pay (W := 0) (rmS2u l Z a0 hw a1 a2 kc n G1 cs dv u1 u2 i0 h0 S1 P1 A1 A2 A3 hn hl hi0 hlo hhi hch V E Fv Fc g) EW.nil (hw _ (List.mem_of_getElem? (i := 15) rfl)) (hw _ (List.mem_of_getElem? (i := 8) rfl)) (by decide) (by decide)) (fun q => nomatch q) (Or.inl rfl) rfl (argsL := [(.ref a2), .int _, .int _, .null]) (rest := []) rfl rfl rfl (Nat.le_of_ble_eq_true rfl) (by decide) (by decide) (cU fun h1 q1 le1 => ?_)
  refine r_return ok d3_9 ?_ (by decide) (by decide)
  exact q1
/-! a String of at most three chars -/
def StrA (Z : State) (h : Heap) (x : Addr) (cs : List Int32) : Prop := Exa Z h x ST ∧ ∃ (t : Addr) (kb : ClassId) (cd N : Int32) (vs : List Value), Fld Z h x ST "value" "[B" (.ref t) ∧ Fld Z h x ST "coder" "B" (.int cd) ∧ Arv Z h t kb .byte N vs (.int 0) ∧ ((cd = 0 ∧ N = Int32.ofNat cs.length ∧ vs = (cs.map fun c => c.toInt8.toInt32).map Value.int ∧ ∀ c ∈ cs, ¬ (255 : Int32) < c) ∨ (cd = 1 ∧ N = Int32.ofNat (2 * cs.length) ∧ vs.length = 2 * cs.length ∧ WBy vs cs cs.length))
def HasC (cs : List Int32) (c : Int32) : Prop := ∃ j, j < cs.length ∧ cs.getD j 0 = c
theorem d15_0 : decode jdk_42_method_154_code 0 = .ok (.getstatic 38, 3) := by decide +kernel
theorem d15_3 : decode jdk_42_method_154_code 3 = .ok (.ifCond .eq 14, 3) := by decide +kernel
theorem d15_6 : decode jdk_42_method_154_code 6 = .ok (.aload_n 0, 1) := by decide +kernel
theorem d15_7 : decode jdk_42_method_154_code 7 = .ok (.getfield 15, 3) := by decide +kernel
theorem d15_10 : decode jdk_42_method_154_code 10 = .ok (.ifCond .ne 7, 3) := by decide +kernel
theorem d15_13 : decode jdk_42_method_154_code 13 = .ok (.iconst 1, 1) := by decide +kernel
theorem d15_14 : decode jdk_42_method_154_code 14 = .ok (.goto 4, 3) := by decide +kernel
theorem d15_17 : decode jdk_42_method_154_code 17 = .ok (.iconst 0, 1) := by decide +kernel
theorem d15_18 : decode jdk_42_method_154_code 18 = .ok (.ireturn, 1) := by decide +kernel
set_option maxRecDepth 65536 in
theorem rmL1 (l : Launch) (Z : State) (a0 : Array Value) (hw : ∀ d ∈ tables_1, d.before a0 Z = true) (x : Addr) (cd G1 : Int32) (h0 : Heap) (S1 : Sta Z Z.heap ST "COMPACT_STRINGS" "Z" (.int G1)) (P1 : ¬ G1 = 0) (F : Fld Z h0 x ST "coder" "B" (.int cd)) (hcd : cd = 0 ∨ cd = 1) :
    Con l Z [] [] false (⟨"java/lang/String", "isLatin1", "()Z"⟩ : MethodName) jdk_42_method_154_code 1 (some .boolean) RZ #[.ref x] h0 (rV fun v h => v = .int (1 - cd) ∧ h0 = h) := by
  refine body (ls := #[.val (.ref x)]) (plainFor_of_name pn_1) (fun m => by first | (simp [entryFrame, mkF, argsToLocals, Value.category]; done) | rfl) fun K ok => ?_
  refine r_getstatic (pc' := 3) ok rfl d15_0 (hw _ (List.mem_of_getElem? (i := 46) rfl)) Via.refl S1 ?_
  refine r_if_eq (pc' := 6) (pcY := 17) ok rfl d15_3 (by decide) (by decide) ?_ ?_
  · intro hc
    exact absurd hc P1
  intro _
  refine r_aloadN (pc' := 7) ok rfl d15_6 rfl rfl ?_
  refine r_getfield (pc' := 10) (host := "") ok rfl d15_7 (Or.inl (hw _ (List.mem_of_getElem? (i := 26) rfl))) Via.refl F ?_
  refine r_if_ne (pc' := 13) (pcY := 17) ok rfl d15_10 (by decide) (by decide) ?_ ?_
  · intro hc
    obtain rfl := hcd.resolve_left hc
    refine r_iconstV (pc' := 18) ok rfl (0 : Int32) d15_17 rfl ?_
    refine r_ireturn ok d15_18 rfl (by simp) (by decide) (by decide) ?_
    exact ⟨rfl, rfl⟩
  intro hc
  obtain rfl : cd = 0 := hc
  refine r_iconstV (pc' := 14) ok rfl (1 : Int32) d15_13 rfl ?_
  refine r_goto (pc' := 18) ok d15_14 (by decide) (by decide) ?_
  refine r_ireturn ok d15_18 rfl (by simp) (by decide) (by decide) ?_
  exact ⟨rfl, rfl⟩
theorem d16_0 : decode jdk_42_method_152_code 0 = .ok (.getstatic 38, 3) := by decide +kernel
theorem d16_3 : decode jdk_42_method_152_code 3 = .ok (.ifCond .eq 10, 3) := by decide +kernel
theorem d16_6 : decode jdk_42_method_152_code 6 = .ok (.aload_n 0, 1) := by decide +kernel
theorem d16_7 : decode jdk_42_method_152_code 7 = .ok (.getfield 15, 3) := by decide +kernel
theorem d16_10 : decode jdk_42_method_152_code 10 = .ok (.goto 4, 3) := by decide +kernel
theorem d16_13 : decode jdk_42_method_152_code 13 = .ok (.iconst 1, 1) := by decide +kernel
theorem d16_14 : decode jdk_42_method_152_code 14 = .ok (.ireturn, 1) := by decide +kernel
set_option maxRecDepth 65536 in
theorem rmCo (l : Launch) (Z : State) (a0 : Array Value) (hw : ∀ d ∈ tables_1, d.before a0 Z = true) (x : Addr) (cd G1 : Int32) (h0 : Heap) (S1 : Sta Z Z.heap ST "COMPACT_STRINGS" "Z" (.int G1)) (P1 : ¬ G1 = 0) (F : Fld Z h0 x ST "coder" "B" (.int cd)) (hcd : cd = 0 ∨ cd = 1) :
    Con l Z [] [] false (⟨"java/lang/String", "coder", "()B"⟩ : MethodName) jdk_42_method_152_code 1 (some .byte) RZ #[.ref x] h0 (rV fun v h => v = .int cd ∧ h0 = h) := by
  refine body (ls := #[.val (.ref x)]) (plainFor_of_name pn_1) (fun m => by first | (simp [entryFrame, mkF, argsToLocals, Value.category]; done) | rfl) fun K ok => ?_
  refine r_getstatic (pc' := 3) ok rfl d16_0 (hw _ (List.mem_of_getElem? (i := 46) rfl)) Via.refl S1 ?_
  refine r_if_eq (pc' := 6) (pcY := 13) ok rfl d16_3 (by decide) (by decide) ?_ ?_
  · intro hc
    exact absurd hc P1
  intro _
  refine r_aloadN (pc' := 7) ok rfl d16_6 rfl rfl ?_
  refine r_getfield (pc' := 10) (host := "") ok rfl d16_7 (Or.inl (hw _ (List.mem_of_getElem? (i := 26) rfl))) Via.refl F ?_
  refine r_goto (pc' := 14) ok d16_10 (by decide) (by decide) ?_
  refine r_ireturn ok d16_14 (by rcases hcd with rfl | rfl <;> rfl) (by simp) (by decide) (by decide) ?_
  exact ⟨rfl, rfl⟩
theorem d17_0 : decode jdk_42_method_54_code 0 = .ok (.aload_n 0, 1) := by decide +kernel
theorem d17_1 : decode jdk_42_method_54_code 1 = .ok (.getfield 9, 3) := by decide +kernel
theorem d17_4 : decode jdk_42_method_54_code 4 = .ok (.arraylength, 1) := by decide +kernel
theorem d17_5 : decode jdk_42_method_54_code 5 = .ok (.aload_n 0, 1) := by decide +kernel
theorem d17_6 : decode jdk_42_method_54_code 6 = .ok (.invokevirtual 335, 3) := by decide +kernel
theorem d17_9 : decode jdk_42_method_54_code 9 = .ok (.ishr, 1) := by decide +kernel
theorem d17_10 : decode jdk_42_method_54_code 10 = .ok (.ireturn, 1) := by decide +kernel
abbrev R17 : Room := { frames := 1, cells := 0, slots := 0, locals := 13 }
set_option maxRecDepth 65536 in
theorem rmLen (l : Launch) (Z : State) (a0 : Array Value) (hw : ∀ d ∈ tables_1, d.before a0 Z = true) (x : Addr) (cs : List Int32) (G1 : Int32) (h0 : Heap) (S1 : Sta Z Z.heap ST "COMPACT_STRINGS" "Z" (.int G1)) (P1 : ¬ G1 = 0) (F : StrA Z h0 x cs) (hl : cs.length ≤ 3) :
    Con l Z [] [] false (⟨"java/lang/String", "length", "()I"⟩ : MethodName) jdk_42_method_54_code 1 (some .int) R17 #[.ref x] h0 (rV fun v h => v = .int (Int32.ofNat cs.length) ∧ h0 = h) := by
  obtain ⟨E, t, kb, cd, N, vs, Fv, Fc, B, hq⟩ := F
  have hcd : cd = 0 ∨ cd = 1 := hq.imp (·.1) (·.1)
  have e : N >>> (cd &&& 31) = Int32.ofNat cs.length := by
    obtain q | q | q | q : cs.length = 0 ∨ cs.length = 1 ∨ cs.length = 2 ∨ cs.length = 3 := by omega
    all_goals
      rcases hq with ⟨rfl, rfl, -⟩ | ⟨rfl, rfl, -⟩ <;> rw [q] <;> decide
  refine body (ls := #[.val (.ref x)]) (plainFor_of_name pn_1) (fun m => by first | (simp [entryFrame, mkF, argsToLocals, Value.category]; done) | rfl) fun K ok => ?_
  refine r_aloadN (pc' := 1) ok rfl d17_0 rfl rfl ?_
  refine r_getfield (pc' := 4) (host := "") ok rfl d17_1 (Or.inl (hw _ (List.mem_of_getElem? (i := 25) rfl))) Via.refl Fv ?_
  refine r_arraylength (pc' := 5) ok rfl d17_4 B ?_
  refine r_aloadN (pc' := 6) ok rfl d17_5 rfl rfl ?_
  refine r_virtual (pc' := 9) ok rfl d17_6 (hw _ (List.mem_of_getElem? (i := 52) rfl)) (hw _ (List.mem_of_getElem? (i := 53) rfl)) (hw _ (List.mem_of_getElem? (i := 55) rfl)) (hw _ (List.mem_of_getElem? (i := 54) rfl)) (nf_sel (C := "java/lang/String") (z := (⟨"java/lang/String", "coder", "()B"⟩ : MethodName)) (hw _ (List.mem_of_getElem? (i := 55) rfl))) E (by decide) pd_9 (Con.pay (W := 1) (rmCo l Z a0 hw x cd G1 h0 S1 P1 Fc hcd) EW.nil (hw _ (List.mem_of_getElem? (i := 56) rfl)) (hw _ (List.mem_of_getElem? (i := 8) rfl)) (by decide) (by decide)) (fun q => nomatch q) (Or.inl rfl) rfl (argsL := []) (rest := [.int _]) rfl rfl rfl (Nat.le_of_ble_eq_true rfl) (by decide) (by decide) (cV fun x1 h1 q1 le1 => ?_)
  obtain ⟨rfl, rfl⟩ := q1
  refine r_ishr (pc' := 10) ok rfl d17_9 ?_
  rw [e]
  refine r_ireturn ok d17_10 rfl (by simp) (by decide) (by decide) ?_
  exact ⟨rfl, rfl⟩
theorem d18_0 : decode jdk_29_method_65_code 0 = .ok (.iload_n 0, 1) := by decide +kernel
theorem d18_1 : decode jdk_29_method_65_code 1 = .ok (.iload_n 1, 1) := by decide +kernel
theorem d18_2 : decode jdk_29_method_65_code 2 = .ok (.if_icmp .lt 7, 3) := by decide +kernel
theorem d18_5 : decode jdk_29_method_65_code 5 = .ok (.iload_n 0, 1) := by decide +kernel
theorem d18_6 : decode jdk_29_method_65_code 6 = .ok (.goto 4, 3) := by decide +kernel
theorem d18_9 : decode jdk_29_method_65_code 9 = .ok (.iload_n 1, 1) := by decide +kernel
theorem d18_10 : decode jdk_29_method_65_code 10 = .ok (.ireturn, 1) := by decide +kernel
set_option maxRecDepth 65536 in
theorem rmMax (l : Launch) (Z : State) (a0 : Array Value) (hw : ∀ d ∈ tables_1, d.before a0 Z = true) (p q : Int32) (h0 : Heap) : Con l Z [] [] false (⟨"java/lang/Math", "max", "(II)I"⟩ : MethodName) jdk_29_method_65_code 2 (some .int) RZ #[.int p, .int q] h0 (rV fun v h => v = .int (if p < q then q else p) ∧ h0 = h) := by
  refine body (ls := #[.val (.int p), .val (.int q)]) (by decide +kernel) (fun m => by first | (simp [entryFrame, mkF, argsToLocals, Value.category]; done) | rfl) fun K ok => ?_
  refine r_iloadN (pc' := 1) ok rfl d18_0 rfl ?_
  refine r_iloadN (pc' := 2) ok rfl d18_1 rfl ?_
  refine r_icmp_lt (pc' := 5) (pcY := 9) ok rfl d18_2 (by decide) (by decide) ?_ ?_
  · intro hc
    refine r_iloadN (pc' := 10) ok rfl d18_9 rfl ?_
    refine r_ireturn ok d18_10 rfl (by simp) (by decide) (by decide) ?_
    exact ⟨by rw [if_pos hc], rfl⟩
  intro hc
  refine r_iloadN (pc' := 6) ok rfl d18_5 rfl ?_
  refine r_goto (pc' := 10) ok d18_6 (by decide) (by decide) ?_
  refine r_ireturn ok d18_10 rfl (by simp) (by decide) (by decide) ?_
  exact ⟨by rw [if_neg hc], rfl⟩
theorem d19_0 : decode jdk_29_method_69_code 0 = .ok (.iload_n 0, 1) := by decide +kernel
theorem d19_1 : decode jdk_29_method_69_code 1 = .ok (.iload_n 1, 1) := by decide +kernel
theorem d19_2 : decode jdk_29_method_69_code 2 = .ok (.if_icmp .gt 7, 3) := by decide +kernel
theorem d19_5 : decode jdk_29_method_69_code 5 = .ok (.iload_n 0, 1) := by decide +kernel
theorem d19_6 : decode jdk_29_method_69_code 6 = .ok (.goto 4, 3) := by decide +kernel
theorem d19_9 : decode jdk_29_method_69_code 9 = .ok (.iload_n 1, 1) := by decide +kernel
theorem d19_10 : decode jdk_29_method_69_code 10 = .ok (.ireturn, 1) := by decide +kernel
set_option maxRecDepth 65536 in
theorem rmMin (l : Launch) (Z : State) (a0 : Array Value) (hw : ∀ d ∈ tables_1, d.before a0 Z = true) (p q : Int32) (h0 : Heap) : Con l Z [] [] false (⟨"java/lang/Math", "min", "(II)I"⟩ : MethodName) jdk_29_method_69_code 2 (some .int) RZ #[.int p, .int q] h0 (rV fun v h => v = .int (if q < p then q else p) ∧ h0 = h) := by
  refine body (ls := #[.val (.int p), .val (.int q)]) (by decide +kernel) (fun m => by first | (simp [entryFrame, mkF, argsToLocals, Value.category]; done) | rfl) fun K ok => ?_
  refine r_iloadN (pc' := 1) ok rfl d19_0 rfl ?_
  refine r_iloadN (pc' := 2) ok rfl d19_1 rfl ?_
  refine r_icmp_gt (pc' := 5) (pcY := 9) ok rfl d19_2 (by decide) (by decide) ?_ ?_
  · intro hc
    refine r_iloadN (pc' := 10) ok rfl d19_9 rfl ?_
    refine r_ireturn ok d19_10 rfl (by simp) (by decide) (by decide) ?_
    exact ⟨by rw [if_pos hc], rfl⟩
  intro hc
  refine r_iloadN (pc' := 6) ok rfl d19_5 rfl ?_
  refine r_goto (pc' := 10) ok d19_6 (by decide) (by decide) ?_
  refine r_ireturn ok d19_10 rfl (by simp) (by decide) (by decide) ?_
  exact ⟨by rw [if_neg hc], rfl⟩
theorem d20_0 : decode jdk_43_method_4_code 0 = .ok (.iload_n 0, 1) := by decide +kernel
theorem d20_1 : decode jdk_43_method_4_code 1 = .ok (.ifCond .lt 14, 3) := by decide +kernel
theorem d20_4 : decode jdk_43_method_4_code 4 = .ok (.iload_n 0, 1) := by decide +kernel
theorem d20_5 : decode jdk_43_method_4_code 5 = .ok (.sipush 255, 3) := by decide +kernel
theorem d20_8 : decode jdk_43_method_4_code 8 = .ok (.if_icmp .gt 7, 3) := by decide +kernel
theorem d20_11 : decode jdk_43_method_4_code 11 = .ok (.iconst 1, 1) := by decide +kernel
theorem d20_12 : decode jdk_43_method_4_code 12 = .ok (.goto 4, 3) := by decide +kernel
theorem d20_15 : decode jdk_43_method_4_code 15 = .ok (.iconst 0, 1) := by decide +kernel
theorem d20_16 : decode jdk_43_method_4_code 16 = .ok (.ireturn, 1) := by decide +kernel
set_option maxRecDepth 65536 in
theorem rmCan (l : Launch) (Z : State) (a0 : Array Value) (hw : ∀ d ∈ tables_1, d.before a0 Z = true) (c : Int32) (h0 : Heap) (h1 : ¬ c < 0) (h2 : ¬ (255 : Int32) < c) : Con l Z [] [] false (⟨"java/lang/StringLatin1", "canEncode", "(I)Z"⟩ : MethodName) jdk_43_method_4_code 1 (some .boolean) RZ #[.int c] h0 (rV fun v h => v = .int 1 ∧ h0 = h) := by
  refine body (ls := #[.val (.int c)]) (plainFor_of_name pn_3) (fun m => by first | (simp [entryFrame, mkF, argsToLocals, Value.category]; done) | rfl) fun K ok => ?_
  refine r_iloadN (pc' := 1) ok rfl d20_0 rfl ?_
  refine r_if_lt (pc' := 4) (pcY := 15) ok rfl d20_1 (by decide) (by decide) ?_ ?_
  · intro hc
    exact absurd hc h1
  intro _
  refine r_iloadN (pc' := 5) ok rfl d20_4 rfl ?_
  refine r_sipushV (pc' := 8) ok rfl (255 : Int32) d20_5 rfl ?_
  refine r_icmp_gt (pc' := 11) (pcY := 15) ok rfl d20_8 (by decide) (by decide) ?_ ?_
  · intro hc
    exact absurd hc h2
  intro _
  refine r_iconstV (pc' := 12) ok rfl (1 : Int32) d20_11 rfl ?_
  refine r_goto (pc' := 16) ok d20_12 (by decide) (by decide) ?_
  refine r_ireturn ok d20_16 rfl (by simp) (by decide) (by decide) ?_
  exact ⟨rfl, rfl⟩
theorem d21_0 : decode jdk_43_method_23_code 0 = .ok (.iload_n 1, 1) := by decide +kernel
theorem d21_1 : decode jdk_43_method_23_code 1 = .ok (.i2b, 1) := by decide +kernel
theorem d21_2 : decode jdk_43_method_23_code 2 = .ok (.istore 4, 2) := by decide +kernel
theorem d21_4 : decode jdk_43_method_23_code 4 = .ok (.iload_n 2, 1) := by decide +kernel
theorem d21_5 : decode jdk_43_method_23_code 5 = .ok (.istore 5, 2) := by decide +kernel
theorem d21_7 : decode jdk_43_method_23_code 7 = .ok (.iload 5, 2) := by decide +kernel
theorem d21_9 : decode jdk_43_method_23_code 9 = .ok (.iload_n 3, 1) := by decide +kernel
theorem d21_10 : decode jdk_43_method_23_code 10 = .ok (.if_icmp .ge 21, 3) := by decide +kernel
theorem d21_13 : decode jdk_43_method_23_code 13 = .ok (.aload_n 0, 1) := by decide +kernel
theorem d21_14 : decode jdk_43_method_23_code 14 = .ok (.iload 5, 2) := by decide +kernel
theorem d21_16 : decode jdk_43_method_23_code 16 = .ok (.baload, 1) := by decide +kernel
theorem d21_17 : decode jdk_43_method_23_code 17 = .ok (.iload 4, 2) := by decide +kernel
theorem d21_19 : decode jdk_43_method_23_code 19 = .ok (.if_icmp .ne 6, 3) := by decide +kernel
theorem d21_22 : decode jdk_43_method_23_code 22 = .ok (.iload 5, 2) := by decide +kernel
theorem d21_24 : decode jdk_43_method_23_code 24 = .ok (.ireturn, 1) := by decide +kernel
theorem d21_25 : decode jdk_43_method_23_code 25 = .ok (.iinc 5 1, 3) := by decide +kernel
theorem d21_28 : decode jdk_43_method_23_code 28 = .ok (.goto (-21), 3) := by decide +kernel
theorem d21_31 : decode jdk_43_method_23_code 31 = .ok (.iconst (-1), 1) := by decide +kernel
theorem d21_32 : decode jdk_43_method_23_code 32 = .ok (.ireturn, 1) := by decide +kernel
set_option maxRecDepth 65536 in
theorem rmIx (l : Launch) (Z : State) (a0 : Array Value) (hw : ∀ d ∈ tables_1, d.before a0 Z = true) (t : Addr) (kb : ClassId) (c N : Int32) (cs : List Int32) (h0 : Heap) (h1 : ¬ c < 0) (h2 : ¬ (255 : Int32) < c) (hN : N = Int32.ofNat cs.length) (hl : cs.length ≤ 3) (hlo : ∀ x ∈ cs, ¬ x < 0 ∧ ¬ (255 : Int32) < x) (B : Arv Z h0 t kb .byte N ((cs.map fun c => c.toInt8.toInt32).map Value.int) (.int 0)) :
    Con l Z [] [] false (⟨"java/lang/StringLatin1", "indexOfChar", "([BIII)I"⟩ : MethodName) jdk_43_method_23_code 6 (some .int) RZ #[.ref t, .int c, .int 0, .int N] h0 (rV fun v h => (∃ r, v = .int r ∧ (¬ r < 0 ↔ HasC cs c)) ∧ h0 = h) := by
  refine body (ls := #[.val (.ref t), .val (.int c), .val (.int 0), .val (.int N), .unset, .unset]) (plainFor_of_name pn_3) (fun m => by first | (simp [entryFrame, mkF, argsToLocals, Value.category]; done) | rfl) fun K ok => ?_
  refine r_iloadN (pc' := 1) ok rfl d21_0 rfl ?_
  refine r_i2b (pc' := 2) ok rfl d21_1 ?_
  refine r_istore (pc' := 4) (ls' := fun z => #[.val (.ref t), .val (.int c), .val (.int 0), .val (.int N), .val (.int z), .unset]) ok rfl d21_2 (fun _ => rfl) ?_
  intro v2 ev2
  refine r_iloadN (pc' := 5) ok rfl d21_4 rfl ?_
  refine r_istore (pc' := 7) (ls' := fun z => #[.val (.ref t), .val (.int c), .val (.int 0), .val (.int N), .val (.int v2), .val (.int z)]) ok rfl d21_5 (fun _ => rfl) ?_
  intro v5 ev5
  rw [show v5 = Int32.ofNat 0 from ev5]
  have loop : ∀ (k i : Nat), i + k = cs.length → (∀ j, j < i → cs.getD j 0 ≠ c) → Run Z K Cln h0 0 0 7 #[.val (.ref t), .val (.int c), .val (.int 0), .val (.int N), .val (.int v2), .val (.int (Int32.ofNat i))] [] := by
    intro k
    induction k with
    | zero =>
      intro i hik hn
      obtain rfl : i = cs.length := hik
      refine r_iload (pc' := 9) ok rfl d21_7 rfl ?_
      refine r_iloadN (pc' := 10) ok rfl d21_9 rfl ?_
      refine r_icmp_ge (pc' := 13) (pcY := 31) ok rfl d21_10 (by decide) (by decide) ?_ ?_
      rotate_left
      · intro hc
        rw [hN] at hc
        exact absurd hc Int32.lt_irrefl
      intro _
      refine r_iconstV (pc' := 32) ok rfl (-1 : Int32) d21_31 rfl ?_
      refine r_ireturn ok d21_32 rfl (by simp) (by decide) (by decide) ?_
      exact ⟨⟨_, rfl, fun q => absurd (by decide) q, fun ⟨j, hj, e⟩ => absurd e (hn j hj)⟩, rfl⟩
    | succ k ih =>
      intro i hik hn
      have hi : i < cs.length := by omega
      have hm : cs.getD i 0 ∈ cs := by simp [List.getD_eq_getElem?_getD, hi]
      refine r_iload (pc' := 9) ok rfl d21_7 rfl ?_
      refine r_iloadN (pc' := 10) ok rfl d21_9 rfl ?_
      refine r_icmp_ge (pc' := 13) (pcY := 31) ok rfl d21_10 (by decide) (by decide) ?_ ?_
      · intro hc
        rw [hN] at hc
        exact absurd ((ofN_lt (by omega) (by omega)).mpr hi) hc
      intro _
      refine r_aloadN (pc' := 14) ok rfl d21_13 rfl rfl ?_
      refine r_iload (pc' := 16) ok rfl d21_14 rfl ?_
      refine r_baload (pc' := 17) ok rfl d21_16 B ⟨ofN_nn (by omega), by rw [hN]; exact (ofN_lt (by omega) (by omega)).mpr hi⟩ (Eq.trans (by rw [ofN_nat (by omega)]) (own_getD (by rw [List.length_map]; exact hi))) ?_
      rw [show (cs.map fun c => c.toInt8.toInt32).getD i 0 = StrChars.lo8 (cs.getD i 0) by simp [List.getD_eq_getElem?_getD, hi, StrChars.lo8]]
      refine r_iload (pc' := 19) ok rfl d21_17 rfl ?_
      refine r_icmp_ne (pc' := 22) (pcY := 25) ok rfl d21_19 (by decide) (by decide) ?_ ?_
      rotate_left
      · intro hc
        refine r_iload (pc' := 24) ok rfl d21_22 rfl ?_
        have e : cs.getD i 0 = c := StrChars.lo8_inj (hlo _ hm).1 (hlo _ hm).2 h1 h2 (hc.trans ev2)
        refine r_ireturn ok d21_24 rfl (by simp) (by decide) (by decide) ?_
        exact ⟨⟨_, rfl, fun _ => ⟨i, hi, e⟩, fun _ => ofN_nn (by omega)⟩, rfl⟩
      intro hc
      refine r_iinc (pc' := 28) (ls' := fun z => #[.val (.ref t), .val (.int c), .val (.int 0), .val (.int N), .val (.int v2), .val (.int z)]) ok rfl d21_25 rfl (fun _ => rfl) ?_
      intro v25 ev25
      refine r_goto (pc' := 7) ok d21_28 (by decide) (by decide) ?_
      rw [show v25 = Int32.ofNat (i + 1) by rw [ev25]; exact own_inc (by omega)]
      refine ih (i + 1) (by omega) fun j hj => ?_
      by_cases e : j = i
      · subst e
        intro q
        exact hc (by rw [q, ev2]; rfl)
      · exact hn j (by omega)
  exact loop cs.length 0 (by omega) (fun j hj => absurd hj (Nat.not_lt_zero _))
theorem d22_0 : decode jdk_43_method_22_code 0 = .ok (.iload_n 1, 1) := by decide +kernel
theorem d22_1 : decode jdk_43_method_22_code 1 = .ok (.invokestatic 88, 3) := by decide +kernel
theorem d22_4 : decode jdk_43_method_22_code 4 = .ok (.ifCond .ne 5, 3) := by decide +kernel
theorem d22_7 : decode jdk_43_method_22_code 7 = .ok (.iconst (-1), 1) := by decide +kernel
theorem d22_8 : decode jdk_43_method_22_code 8 = .ok (.ireturn, 1) := by decide +kernel
theorem d22_9 : decode jdk_43_method_22_code 9 = .ok (.iload_n 2, 1) := by decide +kernel
theorem d22_10 : decode jdk_43_method_22_code 10 = .ok (.iconst 0, 1) := by decide +kernel
theorem d22_11 : decode jdk_43_method_22_code 11 = .ok (.invokestatic 92, 3) := by decide +kernel
theorem d22_14 : decode jdk_43_method_22_code 14 = .ok (.istore_n 2, 1) := by decide +kernel
theorem d22_15 : decode jdk_43_method_22_code 15 = .ok (.iload_n 3, 1) := by decide +kernel
theorem d22_16 : decode jdk_43_method_22_code 16 = .ok (.aload_n 0, 1) := by decide +kernel
theorem d22_17 : decode jdk_43_method_22_code 17 = .ok (.arraylength, 1) := by decide +kernel
theorem d22_18 : decode jdk_43_method_22_code 18 = .ok (.invokestatic 38, 3) := by decide +kernel
theorem d22_21 : decode jdk_43_method_22_code 21 = .ok (.istore_n 3, 1) := by decide +kernel
theorem d22_22 : decode jdk_43_method_22_code 22 = .ok (.iload_n 2, 1) := by decide +kernel
theorem d22_23 : decode jdk_43_method_22_code 23 = .ok (.iload_n 3, 1) := by decide +kernel
theorem d22_24 : decode jdk_43_method_22_code 24 = .ok (.if_icmp .lt 5, 3) := by decide +kernel
theorem d22_27 : decode jdk_43_method_22_code 27 = .ok (.iconst (-1), 1) := by decide +kernel
theorem d22_28 : decode jdk_43_method_22_code 28 = .ok (.ireturn, 1) := by decide +kernel
theorem d22_29 : decode jdk_43_method_22_code 29 = .ok (.aload_n 0, 1) := by decide +kernel
theorem d22_30 : decode jdk_43_method_22_code 30 = .ok (.iload_n 1, 1) := by decide +kernel
theorem d22_31 : decode jdk_43_method_22_code 31 = .ok (.iload_n 2, 1) := by decide +kernel
theorem d22_32 : decode jdk_43_method_22_code 32 = .ok (.iload_n 3, 1) := by decide +kernel
theorem d22_33 : decode jdk_43_method_22_code 33 = .ok (.invokestatic 95, 3) := by decide +kernel
theorem d22_36 : decode jdk_43_method_22_code 36 = .ok (.ireturn, 1) := by decide +kernel
abbrev R22 : Room := { frames := 1, cells := 0, slots := 0, locals := 20 }
set_option maxRecDepth 65536 in
theorem rmIxL (l : Launch) (Z : State) (a0 : Array Value) (hw : ∀ d ∈ tables_1, d.before a0 Z = true) (t : Addr) (kb : ClassId) (c N : Int32) (cs : List Int32) (h0 : Heap) (h1 : ¬ c < 0) (h2 : ¬ (255 : Int32) < c) (hN : N = Int32.ofNat cs.length) (hl : cs.length ≤ 3) (hlo : ∀ x ∈ cs, ¬ x < 0 ∧ ¬ (255 : Int32) < x) (B : Arv Z h0 t kb .byte N ((cs.map fun c => c.toInt8.toInt32).map Value.int) (.int 0)) :
    Con l Z [] [] false (⟨"java/lang/StringLatin1", "indexOf", "([BIII)I"⟩ : MethodName) jdk_43_method_22_code 4 (some .int) R22 #[.ref t, .int c, .int 0, .int N] h0 (rV fun v h => (∃ r, v = .int r ∧ (¬ r < 0 ↔ HasC cs c)) ∧ h0 = h) := by
  refine body (ls := #[.val (.ref t), .val (.int c), .val (.int 0), .val (.int N)]) (plainFor_of_name pn_3) (fun m => by first | (simp [entryFrame, mkF, argsToLocals, Value.category]; done) | rfl) fun K ok => ?_
  refine r_iloadN (pc' := 1) ok rfl d22_0 rfl ?_
  refine r_static (pc' := 4) ok rfl d22_1 (hw _ (List.mem_of_getElem? (i := 61) rfl)) (hw _ (List.mem_of_getElem? (i := 62) rfl)) (hw _ (List.mem_of_getElem? (i := 59) rfl)) (hw _ (List.mem_of_getElem? (i := 63) rfl)) (by decide) pd_11 (Con.pay (W := 0) (rmCan l Z a0 hw c h0 h1 h2) EW.nil (hw _ (List.mem_of_getElem? (i := 63) rfl)) (hw _ (List.mem_of_getElem? (i := 59) rfl)) (by decide) (by decide)) (fun q => nomatch q) (Or.inl rfl) rfl (argsL := [(.int c)]) (rest := []) rfl rfl rfl (Nat.le_of_ble_eq_true rfl) (by decide) (by decide) (cV fun x1 h1 q1 le1 => ?_)
  obtain ⟨rfl, rfl⟩ := q1
  refine r_if_ne (pc' := 7) (pcY := 9) ok rfl d22_4 (by decide) (by decide) ?_ ?_
  rotate_left
  · intro hc
    exact absurd hc (by decide)
  intro _
  refine r_iloadN (pc' := 10) ok rfl d22_9 rfl ?_
  refine r_iconstV (pc' := 11) ok rfl (0 : Int32) d22_10 rfl ?_
  refine r_static (pc' := 14) ok rfl d22_11 (hw _ (List.mem_of_getElem? (i := 64) rfl)) (hw _ (List.mem_of_getElem? (i := 65) rfl)) (hw _ (List.mem_of_getElem? (i := 66) rfl)) (hw _ (List.mem_of_getElem? (i := 67) rfl)) (by decide) pd_6 (Con.pay (W := 0) (rmMax l Z a0 hw 0 0 h0) EW.nil (hw _ (List.mem_of_getElem? (i := 67) rfl)) (hw _ (List.mem_of_getElem? (i := 66) rfl)) (by decide) (by decide)) (fun q => nomatch q) (Or.inl rfl) rfl (argsL := [(.int 0), .int _]) (rest := []) rfl rfl rfl (Nat.le_of_ble_eq_true rfl) (by decide) (by decide) (cV fun x2 h2 q2 le2 => ?_)
  obtain ⟨rfl, rfl⟩ := q2
  rw [if_neg Int32.lt_irrefl]
  refine r_istoreN (pc' := 15) (ls' := fun z => #[.val (.ref t), .val (.int c), .val (.int z), .val (.int N)]) ok rfl d22_14 (fun _ => rfl) ?_
  intro v14 ev14
  refine r_iloadN (pc' := 16) ok rfl d22_15 rfl ?_
  refine r_aloadN (pc' := 17) ok rfl d22_16 rfl rfl ?_
  refine r_arraylength (pc' := 18) ok rfl d22_17 B ?_
  refine r_static (pc' := 21) ok rfl d22_18 (hw _ (List.mem_of_getElem? (i := 68) rfl)) (hw _ (List.mem_of_getElem? (i := 69) rfl)) (hw _ (List.mem_of_getElem? (i := 66) rfl)) (hw _ (List.mem_of_getElem? (i := 70) rfl)) (by decide) pd_6 (Con.pay (W := 0) (rmMin l Z a0 hw N N h0) EW.nil (hw _ (List.mem_of_getElem? (i := 70) rfl)) (hw _ (List.mem_of_getElem? (i := 66) rfl)) (by decide) (by decide)) (fun q => nomatch q) (Or.inl rfl) rfl (argsL := [(.int N), .int _]) (rest := []) rfl rfl rfl (Nat.le_of_ble_eq_true rfl) (by decide) (by decide) (cV fun x3 h3 q3 le3 => ?_)
  obtain ⟨rfl, rfl⟩ := q3
  rw [if_neg Int32.lt_irrefl]
  refine r_istoreN (pc' := 22) (ls' := fun z => #[.val (.ref t), .val (.int c), .val (.int v14), .val (.int z)]) ok rfl d22_21 (fun _ => rfl) ?_
  intro v21 ev21
  refine r_iloadN (pc' := 23) ok rfl d22_22 rfl ?_
  refine r_iloadN (pc' := 24) ok rfl d22_23 rfl ?_
  refine r_icmp_lt (pc' := 27) (pcY := 29) ok rfl d22_24 (by decide) (by decide) ?_ ?_
  · intro hc
    refine r_aloadN (pc' := 30) ok rfl d22_29 rfl rfl ?_
    refine r_iloadN (pc' := 31) ok rfl d22_30 rfl ?_
    refine r_iloadN (pc' := 32) ok rfl d22_31 rfl ?_
    refine r_iloadN (pc' := 33) ok rfl d22_32 rfl ?_
    rw [ev14, ev21]
    refine r_static (pc' := 36) ok rfl d22_33 (hw _ (List.mem_of_getElem? (i := 84) rfl)) (hw _ (List.mem_of_getElem? (i := 85) rfl)) (hw _ (List.mem_of_getElem? (i := 59) rfl)) (hw _ (List.mem_of_getElem? (i := 86) rfl)) (by decide) pd_10 (Con.pay (W := 0) (rmIx l Z a0 hw t kb c N cs h0 h1 h2 hN hl hlo B) EW.nil (hw _ (List.mem_of_getElem? (i := 86) rfl)) (hw _ (List.mem_of_getElem? (i := 59) rfl)) (by decide) (by decide)) (fun q => nomatch q) (Or.inl rfl) rfl (argsL := [(.ref t), (.int c), (.int 0), (.int N)]) (rest := []) rfl rfl rfl (Nat.le_of_ble_eq_true rfl) (by decide) (by decide) (cV fun x4 h4 q4 le4 => ?_)
    obtain ⟨⟨r, rfl, hr⟩, rfl⟩ := q4
    refine r_ireturn ok d22_36 rfl (by simp) (by decide) (by decide) ?_
    exact ⟨⟨r, rfl, hr⟩, rfl⟩
  intro hc
  refine r_iconstV (pc' := 28) ok rfl (-1 : Int32) d22_27 rfl ?_
  rw [ev14, ev21, hN] at hc
  have e0 : cs.length = 0 := by
    rcases Nat.eq_zero_or_pos cs.length with q | q
    · exact q
    · exact absurd ((ofN_lt (i := 0) (by omega) (by omega)).mpr q) hc
  refine r_ireturn ok d22_28 rfl (by simp) (by decide) (by decide) ?_
  exact ⟨⟨_, rfl, fun q => absurd (by decide) q, fun ⟨j, hj, _⟩ => absurd hj (by omega)⟩, rfl⟩
theorem d23_0 : decode jdk_52_method_6_code 0 = .ok (.aload_n 0, 1) := by decide +kernel
theorem d23_1 : decode jdk_52_method_6_code 1 = .ok (.arraylength, 1) := by decide +kernel
theorem d23_2 : decode jdk_52_method_6_code 2 = .ok (.iconst 1, 1) := by decide +kernel
theorem d23_3 : decode jdk_52_method_6_code 3 = .ok (.ishr, 1) := by decide +kernel
theorem d23_4 : decode jdk_52_method_6_code 4 = .ok (.ireturn, 1) := by decide +kernel
set_option maxRecDepth 65536 in
theorem rmUL (l : Launch) (Z : State) (a0 : Array Value) (hw : ∀ d ∈ tables_1, d.before a0 Z = true) (t : Addr) (kb : ClassId) (vs : List Value) (n : Nat) (h0 : Heap) (hn : n ≤ 3) (B : Arv Z h0 t kb .byte (Int32.ofNat (2 * n)) vs (.int 0)) :
    Con l Z [] [] false (⟨"java/lang/StringUTF16", "length", "([B)I"⟩ : MethodName) jdk_52_method_6_code 1 (some .int) RZ #[.ref t] h0 (rV fun v h => v = .int (Int32.ofNat n) ∧ h0 = h) := by
  have e : Int32.ofNat (2 * n) >>> ((1 : Int32) &&& 31) = Int32.ofNat n := by
    obtain rfl | rfl | rfl | rfl : n = 0 ∨ n = 1 ∨ n = 2 ∨ n = 3 := by omega
    all_goals decide
  refine body (ls := #[.val (.ref t)]) (plainFor_of_name pn_4) (fun m => by first | (simp [entryFrame, mkF, argsToLocals, Value.category]; done) | rfl) fun K ok => ?_
  refine r_aloadN (pc' := 1) ok rfl d23_0 rfl rfl ?_
  refine r_arraylength (pc' := 2) ok rfl d23_1 B ?_
  refine r_iconstV (pc' := 3) ok rfl (1 : Int32) d23_2 rfl ?_
  refine r_ishr (pc' := 4) ok rfl d23_3 ?_
  rw [e]
  refine r_ireturn ok d23_4 rfl (by simp) (by decide) (by decide) ?_
  exact ⟨rfl, rfl⟩
theorem d24_0 : decode jdk_41_method_12_code 0 = .ok (.iload_n 0, 1) := by decide +kernel
theorem d24_1 : decode jdk_41_method_12_code 1 = .ok (.ifCond .lt 13, 3) := by decide +kernel
theorem d24_4 : decode jdk_41_method_12_code 4 = .ok (.iload_n 0, 1) := by decide +kernel
theorem d24_5 : decode jdk_41_method_12_code 5 = .ok (.iload_n 1, 1) := by decide +kernel
theorem d24_6 : decode jdk_41_method_12_code 6 = .ok (.if_icmp .gt 8, 3) := by decide +kernel
theorem d24_9 : decode jdk_41_method_12_code 9 = .ok (.iload_n 1, 1) := by decide +kernel
theorem d24_10 : decode jdk_41_method_12_code 10 = .ok (.iload_n 2, 1) := by decide +kernel
theorem d24_11 : decode jdk_41_method_12_code 11 = .ok (.if_icmp .le 11, 3) := by decide +kernel
theorem d24_14 : decode jdk_41_method_12_code 14 = .ok (.aload_n 3, 1) := by decide +kernel
theorem d24_15 : decode jdk_41_method_12_code 15 = .ok (.iload_n 0, 1) := by decide +kernel
theorem d24_16 : decode jdk_41_method_12_code 16 = .ok (.iload_n 1, 1) := by decide +kernel
theorem d24_17 : decode jdk_41_method_12_code 17 = .ok (.iload_n 2, 1) := by decide +kernel
theorem d24_18 : decode jdk_41_method_12_code 18 = .ok (.invokestatic 99, 3) := by decide +kernel
theorem d24_21 : decode jdk_41_method_12_code 21 = .ok (.athrow, 1) := by decide +kernel
theorem d24_22 : decode jdk_41_method_12_code 22 = .ok (.iload_n 0, 1) := by decide +kernel
theorem d24_23 : decode jdk_41_method_12_code 23 = .ok (.ireturn, 1) := by decide +kernel
set_option maxRecDepth 65536 in
theorem rmCFT (l : Launch) (Z : State) (a0 : Array Value) (hw : ∀ d ∈ tables_1, d.before a0 Z = true) (n : Int32) (FM : Value) (hFM : FM.isRef = true) (h0 : Heap) (hn : ¬ n < 0) :
    Con l Z [] [] false (⟨"jdk/internal/util/Preconditions", "checkFromToIndex", "(IIILjava/util/function/BiFunction;)I"⟩ : MethodName) jdk_41_method_12_code 4 (some .int) RZ #[.int 0, .int n, .int n, FM] h0 (rV fun v h => v = .int 0 ∧ h0 = h) := by
  rcases ref_cases hFM with rfl | ⟨fa, rfl⟩
  · skip
    refine body (ls := #[.val (.int 0), .val (.int n), .val (.int n), .val .null]) (plainFor_of_name pn_5) (fun m => by first | (simp [entryFrame, mkF, argsToLocals, Value.category]; done) | rfl) fun K ok => ?_
    refine r_iloadN (pc' := 1) ok rfl d24_0 rfl ?_
    refine r_if_lt (pc' := 4) (pcY := 14) ok rfl d24_1 (by decide) (by decide) ?_ ?_
    · intro hc
      exact absurd hc (by decide)
    intro _
    refine r_iloadN (pc' := 5) ok rfl d24_4 rfl ?_
    refine r_iloadN (pc' := 6) ok rfl d24_5 rfl ?_
    refine r_icmp_gt (pc' := 9) (pcY := 14) ok rfl d24_6 (by decide) (by decide) ?_ ?_
    · intro hc
      exact absurd hc hn
    intro _
    refine r_iloadN (pc' := 10) ok rfl d24_9 rfl ?_
    refine r_iloadN (pc' := 11) ok rfl d24_10 rfl ?_
    refine r_icmp_le (pc' := 14) (pcY := 22) ok rfl d24_11 (by decide) (by decide) ?_ ?_
    rotate_left
    · intro hc
      exact absurd hc Int32.lt_irrefl
    intro _
    refine r_iloadN (pc' := 23) ok rfl d24_22 rfl ?_
    refine r_ireturn ok d24_23 rfl (by simp) (by decide) (by decide) ?_
    exact ⟨rfl, rfl⟩
  · skip
    refine body (ls := #[.val (.int 0), .val (.int n), .val (.int n), .val (.ref fa)]) (plainFor_of_name pn_5) (fun m => by first | (simp [entryFrame, mkF, argsToLocals, Value.category]; done) | rfl) fun K ok => ?_
    refine r_iloadN (pc' := 1) ok rfl d24_0 rfl ?_
    refine r_if_lt (pc' := 4) (pcY := 14) ok rfl d24_1 (by decide) (by decide) ?_ ?_
    · intro hc
      exact absurd hc (by decide)
    intro _
    refine r_iloadN (pc' := 5) ok rfl d24_4 rfl ?_
    refine r_iloadN (pc' := 6) ok rfl d24_5 rfl ?_
    refine r_icmp_gt (pc' := 9) (pcY := 14) ok rfl d24_6 (by decide) (by decide) ?_ ?_
    · intro hc
      exact absurd hc hn
    intro _
    refine r_iloadN (pc' := 10) ok rfl d24_9 rfl ?_
    refine r_iloadN (pc' := 11) ok rfl d24_10 rfl ?_
    refine r_icmp_le (pc' := 14) (pcY := 22) ok rfl d24_11 (by decide) (by decide) ?_ ?_
    rotate_left
    · intro hc
      exact absurd hc Int32.lt_irrefl
    intro _
    refine r_iloadN (pc' := 23) ok rfl d24_22 rfl ?_
    refine r_ireturn ok d24_23 rfl (by simp) (by decide) (by decide) ?_
    exact ⟨rfl, rfl⟩
theorem d25_0 : decode jdk_42_method_158_code 0 = .ok (.iload_n 0, 1) := by decide +kernel
theorem d25_1 : decode jdk_42_method_158_code 1 = .ok (.iload_n 1, 1) := by decide +kernel
theorem d25_2 : decode jdk_42_method_158_code 2 = .ok (.iload_n 2, 1) := by decide +kernel
theorem d25_3 : decode jdk_42_method_158_code 3 = .ok (.getstatic 1053, 3) := by decide +kernel
theorem d25_6 : decode jdk_42_method_158_code 6 = .ok (.invokestatic 1062, 3) := by decide +kernel
theorem d25_9 : decode jdk_42_method_158_code 9 = .ok (.pop, 1) := by decide +kernel
theorem d25_10 : decode jdk_42_method_158_code 10 = .ok (.return_, 1) := by decide +kernel
abbrev R25 : Room := { frames := 1, cells := 0, slots := 0, locals := 20 }
set_option maxRecDepth 65536 in
theorem rmCB (l : Launch) (Z : State) (a0 : Array Value) (hw : ∀ d ∈ tables_1, d.before a0 Z = true) (n : Int32) (FM : Value) (hFM : FM.isRef = true) (S8 : Sta Z Z.heap "jdk/internal/util/Preconditions" "SIOOBE_FORMATTER" "Ljava/util/function/BiFunction;" FM) (h0 : Heap) (hn : ¬ n < 0) :
    Con l Z [] [] false (⟨"java/lang/String", "checkBoundsBeginEnd", "(III)V"⟩ : MethodName) jdk_42_method_158_code 3 none R25 #[.int 0, .int n, .int n] h0 (rU fun h => h0 = h) := by
  refine body (ls := #[.val (.int 0), .val (.int n), .val (.int n)]) (plainFor_of_name pn_1) (fun m => by first | (simp [entryFrame, mkF, argsToLocals, Value.category]; done) | rfl) fun K ok => ?_
  refine r_iloadN (pc' := 1) ok rfl d25_0 rfl ?_
  refine r_iloadN (pc' := 2) ok rfl d25_1 rfl ?_
  refine r_iloadN (pc' := 3) ok rfl d25_2 rfl ?_
  refine r_getstatic (pc' := 6) ok rfl d25_3 (hw _ (List.mem_of_getElem? (i := 124) rfl)) Via.refl S8 ?_
  refine r_static (pc' := 9) ok rfl d25_6 (hw _ (List.mem_of_getElem? (i := 126) rfl)) (hw _ (List.mem_of_getElem? (i := 127) rfl)) (hw _ (List.mem_of_getElem? (i := 125) rfl)) (hw _ (List.mem_of_getElem? (i := 128) rfl)) (by decide) pd_22 (Con.pay (W := 0) (rmCFT l Z a0 hw n FM hFM h0 hn) EW.nil (hw _ (List.mem_of_getElem? (i := 128) rfl)) (hw _ (List.mem_of_getElem? (i := 125) rfl)) (by decide) (by decide)) (fun q => nomatch q) (Or.inl rfl) rfl (argsL := [(.int 0), (.int n), (.int n), FM]) (rest := []) rfl rfl rfl (Nat.le_of_ble_eq_true rfl) (by decide) (by decide) (cV fun x1 h1 q1 le1 => ?_)
  obtain ⟨rfl, rfl⟩ := q1
  refine r_pop (pc' := 10) ok rfl d25_9 rfl ?_
  refine r_return ok d25_10 ?_ (by decide) (by decide)
  rfl
theorem d26_0 : decode jdk_52_method_93_code 0 = .ok (.iload_n 0, 1) := by decide +kernel
theorem d26_1 : decode jdk_52_method_93_code 1 = .ok (.iload_n 1, 1) := by decide +kernel
theorem d26_2 : decode jdk_52_method_93_code 2 = .ok (.aload_n 2, 1) := by decide +kernel
theorem d26_3 : decode jdk_52_method_93_code 3 = .ok (.invokestatic 48, 3) := by decide +kernel
theorem d26_6 : decode jdk_52_method_93_code 6 = .ok (.invokestatic 241, 3) := by decide +kernel
theorem d26_9 : decode jdk_52_method_93_code 9 = .ok (.return_, 1) := by decide +kernel
abbrev R26 : Room := { frames := 2, cells := 0, slots := 0, locals := 40 }
set_option maxRecDepth 65536 in
theorem rmCBU (l : Launch) (Z : State) (a0 : Array Value) (hw : ∀ d ∈ tables_1, d.before a0 Z = true) (t : Addr) (kb : ClassId) (vs : List Value) (n : Int32) (m : Nat) (FM : Value) (hFM : FM.isRef = true) (S8 : Sta Z Z.heap "jdk/internal/util/Preconditions" "SIOOBE_FORMATTER" "Ljava/util/function/BiFunction;" FM) (h0 : Heap) (hn : n = Int32.ofNat m) (hm : m ≤ 3) (B : Arv Z h0 t kb .byte (Int32.ofNat (2 * m)) vs (.int 0)) :
    Con l Z [] [] false (⟨"java/lang/StringUTF16", "checkBoundsBeginEnd", "(II[B)V"⟩ : MethodName) jdk_52_method_93_code 3 none R26 #[.int 0, .int n, .ref t] h0 (rU fun h => h0 = h) := by
  refine body (ls := #[.val (.int 0), .val (.int n), .val (.ref t)]) (plainFor_of_name pn_4) (fun m => by first | (simp [entryFrame, mkF, argsToLocals, Value.category]; done) | rfl) fun K ok => ?_
  refine r_iloadN (pc' := 1) ok rfl d26_0 rfl ?_
  refine r_iloadN (pc' := 2) ok rfl d26_1 rfl ?_
  refine r_aloadN (pc' := 3) ok rfl d26_2 rfl rfl ?_
  refine r_static (pc' := 6) ok rfl d26_3 (hw _ (List.mem_of_getElem? (i := 118) rfl)) (hw _ (List.mem_of_getElem? (i := 119) rfl)) (hw _ (List.mem_of_getElem? (i := 73) rfl)) (hw _ (List.mem_of_getElem? (i := 120) rfl)) (by decide) pd_20 (Con.pay (W := 2) (rmUL l Z a0 hw t kb vs m h0 hm B) EW.nil (hw _ (List.mem_of_getElem? (i := 120) rfl)) (hw _ (List.mem_of_getElem? (i := 73) rfl)) (by decide) (by decide)) (fun q => nomatch q) (Or.inl rfl) rfl (argsL := [(.ref t)]) (rest := [(.int n), (.int 0)]) rfl rfl rfl (Nat.le_of_ble_eq_true rfl) (by decide) (by decide) (cV fun x1 h1 q1 le1 => ?_)
  obtain ⟨rfl, rfl⟩ := q1
  rw [← hn]
  refine r_static (pc' := 9) ok rfl d26_6 (hw _ (List.mem_of_getElem? (i := 121) rfl)) (hw _ (List.mem_of_getElem? (i := 122) rfl)) (hw _ (List.mem_of_getElem? (i := 8) rfl)) (hw _ (List.mem_of_getElem? (i := 123) rfl)) (by decide) pd_21 (Con.pay (W := 0) (rmCB l Z a0 hw n FM hFM S8 h0 (by rw [hn]; exact ofN_nn (by omega))) EW.nil (hw _ (List.mem_of_getElem? (i := 123) rfl)) (hw _ (List.mem_of_getElem? (i := 8) rfl)) (by decide) (by decide)) (fun q => nomatch q) (Or.inl rfl) rfl (argsL := [(.int 0), (.int n), (.int _)]) (rest := []) rfl rfl rfl (Nat.le_of_ble_eq_true rfl) (by decide) (by decide) (cU fun h2 q2 le2 => ?_)
  subst q2
  refine r_return ok d26_9 ?_ (by decide) (by decide)
  rfl
theorem d27_0 : decode jdk_52_method_48_code 0 = .ok (.iload_n 2, 1) := by decide +kernel
theorem d27_1 : decode jdk_52_method_48_code 1 = .ok (.istore 4, 2) := by decide +kernel
theorem d27_3 : decode jdk_52_method_48_code 3 = .ok (.iload 4, 2) := by decide +kernel
theorem d27_5 : decode jdk_52_method_48_code 5 = .ok (.iload_n 3, 1) := by decide +kernel
theorem d27_6 : decode jdk_52_method_48_code 6 = .ok (.if_icmp .ge 22, 3) := by decide +kernel
theorem d27_9 : decode jdk_52_method_48_code 9 = .ok (.aload_n 0, 1) := by decide +kernel
theorem d27_10 : decode jdk_52_method_48_code 10 = .ok (.iload 4, 2) := by decide +kernel
theorem d27_12 : decode jdk_52_method_48_code 12 = .ok (.invokestatic 71, 3) := by decide +kernel
theorem d27_15 : decode jdk_52_method_48_code 15 = .ok (.iload_n 1, 1) := by decide +kernel
theorem d27_16 : decode jdk_52_method_48_code 16 = .ok (.if_icmp .ne 6, 3) := by decide +kernel
theorem d27_19 : decode jdk_52_method_48_code 19 = .ok (.iload 4, 2) := by decide +kernel
theorem d27_21 : decode jdk_52_method_48_code 21 = .ok (.ireturn, 1) := by decide +kernel
theorem d27_22 : decode jdk_52_method_48_code 22 = .ok (.iinc 4 1, 3) := by decide +kernel
theorem d27_25 : decode jdk_52_method_48_code 25 = .ok (.goto (-22), 3) := by decide +kernel
theorem d27_28 : decode jdk_52_method_48_code 28 = .ok (.iconst (-1), 1) := by decide +kernel
theorem d27_29 : decode jdk_52_method_48_code 29 = .ok (.ireturn, 1) := by decide +kernel
abbrev R27 : Room := { frames := 1, cells := 0, slots := 0, locals := 13 }
set_option maxRecDepth 65536 in
theorem rmIxU (l : Launch) (Z : State) (a0 : Array Value) (hw : ∀ d ∈ tables_1, d.before a0 Z = true) (t : Addr) (kb : ClassId) (c n : Int32) (vs : List Value) (cs : List Int32) (h0 : Heap) (A1 : Sta Z Z.heap SU "$assertionsDisabled" "Z" (.int 1)) (A2 : Sta Z Z.heap SU "HI_BYTE_SHIFT" "I" (.int 0)) (A3 : Sta Z Z.heap SU "LO_BYTE_SHIFT" "I" (.int 8)) (hn : n = Int32.ofNat cs.length) (hl : cs.length ≤ 3) (hch : ∀ x ∈ cs, ¬ x < 0 ∧ ¬ (65535 : Int32) < x) (hvl : vs.length = 2 * cs.length) (hwb : WBy vs cs cs.length) (B : Arv Z h0 t kb .byte (Int32.ofNat (2 * cs.length)) vs (.int 0)) :
    Con l Z [] [] false (⟨"java/lang/StringUTF16", "indexOfCharUnsafe", "([BIII)I"⟩ : MethodName) jdk_52_method_48_code 5 (some .int) R27 #[.ref t, .int c, .int 0, .int n] h0 (rV fun v h => (∃ r, v = .int r ∧ (¬ r < 0 ↔ HasC cs c)) ∧ h0 = h) := by
  refine body (ls := #[.val (.ref t), .val (.int c), .val (.int 0), .val (.int n), .unset]) (plainFor_of_name pn_4) (fun m => by first | (simp [entryFrame, mkF, argsToLocals, Value.category]; done) | rfl) fun K ok => ?_
  refine r_iloadN (pc' := 1) ok rfl d27_0 rfl ?_
  refine r_istore (pc' := 3) (ls' := fun z => #[.val (.ref t), .val (.int c), .val (.int 0), .val (.int n), .val (.int z)]) ok rfl d27_1 (fun _ => rfl) ?_
  intro v1 ev1
  rw [show v1 = Int32.ofNat 0 from ev1]
  have loop : ∀ (k i : Nat), i + k = cs.length → (∀ j, j < i → cs.getD j 0 ≠ c) → Run Z K Cln h0 0 0 3 #[.val (.ref t), .val (.int c), .val (.int 0), .val (.int n), .val (.int (Int32.ofNat i))] [] := by
    intro k
    induction k with
    | zero =>
      intro i hik hnn
      obtain rfl : i = cs.length := hik
      refine r_iload (pc' := 5) ok rfl d27_3 rfl ?_
      refine r_iloadN (pc' := 6) ok rfl d27_5 rfl ?_
      refine r_icmp_ge (pc' := 9) (pcY := 28) ok rfl d27_6 (by decide) (by decide) ?_ ?_
      rotate_left
      · intro hc
        rw [hn] at hc
        exact absurd hc Int32.lt_irrefl
      intro _
      refine r_iconstV (pc' := 29) ok rfl (-1 : Int32) d27_28 rfl ?_
      refine r_ireturn ok d27_29 rfl (by simp) (by decide) (by decide) ?_
      exact ⟨⟨_, rfl, fun q => absurd (by decide) q, fun ⟨j, hj, e⟩ => absurd e (hnn j hj)⟩, rfl⟩
    | succ k ih =>
      intro i hik hnn
      have hi : i < cs.length := by omega
      have hm : cs.getD i 0 ∈ cs := by simp [List.getD_eq_getElem?_getD, hi]
      refine r_iload (pc' := 5) ok rfl d27_3 rfl ?_
      refine r_iloadN (pc' := 6) ok rfl d27_5 rfl ?_
      refine r_icmp_ge (pc' := 9) (pcY := 28) ok rfl d27_6 (by decide) (by decide) ?_ ?_
      · intro hc
        rw [hn] at hc
        exact absurd ((ofN_lt (by omega) (by omega)).mpr hi) hc
      intro _
      refine r_aloadN (pc' := 10) ok rfl d27_9 rfl rfl ?_
      refine r_iload (pc' := 12) ok rfl d27_10 rfl ?_
      refine r_static (pc' := 15) ok rfl d27_12 (hw _ (List.mem_of_getElem? (i := 103) rfl)) (hw _ (List.mem_of_getElem? (i := 104) rfl)) (hw _ (List.mem_of_getElem? (i := 73) rfl)) (hw _ (List.mem_of_getElem? (i := 105) rfl)) (by decide) pd_18 (Con.pay (W := 0) (rmGet l Z a0 hw t kb (Int32.ofNat i) _ _ _ i vs h0 A1 A2 A3 rfl (by omega) (by rw [hvl]) (by omega) (by omega) B (hwb i hi).1 (hwb i hi).2) EW.nil (hw _ (List.mem_of_getElem? (i := 105) rfl)) (hw _ (List.mem_of_getElem? (i := 73) rfl)) (by decide) (by decide)) (fun q => nomatch q) (Or.inl rfl) rfl (argsL := [(.ref t), (.int (Int32.ofNat i))]) (rest := []) rfl rfl rfl (Nat.le_of_ble_eq_true rfl) (by decide) (by decide) (cV fun x1 h1 q1 le1 => ?_)
      obtain ⟨rfl, rfl⟩ := q1
      rw [StrChars.pair_says (hch _ hm).1 (hch _ hm).2]
      refine r_iloadN (pc' := 16) ok rfl d27_15 rfl ?_
      refine r_icmp_ne (pc' := 19) (pcY := 22) ok rfl d27_16 (by decide) (by decide) ?_ ?_
      rotate_left
      · intro hc
        refine r_iload (pc' := 21) ok rfl d27_19 rfl ?_
        refine r_ireturn ok d27_21 rfl (by simp) (by decide) (by decide) ?_
        exact ⟨⟨_, rfl, fun _ => ⟨i, hi, hc⟩, fun _ => ofN_nn (by omega)⟩, rfl⟩
      intro hc
      refine r_iinc (pc' := 25) (ls' := fun z => #[.val (.ref t), .val (.int c), .val (.int 0), .val (.int n), .val (.int z)]) ok rfl d27_22 rfl (fun _ => rfl) ?_
      intro v22 ev22
      refine r_goto (pc' := 3) ok d27_25 (by decide) (by decide) ?_
      rw [show v22 = Int32.ofNat (i + 1) by rw [ev22]; exact own_inc (by omega)]
      refine ih (i + 1) (by omega) fun j hj => ?_
      by_cases e : j = i
      · subst e
        exact hc
      · exact hnn j (by omega)
  exact loop cs.length 0 (by omega) (fun j hj => absurd hj (Nat.not_lt_zero _))
theorem d28_0 : decode jdk_52_method_47_code 0 = .ok (.iload_n 2, 1) := by decide +kernel
theorem d28_1 : decode jdk_52_method_47_code 1 = .ok (.iload_n 3, 1) := by decide +kernel
theorem d28_2 : decode jdk_52_method_47_code 2 = .ok (.aload_n 0, 1) := by decide +kernel
theorem d28_3 : decode jdk_52_method_47_code 3 = .ok (.invokestatic 96, 3) := by decide +kernel
theorem d28_6 : decode jdk_52_method_47_code 6 = .ok (.aload_n 0, 1) := by decide +kernel
theorem d28_7 : decode jdk_52_method_47_code 7 = .ok (.iload_n 1, 1) := by decide +kernel
theorem d28_8 : decode jdk_52_method_47_code 8 = .ok (.iload_n 2, 1) := by decide +kernel
theorem d28_9 : decode jdk_52_method_47_code 9 = .ok (.iload_n 3, 1) := by decide +kernel
theorem d28_10 : decode jdk_52_method_47_code 10 = .ok (.invokestatic 244, 3) := by decide +kernel
theorem d28_13 : decode jdk_52_method_47_code 13 = .ok (.ireturn, 1) := by decide +kernel
abbrev R28 : Room := { frames := 3, cells := 0, slots := 0, locals := 60 }
set_option maxRecDepth 65536 in
theorem rmIxV (l : Launch) (Z : State) (a0 : Array Value) (hw : ∀ d ∈ tables_1, d.before a0 Z = true) (t : Addr) (kb : ClassId) (c n : Int32) (vs : List Value) (cs : List Int32) (h0 : Heap) (FM : Value) (hFM : FM.isRef = true) (S8 : Sta Z Z.heap "jdk/internal/util/Preconditions" "SIOOBE_FORMATTER" "Ljava/util/function/BiFunction;" FM) (A1 : Sta Z Z.heap SU "$assertionsDisabled" "Z" (.int 1)) (A2 : Sta Z Z.heap SU "HI_BYTE_SHIFT" "I" (.int 0)) (A3 : Sta Z Z.heap SU "LO_BYTE_SHIFT" "I" (.int 8)) (hn : n = Int32.ofNat cs.length) (hl : cs.length ≤ 3) (hch : ∀ x ∈ cs, ¬ x < 0 ∧ ¬ (65535 : Int32) < x) (hvl : vs.length = 2 * cs.length) (hwb : WBy vs cs cs.length) (B : Arv Z h0 t kb .byte (Int32.ofNat (2 * cs.length)) vs (.int 0)) :
    Con l Z [] [] false (⟨"java/lang/StringUTF16", "indexOfChar", "([BIII)I"⟩ : MethodName) jdk_52_method_47_code 4 (some .int) R28 #[.ref t, .int c, .int 0, .int n] h0 (rV fun v h => (∃ r, v = .int r ∧ (¬ r < 0 ↔ HasC cs c)) ∧ h0 = h) := by
  refine body (ls := #[.val (.ref t), .val (.int c), .val (.int 0), .val (.int n)]) (plainFor_of_name pn_4) (fun m => by first | (simp [entryFrame, mkF, argsToLocals, Value.category]; done) | rfl) fun K ok => ?_
  refine r_iloadN (pc' := 1) ok rfl d28_0 rfl ?_
  refine r_iloadN (pc' := 2) ok rfl d28_1 rfl ?_
  refine r_aloadN (pc' := 3) ok rfl d28_2 rfl rfl ?_
  refine r_static (pc' := 6) ok rfl d28_3 (hw _ (List.mem_of_getElem? (i := 115) rfl)) (hw _ (List.mem_of_getElem? (i := 116) rfl)) (hw _ (List.mem_of_getElem? (i := 73) rfl)) (hw _ (List.mem_of_getElem? (i := 117) rfl)) (by decide) pd_19 (Con.pay (W := 0) (rmCBU l Z a0 hw t kb vs n cs.length FM hFM S8 h0 hn hl B) EW.nil (hw _ (List.mem_of_getElem? (i := 117) rfl)) (hw _ (List.mem_of_getElem? (i := 73) rfl)) (by decide) (by decide)) (fun q => nomatch q) (Or.inl rfl) rfl (argsL := [(.int 0), (.int n), (.ref t)]) (rest := []) rfl rfl rfl (Nat.le_of_ble_eq_true rfl) (by decide) (by decide) (cU fun h1 q1 le1 => ?_)
  subst q1
  refine r_aloadN (pc' := 7) ok rfl d28_6 rfl rfl ?_
  refine r_iloadN (pc' := 8) ok rfl d28_7 rfl ?_
  refine r_iloadN (pc' := 9) ok rfl d28_8 rfl ?_
  refine r_iloadN (pc' := 10) ok rfl d28_9 rfl ?_
  refine r_static (pc' := 13) ok rfl d28_10 (hw _ (List.mem_of_getElem? (i := 129) rfl)) (hw _ (List.mem_of_getElem? (i := 130) rfl)) (hw _ (List.mem_of_getElem? (i := 73) rfl)) (hw _ (List.mem_of_getElem? (i := 131) rfl)) (by decide) pd_10 (Con.pay (W := 0) (rmIxU l Z a0 hw t kb c n vs cs h0 A1 A2 A3 hn hl hch hvl hwb B) EW.nil (hw _ (List.mem_of_getElem? (i := 131) rfl)) (hw _ (List.mem_of_getElem? (i := 73) rfl)) (by decide) (by decide)) (fun q => nomatch q) (Or.inl rfl) rfl (argsL := [(.ref t), (.int c), (.int 0), (.int n)]) (rest := []) rfl rfl rfl (Nat.le_of_ble_eq_true rfl) (by decide) (by decide) (cV fun x2 h2 q2 le2 => ?_)
  obtain ⟨⟨r, rfl, hr⟩, rfl⟩ := q2
  refine r_ireturn ok d28_13 rfl (by simp) (by decide) (by decide) ?_
  exact ⟨⟨r, rfl, hr⟩, rfl⟩
theorem d29_0 : decode jdk_52_method_40_code 0 = .ok (.iload_n 2, 1) := by decide +kernel
theorem d29_1 : decode jdk_52_method_40_code 1 = .ok (.iconst 0, 1) := by decide +kernel
theorem d29_2 : decode jdk_52_method_40_code 2 = .ok (.invokestatic 224, 3) := by decide +kernel
theorem d29_5 : decode jdk_52_method_40_code 5 = .ok (.istore_n 2, 1) := by decide +kernel
theorem d29_6 : decode jdk_52_method_40_code 6 = .ok (.iload_n 3, 1) := by decide +kernel
theorem d29_7 : decode jdk_52_method_40_code 7 = .ok (.aload_n 0, 1) := by decide +kernel
theorem d29_8 : decode jdk_52_method_40_code 8 = .ok (.arraylength, 1) := by decide +kernel
theorem d29_9 : decode jdk_52_method_40_code 9 = .ok (.iconst 1, 1) := by decide +kernel
theorem d29_10 : decode jdk_52_method_40_code 10 = .ok (.ishr, 1) := by decide +kernel
theorem d29_11 : decode jdk_52_method_40_code 11 = .ok (.invokestatic 183, 3) := by decide +kernel
theorem d29_14 : decode jdk_52_method_40_code 14 = .ok (.istore_n 3, 1) := by decide +kernel
theorem d29_15 : decode jdk_52_method_40_code 15 = .ok (.iload_n 2, 1) := by decide +kernel
theorem d29_16 : decode jdk_52_method_40_code 16 = .ok (.iload_n 3, 1) := by decide +kernel
theorem d29_17 : decode jdk_52_method_40_code 17 = .ok (.if_icmp .lt 5, 3) := by decide +kernel
theorem d29_20 : decode jdk_52_method_40_code 20 = .ok (.iconst (-1), 1) := by decide +kernel
theorem d29_21 : decode jdk_52_method_40_code 21 = .ok (.ireturn, 1) := by decide +kernel
theorem d29_22 : decode jdk_52_method_40_code 22 = .ok (.iload_n 1, 1) := by decide +kernel
theorem d29_23 : decode jdk_52_method_40_code 23 = .ok (.ldc 227, 2) := by decide +kernel
theorem d29_25 : decode jdk_52_method_40_code 25 = .ok (.if_icmp .ge 11, 3) := by decide +kernel
theorem d29_28 : decode jdk_52_method_40_code 28 = .ok (.aload_n 0, 1) := by decide +kernel
theorem d29_29 : decode jdk_52_method_40_code 29 = .ok (.iload_n 1, 1) := by decide +kernel
theorem d29_30 : decode jdk_52_method_40_code 30 = .ok (.iload_n 2, 1) := by decide +kernel
theorem d29_31 : decode jdk_52_method_40_code 31 = .ok (.iload_n 3, 1) := by decide +kernel
theorem d29_32 : decode jdk_52_method_40_code 32 = .ok (.invokestatic 228, 3) := by decide +kernel
theorem d29_35 : decode jdk_52_method_40_code 35 = .ok (.ireturn, 1) := by decide +kernel
theorem d29_36 : decode jdk_52_method_40_code 36 = .ok (.aload_n 0, 1) := by decide +kernel
theorem d29_37 : decode jdk_52_method_40_code 37 = .ok (.iload_n 1, 1) := by decide +kernel
theorem d29_38 : decode jdk_52_method_40_code 38 = .ok (.iload_n 2, 1) := by decide +kernel
theorem d29_39 : decode jdk_52_method_40_code 39 = .ok (.iload_n 3, 1) := by decide +kernel
theorem d29_40 : decode jdk_52_method_40_code 40 = .ok (.invokestatic 232, 3) := by decide +kernel
theorem d29_43 : decode jdk_52_method_40_code 43 = .ok (.ireturn, 1) := by decide +kernel
abbrev R29 : Room := { frames := 4, cells := 0, slots := 0, locals := 80 }
set_option maxRecDepth 65536 in
theorem rmIxW (l : Launch) (Z : State) (a0 : Array Value) (hw : ∀ d ∈ tables_1, d.before a0 Z = true) (t : Addr) (kb : ClassId) (c n : Int32) (vs : List Value) (cs : List Int32) (h0 : Heap) (FM : Value) (hFM : FM.isRef = true) (S8 : Sta Z Z.heap "jdk/internal/util/Preconditions" "SIOOBE_FORMATTER" "Ljava/util/function/BiFunction;" FM) (A1 : Sta Z Z.heap SU "$assertionsDisabled" "Z" (.int 1)) (A2 : Sta Z Z.heap SU "HI_BYTE_SHIFT" "I" (.int 0)) (A3 : Sta Z Z.heap SU "LO_BYTE_SHIFT" "I" (.int 8)) (hcc : c < 65536) (hn : n = Int32.ofNat cs.length) (hl : cs.length ≤ 3) (hch : ∀ x ∈ cs, ¬ x < 0 ∧ ¬ (65535 : Int32) < x) (hvl : vs.length = 2 * cs.length) (hwb : WBy vs cs cs.length) (B : Arv Z h0 t kb .byte (Int32.ofNat (2 * cs.length)) vs (.int 0)) :
    Con l Z [] [] false (⟨"java/lang/StringUTF16", "indexOf", "([BIII)I"⟩ : MethodName) jdk_52_method_40_code 4 (some .int) R29 #[.ref t, .int c, .int 0, .int n] h0 (rV fun v h => (∃ r, v = .int r ∧ (¬ r < 0 ↔ HasC cs c)) ∧ h0 = h) := by
  have e : Int32.ofNat (2 * cs.length) >>> ((1 : Int32) &&& 31) = n := by
    obtain q | q | q | q : cs.length = 0 ∨ cs.length = 1 ∨ cs.length = 2 ∨ cs.length = 3 := by omega
    all_goals rw [hn, q]; decide
  refine body (ls := #[.val (.ref t), .val (.int c), .val (.int 0), .val (.int n)]) (plainFor_of_name pn_4) (fun m => by first | (simp [entryFrame, mkF, argsToLocals, Value.category]; done) | rfl) fun K ok => ?_
  refine r_iloadN (pc' := 1) ok rfl d29_0 rfl ?_
  refine r_iconstV (pc' := 2) ok rfl (0 : Int32) d29_1 rfl ?_
  refine r_static (pc' := 5) ok rfl d29_2 (hw _ (List.mem_of_getElem? (i := 109) rfl)) (hw _ (List.mem_of_getElem? (i := 65) rfl)) (hw _ (List.mem_of_getElem? (i := 66) rfl)) (hw _ (List.mem_of_getElem? (i := 67) rfl)) (by decide) pd_6 (Con.pay (W := 0) (rmMax l Z a0 hw 0 0 h0) EW.nil (hw _ (List.mem_of_getElem? (i := 67) rfl)) (hw _ (List.mem_of_getElem? (i := 66) rfl)) (by decide) (by decide)) (fun q => nomatch q) (Or.inl rfl) rfl (argsL := [(.int 0), .int _]) (rest := []) rfl rfl rfl (Nat.le_of_ble_eq_true rfl) (by decide) (by decide) (cV fun x1 h1 q1 le1 => ?_)
  obtain ⟨rfl, rfl⟩ := q1
  rw [if_neg Int32.lt_irrefl]
  refine r_istoreN (pc' := 6) (ls' := fun z => #[.val (.ref t), .val (.int c), .val (.int z), .val (.int n)]) ok rfl d29_5 (fun _ => rfl) ?_
  intro v5 ev5
  refine r_iloadN (pc' := 7) ok rfl d29_6 rfl ?_
  refine r_aloadN (pc' := 8) ok rfl d29_7 rfl rfl ?_
  refine r_arraylength (pc' := 9) ok rfl d29_8 B ?_
  refine r_iconstV (pc' := 10) ok rfl (1 : Int32) d29_9 rfl ?_
  refine r_ishr (pc' := 11) ok rfl d29_10 ?_
  rw [e]
  refine r_static (pc' := 14) ok rfl d29_11 (hw _ (List.mem_of_getElem? (i := 110) rfl)) (hw _ (List.mem_of_getElem? (i := 69) rfl)) (hw _ (List.mem_of_getElem? (i := 66) rfl)) (hw _ (List.mem_of_getElem? (i := 70) rfl)) (by decide) pd_6 (Con.pay (W := 0) (rmMin l Z a0 hw n n h0) EW.nil (hw _ (List.mem_of_getElem? (i := 70) rfl)) (hw _ (List.mem_of_getElem? (i := 66) rfl)) (by decide) (by decide)) (fun q => nomatch q) (Or.inl rfl) rfl (argsL := [(.int n), .int _]) (rest := []) rfl rfl rfl (Nat.le_of_ble_eq_true rfl) (by decide) (by decide) (cV fun x2 h2 q2 le2 => ?_)
  obtain ⟨rfl, rfl⟩ := q2
  rw [if_neg Int32.lt_irrefl]
  refine r_istoreN (pc' := 15) (ls' := fun z => #[.val (.ref t), .val (.int c), .val (.int v5), .val (.int z)]) ok rfl d29_14 (fun _ => rfl) ?_
  intro v14 ev14
  refine r_iloadN (pc' := 16) ok rfl d29_15 rfl ?_
  refine r_iloadN (pc' := 17) ok rfl d29_16 rfl ?_
  refine r_icmp_lt (pc' := 20) (pcY := 22) ok rfl d29_17 (by decide) (by decide) ?_ ?_
  rotate_left
  · intro hc
    refine r_iconstV (pc' := 21) ok rfl (-1 : Int32) d29_20 rfl ?_
    rw [ev5, ev14, hn] at hc
    have e0 : cs.length = 0 := by
      rcases Nat.eq_zero_or_pos cs.length with q | q
      · exact q
      · exact absurd ((ofN_lt (i := 0) (by omega) (by omega)).mpr q) hc
    refine r_ireturn ok d29_21 rfl (by simp) (by decide) (by decide) ?_
    exact ⟨⟨_, rfl, fun q => absurd (by decide) q, fun ⟨j, hj, _⟩ => absurd hj (by omega)⟩, rfl⟩
  intro hc
  refine r_iloadN (pc' := 23) ok rfl d29_22 rfl ?_
  refine r_ldcI (pc' := 25) ok rfl d29_23 (hw _ (List.mem_of_getElem? (i := 111) rfl)) ?_
  refine r_icmp_ge (pc' := 28) (pcY := 36) ok rfl d29_25 (by decide) (by decide) ?_ ?_
  · intro hd
    exact absurd hcc hd
  intro _
  refine r_aloadN (pc' := 29) ok rfl d29_28 rfl rfl ?_
  refine r_iloadN (pc' := 30) ok rfl d29_29 rfl ?_
  refine r_iloadN (pc' := 31) ok rfl d29_30 rfl ?_
  refine r_iloadN (pc' := 32) ok rfl d29_31 rfl ?_
  rw [ev5, ev14]
  refine r_static (pc' := 35) ok rfl d29_32 (hw _ (List.mem_of_getElem? (i := 112) rfl)) (hw _ (List.mem_of_getElem? (i := 113) rfl)) (hw _ (List.mem_of_getElem? (i := 73) rfl)) (hw _ (List.mem_of_getElem? (i := 114) rfl)) (by decide) pd_10 (Con.pay (W := 0) (rmIxV l Z a0 hw t kb c n vs cs h0 FM hFM S8 A1 A2 A3 hn hl hch hvl hwb B) EW.nil (hw _ (List.mem_of_getElem? (i := 114) rfl)) (hw _ (List.mem_of_getElem? (i := 73) rfl)) (by decide) (by decide)) (fun q => nomatch q) (Or.inl rfl) rfl (argsL := [(.ref t), (.int c), (.int 0), (.int n)]) (rest := []) rfl rfl rfl (Nat.le_of_ble_eq_true rfl) (by decide) (by decide) (cV fun x3 h3 q3 le3 => ?_)
  obtain ⟨⟨r, rfl, hr⟩, rfl⟩ := q3
  refine r_ireturn ok d29_35 rfl (by simp) (by decide) (by decide) ?_
  exact ⟨⟨r, rfl, hr⟩, rfl⟩
theorem d30_0 : decode jdk_42_method_80_code 0 = .ok (.aload_n 0, 1) := by decide +kernel
theorem d30_1 : decode jdk_42_method_80_code 1 = .ok (.invokevirtual 492, 3) := by decide +kernel
theorem d30_4 : decode jdk_42_method_80_code 4 = .ok (.ifCond .eq 19, 3) := by decide +kernel
theorem d30_7 : decode jdk_42_method_80_code 7 = .ok (.aload_n 0, 1) := by decide +kernel
theorem d30_8 : decode jdk_42_method_80_code 8 = .ok (.getfield 9, 3) := by decide +kernel
theorem d30_11 : decode jdk_42_method_80_code 11 = .ok (.iload_n 1, 1) := by decide +kernel
theorem d30_12 : decode jdk_42_method_80_code 12 = .ok (.iload_n 2, 1) := by decide +kernel
theorem d30_13 : decode jdk_42_method_80_code 13 = .ok (.aload_n 0, 1) := by decide +kernel
theorem d30_14 : decode jdk_42_method_80_code 14 = .ok (.invokevirtual 505, 3) := by decide +kernel
theorem d30_17 : decode jdk_42_method_80_code 17 = .ok (.invokestatic 637, 3) := by decide +kernel
theorem d30_20 : decode jdk_42_method_80_code 20 = .ok (.goto 16, 3) := by decide +kernel
theorem d30_23 : decode jdk_42_method_80_code 23 = .ok (.aload_n 0, 1) := by decide +kernel
theorem d30_24 : decode jdk_42_method_80_code 24 = .ok (.getfield 9, 3) := by decide +kernel
theorem d30_27 : decode jdk_42_method_80_code 27 = .ok (.iload_n 1, 1) := by decide +kernel
theorem d30_28 : decode jdk_42_method_80_code 28 = .ok (.iload_n 2, 1) := by decide +kernel
theorem d30_29 : decode jdk_42_method_80_code 29 = .ok (.aload_n 0, 1) := by decide +kernel
theorem d30_30 : decode jdk_42_method_80_code 30 = .ok (.invokevirtual 505, 3) := by decide +kernel
theorem d30_33 : decode jdk_42_method_80_code 33 = .ok (.invokestatic 640, 3) := by decide +kernel
theorem d30_36 : decode jdk_42_method_80_code 36 = .ok (.ireturn, 1) := by decide +kernel
abbrev R30 : Room := { frames := 5, cells := 0, slots := 0, locals := 110 }
set_option maxRecDepth 65536 in
theorem rmI2 (l : Launch) (Z : State) (a0 : Array Value) (hw : ∀ d ∈ tables_1, d.before a0 Z = true) (x : Addr) (c G1 : Int32) (cs : List Int32) (h0 : Heap) (S1 : Sta Z Z.heap ST "COMPACT_STRINGS" "Z" (.int G1)) (P1 : ¬ G1 = 0) (FM : Value) (hFM : FM.isRef = true) (S8 : Sta Z Z.heap "jdk/internal/util/Preconditions" "SIOOBE_FORMATTER" "Ljava/util/function/BiFunction;" FM) (A1 : Sta Z Z.heap SU "$assertionsDisabled" "Z" (.int 1)) (A2 : Sta Z Z.heap SU "HI_BYTE_SHIFT" "I" (.int 0)) (A3 : Sta Z Z.heap SU "LO_BYTE_SHIFT" "I" (.int 8)) (h1 : ¬ c < 0) (h2 : ¬ (255 : Int32) < c) (hcc : c < 65536) (hl : cs.length ≤ 3) (hch : ∀ x ∈ cs, ¬ x < 0 ∧ ¬ (65535 : Int32) < x) (F : StrA Z h0 x cs) :
    Con l Z [] [] false (⟨"java/lang/String", "indexOf", "(II)I"⟩ : MethodName) jdk_42_method_80_code 3 (some .int) R30 #[.ref x, .int c, .int 0] h0 (rV fun v h => (∃ r, v = .int r ∧ (¬ r < 0 ↔ HasC cs c)) ∧ h0 = h) := by
  obtain ⟨E, t, kb, cd, N, vs, Fv, Fc, B, hq⟩ := id F
  have hcd : cd = 0 ∨ cd = 1 := hq.imp (·.1) (·.1)
  refine body (ls := #[.val (.ref x), .val (.int c), .val (.int 0)]) (plainFor_of_name pn_1) (fun m => by first | (simp [entryFrame, mkF, argsToLocals, Value.category]; done) | rfl) fun K ok => ?_
  refine r_aloadN (pc' := 1) ok rfl d30_0 rfl rfl ?_
  refine r_virtual (pc' := 4) ok rfl d30_1 (hw _ (List.mem_of_getElem? (i := 41) rfl)) (hw _ (List.mem_of_getElem? (i := 42) rfl)) (hw _ (List.mem_of_getElem? (i := 44) rfl)) (hw _ (List.mem_of_getElem? (i := 43) rfl)) (nf_sel (C := "java/lang/String") (z := (⟨"java/lang/String", "isLatin1", "()Z"⟩ : MethodName)) (hw _ (List.mem_of_getElem? (i := 44) rfl))) E (by decide) pd_7 (Con.pay (W := 0) (rmL1 l Z a0 hw x cd G1 h0 S1 P1 Fc hcd) EW.nil (hw _ (List.mem_of_getElem? (i := 45) rfl)) (hw _ (List.mem_of_getElem? (i := 8) rfl)) (by decide) (by decide)) (fun q => nomatch q) (Or.inl rfl) rfl (argsL := []) (rest := []) rfl rfl rfl (Nat.le_of_ble_eq_true rfl) (by decide) (by decide) (cV fun x1 h1 q1 le1 => ?_)
  obtain ⟨rfl, rfl⟩ := q1
  refine r_if_eq (pc' := 7) (pcY := 23) ok rfl d30_4 (by decide) (by decide) ?_ ?_
  · intro hc
    refine r_aloadN (pc' := 24) ok rfl d30_23 rfl rfl ?_
    refine r_getfield (pc' := 27) (host := "") ok rfl d30_24 (Or.inl (hw _ (List.mem_of_getElem? (i := 25) rfl))) Via.refl Fv ?_
    refine r_iloadN (pc' := 28) ok rfl d30_27 rfl ?_
    refine r_iloadN (pc' := 29) ok rfl d30_28 rfl ?_
    refine r_aloadN (pc' := 30) ok rfl d30_29 rfl rfl ?_
    refine r_virtual (pc' := 33) ok rfl d30_30 (hw _ (List.mem_of_getElem? (i := 47) rfl)) (hw _ (List.mem_of_getElem? (i := 48) rfl)) (hw _ (List.mem_of_getElem? (i := 50) rfl)) (hw _ (List.mem_of_getElem? (i := 49) rfl)) (nf_sel (C := "java/lang/String") (z := (⟨"java/lang/String", "length", "()I"⟩ : MethodName)) (hw _ (List.mem_of_getElem? (i := 50) rfl))) E (by decide) pd_8 (Con.pay (W := 3) (rmLen l Z a0 hw x cs G1 h0 S1 P1 F hl) EW.nil (hw _ (List.mem_of_getElem? (i := 51) rfl)) (hw _ (List.mem_of_getElem? (i := 8) rfl)) (by decide) (by decide)) (fun q => nomatch q) (Or.inl rfl) rfl (argsL := []) (rest := [(.int 0), (.int c), (.ref t)]) rfl rfl rfl (Nat.le_of_ble_eq_true rfl) (by decide) (by decide) (cV fun x2 h2 q2 le2 => ?_)
    obtain ⟨rfl, rfl⟩ := q2
    rcases hq with ⟨rfl, -⟩ | ⟨rfl, rfl, hvl, hwb⟩
    · exact absurd hc (by decide)
    refine r_static (pc' := 36) ok rfl d30_33 (hw _ (List.mem_of_getElem? (i := 106) rfl)) (hw _ (List.mem_of_getElem? (i := 107) rfl)) (hw _ (List.mem_of_getElem? (i := 73) rfl)) (hw _ (List.mem_of_getElem? (i := 108) rfl)) (by decide) pd_10 (Con.pay (W := 0) (rmIxW l Z a0 hw t kb c _ vs cs h0 FM hFM S8 A1 A2 A3 hcc rfl hl hch hvl hwb B) EW.nil (hw _ (List.mem_of_getElem? (i := 108) rfl)) (hw _ (List.mem_of_getElem? (i := 73) rfl)) (by decide) (by decide)) (fun q => nomatch q) (Or.inl rfl) rfl (argsL := [(.ref t), (.int c), (.int 0), (.int _)]) (rest := []) rfl rfl rfl (Nat.le_of_ble_eq_true rfl) (by decide) (by decide) (cV fun x3 h3 q3 le3 => ?_)
    obtain ⟨⟨r, rfl, hr⟩, rfl⟩ := q3
    refine r_ireturn ok d30_36 rfl (by simp) (by decide) (by decide) ?_
    exact ⟨⟨r, rfl, hr⟩, rfl⟩
  intro hc
  refine r_aloadN (pc' := 8) ok rfl d30_7 rfl rfl ?_
  refine r_getfield (pc' := 11) (host := "") ok rfl d30_8 (Or.inl (hw _ (List.mem_of_getElem? (i := 25) rfl))) Via.refl Fv ?_
  refine r_iloadN (pc' := 12) ok rfl d30_11 rfl ?_
  refine r_iloadN (pc' := 13) ok rfl d30_12 rfl ?_
  refine r_aloadN (pc' := 14) ok rfl d30_13 rfl rfl ?_
  refine r_virtual (pc' := 17) ok rfl d30_14 (hw _ (List.mem_of_getElem? (i := 47) rfl)) (hw _ (List.mem_of_getElem? (i := 48) rfl)) (hw _ (List.mem_of_getElem? (i := 50) rfl)) (hw _ (List.mem_of_getElem? (i := 49) rfl)) (nf_sel (C := "java/lang/String") (z := (⟨"java/lang/String", "length", "()I"⟩ : MethodName)) (hw _ (List.mem_of_getElem? (i := 50) rfl))) E (by decide) pd_8 (Con.pay (W := 3) (rmLen l Z a0 hw x cs G1 h0 S1 P1 F hl) EW.nil (hw _ (List.mem_of_getElem? (i := 51) rfl)) (hw _ (List.mem_of_getElem? (i := 8) rfl)) (by decide) (by decide)) (fun q => nomatch q) (Or.inl rfl) rfl (argsL := []) (rest := [(.int 0), (.int c), (.ref t)]) rfl rfl rfl (Nat.le_of_ble_eq_true rfl) (by decide) (by decide) (cV fun x2 h2 q2 le2 => ?_)
  obtain ⟨rfl, rfl⟩ := q2
  rcases hq with ⟨rfl, rfl, rfl, hlo⟩ | ⟨rfl, -⟩
  · refine r_static (pc' := 20) ok rfl d30_17 (hw _ (List.mem_of_getElem? (i := 57) rfl)) (hw _ (List.mem_of_getElem? (i := 58) rfl)) (hw _ (List.mem_of_getElem? (i := 59) rfl)) (hw _ (List.mem_of_getElem? (i := 60) rfl)) (by decide) pd_10 (Con.pay (W := 0) (rmIxL l Z a0 hw t kb c _ cs h0 h1 h2 rfl hl (fun x hx => ⟨(hch x hx).1, hlo x hx⟩) B) EW.nil (hw _ (List.mem_of_getElem? (i := 60) rfl)) (hw _ (List.mem_of_getElem? (i := 59) rfl)) (by decide) (by decide)) (fun q => nomatch q) (Or.inl rfl) rfl (argsL := [(.ref t), (.int c), (.int 0), (.int _)]) (rest := []) rfl rfl rfl (Nat.le_of_ble_eq_true rfl) (by decide) (by decide) (cV fun x3 h3 q3 le3 => ?_)
    obtain ⟨⟨r, rfl, hr⟩, rfl⟩ := q3
    refine r_goto (pc' := 36) ok d30_20 (by decide) (by decide) ?_
    refine r_ireturn ok d30_36 rfl (by simp) (by decide) (by decide) ?_
    exact ⟨⟨r, rfl, hr⟩, rfl⟩
  · exact absurd rfl hc
theorem d31_0 : decode jdk_42_method_79_code 0 = .ok (.aload_n 0, 1) := by decide +kernel
theorem d31_1 : decode jdk_42_method_79_code 1 = .ok (.iload_n 1, 1) := by decide +kernel
theorem d31_2 : decode jdk_42_method_79_code 2 = .ok (.iconst 0, 1) := by decide +kernel
theorem d31_3 : decode jdk_42_method_79_code 3 = .ok (.invokevirtual 633, 3) := by decide +kernel
theorem d31_6 : decode jdk_42_method_79_code 6 = .ok (.ireturn, 1) := by decide +kernel
abbrev R31 : Room := { frames := 6, cells := 0, slots := 0, locals := 130 }
set_option maxRecDepth 65536 in
theorem rmI1 (l : Launch) (Z : State) (a0 : Array Value) (hw : ∀ d ∈ tables_1, d.before a0 Z = true) (x : Addr) (c G1 : Int32) (cs : List Int32) (h0 : Heap) (S1 : Sta Z Z.heap ST "COMPACT_STRINGS" "Z" (.int G1)) (P1 : ¬ G1 = 0) (FM : Value) (hFM : FM.isRef = true) (S8 : Sta Z Z.heap "jdk/internal/util/Preconditions" "SIOOBE_FORMATTER" "Ljava/util/function/BiFunction;" FM) (A1 : Sta Z Z.heap SU "$assertionsDisabled" "Z" (.int 1)) (A2 : Sta Z Z.heap SU "HI_BYTE_SHIFT" "I" (.int 0)) (A3 : Sta Z Z.heap SU "LO_BYTE_SHIFT" "I" (.int 8)) (h1 : ¬ c < 0) (h2 : ¬ (255 : Int32) < c) (hcc : c < 65536) (hl : cs.length ≤ 3) (hch : ∀ x ∈ cs, ¬ x < 0 ∧ ¬ (65535 : Int32) < x) (F : StrA Z h0 x cs) :
    Con l Z [] [] false (⟨"java/lang/String", "indexOf", "(I)I"⟩ : MethodName) jdk_42_method_79_code 2 (some .int) R31 #[.ref x, .int c] h0 (rV fun v h => (∃ r, v = .int r ∧ (¬ r < 0 ↔ HasC cs c)) ∧ h0 = h) := by
  refine body (ls := #[.val (.ref x), .val (.int c)]) (plainFor_of_name pn_1) (fun m => by first | (simp [entryFrame, mkF, argsToLocals, Value.category]; done) | rfl) fun K ok => ?_
  refine r_aloadN (pc' := 1) ok rfl d31_0 rfl rfl ?_
  refine r_iloadN (pc' := 2) ok rfl d31_1 rfl ?_
  refine r_iconstV (pc' := 3) ok rfl (0 : Int32) d31_2 rfl ?_
  refine r_virtual (pc' := 6) ok rfl d31_3 (hw _ (List.mem_of_getElem? (i := 36) rfl)) (hw _ (List.mem_of_getElem? (i := 37) rfl)) (hw _ (List.mem_of_getElem? (i := 39) rfl)) (hw _ (List.mem_of_getElem? (i := 38) rfl)) (nf_sel (C := "java/lang/String") (z := (⟨"java/lang/String", "indexOf", "(II)I"⟩ : MethodName)) (hw _ (List.mem_of_getElem? (i := 39) rfl))) F.1 (by decide) pd_6 (Con.pay (W := 0) (rmI2 l Z a0 hw x c G1 cs h0 S1 P1 FM hFM S8 A1 A2 A3 h1 h2 hcc hl hch F) EW.nil (hw _ (List.mem_of_getElem? (i := 40) rfl)) (hw _ (List.mem_of_getElem? (i := 8) rfl)) (by decide) (by decide)) (fun q => nomatch q) (Or.inl rfl) rfl (argsL := [(.int c), .int _]) (rest := []) rfl rfl rfl (Nat.le_of_ble_eq_true rfl) (by decide) (by decide) (cV fun x1 h1 q1 le1 => ?_)
  obtain ⟨⟨r, rfl, hr⟩, rfl⟩ := q1
  refine r_ireturn ok d31_6 rfl (by simp) (by decide) (by decide) ?_
  exact ⟨⟨r, rfl, hr⟩, rfl⟩
theorem d32_0 : decode prog_27_method_2_code 0 = .ok (.aload_n 0, 1) := by decide +kernel
theorem d32_1 : decode prog_27_method_2_code 1 = .ok (.bipush 42, 2) := by decide +kernel
theorem d32_3 : decode prog_27_method_2_code 3 = .ok (.invokevirtual 7, 3) := by decide +kernel
theorem d32_6 : decode prog_27_method_2_code 6 = .ok (.ifCond .ge 16, 3) := by decide +kernel
theorem d32_9 : decode prog_27_method_2_code 9 = .ok (.aload_n 0, 1) := by decide +kernel
theorem d32_10 : decode prog_27_method_2_code 10 = .ok (.bipush 63, 2) := by decide +kernel
theorem d32_12 : decode prog_27_method_2_code 12 = .ok (.invokevirtual 7, 3) := by decide +kernel
theorem d32_15 : decode prog_27_method_2_code 15 = .ok (.ifCond .ge 7, 3) := by decide +kernel
theorem d32_18 : decode prog_27_method_2_code 18 = .ok (.iconst 1, 1) := by decide +kernel
theorem d32_19 : decode prog_27_method_2_code 19 = .ok (.goto 4, 3) := by decide +kernel
theorem d32_22 : decode prog_27_method_2_code 22 = .ok (.iconst 0, 1) := by decide +kernel
theorem d32_23 : decode prog_27_method_2_code 23 = .ok (.ireturn, 1) := by decide +kernel
abbrev R32 : Room := { frames := 7, cells := 0, slots := 0, locals := 150 }
open Classical in
set_option maxRecDepth 65536 in
theorem rmPl (l : Launch) (Z : State) (a0 : Array Value) (hw : ∀ d ∈ tables_1, d.before a0 Z = true) (x : Addr) (G1 : Int32) (cs : List Int32) (h0 : Heap) (S1 : Sta Z Z.heap ST "COMPACT_STRINGS" "Z" (.int G1)) (P1 : ¬ G1 = 0) (FM : Value) (hFM : FM.isRef = true) (S8 : Sta Z Z.heap "jdk/internal/util/Preconditions" "SIOOBE_FORMATTER" "Ljava/util/function/BiFunction;" FM) (A1 : Sta Z Z.heap SU "$assertionsDisabled" "Z" (.int 1)) (A2 : Sta Z Z.heap SU "HI_BYTE_SHIFT" "I" (.int 0)) (A3 : Sta Z Z.heap SU "LO_BYTE_SHIFT" "I" (.int 8)) (hl : cs.length ≤ 3) (hch : ∀ x ∈ cs, ¬ x < 0 ∧ ¬ (65535 : Int32) < x) (F : StrA Z h0 x cs) :
    Con l Z [] [] false (⟨"com/example/vigilant_scheduler/vigilantscheduler/job/JobIdPattern", "isPlainId", "(Ljava/lang/String;)Z"⟩ : MethodName) prog_27_method_2_code 1 (some .boolean) R32 #[.ref x] h0 (rV fun v h => v = .int (if HasC cs 42 ∨ HasC cs 63 then 0 else 1) ∧ h0 = h) := by
  refine body (ls := #[.val (.ref x)]) (plainFor_of_name pn_2) (fun m => by first | (simp [entryFrame, mkF, argsToLocals, Value.category]; done) | rfl) fun K ok => ?_
  refine r_aloadN (pc' := 1) ok rfl d32_0 rfl rfl ?_
  refine r_bipushV (pc' := 3) ok rfl (42 : Int32) d32_1 rfl ?_
  refine r_virtual (pc' := 6) ok rfl d32_3 (hw _ (List.mem_of_getElem? (i := 31) rfl)) (hw _ (List.mem_of_getElem? (i := 32) rfl)) (hw _ (List.mem_of_getElem? (i := 34) rfl)) (hw _ (List.mem_of_getElem? (i := 33) rfl)) (nf_sel (C := "java/lang/String") (z := (⟨"java/lang/String", "indexOf", "(I)I"⟩ : MethodName)) (hw _ (List.mem_of_getElem? (i := 34) rfl))) F.1 (by decide) pd_5 (Con.pay (W := 0) (rmI1 l Z a0 hw x 42 G1 cs h0 S1 P1 FM hFM S8 A1 A2 A3 (by decide) (by decide) (by decide) hl hch F) EW.nil (hw _ (List.mem_of_getElem? (i := 35) rfl)) (hw _ (List.mem_of_getElem? (i := 8) rfl)) (by decide) (by decide)) (fun q => nomatch q) (Or.inl rfl) rfl (argsL := [.int _]) (rest := []) rfl rfl rfl (Nat.le_of_ble_eq_true rfl) (by decide) (by decide) (cV fun x1 h1 q1 le1 => ?_)
  obtain ⟨⟨r, rfl, hr⟩, rfl⟩ := q1
  refine r_if_ge (pc' := 9) (pcY := 22) ok rfl d32_6 (by decide) (by decide) ?_ ?_
  · intro hc
    refine r_iconstV (pc' := 23) ok rfl (0 : Int32) d32_22 rfl ?_
    rw [hr] at hc
    refine r_ireturn ok d32_23 rfl (by simp) (by decide) (by decide) ?_
    exact ⟨by rw [if_pos (Or.inl hc)], rfl⟩
  intro hc
  refine r_aloadN (pc' := 10) ok rfl d32_9 rfl rfl ?_
  refine r_bipushV (pc' := 12) ok rfl (63 : Int32) d32_10 rfl ?_
  refine r_virtual (pc' := 15) ok rfl d32_12 (hw _ (List.mem_of_getElem? (i := 31) rfl)) (hw _ (List.mem_of_getElem? (i := 32) rfl)) (hw _ (List.mem_of_getElem? (i := 34) rfl)) (hw _ (List.mem_of_getElem? (i := 33) rfl)) (nf_sel (C := "java/lang/String") (z := (⟨"java/lang/String", "indexOf", "(I)I"⟩ : MethodName)) (hw _ (List.mem_of_getElem? (i := 34) rfl))) F.1 (by decide) pd_5 (Con.pay (W := 0) (rmI1 l Z a0 hw x 63 G1 cs h0 S1 P1 FM hFM S8 A1 A2 A3 (by decide) (by decide) (by decide) hl hch F) EW.nil (hw _ (List.mem_of_getElem? (i := 35) rfl)) (hw _ (List.mem_of_getElem? (i := 8) rfl)) (by decide) (by decide)) (fun q => nomatch q) (Or.inl rfl) rfl (argsL := [.int _]) (rest := []) rfl rfl rfl (Nat.le_of_ble_eq_true rfl) (by decide) (by decide) (cV fun x2 h2 q2 le2 => ?_)
  obtain ⟨⟨r2, rfl, hr2⟩, rfl⟩ := q2
  have n1 : ¬ HasC cs 42 := fun q => (hr.mpr q) hc
  refine r_if_ge (pc' := 18) (pcY := 22) ok rfl d32_15 (by decide) (by decide) ?_ ?_
  · intro hd
    refine r_iconstV (pc' := 23) ok rfl (0 : Int32) d32_22 rfl ?_
    rw [hr2] at hd
    refine r_ireturn ok d32_23 rfl (by simp) (by decide) (by decide) ?_
    exact ⟨by rw [if_pos (Or.inr hd)], rfl⟩
  intro hd
  have n2 : ¬ HasC cs 63 := fun q => (hr2.mpr q) hd
  refine r_iconstV (pc' := 19) ok rfl (1 : Int32) d32_18 rfl ?_
  refine r_goto (pc' := 23) ok d32_19 (by decide) (by decide) ?_
  refine r_ireturn ok d32_23 rfl (by simp) (by decide) (by decide) ?_
  exact ⟨by rw [if_neg (fun q => q.elim n1 n2)], rfl⟩
theorem d33_0 : decode method_3_code 0 = .ok (.iload_n 0, 1) := by decide +kernel
theorem d33_1 : decode method_3_code 1 = .ok (.bipush 42, 2) := by decide +kernel
theorem d33_3 : decode method_3_code 3 = .ok (.if_icmp .eq 9, 3) := by decide +kernel
theorem d33_6 : decode method_3_code 6 = .ok (.iload_n 0, 1) := by decide +kernel
theorem d33_7 : decode method_3_code 7 = .ok (.bipush 63, 2) := by decide +kernel
theorem d33_9 : decode method_3_code 9 = .ok (.if_icmp .ne 7, 3) := by decide +kernel
theorem d33_12 : decode method_3_code 12 = .ok (.iconst 1, 1) := by decide +kernel
theorem d33_13 : decode method_3_code 13 = .ok (.goto 4, 3) := by decide +kernel
theorem d33_16 : decode method_3_code 16 = .ok (.iconst 0, 1) := by decide +kernel
theorem d33_17 : decode method_3_code 17 = .ok (.ireturn, 1) := by decide +kernel
set_option maxRecDepth 65536 in
theorem rmWi (l : Launch) (Z : State) (a0 : Array Value) (hw : ∀ d ∈ tables_1, d.before a0 Z = true) (c : Int32) (h0 : Heap) : Con l Z [] [] false (⟨"com/example/vigilant_scheduler/vigilantscheduler/job/JobIdPatternIsPlainIdPinLaw", "isWild", "(C)Z"⟩ : MethodName) method_3_code 1 (some .boolean) RZ #[.int c] h0 (rV fun v h => v = .int (if c = 42 ∨ c = 63 then 1 else 0) ∧ h0 = h) := by
  refine body (ls := #[.val (.int c)]) (plainFor_of_name pn_0) (fun m => by first | (simp [entryFrame, mkF, argsToLocals, Value.category]; done) | rfl) fun K ok => ?_
  refine r_iloadN (pc' := 1) ok rfl d33_0 rfl ?_
  refine r_bipushV (pc' := 3) ok rfl (42 : Int32) d33_1 rfl ?_
  refine r_icmp_eq (pc' := 6) (pcY := 12) ok rfl d33_3 (by decide) (by decide) ?_ ?_
  · intro hc
    refine r_iconstV (pc' := 13) ok rfl (1 : Int32) d33_12 rfl ?_
    refine r_goto (pc' := 17) ok d33_13 (by decide) (by decide) ?_
    refine r_ireturn ok d33_17 rfl (by simp) (by decide) (by decide) ?_
    exact ⟨by rw [if_pos (Or.inl hc)], rfl⟩
  intro hc
  refine r_iloadN (pc' := 7) ok rfl d33_6 rfl ?_
  refine r_bipushV (pc' := 9) ok rfl (63 : Int32) d33_7 rfl ?_
  refine r_icmp_ne (pc' := 12) (pcY := 16) ok rfl d33_9 (by decide) (by decide) ?_ ?_
  · intro hd
    refine r_iconstV (pc' := 17) ok rfl (0 : Int32) d33_16 rfl ?_
    refine r_ireturn ok d33_17 rfl (by simp) (by decide) (by decide) ?_
    exact ⟨by rw [if_neg (fun q => q.elim hc hd)], rfl⟩
  intro hd
  refine r_iconstV (pc' := 13) ok rfl (1 : Int32) d33_12 rfl ?_
  refine r_goto (pc' := 17) ok d33_13 (by decide) (by decide) ?_
  refine r_ireturn ok d33_17 rfl (by simp) (by decide) (by decide) ?_
  exact ⟨by rw [if_pos (Or.inr hd)], rfl⟩
theorem d34_0 : decode method_2_code 0 = .ok (.iload_n 0, 1) := by decide +kernel
theorem d34_1 : decode method_2_code 1 = .ok (.iconst 3, 1) := by decide +kernel
theorem d34_2 : decode method_2_code 2 = .ok (.iand, 1) := by decide +kernel
theorem d34_3 : decode method_2_code 3 = .ok (.istore_n 1, 1) := by decide +kernel
theorem d34_4 : decode method_2_code 4 = .ok (.iload_n 1, 1) := by decide +kernel
theorem d34_5 : decode method_2_code 5 = .ok (.ifCond .ne 6, 3) := by decide +kernel
theorem d34_8 : decode method_2_code 8 = .ok (.bipush 42, 2) := by decide +kernel
theorem d34_10 : decode method_2_code 10 = .ok (.ireturn, 1) := by decide +kernel
theorem d34_11 : decode method_2_code 11 = .ok (.iload_n 1, 1) := by decide +kernel
theorem d34_12 : decode method_2_code 12 = .ok (.iconst 1, 1) := by decide +kernel
theorem d34_13 : decode method_2_code 13 = .ok (.if_icmp .ne 6, 3) := by decide +kernel
theorem d34_16 : decode method_2_code 16 = .ok (.bipush 63, 2) := by decide +kernel
theorem d34_18 : decode method_2_code 18 = .ok (.ireturn, 1) := by decide +kernel
theorem d34_19 : decode method_2_code 19 = .ok (.iload_n 0, 1) := by decide +kernel
theorem d34_20 : decode method_2_code 20 = .ok (.iconst 2, 1) := by decide +kernel
theorem d34_21 : decode method_2_code 21 = .ok (.iushr, 1) := by decide +kernel
theorem d34_22 : decode method_2_code 22 = .ok (.ldc 7, 2) := by decide +kernel
theorem d34_24 : decode method_2_code 24 = .ok (.iand, 1) := by decide +kernel
theorem d34_25 : decode method_2_code 25 = .ok (.i2c, 1) := by decide +kernel
theorem d34_26 : decode method_2_code 26 = .ok (.ireturn, 1) := by decide +kernel
theorem own_ch (x : Int32) : ¬ x.toUInt32.toUInt16.toUInt32.toInt32 < 0 ∧ ¬ (65535 : Int32) < x.toUInt32.toUInt16.toUInt32.toInt32 := by
  have := c_i2c x
  constructor <;> rw [Int32.lt_iff_toInt_lt]
  · show ¬ _ < (0 : Int); omega
  · show ¬ (65535 : Int) < _; omega
set_option maxRecDepth 65536 in
theorem rmPk (l : Launch) (Z : State) (a0 : Array Value) (hw : ∀ d ∈ tables_1, d.before a0 Z = true) (p : Int32) (h0 : Heap) : Con l Z [] [] false (⟨"com/example/vigilant_scheduler/vigilantscheduler/job/JobIdPatternIsPlainIdPinLaw", "pick", "(I)C"⟩ : MethodName) method_2_code 2 (some .char) RZ #[.int p] h0 (rV fun v h => (∃ c, v = .int c ∧ ¬ c < 0 ∧ ¬ (65535 : Int32) < c ∧ nar .char c = c) ∧ h0 = h) := by
  refine body (ls := #[.val (.int p), .unset]) (plainFor_of_name pn_0) (fun m => by first | (simp [entryFrame, mkF, argsToLocals, Value.category]; done) | rfl) fun K ok => ?_
  refine r_iloadN (pc' := 1) ok rfl d34_0 rfl ?_
  refine r_iconstV (pc' := 2) ok rfl (3 : Int32) d34_1 rfl ?_
  refine r_iand (pc' := 3) ok rfl d34_2 ?_
  refine r_istoreN (pc' := 4) (ls' := fun z => #[.val (.int p), .val (.int z)]) ok rfl d34_3 (fun _ => rfl) ?_
  intro v3 ev3
  refine r_iloadN (pc' := 5) ok rfl d34_4 rfl ?_
  refine r_if_ne (pc' := 8) (pcY := 11) ok rfl d34_5 (by decide) (by decide) ?_ ?_
  rotate_left
  · intro hc
    refine r_bipushV (pc' := 10) ok rfl (42 : Int32) d34_8 rfl ?_
    refine r_ireturn ok d34_10 rfl (by simp) (by decide) (by decide) ?_
    exact ⟨⟨_, rfl, by decide, by decide, by decide⟩, rfl⟩
  intro _
  refine r_iloadN (pc' := 12) ok rfl d34_11 rfl ?_
  refine r_iconstV (pc' := 13) ok rfl (1 : Int32) d34_12 rfl ?_
  refine r_icmp_ne (pc' := 16) (pcY := 19) ok rfl d34_13 (by decide) (by decide) ?_ ?_
  rotate_left
  · intro hc
    refine r_bipushV (pc' := 18) ok rfl (63 : Int32) d34_16 rfl ?_
    refine r_ireturn ok d34_18 rfl (by simp) (by decide) (by decide) ?_
    exact ⟨⟨_, rfl, by decide, by decide, by decide⟩, rfl⟩
  intro _
  refine r_iloadN (pc' := 20) ok rfl d34_19 rfl ?_
  refine r_iconstV (pc' := 21) ok rfl (2 : Int32) d34_20 rfl ?_
  refine r_iushr (pc' := 22) ok rfl d34_21 ?_
  refine r_ldcI (pc' := 24) ok rfl d34_22 (hw _ (List.mem_of_getElem? (i := 4) rfl)) ?_
  refine r_iand (pc' := 25) ok rfl d34_24 ?_
  refine r_i2c (pc' := 26) ok rfl d34_25 ?_
  refine r_ireturn ok d34_26 (by show Value.int _ = _; simp only [UInt32.toUInt32_toInt32, UInt16.toUInt16_toUInt32]) (by simp) (by decide) (by decide) ?_
  exact ⟨⟨_, rfl, (own_ch _).1, (own_ch _).2, by simp only [nar, UInt32.toUInt32_toInt32, UInt16.toUInt16_toUInt32]⟩, rfl⟩
theorem own_m {x : Int32} : (x &&& 3) = 0 ∨ (x &&& 3) = 1 ∨ (x &&& 3) = 2 ∨ (x &&& 3) = 3 := by
  have h := c_mask x 3 2 (by decide) (by decide)
  have e : (x &&& 3).toInt = 0 ∨ (x &&& 3).toInt = 1 ∨ (x &&& 3).toInt = 2 ∨ (x &&& 3).toInt = 3 := by omega
  rcases e with e | e | e | e
  · exact Or.inl (Int32.toInt_inj.mp e)
  · exact Or.inr (Or.inl (Int32.toInt_inj.mp e))
  · exact Or.inr (Or.inr (Or.inl (Int32.toInt_inj.mp e)))
  · exact Or.inr (Or.inr (Or.inr (Int32.toInt_inj.mp e)))
theorem own_first (cs : List Int32) : (∀ c ∈ cs, ¬ (255 : Int32) < c) ∨ ∃ i0, i0 < cs.length ∧ (∀ j, j < i0 → ¬ (255 : Int32) < cs.getD j 0) ∧ (255 : Int32) < cs.getD i0 0 := by
  induction cs with
  | nil => exact Or.inl (fun c hc => nomatch hc)
  | cons x xs ih =>
    by_cases hx : (255 : Int32) < x
    · exact Or.inr ⟨0, by simp, fun j hj => absurd hj (Nat.not_lt_zero _), by simpa using hx⟩
    · rcases ih with q | ⟨i0, q1, q2, q3⟩
      · exact Or.inl (fun c hc => by rcases List.mem_cons.mp hc with rfl | hc; exact hx; exact q c hc)
      · refine Or.inr ⟨i0 + 1, by simpa using q1, fun j hj => ?_, by simpa using q3⟩
        cases j with
        | zero => simpa using hx
        | succ j => simpa using q2 j (by omega)
theorem own_has0 (c : Int32) : ¬ HasC [] c := fun ⟨j, hj, _⟩ => absurd hj (Nat.not_lt_zero _)
theorem own_hasC (x : Int32) (xs : List Int32) (c : Int32) : HasC (x :: xs) c ↔ x = c ∨ HasC xs c := by
  constructor
  · rintro ⟨j, hj, e⟩
    cases j with
    | zero => exact Or.inl (by simpa using e)
    | succ j => exact Or.inr ⟨j, by simpa using hj, by simpa using e⟩
  · rintro (e | ⟨j, hj, e⟩)
    · exact ⟨0, by simp, by simpa using e⟩
    · exact ⟨j + 1, by simpa using hj, by simpa using e⟩
def Wild (c : Int32) : Prop := c = 42 ∨ c = 63
open Classical in
set_option maxRecDepth 65536 in
theorem rm0 (l : Launch) (Z : State) (a0 : Array Value) (hw : ∀ d ∈ tables_1, d.before a0 Z = true) (p1 p2 p3 p4 : Int32) (G1 : Int32) (S1 : Sta Z Z.heap ST "COMPACT_STRINGS" "Z" (.int G1)) (P1 : ¬ G1 = 0) (FM : Value) (hFM : FM.isRef = true) (S8 : Sta Z Z.heap "jdk/internal/util/Preconditions" "SIOOBE_FORMATTER" "Ljava/util/function/BiFunction;" FM) (A1 : Sta Z Z.heap SU "$assertionsDisabled" "Z" (.int 1)) (A2 : Sta Z Z.heap SU "HI_BYTE_SHIFT" "I" (.int 0)) (A3 : Sta Z Z.heap SU "LO_BYTE_SHIFT" "I" (.int 8)) :
    Con l Z EL1 tables_1 true x code maxLocals ret room_1 #[.int p1, .int p2, .int p3, .int p4] Z.heap (rV fun x _ => x = .int 1) := by
  refine body (ls := #[.val (.int p1), .val (.int p2), .val (.int p3), .val (.int p4), .unset, .unset, .unset, .unset, .unset, .unset, .unset, .unset]) (plainFor_of_name pn_0) (fun m => by first | (simp [entryFrame, mkF, argsToLocals, Value.category, maxLocals]; done) | rfl) fun K ok => ?_
  refine r_iloadN (pc' := 1) ok rfl at_0 rfl ?_
  refine r_iconstV (pc' := 2) ok rfl (3 : Int32) at_1 rfl ?_
  refine r_iand (pc' := 3) ok rfl at_2 ?_
  refine r_istore (pc' := 5) (ls' := fun z => #[.val (.int p1), .val (.int p2), .val (.int p3), .val (.int p4), .val (.int z), .unset, .unset, .unset, .unset, .unset, .unset, .unset]) ok rfl at_3 (fun _ => rfl) ?_
  intro v3 ev3
  refine r_iload (pc' := 7) ok rfl at_5 rfl ?_
  refine r_iconstV (pc' := 8) ok rfl (3 : Int32) at_7 rfl ?_
  suffices J : ∀ m : Nat, m ≤ 3 → Run Z K Cln Z.heap 0 0 18 #[.val (.int p1), .val (.int p2), .val (.int p3), .val (.int p4), .val (.int (Int32.ofNat m)), .unset, .unset, .unset, .unset, .unset, .unset, .unset] [] by
    have mm : ∀ x : Int32, ∃ m : Nat, m ≤ 3 ∧ (x &&& 3) = Int32.ofNat m := fun x => by
      rcases own_m (x := x) with e | e | e | e
      · exact ⟨0, by decide, e⟩
      · exact ⟨1, by decide, e⟩
      · exact ⟨2, by decide, e⟩
      · exact ⟨3, by decide, e⟩
    refine r_icmp_ne (pc' := 11) (pcY := 18) ok rfl at_8 (by decide) (by decide) ?_ ?_
    · intro hc
      obtain ⟨m, hm, e⟩ := mm p1
      rw [ev3, e]
      exact J m hm
    · intro hc
      refine r_iloadN (pc' := 12) ok rfl at_11 rfl ?_
      refine r_iconstV (pc' := 13) ok rfl (2 : Int32) at_12 rfl ?_
      refine r_iushr (pc' := 14) ok rfl at_13 ?_
      refine r_iconstV (pc' := 15) ok rfl (3 : Int32) at_14 rfl ?_
      refine r_iand (pc' := 16) ok rfl at_15 ?_
      refine r_istore (pc' := 18) (ls' := fun z => #[.val (.int p1), .val (.int p2), .val (.int p3), .val (.int p4), .val (.int z), .unset, .unset, .unset, .unset, .unset, .unset, .unset]) ok rfl at_16 (fun _ => rfl) ?_
      intro v16 ev16
      obtain ⟨m, hm, e⟩ := mm _
      rw [ev16, e]
      exact J m hm
  intro m hm
  refine r_iload (pc' := 20) ok rfl at_18 rfl ?_
  refine r_iconstV (pc' := 21) ok rfl (3 : Int32) at_20 rfl ?_
  refine r_icmp_le (pc' := 24) (pcY := 27) ok rfl at_21 (by decide) (by decide) ?_ ?_
  rotate_left
  · intro hc
    exact absurd ((ofN_lt (i := 3) (by omega) (by omega)).mp hc) (by omega)
  intro _
  refine r_iloadN (pc' := 28) ok rfl at_27 rfl ?_
  refine r_static (pc' := 31) ok rfl at_28 (hw _ (List.mem_of_getElem? (i := 0) rfl)) (hw _ (List.mem_of_getElem? (i := 1) rfl)) (hw _ (List.mem_of_getElem? (i := 2) rfl)) (hw _ (List.mem_of_getElem? (i := 3) rfl)) (by decide) pd_0 (Con.pay (W := 0) (rmPk l Z a0 hw p2 Z.heap) EW.nil (hw _ (List.mem_of_getElem? (i := 3) rfl)) (hw _ (List.mem_of_getElem? (i := 2) rfl)) (by decide) (by decide)) (fun q => nomatch q) (Or.inl rfl) rfl (argsL := [(.int p2)]) (rest := []) rfl rfl rfl (Nat.le_of_ble_eq_true rfl) (by decide) (by decide) (cV fun x1 h1 q1 le1 => ?_)
  obtain ⟨⟨c0, rfl, lo0, hi0, nr0⟩, rfl⟩ := q1
  refine r_istore (pc' := 33) (ls' := fun z => #[.val (.int p1), .val (.int p2), .val (.int p3), .val (.int p4), .val (.int (Int32.ofNat m)), .val (.int z), .unset, .unset, .unset, .unset, .unset, .unset]) ok rfl at_31 (fun _ => rfl) ?_
  intro v31 ev31
  refine r_iloadN (pc' := 34) ok rfl at_33 rfl ?_
  refine r_static (pc' := 37) ok rfl at_34 (hw _ (List.mem_of_getElem? (i := 0) rfl)) (hw _ (List.mem_of_getElem? (i := 1) rfl)) (hw _ (List.mem_of_getElem? (i := 2) rfl)) (hw _ (List.mem_of_getElem? (i := 3) rfl)) (by decide) pd_0 (Con.pay (W := 0) (rmPk l Z a0 hw p3 Z.heap) EW.nil (hw _ (List.mem_of_getElem? (i := 3) rfl)) (hw _ (List.mem_of_getElem? (i := 2) rfl)) (by decide) (by decide)) (fun q => nomatch q) (Or.inl rfl) rfl (argsL := [(.int p3)]) (rest := []) rfl rfl rfl (Nat.le_of_ble_eq_true rfl) (by decide) (by decide) (cV fun x2 h2 q2 le2 => ?_)
  obtain ⟨⟨c1, rfl, lo1, hi1, nr1⟩, rfl⟩ := q2
  refine r_istore (pc' := 39) (ls' := fun z => #[.val (.int p1), .val (.int p2), .val (.int p3), .val (.int p4), .val (.int (Int32.ofNat m)), .val (.int v31), .val (.int z), .unset, .unset, .unset, .unset, .unset]) ok rfl at_37 (fun _ => rfl) ?_
  intro v37 ev37
  refine r_iloadN (pc' := 40) ok rfl at_39 rfl ?_
  refine r_static (pc' := 43) ok rfl at_40 (hw _ (List.mem_of_getElem? (i := 0) rfl)) (hw _ (List.mem_of_getElem? (i := 1) rfl)) (hw _ (List.mem_of_getElem? (i := 2) rfl)) (hw _ (List.mem_of_getElem? (i := 3) rfl)) (by decide) pd_0 (Con.pay (W := 0) (rmPk l Z a0 hw p4 Z.heap) EW.nil (hw _ (List.mem_of_getElem? (i := 3) rfl)) (hw _ (List.mem_of_getElem? (i := 2) rfl)) (by decide) (by decide)) (fun q => nomatch q) (Or.inl rfl) rfl (argsL := [(.int p4)]) (rest := []) rfl rfl rfl (Nat.le_of_ble_eq_true rfl) (by decide) (by decide) (cV fun x3 h3 q3 le3 => ?_)
  obtain ⟨⟨c2, rfl, lo2, hi2, nr2⟩, rfl⟩ := q3
  refine r_istore (pc' := 45) (ls' := fun z => #[.val (.int p1), .val (.int p2), .val (.int p3), .val (.int p4), .val (.int (Int32.ofNat m)), .val (.int v31), .val (.int v37), .val (.int z), .unset, .unset, .unset, .unset]) ok rfl at_43 (fun _ => rfl) ?_
  intro v43 ev43
  rw [ev31, ev37, ev43]
  -- behind the String's constructor
  suffices J : ∀ (h : Heap) (x : Addr) (ar : Addr), StrA Z h x ([c0, c1, c2].take m) → Run Z K Dty h 6 30 130 #[.val (.int p1), .val (.int p2), .val (.int p3), .val (.int p4), .val (.int (Int32.ofNat m)), .val (.int c0), .val (.int c1), .val (.int c2), .val (.ref ar), .unset, .unset, .unset] [.ref x] by
    have mk : ∀ (h : Heap) (b : Addr) (kc : ClassId) (cs : List Int32), cs = [c0, c1, c2].take m → 0 < cs.length → cs.length ≤ 3 → Arv Z h b kc .char (Int32.ofNat cs.length) (cs.map Value.int) (.int 0) → Run Z K Cln h 1 3 121 #[.val (.int p1), .val (.int p2), .val (.int p3), .val (.int p4), .val (.int (Int32.ofNat m)), .val (.int c0), .val (.int c1), .val (.int c2), .val (.ref b), .unset, .unset, .unset] [] := by
      intro h b kc cs hcs l0 l3 V
      have hch : ∀ c ∈ cs, ¬ c < 0 ∧ ¬ (65535 : Int32) < c := fun c hc => by
        rw [hcs] at hc
        have := List.mem_of_mem_take hc
        simp only [List.mem_cons, List.not_mem_nil, or_false] at this
        rcases this with rfl | rfl | rfl
        · exact ⟨lo0, hi0⟩
        · exact ⟨lo1, hi1⟩
        · exact ⟨lo2, hi2⟩
      refine r_new (pc' := 124) ok rfl at_121 (hw _ (List.mem_of_getElem? (i := 6) rfl)) (hw _ (List.mem_of_getElem? (i := 7) rfl)) (hw _ (List.mem_of_getElem? (i := 8) rfl)) (by decide) (by decide) ?_
      intro h7 b7 g7 z7 E7 A7 D7
      have Fc := D7 (Or.inr (hw _ (List.mem_of_getElem? (i := 22) rfl))) (ty := .byte) (by decide)
      have Fv := D7 (Or.inr (hw _ (List.mem_of_getElem? (i := 21) rfl))) (ty := (.array .byte)) (by decide)
      refine r_dup (pc' := 125) ok rfl at_124 rfl ?_
      refine r_aload (pc' := 127) ok rfl at_125 rfl rfl ?_
      rcases own_first cs with hlo | ⟨i0, q1, q2, q3⟩
      · skip
        refine r_special (pc' := 130) ok rfl at_127 rfl (hw _ (List.mem_of_getElem? (i := 9) rfl)) (hw _ (List.mem_of_getElem? (i := 10) rfl)) (hw _ (List.mem_of_getElem? (i := 11) rfl)) (by decide) pd_1 (payStr l Z a0 hw room_1 (W := 1) 3 (by decide +kernel) (hw _ (List.mem_of_getElem? (i := 7) rfl)) z7 A7 Fv Fc (V.ext E7) S1 P1 rfl l0 l3 (by decide) (fun c hc => ⟨(hch c hc).1, hlo c hc⟩) (by decide) (by decide)) (fun q => nomatch q) (Or.inl rfl) rfl (argsL := [(.ref b)]) (rest := [(.ref b7)]) rfl rfl rfl (Nat.le_of_ble_eq_true rfl) (by decide) (by decide) (cU fun h8 q8 le8 => ?_)
        obtain ⟨K8, A8, Gc, t8, kb8, zt, ht, hne, Gv, Gb⟩ := q8
        refine r_more (m1 := 6) (m2 := 30) (by decide) (by decide) (r_ph (fun _ _ _ => trivial) (J h8 b7 b ?_))
        rw [← hcs]
        exact ⟨A8, t8, kb8, 0, _, _, Gv, Gc, Gb, Or.inl ⟨rfl, rfl, rfl, hlo⟩⟩
      · skip
        refine r_special (pc' := 130) ok rfl at_127 rfl (hw _ (List.mem_of_getElem? (i := 9) rfl)) (hw _ (List.mem_of_getElem? (i := 10) rfl)) (hw _ (List.mem_of_getElem? (i := 11) rfl)) (by decide) pd_1 (Con.pay (W := 1) (rmS1u l Z a0 hw b7 b kc (Int32.ofNat cs.length) G1 cs _ _ _ i0 h7 S1 P1 A1 A2 A3 rfl l3 q1 q2 q3 hch (V.ext E7) A7 Fv Fc z7) EW.nil (hw _ (List.mem_of_getElem? (i := 11) rfl)) (hw _ (List.mem_of_getElem? (i := 8) rfl)) (by decide) (by decide)) (fun q => nomatch q) (Or.inl rfl) rfl (argsL := [(.ref b)]) (rest := [(.ref b7)]) rfl rfl rfl (Nat.le_of_ble_eq_true rfl) (by decide) (by decide) (cU fun h8 q8 le8 => ?_)
        obtain ⟨K8, A8, Gc, t8, kb8, vs8, Gv, hvl, hwb, Gb⟩ := q8
        refine r_more (m1 := 6) (m2 := 30) (by decide) (by decide) (r_ph (fun _ _ _ => trivial) (J h8 b7 b ?_))
        rw [← hcs]
        exact ⟨A8, t8, kb8, 1, _, vs8, Gv, Gc, Gb, Or.inr ⟨rfl, rfl, hvl, hwb⟩⟩
    obtain rfl | rfl | rfl | rfl : m = 0 ∨ m = 1 ∨ m = 2 ∨ m = 3 := by omega
    · skip
      refine r_iload (pc' := 47) ok rfl at_45 rfl ?_
      refine r_if_ne (pc' := 50) (pcY := 58) ok rfl at_47 (by decide) (by decide) ?_ ?_
      · intro hc
        exact absurd rfl hc
      intro _
      refine r_iconstV (pc' := 51) ok rfl (0 : Int32) at_50 rfl ?_
      refine r_newarray (pc' := 53) ok rfl (0) at_51 (hw _ (List.mem_of_getElem? (i := 5) rfl)) (by decide) (by decide) (by decide) (by decide) (by decide) ?_
      intro h5 b5 k5 g5 z5 E5 V5
      refine r_astore (pc' := 55) (ls' := #[.val (.int p1), .val (.int p2), .val (.int p3), .val (.int p4), .val (.int (Int32.ofNat 0)), .val (.int c0), .val (.int c1), .val (.int c2), .val (.ref b5), .unset, .unset, .unset]) ok rfl at_53 rfl rfl ?_
      refine r_goto (pc' := 121) ok at_55 (by decide) (by decide) ?_
      refine r_new (pc' := 124) ok rfl at_121 (hw _ (List.mem_of_getElem? (i := 6) rfl)) (hw _ (List.mem_of_getElem? (i := 7) rfl)) (hw _ (List.mem_of_getElem? (i := 8) rfl)) (by decide) (by decide) ?_
      intro h7 b7 g7 z7 E7 A7 D7
      have Fc := D7 (Or.inr (hw _ (List.mem_of_getElem? (i := 22) rfl))) (ty := .byte) (by decide)
      have Fv := D7 (Or.inr (hw _ (List.mem_of_getElem? (i := 21) rfl))) (ty := (.array .byte)) (by decide)
      refine r_dup (pc' := 125) ok rfl at_124 rfl ?_
      refine r_aload (pc' := 127) ok rfl at_125 rfl rfl ?_
      refine r_special (pc' := 130) ok rfl at_127 rfl (hw _ (List.mem_of_getElem? (i := 9) rfl)) (hw _ (List.mem_of_getElem? (i := 10) rfl)) (hw _ (List.mem_of_getElem? (i := 11) rfl)) (by decide) pd_1 (Con.pay (W := 1) (rmS1 l Z a0 hw b7 b5 k5 _ _ h7 A7 Fv Fc z7 (V5.ext E7)) (hEW Z a0 hw) (hw _ (List.mem_of_getElem? (i := 11) rfl)) (hw _ (List.mem_of_getElem? (i := 8) rfl)) (by decide) (by decide)) (fun _ => rfl) (Or.inr ⟨rfl, fun _ _ q => q⟩) rfl (argsL := [(.ref b5)]) (rest := [(.ref b7)]) rfl rfl rfl (Nat.le_of_ble_eq_true rfl) (by decide) (by decide) (cU fun h8 q8 le8 => ?_)
      obtain ⟨K8, A8, Gc, t8, kb8, Gv, Gb⟩ := q8
      refine r_more (m1 := 6) (m2 := 30) (by decide) (by decide) (J h8 b7 b5 ?_)
      exact ⟨A8, t8, kb8, 0, _, _, Gv, Gc, Gb, Or.inl ⟨rfl, rfl, rfl, fun c hc => nomatch hc⟩⟩
    · skip
      refine r_iload (pc' := 47) ok rfl at_45 rfl ?_
      refine r_if_ne (pc' := 50) (pcY := 58) ok rfl at_47 (by decide) (by decide) ?_ ?_
      rotate_left
      · intro hc
        exact absurd hc (by decide)
      intro _
      refine r_iload (pc' := 60) ok rfl at_58 rfl ?_
      refine r_iconstV (pc' := 61) ok rfl (1 : Int32) at_60 rfl ?_
      refine r_icmp_ne (pc' := 64) (pcY := 77) ok rfl at_61 (by decide) (by decide) ?_ ?_
      · intro hc
        exact absurd rfl hc
      intro _
      refine r_iconstV (pc' := 65) ok rfl (1 : Int32) at_64 rfl ?_
      refine r_newarray (pc' := 67) ok rfl (1) at_65 (hw _ (List.mem_of_getElem? (i := 5) rfl)) (by decide) (by decide) (by decide) (by decide) (by decide) ?_
      intro h5 b5 k5 g5 z5 E5 V5
      replace V5 := V5.pad (pad_rep [] _ 1)
      refine r_dup (pc' := 68) ok rfl at_67 rfl ?_
      refine r_iconstV (pc' := 69) ok rfl (0 : Int32) at_68 rfl ?_
      refine r_iload (pc' := 71) ok rfl at_69 rfl ?_
      refine r_castore (pc' := 72) ok rfl 0 at_71 V5 z5 (by decide) rfl (by simp) ?_
      intro h6 W6 V6
      rw [nr0] at V6
      refine r_astore (pc' := 74) (ls' := #[.val (.int p1), .val (.int p2), .val (.int p3), .val (.int p4), .val (.int (Int32.ofNat 1)), .val (.int c0), .val (.int c1), .val (.int c2), .val (.ref b5), .unset, .unset, .unset]) ok rfl at_72 rfl rfl ?_
      refine r_goto (pc' := 121) ok at_74 (by decide) (by decide) ?_
      exact r_more (by decide) (by decide) (mk h6 b5 k5 [c0] rfl (by simp) (by simp) V6)
    · skip
      refine r_iload (pc' := 47) ok rfl at_45 rfl ?_
      refine r_if_ne (pc' := 50) (pcY := 58) ok rfl at_47 (by decide) (by decide) ?_ ?_
      rotate_left
      · intro hc
        exact absurd hc (by decide)
      intro _
      refine r_iload (pc' := 60) ok rfl at_58 rfl ?_
      refine r_iconstV (pc' := 61) ok rfl (1 : Int32) at_60 rfl ?_
      refine r_icmp_ne (pc' := 64) (pcY := 77) ok rfl at_61 (by decide) (by decide) ?_ ?_
      rotate_left
      · intro hc
        exact absurd hc (by decide)
      intro _
      refine r_iload (pc' := 79) ok rfl at_77 rfl ?_
      refine r_iconstV (pc' := 80) ok rfl (2 : Int32) at_79 rfl ?_
      refine r_icmp_ne (pc' := 83) (pcY := 101) ok rfl at_80 (by decide) (by decide) ?_ ?_
      · intro hc
        exact absurd rfl hc
      intro _
      refine r_iconstV (pc' := 84) ok rfl (2 : Int32) at_83 rfl ?_
      refine r_newarray (pc' := 86) ok rfl (2) at_84 (hw _ (List.mem_of_getElem? (i := 5) rfl)) (by decide) (by decide) (by decide) (by decide) (by decide) ?_
      intro h5 b5 k5 g5 z5 E5 V5
      replace V5 := V5.pad (pad_rep [] _ 2)
      refine r_dup (pc' := 87) ok rfl at_86 rfl ?_
      refine r_iconstV (pc' := 88) ok rfl (0 : Int32) at_87 rfl ?_
      refine r_iload (pc' := 90) ok rfl at_88 rfl ?_
      refine r_castore (pc' := 91) ok rfl 0 at_90 V5 z5 (by decide) rfl (by simp) ?_
      intro h6 W6 V6
      refine r_dup (pc' := 92) ok rfl at_91 rfl ?_
      refine r_iconstV (pc' := 93) ok rfl (1 : Int32) at_92 rfl ?_
      refine r_iload (pc' := 95) ok rfl at_93 rfl ?_
      refine r_castore (pc' := 96) ok rfl 1 at_95 V6 z5 (by decide) rfl (by simp) ?_
      intro h7 W7 V7
      rw [nr0, nr1] at V7
      refine r_astore (pc' := 98) (ls' := #[.val (.int p1), .val (.int p2), .val (.int p3), .val (.int p4), .val (.int (Int32.ofNat 2)), .val (.int c0), .val (.int c1), .val (.int c2), .val (.ref b5), .unset, .unset, .unset]) ok rfl at_96 rfl rfl ?_
      refine r_goto (pc' := 121) ok at_98 (by decide) (by decide) ?_
      exact r_more (by decide) (by decide) (mk h7 b5 k5 [c0, c1] rfl (by simp) (by simp) V7)
    · skip
      refine r_iload (pc' := 47) ok rfl at_45 rfl ?_
      refine r_if_ne (pc' := 50) (pcY := 58) ok rfl at_47 (by decide) (by decide) ?_ ?_
      rotate_left
      · intro hc
        exact absurd hc (by decide)
      intro _
      refine r_iload (pc' := 60) ok rfl at_58 rfl ?_
      refine r_iconstV (pc' := 61) ok rfl (1 : Int32) at_60 rfl ?_
      refine r_icmp_ne (pc' := 64) (pcY := 77) ok rfl at_61 (by decide) (by decide) ?_ ?_
      rotate_left
      · intro hc
        exact absurd hc (by decide)
      intro _
      refine r_iload (pc' := 79) ok rfl at_77 rfl ?_
      refine r_iconstV (pc' := 80) ok rfl (2 : Int32) at_79 rfl ?_
      refine r_icmp_ne (pc' := 83) (pcY := 101) ok rfl at_80 (by decide) (by decide) ?_ ?_
      rotate_left
      · intro hc
        exact absurd hc (by decide)
      intro _
      refine r_iconstV (pc' := 102) ok rfl (3 : Int32) at_101 rfl ?_
      refine r_newarray (pc' := 104) ok rfl (3) at_102 (hw _ (List.mem_of_getElem? (i := 5) rfl)) (by decide) (by decide) (by decide) (by decide) (by decide) ?_
      intro h5 b5 k5 g5 z5 E5 V5
      replace V5 := V5.pad (pad_rep [] _ 3)
      refine r_dup (pc' := 105) ok rfl at_104 rfl ?_
      refine r_iconstV (pc' := 106) ok rfl (0 : Int32) at_105 rfl ?_
      refine r_iload (pc' := 108) ok rfl at_106 rfl ?_
      refine r_castore (pc' := 109) ok rfl 0 at_108 V5 z5 (by decide) rfl (by simp) ?_
      intro h6 W6 V6
      refine r_dup (pc' := 110) ok rfl at_109 rfl ?_
      refine r_iconstV (pc' := 111) ok rfl (1 : Int32) at_110 rfl ?_
      refine r_iload (pc' := 113) ok rfl at_111 rfl ?_
      refine r_castore (pc' := 114) ok rfl 1 at_113 V6 z5 (by decide) rfl (by simp) ?_
      intro h7 W7 V7
      refine r_dup (pc' := 115) ok rfl at_114 rfl ?_
      refine r_iconstV (pc' := 116) ok rfl (2 : Int32) at_115 rfl ?_
      refine r_iload (pc' := 118) ok rfl at_116 rfl ?_
      refine r_castore (pc' := 119) ok rfl 2 at_118 V7 z5 (by decide) rfl (by simp) ?_
      intro h8 W8 V8
      rw [nr0, nr1, nr2] at V8
      refine r_astore (pc' := 121) (ls' := #[.val (.int p1), .val (.int p2), .val (.int p3), .val (.int p4), .val (.int (Int32.ofNat 3)), .val (.int c0), .val (.int c1), .val (.int c2), .val (.ref b5), .unset, .unset, .unset]) ok rfl at_119 rfl rfl ?_
      exact r_more (by decide) (by decide) (mk h8 b5 k5 [c0, c1, c2] rfl (by simp) (by simp) V8)
  intro h x ar Sx
  refine r_astore (pc' := 132) (ls' := #[.val (.int p1), .val (.int p2), .val (.int p3), .val (.int p4), .val (.int (Int32.ofNat m)), .val (.int c0), .val (.int c1), .val (.int c2), .val (.ref ar), .val (.ref x), .unset, .unset]) ok rfl at_130 rfl rfl ?_
  refine r_iload (pc' := 134) ok rfl at_132 rfl ?_
  refine r_iconstV (pc' := 135) ok rfl (1 : Int32) at_134 rfl ?_
  -- wild
  suffices J : ∀ e : Int32, (e = if HasC ([c0, c1, c2].take m) 42 ∨ HasC ([c0, c1, c2].take m) 63 then 1 else 0) → Run Z K Dty h 6 30 179 #[.val (.int p1), .val (.int p2), .val (.int p3), .val (.int p4), .val (.int (Int32.ofNat m)), .val (.int c0), .val (.int c1), .val (.int c2), .val (.ref ar), .val (.ref x), .unset, .unset] [.int e] by
    have w0 : 1 ≤ m → Wild c0 → HasC ([c0, c1, c2].take m) 42 ∨ HasC ([c0, c1, c2].take m) 63 := fun q r => by
      obtain rfl | rfl | rfl : m = 1 ∨ m = 2 ∨ m = 3 := by omega
      all_goals simp only [List.take, own_hasC]; rcases r with r | r <;> simp [r]
    have w1 : 2 ≤ m → Wild c1 → HasC ([c0, c1, c2].take m) 42 ∨ HasC ([c0, c1, c2].take m) 63 := fun q r => by
      obtain rfl | rfl : m = 2 ∨ m = 3 := by omega
      all_goals simp only [List.take, own_hasC]; rcases r with r | r <;> simp [r]
    have w2 : 3 ≤ m → Wild c2 → HasC ([c0, c1, c2].take m) 42 ∨ HasC ([c0, c1, c2].take m) 63 := fun q r => by
      obtain rfl : m = 3 := by omega
      simp only [List.take, own_hasC]; rcases r with r | r <;> simp [r]
    have wn : (1 ≤ m → ¬ Wild c0) → (2 ≤ m → ¬ Wild c1) → (3 ≤ m → ¬ Wild c2) → ¬ (HasC ([c0, c1, c2].take m) 42 ∨ HasC ([c0, c1, c2].take m) 63) := fun q0 q1 q2 r => by
      obtain rfl | rfl | rfl | rfl : m = 0 ∨ m = 1 ∨ m = 2 ∨ m = 3 := by omega
      all_goals
        simp only [List.take, own_hasC, own_has0, or_false, Wild] at * <;> simp_all
    have T3 : (1 ≤ m → ¬ Wild c0) → (2 ≤ m → ¬ Wild c1) → Run Z K Dty h 6 30 160 #[.val (.int p1), .val (.int p2), .val (.int p3), .val (.int p4), .val (.int (Int32.ofNat m)), .val (.int c0), .val (.int c1), .val (.int c2), .val (.ref ar), .val (.ref x), .unset, .unset] [] := by
      intro q0 q1
      refine r_iload (pc' := 162) ok rfl at_160 rfl ?_
      refine r_iconstV (pc' := 163) ok rfl (3 : Int32) at_162 rfl ?_
      refine r_icmp_lt (pc' := 166) (pcY := 178) ok rfl at_163 (by decide) (by decide) ?_ ?_
      · intro hc
        refine r_iconstV (pc' := 179) ok rfl (0 : Int32) at_178 rfl ?_
        have m3 := (ofN_lt (n := 3) (by omega) (by omega)).mp hc
        exact J _ (by rw [if_neg (wn q0 q1 (fun q => absurd q (by omega)))])
      intro hc
      have m3 : 3 ≤ m := Nat.le_of_not_lt fun q => hc ((ofN_lt (n := 3) (by omega) (by omega)).mpr q)
      refine r_iload (pc' := 168) ok rfl at_166 rfl ?_
      refine r_static (pc' := 171) ok rfl at_168 (hw _ (List.mem_of_getElem? (i := 81) rfl)) (hw _ (List.mem_of_getElem? (i := 82) rfl)) (hw _ (List.mem_of_getElem? (i := 2) rfl)) (hw _ (List.mem_of_getElem? (i := 83) rfl)) (by decide) pd_15 (Con.pay (W := 0) (rmWi l Z a0 hw c2 h) EW.nil (hw _ (List.mem_of_getElem? (i := 83) rfl)) (hw _ (List.mem_of_getElem? (i := 2) rfl)) (by decide) (by decide)) (fun q => nomatch q) (Or.inl rfl) rfl (argsL := [(.int c2)]) (rest := []) rfl rfl rfl (Nat.le_of_ble_eq_true rfl) (by decide) (by decide) (cV fun x1 h1 q1 le1 => ?_)
      obtain ⟨rfl, rfl⟩ := q1
      by_cases hq : c2 = 42 ∨ c2 = 63
      · rw [if_pos hq]
        refine r_if_eq (pc' := 174) (pcY := 178) ok rfl at_171 (by decide) (by decide) ?_ ?_
        · intro hd
          exact absurd hd (by decide)
        intro _
        refine r_iconstV (pc' := 175) ok rfl (1 : Int32) at_174 rfl ?_
        refine r_goto (pc' := 179) ok at_175 (by decide) (by decide) ?_
        exact J _ (by rw [if_pos (w2 m3 hq)])
      · rw [if_neg hq]
        refine r_if_eq (pc' := 174) (pcY := 178) ok rfl at_171 (by decide) (by decide) ?_ ?_
        rotate_left
        · intro hd
          exact absurd rfl hd
        intro _
        refine r_iconstV (pc' := 179) ok rfl (0 : Int32) at_178 rfl ?_
        exact J _ (by rw [if_neg (wn q0 q1 (fun _ => hq))])
    have T2 : (1 ≤ m → ¬ Wild c0) → Run Z K Dty h 6 30 146 #[.val (.int p1), .val (.int p2), .val (.int p3), .val (.int p4), .val (.int (Int32.ofNat m)), .val (.int c0), .val (.int c1), .val (.int c2), .val (.ref ar), .val (.ref x), .unset, .unset] [] := by
      intro q0
      refine r_iload (pc' := 148) ok rfl at_146 rfl ?_
      refine r_iconstV (pc' := 149) ok rfl (2 : Int32) at_148 rfl ?_
      refine r_icmp_lt (pc' := 152) (pcY := 160) ok rfl at_149 (by decide) (by decide) ?_ ?_
      · intro hc
        have m3 := (ofN_lt (n := 2) (by omega) (by omega)).mp hc
        exact T3 q0 (fun q => absurd q (by omega))
      intro hc
      have m3 : 2 ≤ m := Nat.le_of_not_lt fun q => hc ((ofN_lt (n := 2) (by omega) (by omega)).mpr q)
      refine r_iload (pc' := 154) ok rfl at_152 rfl ?_
      refine r_static (pc' := 157) ok rfl at_154 (hw _ (List.mem_of_getElem? (i := 81) rfl)) (hw _ (List.mem_of_getElem? (i := 82) rfl)) (hw _ (List.mem_of_getElem? (i := 2) rfl)) (hw _ (List.mem_of_getElem? (i := 83) rfl)) (by decide) pd_15 (Con.pay (W := 0) (rmWi l Z a0 hw c1 h) EW.nil (hw _ (List.mem_of_getElem? (i := 83) rfl)) (hw _ (List.mem_of_getElem? (i := 2) rfl)) (by decide) (by decide)) (fun q => nomatch q) (Or.inl rfl) rfl (argsL := [(.int c1)]) (rest := []) rfl rfl rfl (Nat.le_of_ble_eq_true rfl) (by decide) (by decide) (cV fun x1 h1 q1 le1 => ?_)
      obtain ⟨rfl, rfl⟩ := q1
      by_cases hq : c1 = 42 ∨ c1 = 63
      · rw [if_pos hq]
        refine r_if_ne (pc' := 160) (pcY := 174) ok rfl at_157 (by decide) (by decide) ?_ ?_
        rotate_left
        · intro hd
          exact absurd hd (by decide)
        intro _
        refine r_iconstV (pc' := 175) ok rfl (1 : Int32) at_174 rfl ?_
        refine r_goto (pc' := 179) ok at_175 (by decide) (by decide) ?_
        exact J _ (by rw [if_pos (w1 m3 hq)])
      · rw [if_neg hq]
        refine r_if_ne (pc' := 160) (pcY := 174) ok rfl at_157 (by decide) (by decide) ?_ ?_
        · intro hd
          exact absurd rfl hd
        intro _
        exact T3 q0 (fun _ => hq)
    refine r_icmp_lt (pc' := 138) (pcY := 146) ok rfl at_135 (by decide) (by decide) ?_ ?_
    · intro hc
      have m3 := (ofN_lt (n := 1) (by omega) (by omega)).mp hc
      exact T2 (fun q => absurd q (by omega))
    intro hc
    have m3 : 1 ≤ m := Nat.le_of_not_lt fun q => hc ((ofN_lt (n := 1) (by omega) (by omega)).mpr q)
    refine r_iload (pc' := 140) ok rfl at_138 rfl ?_
    refine r_static (pc' := 143) ok rfl at_140 (hw _ (List.mem_of_getElem? (i := 81) rfl)) (hw _ (List.mem_of_getElem? (i := 82) rfl)) (hw _ (List.mem_of_getElem? (i := 2) rfl)) (hw _ (List.mem_of_getElem? (i := 83) rfl)) (by decide) pd_15 (Con.pay (W := 0) (rmWi l Z a0 hw c0 h) EW.nil (hw _ (List.mem_of_getElem? (i := 83) rfl)) (hw _ (List.mem_of_getElem? (i := 2) rfl)) (by decide) (by decide)) (fun q => nomatch q) (Or.inl rfl) rfl (argsL := [(.int c0)]) (rest := []) rfl rfl rfl (Nat.le_of_ble_eq_true rfl) (by decide) (by decide) (cV fun x1 h1 q1 le1 => ?_)
    obtain ⟨rfl, rfl⟩ := q1
    by_cases hq : c0 = 42 ∨ c0 = 63
    · rw [if_pos hq]
      refine r_if_ne (pc' := 146) (pcY := 174) ok rfl at_143 (by decide) (by decide) ?_ ?_
      rotate_left
      · intro hd
        exact absurd hd (by decide)
      intro _
      refine r_iconstV (pc' := 175) ok rfl (1 : Int32) at_174 rfl ?_
      refine r_goto (pc' := 179) ok at_175 (by decide) (by decide) ?_
      exact J _ (by rw [if_pos (w0 m3 hq)])
    · rw [if_neg hq]
      refine r_if_ne (pc' := 146) (pcY := 174) ok rfl at_143 (by decide) (by decide) ?_ ?_
      · intro hd
        exact absurd rfl hd
      intro _
      exact T2 (fun _ => hq)
  intro e he
  refine r_istore (pc' := 181) (ls' := fun z => #[.val (.int p1), .val (.int p2), .val (.int p3), .val (.int p4), .val (.int (Int32.ofNat m)), .val (.int c0), .val (.int c1), .val (.int c2), .val (.ref ar), .val (.ref x), .val (.int z), .unset]) ok rfl at_179 (fun _ => rfl) ?_
  intro v179 ev179
  refine r_aload (pc' := 183) ok rfl at_181 rfl rfl ?_
  have hch : ∀ c ∈ [c0, c1, c2].take m, ¬ c < 0 ∧ ¬ (65535 : Int32) < c := fun c hc => by
    have := List.mem_of_mem_take hc
    simp only [List.mem_cons, List.not_mem_nil, or_false] at this
    rcases this with rfl | rfl | rfl
    · exact ⟨lo0, hi0⟩
    · exact ⟨lo1, hi1⟩
    · exact ⟨lo2, hi2⟩
  have hl3 : ([c0, c1, c2].take m).length ≤ 3 := by simp; omega
  refine r_static (pc' := 186) ok rfl at_183 (hw _ (List.mem_of_getElem? (i := 27) rfl)) (hw _ (List.mem_of_getElem? (i := 28) rfl)) (hw _ (List.mem_of_getElem? (i := 29) rfl)) (hw _ (List.mem_of_getElem? (i := 30) rfl)) (by decide) pd_4 (Con.pay (W := 0) (rmPl l Z a0 hw x G1 _ h S1 P1 FM hFM S8 A1 A2 A3 hl3 hch Sx) EW.nil (hw _ (List.mem_of_getElem? (i := 30) rfl)) (hw _ (List.mem_of_getElem? (i := 29) rfl)) (by decide) (by decide)) (fun q => nomatch q) (Or.inl rfl) rfl (argsL := [(.ref x)]) (rest := []) rfl rfl rfl (Nat.le_of_ble_eq_true rfl) (by decide) (by decide) (cV fun x1 h1 q1 le1 => ?_)
  obtain ⟨rfl, rfl⟩ := q1
  refine r_istore (pc' := 188) (ls' := fun z => #[.val (.int p1), .val (.int p2), .val (.int p3), .val (.int p4), .val (.int (Int32.ofNat m)), .val (.int c0), .val (.int c1), .val (.int c2), .val (.ref ar), .val (.ref x), .val (.int v179), .val (.int z)]) ok rfl at_186 (fun _ => rfl) ?_
  intro v186 ev186
  refine r_iload (pc' := 190) ok rfl at_188 rfl ?_
  refine r_iload (pc' := 192) ok rfl at_190 rfl ?_
  by_cases hq : HasC ([c0, c1, c2].take m) 42 ∨ HasC ([c0, c1, c2].take m) 63
  · rw [if_pos hq] at he ev186
    rw [ev186, ev179, he]
    refine r_if_ne (pc' := 195) (pcY := 199) ok rfl at_192 (by decide) (by decide) ?_ ?_
    rotate_left
    · intro hd
      exact absurd hd (by decide)
    intro _
    refine r_iconstV (pc' := 200) ok rfl (0 : Int32) at_199 rfl ?_
    refine r_icmp_ne (pc' := 203) (pcY := 207) ok rfl at_200 (by decide) (by decide) ?_ ?_
    · intro hd
      exact absurd rfl hd
    intro _
    refine r_iconstV (pc' := 204) ok rfl (1 : Int32) at_203 rfl ?_
    refine r_goto (pc' := 208) ok at_204 (by decide) (by decide) ?_
    refine r_ireturn ok at_208 rfl (by simp) (by decide) (by decide) ?_
    rfl
  · rw [if_neg hq] at he ev186
    rw [ev186, ev179, he]
    refine r_if_ne (pc' := 195) (pcY := 199) ok rfl at_192 (by decide) (by decide) ?_ ?_
    · intro hd
      exact absurd rfl hd
    intro _
    refine r_iconstV (pc' := 196) ok rfl (1 : Int32) at_195 rfl ?_
    refine r_goto (pc' := 200) ok at_196 (by decide) (by decide) ?_
    refine r_icmp_ne (pc' := 203) (pcY := 207) ok rfl at_200 (by decide) (by decide) ?_ ?_
    · intro hd
      exact absurd rfl hd
    intro _
    refine r_iconstV (pc' := 204) ok rfl (1 : Int32) at_203 rfl ?_
    refine r_goto (pc' := 208) ok at_204 (by decide) (by decide) ?_
    refine r_ireturn ok at_208 rfl (by simp) (by decide) (by decide) ?_
    rfl
end Claim

set_option maxRecDepth 65536 in
set_option maxHeartbeats 4000000 in
theorem comes_1 {Post : Tables → Env → Array Value → State → Outcome → State → Prop} (hpost : ∀ tb e args s v u, (limb_1_1.after args s (.returned v) u = true ∧ limb_1_2.after args s (.returned v) u = true ∧ True) → FramedW s (.returned v) u (Jvm.fieldLocs frame_1_writes args s ++ Jvm.arrayLocs frame_1_arrays args s ++ Jvm.staticLocs frame_1_statics s) 24 1152 → Post tb e args s (.returned v) u) :
    ArmFor flags0 classFile x code maxLocals ret World_1 tables_1 room_1 Calls_1 rest_1 Pre_1 Post := by
  intro l hfl _ _ p e ha hc hk s m args below hf hA hF happ hP
  obtain ⟨hcalls, hrest, hpre⟩ := hP
  obtain ⟨-, -, -, hnamed, -, -, -, hat⟩ := (Spec.applies_iff hf).mp happ
  obtain ⟨hg, hn⟩ := and_e (Cond.before_iff.mp (show (Jvm.Cond.and given_1 narrow_1).before args s = true from hpre))
  obtain ⟨gc, gr0⟩ := and_e hg
  obtain ⟨ga0, gr1⟩ := and_e gr0
  obtain ⟨ga1, gr2⟩ := and_e gr1
  obtain ⟨ga2, gr3⟩ := and_e gr2
  have ga3 := gr3
  obtain ⟨w0, w1, w2, w3, rfl⟩ : ∃ w0 w1 w2 w3 : Value, args = #[w0, w1, w2, w3] := by
    have hs : args.size = 4 := by simpa [Cond.value, given_1] using gc
    obtain ⟨L⟩ := args
    match L, hs with
    | [w0, w1, w2, w3], _ => exact ⟨w0, w1, w2, w3, rfl⟩
  have hw := fun d (hd : d ∈ tables_1) => atoms_spec (ws := Jvm.Cond.code x code maxLocals ret :: tables_1) hat d (List.mem_cons_of_mem _ hd)
  have hfit : Fit s := fun {y c} hc i hi => by
    obtain ⟨ha, rfl⟩ := Array.getElem?_eq_some_iff.mp hc
    have q := List.all_eq_true.mp ((Array.all_eq_true_iff_forall_mem.mp hF) _ (Array.getElem_mem ha)) i (List.mem_range.mpr hi)
    simpa [Array.getElem?_eq_getElem hi] using q
  obtain ⟨hsets, hown0⟩ := atoms_of _ (rest_1_c_eq ▸ (show rest_1_c.before _ s = true from hrest))
  obtain ⟨i0, ei0⟩ := is_v ga0
  obtain rfl : w0 = (.int i0) := Option.some.inj ei0
  obtain ⟨i1, ei1⟩ := is_v ga1
  obtain rfl : w1 = (.int i1) := Option.some.inj ei1
  obtain ⟨i2, ei2⟩ := is_v ga2
  obtain rfl : w2 = (.int i2) := Option.some.inj ei2
  obtain ⟨i3, ei3⟩ := is_v ga3
  obtain rfl : w3 = (.int i3) := Option.some.inj ei3
  have n5 := not_v (Cond.before_iff.mp (hsets _ (List.mem_of_getElem? (i := 2) rfl)))
  obtain ⟨G1, e10⟩ := is_v (Cond.before_iff.mp (hsets _ (List.mem_of_getElem? (i := 1) rfl)))
  have S1 : Sta s s.heap "java/lang/String" "COMPACT_STRINGS" "Z" (.int G1) := Sta.start e10 (Or.inl (hsets _ (List.mem_of_getElem? (i := 0) rfl)))
  have P1 : ¬ (G1 = (0 : Int32)) := gotF (Cond.eq_ints e10 (Term.int_eval (0))) n5
  obtain ⟨FM, eFM, hFM⟩ := isR_v (Cond.before_iff.mp (hsets _ (List.mem_of_getElem? (i := 8) rfl)))
  have S8 : Sta s s.heap "jdk/internal/util/Preconditions" "SIOOBE_FORMATTER" "Ljava/util/function/BiFunction;" FM := Sta.start eFM (Or.inl (hsets _ (List.mem_of_getElem? (i := 7) rfl)))
  have A1 : Sta s s.heap "java/lang/StringUTF16" "$assertionsDisabled" "Z" (.int 1) := Sta.start (eqv_i (Term.int_eval 1) (Cond.before_iff.mp (hsets _ (List.mem_of_getElem? (i := 12) rfl)))) (Or.inl (hsets _ (List.mem_of_getElem? (i := 11) rfl)))
  have A2 : Sta s s.heap "java/lang/StringUTF16" "HI_BYTE_SHIFT" "I" (.int 0) := Sta.start (eqv_i (Term.int_eval 0) (Cond.before_iff.mp (hsets _ (List.mem_of_getElem? (i := 15) rfl)))) (Or.inl (hsets _ (List.mem_of_getElem? (i := 14) rfl)))
  have A3 : Sta s s.heap "java/lang/StringUTF16" "LO_BYTE_SHIFT" "I" (.int 8) := Sta.start (eqv_i (Term.int_eval 8) (Cond.before_iff.mp (hsets _ (List.mem_of_getElem? (i := 18) rfl)))) (Or.inl (hsets _ (List.mem_of_getElem? (i := 17) rfl)))
  have hch : CHv s EL1 s.vm s.heap := CHv.start (hEW s _ hw) (fun p hp => by cases List.mem_singleton.mp hp; exact hcalls.1 _ (by decide)) (hsets _ (List.mem_of_getElem? (i := 2) rfl)) (hw _ (List.mem_of_getElem? (i := 20) rfl)) (hw _ (List.mem_of_getElem? (i := 7) rfl))
  obtain ⟨n, o, h1, h2, h3, _, L, rfl, ⟨⟨xr, rfl, rfl⟩, N, -, -⟩, hq⟩ := (rm0 l s _ hw i0 i1 i2 i3 G1 S1 P1 FM hFM S8 A1 A2 A3) ⟨Nat.le_refl _, fun _ _ q => q⟩ p e ha hc hk s m _ below hf ((Spec.applies_iff_loose hf).mp happ).1 ⟨rfl, State.Warmed39.refl s, rfl, hch⟩ trivial
  exact ⟨n, _, h1, h2, h3, hpost _ _ _ _ _ _ ⟨Cond.after_iff.mpr rfl, Cond.after_iff.mpr (eq_i res_at (Term.int_eval (1)) rfl), trivial⟩ ⟨hq.1, hq.2.1, hq.2.2.1, (hq.2.2.2.sift fun y hy => Or.inr (N y hy)).mono (by decide) (by decide)⟩⟩
theorem main_1_1 : Claimed_1_1 := comes_1 fun _ _ _ _ _ _ h hF => ⟨h.1, hF⟩
theorem main_1_2 : Claimed_1_2 := comes_1 fun _ _ _ _ _ _ h hF => ⟨h.2.1, hF⟩
end Jvm.Pilot.@@N@@
namespace Jvm.Pilot.@@N@@
open Jvm Jvm.ClassFile Sem Op Lib Jvm.Free Jvm.Stand Jvm.Pilot.@@N@@.Jvm.D
/-! MADE BY PROGRAM (witnessworld.py) out of the Statement's table words and the real class files: 21 classes; the members and pool entries that the words name. The judged class is class 1, her method 3. -/
namespace start1
open Jvm.ClassFile
def u (s : String) : CpInfo := .utf8 (stringToUtf16 s)
/-- a pool by its gaps: so many unusable entries, then the entry; so many at the end -/
def gap : Nat → List CpInfo → List CpInfo
  | 0, r => r
  | n + 1, r => .unusable :: gap n r
def poolList (es : List (Nat × CpInfo)) (last : Nat) : List CpInfo := es.foldr (fun e r => gap e.1 (e.2 :: r)) (gap last [])
def pool (es : List (Nat × CpInfo)) (last : Nat) : Array CpInfo := ⟨poolList es last⟩
def fileOf (pool : Array CpInfo) (this : Nat) (attrs : Array Attribute := #[]) (ms : Array MethodInfo := #[]) (fl : Nat := 33) (sup : Nat := 0) (ifs : Array Nat := #[]) (fds : Array FieldInfo := #[]) : ClassFile where
  minorVersion := 0
  majorVersion := 65
  constantPool := pool
  accessFlags := fl
  thisClass := this
  superClass := sup
  interfaces := ifs
  fields := fds
  methods := ms
  attributes := attrs
def plain (name : String) (sup : Option ClassId) : Class where
  name := name
  kind := .ordinary
  loader := none
  accessFlags := 33
  super := sup
  interfaces := #[]
  cf := none
  fields := #[]
  methods := #[]
  instanceTypes := #[]
  staticTypes := #[]
  resolved := #[]
  callSites := []
  init := .initialized
  statics := none
  mirror := none

def pool0 : Array CpInfo := pool [(5, u "<init>"), (0, u "()V"), (1, .class_ 10), (1, u "java/lang/Object")] 113

def k0c0 : Code := { maxStack := 0, maxLocals := 1, code := object_method_1_code, exceptionTable := #[], attributes := #[] }
def k0m0 : Method := { name := "<init>", desc := "()V", sig := { parameters := [], returnType := none }, accessFlags := 1, code := some k0c0 }
/-- java/lang/Object -/
def k0 : Class := { plain "java/lang/Object" none with
  accessFlags := 33
  interfaces := #[]
  cf := some (fileOf pool0 8 #[] #[{ accessFlags := 1, nameIndex := 5, descriptorIndex := 6, attributes := #[] }] 33 0 #[] #[])
  fields := #[]
  methods := #[k0m0]
  instanceTypes := #[]
  staticTypes := #[]
  resolved := Array.replicate 124 none
  statics := none }

def pool1 : Array CpInfo := pool [(2, .class_ 4), (1, u "java/lang/Object"), (0, u "<init>"), (0, u "()V"), (0, .integer 65535), (0, .methodref 9 10), (0, .class_ 11), (0, .nameAndType 12 13), (0, u "com/example/vigilant_scheduler/vigilantscheduler/job/JobIdPatternIsPlainIdPinLaw"), (0, u "pick"), (0, u "(I)C"), (0, .class_ 15), (0, u "java/lang/String"), (0, .methodref 14 17), (0, .nameAndType 5 18), (0, u "([C)V"), (0, .methodref 9 20), (0, .nameAndType 21 22), (0, u "isWild"), (0, u "(C)Z"), (0, .methodref 24 25), (0, .class_ 26), (0, .nameAndType 27 28), (0, u "com/example/vigilant_scheduler/vigilantscheduler/job/JobIdPattern"), (0, u "isPlainId"), (0, u "(Ljava/lang/String;)Z"), (3, u "law"), (0, u "(IIII)Z")] 4

def k1m0 : Method := { name := "<init>", desc := "()V", sig := { parameters := [], returnType := none }, accessFlags := 1, code := none }
def k1c1 : Code := { maxStack := 2, maxLocals := 2, code := method_2_code, exceptionTable := #[], attributes := #[] }
def k1m1 : Method := { name := "pick", desc := "(I)C", sig := { parameters := [.int], returnType := some .char }, accessFlags := 10, code := some k1c1 }
def k1c2 : Code := { maxStack := 2, maxLocals := 1, code := method_3_code, exceptionTable := #[], attributes := #[] }
def k1m2 : Method := { name := "isWild", desc := "(C)Z", sig := { parameters := [.char], returnType := some .boolean }, accessFlags := 10, code := some k1c2 }
def k1c3 : Code := { maxStack := 4, maxLocals := 12, code := code, exceptionTable := #[], attributes := #[] }
def k1m3 : Method := { name := "law", desc := "(IIII)Z", sig := { parameters := [.int, .int, .int, .int], returnType := some .boolean }, accessFlags := 9, code := some k1c3 }
/-- com/example/vigilant_scheduler/vigilantscheduler/job/JobIdPatternIsPlainIdPinLaw -/
def k1 : Class := { plain "com/example/vigilant_scheduler/vigilantscheduler/job/JobIdPatternIsPlainIdPinLaw" (some 0) with
  accessFlags := 49
  interfaces := #[]
  cf := some (fileOf pool1 9 #[] #[{ accessFlags := 1, nameIndex := 5, descriptorIndex := 6, attributes := #[] }, { accessFlags := 10, nameIndex := 12, descriptorIndex := 13, attributes := #[] }, { accessFlags := 10, nameIndex := 21, descriptorIndex := 22, attributes := #[] }, { accessFlags := 9, nameIndex := 32, descriptorIndex := 33, attributes := #[] }] 49 2 #[] #[])
  fields := #[]
  methods := #[k1m0, k1m1, k1m2, k1m3]
  instanceTypes := #[]
  staticTypes := #[]
  resolved := Array.replicate 38 none
  statics := none }

def pool2 : Array CpInfo := pool [(1, .class_ 2), (0, u "java/io/Serializable"), (0, .class_ 4), (0, u "java/lang/Object")] 2

/-- java/io/Serializable -/
def k2 : Class := { plain "java/io/Serializable" (some 0) with
  accessFlags := 1537
  interfaces := #[]
  cf := some (fileOf pool2 1 #[] #[] 1537 3 #[] #[])
  fields := #[]
  methods := #[]
  instanceTypes := #[]
  staticTypes := #[]
  resolved := Array.replicate 7 none
  statics := none }

def pool3 : Array CpInfo := pool [(1, .class_ 2), (0, u "java/lang/Comparable"), (0, .class_ 4), (0, u "java/lang/Object")] 7

/-- java/lang/Comparable -/
def k3 : Class := { plain "java/lang/Comparable" (some 0) with
  accessFlags := 1537
  interfaces := #[]
  cf := some (fileOf pool3 1 #[] #[] 1537 3 #[] #[])
  fields := #[]
  methods := #[]
  instanceTypes := #[]
  staticTypes := #[]
  resolved := Array.replicate 12 none
  statics := none }

def pool4 : Array CpInfo := pool [(2, .class_ 4), (1, u "java/lang/CharSequence"), (42, .class_ 48), (0, u "java/lang/CharSequence$1CodePointIterator"), (10, .class_ 60), (0, u "java/lang/CharSequence$1CharIterator"), (5, .class_ 67), (0, u "java/lang/Object")] 63

/-- java/lang/CharSequence -/
def k4 : Class := { plain "java/lang/CharSequence" (some 0) with
  accessFlags := 1537
  interfaces := #[]
  cf := some (fileOf pool4 2 #[.nestMembers #[47, 59]] #[] 1537 66 #[] #[])
  fields := #[]
  methods := #[]
  instanceTypes := #[]
  staticTypes := #[]
  resolved := Array.replicate 131 none
  statics := none }

def pool5 : Array CpInfo := pool [(1, .class_ 2), (0, u "java/lang/constant/Constable"), (0, .class_ 4), (0, u "java/lang/Object")] 6

/-- java/lang/constant/Constable -/
def k5 : Class := { plain "java/lang/constant/Constable" (some 0) with
  accessFlags := 1537
  interfaces := #[]
  cf := some (fileOf pool5 1 #[] #[] 1537 3 #[] #[])
  fields := #[]
  methods := #[]
  instanceTypes := #[]
  staticTypes := #[]
  resolved := Array.replicate 11 none
  statics := none }

def pool6 : Array CpInfo := pool [(1, .class_ 2), (0, u "java/lang/constant/ConstantDesc"), (0, .class_ 4), (0, u "java/lang/Object")] 32

/-- java/lang/constant/ConstantDesc -/
def k6 : Class := { plain "java/lang/constant/ConstantDesc" (some 0) with
  accessFlags := 1537
  interfaces := #[]
  cf := some (fileOf pool6 1 #[] #[] 1537 3 #[] #[])
  fields := #[]
  methods := #[]
  instanceTypes := #[]
  staticTypes := #[]
  resolved := Array.replicate 37 none
  statics := none }

def pool7 : Array CpInfo := pool [(1, .methodref 2 3), (0, .class_ 4), (0, .nameAndType 5 6), (0, u "java/lang/Object"), (0, u "<init>"), (0, u "()V"), (0, .string 8), (0, u ""), (0, .fieldref 10 11), (0, .class_ 12), (0, .nameAndType 13 14), (0, u "java/lang/String"), (0, u "value"), (0, u "[B"), (0, .fieldref 10 16), (0, .nameAndType 17 18), (0, u "coder"), (0, u "B"), (2, u "hash"), (0, u "I"), (2, u "hashIsZero"), (0, u "Z"), (0, .methodref 10 28), (0, .nameAndType 5 29), (0, u "([CIILjava/lang/Void;)V"), (8, .fieldref 10 39), (0, .nameAndType 40 26), (0, u "COMPACT_STRINGS"), (1, .class_ 44), (1, u "java/lang/StringUTF16"), (0, u "compress"), (1, .methodref 42 48), (0, .nameAndType 49 50), (0, u "coderFromArrayLen"), (0, u "([BI)B"), (56, .class_ 109), (1, u "java/lang/StringLatin1"), (32, u "()Z"), (34, .methodref 42 178), (0, .nameAndType 45 179), (0, u "([CII)[B"), (154, u "()I"), (0, .methodref 10 336), (0, .nameAndType 17 337), (0, u "()B"), (154, .methodref 10 493), (0, .nameAndType 494 142), (0, u "isLatin1"), (10, .methodref 10 506), (0, .nameAndType 507 334), (0, u "length"), (5, u "checkFromToIndex"), (9, u "checkBoundsBeginEnd"), (0, u "(III)V"), (50, .class_ 576), (0, u "java/lang/CharSequence"), (22, u "CASE_INSENSITIVE_ORDER"), (0, u "Ljava/util/Comparator;"), (32, .methodref 10 634), (0, .nameAndType 635 636), (0, u "indexOf"), (0, u "(II)I"), (0, .methodref 107 638), (0, .nameAndType 635 639), (0, u "([BIII)I"), (0, .methodref 42 638), (124, u "(I)I"), (244, u "([C)V"), (42, .fieldref 1054 1055), (0, .class_ 1056), (0, .nameAndType 1057 1058), (0, u "jdk/internal/util/Preconditions"), (0, u "SIOOBE_FORMATTER"), (0, u "Ljava/util/function/BiFunction;"), (3, .methodref 1054 1063), (0, .nameAndType 513 1064), (0, u "(IIILjava/util/function/BiFunction;)I"), (36, u "serialPersistentFields"), (0, u "[Ljava/io/ObjectStreamField;"), (0, .class_ 1104), (0, u "java/lang/String$CaseInsensitiveComparator"), (1, .class_ 1107), (0, u "java/io/Serializable"), (0, .class_ 1109), (0, u "java/lang/Comparable"), (0, .class_ 1111), (0, u "java/lang/constant/Constable"), (0, .class_ 1113), (0, u "java/lang/constant/ConstantDesc"), (2, u "serialVersionUID"), (0, u "J"), (3, u "REPL"), (0, u "C"), (2, u "LATIN1"), (1, u "UTF16")] 323

def k7m0 : Method := { name := "<init>", desc := "()V", sig := { parameters := [], returnType := none }, accessFlags := 1, code := none }
def k7c1 : Code := { maxStack := 5, maxLocals := 2, code := jdk_42_method_3_code, exceptionTable := #[], attributes := #[] }
def k7m1 : Method := { name := "<init>", desc := "([C)V", sig := { parameters := [(.array .char)], returnType := none }, accessFlags := 1, code := some k7c1 }
def k7c2 : Code := { maxStack := 2, maxLocals := 1, code := jdk_42_method_54_code, exceptionTable := #[], attributes := #[] }
def k7m2 : Method := { name := "length", desc := "()I", sig := { parameters := [], returnType := some .int }, accessFlags := 1, code := some k7c2 }
def k7c3 : Code := { maxStack := 3, maxLocals := 2, code := jdk_42_method_79_code, exceptionTable := #[], attributes := #[] }
def k7m3 : Method := { name := "indexOf", desc := "(I)I", sig := { parameters := [.int], returnType := some .int }, accessFlags := 1, code := some k7c3 }
def k7c4 : Code := { maxStack := 4, maxLocals := 3, code := jdk_42_method_80_code, exceptionTable := #[], attributes := #[] }
def k7m4 : Method := { name := "indexOf", desc := "(II)I", sig := { parameters := [.int, .int], returnType := some .int }, accessFlags := 1, code := some k7c4 }
def k7c5 : Code := { maxStack := 4, maxLocals := 6, code := jdk_42_method_149_code, exceptionTable := #[], attributes := #[] }
def k7m5 : Method := { name := "<init>", desc := "([CIILjava/lang/Void;)V", sig := { parameters := [(.array .char), .int, .int, (.object "java/lang/Void")], returnType := none }, accessFlags := 2, code := some k7c5 }
def k7c6 : Code := { maxStack := 1, maxLocals := 1, code := jdk_42_method_152_code, exceptionTable := #[], attributes := #[] }
def k7m6 : Method := { name := "coder", desc := "()B", sig := { parameters := [], returnType := some .byte }, accessFlags := 0, code := some k7c6 }
def k7c7 : Code := { maxStack := 1, maxLocals := 1, code := jdk_42_method_154_code, exceptionTable := #[], attributes := #[] }
def k7m7 : Method := { name := "isLatin1", desc := "()Z", sig := { parameters := [], returnType := some .boolean }, accessFlags := 0, code := some k7c7 }
def k7c8 : Code := { maxStack := 4, maxLocals := 3, code := jdk_42_method_158_code, exceptionTable := #[], attributes := #[] }
def k7m8 : Method := { name := "checkBoundsBeginEnd", desc := "(III)V", sig := { parameters := [.int, .int, .int], returnType := none }, accessFlags := 8, code := some k7c8 }
/-- java/lang/String -/
def k7 : Class := { plain "java/lang/String" (some 0) with
  accessFlags := 49
  interfaces := #[2, 3, 4, 5, 6]
  cf := some (fileOf pool7 10 #[.nestMembers #[1103]] #[{ accessFlags := 1, nameIndex := 5, descriptorIndex := 6, attributes := #[] }, { accessFlags := 1, nameIndex := 5, descriptorIndex := 1010, attributes := #[] }, { accessFlags := 1, nameIndex := 507, descriptorIndex := 334, attributes := #[] }, { accessFlags := 1, nameIndex := 635, descriptorIndex := 765, attributes := #[] }, { accessFlags := 1, nameIndex := 635, descriptorIndex := 636, attributes := #[] }, { accessFlags := 2, nameIndex := 5, descriptorIndex := 29, attributes := #[] }, { accessFlags := 0, nameIndex := 17, descriptorIndex := 337, attributes := #[] }, { accessFlags := 0, nameIndex := 494, descriptorIndex := 142, attributes := #[] }, { accessFlags := 8, nameIndex := 523, descriptorIndex := 524, attributes := #[] }] 49 2 #[1106, 1108, 575, 1110, 1112] #[{ accessFlags := 18, nameIndex := 13, descriptorIndex := 14, attributes := #[] }, { accessFlags := 18, nameIndex := 17, descriptorIndex := 18, attributes := #[] }, { accessFlags := 2, nameIndex := 21, descriptorIndex := 22, attributes := #[] }, { accessFlags := 2, nameIndex := 25, descriptorIndex := 26, attributes := #[] }, { accessFlags := 26, nameIndex := 1116, descriptorIndex := 1117, attributes := #[] }, { accessFlags := 24, nameIndex := 40, descriptorIndex := 26, attributes := #[] }, { accessFlags := 26, nameIndex := 1101, descriptorIndex := 1102, attributes := #[] }, { accessFlags := 26, nameIndex := 1121, descriptorIndex := 1122, attributes := #[] }, { accessFlags := 25, nameIndex := 599, descriptorIndex := 600, attributes := #[] }, { accessFlags := 24, nameIndex := 1125, descriptorIndex := 18, attributes := #[] }, { accessFlags := 24, nameIndex := 1127, descriptorIndex := 18, attributes := #[] }])
  fields := #[{ name := "value", type := (.array .byte), accessFlags := 18, slot := 0, constantValue := 0 }, { name := "coder", type := .byte, accessFlags := 18, slot := 1, constantValue := 0 }, { name := "hash", type := .int, accessFlags := 2, slot := 2, constantValue := 0 }, { name := "hashIsZero", type := .boolean, accessFlags := 2, slot := 3, constantValue := 0 }, { name := "serialVersionUID", type := .long, accessFlags := 26, slot := 0, constantValue := 0 }, { name := "COMPACT_STRINGS", type := .boolean, accessFlags := 24, slot := 1, constantValue := 0 }, { name := "serialPersistentFields", type := (.array (.object "java/io/ObjectStreamField")), accessFlags := 26, slot := 2, constantValue := 0 }, { name := "REPL", type := .char, accessFlags := 26, slot := 3, constantValue := 0 }, { name := "CASE_INSENSITIVE_ORDER", type := (.object "java/util/Comparator"), accessFlags := 25, slot := 4, constantValue := 0 }, { name := "LATIN1", type := .byte, accessFlags := 24, slot := 5, constantValue := 0 }, { name := "UTF16", type := .byte, accessFlags := 24, slot := 6, constantValue := 0 }]
  methods := #[k7m0, k7m1, k7m2, k7m3, k7m4, k7m5, k7m6, k7m7, k7m8]
  instanceTypes := #[(.array .byte), .byte, .int, .boolean]
  staticTypes := #[.long, .boolean, (.array (.object "java/io/ObjectStreamField")), .char, (.object "java/util/Comparator"), .byte, .byte]
  resolved := Array.replicate 1451 none
  statics := some 0 }

def pool8 : Array CpInfo := pool [(2, .class_ 4), (1, u "java/lang/Object"), (0, u "<init>"), (0, u "()V"), (0, .methodref 8 9), (0, .class_ 10), (0, .nameAndType 11 12), (0, u "java/lang/String"), (0, u "indexOf"), (0, u "(I)I"), (20, .class_ 34), (0, u "com/example/vigilant_scheduler/vigilantscheduler/job/JobIdPattern"), (2, u "isPlainId"), (0, u "(Ljava/lang/String;)Z")] 7

def k8m0 : Method := { name := "<init>", desc := "()V", sig := { parameters := [], returnType := none }, accessFlags := 2, code := none }
def k8c1 : Code := { maxStack := 2, maxLocals := 1, code := prog_27_method_2_code, exceptionTable := #[], attributes := #[] }
def k8m1 : Method := { name := "isPlainId", desc := "(Ljava/lang/String;)Z", sig := { parameters := [(.object "java/lang/String")], returnType := some .boolean }, accessFlags := 8, code := some k8c1 }
/-- com/example/vigilant_scheduler/vigilantscheduler/job/JobIdPattern -/
def k8 : Class := { plain "com/example/vigilant_scheduler/vigilantscheduler/job/JobIdPattern" (some 0) with
  accessFlags := 32
  interfaces := #[]
  cf := some (fileOf pool8 33 #[] #[{ accessFlags := 2, nameIndex := 5, descriptorIndex := 6, attributes := #[] }, { accessFlags := 8, nameIndex := 37, descriptorIndex := 38, attributes := #[] }] 32 2 #[] #[])
  fields := #[]
  methods := #[k8m0, k8m1]
  instanceTypes := #[]
  staticTypes := #[]
  resolved := Array.replicate 46 none
  statics := none }

def pool9 : Array CpInfo := pool [(4, .class_ 6), (1, u "java/lang/Object"), (0, u "<init>"), (0, u "()V"), (5, .class_ 16), (1, u "java/lang/StringLatin1"), (21, .methodref 39 40), (0, .class_ 41), (0, .nameAndType 42 43), (0, u "java/lang/Math"), (0, u "min"), (0, u "(II)I"), (44, .methodref 14 89), (0, .nameAndType 90 91), (0, u "canEncode"), (0, u "(I)Z"), (0, .methodref 39 93), (0, .nameAndType 94 43), (0, u "max"), (0, .methodref 14 96), (0, .nameAndType 97 98), (0, u "indexOfChar"), (0, u "([BIII)I"), (2, u "indexOf"), (19, u "$assertionsDisabled"), (0, u "Z"), (98, .class_ 223), (1, u "java/lang/StringLatin1$LinesSpliterator"), (166, .class_ 391), (0, u "java/lang/StringLatin1$CharsSpliterator")] 3

def k9m0 : Method := { name := "<init>", desc := "()V", sig := { parameters := [], returnType := none }, accessFlags := 0, code := none }
def k9c1 : Code := { maxStack := 2, maxLocals := 1, code := jdk_43_method_4_code, exceptionTable := #[], attributes := #[] }
def k9m1 : Method := { name := "canEncode", desc := "(I)Z", sig := { parameters := [.int], returnType := some .boolean }, accessFlags := 9, code := some k9c1 }
def k9c2 : Code := { maxStack := 4, maxLocals := 4, code := jdk_43_method_22_code, exceptionTable := #[], attributes := #[] }
def k9m2 : Method := { name := "indexOf", desc := "([BIII)I", sig := { parameters := [(.array .byte), .int, .int, .int], returnType := some .int }, accessFlags := 9, code := some k9c2 }
def k9c3 : Code := { maxStack := 2, maxLocals := 6, code := jdk_43_method_23_code, exceptionTable := #[], attributes := #[] }
def k9m3 : Method := { name := "indexOfChar", desc := "([BIII)I", sig := { parameters := [(.array .byte), .int, .int, .int], returnType := some .int }, accessFlags := 10, code := some k9c3 }
/-- java/lang/StringLatin1 -/
def k9 : Class := { plain "java/lang/StringLatin1" (some 0) with
  accessFlags := 48
  interfaces := #[]
  cf := some (fileOf pool9 14 #[.nestMembers #[390, 221]] #[{ accessFlags := 0, nameIndex := 7, descriptorIndex := 8, attributes := #[] }, { accessFlags := 9, nameIndex := 90, descriptorIndex := 91, attributes := #[] }, { accessFlags := 9, nameIndex := 101, descriptorIndex := 98, attributes := #[] }, { accessFlags := 10, nameIndex := 97, descriptorIndex := 98, attributes := #[] }] 48 4 #[] #[{ accessFlags := 4120, nameIndex := 121, descriptorIndex := 122, attributes := #[] }])
  fields := #[{ name := "$assertionsDisabled", type := .boolean, accessFlags := 4120, slot := 0, constantValue := 0 }]
  methods := #[k9m0, k9m1, k9m2, k9m3]
  instanceTypes := #[]
  staticTypes := #[.boolean]
  resolved := Array.replicate 395 none
  statics := none }

def pool10 : Array CpInfo := pool [(1, .class_ 2), (0, u "java/lang/Math"), (1, .class_ 6), (1, u "java/lang/Object"), (0, u "<init>"), (0, u "()V"), (89, .class_ 100), (1, u "java/lang/Math$RandomNumberGeneratorHolder"), (71, u "negativeZeroFloatBits"), (0, u "J"), (2, u "negativeZeroDoubleBits"), (21, u "max"), (2, u "min"), (43, u "$assertionsDisabled"), (0, u "Z"), (88, u "(II)I"), (2, u "twoToTheDoubleScaleDown"), (0, u "D"), (4, u "twoToTheDoubleScaleUp"), (9, u "E"), (3, u "PI"), (2, u "TAU"), (2, u "DEGREES_TO_RADIANS"), (0, u "RADIANS_TO_DEGREES")] 94

def k10m0 : Method := { name := "<init>", desc := "()V", sig := { parameters := [], returnType := none }, accessFlags := 2, code := none }
def k10c1 : Code := { maxStack := 2, maxLocals := 2, code := jdk_29_method_65_code, exceptionTable := #[], attributes := #[] }
def k10m1 : Method := { name := "max", desc := "(II)I", sig := { parameters := [.int, .int], returnType := some .int }, accessFlags := 9, code := some k10c1 }
def k10c2 : Code := { maxStack := 2, maxLocals := 2, code := jdk_29_method_69_code, exceptionTable := #[], attributes := #[] }
def k10m2 : Method := { name := "min", desc := "(II)I", sig := { parameters := [.int, .int], returnType := some .int }, accessFlags := 9, code := some k10c2 }
/-- java/lang/Math -/
def k10 : Class := { plain "java/lang/Math" (some 0) with
  accessFlags := 49
  interfaces := #[]
  cf := some (fileOf pool10 1 #[.nestMembers #[98]] #[{ accessFlags := 2, nameIndex := 7, descriptorIndex := 8, attributes := #[] }, { accessFlags := 9, nameIndex := 198, descriptorIndex := 335, attributes := #[] }, { accessFlags := 9, nameIndex := 201, descriptorIndex := 335, attributes := #[] }] 49 4 #[] #[{ accessFlags := 25, nameIndex := 354, descriptorIndex := 339, attributes := #[] }, { accessFlags := 25, nameIndex := 358, descriptorIndex := 339, attributes := #[] }, { accessFlags := 25, nameIndex := 361, descriptorIndex := 339, attributes := #[] }, { accessFlags := 26, nameIndex := 364, descriptorIndex := 339, attributes := #[] }, { accessFlags := 26, nameIndex := 365, descriptorIndex := 339, attributes := #[] }, { accessFlags := 26, nameIndex := 172, descriptorIndex := 173, attributes := #[] }, { accessFlags := 26, nameIndex := 176, descriptorIndex := 173, attributes := #[] }, { accessFlags := 8, nameIndex := 344, descriptorIndex := 339, attributes := #[] }, { accessFlags := 8, nameIndex := 338, descriptorIndex := 339, attributes := #[] }, { accessFlags := 4120, nameIndex := 245, descriptorIndex := 246, attributes := #[] }])
  fields := #[{ name := "E", type := .double, accessFlags := 25, slot := 0, constantValue := 0 }, { name := "PI", type := .double, accessFlags := 25, slot := 1, constantValue := 0 }, { name := "TAU", type := .double, accessFlags := 25, slot := 2, constantValue := 0 }, { name := "DEGREES_TO_RADIANS", type := .double, accessFlags := 26, slot := 3, constantValue := 0 }, { name := "RADIANS_TO_DEGREES", type := .double, accessFlags := 26, slot := 4, constantValue := 0 }, { name := "negativeZeroFloatBits", type := .long, accessFlags := 26, slot := 5, constantValue := 0 }, { name := "negativeZeroDoubleBits", type := .long, accessFlags := 26, slot := 6, constantValue := 0 }, { name := "twoToTheDoubleScaleUp", type := .double, accessFlags := 8, slot := 7, constantValue := 0 }, { name := "twoToTheDoubleScaleDown", type := .double, accessFlags := 8, slot := 8, constantValue := 0 }, { name := "$assertionsDisabled", type := .boolean, accessFlags := 4120, slot := 9, constantValue := 0 }]
  methods := #[k10m0, k10m1, k10m2]
  instanceTypes := #[]
  staticTypes := #[.double, .double, .double, .double, .double, .long, .long, .double, .double, .boolean]
  resolved := Array.replicate 460 none
  statics := none }

def pool11 : Array CpInfo := pool [(3, .class_ 4), (0, u "java/lang/String"), (1, .class_ 8), (1, u "java/lang/Object"), (0, u "<init>"), (0, u "()V"), (0, .methodref 12 13), (0, .class_ 14), (0, .nameAndType 15 16), (0, u "java/lang/StringUTF16"), (0, u "newBytesLength"), (0, u "(I)I"), (3, .integer 1073741823), (23, .fieldref 12 45), (0, .nameAndType 46 47), (0, u "$assertionsDisabled"), (0, u "Z"), (0, .methodref 12 49), (0, .nameAndType 50 51), (0, u "length"), (0, u "([B)I"), (7, .fieldref 12 60), (0, .nameAndType 61 62), (0, u "HI_BYTE_SHIFT"), (0, u "I"), (0, .fieldref 12 64), (0, .nameAndType 65 62), (0, u "LO_BYTE_SHIFT"), (5, .methodref 12 72), (0, .nameAndType 73 74), (0, u "getChar"), (0, u "([BI)C"), (21, .methodref 12 97), (0, .nameAndType 98 99), (0, u "checkBoundsBeginEnd"), (0, u "(II[B)V"), (7, .methodref 12 108), (0, .nameAndType 109 110), (0, u "newBytesFor"), (0, u "(I)[B"), (0, .methodref 12 112), (0, .nameAndType 113 114), (0, u "putChar"), (0, u "([BII)V"), (0, .methodref 12 116), (0, .nameAndType 117 118), (0, u "compress"), (0, u "([CI[BII)I"), (0, .methodref 12 120), (0, .nameAndType 121 122), (0, u "toBytes"), (0, u "([CII)[B"), (60, .methodref 184 185), (0, .class_ 186), (0, .nameAndType 187 188), (0, u "java/lang/Math"), (0, u "min"), (0, u "(II)I"), (35, .methodref 184 225), (0, .nameAndType 226 188), (0, u "max"), (0, .integer 65536), (0, .methodref 12 229), (0, .nameAndType 230 231), (0, u "indexOfChar"), (0, u "([BIII)I"), (9, .methodref 3 242), (0, .nameAndType 98 243), (0, u "(III)V"), (0, .methodref 12 245), (0, .nameAndType 246 231), (0, u "indexOfCharUnsafe"), (14, u "coderFromArrayLen"), (0, u "([BI)B"), (5, u "indexOf"), (100, .class_ 371), (1, u "java/lang/StringUTF16$LinesSpliterator"), (58, u "MAX_LENGTH"), (196, .class_ 628), (0, u "java/lang/StringUTF16$CodePointsSpliterator"), (0, .class_ 630), (0, u "java/lang/StringUTF16$CharsSpliterator")] 4

def k11m0 : Method := { name := "<init>", desc := "()V", sig := { parameters := [], returnType := none }, accessFlags := 0, code := none }
def k11c1 : Code := { maxStack := 1, maxLocals := 1, code := jdk_52_method_2_code, exceptionTable := #[], attributes := #[] }
def k11m1 : Method := { name := "newBytesFor", desc := "(I)[B", sig := { parameters := [.int], returnType := some (.array .byte) }, accessFlags := 9, code := some k11c1 }
def k11c2 : Code := { maxStack := 4, maxLocals := 1, code := jdk_52_method_3_code, exceptionTable := #[], attributes := #[] }
def k11m2 : Method := { name := "newBytesLength", desc := "(I)I", sig := { parameters := [.int], returnType := some .int }, accessFlags := 9, code := some k11c2 }
def k11c3 : Code := { maxStack := 4, maxLocals := 3, code := jdk_52_method_4_code, exceptionTable := #[], attributes := #[] }
def k11m3 : Method := { name := "putChar", desc := "([BII)V", sig := { parameters := [(.array .byte), .int, .int], returnType := none }, accessFlags := 8, code := some k11c3 }
def k11c4 : Code := { maxStack := 3, maxLocals := 2, code := jdk_52_method_5_code, exceptionTable := #[], attributes := #[] }
def k11m4 : Method := { name := "getChar", desc := "([BI)C", sig := { parameters := [(.array .byte), .int], returnType := some .char }, accessFlags := 8, code := some k11c4 }
def k11c5 : Code := { maxStack := 2, maxLocals := 1, code := jdk_52_method_6_code, exceptionTable := #[], attributes := #[] }
def k11m5 : Method := { name := "length", desc := "([B)I", sig := { parameters := [(.array .byte)], returnType := some .int }, accessFlags := 9, code := some k11c5 }
def k11c6 : Code := { maxStack := 4, maxLocals := 5, code := jdk_52_method_14_code, exceptionTable := #[], attributes := #[] }
def k11m6 : Method := { name := "toBytes", desc := "([CII)[B", sig := { parameters := [(.array .char), .int, .int], returnType := some (.array .byte) }, accessFlags := 9, code := some k11c6 }
def k11c7 : Code := { maxStack := 2, maxLocals := 2, code := jdk_52_method_15_code, exceptionTable := #[], attributes := #[] }
def k11m7 : Method := { name := "coderFromArrayLen", desc := "([BI)B", sig := { parameters := [(.array .byte), .int], returnType := some .byte }, accessFlags := 8, code := some k11c7 }
def k11c8 : Code := { maxStack := 5, maxLocals := 6, code := jdk_52_method_16_code, exceptionTable := #[], attributes := #[] }
def k11m8 : Method := { name := "compress", desc := "([CII)[B", sig := { parameters := [(.array .char), .int, .int], returnType := some (.array .byte) }, accessFlags := 9, code := some k11c8 }
def k11c9 : Code := { maxStack := 3, maxLocals := 7, code := jdk_52_method_21_code, exceptionTable := #[], attributes := #[] }
def k11m9 : Method := { name := "compress", desc := "([CI[BII)I", sig := { parameters := [(.array .char), .int, (.array .byte), .int, .int], returnType := some .int }, accessFlags := 9, code := some k11c9 }
def k11c10 : Code := { maxStack := 4, maxLocals := 4, code := jdk_52_method_40_code, exceptionTable := #[], attributes := #[] }
def k11m10 : Method := { name := "indexOf", desc := "([BIII)I", sig := { parameters := [(.array .byte), .int, .int, .int], returnType := some .int }, accessFlags := 9, code := some k11c10 }
def k11c11 : Code := { maxStack := 4, maxLocals := 4, code := jdk_52_method_47_code, exceptionTable := #[], attributes := #[] }
def k11m11 : Method := { name := "indexOfChar", desc := "([BIII)I", sig := { parameters := [(.array .byte), .int, .int, .int], returnType := some .int }, accessFlags := 10, code := some k11c11 }
def k11c12 : Code := { maxStack := 2, maxLocals := 5, code := jdk_52_method_48_code, exceptionTable := #[], attributes := #[] }
def k11m12 : Method := { name := "indexOfCharUnsafe", desc := "([BIII)I", sig := { parameters := [(.array .byte), .int, .int, .int], returnType := some .int }, accessFlags := 10, code := some k11c12 }
def k11c13 : Code := { maxStack := 3, maxLocals := 3, code := jdk_52_method_93_code, exceptionTable := #[], attributes := #[] }
def k11m13 : Method := { name := "checkBoundsBeginEnd", desc := "(II[B)V", sig := { parameters := [.int, .int, (.array .byte)], returnType := none }, accessFlags := 9, code := some k11c13 }
/-- java/lang/StringUTF16 -/
def k11 : Class := { plain "java/lang/StringUTF16" (some 0) with
  accessFlags := 48
  interfaces := #[]
  cf := some (fileOf pool11 12 #[.nestMembers #[627, 629, 369]] #[{ accessFlags := 0, nameIndex := 9, descriptorIndex := 10, attributes := #[] }, { accessFlags := 9, nameIndex := 109, descriptorIndex := 110, attributes := #[] }, { accessFlags := 9, nameIndex := 15, descriptorIndex := 16, attributes := #[] }, { accessFlags := 8, nameIndex := 113, descriptorIndex := 114, attributes := #[] }, { accessFlags := 8, nameIndex := 73, descriptorIndex := 74, attributes := #[] }, { accessFlags := 9, nameIndex := 50, descriptorIndex := 51, attributes := #[] }, { accessFlags := 9, nameIndex := 121, descriptorIndex := 122, attributes := #[] }, { accessFlags := 8, nameIndex := 261, descriptorIndex := 262, attributes := #[] }, { accessFlags := 9, nameIndex := 117, descriptorIndex := 122, attributes := #[] }, { accessFlags := 9, nameIndex := 117, descriptorIndex := 118, attributes := #[] }, { accessFlags := 9, nameIndex := 268, descriptorIndex := 231, attributes := #[] }, { accessFlags := 10, nameIndex := 230, descriptorIndex := 231, attributes := #[] }, { accessFlags := 10, nameIndex := 246, descriptorIndex := 231, attributes := #[] }, { accessFlags := 9, nameIndex := 98, descriptorIndex := 99, attributes := #[] }] 48 6 #[] #[{ accessFlags := 26, nameIndex := 61, descriptorIndex := 62, attributes := #[] }, { accessFlags := 26, nameIndex := 65, descriptorIndex := 62, attributes := #[] }, { accessFlags := 24, nameIndex := 430, descriptorIndex := 62, attributes := #[] }, { accessFlags := 4120, nameIndex := 46, descriptorIndex := 47, attributes := #[] }])
  fields := #[{ name := "HI_BYTE_SHIFT", type := .int, accessFlags := 26, slot := 0, constantValue := 0 }, { name := "LO_BYTE_SHIFT", type := .int, accessFlags := 26, slot := 1, constantValue := 0 }, { name := "MAX_LENGTH", type := .int, accessFlags := 24, slot := 2, constantValue := 0 }, { name := "$assertionsDisabled", type := .boolean, accessFlags := 4120, slot := 3, constantValue := 0 }]
  methods := #[k11m0, k11m1, k11m2, k11m3, k11m4, k11m5, k11m6, k11m7, k11m8, k11m9, k11m10, k11m11, k11m12, k11m13]
  instanceTypes := #[]
  staticTypes := #[.int, .int, .int, .boolean]
  resolved := Array.replicate 635 none
  statics := some 1 }

def pool12 : Array CpInfo := pool [(2, .class_ 4), (1, u "java/lang/Object"), (0, u "<init>"), (0, u "()V"), (17, .class_ 26), (1, u "jdk/internal/util/Preconditions"), (20, u "checkFromToIndex"), (7, .class_ 56), (0, u "jdk/internal/util/Preconditions$4"), (57, .class_ 115), (0, u "jdk/internal/util/Preconditions$1"), (7, u "SIOOBE_FORMATTER"), (0, u "Ljava/util/function/BiFunction;"), (0, .class_ 126), (0, u "jdk/internal/util/Preconditions$2"), (3, u "AIOOBE_FORMATTER"), (0, .class_ 132), (0, u "jdk/internal/util/Preconditions$3"), (3, u "IOOBE_FORMATTER"), (46, u "(IIILjava/util/function/BiFunction;)I")] 10

def k12m0 : Method := { name := "<init>", desc := "()V", sig := { parameters := [], returnType := none }, accessFlags := 1, code := none }
def k12c1 : Code := { maxStack := 4, maxLocals := 4, code := jdk_41_method_12_code, exceptionTable := #[], attributes := #[] }
def k12m1 : Method := { name := "checkFromToIndex", desc := "(IIILjava/util/function/BiFunction;)I", sig := { parameters := [.int, .int, .int, (.object "java/util/function/BiFunction")], returnType := some .int }, accessFlags := 9, code := some k12c1 }
/-- jdk/internal/util/Preconditions -/
def k12 : Class := { plain "jdk/internal/util/Preconditions" (some 0) with
  accessFlags := 33
  interfaces := #[]
  cf := some (fileOf pool12 24 #[.nestMembers #[55, 131, 125, 114]] #[{ accessFlags := 1, nameIndex := 5, descriptorIndex := 6, attributes := #[] }, { accessFlags := 9, nameIndex := 47, descriptorIndex := 183, attributes := #[] }] 33 2 #[] #[{ accessFlags := 25, nameIndex := 123, descriptorIndex := 124, attributes := #[] }, { accessFlags := 25, nameIndex := 130, descriptorIndex := 124, attributes := #[] }, { accessFlags := 25, nameIndex := 136, descriptorIndex := 124, attributes := #[] }])
  fields := #[{ name := "SIOOBE_FORMATTER", type := (.object "java/util/function/BiFunction"), accessFlags := 25, slot := 0, constantValue := 0 }, { name := "AIOOBE_FORMATTER", type := (.object "java/util/function/BiFunction"), accessFlags := 25, slot := 1, constantValue := 0 }, { name := "IOOBE_FORMATTER", type := (.object "java/util/function/BiFunction"), accessFlags := 25, slot := 2, constantValue := 0 }]
  methods := #[k12m0, k12m1]
  instanceTypes := #[]
  staticTypes := #[(.object "java/util/function/BiFunction"), (.object "java/util/function/BiFunction"), (.object "java/util/function/BiFunction")]
  resolved := Array.replicate 194 none
  statics := some 2 }

def pool13 : Array CpInfo := pool [(9, u "<init>"), (6, .class_ 18), (1, u "java/lang/Object"), (0, u "()V"), (1, .class_ 23), (1, u "jdk/internal/util/ArraysSupport"), (0, u "LOG2_ARRAY_LONG_INDEX_SCALE"), (0, u "I"), (2, u "U"), (0, u "Ljdk/internal/misc/Unsafe;"), (8, u "BIG_ENDIAN"), (0, u "Z"), (8, u "LOG2_BYTE_BIT_SIZE"), (4, u "LOG2_ARRAY_INT_INDEX_SCALE"), (54, u "JLA"), (0, u "Ljdk/internal/access/JavaLangAccess;"), (11, u "LOG2_ARRAY_BOOLEAN_INDEX_SCALE"), (9, u "LOG2_ARRAY_BYTE_INDEX_SCALE"), (5, u "LOG2_ARRAY_CHAR_INDEX_SCALE"), (5, u "LOG2_ARRAY_SHORT_INDEX_SCALE"), (18, u "LOG2_ARRAY_FLOAT_INDEX_SCALE"), (24, u "LOG2_ARRAY_DOUBLE_INDEX_SCALE"), (89, u "T_BOOLEAN"), (2, u "T_CHAR"), (1, u "T_FLOAT"), (1, u "T_DOUBLE"), (1, u "T_BYTE"), (1, u "T_SHORT"), (1, u "T_INT"), (1, u "T_LONG"), (1, u "SOFT_MAX_ARRAY_LENGTH")] 83

def k13m0 : Method := { name := "<init>", desc := "()V", sig := { parameters := [], returnType := none }, accessFlags := 2, code := none }
/-- jdk/internal/util/ArraysSupport -/
def k13 : Class := { plain "jdk/internal/util/ArraysSupport" (some 0) with
  accessFlags := 33
  interfaces := #[]
  cf := some (fileOf pool13 21 #[] #[{ accessFlags := 2, nameIndex := 9, descriptorIndex := 19, attributes := #[] }] 33 16 #[] #[{ accessFlags := 24, nameIndex := 28, descriptorIndex := 29, attributes := #[] }, { accessFlags := 26, nameIndex := 38, descriptorIndex := 39, attributes := #[] }, { accessFlags := 25, nameIndex := 121, descriptorIndex := 25, attributes := #[] }, { accessFlags := 25, nameIndex := 131, descriptorIndex := 25, attributes := #[] }, { accessFlags := 25, nameIndex := 137, descriptorIndex := 25, attributes := #[] }, { accessFlags := 25, nameIndex := 143, descriptorIndex := 25, attributes := #[] }, { accessFlags := 25, nameIndex := 53, descriptorIndex := 25, attributes := #[] }, { accessFlags := 25, nameIndex := 24, descriptorIndex := 25, attributes := #[] }, { accessFlags := 25, nameIndex := 162, descriptorIndex := 25, attributes := #[] }, { accessFlags := 25, nameIndex := 187, descriptorIndex := 25, attributes := #[] }, { accessFlags := 26, nameIndex := 48, descriptorIndex := 25, attributes := #[] }, { accessFlags := 25, nameIndex := 277, descriptorIndex := 25, attributes := #[] }, { accessFlags := 25, nameIndex := 280, descriptorIndex := 25, attributes := #[] }, { accessFlags := 25, nameIndex := 282, descriptorIndex := 25, attributes := #[] }, { accessFlags := 25, nameIndex := 284, descriptorIndex := 25, attributes := #[] }, { accessFlags := 25, nameIndex := 286, descriptorIndex := 25, attributes := #[] }, { accessFlags := 25, nameIndex := 288, descriptorIndex := 25, attributes := #[] }, { accessFlags := 25, nameIndex := 290, descriptorIndex := 25, attributes := #[] }, { accessFlags := 25, nameIndex := 292, descriptorIndex := 25, attributes := #[] }, { accessFlags := 26, nameIndex := 108, descriptorIndex := 109, attributes := #[] }, { accessFlags := 25, nameIndex := 294, descriptorIndex := 25, attributes := #[] }])
  fields := #[{ name := "U", type := (.object "jdk/internal/misc/Unsafe"), accessFlags := 24, slot := 0, constantValue := 0 }, { name := "BIG_ENDIAN", type := .boolean, accessFlags := 26, slot := 1, constantValue := 0 }, { name := "LOG2_ARRAY_BOOLEAN_INDEX_SCALE", type := .int, accessFlags := 25, slot := 2, constantValue := 0 }, { name := "LOG2_ARRAY_BYTE_INDEX_SCALE", type := .int, accessFlags := 25, slot := 3, constantValue := 0 }, { name := "LOG2_ARRAY_CHAR_INDEX_SCALE", type := .int, accessFlags := 25, slot := 4, constantValue := 0 }, { name := "LOG2_ARRAY_SHORT_INDEX_SCALE", type := .int, accessFlags := 25, slot := 5, constantValue := 0 }, { name := "LOG2_ARRAY_INT_INDEX_SCALE", type := .int, accessFlags := 25, slot := 6, constantValue := 0 }, { name := "LOG2_ARRAY_LONG_INDEX_SCALE", type := .int, accessFlags := 25, slot := 7, constantValue := 0 }, { name := "LOG2_ARRAY_FLOAT_INDEX_SCALE", type := .int, accessFlags := 25, slot := 8, constantValue := 0 }, { name := "LOG2_ARRAY_DOUBLE_INDEX_SCALE", type := .int, accessFlags := 25, slot := 9, constantValue := 0 }, { name := "LOG2_BYTE_BIT_SIZE", type := .int, accessFlags := 26, slot := 10, constantValue := 0 }, { name := "T_BOOLEAN", type := .int, accessFlags := 25, slot := 11, constantValue := 0 }, { name := "T_CHAR", type := .int, accessFlags := 25, slot := 12, constantValue := 0 }, { name := "T_FLOAT", type := .int, accessFlags := 25, slot := 13, constantValue := 0 }, { name := "T_DOUBLE", type := .int, accessFlags := 25, slot := 14, constantValue := 0 }, { name := "T_BYTE", type := .int, accessFlags := 25, slot := 15, constantValue := 0 }, { name := "T_SHORT", type := .int, accessFlags := 25, slot := 16, constantValue := 0 }, { name := "T_INT", type := .int, accessFlags := 25, slot := 17, constantValue := 0 }, { name := "T_LONG", type := .int, accessFlags := 25, slot := 18, constantValue := 0 }, { name := "JLA", type := (.object "jdk/internal/access/JavaLangAccess"), accessFlags := 26, slot := 19, constantValue := 0 }, { name := "SOFT_MAX_ARRAY_LENGTH", type := .int, accessFlags := 25, slot := 20, constantValue := 0 }]
  methods := #[k13m0]
  instanceTypes := #[]
  staticTypes := #[(.object "jdk/internal/misc/Unsafe"), .boolean, .int, .int, .int, .int, .int, .int, .int, .int, .int, .int, .int, .int, .int, .int, .int, .int, .int, (.object "jdk/internal/access/JavaLangAccess"), .int]
  resolved := Array.replicate 378 none
  statics := none }

def pool14 : Array CpInfo := pool [(1, u "java/lang/Cloneable"), (0, .class_ 1), (0, u "java/lang/Object"), (0, .class_ 3)] 3

/-- java/lang/Cloneable -/
def k14 : Class := { plain "java/lang/Cloneable" (some 0) with
  accessFlags := 1537
  interfaces := #[]
  cf := some (fileOf pool14 2 #[] #[] 1537 4 #[] #[])
  fields := #[]
  methods := #[]
  instanceTypes := #[]
  staticTypes := #[]
  resolved := Array.replicate 8 none
  statics := none }

/-- the primitive byte -/
def k15 : Class := { plain "byte" none with kind := .primitive 'B', accessFlags := 0x411 }
/-- [B -/
def k16 : Class := { plain "[B" (some 0) with kind := .array 15 .byte, interfaces := #[14, 2], accessFlags := 1041 }

/-- the primitive char -/
def k17 : Class := { plain "char" none with kind := .primitive 'C', accessFlags := 0x411 }
/-- [C -/
def k18 : Class := { plain "[C" (some 0) with kind := .array 17 .char, interfaces := #[14, 2], accessFlags := 1041 }

/-- the primitive int -/
def k19 : Class := { plain "int" none with kind := .primitive 'I', accessFlags := 0x411 }
/-- [I -/
def k20 : Class := { plain "[I" (some 0) with kind := .array 19 .int, interfaces := #[14, 2], accessFlags := 1041 }

def heap : Heap := #[{ cls := 7, slots := #[.long 0, .int 1, .null, .int 0, .null, .int 0, .int 0], vm := .statics 7 },
  { cls := 11, slots := #[.int 0, .int 8, .int 0, .int 1], vm := .statics 11 },
  { cls := 12, slots := #[.null, .null, .null], vm := .statics 12 }]
def classes : Array Class := #[k0, k1, k2, k3, k4, k5, k6, k7, k8, k9, k10, k11, k12, k13, k14, k15, k16, k17, k18, k19, k20]
def interned : List (Array UInt16 × Addr) := []
def slotsUsed : Nat := 14
def theMethod : MethodId := ⟨1, 3⟩
def args0 : Array Value := #[.int 1, .int 2, .int 3, .int 4]
def aboutOver (below : List Frame) : State where
  vm := { classes := classes, interned := interned.toArray }
  heap := heap
  slotsUsed := slotsUsed
  threads := #[{ frames := .invoking theMethod args0 :: below }]
def below0 : List Frame := [.native { method := ⟨0, 0⟩, args := #[] }]
def about1 : State := aboutOver below0
def p0 : Program := .bare "" "" ""
def e0 : Env := launch0.env 0 0 0
theorem w_frames : about1.frames = Frame.invoking theMethod args0 :: below0 := rfl
set_option maxRecDepth 65536 in
theorem w_args : argsFit about1.vm theMethod args0 = true := by decide +kernel
set_option maxRecDepth 65536 in
theorem w_heap : heapFits about1 = true := by decide +kernel
set_option maxRecDepth 65536 in
theorem w_runnable : about1.curStatus? = some .runnable := by decide +kernel
set_option maxRecDepth 65536 in
theorem w_alone : about1.alone = true := by decide +kernel
set_option maxRecDepth 65536 in
theorem w_named : about1.methodNamed? x = some theMethod := by decide +kernel
set_option maxRecDepth 65536 in
theorem w_hears : about1.hears theMethod below0 = true := by decide +kernel
set_option maxRecDepth 65536 in
theorem w_ripe : about1.ripe theMethod args0 below0 = true := by decide +kernel
theorem w_running : about1.status = .running := rfl
set_option maxRecDepth 65536 in
theorem w_room : about1.hasRoom e0.platform room_1 = true :=
  launch0.hasRoom_least _ room_1 (by decide +kernel) (by decide +kernel) (by decide +kernel) (by decide +kernel) (by decide +kernel) (by decide +kernel)
theorem allAtoms_all (ts : List Jvm.Cond) (a : Array Jvm.Value) (st : Jvm.State) : (allAtoms ts).before a st = ts.all (fun c => c.before a st) := by
  induction ts with
  | nil => rfl
  | cons c t ih =>
    show (Jvm.Cond.and c (allAtoms t)).before a st = _
    rw [Jvm.Cond.before_and, ih, List.all_cons]
def words1 : List Jvm.Cond := Jvm.Cond.code x code maxLocals ret :: tables_1
/-- a 'code' word, met by the world's own term for the bytes: nothing is compared byte by byte -/
theorem code_word {y : MethodName} {bytes : ByteArray} {mx : Nat} {rt : Option FieldType} {a : Array Value} {s : State} {m : MethodId} {meth : Method} {c : Code} (h1 : s.methodNamed? y = some m) (h2 : s.vm.method? m = some meth) (h3 : meth.code = some c) (h4 : c.code = bytes)
    (h5 : (c.maxLocals == mx && c.exceptionTable.isEmpty && decide (c.maxStack ≤ mostOperands) && decide (meth.sig.returnType = rt) && !meth.locks && decide (parseMethodDescriptor y.desc = some meth.sig)) = true) : (Jvm.Cond.code y bytes mx rt).before a s = true := by
  simp only [Bool.and_eq_true, beq_iff_eq, Bool.not_eq_true', decide_eq_true_eq] at h5
  obtain ⟨⟨⟨⟨⟨g1, g2⟩, g3⟩, g4⟩, g5⟩, g6⟩ := h5
  simp [Cond.before, Cond.holds, Cond.value, h1, h2, h3, h4, g1, g2, g3, g4, g5, g6]
def isCode : Jvm.Cond → Bool
  | .code _ _ _ _ => true
  | _ => false
theorem all_split {L : List Jvm.Cond} {P : Jvm.Cond → Bool} (h1 : L.all (fun c => isCode c || P c) = true) (h2 : ∀ c ∈ L.filter isCode, P c = true) : L.all P = true := by
  refine List.all_eq_true.mpr fun c hc => ?_
  have h := List.all_eq_true.mp h1 c hc
  rcases Bool.eq_false_or_eq_true (isCode c) with hi | hi
  · exact h2 c (List.mem_filter.mpr ⟨hc, hi⟩)
  · simpa [hi] using h
set_option maxRecDepth 65536 in
theorem w_c0 : (Jvm.Cond.code x code maxLocals ret).before args0 about1 = true := code_word (m := ⟨1, 3⟩) (meth := k1m3) (c := k1c3) (by decide +kernel) rfl rfl rfl (by decide +kernel)
set_option maxRecDepth 65536 in
theorem w_c1 : (Jvm.Cond.code ({ cls := "com/example/vigilant_scheduler/vigilantscheduler/job/JobIdPatternIsPlainIdPinLaw", name := "pick", desc := "(I)C" } : Jvm.MethodName) method_2_code (2 : Nat) (Option.some Jvm.ClassFile.FieldType.char)).before args0 about1 = true := code_word (m := ⟨1, 1⟩) (meth := k1m1) (c := k1c1) (by decide +kernel) rfl rfl rfl (by decide +kernel)
set_option maxRecDepth 65536 in
theorem w_c2 : (Jvm.Cond.code ({ cls := "java/lang/String", name := "<init>", desc := "([C)V" } : Jvm.MethodName) jdk_42_method_3_code (2 : Nat) (Option.none : Option Jvm.ClassFile.FieldType)).before args0 about1 = true := code_word (m := ⟨7, 1⟩) (meth := k7m1) (c := k7c1) (by decide +kernel) rfl rfl rfl (by decide +kernel)
set_option maxRecDepth 65536 in
theorem w_c3 : (Jvm.Cond.code ({ cls := "java/lang/String", name := "<init>", desc := "([CIILjava/lang/Void;)V" } : Jvm.MethodName) jdk_42_method_149_code (6 : Nat) (Option.none : Option Jvm.ClassFile.FieldType)).before args0 about1 = true := code_word (m := ⟨7, 5⟩) (meth := k7m5) (c := k7c5) (by decide +kernel) rfl rfl rfl (by decide +kernel)
set_option maxRecDepth 65536 in
theorem w_c4 : (Jvm.Cond.code ({ cls := "java/lang/Object", name := "<init>", desc := "()V" } : Jvm.MethodName) object_method_1_code (1 : Nat) (Option.none : Option Jvm.ClassFile.FieldType)).before args0 about1 = true := code_word (m := ⟨0, 0⟩) (meth := k0m0) (c := k0c0) (by decide +kernel) rfl rfl rfl (by decide +kernel)
set_option maxRecDepth 65536 in
theorem w_c5 : (Jvm.Cond.code ({ cls := "com/example/vigilant_scheduler/vigilantscheduler/job/JobIdPattern", name := "isPlainId", desc := "(Ljava/lang/String;)Z" } : Jvm.MethodName) prog_27_method_2_code (1 : Nat) (Option.some Jvm.ClassFile.FieldType.boolean)).before args0 about1 = true := code_word (m := ⟨8, 1⟩) (meth := k8m1) (c := k8c1) (by decide +kernel) rfl rfl rfl (by decide +kernel)
set_option maxRecDepth 65536 in
theorem w_c6 : (Jvm.Cond.code ({ cls := "java/lang/String", name := "indexOf", desc := "(I)I" } : Jvm.MethodName) jdk_42_method_79_code (2 : Nat) (Option.some Jvm.ClassFile.FieldType.int)).before args0 about1 = true := code_word (m := ⟨7, 3⟩) (meth := k7m3) (c := k7c3) (by decide +kernel) rfl rfl rfl (by decide +kernel)
set_option maxRecDepth 65536 in
theorem w_c7 : (Jvm.Cond.code ({ cls := "java/lang/String", name := "indexOf", desc := "(II)I" } : Jvm.MethodName) jdk_42_method_80_code (3 : Nat) (Option.some Jvm.ClassFile.FieldType.int)).before args0 about1 = true := code_word (m := ⟨7, 4⟩) (meth := k7m4) (c := k7c4) (by decide +kernel) rfl rfl rfl (by decide +kernel)
set_option maxRecDepth 65536 in
theorem w_c8 : (Jvm.Cond.code ({ cls := "java/lang/String", name := "isLatin1", desc := "()Z" } : Jvm.MethodName) jdk_42_method_154_code (1 : Nat) (Option.some Jvm.ClassFile.FieldType.boolean)).before args0 about1 = true := code_word (m := ⟨7, 7⟩) (meth := k7m7) (c := k7c7) (by decide +kernel) rfl rfl rfl (by decide +kernel)
set_option maxRecDepth 65536 in
theorem w_c9 : (Jvm.Cond.code ({ cls := "java/lang/String", name := "length", desc := "()I" } : Jvm.MethodName) jdk_42_method_54_code (1 : Nat) (Option.some Jvm.ClassFile.FieldType.int)).before args0 about1 = true := code_word (m := ⟨7, 2⟩) (meth := k7m2) (c := k7c2) (by decide +kernel) rfl rfl rfl (by decide +kernel)
set_option maxRecDepth 65536 in
theorem w_c10 : (Jvm.Cond.code ({ cls := "java/lang/String", name := "coder", desc := "()B" } : Jvm.MethodName) jdk_42_method_152_code (1 : Nat) (Option.some Jvm.ClassFile.FieldType.byte)).before args0 about1 = true := code_word (m := ⟨7, 6⟩) (meth := k7m6) (c := k7c6) (by decide +kernel) rfl rfl rfl (by decide +kernel)
set_option maxRecDepth 65536 in
theorem w_c11 : (Jvm.Cond.code ({ cls := "java/lang/StringLatin1", name := "indexOf", desc := "([BIII)I" } : Jvm.MethodName) jdk_43_method_22_code (4 : Nat) (Option.some Jvm.ClassFile.FieldType.int)).before args0 about1 = true := code_word (m := ⟨9, 2⟩) (meth := k9m2) (c := k9c2) (by decide +kernel) rfl rfl rfl (by decide +kernel)
set_option maxRecDepth 65536 in
theorem w_c12 : (Jvm.Cond.code ({ cls := "java/lang/StringLatin1", name := "canEncode", desc := "(I)Z" } : Jvm.MethodName) jdk_43_method_4_code (1 : Nat) (Option.some Jvm.ClassFile.FieldType.boolean)).before args0 about1 = true := code_word (m := ⟨9, 1⟩) (meth := k9m1) (c := k9c1) (by decide +kernel) rfl rfl rfl (by decide +kernel)
set_option maxRecDepth 65536 in
theorem w_c13 : (Jvm.Cond.code ({ cls := "java/lang/Math", name := "max", desc := "(II)I" } : Jvm.MethodName) jdk_29_method_65_code (2 : Nat) (Option.some Jvm.ClassFile.FieldType.int)).before args0 about1 = true := code_word (m := ⟨10, 1⟩) (meth := k10m1) (c := k10c1) (by decide +kernel) rfl rfl rfl (by decide +kernel)
set_option maxRecDepth 65536 in
theorem w_c14 : (Jvm.Cond.code ({ cls := "java/lang/Math", name := "min", desc := "(II)I" } : Jvm.MethodName) jdk_29_method_69_code (2 : Nat) (Option.some Jvm.ClassFile.FieldType.int)).before args0 about1 = true := code_word (m := ⟨10, 2⟩) (meth := k10m2) (c := k10c2) (by decide +kernel) rfl rfl rfl (by decide +kernel)
set_option maxRecDepth 65536 in
theorem w_c15 : (Jvm.Cond.code ({ cls := "java/lang/StringUTF16", name := "compress", desc := "([CII)[B" } : Jvm.MethodName) jdk_52_method_16_code (6 : Nat) (Option.some (Jvm.ClassFile.FieldType.array Jvm.ClassFile.FieldType.byte))).before args0 about1 = true := code_word (m := ⟨11, 8⟩) (meth := k11m8) (c := k11c8) (by decide +kernel) rfl rfl rfl (by decide +kernel)
set_option maxRecDepth 65536 in
theorem w_c16 : (Jvm.Cond.code ({ cls := "java/lang/StringUTF16", name := "compress", desc := "([CI[BII)I" } : Jvm.MethodName) jdk_52_method_21_code (7 : Nat) (Option.some Jvm.ClassFile.FieldType.int)).before args0 about1 = true := code_word (m := ⟨11, 9⟩) (meth := k11m9) (c := k11c9) (by decide +kernel) rfl rfl rfl (by decide +kernel)
set_option maxRecDepth 65536 in
theorem w_c17 : (Jvm.Cond.code ({ cls := "java/lang/StringUTF16", name := "coderFromArrayLen", desc := "([BI)B" } : Jvm.MethodName) jdk_52_method_15_code (2 : Nat) (Option.some Jvm.ClassFile.FieldType.byte)).before args0 about1 = true := code_word (m := ⟨11, 7⟩) (meth := k11m7) (c := k11c7) (by decide +kernel) rfl rfl rfl (by decide +kernel)
set_option maxRecDepth 65536 in
theorem w_c18 : (Jvm.Cond.code ({ cls := "com/example/vigilant_scheduler/vigilantscheduler/job/JobIdPatternIsPlainIdPinLaw", name := "isWild", desc := "(C)Z" } : Jvm.MethodName) method_3_code (1 : Nat) (Option.some Jvm.ClassFile.FieldType.boolean)).before args0 about1 = true := code_word (m := ⟨1, 2⟩) (meth := k1m2) (c := k1c2) (by decide +kernel) rfl rfl rfl (by decide +kernel)
set_option maxRecDepth 65536 in
theorem w_c19 : (Jvm.Cond.code ({ cls := "java/lang/StringLatin1", name := "indexOfChar", desc := "([BIII)I" } : Jvm.MethodName) jdk_43_method_23_code (6 : Nat) (Option.some Jvm.ClassFile.FieldType.int)).before args0 about1 = true := code_word (m := ⟨9, 3⟩) (meth := k9m3) (c := k9c3) (by decide +kernel) rfl rfl rfl (by decide +kernel)
set_option maxRecDepth 65536 in
theorem w_c20 : (Jvm.Cond.code ({ cls := "java/lang/StringUTF16", name := "toBytes", desc := "([CII)[B" } : Jvm.MethodName) jdk_52_method_14_code (5 : Nat) (Option.some (Jvm.ClassFile.FieldType.array Jvm.ClassFile.FieldType.byte))).before args0 about1 = true := code_word (m := ⟨11, 6⟩) (meth := k11m6) (c := k11c6) (by decide +kernel) rfl rfl rfl (by decide +kernel)
set_option maxRecDepth 65536 in
theorem w_c21 : (Jvm.Cond.code ({ cls := "java/lang/StringUTF16", name := "newBytesFor", desc := "(I)[B" } : Jvm.MethodName) jdk_52_method_2_code (1 : Nat) (Option.some (Jvm.ClassFile.FieldType.array Jvm.ClassFile.FieldType.byte))).before args0 about1 = true := code_word (m := ⟨11, 1⟩) (meth := k11m1) (c := k11c1) (by decide +kernel) rfl rfl rfl (by decide +kernel)
set_option maxRecDepth 65536 in
theorem w_c22 : (Jvm.Cond.code ({ cls := "java/lang/StringUTF16", name := "newBytesLength", desc := "(I)I" } : Jvm.MethodName) jdk_52_method_3_code (1 : Nat) (Option.some Jvm.ClassFile.FieldType.int)).before args0 about1 = true := code_word (m := ⟨11, 2⟩) (meth := k11m2) (c := k11c2) (by decide +kernel) rfl rfl rfl (by decide +kernel)
set_option maxRecDepth 65536 in
theorem w_c23 : (Jvm.Cond.code ({ cls := "java/lang/StringUTF16", name := "putChar", desc := "([BII)V" } : Jvm.MethodName) jdk_52_method_4_code (3 : Nat) (Option.none : Option Jvm.ClassFile.FieldType)).before args0 about1 = true := code_word (m := ⟨11, 3⟩) (meth := k11m3) (c := k11c3) (by decide +kernel) rfl rfl rfl (by decide +kernel)
set_option maxRecDepth 65536 in
theorem w_c24 : (Jvm.Cond.code ({ cls := "java/lang/StringUTF16", name := "getChar", desc := "([BI)C" } : Jvm.MethodName) jdk_52_method_5_code (2 : Nat) (Option.some Jvm.ClassFile.FieldType.char)).before args0 about1 = true := code_word (m := ⟨11, 4⟩) (meth := k11m4) (c := k11c4) (by decide +kernel) rfl rfl rfl (by decide +kernel)
set_option maxRecDepth 65536 in
theorem w_c25 : (Jvm.Cond.code ({ cls := "java/lang/StringUTF16", name := "indexOf", desc := "([BIII)I" } : Jvm.MethodName) jdk_52_method_40_code (4 : Nat) (Option.some Jvm.ClassFile.FieldType.int)).before args0 about1 = true := code_word (m := ⟨11, 10⟩) (meth := k11m10) (c := k11c10) (by decide +kernel) rfl rfl rfl (by decide +kernel)
set_option maxRecDepth 65536 in
theorem w_c26 : (Jvm.Cond.code ({ cls := "java/lang/StringUTF16", name := "indexOfChar", desc := "([BIII)I" } : Jvm.MethodName) jdk_52_method_47_code (4 : Nat) (Option.some Jvm.ClassFile.FieldType.int)).before args0 about1 = true := code_word (m := ⟨11, 11⟩) (meth := k11m11) (c := k11c11) (by decide +kernel) rfl rfl rfl (by decide +kernel)
set_option maxRecDepth 65536 in
theorem w_c27 : (Jvm.Cond.code ({ cls := "java/lang/StringUTF16", name := "checkBoundsBeginEnd", desc := "(II[B)V" } : Jvm.MethodName) jdk_52_method_93_code (3 : Nat) (Option.none : Option Jvm.ClassFile.FieldType)).before args0 about1 = true := code_word (m := ⟨11, 13⟩) (meth := k11m13) (c := k11c13) (by decide +kernel) rfl rfl rfl (by decide +kernel)
set_option maxRecDepth 65536 in
theorem w_c28 : (Jvm.Cond.code ({ cls := "java/lang/StringUTF16", name := "length", desc := "([B)I" } : Jvm.MethodName) jdk_52_method_6_code (1 : Nat) (Option.some Jvm.ClassFile.FieldType.int)).before args0 about1 = true := code_word (m := ⟨11, 5⟩) (meth := k11m5) (c := k11c5) (by decide +kernel) rfl rfl rfl (by decide +kernel)
set_option maxRecDepth 65536 in
theorem w_c29 : (Jvm.Cond.code ({ cls := "java/lang/String", name := "checkBoundsBeginEnd", desc := "(III)V" } : Jvm.MethodName) jdk_42_method_158_code (3 : Nat) (Option.none : Option Jvm.ClassFile.FieldType)).before args0 about1 = true := code_word (m := ⟨7, 8⟩) (meth := k7m8) (c := k7c8) (by decide +kernel) rfl rfl rfl (by decide +kernel)
set_option maxRecDepth 65536 in
theorem w_c30 : (Jvm.Cond.code ({ cls := "jdk/internal/util/Preconditions", name := "checkFromToIndex", desc := "(IIILjava/util/function/BiFunction;)I" } : Jvm.MethodName) jdk_41_method_12_code (4 : Nat) (Option.some Jvm.ClassFile.FieldType.int)).before args0 about1 = true := code_word (m := ⟨12, 1⟩) (meth := k12m1) (c := k12c1) (by decide +kernel) rfl rfl rfl (by decide +kernel)
set_option maxRecDepth 65536 in
theorem w_c31 : (Jvm.Cond.code ({ cls := "java/lang/StringUTF16", name := "indexOfCharUnsafe", desc := "([BIII)I" } : Jvm.MethodName) jdk_52_method_48_code (5 : Nat) (Option.some Jvm.ClassFile.FieldType.int)).before args0 about1 = true := code_word (m := ⟨11, 12⟩) (meth := k11m12) (c := k11c12) (by decide +kernel) rfl rfl rfl (by decide +kernel)
def codes1 : List Jvm.Cond := [Jvm.Cond.code x code maxLocals ret, Jvm.Cond.code ({ cls := "com/example/vigilant_scheduler/vigilantscheduler/job/JobIdPatternIsPlainIdPinLaw", name := "pick", desc := "(I)C" } : Jvm.MethodName) method_2_code (2 : Nat) (Option.some Jvm.ClassFile.FieldType.char), Jvm.Cond.code ({ cls := "java/lang/String", name := "<init>", desc := "([C)V" } : Jvm.MethodName) jdk_42_method_3_code (2 : Nat) (Option.none : Option Jvm.ClassFile.FieldType), Jvm.Cond.code ({ cls := "java/lang/String", name := "<init>", desc := "([CIILjava/lang/Void;)V" } : Jvm.MethodName) jdk_42_method_149_code (6 : Nat) (Option.none : Option Jvm.ClassFile.FieldType), Jvm.Cond.code ({ cls := "java/lang/Object", name := "<init>", desc := "()V" } : Jvm.MethodName) object_method_1_code (1 : Nat) (Option.none : Option Jvm.ClassFile.FieldType), Jvm.Cond.code ({ cls := "com/example/vigilant_scheduler/vigilantscheduler/job/JobIdPattern", name := "isPlainId", desc := "(Ljava/lang/String;)Z" } : Jvm.MethodName) prog_27_method_2_code (1 : Nat) (Option.some Jvm.ClassFile.FieldType.boolean), Jvm.Cond.code ({ cls := "java/lang/String", name := "indexOf", desc := "(I)I" } : Jvm.MethodName) jdk_42_method_79_code (2 : Nat) (Option.some Jvm.ClassFile.FieldType.int), Jvm.Cond.code ({ cls := "java/lang/String", name := "indexOf", desc := "(II)I" } : Jvm.MethodName) jdk_42_method_80_code (3 : Nat) (Option.some Jvm.ClassFile.FieldType.int), Jvm.Cond.code ({ cls := "java/lang/String", name := "isLatin1", desc := "()Z" } : Jvm.MethodName) jdk_42_method_154_code (1 : Nat) (Option.some Jvm.ClassFile.FieldType.boolean), Jvm.Cond.code ({ cls := "java/lang/String", name := "length", desc := "()I" } : Jvm.MethodName) jdk_42_method_54_code (1 : Nat) (Option.some Jvm.ClassFile.FieldType.int), Jvm.Cond.code ({ cls := "java/lang/String", name := "coder", desc := "()B" } : Jvm.MethodName) jdk_42_method_152_code (1 : Nat) (Option.some Jvm.ClassFile.FieldType.byte), Jvm.Cond.code ({ cls := "java/lang/StringLatin1", name := "indexOf", desc := "([BIII)I" } : Jvm.MethodName) jdk_43_method_22_code (4 : Nat) (Option.some Jvm.ClassFile.FieldType.int), Jvm.Cond.code ({ cls := "java/lang/StringLatin1", name := "canEncode", desc := "(I)Z" } : Jvm.MethodName) jdk_43_method_4_code (1 : Nat) (Option.some Jvm.ClassFile.FieldType.boolean), Jvm.Cond.code ({ cls := "java/lang/Math", name := "max", desc := "(II)I" } : Jvm.MethodName) jdk_29_method_65_code (2 : Nat) (Option.some Jvm.ClassFile.FieldType.int), Jvm.Cond.code ({ cls := "java/lang/Math", name := "min", desc := "(II)I" } : Jvm.MethodName) jdk_29_method_69_code (2 : Nat) (Option.some Jvm.ClassFile.FieldType.int), Jvm.Cond.code ({ cls := "java/lang/StringUTF16", name := "compress", desc := "([CII)[B" } : Jvm.MethodName) jdk_52_method_16_code (6 : Nat) (Option.some (Jvm.ClassFile.FieldType.array Jvm.ClassFile.FieldType.byte)), Jvm.Cond.code ({ cls := "java/lang/StringUTF16", name := "compress", desc := "([CI[BII)I" } : Jvm.MethodName) jdk_52_method_21_code (7 : Nat) (Option.some Jvm.ClassFile.FieldType.int), Jvm.Cond.code ({ cls := "java/lang/StringUTF16", name := "coderFromArrayLen", desc := "([BI)B" } : Jvm.MethodName) jdk_52_method_15_code (2 : Nat) (Option.some Jvm.ClassFile.FieldType.byte), Jvm.Cond.code ({ cls := "com/example/vigilant_scheduler/vigilantscheduler/job/JobIdPatternIsPlainIdPinLaw", name := "isWild", desc := "(C)Z" } : Jvm.MethodName) method_3_code (1 : Nat) (Option.some Jvm.ClassFile.FieldType.boolean), Jvm.Cond.code ({ cls := "java/lang/StringLatin1", name := "indexOfChar", desc := "([BIII)I" } : Jvm.MethodName) jdk_43_method_23_code (6 : Nat) (Option.some Jvm.ClassFile.FieldType.int), Jvm.Cond.code ({ cls := "java/lang/StringUTF16", name := "toBytes", desc := "([CII)[B" } : Jvm.MethodName) jdk_52_method_14_code (5 : Nat) (Option.some (Jvm.ClassFile.FieldType.array Jvm.ClassFile.FieldType.byte)), Jvm.Cond.code ({ cls := "java/lang/StringUTF16", name := "newBytesFor", desc := "(I)[B" } : Jvm.MethodName) jdk_52_method_2_code (1 : Nat) (Option.some (Jvm.ClassFile.FieldType.array Jvm.ClassFile.FieldType.byte)), Jvm.Cond.code ({ cls := "java/lang/StringUTF16", name := "newBytesLength", desc := "(I)I" } : Jvm.MethodName) jdk_52_method_3_code (1 : Nat) (Option.some Jvm.ClassFile.FieldType.int), Jvm.Cond.code ({ cls := "java/lang/StringUTF16", name := "putChar", desc := "([BII)V" } : Jvm.MethodName) jdk_52_method_4_code (3 : Nat) (Option.none : Option Jvm.ClassFile.FieldType), Jvm.Cond.code ({ cls := "java/lang/StringUTF16", name := "getChar", desc := "([BI)C" } : Jvm.MethodName) jdk_52_method_5_code (2 : Nat) (Option.some Jvm.ClassFile.FieldType.char), Jvm.Cond.code ({ cls := "java/lang/StringUTF16", name := "indexOf", desc := "([BIII)I" } : Jvm.MethodName) jdk_52_method_40_code (4 : Nat) (Option.some Jvm.ClassFile.FieldType.int), Jvm.Cond.code ({ cls := "java/lang/StringUTF16", name := "indexOfChar", desc := "([BIII)I" } : Jvm.MethodName) jdk_52_method_47_code (4 : Nat) (Option.some Jvm.ClassFile.FieldType.int), Jvm.Cond.code ({ cls := "java/lang/StringUTF16", name := "checkBoundsBeginEnd", desc := "(II[B)V" } : Jvm.MethodName) jdk_52_method_93_code (3 : Nat) (Option.none : Option Jvm.ClassFile.FieldType), Jvm.Cond.code ({ cls := "java/lang/StringUTF16", name := "length", desc := "([B)I" } : Jvm.MethodName) jdk_52_method_6_code (1 : Nat) (Option.some Jvm.ClassFile.FieldType.int), Jvm.Cond.code ({ cls := "java/lang/String", name := "checkBoundsBeginEnd", desc := "(III)V" } : Jvm.MethodName) jdk_42_method_158_code (3 : Nat) (Option.none : Option Jvm.ClassFile.FieldType), Jvm.Cond.code ({ cls := "jdk/internal/util/Preconditions", name := "checkFromToIndex", desc := "(IIILjava/util/function/BiFunction;)I" } : Jvm.MethodName) jdk_41_method_12_code (4 : Nat) (Option.some Jvm.ClassFile.FieldType.int), Jvm.Cond.code ({ cls := "java/lang/StringUTF16", name := "indexOfCharUnsafe", desc := "([BIII)I" } : Jvm.MethodName) jdk_52_method_48_code (5 : Nat) (Option.some Jvm.ClassFile.FieldType.int)]
set_option maxRecDepth 65536 in
theorem codes_eq : words1.filter isCode = codes1 := rfl
theorem w_codes : ∀ c ∈ words1.filter isCode, c.before args0 about1 = true := by
  rw [codes_eq]
  intro c hc
  simp only [codes1, List.mem_cons, List.not_mem_nil, or_false] at hc
  rcases hc with rfl | rfl | rfl | rfl | rfl | rfl | rfl | rfl | rfl | rfl | rfl | rfl | rfl | rfl | rfl | rfl | rfl | rfl | rfl | rfl | rfl | rfl | rfl | rfl | rfl | rfl | rfl | rfl | rfl | rfl | rfl | rfl
  · exact w_c0
  · exact w_c1
  · exact w_c2
  · exact w_c3
  · exact w_c4
  · exact w_c5
  · exact w_c6
  · exact w_c7
  · exact w_c8
  · exact w_c9
  · exact w_c10
  · exact w_c11
  · exact w_c12
  · exact w_c13
  · exact w_c14
  · exact w_c15
  · exact w_c16
  · exact w_c17
  · exact w_c18
  · exact w_c19
  · exact w_c20
  · exact w_c21
  · exact w_c22
  · exact w_c23
  · exact w_c24
  · exact w_c25
  · exact w_c26
  · exact w_c27
  · exact w_c28
  · exact w_c29
  · exact w_c30
  · exact w_c31
set_option maxRecDepth 65536 in
theorem w_t1 : (words1.take 24).all (fun c => isCode c || c.before args0 about1) = true := by decide +kernel
set_option maxRecDepth 65536 in
theorem w_t2 : ((words1.drop 24).take 24).all (fun c => isCode c || c.before args0 about1) = true := by decide +kernel
set_option maxRecDepth 65536 in
theorem w_t3 : (((words1.drop 24).drop 24).take 24).all (fun c => isCode c || c.before args0 about1) = true := by decide +kernel
set_option maxRecDepth 65536 in
theorem w_t4 : ((((words1.drop 24).drop 24).drop 24).take 24).all (fun c => isCode c || c.before args0 about1) = true := by decide +kernel
set_option maxRecDepth 65536 in
theorem w_t5 : (((((words1.drop 24).drop 24).drop 24).drop 24).take 24).all (fun c => isCode c || c.before args0 about1) = true := by decide +kernel
set_option maxRecDepth 65536 in
theorem w_t6 : (((((words1.drop 24).drop 24).drop 24).drop 24).drop 24).all (fun c => isCode c || c.before args0 about1) = true := by decide +kernel
theorem w_tables : (allAtoms (Jvm.Cond.code x code maxLocals ret :: tables_1)).before args0 about1 = true := by
  rw [allAtoms_all]
  show words1.all (fun c => c.before args0 about1) = true
  refine all_split ?_ w_codes
  rw [← List.take_append_drop 24 words1, List.all_append, w_t1, ← List.take_append_drop 24 (words1.drop 24), List.all_append, w_t2, ← List.take_append_drop 24 ((words1.drop 24).drop 24), List.all_append, w_t3, ← List.take_append_drop 24 (((words1.drop 24).drop 24).drop 24), List.all_append, w_t4, ← List.take_append_drop 24 ((((words1.drop 24).drop 24).drop 24).drop 24), List.all_append, w_t5, w_t6]
  rfl
set_option maxRecDepth 65536 in
theorem w_rest : rest_1_c.before args0 about1 = true := by decide +kernel
set_option maxRecDepth 65536 in
theorem w_case : (Jvm.Cond.and given_1 narrow_1).before args0 about1 = true := by decide +kernel
set_option maxRecDepth 65536 in
theorem w_consts : constsHeld consts_1 about1 := Jvm.Lit.constsHeldB_iff.mp (by decide +kernel)
theorem w_applies : (headSpec (Jvm.Cond.code x code maxLocals ret :: tables_1) room_1).applies x e0.platform about1 = true :=
  (Spec.applies_iff w_frames).mpr ⟨w_running, w_runnable, w_alone, w_named, w_hears, w_ripe, w_room, w_tables⟩
theorem atStart : AtStart classFile x code maxLocals ret World_1 tables_1 room_1 Calls_1 rest_1 Pre_1 launch0 p0 e0 about1 theMethod args0 below0 :=
  ⟨lists_1, trivial, launch0.admits_env _ _ _, launch0.least_env, fairChoices_fair.cas, fairChoices_fair.clock, w_frames, w_args, w_heap, w_applies, ⟨w_consts, trivial⟩, w_rest, w_case⟩
end start1
theorem witness_1 : WitnessClaimed_1 := ⟨start1.p0, start1.e0, start1.about1, start1.theMethod, start1.args0, start1.below0, start1.atStart⟩
end Jvm.Pilot.@@N@@
