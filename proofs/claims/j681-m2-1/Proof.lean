import JvmDerived
import JvmDerived.Pilot.@@N@@Statement
import JvmDerived.Pilot.@@N@@Code
set_option linter.unusedVariables false
set_option linter.unusedSimpArgs false
/- laws to paste: Road.backV (cut by pick.py; bodies as the Statement names them) -/
namespace Jvm.Pilot.@@N@@
namespace StrChars
open Jvm Sem ClassFile Op Lib Jvm.Stand Jvm.Free.XT Jvm.Free.ALB Jvm.Free.JM Jvm.Free
open Jvm.Lib.Cold (StaticIs)
/-- a char array whose places are chars -/
def Ch (a : Addr) (A : Cell) (U : State) : Prop := Arr .char a A U ∧ Typed .char A
theorem Ch.mv {a : Addr} {A : Cell} {U U' : State} (h : Ch a A U) (hal : U.vm.Alike U'.vm) (hh : U'.heap = U.heap) : Ch a A U' := ⟨h.1.mv hal hh, h.2⟩
theorem Ch.keep {a : Addr} {A : Cell} {U U' : State} (h : Ch a A U) (hal : U.vm.Alike U'.vm) (hk : U'.heap[a]? = some A) : Ch a A U' := ⟨h.1.keep hal hk, h.2⟩
/-- what place i of a char[]'s cell holds -/
def cv (A : Cell) (i : Nat) : Int32 := match A.slots[i]? with | some (.int x) => x | _ => 0
theorem Ch.get {a : Addr} {A : Cell} {U : State} (h : Ch a A U) {i : Nat} (hi : i < A.slots.size) : A.slots[i]? = some (.int (cv A i)) := by
  have e := Array.getElem?_eq_getElem hi
  have f := h.2 i _ e
  unfold cv; rw [e]
  generalize A.slots[i] = v at f
  cases v <;> simp [fits] at f ⊢
/-- the byte that i2b leaves of a char -/
def lo8 (x : Int32) : Int32 := x.toInt8.toInt32
theorem fits_lo8 (y : Int32) : fits .byte (.int (lo8 y)) = true := by
  have h1 := y.toInt8.le_toInt
  have h2 := y.toInt8.toInt_lt
  simp only [lo8, fits, Bool.and_eq_true, decide_eq_true_eq, Int32.le_iff_toInt_le, Int8.toInt_toInt32, show (-128 : Int32).toInt = -128 from by decide, show (127 : Int32).toInt = 127 from by decide]
  omega
/-- A' is A but that each place j of lo .. hi - 1 holds f j -/
def Laid (A A' : Cell) (lo hi : Nat) (f : Nat → Value) : Prop := A'.cls = A.cls ∧ A'.vm = A.vm ∧ A'.slots.size = A.slots.size ∧ ∀ i, A'.slots[i]? = if lo ≤ i ∧ i < hi then some (f i) else A.slots[i]?
theorem Laid.zero (A : Cell) (lo : Nat) (f : Nat → Value) : Laid A A lo (lo + 0) f := ⟨rfl, rfl, rfl, fun i => by rw [if_neg (by omega)]⟩
theorem Laid.step {A Ak : Cell} {lo k : Nat} {f : Nat → Value} {v : Value} (h : Laid A Ak lo k f) (hlo : lo ≤ k) (hk : k < Ak.slots.size) (hv : v = f k) : Laid A (Ak.setSlot k v) lo (k + 1) f := by
  refine ⟨h.1, h.2.1, by simpa [Cell.setSlot] using h.2.2.1, fun i => ?_⟩
  by_cases e : k = i
  · subst e; rw [Cell.slots_setSlot_self v hk, if_pos (by omega), hv]
  · rw [Cell.slots_setSlot_ne v e, h.2.2.2 i]
    by_cases q : lo ≤ i ∧ i < k
    · rw [if_pos q, if_pos (by omega)]
    · rw [if_neg q, if_neg (by omega)]
def U16 : String := "java/lang/StringUTF16"
namespace Cmp5
def yN : MethodName := ⟨"java/lang/StringUTF16", "compress", "([CI[BII)I"⟩
abbrev yB : ByteArray := jdk_52_method_21_code
theorem d0 : decode yB 0 = .ok (.iconst 0, 1) := by decide +kernel
theorem d1 : decode yB 1 = .ok (.istore 5, 2) := by decide +kernel
theorem d3 : decode yB 3 = .ok (.iload 5, 2) := by decide +kernel
theorem d5 : decode yB 5 = .ok (.iload 4, 2) := by decide +kernel
theorem d7 : decode yB 7 = .ok (.if_icmp (.ge) 37, 3) := by decide +kernel
theorem d10 : decode yB 10 = .ok (.aload_n 0, 1) := by decide +kernel
theorem d11 : decode yB 11 = .ok (.iload_n 1, 1) := by decide +kernel
theorem d12 : decode yB 12 = .ok (.caload, 1) := by decide +kernel
theorem d13 : decode yB 13 = .ok (.istore 6, 2) := by decide +kernel
theorem d15 : decode yB 15 = .ok (.iload 6, 2) := by decide +kernel
theorem d17 : decode yB 17 = .ok (.sipush 255, 3) := by decide +kernel
theorem d20 : decode yB 20 = .ok (.if_icmp (.le) 6, 3) := by decide +kernel
theorem d26 : decode yB 26 = .ok (.aload_n 2, 1) := by decide +kernel
theorem d27 : decode yB 27 = .ok (.iload_n 3, 1) := by decide +kernel
theorem d28 : decode yB 28 = .ok (.iload 6, 2) := by decide +kernel
theorem d30 : decode yB 30 = .ok (.i2b, 1) := by decide +kernel
theorem d31 : decode yB 31 = .ok (.bastore, 1) := by decide +kernel
theorem d32 : decode yB 32 = .ok (.iinc 1 1, 3) := by decide +kernel
theorem d35 : decode yB 35 = .ok (.iinc 3 1, 3) := by decide +kernel
theorem d38 : decode yB 38 = .ok (.iinc 5 1, 3) := by decide +kernel
theorem d41 : decode yB 41 = .ok (.goto (-38), 3) := by decide +kernel
theorem d44 : decode yB 44 = .ok (.iload 4, 2) := by decide +kernel
theorem d46 : decode yB 46 = .ok (.ireturn, 1) := by decide +kernel
def site : List Cond := []
def tab : Cond := tabOf yN yB 7 (some .int) site
def P (b : Addr) (A : Cell) (d : Addr) (B : Cell) (o q len : Nat) (args : Array Value) (s : State) : Prop := args = #[.ref b, .int (Int32.ofNat o), .ref d, .int (Int32.ofNat q), .int (Int32.ofNat len)] ∧ Ch b A s ∧ Arr .byte d B s ∧ b ≠ d ∧ o + len ≤ A.slots.size ∧ q + len ≤ B.slots.size ∧ ∀ i, i < len → ¬ 255 < cv A (o + i)
def E (b : Addr) (A : Cell) (d : Addr) (B : Cell) (o q len : Nat) (r : Option Value) (s u : State) : Prop := r = some (.int (Int32.ofNat len)) ∧ ∃ B', Put d B' s u ∧ Laid B B' q (q + len) (fun j => Value.int (lo8 (cv A (o + (j - q)))))
/-- no char of the range above 255: len; the places written hold each char's low byte -/
theorem law (l : Launch) (b : Addr) (A : Cell) (d : Addr) (B : Cell) (o q len : Nat) : Law l yN 5 5 0 0 yB 7 (some .int) site (P b A d B o q len) (E b A d B o q len) (copyLocs d q len) 0 0 := by
  refine Law.of_walk (plainFor_of_name (by decide +kernel)) (by decide +kernel) (by decide +kernel) (by decide) (fun _ _ h => by rw [h.1]; rfl) (fun _ U U' hal hh h => ⟨h.1, h.2.1.mv hal hh, h.2.2.1.mv hal hh, h.2.2.2⟩) (fun r U U' V V' h1 hal h2 h => ⟨h.1, h.2.elim fun B' q => ⟨B', q.1.mv h1 h2, q.2⟩⟩) ?_
  intro p e s m args below meth c s₁ X0 hexec hbytes hml hret hlk hnm hown hh0 W hP
  obtain ⟨rfl, hA, hB, hne, l1, l2, hp⟩ := hP
  have c1 : Steps p.tables e below (s₁.setTop (entryFrame m #[.ref b, .int (Int32.ofNat o), .ref d, .int (Int32.ofNat q), .int (Int32.ofNat len)] 7)) (s₁.setTop (mkF m 0 #[.val (.ref b), .val (.int (Int32.ofNat o)), .val (.ref d), .val (.int (Int32.ofNat q)), .val (.int (Int32.ofNat len)), .unset, .unset] [])) := entry rfl
  have hA0 := hA.1.mv X0.warmed.alike hh0
  have hB0 := hB.mv X0.warmed.alike hh0
  have a31 := hA.1.2.2.2
  have c2 : Steps p.tables e below (s₁.setTop (entryFrame m #[.ref b, .int (Int32.ofNat o), .ref d, .int (Int32.ofNat q), .int (Int32.ofNat len)] 7)) (s₁.setTop (mkF m 3 #[.val (.ref b), .val (.int (Int32.ofNat o)), .val (.ref d), .val (.int (Int32.ofNat q)), .val (.int (Int32.ofNat len)), .val (.int 0), .unset] [])) := c1.trans (by
    refine iconstV X0.here hexec rfl 0 (hb hbytes d0) (by decide) ?_
    refine XS.istore X0.here hexec rfl (hb hbytes d1) rfl rfl ?_
    exact Steps.refl _)
  have loop : ∀ (r i : Nat), i + r = len → ∀ (z : Slot), (z = .unset ∨ ∃ w, z = .val w ∧ w.category = 1) → ∀ (Tl : State) (Bk : Cell), Stand p l e { frames := 0, locals := 0, cells := 0, slots := 0 } s m #[.ref b, .int (Int32.ofNat o), .ref d, .int (Int32.ofNat q), .int (Int32.ofNat len)] below meth c Tl ([] ++ copyLocs d q i) 0 0 → Put d Bk s₁ Tl → Laid B Bk q (q + i) (fun j => Value.int (lo8 (cv A (o + (j - q))))) →
      Steps p.tables e below (s₁.setTop (entryFrame m #[.ref b, .int (Int32.ofNat o), .ref d, .int (Int32.ofNat q), .int (Int32.ofNat len)] 7)) (Tl.setTop (mkF m 3 #[.val (.ref b), .val (.int (Int32.ofNat (o + i))), .val (.ref d), .val (.int (Int32.ofNat (q + i))), .val (.int (Int32.ofNat len)), .val (.int (Int32.ofNat i)), z] [])) → ∃ (T' : State) (B' : Cell) (z' : Slot), Stand p l e { frames := 0, locals := 0, cells := 0, slots := 0 } s m #[.ref b, .int (Int32.ofNat o), .ref d, .int (Int32.ofNat q), .int (Int32.ofNat len)] below meth c T' ([] ++ copyLocs d q len) 0 0 ∧ Put d B' s₁ T' ∧ Laid B B' q (q + len) (fun j => Value.int (lo8 (cv A (o + (j - q))))) ∧
      Steps p.tables e below (s₁.setTop (entryFrame m #[.ref b, .int (Int32.ofNat o), .ref d, .int (Int32.ofNat q), .int (Int32.ofNat len)] 7)) (T'.setTop (mkF m 3 #[.val (.ref b), .val (.int (Int32.ofNat (o + len))), .val (.ref d), .val (.int (Int32.ofNat (q + len))), .val (.int (Int32.ofNat len)), .val (.int (Int32.ofNat len)), z'] [])) := by
    intro r
    induction r with
    | zero =>
      intro i hi z hz Tl Bk Xl pl fl cl
      have hil : i = len := by omega
      rw [hil] at Xl fl cl
      exact ⟨Tl, Bk, z, Xl, pl, fl, cl⟩
    | succ r ih =>
      intro i hi z hz Tl Bk Xl pl fl cl
      have all := X0.warmed.alike.symm.trans Xl.warmed.alike
      have hAl := hA0.keep all (pl.other hne hA0.1)
      have hBk := hB0.like all pl.1 fl.1 fl.2.1 fl.2.2.1
      have hlt : q + i < Bk.slots.size := by rw [fl.2.2.1]; omega
      have c3 : Steps p.tables e below (s₁.setTop (entryFrame m #[.ref b, .int (Int32.ofNat o), .ref d, .int (Int32.ofNat q), .int (Int32.ofNat len)] 7)) (Tl.setTop (mkF m 12 #[.val (.ref b), .val (.int (Int32.ofNat (o + i))), .val (.ref d), .val (.int (Int32.ofNat (q + i))), .val (.int (Int32.ofNat len)), .val (.int (Int32.ofNat i)), z] [.int (Int32.ofNat (o + i)), .ref b])) := cl.trans (by
        refine XS.iload Xl.here hexec rfl (hb hbytes d3) rfl ?_
        refine XS.iload Xl.here hexec rfl (hb hbytes d5) rfl ?_
        refine XS.icmpNo Xl.here hexec rfl (hb hbytes d7) rfl (ii_ge_f (lt32 (by omega) (by omega))) ?_
        refine XS.aloadN Xl.here hexec rfl (hb hbytes d10) rfl rfl ?_
        refine XS.iloadN Xl.here hexec rfl (hb hbytes d11) rfl ?_
        exact Steps.refl _)
      have c4 : Steps p.tables e below (s₁.setTop (entryFrame m #[.ref b, .int (Int32.ofNat o), .ref d, .int (Int32.ofNat q), .int (Int32.ofNat len)] 7)) (Tl.setTop (mkF m 13 #[.val (.ref b), .val (.int (Int32.ofNat (o + i))), .val (.ref d), .val (.int (Int32.ofNat (q + i))), .val (.int (Int32.ofNat len)), .val (.int (Int32.ofNat i)), z] [.int (cv A (o + i))])) := c3.trans (by
        refine Xl.aget hexec hAl rfl (hA.get (i := o + i) (by omega)) rfl rfl (hb hbytes d12) ?_
        exact Steps.refl _)
      have c5 : Steps p.tables e below (s₁.setTop (entryFrame m #[.ref b, .int (Int32.ofNat o), .ref d, .int (Int32.ofNat q), .int (Int32.ofNat len)] 7)) (Tl.setTop (mkF m 15 #[.val (.ref b), .val (.int (Int32.ofNat (o + i))), .val (.ref d), .val (.int (Int32.ofNat (q + i))), .val (.int (Int32.ofNat len)), .val (.int (Int32.ofNat i)), .val (.int (cv A (o + i)))] [])) := c4.trans (by
        refine XS.istoreS Xl.here hexec rfl (hb hbytes d13) rfl rfl hz ?_
        exact Steps.refl _)
      have c6 : Steps p.tables e below (s₁.setTop (entryFrame m #[.ref b, .int (Int32.ofNat o), .ref d, .int (Int32.ofNat q), .int (Int32.ofNat len)] 7)) (Tl.setTop (mkF m 31 #[.val (.ref b), .val (.int (Int32.ofNat (o + i))), .val (.ref d), .val (.int (Int32.ofNat (q + i))), .val (.int (Int32.ofNat len)), .val (.int (Int32.ofNat i)), .val (.int (cv A (o + i)))] [.int (lo8 (cv A (o + i))), .int (Int32.ofNat (q + i)), .ref d])) := c5.trans (by
        refine XS.iload Xl.here hexec rfl (hb hbytes d15) rfl ?_
        refine sipushV Xl.here hexec rfl 255 (hb hbytes d17) (by decide) ?_
        refine XS.icmpYes Xl.here hexec rfl (pc0 := 20) rfl (hb hbytes d20) rfl (ii_le_t (hp i (by omega))) (by decide) rfl ?_
        refine XS.aloadN Xl.here hexec rfl (hb hbytes d26) rfl rfl ?_
        refine XS.iloadN Xl.here hexec rfl (hb hbytes d27) rfl ?_
        refine XS.iload Xl.here hexec rfl (hb hbytes d28) rfl ?_
        refine i2b Xl.here hexec rfl (hb hbytes d30) rfl ?_
        exact Steps.refl _)
      obtain ⟨T7, X7, p7, st7⟩ := Xl.aput hexec hBk rfl hlt rfl (fits_lo8 (cv A (o + i))) (g := (mkF m 31 #[.val (.ref b), .val (.int (Int32.ofNat (o + i))), .val (.ref d), .val (.int (Int32.ofNat (q + i))), .val (.int (Int32.ofNat len)), .val (.int (Int32.ofNat i)), .val (.int (cv A (o + i)))] [.int (lo8 (cv A (o + i))), .int (Int32.ofNat (q + i)), .ref d])) rfl (rest := []) rfl (hb hbytes d31)
      have c8 : Steps p.tables e below (s₁.setTop (entryFrame m #[.ref b, .int (Int32.ofNat o), .ref d, .int (Int32.ofNat q), .int (Int32.ofNat len)] 7)) (T7.setTop (mkF m 32 #[.val (.ref b), .val (.int (Int32.ofNat (o + i))), .val (.ref d), .val (.int (Int32.ofNat (q + i))), .val (.int (Int32.ofNat len)), .val (.int (Int32.ofNat i)), .val (.int (cv A (o + i)))] [])) := c6.trans (st7 _ (Steps.refl _))
      have c9 : Steps p.tables e below (s₁.setTop (entryFrame m #[.ref b, .int (Int32.ofNat o), .ref d, .int (Int32.ofNat q), .int (Int32.ofNat len)] 7)) (T7.setTop (mkF m 3 #[.val (.ref b), .val (.int (Int32.ofNat (o + i) + 1)), .val (.ref d), .val (.int (Int32.ofNat (q + i) + 1)), .val (.int (Int32.ofNat len)), .val (.int (Int32.ofNat i + 1)), .val (.int (cv A (o + i)))] [])) := c8.trans (by
        refine iincV X7.here hexec rfl 1 (hb hbytes d32) (by decide) rfl rfl ?_
        refine iincV X7.here hexec rfl 1 (hb hbytes d35) (by decide) rfl rfl ?_
        refine iincV X7.here hexec rfl 1 (hb hbytes d38) (by decide) rfl rfl ?_
        refine XS.goto X7.here hexec rfl (pc0 := 41) rfl (hb hbytes d41) (by decide) rfl ?_
        exact Steps.refl _)
      have c10 : Steps p.tables e below (s₁.setTop (entryFrame m #[.ref b, .int (Int32.ofNat o), .ref d, .int (Int32.ofNat q), .int (Int32.ofNat len)] 7)) (T7.setTop (mkF m 3 #[.val (.ref b), .val (.int (Int32.ofNat (o + (i + 1)))), .val (.ref d), .val (.int (Int32.ofNat (q + (i + 1)))), .val (.int (Int32.ofNat len)), .val (.int (Int32.ofNat (i + 1))), .val (.int (cv A (o + i)))] [])) := by
        have := c9
        rw [succ32, succ32, succ32] at this
        exact this
      exact ih (i + 1) (by omega) _ (Or.inr ⟨_, rfl, rfl⟩) T7 _ (by rw [copyLocs_step, ← List.append_assoc]; exact X7) (pl.trans p7) (fl.step (by omega) hlt (by simp)) c10
  obtain ⟨T9, B9, z9, X9, p9, f9, g9⟩ := loop len 0 (by omega) .unset (Or.inl rfl) s₁ B (by simpa [copyLocs] using X0) ⟨hB0.1, fun _ _ => rfl, rfl⟩ (Laid.zero _ _ _) c2
  have c11 : Steps p.tables e below (s₁.setTop (entryFrame m #[.ref b, .int (Int32.ofNat o), .ref d, .int (Int32.ofNat q), .int (Int32.ofNat len)] 7)) (T9.setTop (mkF m 46 #[.val (.ref b), .val (.int (Int32.ofNat (o + len))), .val (.ref d), .val (.int (Int32.ofNat (q + len))), .val (.int (Int32.ofNat len)), .val (.int (Int32.ofNat len)), z9] [.int (Int32.ofNat len)])) := g9.trans (by
    refine XS.iload X9.here hexec rfl (hb hbytes d3) rfl ?_
    refine XS.iload X9.here hexec rfl (hb hbytes d5) rfl ?_
    refine XS.icmpYes X9.here hexec rfl (pc0 := 7) rfl (hb hbytes d7) rfl (ii_ge_t (nlt32 (by omega) (Nat.le_refl _))) (by decide) rfl ?_
    refine XS.iload X9.here hexec rfl (hb hbytes d44) rfl ?_
    exact Steps.refl _)
  exact ⟨T9, some (.int (Int32.ofNat len)), _, _, _, X9, by simp, rfl, rfl, (fun h => by cases h), ⟨rfl, B9, p9.from hh0, f9⟩, fun fs hl => c11.trans (X9.ireturnOut hexec hret rfl (Or.inl rfl) (hb hbytes d46) hl)⟩
end Cmp5
namespace Cmp3
def yN : MethodName := ⟨"java/lang/StringUTF16", "compress", "([CII)[B"⟩
abbrev yB : ByteArray := jdk_52_method_16_code
theorem d0 : decode yB 0 = .ok (.iload_n 2, 1) := by decide +kernel
theorem d1 : decode yB 1 = .ok (.newarray .byte, 2) := by decide +kernel
theorem d3 : decode yB 3 = .ok (.astore_n 3, 1) := by decide +kernel
theorem d4 : decode yB 4 = .ok (.aload_n 0, 1) := by decide +kernel
theorem d5 : decode yB 5 = .ok (.iload_n 1, 1) := by decide +kernel
theorem d6 : decode yB 6 = .ok (.aload_n 3, 1) := by decide +kernel
theorem d7 : decode yB 7 = .ok (.iconst 0, 1) := by decide +kernel
theorem d8 : decode yB 8 = .ok (.iload_n 2, 1) := by decide +kernel
theorem d9 : decode yB 9 = .ok (.invokestatic 115, 3) := by decide +kernel
theorem d12 : decode yB 12 = .ok (.istore 4, 2) := by decide +kernel
theorem d14 : decode yB 14 = .ok (.iload 4, 2) := by decide +kernel
theorem d16 : decode yB 16 = .ok (.iload_n 2, 1) := by decide +kernel
theorem d17 : decode yB 17 = .ok (.if_icmp (.eq) 40, 3) := by decide +kernel
theorem d57 : decode yB 57 = .ok (.aload_n 3, 1) := by decide +kernel
theorem d58 : decode yB 58 = .ok (.areturn, 1) := by decide +kernel
def site : List Cond := [.arrayClass .byte, Cmp5.tab] ++ staticW U16 115 Cmp5.yN
def tab : Cond := tabOf yN yB 6 (some (.array .byte)) site
def P (b : Addr) (A : Cell) (o len : Nat) (args : Array Value) (s : State) : Prop := args = #[.ref b, .int (Int32.ofNat o), .int (Int32.ofNat len)] ∧ Ch b A s ∧ o + len ≤ A.slots.size ∧ len ≤ 536870912 ∧ ∀ i, i < len → ¬ 255 < cv A (o + i)
def E (b : Addr) (A : Cell) (o len : Nat) (r : Option Value) (s u : State) : Prop := NewArr .byte "[B" len (fun j => .int (lo8 (cv A (o + j)))) r s u ∧ u.heap.size = s.heap.size + 1
/-- no char of the range above 255: a new byte[] of their low bytes -/
theorem law (l : Launch) (b : Addr) (A : Cell) (o len : Nat) : Law l yN 3 3 1 18 yB 6 (some (.array .byte)) site (P b A o len) (E b A o len) [] 1 len := by
  refine Law.of_walk (plainFor_of_name (by decide +kernel)) (by decide +kernel) (by decide +kernel) (by decide) (fun _ _ h => by rw [h.1]; rfl) (fun _ U U' hal hh h => ⟨h.1, h.2.1.mv hal hh, h.2.2⟩) (fun r U U' V V' h1 hal h2 h => ⟨NewArr.mv r U U' V V' h1 hal h2 h.1, by rw [h1, h2]; exact h.2⟩) ?_
  intro p e s m args below meth c s₁ X0 hexec hbytes hml hret hlk hnm hown hh0 W hP
  obtain ⟨rfl, hA, l1, l2, hp⟩ := hP
  have a31 := hA.1.2.2.2
  have c1 : Steps p.tables e below (s₁.setTop (entryFrame m #[.ref b, .int (Int32.ofNat o), .int (Int32.ofNat len)] 6)) (s₁.setTop (mkF m 0 #[.val (.ref b), .val (.int (Int32.ofNat o)), .val (.int (Int32.ofNat len)), .unset, .unset, .unset] [])) := entry rfl
  have c2 : Steps p.tables e below (s₁.setTop (entryFrame m #[.ref b, .int (Int32.ofNat o), .int (Int32.ofNat len)] 6)) (s₁.setTop (mkF m 1 #[.val (.ref b), .val (.int (Int32.ofNat o)), .val (.int (Int32.ofNat len)), .unset, .unset, .unset] [.int (Int32.ofNat len)])) := c1.trans (by
    refine XS.iloadN X0.here hexec rfl (hb hbytes d0) rfl ?_
    exact Steps.refl _)
  obtain ⟨T3, B3, X3, ba3, bs3, bv3, bh3, bf3, st3⟩ := X0.anew hexec (atype := .byte) (wk W (.arrayClass .byte)) rfl (by show len * 1 ≤ _; omega) (by omega) (g := (mkF m 1 #[.val (.ref b), .val (.int (Int32.ofNat o)), .val (.int (Int32.ofNat len)), .unset, .unset, .unset] [.int (Int32.ofNat len)])) rfl (hb hbytes d1) (rest := []) rfl (Nat.le_refl _) (by show 0 + len ≤ len; omega)
  rw [hh0] at ba3 st3
  have kp3 : XT.Kept s T3 := (XT.Kept.of_eq hh0).push bh3
  have hA3 := hA.keep X3.warmed.alike (kp3 _ _ hA.1.1)
  have hne : b ≠ s.heap.size := hA.1.ne
  have c4 : Steps p.tables e below (s₁.setTop (entryFrame m #[.ref b, .int (Int32.ofNat o), .int (Int32.ofNat len)] 6)) (T3.setTop (mkF m 3 #[.val (.ref b), .val (.int (Int32.ofNat o)), .val (.int (Int32.ofNat len)), .unset, .unset, .unset] [.ref s.heap.size])) := c2.trans (st3 _ (Steps.refl _))
  have c5 : Steps p.tables e below (s₁.setTop (entryFrame m #[.ref b, .int (Int32.ofNat o), .int (Int32.ofNat len)] 6)) (T3.setTop (mkF m 9 #[.val (.ref b), .val (.int (Int32.ofNat o)), .val (.int (Int32.ofNat len)), .val (.ref s.heap.size), .unset, .unset] [.int (Int32.ofNat len), .int 0, .ref s.heap.size, .int (Int32.ofNat o), .ref b])) := c4.trans (by
    refine XS.astoreN X3.here hexec rfl (hb hbytes d3) rfl rfl rfl ?_
    refine XS.aloadN X3.here hexec rfl (hb hbytes d4) rfl rfl ?_
    refine XS.iloadN X3.here hexec rfl (hb hbytes d5) rfl ?_
    refine XS.aloadN X3.here hexec rfl (hb hbytes d6) rfl rfl ?_
    refine iconstV X3.here hexec rfl 0 (hb hbytes d7) (by decide) ?_
    refine XS.iloadN X3.here hexec rfl (hb hbytes d8) rfl ?_
    exact Steps.refl _)
  obtain ⟨v6, T6, X6, E6, g6⟩ := X3.callS hexec (Cmp5.law l b A s.heap.size B3 o 0 len) hown (wks W (staticW U16 115 Cmp5.yN)) (wk W Cmp5.tab) (W := 0) (Nat.le_of_ble_eq_true rfl) (Nat.le_of_ble_eq_true rfl) (Nat.le_refl _) (by show 0 + len + 0 ≤ len; omega) (g := (mkF m 9 #[.val (.ref b), .val (.int (Int32.ofNat o)), .val (.int (Int32.ofNat len)), .val (.ref s.heap.size), .unset, .unset] [.int (Int32.ofNat len), .int (Int32.ofNat 0), .ref s.heap.size, .int (Int32.ofNat o), .ref b])) rfl (by rw [hml]; rfl) c5 (argsL := [.ref b, .int (Int32.ofNat o), .ref s.heap.size, .int (Int32.ofNat 0), .int (Int32.ofNat len)]) (rest := []) rfl rfl (by show 2 * 0 + 0 ≤ _; decide) (hb hbytes d9) (⟨rfl, hA3, ba3, hne, l1, by rw [bs3]; simp, hp⟩)
  obtain ⟨rfl, B6, p6, f6⟩ := E6
  have c7 : Steps p.tables e below (s₁.setTop (entryFrame m #[.ref b, .int (Int32.ofNat o), .int (Int32.ofNat len)] 6)) (T6.setTop (mkF m 12 #[.val (.ref b), .val (.int (Int32.ofNat o)), .val (.int (Int32.ofNat len)), .val (.ref s.heap.size), .unset, .unset] [.int (Int32.ofNat len)])) := g6
  have c8 : Steps p.tables e below (s₁.setTop (entryFrame m #[.ref b, .int (Int32.ofNat o), .int (Int32.ofNat len)] 6)) (T6.setTop (mkF m 58 #[.val (.ref b), .val (.int (Int32.ofNat o)), .val (.int (Int32.ofNat len)), .val (.ref s.heap.size), .val (.int (Int32.ofNat len)), .unset] [.ref s.heap.size])) := c7.trans (by
    refine XS.istore X6.here hexec rfl (hb hbytes d12) rfl rfl ?_
    refine XS.iload X6.here hexec rfl (hb hbytes d14) rfl ?_
    refine XS.iloadN X6.here hexec rfl (hb hbytes d16) rfl ?_
    refine XS.icmpYes X6.here hexec rfl (pc0 := 17) rfl (hb hbytes d17) rfl (ii_eq_t rfl) (by decide) rfl ?_
    refine XS.aloadN X6.here hexec rfl (hb hbytes d57) rfl rfl ?_
    exact Steps.refl _)
  have X8 := X6.wide (L' := []) (cells' := 1) (slots' := len) (fun x hx hlt => by
    simp only [List.nil_append, copyLocs, List.mem_map, List.mem_range] at hx
    obtain ⟨i, -, rfl⟩ := hx
    exact absurd hlt (Nat.lt_irrefl _)) (Nat.le_refl _) (by omega)
  exact ⟨T6, some (.ref s.heap.size), _, _, _, X8, rfl, rfl, rfl, (fun h => by cases h), ⟨⟨rfl, B6, ba3.like (X3.warmed.alike.symm.trans X6.warmed.alike) p6.1 f6.1 f6.2.1 f6.2.2.1, f6.2.1.trans bv3, by rw [X6.warmed.alike.findClass, f6.1]; exact bf3, by rw [f6.2.2.1, bs3]; simp, fun j hj => by rw [f6.2.2.2 j, if_pos (by omega)]; rfl, kp3.put p6 (Nat.le_refl _)⟩, by rw [p6.2.2, bh3, hh0]; simp⟩, fun fs hl => c8.trans (X8.areturnOut hexec rfl hret rfl (hb hbytes d58) hl)⟩
end Cmp3
namespace CodL
def yN : MethodName := ⟨"java/lang/StringUTF16", "coderFromArrayLen", "([BI)B"⟩
abbrev yB : ByteArray := jdk_52_method_15_code
theorem d0 : decode yB 0 = .ok (.iload_n 1, 1) := by decide +kernel
theorem d1 : decode yB 1 = .ok (.aload_n 0, 1) := by decide +kernel
theorem d2 : decode yB 2 = .ok (.arraylength, 1) := by decide +kernel
theorem d3 : decode yB 3 = .ok (.isub, 1) := by decide +kernel
theorem d4 : decode yB 4 = .ok (.bipush 31, 2) := by decide +kernel
theorem d6 : decode yB 6 = .ok (.iushr, 1) := by decide +kernel
theorem d7 : decode yB 7 = .ok (.i2b, 1) := by decide +kernel
theorem d8 : decode yB 8 = .ok (.ireturn, 1) := by decide +kernel
def site : List Cond := []
def tab : Cond := tabOf yN yB 2 (some .byte) site
def P (d : Addr) (B : Cell) (args : Array Value) (s : State) : Prop := args = #[.ref d, .int (Int32.ofNat B.slots.size)] ∧ Arr .byte d B s
def E (r : Option Value) (s u : State) : Prop := XT.PureE (some (.int 0)) r s u
/-- an array as long as the number of chars: LATIN1 -/
theorem law (l : Launch) (d : Addr) (B : Cell) : Law l yN 2 2 0 0 yB 2 (some .byte) site (P d B) E [] 0 0 := by
  refine Law.of_walk (plainFor_of_name (by decide +kernel)) (by decide +kernel) (by decide +kernel) (by decide) (fun _ _ h => by rw [h.1]; rfl) (fun _ U U' hal hh h => ⟨h.1, h.2.mv hal hh⟩) (fun r U U' V V' h1 hal h2 h => XT.PureE.mv r U U' V V' h1 hal h2 h) ?_
  intro p e s m args below meth c s₁ X0 hexec hbytes hml hret hlk hnm hown hh0 W hP
  obtain ⟨rfl, hB⟩ := hP
  have hB0 := hB.mv X0.warmed.alike hh0
  have c1 : Steps p.tables e below (s₁.setTop (entryFrame m #[.ref d, .int (Int32.ofNat B.slots.size)] 2)) (s₁.setTop (mkF m 0 #[.val (.ref d), .val (.int (Int32.ofNat B.slots.size))] [])) := entry rfl
  have c2 : Steps p.tables e below (s₁.setTop (entryFrame m #[.ref d, .int (Int32.ofNat B.slots.size)] 2)) (s₁.setTop (mkF m 2 #[.val (.ref d), .val (.int (Int32.ofNat B.slots.size))] [.ref d, .int (Int32.ofNat B.slots.size)])) := c1.trans (by
    refine XS.iloadN X0.here hexec rfl (hb hbytes d0) rfl ?_
    refine XS.aloadN X0.here hexec rfl (hb hbytes d1) rfl rfl ?_
    exact Steps.refl _)
  have c3 : Steps p.tables e below (s₁.setTop (entryFrame m #[.ref d, .int (Int32.ofNat B.slots.size)] 2)) (s₁.setTop (mkF m 8 #[.val (.ref d), .val (.int (Int32.ofNat B.slots.size))] [.int (lo8 (ushr (Int32.ofNat B.slots.size - Int32.ofNat B.slots.size) 31))])) := c2.trans (by
    refine X0.alen hexec hB0 rfl rfl (hb hbytes d2) ?_
    refine XS.isub X0.here hexec rfl (hb hbytes d3) rfl ?_
    refine bipushV X0.here hexec rfl 31 (hb hbytes d4) (by decide) ?_
    refine iushr X0.here hexec rfl (hb hbytes d6) rfl ?_
    refine i2b X0.here hexec rfl (hb hbytes d7) rfl ?_
    exact Steps.refl _)
  have e0 : lo8 (ushr (Int32.ofNat B.slots.size - Int32.ofNat B.slots.size) 31) = 0 := by rw [Int32.sub_self]; decide
  rw [e0] at c3
  exact ⟨s₁, some (.int 0), _, _, _, X0, rfl, rfl, rfl, (fun h => by cases h), ⟨rfl, hh0⟩, fun fs hl => c3.trans (X0.ireturnOut hexec hret rfl (Or.inr (Or.inr (Or.inl rfl))) (hb hbytes d8) hl)⟩
end CodL
/-- the String at a is Latin-1 over a new byte[] (the heap's one new cell): the low bytes of the len chars of A from o on; every cell but a is kept -/
def Got (a : Addr) (D : Cell) (fV fC : Field) (A : Cell) (o len : Nat) (r : Option Value) (s u : State) : Prop := r = none ∧ ∃ D' V : Cell, Blank "java/lang/String" a D' u ∧ Same D D' [fV.slot, fC.slot] ∧ D'.slots[fV.slot]? = some (.ref s.heap.size) ∧ D'.slots[fC.slot]? = some (.int 0) ∧ Arr .byte s.heap.size V u ∧ V.vm = .none ∧ u.vm.findClass "[B" = some V.cls ∧ V.slots.size = len ∧ (∀ j, j < len → V.slots[j]? = some (.int (lo8 (cv A (o + j))))) ∧ (∀ (y : Addr) (c : Cell), y ≠ a → s.heap[y]? = some c → u.heap[y]? = some c) ∧ u.heap.size = s.heap.size + 1
theorem Got.mv {a : Addr} {D A : Cell} {fV fC : Field} {o len : Nat} : ∀ r (U U' V V' : State), U'.heap = U.heap → V.vm.Alike V'.vm → V'.heap = V.heap → Got a D fV fC A o len r U V → Got a D fV fC A o len r U' V' :=
  fun r U U' V V' h1 hal h2 ⟨e0, D', X, a1, a2, a3, a4, a5, a6, a7, a8, a9, a10, a11⟩ => ⟨e0, D', X, a1.mv hal h2, a2, by rw [h1]; exact a3, a4, by rw [h1]; exact a5.mv hal h2, a6, by rw [hal.findClass]; exact a7, a8, a9, by rw [h1, h2]; exact a10, by rw [h1, h2]; exact a11⟩
namespace New4
def yN : MethodName := ⟨"java/lang/String", "<init>", "([CIILjava/lang/Void;)V"⟩
abbrev yB : ByteArray := jdk_42_method_149_code
theorem d0 : decode yB 0 = .ok (.aload_n 0, 1) := by decide +kernel
theorem d1 : decode yB 1 = .ok (.invokespecial 1, 3) := by decide +kernel
theorem d4 : decode yB 4 = .ok (.iload_n 3, 1) := by decide +kernel
theorem d5 : decode yB 5 = .ok (.ifCond (.ne) 22, 3) := by decide +kernel
theorem d27 : decode yB 27 = .ok (.getstatic 38, 3) := by decide +kernel
theorem d30 : decode yB 30 = .ok (.ifCond (.eq) 28, 3) := by decide +kernel
theorem d33 : decode yB 33 = .ok (.aload_n 1, 1) := by decide +kernel
theorem d34 : decode yB 34 = .ok (.iload_n 2, 1) := by decide +kernel
theorem d35 : decode yB 35 = .ok (.iload_n 3, 1) := by decide +kernel
theorem d36 : decode yB 36 = .ok (.invokestatic 177, 3) := by decide +kernel
theorem d39 : decode yB 39 = .ok (.astore 5, 2) := by decide +kernel
theorem d41 : decode yB 41 = .ok (.aload_n 0, 1) := by decide +kernel
theorem d42 : decode yB 42 = .ok (.aload 5, 2) := by decide +kernel
theorem d44 : decode yB 44 = .ok (.iload_n 3, 1) := by decide +kernel
theorem d45 : decode yB 45 = .ok (.invokestatic 47, 3) := by decide +kernel
theorem d48 : decode yB 48 = .ok (.putfield 15, 3) := by decide +kernel
theorem d51 : decode yB 51 = .ok (.aload_n 0, 1) := by decide +kernel
theorem d52 : decode yB 52 = .ok (.aload 5, 2) := by decide +kernel
theorem d54 : decode yB 54 = .ok (.putfield 9, 3) := by decide +kernel
theorem d57 : decode yB 57 = .ok (.return_, 1) := by decide +kernel
def site : List Cond := [.fieldLink "java/lang/String" 38 "java/lang/String" "COMPACT_STRINGS" "Z", Cmp3.tab, CodL.tab, .laysFinal "java/lang/String" "java/lang/String" "value" "[B", .fieldLink "java/lang/String" 9 "java/lang/String" "value" "[B", .laysFinal "java/lang/String" "java/lang/String" "coder" "B", .fieldLink "java/lang/String" 15 "java/lang/String" "coder" "B"] ++ objW "java/lang/String" 1 ++ staticW "java/lang/String" 177 Cmp3.yN ++ staticW "java/lang/String" 47 CodL.yN
def tab : Cond := tabOf yN yB 6 none site
def P (a : Addr) (D : Cell) (fV fC : Field) (b : Addr) (A : Cell) (z : Int32) (o len : Nat) (args : Array Value) (s : State) : Prop := args = #[.ref a, .ref b, .int (Int32.ofNat o), .int (Int32.ofNat len), .null] ∧ Blank "java/lang/String" a D s ∧ Found "java/lang/String" "value" "[B" fV s ∧ Found "java/lang/String" "coder" "B" fC s ∧ Ch b A s ∧ StaticIs s "java/lang/String" "COMPACT_STRINGS" "Z" (.int z) ∧ ¬ z = 0 ∧ 0 < len ∧ o + len ≤ A.slots.size ∧ len ≤ 536870912 ∧ ∀ i, i < len → ¬ 255 < cv A (o + i)
def E (a : Addr) (D : Cell) (fV fC : Field) (A : Cell) (o len : Nat) (r : Option Value) (s u : State) : Prop := Got a D fV fC A o len r s u
/-- len > 0, no char of the range above 255: a Latin-1 String of their low bytes -/
theorem law (l : Launch) (a : Addr) (D : Cell) (fV fC : Field) (b : Addr) (A : Cell) (z : Int32) (o len : Nat) : Law l yN 5 4 2 35 yB 6 none site (P a D fV fC b A z o len) (E a D fV fC A o len) [⟨a, fC.slot⟩, ⟨a, fV.slot⟩] 1 len := by
  refine Law.of_walk (plainFor_of_name (by decide +kernel)) (by decide +kernel) (by decide +kernel) (by decide) (fun _ _ h => by rw [h.1]; rfl) (fun _ U U' hal hh h => ⟨h.1, h.2.1.mv hal hh, h.2.2.1.al hal, h.2.2.2.1.al hal, h.2.2.2.2.1.mv hal hh, h.2.2.2.2.2.1.there hal hh, h.2.2.2.2.2.2⟩) (fun r U U' V V' h1 hal h2 h => Got.mv r U U' V V' h1 hal h2 h) ?_
  intro p e s m args below meth c s₁ X0 hexec hbytes hml hret hlk hnm hown hh0 W hP
  obtain ⟨rfl, hB, f1, f2, hA, s1, hz, l0, l1, l2, hp⟩ := hP
  have a31 := hA.1.2.2.2
  have c1 : Steps p.tables e below (s₁.setTop (entryFrame m #[.ref a, .ref b, .int (Int32.ofNat o), .int (Int32.ofNat len), .null] 6)) (s₁.setTop (mkF m 0 #[.val (.ref a), .val (.ref b), .val (.int (Int32.ofNat o)), .val (.int (Int32.ofNat len)), .val .null, .unset] [])) := entry rfl
  have c2 : Steps p.tables e below (s₁.setTop (entryFrame m #[.ref a, .ref b, .int (Int32.ofNat o), .int (Int32.ofNat len), .null] 6)) (s₁.setTop (mkF m 1 #[.val (.ref a), .val (.ref b), .val (.int (Int32.ofNat o)), .val (.int (Int32.ofNat len)), .val .null, .unset] [.ref a])) := c1.trans (by
    refine XS.aloadN X0.here hexec rfl (hb hbytes d0) rfl rfl ?_
    exact Steps.refl _)
  obtain ⟨T3, X3, q3, st3⟩ := X0.oinit hexec hown (wks W (objW "java/lang/String" 1)) (g := (mkF m 1 #[.val (.ref a), .val (.ref b), .val (.int (Int32.ofNat o)), .val (.int (Int32.ofNat len)), .val .null, .unset] [.ref a])) rfl (by rw [hml]; rfl) (rest := []) rfl (hb hbytes d1) (W := 0) (by show 2 * 0 + 0 ≤ _; decide) (Nat.le_of_ble_eq_true rfl) (Nat.le_of_ble_eq_true rfl)
  have hh3 := q3.trans hh0
  have c4 : Steps p.tables e below (s₁.setTop (entryFrame m #[.ref a, .ref b, .int (Int32.ofNat o), .int (Int32.ofNat len), .null] 6)) (T3.setTop (mkF m 27 #[.val (.ref a), .val (.ref b), .val (.int (Int32.ofNat o)), .val (.int (Int32.ofNat len)), .val .null, .unset] [])) := (c2.trans (st3 _ (Steps.refl _))).trans (by
    refine XS.iloadN X3.here hexec rfl (hb hbytes d4) rfl ?_
    refine XS.ifYes X3.here hexec rfl (pc0 := 5) rfl (hb hbytes d5) rfl (i0_ne_t (nz32 (by omega) l0)) (by decide) rfl ?_
    exact Steps.refl _)
  obtain ⟨T5, X5, q5, st5⟩ := X3.sget hexec hown (wk W (.fieldLink "java/lang/String" 38 "java/lang/String" "COMPACT_STRINGS" "Z")) s1 (fun _ _ h => by rw [hh3]; exact h) (g := (mkF m 27 #[.val (.ref a), .val (.ref b), .val (.int (Int32.ofNat o)), .val (.int (Int32.ofNat len)), .val .null, .unset] [])) rfl (hb hbytes d27)
  have hh5 := q5.trans hh3
  have c6 : Steps p.tables e below (s₁.setTop (entryFrame m #[.ref a, .ref b, .int (Int32.ofNat o), .int (Int32.ofNat len), .null] 6)) (T5.setTop (mkF m 30 #[.val (.ref a), .val (.ref b), .val (.int (Int32.ofNat o)), .val (.int (Int32.ofNat len)), .val .null, .unset] [.int z])) := c4.trans (st5 _ (Steps.refl _))
  have c7 : Steps p.tables e below (s₁.setTop (entryFrame m #[.ref a, .ref b, .int (Int32.ofNat o), .int (Int32.ofNat len), .null] 6)) (T5.setTop (mkF m 36 #[.val (.ref a), .val (.ref b), .val (.int (Int32.ofNat o)), .val (.int (Int32.ofNat len)), .val .null, .unset] [.int (Int32.ofNat len), .int (Int32.ofNat o), .ref b])) := c6.trans (by
    refine XS.ifNo X5.here hexec rfl (hb hbytes d30) rfl (i0_eq_f hz) ?_
    refine XS.aloadN X5.here hexec rfl (hb hbytes d33) rfl rfl ?_
    refine XS.iloadN X5.here hexec rfl (hb hbytes d34) rfl ?_
    refine XS.iloadN X5.here hexec rfl (hb hbytes d35) rfl ?_
    exact Steps.refl _)
  obtain ⟨v8, T8, X8, E8, g8⟩ := X5.callS hexec (Cmp3.law l b A o len) hown (wks W (staticW "java/lang/String" 177 Cmp3.yN)) (wk W Cmp3.tab) (W := 0) (Nat.le_of_ble_eq_true rfl) (Nat.le_of_ble_eq_true rfl) (Nat.le_refl _) (by show 0 + len ≤ len; omega) (g := (mkF m 36 #[.val (.ref a), .val (.ref b), .val (.int (Int32.ofNat o)), .val (.int (Int32.ofNat len)), .val .null, .unset] [.int (Int32.ofNat len), .int (Int32.ofNat o), .ref b])) rfl (by rw [hml]; rfl) c7 (argsL := [.ref b, .int (Int32.ofNat o), .int (Int32.ofNat len)]) (rest := []) rfl rfl (by show 2 * 0 + 0 ≤ _; decide) (hb hbytes d36) (⟨rfl, hA.mv X5.warmed.alike hh5, l1, l2, hp⟩)
  obtain ⟨e8, z8⟩ := E8
  obtain ⟨rfl, N, n1, n2, n3, n4, n5, n6⟩ := NewArr.mv _ T5 s _ _ hh5.symm (Vm.Alike.refl _) rfl e8
  rw [hh5] at z8
  have hB1 := hB.keep X8.warmed.alike (n6 _ _ hB.1)
  have hne : s.heap.size ≠ a := (Nat.ne_of_lt (Array.getElem?_eq_some_iff.mp hB.1).1).symm
  have c9 : Steps p.tables e below (s₁.setTop (entryFrame m #[.ref a, .ref b, .int (Int32.ofNat o), .int (Int32.ofNat len), .null] 6)) (T8.setTop (mkF m 39 #[.val (.ref a), .val (.ref b), .val (.int (Int32.ofNat o)), .val (.int (Int32.ofNat len)), .val .null, .unset] [.ref s.heap.size])) := g8
  have c10 : Steps p.tables e below (s₁.setTop (entryFrame m #[.ref a, .ref b, .int (Int32.ofNat o), .int (Int32.ofNat len), .null] 6)) (T8.setTop (mkF m 45 #[.val (.ref a), .val (.ref b), .val (.int (Int32.ofNat o)), .val (.int (Int32.ofNat len)), .val .null, .val (.ref s.heap.size)] [.int (Int32.ofNat N.slots.size), .ref s.heap.size, .ref a])) := by
    have hc : Steps p.tables e below (s₁.setTop (entryFrame m #[.ref a, .ref b, .int (Int32.ofNat o), .int (Int32.ofNat len), .null] 6)) (T8.setTop (mkF m 45 #[.val (.ref a), .val (.ref b), .val (.int (Int32.ofNat o)), .val (.int (Int32.ofNat len)), .val .null, .val (.ref s.heap.size)] [.int (Int32.ofNat len), .ref s.heap.size, .ref a])) := c9.trans (by
      refine XS.astore X8.here hexec rfl (hb hbytes d39) rfl rfl rfl ?_
      refine XS.aloadN X8.here hexec rfl (hb hbytes d41) rfl rfl ?_
      refine XS.aload X8.here hexec rfl (hb hbytes d42) rfl rfl ?_
      refine XS.iloadN X8.here hexec rfl (hb hbytes d44) rfl ?_
      exact Steps.refl _)
    rw [n4]; exact hc
  obtain ⟨v11, T11, X11, E11, g11⟩ := X8.callS hexec (CodL.law l s.heap.size N) hown (wks W (staticW "java/lang/String" 47 CodL.yN)) (wk W CodL.tab) (W := 1) (Nat.le_of_ble_eq_true rfl) (Nat.le_of_ble_eq_true rfl) (Nat.le_refl _) (by show 0 + len + 0 ≤ len; omega) (g := (mkF m 45 #[.val (.ref a), .val (.ref b), .val (.int (Int32.ofNat o)), .val (.int (Int32.ofNat len)), .val .null, .val (.ref s.heap.size)] [.int (Int32.ofNat N.slots.size), .ref s.heap.size, .ref a])) rfl (by rw [hml]; rfl) c10 (argsL := [.ref s.heap.size, .int (Int32.ofNat N.slots.size)]) (rest := [.ref a]) rfl rfl (by show 2 * 0 + (1 + 0) ≤ _; decide) (hb hbytes d45) (⟨rfl, n1⟩)
  obtain ⟨rfl, q11⟩ := E11
  have hB11 := hB1.mv (X8.warmed.alike.symm.trans X11.warmed.alike) q11
  have c12 : Steps p.tables e below (s₁.setTop (entryFrame m #[.ref a, .ref b, .int (Int32.ofNat o), .int (Int32.ofNat len), .null] 6)) (T11.setTop (mkF m 48 #[.val (.ref a), .val (.ref b), .val (.int (Int32.ofNat o)), .val (.int (Int32.ofNat len)), .val .null, .val (.ref s.heap.size)] [.int 0, .ref a])) := g11
  obtain ⟨T13, X13, p13, bl13, sl13, st13⟩ := X11.finit hexec hown (wk W (.fieldLink "java/lang/String" 15 "java/lang/String" "coder" "B")) (Or.inr ⟨_, (wk W (.laysFinal "java/lang/String" "java/lang/String" "coder" "B"))⟩) (Or.inl ⟨rfl, hnm⟩) f2 (Or.inl rfl) hB11 (t := .byte) (by decide +kernel) rfl (g := (mkF m 48 #[.val (.ref a), .val (.ref b), .val (.int (Int32.ofNat o)), .val (.int (Int32.ofNat len)), .val .null, .val (.ref s.heap.size)] [.int 0, .ref a])) rfl (rest := []) rfl (hb hbytes d48)
  have c14 : Steps p.tables e below (s₁.setTop (entryFrame m #[.ref a, .ref b, .int (Int32.ofNat o), .int (Int32.ofNat len), .null] 6)) (T13.setTop (mkF m 54 #[.val (.ref a), .val (.ref b), .val (.int (Int32.ofNat o)), .val (.int (Int32.ofNat len)), .val .null, .val (.ref s.heap.size)] [.ref s.heap.size, .ref a])) := (c12.trans (st13 _ (Steps.refl _))).trans (by
    refine XS.aloadN X13.here hexec rfl (hb hbytes d51) rfl rfl ?_
    refine XS.aload X13.here hexec rfl (hb hbytes d52) rfl rfl ?_
    exact Steps.refl _)
  obtain ⟨T15, X15, p15, bl15, sl15, st15⟩ := X13.finit hexec hown (wk W (.fieldLink "java/lang/String" 9 "java/lang/String" "value" "[B")) (Or.inr ⟨_, (wk W (.laysFinal "java/lang/String" "java/lang/String" "value" "[B"))⟩) (Or.inl ⟨rfl, hnm⟩) f1 (Or.inl rfl) bl13 (t := (.array .byte)) (by decide +kernel) rfl (g := (mkF m 54 #[.val (.ref a), .val (.ref b), .val (.int (Int32.ofNat o)), .val (.int (Int32.ofNat len)), .val .null, .val (.ref s.heap.size)] [.ref s.heap.size, .ref a])) rfl (rest := []) rfl (hb hbytes d54)
  have c16 : Steps p.tables e below (s₁.setTop (entryFrame m #[.ref a, .ref b, .int (Int32.ofNat o), .int (Int32.ofNat len), .null] 6)) (T15.setTop (mkF m 57 #[.val (.ref a), .val (.ref b), .val (.int (Int32.ofNat o)), .val (.int (Int32.ofNat len)), .val .null, .val (.ref s.heap.size)] [])) := c14.trans (st15 _ (Steps.refl _))
  have ap := apart (Or.inr ⟨_, (wk W (.laysFinal "java/lang/String" "java/lang/String" "value" "[B"))⟩) (Or.inr ⟨_, (wk W (.laysFinal "java/lang/String" "java/lang/String" "coder" "B"))⟩) f1 f2 (t₁ := .array .byte) (t₂ := .byte) (by decide +kernel) (by decide +kernel) (by decide)
  have al := X8.warmed.alike.symm.trans X15.warmed.alike
  have n7 : T11.heap[s.heap.size]? = some N := by rw [q11]; exact n1.1
  exact ⟨T15, none, _, _, _, X15, by simp, rfl, by omega, (fun _ => rfl), ⟨rfl, _, N, bl15, ((Same.refl D _).set _ (by simp)).set _ (by simp), sl15, (Cell.slots_setSlot_ne _ ap).trans sl13, n1.keep al (p15.other hne (p13.other hne n7)), n2, by rw [al.findClass]; exact n3, n4, n5, fun y c h1 h2 => p15.other h1 (p13.other h1 (by rw [q11]; exact n6 y c h2)), by rw [p15.2.2, p13.2.2, q11]; exact z8⟩, fun fs hl => c16.trans (X15.returnOut hexec hret (hb hbytes d57) hl)⟩
end New4
namespace New1
def yN : MethodName := ⟨"java/lang/String", "<init>", "([C)V"⟩
abbrev yB : ByteArray := jdk_42_method_3_code
theorem d0 : decode yB 0 = .ok (.aload_n 0, 1) := by decide +kernel
theorem d1 : decode yB 1 = .ok (.aload_n 1, 1) := by decide +kernel
theorem d2 : decode yB 2 = .ok (.iconst 0, 1) := by decide +kernel
theorem d3 : decode yB 3 = .ok (.aload_n 1, 1) := by decide +kernel
theorem d4 : decode yB 4 = .ok (.arraylength, 1) := by decide +kernel
theorem d5 : decode yB 5 = .ok (.aconst_null, 1) := by decide +kernel
theorem d6 : decode yB 6 = .ok (.invokespecial 27, 3) := by decide +kernel
theorem d9 : decode yB 9 = .ok (.return_, 1) := by decide +kernel
def site : List Cond := [New4.tab] ++ initW "java/lang/String" 27 New4.yN
def tab : Cond := tabOf yN yB 2 none site
def P (a : Addr) (D : Cell) (fV fC : Field) (b : Addr) (A : Cell) (z : Int32) (args : Array Value) (s : State) : Prop := args = #[.ref a, .ref b] ∧ Blank "java/lang/String" a D s ∧ Found "java/lang/String" "value" "[B" fV s ∧ Found "java/lang/String" "coder" "B" fC s ∧ Ch b A s ∧ StaticIs s "java/lang/String" "COMPACT_STRINGS" "Z" (.int z) ∧ ¬ z = 0 ∧ 0 < A.slots.size ∧ A.slots.size ≤ 536870912 ∧ ∀ i, i < A.slots.size → ¬ 255 < cv A i
def E (a : Addr) (D : Cell) (fV fC : Field) (A : Cell) (r : Option Value) (s u : State) : Prop := Got a D fV fC A 0 A.slots.size r s u
/-- new String(chars), not empty, no char above 255: a Latin-1 String of their low bytes -/
theorem law (l : Launch) (a : Addr) (D : Cell) (fV fC : Field) (b : Addr) (A : Cell) (z : Int32) : Law l yN 2 1 3 52 yB 2 none site (P a D fV fC b A z) (E a D fV fC A) [⟨a, fC.slot⟩, ⟨a, fV.slot⟩] 1 A.slots.size := by
  refine Law.of_walk (plainFor_of_name (by decide +kernel)) (by decide +kernel) (by decide +kernel) (by decide) (fun _ _ h => by rw [h.1]; rfl) (fun _ U U' hal hh h => ⟨h.1, h.2.1.mv hal hh, h.2.2.1.al hal, h.2.2.2.1.al hal, h.2.2.2.2.1.mv hal hh, h.2.2.2.2.2.1.there hal hh, h.2.2.2.2.2.2⟩) (fun r U U' V V' h1 hal h2 h => Got.mv r U U' V V' h1 hal h2 h) ?_
  intro p e s m args below meth c s₁ X0 hexec hbytes hml hret hlk hnm hown hh0 W hP
  obtain ⟨rfl, hB, f1, f2, hA, s1, hz, l0, l2, hp⟩ := hP
  have c1 : Steps p.tables e below (s₁.setTop (entryFrame m #[.ref a, .ref b] 2)) (s₁.setTop (mkF m 0 #[.val (.ref a), .val (.ref b)] [])) := entry rfl
  have c2 : Steps p.tables e below (s₁.setTop (entryFrame m #[.ref a, .ref b] 2)) (s₁.setTop (mkF m 6 #[.val (.ref a), .val (.ref b)] [.null, .int (Int32.ofNat A.slots.size), .int 0, .ref b, .ref a])) := c1.trans (by
    refine XS.aloadN X0.here hexec rfl (hb hbytes d0) rfl rfl ?_
    refine XS.aloadN X0.here hexec rfl (hb hbytes d1) rfl rfl ?_
    refine iconstV X0.here hexec rfl 0 (hb hbytes d2) (by decide) ?_
    refine XS.aloadN X0.here hexec rfl (hb hbytes d3) rfl rfl ?_
    refine X0.alen hexec (hA.1.mv X0.warmed.alike hh0) rfl rfl (hb hbytes d4) ?_
    refine XS.aconstNull X0.here hexec rfl (hb hbytes d5) ?_
    exact Steps.refl _)
  obtain ⟨v3, T3, X3, E3, g3⟩ := X0.callN hexec (New4.law l a D fV fC b A z 0 A.slots.size) rfl hown (wks W (initW "java/lang/String" 27 New4.yN)) (W New4.tab (by simp only [site, List.mem_cons, List.mem_append, true_or, or_true])) (W := 0) (Nat.le_of_ble_eq_true rfl) (Nat.le_of_ble_eq_true rfl) (Nat.le_refl _) (by show 0 + A.slots.size ≤ A.slots.size; omega) (g := (mkF m 6 #[.val (.ref a), .val (.ref b)] [.null, .int (Int32.ofNat A.slots.size), .int (Int32.ofNat 0), .ref b, .ref a])) rfl (by rw [hml]; rfl) c2 (argsL := [.ref b, .int (Int32.ofNat 0), .int (Int32.ofNat A.slots.size), .null]) (rest := []) rfl rfl (by show 2 * 0 + 0 ≤ _; decide) (hb hbytes d6) (⟨rfl, hB.mv X0.warmed.alike hh0, f1.al X0.warmed.alike, f2.al X0.warmed.alike, hA.mv X0.warmed.alike hh0, s1.there X0.warmed.alike hh0, hz, l0, by omega, l2, fun i hi => by rw [Nat.zero_add]; exact hp i hi⟩)
  have e0 := Got.mv _ s₁ s _ _ hh0.symm (Vm.Alike.refl _) rfl E3
  obtain rfl := e0.1
  have c4 : Steps p.tables e below (s₁.setTop (entryFrame m #[.ref a, .ref b] 2)) (T3.setTop (mkF m 9 #[.val (.ref a), .val (.ref b)] [])) := g3
  exact ⟨T3, none, _, _, _, X3, by simp, rfl, by omega, (fun _ => rfl), e0, fun fs hl => c4.trans (X3.returnOut hexec hret (hb hbytes d9) hl)⟩
theorem pays {l : Launch} {R : Room} {p : Program} {e : Env} {below : List Frame} {s : State} {sargs : Array Value} {len W : Nat} (a : Addr) (D : Cell) (fV fC : Field) (b : Addr) (A : Cell) (z : Int32) (htab : tab.before sargs s = true) (hfr : 4 ≤ R.frames) (hlo : W + 65 ≤ R.locals) :
    Back l R p e below s sargs yN len W (fun A₁ a₁ => A₁.cells + 1 ≤ R.cells ∧ A₁.slots + A.slots.size ≤ R.slots ∧ P a D fV fC b A z a₁ A₁.U) (fun A₁ _ v₁ B₁ => E a D fV fC A v₁ A₁.U B₁.U ∧ B₁.locs = A₁.locs ++ [⟨a, fC.slot⟩, ⟨a, fV.slot⟩] ∧ B₁.cells = A₁.cells + 1 ∧ B₁.slots = A₁.slots + A.slots.size) :=
  (law l a D fV fC b A z).pays htab hfr (by omega)
end New1
end StrChars
namespace StrChars.Road
open Jvm Sem ClassFile Op Lib Jvm.Stand Jvm.Free Jvm.Free.XT
open Jvm.Lib.Cold (StaticIs)
abbrev ST : String := "java/lang/String"
/-- every table word that New1's law asks, flat -/
abbrev words : List Jvm.Cond := [.code New1.yN New1.yB 2 none, .initialized ST, .methodLink ST 27 New4.yN, .instanceMethod New4.yN,
  .code New4.yN New4.yB 6 none, .fieldLink ST 38 ST "COMPACT_STRINGS" "Z", .laysFinal ST ST "value" "[B", .fieldLink ST 9 ST "value" "[B", .laysFinal ST ST "coder" "B", .fieldLink ST 15 ST "coder" "B",
  .methodLink ST 1 Lib.objectInit, .instanceMethod Lib.objectInit, .code Lib.objectInit ⟨#[0xb1]⟩ 1 none, .methodLink ST 177 Cmp3.yN, .static Cmp3.yN, .methodLink ST 47 CodL.yN, .static CodL.yN,
  .code Cmp3.yN Cmp3.yB 6 (some (.array .byte)), .initialized U16, .arrayClass .byte, .methodLink U16 115 Cmp5.yN, .static Cmp5.yN, .code Cmp5.yN Cmp5.yB 7 (some .int), .code CodL.yN CodL.yB 2 (some .byte)]
theorem tab_of {a : Array Value} {s : State} (h : ∀ w ∈ words, w.before a s = true) : New1.tab.before a s = true := by
  have h5 : Cmp5.tab.before a s = true := unparts (wk h (.code Cmp5.yN Cmp5.yB 7 (some .int))) (wks h (.initialized Cmp5.yN.cls :: Cmp5.site))
  have hc : CodL.tab.before a s = true := unparts (wk h (.code CodL.yN CodL.yB 2 (some .byte))) (wks h (.initialized CodL.yN.cls :: CodL.site))
  have q5 : ∀ w ∈ Cmp5.tab :: words, w.before a s = true := fun w hw => (List.mem_cons.mp hw).elim (fun e => e ▸ h5) (h w)
  have h3 : Cmp3.tab.before a s = true := unparts (wk q5 (.code Cmp3.yN Cmp3.yB 6 (some (.array .byte)))) (wks q5 (.initialized Cmp3.yN.cls :: Cmp3.site))
  have q3 : ∀ w ∈ Cmp3.tab :: CodL.tab :: words, w.before a s = true := fun w hw => (List.mem_cons.mp hw).elim (fun e => e ▸ h3) fun hw => (List.mem_cons.mp hw).elim (fun e => e ▸ hc) (h w)
  have h4 : New4.tab.before a s = true := unparts (wk q3 (.code New4.yN New4.yB 6 none)) (wks q3 (.initialized New4.yN.cls :: New4.site))
  have q4 : ∀ w ∈ New4.tab :: words, w.before a s = true := fun w hw => (List.mem_cons.mp hw).elim (fun e => e ▸ h4) (h w)
  exact unparts (wk q4 (.code New1.yN New1.yB 2 none)) (wks q4 (.initialized New1.yN.cls :: New1.site))
/-- the words ride from the start Z to the walk's own state -/
theorem moved {Z s : State} {a0 args : Array Value} (hZ : Z.Warmed39 s.vm) (hw : ∀ d ∈ words, d.before a0 Z = true) : ∀ d ∈ words, d.before args s = true := fun d hd => by
  have q := hw d hd
  have t : ∀ d ∈ words, d = .arrayClass .byte ∨ (d.onTables && d.keepsFace) = true := by decide +kernel
  rcases t d hd with rfl | t
  · exact RoadKit.mvA hZ q
  · exact RoadKit.mv hZ q t
/-- WHAT COMES BACK, over the tables of the start Z: h the heap at the call, h' behind it -/
def Q (Z : State) (x : Addr) (A : Cell) (h : Heap) (v : Option Value) (h' : Heap) (L : List Loc) : Prop := v = none ∧ (∀ y ∈ L, y.base = x) ∧ RoadKit.Keep h h' [x] ∧ h'.size = h.size + 1 ∧ RoadKit.Exa Z h' x ST ∧ RoadKit.Fld Z h' x ST "value" "[B" (.ref h.size) ∧ RoadKit.Fld Z h' x ST "coder" "B" (.int 0) ∧
  (∃ V : Cell, RoadKit.Arr Z h' h.size V .byte ∧ V.vm = .none ∧ Z.vm.findClass "[B" = some V.cls ∧ V.slots.size = A.slots.size ∧ ∀ j, j < A.slots.size → V.slots[j]? = some (.int (lo8 (cv A j)))) ∧
  ∀ (O n d : String) (w : Value), RoadKit.Fld Z h x O n d w → RoadKit.slotOf Z O n d ≠ RoadKit.slotOf Z ST "value" "[B" → RoadKit.slotOf Z O n d ≠ RoadKit.slotOf Z ST "coder" "B" → RoadKit.Fld Z h' x O n d w
/-- **new String(chars) AT A CALL, IN THE ROAD'S FORM**: for specialBack behind newO: x the fresh String, b the char[] with the cell A -/
theorem back {p : Program} {l : Launch} {e : Env} {R : Room} {s : State} {args : Array Value} {below : List Frame} {len W : Nat} {Z : State} {a0 : Array Value} {h : Heap} (hZ : Z.Warmed39 s.vm) (hw : ∀ d ∈ words, d.before a0 Z = true) {kI : Nat} (wi : (Jvm.Cond.instantiable ST kI).before a0 Z = true)
    {x b : Addr} {A : Cell} {z : Int32} {v0 c0 : Value} (E : RoadKit.Exa Z h x ST) (V : RoadKit.Fld Z h x ST "value" "[B" v0) (C : RoadKit.Fld Z h x ST "coder" "B" c0) (K : RoadKit.Arr Z h b A .char) (hty : Typed .char A) (S : RoadKit.Sta Z h ST "COMPACT_STRINGS" "Z" (.int z)) (hz : ¬ z = 0)
    (l0 : 0 < A.slots.size) (l2 : A.slots.size ≤ 536870912) (hp : ∀ i, i < A.slots.size → ¬ 255 < cv A i) (hfr : 4 ≤ R.frames) (hlo : W + 65 ≤ R.locals) :
    Back l R p e below s args New1.yN len W (fun P a => a = #[.ref x, .ref b] ∧ P.U.heap = h ∧ P.cells + 1 ≤ R.cells ∧ P.slots + A.slots.size ≤ R.slots)
      (fun P _ v B => ∃ L, Q Z x A h v B.U.heap L ∧ B.locs = P.locs ++ L ∧ B.cells = P.cells + 1 ∧ B.slots = P.slots + A.slots.size) := by
  intro m meth c P g ig mk a X hg hsize hdg hW hn hp'
  obtain ⟨rfl, rfl, r1, r2⟩ := hp'
  have al : Z.vm.Alike P.U.vm := hZ.alike.trans X.warmed.alike
  obtain ⟨D, cfV, kV, iV, fV, hD, gV, stV, knV, obV, asV, slV⟩ := id V
  obtain ⟨D', cfC, kC, iC, fC, hD', gC, stC, -, -, asC, slC⟩ := id C
  cases hD.symm.trans hD'
  obtain ⟨D2, kD, e1, e2, e3, e4, e5⟩ := id E
  cases hD.symm.trans e1
  obtain ⟨c2, k2, i1, i2, i3, -⟩ := Cond.instantiable_spec wi
  cases e2.symm.trans i1
  cases e3.symm.trans i2
  obtain ⟨kU, u1, u2⟩ := al.2.2 _ _ e3
  have hB : Blank ST x D P.U := ⟨hD, ⟨knV, fun q hq => by rw [hq] at obV; cases obV⟩, by rw [al.findClass]; exact e2, kU, u1, by rw [u2]; exact i3, by rw [u2]; exact e5 i3⟩
  have F1 : Found ST "value" "[B" fV P.U := ⟨SBG.found_only al ⟨cfV, kV, iV, gV⟩, stV⟩
  have F2 : Found ST "coder" "B" fC P.U := ⟨SBG.found_only al ⟨cfC, kC, iC, gC⟩, stC⟩
  have hA : Ch b A P.U := ⟨⟨K.1, State.isArrayOf_alike al K.2.1, K.2.2, by omega⟩, hty⟩
  have hS : StaticIs P.U ST "COMPACT_STRINGS" "Z" (.int z) := by
    obtain ⟨cfS, iS, kS, fS, st, cS, t1, t2, t3, t4, t5, t6, t7⟩ := S
    exact StaticIs.there (s := { Z with heap := P.U.heap }) ⟨cfS, iS, kS, fS, st, cS, t1, t2, t3, t4, t5, (fun q => by rw [q] at t6; cases t6), t7⟩ al rfl
  obtain ⟨v, B, X', ⟨⟨hv, E', V', q1, q2, q3, q4, q5, q6, q7, q8, q9, q10, q11⟩, hl, hc, hs⟩, st⟩ := New1.pays x D fV fC b A z (tab_of (moved hZ hw)) hfr hlo m meth c P g ig mk _ X hg hsize hdg hW hn ⟨r1, r2, rfl, hB, F1, F2, hA, hS, hz, l0, l2, hp⟩
  have al' : Z.vm.Alike B.U.vm := hZ.alike.trans X'.warmed.alike
  have hsz : E'.slots.size = D.slots.size := by
    obtain ⟨-, -, -, kB, w1, w2, w3⟩ := q1
    obtain ⟨kB', y1, y2⟩ := al'.2.2 _ _ e3
    rw [q2.2.1] at w1
    cases w1.symm.trans y1
    rw [w3, e5 i3, y2]
  refine ⟨v, B, X', ⟨_, ⟨hv, ?_, ⟨by omega, fun y cy hy hn' => q10 y cy (by simpa using hn') hy, fun y cy hy => ?_⟩, q11, ⟨E', _, q1.1, by rw [q2.2.1]; exact e2, by rw [q2.2.1]; exact e3, by rw [q2.1]; exact obV, fun _ => by rw [hsz]; exact e5 i3⟩,
    ⟨E', cfV, kV, iV, fV, q1.1, gV, stV, by rw [q2.1]; exact knV, by rw [q2.1]; exact obV, by rw [q2.2.1]; exact asV, q3⟩, ⟨E', cfC, kC, iC, fC, q1.1, gC, stC, by rw [q2.1]; exact knV, by rw [q2.1]; exact obV, by rw [q2.2.1]; exact asC, q4⟩,
    ⟨V', ⟨q5.1, State.isArrayOf_alike al'.symm q5.2.1, q5.2.2.1⟩, q6, by rw [← al'.findClass]; exact q7, q8, fun j hj => by have := q9 j hj; rwa [Nat.zero_add] at this⟩, fun O n d w F n1 n2 => ?_⟩, hl, hc, hs⟩, st⟩
  · intro y hy
    simp only [List.mem_cons, List.not_mem_nil, or_false] at hy
    rcases hy with rfl | rfl <;> rfl
  · by_cases q : y = x
    · subst q
      cases hD.symm.trans hy
      exact ⟨E', q1.1, q2.2.1, q2.1, hsz⟩
    · exact ⟨cy, q10 y cy q hy, rfl, rfl, rfl⟩
  · obtain ⟨D3, cf, k, i, f, g1, g2, g3, g4, g5, g6, g7⟩ := F
    cases hD.symm.trans g1
    simp only [RoadKit.slotOf, g2, gV, gC, Option.map_some, Option.getD_some] at n1 n2
    exact ⟨E', cf, k, i, f, q1.1, g2, g3, by rw [q2.1]; exact g4, by rw [q2.1]; exact g5, by rw [q2.2.1]; exact g6, by rw [q2.2.2 f.slot (by simp [n1, n2])]; exact g7⟩
end StrChars.Road
namespace StrChars.Road
open Jvm Sem ClassFile Op Lib Jvm.Stand Jvm.Free Jvm.Free.XT
/-- WHAT COMES BACK, the byte[] as a list of values -/
def QA (Z : State) (x : Addr) (zn : Int32) (cs : List Int32) (h : Heap) (v : Option Value) (h' : Heap) (L : List Loc) : Prop := v = none ∧ (∀ y ∈ L, y.base = x) ∧ RoadKit.Keep h h' [x] ∧ h'.size = h.size + 1 ∧ RoadKit.Exa Z h' x ST ∧ RoadKit.Fld Z h' x ST "value" "[B" (.ref h.size) ∧ RoadKit.Fld Z h' x ST "coder" "B" (.int 0) ∧
  (∃ kb, Z.vm.findClass "[B" = some kb ∧ RoadKit.Arv Z h' h.size kb .byte zn (cs.map fun c => .int (lo8 c)) (.int 0)) ∧
  ∀ (O n d : String) (w : Value), RoadKit.Fld Z h x O n d w → RoadKit.slotOf Z O n d ≠ RoadKit.slotOf Z ST "value" "[B" → RoadKit.slotOf Z O n d ≠ RoadKit.slotOf Z ST "coder" "B" → RoadKit.Fld Z h' x O n d w
/-- **new String(chars) AT A CALL, THE ARRAYS AS LISTS**: the char[] at b holds cs, not empty, no char above 255 -/
theorem backArv {p : Program} {l : Launch} {e : Env} {R : Room} {s : State} {args : Array Value} {below : List Frame} {len W : Nat} {Z : State} {a0 : Array Value} {h : Heap} (hZ : Z.Warmed39 s.vm) (hw : ∀ d ∈ words, d.before a0 Z = true) {kI : Nat} (wi : (Jvm.Cond.instantiable ST kI).before a0 Z = true)
    {x b : Addr} {k : ClassId} {zn z : Int32} {cs : List Int32} {dv v0 c0 : Value} (E : RoadKit.Exa Z h x ST) (V : RoadKit.Fld Z h x ST "value" "[B" v0) (C : RoadKit.Fld Z h x ST "coder" "B" c0) (K : RoadKit.Arv Z h b k .char zn (cs.map Value.int) dv) (S : RoadKit.Sta Z h ST "COMPACT_STRINGS" "Z" (.int z)) (hz : ¬ z = 0)
    (hlen : zn.toNatClampNeg = cs.length) (h0 : 0 < cs.length) (hbig : cs.length ≤ 536870912) (hall : ∀ c ∈ cs, ¬ 255 < c) (hfr : 4 ≤ R.frames) (hlo : W + 65 ≤ R.locals) :
    Back l R p e below s args New1.yN len W (fun P a => a = #[.ref x, .ref b] ∧ P.U.heap = h ∧ P.cells + 1 ≤ R.cells ∧ P.slots + cs.length ≤ R.slots)
      (fun P _ v B => ∃ L, QA Z x zn cs h v B.U.heap L ∧ B.locs = P.locs ++ L ∧ B.cells = P.cells + 1 ∧ B.slots = P.slots + cs.length) := by
  obtain ⟨A, K1, K2, K3, K4, K5, K6⟩ := K
  have e : A.slots.size = cs.length := K3.trans hlen
  have hat : ∀ (i : Nat) (hi : i < cs.length), A.slots[i]? = some (.int cs[i]) := fun i hi => by rw [K5 i (by omega)]; simp [List.getD_eq_getElem?_getD, hi]
  have hcv : ∀ (i : Nat) (hi : i < cs.length), cv A i = cs[i] := fun i hi => by unfold cv; rw [hat i hi]
  have hty : Typed .char A := fun i v hv => by
    have hi : i < A.slots.size := (Array.getElem?_eq_some_iff.mp hv).1
    have q := K5 i hi
    rw [hv] at q
    rw [Option.some.inj q]
    exact K6 i hi
  refine Back.mono (back hZ hw wi E V C K1 hty S hz (by omega) (by omega) (fun i hi => by rw [hcv i (by omega)]; exact hall _ (List.getElem_mem _)) hfr hlo) (fun P a hp => ⟨hp.1, hp.2.1, hp.2.2.1, by rw [e]; exact hp.2.2.2⟩) (fun P a v B hp hq => ?_)
  obtain ⟨L, ⟨q1, q2, q3, q4, q5, q6, q7, ⟨V', v1, v2, v3, v4, v5⟩, q9⟩, hl, hc, hs⟩ := hq
  refine ⟨L, ⟨q1, q2, q3, q4, q5, q6, q7, ⟨V'.cls, v3, V', v1, rfl, by rw [v4, e, hlen], K4, fun i hi => ?_, fun i hi => ?_⟩, q9⟩, hl, hc, by rw [hs, e]⟩
  · have hi' : i < cs.length := by omega
    rw [v5 i (by omega), hcv i hi']; simp [List.getD_eq_getElem?_getD, hi']
  · have hi' : i < cs.length := by omega
    simp only [List.getD_eq_getElem?_getD, List.getElem?_map, List.getElem?_eq_getElem hi', Option.map_some, Option.getD_some]
    exact fits_lo8 _
end StrChars.Road
namespace StrChars.Road
open Jvm Sem ClassFile Op Lib Jvm.Stand Jvm.Free Jvm.Free.XT
/-- WHAT COMES BACK, in the writer's own shape -/
def QV (Z : State) (x : Addr) (N : Int32) (bs : List Int32) (h : Heap) (n0 : Nat) (v : Option Value) (h' : Heap) (L : List Loc) : Prop := v = none ∧ RoadKit.Fr n0 L ∧ RoadKit.Keep h h' [x] ∧ RoadKit.Exa Z h' x ST ∧ RoadKit.Fld Z h' x ST "coder" "B" (.int 0) ∧
  ∃ (t : Addr) (kb : ClassId), n0 ≤ t ∧ h.size ≤ t ∧ ¬ t = x ∧ RoadKit.Fld Z h' x ST "value" "[B" (.ref t) ∧ RoadKit.Arv Z h' t kb .byte N (bs.map Value.int) (.int 0)
/-- **new String(chars) AT A CALL, FOR THE WRITER**: a char[] of n known ints, each 0 to 255 -/
theorem backV {p : Program} {l : Launch} {e : Env} {R : Room} {s : State} {args : Array Value} {below : List Frame} {len W : Nat} {Z : State} {a0 : Array Value} {h : Heap} (hZ : Z.Warmed39 s.vm) (hw : ∀ d ∈ words, d.before a0 Z = true) {kI : Nat} (wi : (Jvm.Cond.instantiable ST kI).before a0 Z = true)
    {x b : Addr} {kC : ClassId} {cs bs : List Int32} {d v0 c0 : Value} {z N : Int32} {n n0 : Nat} (hx0 : n0 ≤ x) (hh0 : n0 ≤ h.size) (E : RoadKit.Exa Z h x ST) (V : RoadKit.Fld Z h x ST "value" "[B" v0) (C : RoadKit.Fld Z h x ST "coder" "B" c0) (K : RoadKit.Arv Z h b kC .char N (cs.map Value.int) d) (S : RoadKit.Sta Z h ST "COMPACT_STRINGS" "Z" (.int z)) (hz : ¬ z = 0)
    (hn : cs.length = n) (hN : N = Int32.ofNat n) (l0 : 0 < n) (l2 : n ≤ 4000) (hp : ∀ c ∈ cs, ¬ c < 0 ∧ ¬ (255 : Int32) < c) (hb : bs = cs.map (fun c => c.toInt8.toInt32)) (hfr : 4 ≤ R.frames) (hlo : W + 65 ≤ R.locals) :
    Back l R p e below s args (⟨"java/lang/String", "<init>", "([C)V"⟩ : MethodName) len W (fun P a => a = #[.ref x, .ref b] ∧ P.U.heap = h ∧ P.cells + 1 ≤ R.cells ∧ P.slots + n ≤ R.slots)
      (fun P _ v B => ∃ L, QV Z x N bs h n0 v B.U.heap L ∧ B.locs = P.locs ++ L ∧ B.cells = P.cells + 1 ∧ B.slots = P.slots + n) := by
  subst hn hN hb
  refine Back.mono (backArv hZ hw wi E V C K S hz (n32 (by omega)) l0 (by omega) (fun c hc => (hp c hc).2) hfr hlo) (fun P a hp => hp) (fun P a v B hp hq => ?_)
  obtain ⟨L, ⟨q1, q2, q3, q4, q5, q6, q7, ⟨kb, v1, v2⟩, q9⟩, hl, hc, hs⟩ := hq
  exact ⟨L, ⟨q1, fun y hy => by rw [q2 y hy]; exact hx0, q3, q5, q7, h.size, kb, hh0, Nat.le_refl _, Nat.ne_of_gt E.lt, q6, by rw [List.map_map]; exact v2⟩, hl, hc, hs⟩
end StrChars.Road
end Jvm.Pilot.@@N@@
namespace Jvm.Pilot.@@N@@
open Jvm Jvm.ClassFile Sem Op Lib Jvm.Free Jvm.Stand Jvm.LawKit Jvm.RoadKit Bundle Jvm.Pilot.@@N@@.Jvm.D
/-! A walk in continuation form over the library's Stand (one rule an instruction; the state T, the tables, the written places and the start's tables are hidden in Wk). -/
abbrev Cx : Type := Program × Launch × Env × Room × State × MethodId × Array Value × List Frame × Method × Code × Bool × (Option Value → Heap → Prop)
/-- what is known of the tables at hand: Cln: the start's own (nothing interned so far); Dty: nothing -/
abbrev Ph : Type := State → Vm → Prop
def Cln : Ph := fun s v => v = s.vm
def Dty : Ph := fun _ _ => True
def PhA : Bool → Ph → Ph
  | false, ph => ph
  | true, _ => Dty
abbrev Els : Type := List (String × Nat)
theorem chv_nil {Z : State} {vm : Vm} {h : Heap} : CHv Z [] vm h := fun p hp => by cases hp
def Cx.me (K : Cx) : MethodId := K.2.2.2.2.2.1
def EndW : Bool → State → Outcome → State → List Loc → Nat → Nat → Prop
  | false, s, o, t, L, k, n => FrameEnd s o t L k n
  | true, s, o, t, L, k, n => ReturnedEndW s o t L k n
def Pst (Z : State) (n : Nat) (Q : Option Value → Heap → Prop) (v : Option Value) (h : Heap) (L : List Loc) : Prop := Q v h ∧ Fr Z.heap.size L ∧ Ext Z.heap h ∧ n ≤ h.size
def rV (Q : Value → Heap → Prop) (v : Option Value) (h : Heap) : Prop := ∃ x, v = some x ∧ Q x h
def rU (Q : Heap → Prop) (v : Option Value) (h : Heap) : Prop := v = none ∧ Q h
def Wk (Z : State) : Cx → Ph → State → Heap → Nat → Nat → Prop
  | (p, l, e, R, s, m, args, below, meth, c, w, Q), ph, T, h, n1, n2 => ∃ vm0 k0 locs, Stand p l e R (s.setVm vm0) m args below meth c T locs n1 n2 ∧ s.Since vm0 k0 ∧ k0 ≤ T.heap.size ∧ Z.Warmed39 vm0 ∧ Fr Z.heap.size locs ∧ T.heap = h ∧ ph s vm0
def Go (Z : State) : Cx → State → Prop
  | (p, l, e, R, s, m, args, below, meth, c, w, Q), st => ∃ s₂ o, Steps p.tables e below st s₂ ∧ s₂.status = .running ∧ Ended s₂ below o ∧ ∃ v L, o = .returned v ∧ Pst Z s.heap.size Q v s₂.heap L ∧ EndW w s o s₂ L R.cells R.slots
def Run (Z : State) (K : Cx) (ph : Ph) (h : Heap) (n1 n2 pc : Nat) (ls : Array Slot) (st : List Value) : Prop := ∀ T, Ext Z.heap h → Wk Z K ph T h n1 n2 → Go Z K (T.setTop (mkF K.me pc ls st))
def Ok (Z : State) : Cx → Els → String → ByteArray → Nat → Option FieldType → String → Room → Launch → Bool → (Option Value → Heap → Prop) → Prop
  | (p, l, e, R, s, m, args, below, meth, c, w, Q), EL, own, code, maxL, ret, nm, R0, l0, w0, Q0 => p.tables.exec = Jvm.exec ∧ c.code = code ∧ c.maxLocals = maxL ∧ (∀ vm0, Z.Warmed39 vm0 → vm0.findClass own = some m.cls) ∧ meth.sig.returnType = ret ∧ meth.locks = false ∧ meth.name = nm ∧ R = R0 ∧ l = l0 ∧ w = w0 ∧ Q = Q0 ∧ CHv Z EL s.vm Z.heap
def Con (l : Launch) (Z : State) (EL : Els) (ws : List Jvm.Cond) (w : Bool) (y : MethodName) (bytes : ByteArray) (maxL : Nat) (ret : Option FieldType) (R : Room) (as : Array Value) (h0 : Heap) (Q : Option Value → Heap → Prop) : Prop :=
  Ext Z.heap h0 → MetFree l y (head1 (Jvm.Cond.code y bytes maxL ret :: ws) R) (fun a U => a = as ∧ Z.Warmed39 U.vm ∧ U.heap = h0 ∧ CHv Z EL U.vm Z.heap) (fun _ _ _ _ _ => True) (fun _ U o U' => ∃ v L, o = .returned v ∧ Pst Z h0.size Q v U'.heap L ∧ EndW w U o U' L R.cells R.slots)
def Pay (Z : State) (EL : Els) : Bool → Launch → Room → MethodName → Nat → Nat → Array Value → Heap → Nat → Nat → (Option Value → Heap → Prop) → Prop
  | false, l, R, y, len, W, as, h, k, n, Q => ∀ (p : Program) (e : Env) (below : List Frame) (s : State) (args : Array Value), Z.Warmed39 s.vm → CHv Z EL s.vm Z.heap → Ext Z.heap h →
      Back l R p e below s args y len W (fun A a => a = as ∧ A.U.heap = h ∧ A.cells + k ≤ R.cells ∧ A.slots + n ≤ R.slots) (fun A _ v B => ∃ L, Pst Z h.size Q v B.U.heap L ∧ B.locs = A.locs ++ L ∧ B.cells = A.cells + k ∧ B.slots = A.slots + n)
  | true, l, R, y, len, W, as, h, k, n, Q => ∀ (p : Program) (e : Env) (below : List Frame) (s : State) (args : Array Value), Z.Warmed39 s.vm → CHv Z EL s.vm Z.heap → Ext Z.heap h →
      BackS l R p e below s args y len W (fun A a => a = as ∧ A.U.heap = h ∧ A.cells + k ≤ R.cells ∧ A.slots + n ≤ R.slots) (fun A _ v B => ∃ L, Pst Z h.size Q v B.U.heap L ∧ B.locs = A.locs ++ L ∧ B.cells = A.cells + k ∧ B.slots = A.slots + n)
section Walk
variable {Z : State} {K : Cx} {EL : Els} {ph : Ph} {own : String} {code : ByteArray} {maxL : Nat} {ret : Option FieldType} {nm : String} {R : Room} {l : Launch} {w : Bool} {Q : Option Value → Heap → Prop} {h : Heap} {n1 n2 pc pc' pcY : Nat} {ls ls' : Array Slot} {st st' : List Value} {a0 : Array Value}
theorem rS (ok : Ok Z K EL own code maxL ret nm R l w Q) (hr : Run Z K ph h n1 n2 pc' ls' st')
    (f : ∀ (p : Program) (e : Env) (below : List Frame) (m : MethodId) (c : Code) (T : State), At T m c below → p.tables.exec = Jvm.exec → c.code = code → ∀ t, Steps p.tables e below (T.setTop (mkF m pc' ls' st')) t → Steps p.tables e below (T.setTop (mkF m pc ls st)) t) : Run Z K ph h n1 n2 pc ls st := by
  obtain ⟨p, l1, e, R1, s, m, args, below, meth, c, w1, Q1⟩ := K
  obtain ⟨hx, hby, -⟩ := ok
  intro T X W
  obtain ⟨s₂, o, h1, r⟩ := hr T X W
  obtain ⟨vm0, k0, locs, S, -⟩ := W
  exact ⟨s₂, o, f p e below m c T S.here hx hby _ h1, r⟩
theorem rX (ok : Ok Z K EL own code maxL ret nm R l w Q) (hr : Run Z K ph h n1 n2 pc' ls' st')
    (f : ∀ (p : Program) (e : Env) (s : State) (m : MethodId) (args : Array Value) (below : List Frame) (meth : Method) (c : Code) (T : State) (locs : List Loc), Stand p l e R s m args below meth c T locs n1 n2 → p.tables.exec = Jvm.exec → c.code = code → Z.Warmed39 s.vm → s.vm.findClass own = some m.cls → T.heap = h →
      ∀ t, Steps p.tables e below (T.setTop (mkF m pc' ls' st')) t → Steps p.tables e below (T.setTop (mkF m pc ls st)) t) : Run Z K ph h n1 n2 pc ls st := by
  obtain ⟨p, l1, e, R1, s, m, args, below, meth, c, w1, Q1⟩ := K
  obtain ⟨hx, hby, -, ho, -, -, -, rfl, rfl, -⟩ := ok
  intro T X W
  obtain ⟨s₂, o, h1, r⟩ := hr T X W
  obtain ⟨vm0, k0, locs, S, -, -, hZ, -, eT, -⟩ := W
  exact ⟨s₂, o, f p e (s.setVm vm0) m args below meth c T locs S hx hby hZ (ho vm0 hZ) eT _ h1, r⟩
theorem rH (ok : Ok Z K EL own code maxL ret nm R l w Q) {P : Heap → Prop} {m1 m2 : Nat}
    (f : ∀ (p : Program) (e : Env) (s : State) (m : MethodId) (args : Array Value) (below : List Frame) (meth : Method) (c : Code) (T : State) (locs : List Loc), Stand p l e R s m args below meth c T locs n1 n2 → p.tables.exec = Jvm.exec → c.code = code → c.maxLocals = maxL → Z.Warmed39 s.vm → s.vm.findClass own = some m.cls → meth.name = nm → T.heap = h → Ext Z.heap h →
      ∃ T' h' L, Stand p l e R s m args below meth c T' (locs ++ L) m1 m2 ∧ T'.heap = h' ∧ Fr Z.heap.size L ∧ h.size ≤ h'.size ∧ Ext Z.heap h' ∧ P h' ∧ ∀ t, Steps p.tables e below (T'.setTop (mkF m pc' ls' st')) t → Steps p.tables e below (T.setTop (mkF m pc ls st)) t)
    (hr : ∀ h', P h' → Run Z K ph h' m1 m2 pc' ls' st') : Run Z K ph h n1 n2 pc ls st := by
  obtain ⟨p, l1, e, R1, s, m, args, below, meth, c, w1, Q1⟩ := K
  obtain ⟨hx, hby, hml, ho, hret, hlk, hnm, rfl, rfl, rfl, rfl, hCH⟩ := ok
  intro T X W
  obtain ⟨vm0, k0, locs, S, hS, hk, hZ, hF, eT, hw⟩ := W
  obtain ⟨T', h', L, S', eT', hL, hle, hX', hP, hst⟩ := f p e (s.setVm vm0) m args below meth c T locs S hx hby hml hZ (ho vm0 hZ) hnm eT X
  obtain ⟨s₂, o, h1, r⟩ := hr h' hP T' hX' ⟨vm0, k0, locs ++ L, S', hS, by rw [eT']; rw [eT] at hk; exact Nat.le_trans hk hle, hZ, hF.app hL, eT', hw⟩
  exact ⟨s₂, o, hst _ h1, r⟩
theorem r_old (f : Ext Z.heap h → Run Z K ph h n1 n2 pc ls st) : Run Z K ph h n1 n2 pc ls st := fun T X W => f X T X W
theorem r_more {m1 m2 : Nat} (hc : n1 ≤ m1) (hn : n2 ≤ m2) (hr : Run Z K ph h m1 m2 pc ls st) : Run Z K ph h n1 n2 pc ls st := by
  obtain ⟨p, l1, e, R1, s, m, args, below, meth, c, w1, Q1⟩ := K
  intro T X W
  obtain ⟨vm0, k0, locs, S, r⟩ := W
  exact hr T X ⟨vm0, k0, locs, S.more hc hn, r⟩

theorem r_iadd (ok : Ok Z K EL own code maxL ret nm R l w Q) (hp : pc + 1 = pc') {x y : Int32} (hd : decode code pc = .ok (.iadd, 1)) (hr : Run Z K ph h n1 n2 pc' ls (.int (x + y) :: st)) : Run Z K ph h n1 n2 pc ls (.int y :: .int x :: st) := by
  subst hp; exact rS ok hr fun p e below m c T A hx hby t => XS.iadd (g := mkF m pc ls (.int y :: .int x :: st)) A hx rfl (hb hby hd) rfl
theorem r_isub (ok : Ok Z K EL own code maxL ret nm R l w Q) (hp : pc + 1 = pc') {x y : Int32} (hd : decode code pc = .ok (.isub, 1)) (hr : Run Z K ph h n1 n2 pc' ls (.int (x - y) :: st)) : Run Z K ph h n1 n2 pc ls (.int y :: .int x :: st) := by
  subst hp; exact rS ok hr fun p e below m c T A hx hby t => XS.isub (g := mkF m pc ls (.int y :: .int x :: st)) A hx rfl (hb hby hd) rfl
theorem r_imul (ok : Ok Z K EL own code maxL ret nm R l w Q) (hp : pc + 1 = pc') {x y : Int32} (hd : decode code pc = .ok (.imul, 1)) (hr : Run Z K ph h n1 n2 pc' ls (.int (x * y) :: st)) : Run Z K ph h n1 n2 pc ls (.int y :: .int x :: st) := by
  subst hp; exact rS ok hr fun p e below m c T A hx hby t => XS.imul (g := mkF m pc ls (.int y :: .int x :: st)) A hx rfl (hb hby hd) rfl
theorem r_iand (ok : Ok Z K EL own code maxL ret nm R l w Q) (hp : pc + 1 = pc') {x y : Int32} (hd : decode code pc = .ok (.iand, 1)) (hr : Run Z K ph h n1 n2 pc' ls (.int (x &&& y) :: st)) : Run Z K ph h n1 n2 pc ls (.int y :: .int x :: st) := by
  subst hp; exact rS ok hr fun p e below m c T A hx hby t => XS.iand (g := mkF m pc ls (.int y :: .int x :: st)) A hx rfl (hb hby hd) rfl
theorem r_ior (ok : Ok Z K EL own code maxL ret nm R l w Q) (hp : pc + 1 = pc') {x y : Int32} (hd : decode code pc = .ok (.ior, 1)) (hr : Run Z K ph h n1 n2 pc' ls (.int (x ||| y) :: st)) : Run Z K ph h n1 n2 pc ls (.int y :: .int x :: st) := by
  subst hp; exact rS ok hr fun p e below m c T A hx hby t => XS.ior (g := mkF m pc ls (.int y :: .int x :: st)) A hx rfl (hb hby hd) rfl
theorem r_ixor (ok : Ok Z K EL own code maxL ret nm R l w Q) (hp : pc + 1 = pc') {x y : Int32} (hd : decode code pc = .ok (.ixor, 1)) (hr : Run Z K ph h n1 n2 pc' ls (.int (x ^^^ y) :: st)) : Run Z K ph h n1 n2 pc ls (.int y :: .int x :: st) := by
  subst hp; exact rS ok hr fun p e below m c T A hx hby t => XS.ixor (g := mkF m pc ls (.int y :: .int x :: st)) A hx rfl (hb hby hd) rfl
theorem r_ishl (ok : Ok Z K EL own code maxL ret nm R l w Q) (hp : pc + 1 = pc') {x y : Int32} (hd : decode code pc = .ok (.ishl, 1)) (hr : Run Z K ph h n1 n2 pc' ls (.int (x <<< (y &&& 31)) :: st)) : Run Z K ph h n1 n2 pc ls (.int y :: .int x :: st) := by
  subst hp; exact rS ok hr fun p e below m c T A hx hby t => XS.ishl (g := mkF m pc ls (.int y :: .int x :: st)) A hx rfl (hb hby hd) rfl
theorem r_ishr (ok : Ok Z K EL own code maxL ret nm R l w Q) (hp : pc + 1 = pc') {x y : Int32} (hd : decode code pc = .ok (.ishr, 1)) (hr : Run Z K ph h n1 n2 pc' ls (.int (x >>> (y &&& 31)) :: st)) : Run Z K ph h n1 n2 pc ls (.int y :: .int x :: st) := by
  subst hp; exact rS ok hr fun p e below m c T A hx hby t => XS.ishr (g := mkF m pc ls (.int y :: .int x :: st)) A hx rfl (hb hby hd) rfl
theorem r_iushr (ok : Ok Z K EL own code maxL ret nm R l w Q) (hp : pc + 1 = pc') {x y : Int32} (hd : decode code pc = .ok (.iushr, 1)) (hr : Run Z K ph h n1 n2 pc' ls (.int ((x.toUInt32 >>> (y &&& 31).toUInt32).toInt32) :: st)) : Run Z K ph h n1 n2 pc ls (.int y :: .int x :: st) := by
  subst hp; exact rS ok hr fun p e below m c T A hx hby t => XS.iushr (g := mkF m pc ls (.int y :: .int x :: st)) A hx rfl (hb hby hd) rfl
theorem r_ladd (ok : Ok Z K EL own code maxL ret nm R l w Q) (hp : pc + 1 = pc') {x y : Int64} (hd : decode code pc = .ok (.ladd, 1)) (hr : Run Z K ph h n1 n2 pc' ls (.long (x + y) :: st)) : Run Z K ph h n1 n2 pc ls (.long y :: .long x :: st) := by
  subst hp; exact rS ok hr fun p e below m c T A hx hby t => XS.ladd (g := mkF m pc ls (.long y :: .long x :: st)) A hx rfl (hb hby hd) rfl
theorem r_lsub (ok : Ok Z K EL own code maxL ret nm R l w Q) (hp : pc + 1 = pc') {x y : Int64} (hd : decode code pc = .ok (.lsub, 1)) (hr : Run Z K ph h n1 n2 pc' ls (.long (x - y) :: st)) : Run Z K ph h n1 n2 pc ls (.long y :: .long x :: st) := by
  subst hp; exact rS ok hr fun p e below m c T A hx hby t => XS.lsub (g := mkF m pc ls (.long y :: .long x :: st)) A hx rfl (hb hby hd) rfl
theorem r_lmul (ok : Ok Z K EL own code maxL ret nm R l w Q) (hp : pc + 1 = pc') {x y : Int64} (hd : decode code pc = .ok (.lmul, 1)) (hr : Run Z K ph h n1 n2 pc' ls (.long (x * y) :: st)) : Run Z K ph h n1 n2 pc ls (.long y :: .long x :: st) := by
  subst hp; exact rS ok hr fun p e below m c T A hx hby t => XS.lmul (g := mkF m pc ls (.long y :: .long x :: st)) A hx rfl (hb hby hd) rfl
theorem r_land (ok : Ok Z K EL own code maxL ret nm R l w Q) (hp : pc + 1 = pc') {x y : Int64} (hd : decode code pc = .ok (.land, 1)) (hr : Run Z K ph h n1 n2 pc' ls (.long (x &&& y) :: st)) : Run Z K ph h n1 n2 pc ls (.long y :: .long x :: st) := by
  subst hp; exact rS ok hr fun p e below m c T A hx hby t => XS.land (g := mkF m pc ls (.long y :: .long x :: st)) A hx rfl (hb hby hd) rfl
theorem r_lor (ok : Ok Z K EL own code maxL ret nm R l w Q) (hp : pc + 1 = pc') {x y : Int64} (hd : decode code pc = .ok (.lor, 1)) (hr : Run Z K ph h n1 n2 pc' ls (.long (x ||| y) :: st)) : Run Z K ph h n1 n2 pc ls (.long y :: .long x :: st) := by
  subst hp; exact rS ok hr fun p e below m c T A hx hby t => XS.lor (g := mkF m pc ls (.long y :: .long x :: st)) A hx rfl (hb hby hd) rfl
theorem r_lxor (ok : Ok Z K EL own code maxL ret nm R l w Q) (hp : pc + 1 = pc') {x y : Int64} (hd : decode code pc = .ok (.lxor, 1)) (hr : Run Z K ph h n1 n2 pc' ls (.long (x ^^^ y) :: st)) : Run Z K ph h n1 n2 pc ls (.long y :: .long x :: st) := by
  subst hp; exact rS ok hr fun p e below m c T A hx hby t => XS.lxor (g := mkF m pc ls (.long y :: .long x :: st)) A hx rfl (hb hby hd) rfl
theorem r_lshl (ok : Ok Z K EL own code maxL ret nm R l w Q) (hp : pc + 1 = pc') {x : Int64} {y : Int32} (hd : decode code pc = .ok (.lshl, 1)) (hr : Run Z K ph h n1 n2 pc' ls (.long (x <<< (y &&& 0x3f).toInt64) :: st)) : Run Z K ph h n1 n2 pc ls (.int y :: .long x :: st) := by
  subst hp; exact rS ok hr fun p e below m c T A hx hby t => XS.lshl (g := mkF m pc ls (.int y :: .long x :: st)) A hx rfl (hb hby hd) rfl
theorem r_lshr (ok : Ok Z K EL own code maxL ret nm R l w Q) (hp : pc + 1 = pc') {x : Int64} {y : Int32} (hd : decode code pc = .ok (.lshr, 1)) (hr : Run Z K ph h n1 n2 pc' ls (.long (x >>> (y &&& 0x3f).toInt64) :: st)) : Run Z K ph h n1 n2 pc ls (.int y :: .long x :: st) := by
  subst hp; exact rS ok hr fun p e below m c T A hx hby t => XS.lshr (g := mkF m pc ls (.int y :: .long x :: st)) A hx rfl (hb hby hd) rfl
theorem r_lushr (ok : Ok Z K EL own code maxL ret nm R l w Q) (hp : pc + 1 = pc') {x : Int64} {y : Int32} (hd : decode code pc = .ok (.lushr, 1)) (hr : Run Z K ph h n1 n2 pc' ls (.long ((x.toUInt64 >>> (y &&& 0x3f).toInt64.toUInt64).toInt64) :: st)) : Run Z K ph h n1 n2 pc ls (.int y :: .long x :: st) := by
  subst hp; exact rS ok hr fun p e below m c T A hx hby t => XS.lushr (g := mkF m pc ls (.int y :: .long x :: st)) A hx rfl (hb hby hd) rfl
theorem r_ineg (ok : Ok Z K EL own code maxL ret nm R l w Q) (hp : pc + 1 = pc') {x : Int32} (hd : decode code pc = .ok (.ineg, 1)) (hr : Run Z K ph h n1 n2 pc' ls (.int (-x) :: st)) : Run Z K ph h n1 n2 pc ls (.int x :: st) := by
  subst hp; exact rS ok hr fun p e below m c T A hx hby t => XS.ineg (g := mkF m pc ls (.int x :: st)) A hx rfl (hb hby hd) rfl
theorem r_lneg (ok : Ok Z K EL own code maxL ret nm R l w Q) (hp : pc + 1 = pc') {x : Int64} (hd : decode code pc = .ok (.lneg, 1)) (hr : Run Z K ph h n1 n2 pc' ls (.long (-x) :: st)) : Run Z K ph h n1 n2 pc ls (.long x :: st) := by
  subst hp; exact rS ok hr fun p e below m c T A hx hby t => XS.lneg (g := mkF m pc ls (.long x :: st)) A hx rfl (hb hby hd) rfl
theorem r_i2l (ok : Ok Z K EL own code maxL ret nm R l w Q) (hp : pc + 1 = pc') {x : Int32} (hd : decode code pc = .ok (.i2l, 1)) (hr : Run Z K ph h n1 n2 pc' ls (.long (x.toInt64) :: st)) : Run Z K ph h n1 n2 pc ls (.int x :: st) := by
  subst hp; exact rS ok hr fun p e below m c T A hx hby t => XS.i2l (g := mkF m pc ls (.int x :: st)) A hx rfl (hb hby hd) rfl
theorem r_l2i (ok : Ok Z K EL own code maxL ret nm R l w Q) (hp : pc + 1 = pc') {x : Int64} (hd : decode code pc = .ok (.l2i, 1)) (hr : Run Z K ph h n1 n2 pc' ls (.int (x.toInt32) :: st)) : Run Z K ph h n1 n2 pc ls (.long x :: st) := by
  subst hp; exact rS ok hr fun p e below m c T A hx hby t => XS.l2i (g := mkF m pc ls (.long x :: st)) A hx rfl (hb hby hd) rfl
theorem r_i2b (ok : Ok Z K EL own code maxL ret nm R l w Q) (hp : pc + 1 = pc') {x : Int32} (hd : decode code pc = .ok (.i2b, 1)) (hr : Run Z K ph h n1 n2 pc' ls (.int (x.toInt8.toInt32) :: st)) : Run Z K ph h n1 n2 pc ls (.int x :: st) := by
  subst hp; exact rS ok hr fun p e below m c T A hx hby t => XS.i2b (g := mkF m pc ls (.int x :: st)) A hx rfl (hb hby hd) rfl
theorem r_i2s (ok : Ok Z K EL own code maxL ret nm R l w Q) (hp : pc + 1 = pc') {x : Int32} (hd : decode code pc = .ok (.i2s, 1)) (hr : Run Z K ph h n1 n2 pc' ls (.int (x.toInt16.toInt32) :: st)) : Run Z K ph h n1 n2 pc ls (.int x :: st) := by
  subst hp; exact rS ok hr fun p e below m c T A hx hby t => XS.i2s (g := mkF m pc ls (.int x :: st)) A hx rfl (hb hby hd) rfl
theorem r_i2c (ok : Ok Z K EL own code maxL ret nm R l w Q) (hp : pc + 1 = pc') {x : Int32} (hd : decode code pc = .ok (.i2c, 1)) (hr : Run Z K ph h n1 n2 pc' ls (.int (x.toUInt32.toUInt16.toUInt32.toInt32) :: st)) : Run Z K ph h n1 n2 pc ls (.int x :: st) := by
  subst hp; exact rS ok hr fun p e below m c T A hx hby t => XS.i2c (g := mkF m pc ls (.int x :: st)) A hx rfl (hb hby hd) rfl
theorem r_iload (ok : Ok Z K EL own code maxL ret nm R l w Q) (hp : pc + 2 = pc') {k : Nat} {v : Int32} (hd : decode code pc = .ok (.iload k, 2)) (hl : ls[k]? = some (.val (.int v))) (hr : Run Z K ph h n1 n2 pc' ls (.int v :: st)) : Run Z K ph h n1 n2 pc ls st := by
  subst hp; exact rS ok hr fun p e below m c T A hx hby t => XS.iload (g := mkF m pc ls st) A hx rfl (hb hby hd) hl
theorem r_iloadN (ok : Ok Z K EL own code maxL ret nm R l w Q) (hp : pc + 1 = pc') {k : Fin 4} {v : Int32} (hd : decode code pc = .ok (.iload_n k, 1)) (hl : ls[k.val]? = some (.val (.int v))) (hr : Run Z K ph h n1 n2 pc' ls (.int v :: st)) : Run Z K ph h n1 n2 pc ls st := by
  subst hp; exact rS ok hr fun p e below m c T A hx hby t => XS.iloadN (g := mkF m pc ls st) A hx rfl (hb hby hd) hl
theorem r_istore (ok : Ok Z K EL own code maxL ret nm R l w Q) (hp : pc + 2 = pc') {x : Int32} {k : Nat} {ls' : Int32 → Array Slot} (hd : decode code pc = .ok (.istore k, 2)) (hl : ∀ z, storeLocals ls k (.int z) = some (ls' z)) (hr : ∀ z, z = x → Run Z K ph h n1 n2 pc' (ls' z) st) : Run Z K ph h n1 n2 pc ls (.int x :: st) := by
  subst hp; exact rS ok (hr x rfl) fun p e below m c T A hx hby t => XS.istore (g := mkF m pc ls (.int x :: st)) A hx rfl (hb hby hd) rfl (hl x)
theorem r_istoreN (ok : Ok Z K EL own code maxL ret nm R l w Q) (hp : pc + 1 = pc') {x : Int32} {k : Fin 4} {ls' : Int32 → Array Slot} (hd : decode code pc = .ok (.istore_n k, 1)) (hl : ∀ z, storeLocals ls k.val (.int z) = some (ls' z)) (hr : ∀ z, z = x → Run Z K ph h n1 n2 pc' (ls' z) st) : Run Z K ph h n1 n2 pc ls (.int x :: st) := by
  subst hp; exact rS ok (hr x rfl) fun p e below m c T A hx hby t => XS.istoreN (g := mkF m pc ls (.int x :: st)) A hx rfl (hb hby hd) rfl (hl x)
theorem r_lload (ok : Ok Z K EL own code maxL ret nm R l w Q) (hp : pc + 2 = pc') {k : Nat} {v : Int64} (hd : decode code pc = .ok (.lload k, 2)) (hl : ls[k]? = some (.val (.long v))) (hr : Run Z K ph h n1 n2 pc' ls (.long v :: st)) : Run Z K ph h n1 n2 pc ls st := by
  subst hp; exact rS ok hr fun p e below m c T A hx hby t => XS.lload (g := mkF m pc ls st) A hx rfl (hb hby hd) hl
theorem r_lloadN (ok : Ok Z K EL own code maxL ret nm R l w Q) (hp : pc + 1 = pc') {k : Fin 4} {v : Int64} (hd : decode code pc = .ok (.lload_n k, 1)) (hl : ls[k.val]? = some (.val (.long v))) (hr : Run Z K ph h n1 n2 pc' ls (.long v :: st)) : Run Z K ph h n1 n2 pc ls st := by
  subst hp; exact rS ok hr fun p e below m c T A hx hby t => XS.lloadN (g := mkF m pc ls st) A hx rfl (hb hby hd) hl
theorem r_lstore (ok : Ok Z K EL own code maxL ret nm R l w Q) (hp : pc + 2 = pc') {x : Int64} {k : Nat} {ls' : Int64 → Array Slot} (hd : decode code pc = .ok (.lstore k, 2)) (hl : ∀ z, storeLocals ls k (.long z) = some (ls' z)) (hr : ∀ z, z = x → Run Z K ph h n1 n2 pc' (ls' z) st) : Run Z K ph h n1 n2 pc ls (.long x :: st) := by
  subst hp; exact rS ok (hr x rfl) fun p e below m c T A hx hby t => XS.lstore (g := mkF m pc ls (.long x :: st)) A hx rfl (hb hby hd) rfl (hl x)
theorem r_lstoreN (ok : Ok Z K EL own code maxL ret nm R l w Q) (hp : pc + 1 = pc') {x : Int64} {k : Fin 4} {ls' : Int64 → Array Slot} (hd : decode code pc = .ok (.lstore_n k, 1)) (hl : ∀ z, storeLocals ls k.val (.long z) = some (ls' z)) (hr : ∀ z, z = x → Run Z K ph h n1 n2 pc' (ls' z) st) : Run Z K ph h n1 n2 pc ls (.long x :: st) := by
  subst hp; exact rS ok (hr x rfl) fun p e below m c T A hx hby t => XS.lstoreN (g := mkF m pc ls (.long x :: st)) A hx rfl (hb hby hd) rfl (hl x)
theorem r_astore (ok : Ok Z K EL own code maxL ret nm R l w Q) (hp : pc + 2 = pc') {x : Value} {k : Nat} {ls' : Array Slot} (hd : decode code pc = .ok (.astore k, 2)) (hv : x.isRef = true) (hl : storeLocals ls k x = some ls') (hr : Run Z K ph h n1 n2 pc' ls' st) : Run Z K ph h n1 n2 pc ls (x :: st) := by
  subst hp; exact rS ok hr fun p e below m c T A hx hby t => XS.astore (g := mkF m pc ls (x :: st)) A hx rfl (hb hby hd) rfl hv hl
theorem r_aload (ok : Ok Z K EL own code maxL ret nm R l w Q) (hp : pc + 2 = pc') {v : Value} {k : Nat} (hd : decode code pc = .ok (.aload k, 2)) (hl : ls[k]? = some (.val v)) (hv : v.isRef = true) (hr : Run Z K ph h n1 n2 pc' ls (v :: st)) : Run Z K ph h n1 n2 pc ls st := by
  subst hp; exact rS ok hr fun p e below m c T A hx hby t => XS.aload (g := mkF m pc ls st) A hx rfl (hb hby hd) hl hv
theorem r_astoreN (ok : Ok Z K EL own code maxL ret nm R l w Q) (hp : pc + 1 = pc') {x : Value} {k : Fin 4} {ls' : Array Slot} (hd : decode code pc = .ok (.astore_n k, 1)) (hv : x.isRef = true) (hl : storeLocals ls k.val x = some ls') (hr : Run Z K ph h n1 n2 pc' ls' st) : Run Z K ph h n1 n2 pc ls (x :: st) := by
  subst hp; exact rS ok hr fun p e below m c T A hx hby t => XS.astoreN (g := mkF m pc ls (x :: st)) A hx rfl (hb hby hd) rfl hv hl
theorem r_aloadN (ok : Ok Z K EL own code maxL ret nm R l w Q) (hp : pc + 1 = pc') {v : Value} {k : Fin 4} (hd : decode code pc = .ok (.aload_n k, 1)) (hl : ls[k.val]? = some (.val v)) (hv : v.isRef = true) (hr : Run Z K ph h n1 n2 pc' ls (v :: st)) : Run Z K ph h n1 n2 pc ls st := by
  subst hp; exact rS ok hr fun p e below m c T A hx hby t => XS.aloadN (g := mkF m pc ls st) A hx rfl (hb hby hd) hl hv
theorem r_iconst (ok : Ok Z K EL own code maxL ret nm R l w Q) (hp : pc + 1 = pc') {i : Int} (hd : decode code pc = .ok (.iconst i, 1)) (hr : Run Z K ph h n1 n2 pc' ls (.int (Int32.ofInt i) :: st)) : Run Z K ph h n1 n2 pc ls st := by
  subst hp; exact rS ok hr fun p e below m c T A hx hby t => XS.iconst (g := mkF m pc ls st) A hx rfl (hb hby hd)
theorem r_bipush (ok : Ok Z K EL own code maxL ret nm R l w Q) (hp : pc + 2 = pc') {i : Int} (hd : decode code pc = .ok (.bipush i, 2)) (hr : Run Z K ph h n1 n2 pc' ls (.int (Int8.ofInt i).toInt32 :: st)) : Run Z K ph h n1 n2 pc ls st := by
  subst hp; exact rS ok hr fun p e below m c T A hx hby t => XS.bipush (g := mkF m pc ls st) A hx rfl (hb hby hd)
theorem r_iconstV (ok : Ok Z K EL own code maxL ret nm R l w Q) (hp : pc + 1 = pc') (v : Int32) {i : Int} (hd : decode code pc = .ok (.iconst i, 1)) (hv : Int32.ofInt i = v) (hr : Run Z K ph h n1 n2 pc' ls (.int v :: st)) : Run Z K ph h n1 n2 pc ls st := by
  subst hp hv; exact rS ok hr fun p e below m c T A hx hby t => XS.iconst (g := mkF m pc ls st) A hx rfl (hb hby hd)
theorem r_bipushV (ok : Ok Z K EL own code maxL ret nm R l w Q) (hp : pc + 2 = pc') (v : Int32) {i : Int} (hd : decode code pc = .ok (.bipush i, 2)) (hv : (Int8.ofInt i).toInt32 = v) (hr : Run Z K ph h n1 n2 pc' ls (.int v :: st)) : Run Z K ph h n1 n2 pc ls st := by
  subst hp hv; exact rS ok hr fun p e below m c T A hx hby t => XS.bipush (g := mkF m pc ls st) A hx rfl (hb hby hd)
theorem r_sipushV (ok : Ok Z K EL own code maxL ret nm R l w Q) (hp : pc + 3 = pc') (v : Int32) {i : Int} (hd : decode code pc = .ok (.sipush i, 3)) (hv : (Int16.ofInt i).toInt32 = v) (hr : Run Z K ph h n1 n2 pc' ls (.int v :: st)) : Run Z K ph h n1 n2 pc ls st := by
  subst hp hv; exact rS ok hr fun p e below m c T A hx hby t => XS.sipush (g := mkF m pc ls st) A hx rfl (hb hby hd)
theorem r_lconst (ok : Ok Z K EL own code maxL ret nm R l w Q) (hp : pc + 1 = pc') (v : Int64) {k : Fin 2} (hd : decode code pc = .ok (.lconst k, 1)) (hv : (k.val : Nat).toInt64 = v) (hr : Run Z K ph h n1 n2 pc' ls (.long v :: st)) : Run Z K ph h n1 n2 pc ls st := by
  subst hp hv; exact rS ok hr fun p e below m c T A hx hby t => XS.lconst (g := mkF m pc ls st) A hx rfl (hb hby hd)
theorem r_aconst_null (ok : Ok Z K EL own code maxL ret nm R l w Q) (hp : pc + 1 = pc') (hd : decode code pc = .ok (.aconst_null, 1)) (hr : Run Z K ph h n1 n2 pc' ls (.null :: st)) : Run Z K ph h n1 n2 pc ls st := by
  subst hp; exact rS ok hr fun p e below m c T A hx hby t => XS.aconstNull (g := mkF m pc ls st) A hx rfl (hb hby hd)
theorem r_dup (ok : Ok Z K EL own code maxL ret nm R l w Q) (hp : pc + 1 = pc') {x : Value} (hd : decode code pc = .ok (.dup, 1)) (hc : x.category = 1) (hr : Run Z K ph h n1 n2 pc' ls (x :: x :: st)) : Run Z K ph h n1 n2 pc ls (x :: st) := by
  subst hp; exact rS ok hr fun p e below m c T A hx hby t => XS.dup (g := mkF m pc ls (x :: st)) A hx rfl (hb hby hd) rfl hc
theorem r_dup_x1 (ok : Ok Z K EL own code maxL ret nm R l w Q) (hp : pc + 1 = pc') {x y : Value} (hd : decode code pc = .ok (.dup_x1, 1)) (hc : x.category = 1) (hc' : y.category = 1) (hr : Run Z K ph h n1 n2 pc' ls (x :: y :: x :: st)) : Run Z K ph h n1 n2 pc ls (x :: y :: st) := by
  subst hp; exact rS ok hr fun p e below m c T A hx hby t => XS.dupX1 (g := mkF m pc ls (x :: y :: st)) A hx rfl (hb hby hd) rfl hc hc'
theorem r_dup2 (ok : Ok Z K EL own code maxL ret nm R l w Q) (hp : pc + 1 = pc') {x y : Value} (hd : decode code pc = .ok (.dup2, 1)) (hc : x.category = 1) (hc' : y.category = 1) (hr : Run Z K ph h n1 n2 pc' ls (x :: y :: x :: y :: st)) : Run Z K ph h n1 n2 pc ls (x :: y :: st) := by
  subst hp; exact rS ok hr fun p e below m c T A hx hby t => XT.dup2 (g := mkF m pc ls (x :: y :: st)) A hx rfl (hb hby hd) rfl hc hc'
theorem r_dup2L (ok : Ok Z K EL own code maxL ret nm R l w Q) (hp : pc + 1 = pc') {x : Int64} (hd : decode code pc = .ok (.dup2, 1)) (hr : Run Z K ph h n1 n2 pc' ls (.long x :: .long x :: st)) : Run Z K ph h n1 n2 pc ls (.long x :: st) := by
  subst hp; exact rS ok hr fun p e below m c T A hx hby t => XT.dup2L (g := mkF m pc ls (.long x :: st)) A hx rfl (hb hby hd) rfl
theorem r_pop (ok : Ok Z K EL own code maxL ret nm R l w Q) (hp : pc + 1 = pc') {x : Value} (hd : decode code pc = .ok (.pop, 1)) (hc : x.category = 1) (hr : Run Z K ph h n1 n2 pc' ls st) : Run Z K ph h n1 n2 pc ls (x :: st) := by
  subst hp; exact rS ok hr fun p e below m c T A hx hby t => XS.pop (g := mkF m pc ls (x :: st)) A hx rfl (hb hby hd) rfl hc
theorem r_lcmp (ok : Ok Z K EL own code maxL ret nm R l w Q) (hp : pc + 1 = pc') {x y : Int64} (hd : decode code pc = .ok (.lcmp, 1)) (hr : Run Z K ph h n1 n2 pc' ls (.int (lcmpW x y) :: st)) : Run Z K ph h n1 n2 pc ls (.long y :: .long x :: st) := by
  subst hp; exact rS ok hr fun p e below m c T A hx hby t => XS.lcmp (g := mkF m pc ls (.long y :: .long x :: st)) A hx rfl (hb hby hd) rfl
theorem r_idiv (ok : Ok Z K EL own code maxL ret nm R l w Q) (hp : pc + 1 = pc') {x y : Int32} (hd : decode code pc = .ok (.idiv, 1)) (hy : y ≠ 0) (hr : Run Z K ph h n1 n2 pc' ls (.int (x / y) :: st)) : Run Z K ph h n1 n2 pc ls (.int y :: .int x :: st) := by
  subst hp; exact rS ok hr fun p e below m c T A hx hby t => XS.idiv (g := mkF m pc ls (.int y :: .int x :: st)) A hx rfl (hb hby hd) rfl hy
theorem r_iinc (ok : Ok Z K EL own code maxL ret nm R l w Q) (hp : pc + 3 = pc') {k : Nat} {cst : Int} {x : Int32} {ls' : Int32 → Array Slot} (hd : decode code pc = .ok (.iinc k cst, 3)) (hl : ls[k]? = some (.val (.int x))) (hl' : ∀ z, storeLocals ls k (.int z) = some (ls' z)) (hr : ∀ z, z = x + Int32.ofInt cst → Run Z K ph h n1 n2 pc' (ls' z) st) : Run Z K ph h n1 n2 pc ls st := by
  subst hp; exact rS ok (hr _ rfl) fun p e below m c T A hx hby t => XS.iinc (g := mkF m pc ls st) A hx rfl (hb hby hd) hl (hl' _)
theorem r_goto (ok : Ok Z K EL own code maxL ret nm R l w Q) {o : Int} (hd : decode code pc = .ok (.goto o, 3)) (ho : 0 ≤ (pc : Int) + o) (hp : ((pc : Int) + o).toNat = pc') (hr : Run Z K ph h n1 n2 pc' ls st) : Run Z K ph h n1 n2 pc ls st := by
  exact rS ok hr fun p e below m c T A hx hby t => XS.goto (g := mkF m pc ls st) A hx rfl rfl (hb hby hd) ho hp
theorem r_icmp_eq (ok : Ok Z K EL own code maxL ret nm R l w Q) (hp : pc + 3 = pc') {x y : Int32} {o : Int} (hd : decode code pc = .ok (.if_icmp .eq o, 3)) (ho : 0 ≤ (pc : Int) + o) (hq : ((pc : Int) + o).toNat = pcY) (hy : x = y → Run Z K ph h n1 n2 pcY ls st) (hn : ¬ x = y → Run Z K ph h n1 n2 pc' ls st) : Run Z K ph h n1 n2 pc ls (.int y :: .int x :: st) := by
  subst hp
  by_cases q : x = y
  · exact rS ok (hy q) fun p e below m c T A hx hby t => XS.icmpYes (g := mkF m pc ls (.int y :: .int x :: st)) A hx rfl rfl (hb hby hd) rfl (teq q).1 ho hq
  · exact rS ok (hn q) fun p e below m c T A hx hby t => XS.icmpNo (g := mkF m pc ls (.int y :: .int x :: st)) A hx rfl (hb hby hd) rfl (feq q).1
theorem r_if_eq (ok : Ok Z K EL own code maxL ret nm R l w Q) (hp : pc + 3 = pc') {x : Int32} {o : Int} (hd : decode code pc = .ok (.ifCond .eq o, 3)) (ho : 0 ≤ (pc : Int) + o) (hq : ((pc : Int) + o).toNat = pcY) (hy : x = (0 : Int32) → Run Z K ph h n1 n2 pcY ls st) (hn : ¬ x = (0 : Int32) → Run Z K ph h n1 n2 pc' ls st) : Run Z K ph h n1 n2 pc ls (.int x :: st) := by
  subst hp
  by_cases q : x = (0 : Int32)
  · exact rS ok (hy q) fun p e below m c T A hx hby t => XS.ifYes (g := mkF m pc ls (.int x :: st)) A hx rfl rfl (hb hby hd) rfl ((if0 _ _).trans (teq q).1) ho hq
  · exact rS ok (hn q) fun p e below m c T A hx hby t => XS.ifNo (g := mkF m pc ls (.int x :: st)) A hx rfl (hb hby hd) rfl ((if0 _ _).trans (feq q).1)
theorem r_icmp_ne (ok : Ok Z K EL own code maxL ret nm R l w Q) (hp : pc + 3 = pc') {x y : Int32} {o : Int} (hd : decode code pc = .ok (.if_icmp .ne o, 3)) (ho : 0 ≤ (pc : Int) + o) (hq : ((pc : Int) + o).toNat = pcY) (hy : ¬ x = y → Run Z K ph h n1 n2 pcY ls st) (hn : x = y → Run Z K ph h n1 n2 pc' ls st) : Run Z K ph h n1 n2 pc ls (.int y :: .int x :: st) := by
  subst hp
  by_cases q : x = y
  · exact rS ok (hn q) fun p e below m c T A hx hby t => XS.icmpNo (g := mkF m pc ls (.int y :: .int x :: st)) A hx rfl (hb hby hd) rfl (teq q).2
  · exact rS ok (hy q) fun p e below m c T A hx hby t => XS.icmpYes (g := mkF m pc ls (.int y :: .int x :: st)) A hx rfl rfl (hb hby hd) rfl (feq q).2 ho hq
theorem r_if_ne (ok : Ok Z K EL own code maxL ret nm R l w Q) (hp : pc + 3 = pc') {x : Int32} {o : Int} (hd : decode code pc = .ok (.ifCond .ne o, 3)) (ho : 0 ≤ (pc : Int) + o) (hq : ((pc : Int) + o).toNat = pcY) (hy : ¬ x = (0 : Int32) → Run Z K ph h n1 n2 pcY ls st) (hn : x = (0 : Int32) → Run Z K ph h n1 n2 pc' ls st) : Run Z K ph h n1 n2 pc ls (.int x :: st) := by
  subst hp
  by_cases q : x = (0 : Int32)
  · exact rS ok (hn q) fun p e below m c T A hx hby t => XS.ifNo (g := mkF m pc ls (.int x :: st)) A hx rfl (hb hby hd) rfl ((if0 _ _).trans (teq q).2)
  · exact rS ok (hy q) fun p e below m c T A hx hby t => XS.ifYes (g := mkF m pc ls (.int x :: st)) A hx rfl rfl (hb hby hd) rfl ((if0 _ _).trans (feq q).2) ho hq
theorem r_icmp_lt (ok : Ok Z K EL own code maxL ret nm R l w Q) (hp : pc + 3 = pc') {x y : Int32} {o : Int} (hd : decode code pc = .ok (.if_icmp .lt o, 3)) (ho : 0 ≤ (pc : Int) + o) (hq : ((pc : Int) + o).toNat = pcY) (hy : x < y → Run Z K ph h n1 n2 pcY ls st) (hn : ¬ x < y → Run Z K ph h n1 n2 pc' ls st) : Run Z K ph h n1 n2 pc ls (.int y :: .int x :: st) := by
  subst hp
  by_cases q : x < y
  · exact rS ok (hy q) fun p e below m c T A hx hby t => XS.icmpYes (g := mkF m pc ls (.int y :: .int x :: st)) A hx rfl rfl (hb hby hd) rfl (tlt q).1 ho hq
  · exact rS ok (hn q) fun p e below m c T A hx hby t => XS.icmpNo (g := mkF m pc ls (.int y :: .int x :: st)) A hx rfl (hb hby hd) rfl (flt q).1
theorem r_if_lt (ok : Ok Z K EL own code maxL ret nm R l w Q) (hp : pc + 3 = pc') {x : Int32} {o : Int} (hd : decode code pc = .ok (.ifCond .lt o, 3)) (ho : 0 ≤ (pc : Int) + o) (hq : ((pc : Int) + o).toNat = pcY) (hy : x < (0 : Int32) → Run Z K ph h n1 n2 pcY ls st) (hn : ¬ x < (0 : Int32) → Run Z K ph h n1 n2 pc' ls st) : Run Z K ph h n1 n2 pc ls (.int x :: st) := by
  subst hp
  by_cases q : x < (0 : Int32)
  · exact rS ok (hy q) fun p e below m c T A hx hby t => XS.ifYes (g := mkF m pc ls (.int x :: st)) A hx rfl rfl (hb hby hd) rfl ((if0 _ _).trans (tlt q).1) ho hq
  · exact rS ok (hn q) fun p e below m c T A hx hby t => XS.ifNo (g := mkF m pc ls (.int x :: st)) A hx rfl (hb hby hd) rfl ((if0 _ _).trans (flt q).1)
theorem r_icmp_ge (ok : Ok Z K EL own code maxL ret nm R l w Q) (hp : pc + 3 = pc') {x y : Int32} {o : Int} (hd : decode code pc = .ok (.if_icmp .ge o, 3)) (ho : 0 ≤ (pc : Int) + o) (hq : ((pc : Int) + o).toNat = pcY) (hy : ¬ x < y → Run Z K ph h n1 n2 pcY ls st) (hn : x < y → Run Z K ph h n1 n2 pc' ls st) : Run Z K ph h n1 n2 pc ls (.int y :: .int x :: st) := by
  subst hp
  by_cases q : x < y
  · exact rS ok (hn q) fun p e below m c T A hx hby t => XS.icmpNo (g := mkF m pc ls (.int y :: .int x :: st)) A hx rfl (hb hby hd) rfl (tlt q).2.1
  · exact rS ok (hy q) fun p e below m c T A hx hby t => XS.icmpYes (g := mkF m pc ls (.int y :: .int x :: st)) A hx rfl rfl (hb hby hd) rfl (flt q).2.1 ho hq
theorem r_if_ge (ok : Ok Z K EL own code maxL ret nm R l w Q) (hp : pc + 3 = pc') {x : Int32} {o : Int} (hd : decode code pc = .ok (.ifCond .ge o, 3)) (ho : 0 ≤ (pc : Int) + o) (hq : ((pc : Int) + o).toNat = pcY) (hy : ¬ x < (0 : Int32) → Run Z K ph h n1 n2 pcY ls st) (hn : x < (0 : Int32) → Run Z K ph h n1 n2 pc' ls st) : Run Z K ph h n1 n2 pc ls (.int x :: st) := by
  subst hp
  by_cases q : x < (0 : Int32)
  · exact rS ok (hn q) fun p e below m c T A hx hby t => XS.ifNo (g := mkF m pc ls (.int x :: st)) A hx rfl (hb hby hd) rfl ((if0 _ _).trans (tlt q).2.1)
  · exact rS ok (hy q) fun p e below m c T A hx hby t => XS.ifYes (g := mkF m pc ls (.int x :: st)) A hx rfl rfl (hb hby hd) rfl ((if0 _ _).trans (flt q).2.1) ho hq
theorem r_icmp_gt (ok : Ok Z K EL own code maxL ret nm R l w Q) (hp : pc + 3 = pc') {x y : Int32} {o : Int} (hd : decode code pc = .ok (.if_icmp .gt o, 3)) (ho : 0 ≤ (pc : Int) + o) (hq : ((pc : Int) + o).toNat = pcY) (hy : y < x → Run Z K ph h n1 n2 pcY ls st) (hn : ¬ y < x → Run Z K ph h n1 n2 pc' ls st) : Run Z K ph h n1 n2 pc ls (.int y :: .int x :: st) := by
  subst hp
  by_cases q : y < x
  · exact rS ok (hy q) fun p e below m c T A hx hby t => XS.icmpYes (g := mkF m pc ls (.int y :: .int x :: st)) A hx rfl rfl (hb hby hd) rfl (tlt q).2.2.1 ho hq
  · exact rS ok (hn q) fun p e below m c T A hx hby t => XS.icmpNo (g := mkF m pc ls (.int y :: .int x :: st)) A hx rfl (hb hby hd) rfl (flt q).2.2.1
theorem r_if_gt (ok : Ok Z K EL own code maxL ret nm R l w Q) (hp : pc + 3 = pc') {x : Int32} {o : Int} (hd : decode code pc = .ok (.ifCond .gt o, 3)) (ho : 0 ≤ (pc : Int) + o) (hq : ((pc : Int) + o).toNat = pcY) (hy : (0 : Int32) < x → Run Z K ph h n1 n2 pcY ls st) (hn : ¬ (0 : Int32) < x → Run Z K ph h n1 n2 pc' ls st) : Run Z K ph h n1 n2 pc ls (.int x :: st) := by
  subst hp
  by_cases q : (0 : Int32) < x
  · exact rS ok (hy q) fun p e below m c T A hx hby t => XS.ifYes (g := mkF m pc ls (.int x :: st)) A hx rfl rfl (hb hby hd) rfl ((if0 _ _).trans (tlt q).2.2.1) ho hq
  · exact rS ok (hn q) fun p e below m c T A hx hby t => XS.ifNo (g := mkF m pc ls (.int x :: st)) A hx rfl (hb hby hd) rfl ((if0 _ _).trans (flt q).2.2.1)
theorem r_icmp_le (ok : Ok Z K EL own code maxL ret nm R l w Q) (hp : pc + 3 = pc') {x y : Int32} {o : Int} (hd : decode code pc = .ok (.if_icmp .le o, 3)) (ho : 0 ≤ (pc : Int) + o) (hq : ((pc : Int) + o).toNat = pcY) (hy : ¬ y < x → Run Z K ph h n1 n2 pcY ls st) (hn : y < x → Run Z K ph h n1 n2 pc' ls st) : Run Z K ph h n1 n2 pc ls (.int y :: .int x :: st) := by
  subst hp
  by_cases q : y < x
  · exact rS ok (hn q) fun p e below m c T A hx hby t => XS.icmpNo (g := mkF m pc ls (.int y :: .int x :: st)) A hx rfl (hb hby hd) rfl (tlt q).2.2.2
  · exact rS ok (hy q) fun p e below m c T A hx hby t => XS.icmpYes (g := mkF m pc ls (.int y :: .int x :: st)) A hx rfl rfl (hb hby hd) rfl (flt q).2.2.2 ho hq
theorem r_if_le (ok : Ok Z K EL own code maxL ret nm R l w Q) (hp : pc + 3 = pc') {x : Int32} {o : Int} (hd : decode code pc = .ok (.ifCond .le o, 3)) (ho : 0 ≤ (pc : Int) + o) (hq : ((pc : Int) + o).toNat = pcY) (hy : ¬ (0 : Int32) < x → Run Z K ph h n1 n2 pcY ls st) (hn : (0 : Int32) < x → Run Z K ph h n1 n2 pc' ls st) : Run Z K ph h n1 n2 pc ls (.int x :: st) := by
  subst hp
  by_cases q : (0 : Int32) < x
  · exact rS ok (hn q) fun p e below m c T A hx hby t => XS.ifNo (g := mkF m pc ls (.int x :: st)) A hx rfl (hb hby hd) rfl ((if0 _ _).trans (tlt q).2.2.2)
  · exact rS ok (hy q) fun p e below m c T A hx hby t => XS.ifYes (g := mkF m pc ls (.int x :: st)) A hx rfl rfl (hb hby hd) rfl ((if0 _ _).trans (flt q).2.2.2) ho hq
theorem r_ifnull_null (ok : Ok Z K EL own code maxL ret nm R l w Q)  {o : Int} (hd : decode code pc = .ok (.ifnull o, 3)) (ho : 0 ≤ (pc : Int) + o) (hp : ((pc : Int) + o).toNat = pc') (hr : Run Z K ph h n1 n2 pc' ls st) : Run Z K ph h n1 n2 pc ls (.null :: st) := by
  exact rS ok hr fun p e below m c T A hx hby t => XS.ifnullYes (g := mkF m pc ls (.null :: st)) A hx rfl rfl (hb hby hd) rfl ho hp
theorem r_ifnull_ref (ok : Ok Z K EL own code maxL ret nm R l w Q) (hp : pc + 3 = pc') {b : Addr} {o : Int} (hd : decode code pc = .ok (.ifnull o, 3)) (hr : Run Z K ph h n1 n2 pc' ls st) : Run Z K ph h n1 n2 pc ls (.ref b :: st) := by
  subst hp; exact rS ok hr fun p e below m c T A hx hby t => XS.ifnullNo (g := mkF m pc ls (.ref b :: st)) A hx rfl (hb hby hd) rfl
theorem r_ifnonnull_null (ok : Ok Z K EL own code maxL ret nm R l w Q) (hp : pc + 3 = pc')  {o : Int} (hd : decode code pc = .ok (.ifnonnull o, 3)) (hr : Run Z K ph h n1 n2 pc' ls st) : Run Z K ph h n1 n2 pc ls (.null :: st) := by
  subst hp; exact rS ok hr fun p e below m c T A hx hby t => XS.ifnonnullNo (g := mkF m pc ls (.null :: st)) A hx rfl (hb hby hd) rfl
theorem r_ifnonnull_ref (ok : Ok Z K EL own code maxL ret nm R l w Q) {b : Addr} {o : Int} (hd : decode code pc = .ok (.ifnonnull o, 3)) (ho : 0 ≤ (pc : Int) + o) (hp : ((pc : Int) + o).toNat = pc') (hr : Run Z K ph h n1 n2 pc' ls st) : Run Z K ph h n1 n2 pc ls (.ref b :: st) := by
  exact rS ok hr fun p e below m c T A hx hby t => XS.ifnonnullYes (g := mkF m pc ls (.ref b :: st)) A hx rfl rfl (hb hby hd) rfl ho hp

theorem endW_mono {s t : State} {o : Outcome} {L : List Loc} {k n k' n' : Nat} (h : EndW w s o t L k n) (hk : k ≤ k') (hn : n ≤ n') : EndW w s o t L k' n' := by
  cases w
  · exact ⟨h.1, h.2.1, h.2.2.mono hk hn⟩
  · exact ⟨h.1, h.2.1, h.2.2.1, h.2.2.2.mono hk hn⟩
/-- the end of a walk -/
theorem rEnd (ok : Ok Z K EL own code maxL ret nm R l w Q) {v : Option Value} (hv : ret = none → v = none) (hq : Q v h) (hc : n1 ≤ R.cells) (hn : n2 ≤ R.slots) (hcl : w = true ∨ (∀ s v, ph s v → v = s.vm))
    (f : ∀ (p : Program) (e : Env) (s : State) (m : MethodId) (args : Array Value) (below : List Frame) (meth : Method) (c : Code) (T : State) (locs : List Loc), Stand p l e R s m args below meth c T locs n1 n2 → p.tables.exec = Jvm.exec → c.code = code → meth.sig.returnType = ret → ∀ fs, (∀ (g : JFrame) (acts : List Action), g.method = m → g.locked = none → g.entered = [] → (doReturn e (T.setTop g) acts v).1 = T.setFrames fs) →
      Steps p.tables e below (T.setTop (mkF m pc ls st)) (T.setFrames fs)) : Run Z K ph h n1 n2 pc ls st := by
  obtain ⟨p, l1, e, R1, s, m, args, below, meth, c, w1, Q1⟩ := K
  obtain ⟨hx, hby, hml, ho, hret, hlk, hnm, rfl, rfl, rfl, rfl, hCH⟩ := ok
  intro T X W
  obtain ⟨vm0, k0, locs, S, hS, hk, hZ, hF, eT, hw⟩ := W
  have hsz : s.heap.size ≤ T.heap.size := S.same.2.1
  cases w1
  · obtain rfl := (hcl.resolve_left (fun q => nomatch q)) _ _ hw
    obtain ⟨fs, hr, hrun, hended, hW, hsame⟩ := S.leave (v := v) (fun q => hv (hret ▸ q)) hlk
    exact ⟨_, _, f p e _ m args below meth c T locs S hx hby hret fs hr, hrun, hended, v, locs, rfl, ⟨by show Q1 v T.heap; rw [eT]; exact hq, hF, by show Ext Z.heap T.heap; rw [eT]; exact X, hsz⟩, ⟨_, rfl⟩, hW, State.sameButNew.mono hsame hc hn⟩
  · obtain ⟨fs, hr, hrun, hended, hE⟩ := S.leaveW hS hk (v := v) (fun q => hv (hret ▸ q)) hlk
    exact ⟨_, _, f p e _ m args below meth c T locs S hx hby hret fs hr, hrun, hended, v, locs, rfl, ⟨by show Q1 v T.heap; rw [eT]; exact hq, hF, by show Ext Z.heap T.heap; rw [eT]; exact X, hsz⟩, hE.1, hE.2.1, hE.2.2.1, State.sameButNew.mono hE.2.2.2 hc hn⟩
theorem r_return {Q' : Heap → Prop} (ok : Ok Z K EL own code maxL none nm R l w (rU Q')) (hd : decode code pc = .ok (.return_, 1)) (hq : Q' h) (hc : n1 ≤ R.cells) (hn : n2 ≤ R.slots) (hcl : w = true ∨ (∀ s v, ph s v → v = s.vm) := by first | exact Or.inl rfl | exact Or.inr (fun _ _ q => q)) : Run Z K ph h n1 n2 pc ls [] :=
  rEnd ok (v := none) (fun _ => rfl) ⟨rfl, hq⟩ hc hn hcl fun p e s m args below meth c T locs S hx hby hret fs hr => S.returnOut hx hret (hb hby hd) hr
theorem r_ret {t : FieldType} {i : Instr} {x : Value} {Q' : Value → Heap → Prop} (ok : Ok Z K EL own code maxL (some t) nm R l w (rV Q')) (hd : decode code pc = .ok (i, 1)) (hnr : narrow t x = x)
    (hi : (i = .ireturn ∧ (t = .int ∨ t = .boolean ∨ t = .byte ∨ t = .char ∨ t = .short) ∧ ∃ z, x = .int z) ∨ (i = .lreturn ∧ t = .long ∧ ∃ z, x = .long z) ∨ (i = .dreturn ∧ t = .double ∧ ∃ z, x = .double z) ∨ (i = .freturn ∧ t = .float ∧ ∃ z, x = .float z) ∨ (i = .areturn ∧ t.isReference = true ∧ x.isRef = true))
    (hc : n1 ≤ R.cells) (hn : n2 ≤ R.slots) (hq : Q' x h) (hcl : w = true ∨ (∀ s v, ph s v → v = s.vm) := by first | exact Or.inl rfl | exact Or.inr (fun _ _ q => q)) : Run Z K ph h n1 n2 pc ls (x :: st) :=
  rEnd ok (v := some x) (fun q => nomatch q) ⟨x, rfl, hq⟩ hc hn hcl fun p e s m args below meth c T locs S hx hby hret fs hr => retOut S hx hret hnr hi (hb hby hd) hr
theorem r_ireturn {t : FieldType} {z : Int32} {Q' : Value → Heap → Prop} (ok : Ok Z K EL own code maxL (some t) nm R l w (rV Q')) (hd : decode code pc = .ok (.ireturn, 1)) (hnr : narrow t (.int z) = .int z) (ht : t = .int ∨ t = .boolean ∨ t = .byte ∨ t = .char ∨ t = .short) (hc : n1 ≤ R.cells) (hn : n2 ≤ R.slots) (hq : Q' (.int z) h) (hcl : w = true ∨ (∀ s v, ph s v → v = s.vm) := by first | exact Or.inl rfl | exact Or.inr (fun _ _ q => q)) : Run Z K ph h n1 n2 pc ls (.int z :: st) :=
  r_ret ok hd hnr (Or.inl ⟨rfl, ht, z, rfl⟩) hc hn hq hcl
theorem r_areturn {t : FieldType} {x : Value} {Q' : Value → Heap → Prop} (ok : Ok Z K EL own code maxL (some t) nm R l w (rV Q')) (hd : decode code pc = .ok (.areturn, 1)) (hnr : narrow t x = x) (ht : t.isReference = true) (hx : x.isRef = true) (hc : n1 ≤ R.cells) (hn : n2 ≤ R.slots) (hq : Q' x h) (hcl : w = true ∨ (∀ s v, ph s v → v = s.vm) := by first | exact Or.inl rfl | exact Or.inr (fun _ _ q => q)) : Run Z K ph h n1 n2 pc ls (x :: st) :=
  r_ret ok hd hnr (Or.inr (Or.inr (Or.inr (Or.inr ⟨rfl, ht, hx⟩)))) hc hn hq hcl
theorem r_lreturn {z : Int64} {Q' : Value → Heap → Prop} (ok : Ok Z K EL own code maxL (some .long) nm R l w (rV Q')) (hd : decode code pc = .ok (.lreturn, 1)) (hc : n1 ≤ R.cells) (hn : n2 ≤ R.slots) (hq : Q' (.long z) h) (hcl : w = true ∨ (∀ s v, ph s v → v = s.vm) := by first | exact Or.inl rfl | exact Or.inr (fun _ _ q => q)) : Run Z K ph h n1 n2 pc ls (.long z :: st) :=
  r_ret ok hd rfl (Or.inr (Or.inl ⟨rfl, rfl, z, rfl⟩)) hc hn hq hcl
/-- the beginning of a walk -/
theorem body {y : MethodName} {ws : List Jvm.Cond} {as : Array Value} (pn : plainFor y = true) (ent : ∀ m, entryFrame m as maxL = mkF m 0 ls []) (run : ∀ K, Ok Z K EL y.cls code maxL ret y.name R l w Q → Run Z K Cln h 0 0 0 ls []) : Con l Z EL ws w y code maxL ret R as h Q := by
  intro X
  refine MetFree.of_bodySF pn hisR ?_
  intro p e s m args below meth c s₁ Bd hml0 hP hK
  obtain ⟨rfl, hZ, hh, hCH⟩ := hP
  have hown : s.vm.findClass y.cls = some m.cls := findClass_of_methodNamed Bd.named
  have hnm := (name_of_methodNamed Bd.named Bd.method).1
  have X0 : Stand p l e R s m args below meth c s₁ [] 0 0 := Stand.of_body Bd
  have e0 : s₁.heap = h := by rw [← hh, Bd.state]; rfl
  have ok : Ok Z (p, l, e, R, s, m, args, below, meth, c, w, Q) EL y.cls code maxL ret y.name R l w Q :=
    ⟨Bd.exec, Bd.bytes, hml0, fun vm0 hv => by rw [hv.alike.findClass, ← hZ.alike.findClass]; exact hown, Bd.returns, Bd.notSynchronized, hnm, rfl, rfl, rfl, rfl, hCH⟩
  obtain ⟨s₂, o, h1, h2, h3, v, L, rfl, h4, h5⟩ := run _ ok s₁ X ⟨s.vm, 0, [], X0, (State.WarmedH.refl s).since 0, Nat.zero_le _, hZ, Fr.nil _, e0, rfl⟩
  exact ⟨s₂, _, castTop (ent m) h1, h2, h3, v, L, rfl, by rw [← hh]; exact h4, h5⟩
theorem Con.pay {y : MethodName} {bytes : ByteArray} {mL : Nat} {rt : Option FieldType} {R' : Room} {as : Array Value} {w' : Bool} {Q' : Option Value → Heap → Prop} {len W : Nat} (con : Con l Z EL [] w' y bytes mL rt R' as h Q') (hEL : EW Z a0 EL) (wc : (Jvm.Cond.code y bytes mL rt).before a0 Z = true) (wz : (Jvm.Cond.initialized y.cls).before a0 Z = true) (hf : R'.frames + 1 ≤ R.frames) (hl : W + (mL + 11) + R'.locals ≤ R.locals) :
    Pay Z EL w' l R y len W as h R'.cells R'.slots Q' := by
  cases w'
  · intro p e below s args hZ H X
    exact Back.of_free (bytes := bytes) (maxL := mL) (ret := rt) (E := fun _ _ o t L k n => k = R'.cells ∧ n = R'.slots ∧ ∃ v, o = .returned v ∧ Pst Z h.size Q' v t.heap L) (con X) hf hl
      (fun m meth c A a Y hp => have hU : Z.Warmed39 A.U.vm := wtrans hZ Y.warmed
        ⟨by show (Jvm.Cond.and _ .tt).before a A.U = true; rw [Cond.before_and, mv hU wc]; rfl, mv hU wc, mv hU wz, hp.2.2.1, hp.2.2.2⟩)
      (fun m meth c A a g mk Y hp => ⟨hp.1, wtrans hZ Y.warmed, hp.2.1, (CHv.at (vm0 := s.vm) (s := s) Y hZ hEL H).1⟩) (fun _ _ _ _ _ _ _ _ _ => trivial)
      (fun _ _ _ _ ⟨v, L, h1, h2, h3⟩ => ⟨L, _, _, h3, rfl, rfl, v, h1, h2⟩)
      (fun m meth c A a g mk v t L k n Y hp _ _ ⟨e1, e2, v', e3, e4⟩ => by cases e3; subst e1 e2; exact ⟨L, e4, rfl, rfl, rfl⟩)
  · intro p e below s args hZ H X
    exact BackS.of_freeW (bytes := bytes) (maxL := mL) (ret := rt) (E := fun _ _ o t L k n => k = R'.cells ∧ n = R'.slots ∧ ∃ v, o = .returned v ∧ Pst Z h.size Q' v t.heap L) (con X) hf hl
      (fun m meth c A a Y hp => have hU : Z.Warmed39 A.U.vm := wtrans hZ Y.warmed
        ⟨by show (Jvm.Cond.and _ .tt).before a A.U = true; rw [Cond.before_and, mv hU wc]; rfl, mv hU wc, mv hU wz, hp.2.2.1, hp.2.2.2⟩)
      (fun m meth c A a g mk Y hp => ⟨hp.1, wtrans hZ Y.warmed, hp.2.1, (CHv.at (vm0 := s.vm) (s := s) Y hZ hEL H).1⟩) (fun _ _ _ _ _ _ _ _ _ => trivial)
      (fun _ _ _ _ ⟨v, L, h1, h2, h3⟩ => ⟨L, _, _, h3, rfl, rfl, v, h1, h2⟩)
      (fun m meth c A a g mk v t L k n Y hp _ _ ⟨e1, e2, v', e3, e4⟩ => by cases e3; subst e1 e2; exact ⟨L, e4, rfl, rfl, rfl⟩)

theorem st1 {ls ls' : Array Slot} {i : Nat} {o : Slot} {v : Value} (ho : One o) (hold : ls[i]? = some o) (hv : v.category = 1) (e : ls.setIfInBounds i (.val v) = ls') : storeLocals ls i v = some ls' := by rw [XS.store1 hold ho hv, e]
theorem ext_wr {h' : Heap} {a : Addr} {sl : Nat} {v : Value} (X : Ext Z.heap h) (W : Wr h h' a sl v) (g : Z.heap.size ≤ a) : Ext Z.heap h' :=
  (Old.wr (n0 := Z.heap.size) ⟨rfl, X⟩ W g).2
theorem ext_keep {h' : Heap} {ws : List Addr} (X : Ext Z.heap h) (K : Keep h h' ws) (q : ∀ x ∈ ws, Z.heap.size ≤ x) : Ext Z.heap h' :=
  (Old.keep (n0 := Z.heap.size) ⟨rfl, X⟩ K q).2
theorem ext_trans {h1 h2 h3 : Heap} (A : Ext h1 h2) (B : Ext h2 h3) : Ext h1 h3 := ⟨Nat.le_trans A.1 B.1, fun a c q => B.2 a c (A.2 a c q)⟩
theorem r_irem (ok : Ok Z K EL own code maxL ret nm R l w Q) (hp : pc + 1 = pc') {x y : Int32} (hd : decode code pc = .ok (.irem, 1)) (hy : y ≠ 0) (hr : Run Z K ph h n1 n2 pc' ls (.int (x % y) :: st)) : Run Z K ph h n1 n2 pc ls (.int y :: .int x :: st) := by
  subst hp; exact rX ok hr fun p e s m args below meth c T locs X hx hby hZ ho eT t => iremM (g := mkF m pc ls (.int y :: .int x :: st)) X hx rfl (hb hby hd) rfl hy
theorem r_new (ok : Ok Z K EL own code maxL ret nm R l w Q) (hp : pc + 3 = pc') {C : String} {idx k : Nat} (hd : decode code pc = .ok (.new idx, 3)) (w1 : (Jvm.Cond.classLink own idx C).before a0 Z = true) (w2 : (Jvm.Cond.instantiable C k).before a0 Z = true) (w3 : (Jvm.Cond.initialized C).before a0 Z = true) (hc : n1 + 1 ≤ R.cells) (hn : n2 + k ≤ R.slots)
    (hr : ∀ h' a, a = h.size → Z.heap.size ≤ a → Ext h h' → Exa Z h' a C → (∀ {O nm d : String} {ty : FieldType}, Laid Z a0 C O nm d → parseFieldDescriptor d = some ty → Fld Z h' a O nm d (defaultValue ty)) → Run Z K ph h' (n1 + 1) (n2 + k) pc' ls (.ref a :: st)) : Run Z K ph h n1 n2 pc ls st := by
  subst hp
  refine r_old fun X0 => ?_
  refine rH ok (P := fun h' => Ext h h' ∧ Exa Z h' h.size C ∧ (∀ {O nm d : String} {ty : FieldType}, Laid Z a0 C O nm d → parseFieldDescriptor d = some ty → Fld Z h' h.size O nm d (defaultValue ty))) (m1 := n1 + 1) (m2 := n2 + k) (fun p e s m args below meth c T locs X hx hby hml hZ ho hnm eT X0 => ?_) (fun h' q => hr h' _ rfl X0.1 q.1 q.2.1 q.2.2)
  obtain ⟨T', h', X', e', E, A, D, -, st'⟩ := newO X hx hZ ho w1 w2 w3 eT (g := mkF m pc ls st) rfl (hb hby hd) hc hn
  exact ⟨T', h', [], by rw [List.append_nil]; exact X', e', Fr.nil _, E.1, ext_trans X0 E, ⟨E, A, D⟩, st'⟩
theorem r_newarray (ok : Ok Z K EL own code maxL ret nm R l w Q) (hp : pc + 2 = pc') {aty : ArrayType} {n : Int32} (cap : Nat) (hd : decode code pc = .ok (.newarray aty, 2)) (w1 : (Jvm.Cond.arrayClass (newarray.typeOf aty)).before a0 Z = true) (hn0 : ¬ n < 0) (hcap : n.toNatClampNeg ≤ cap) (hbg : cap * 8 ≤ 536870912) (hc : n1 + 1 ≤ R.cells) (hn : n2 + cap ≤ R.slots)
    (hr : ∀ h' a kA, a = h.size → Z.heap.size ≤ a → Ext h h' → Arv Z h' a kA (newarray.typeOf aty) n [] (defaultValue (newarray.typeOf aty)) → Run Z K ph h' (n1 + 1) (n2 + cap) pc' ls (.ref a :: st)) : Run Z K ph h n1 n2 pc ls (.int n :: st) := by
  subst hp
  refine r_old fun X0 => ?_
  refine rH ok (P := fun h' => Ext h h' ∧ ∃ kA, Arv Z h' h.size kA (newarray.typeOf aty) n [] (defaultValue (newarray.typeOf aty))) (m1 := n1 + 1) (m2 := n2 + cap) (fun p e s m args below meth c T locs X hx hby hml hZ ho hnm eT X0 => ?_) (fun h' q => by obtain ⟨q1, kA, q2⟩ := q; exact hr h' _ kA rfl X0.1 q1 q2)
  obtain ⟨T', h', kA, X', e', E, A, st'⟩ := newP X hx hZ w1 eT (g := mkF m pc ls (.int n :: st)) rfl (hb hby hd) rfl hn0 (cap := cap) hcap hbg hc hn
  exact ⟨T', h', [], by rw [List.append_nil]; exact X', e', Fr.nil _, E.1, ext_trans X0 E, ⟨E, kA, Arv.new A hn0⟩, st'⟩
theorem r_anewarray (ok : Ok Z K EL own code maxL ret nm R l w Q) (hp : pc + 3 = pc') {C : String} {idx : Nat} {n : Int32} (cap : Nat) (hd : decode code pc = .ok (.anewarray idx, 3)) (w1 : (Jvm.Cond.classLink own idx C).before a0 Z = true) (w2 : (Jvm.Cond.arrayOver (.object C)).before a0 Z = true) (hn0 : ¬ n < 0) (hcap : n.toNatClampNeg ≤ cap) (hbg : cap * 8 ≤ 536870912) (hc : n1 + 1 ≤ R.cells) (hn : n2 + cap ≤ R.slots)
    (hr : ∀ h' a kA, a = h.size → Z.heap.size ≤ a → Ext h h' → Ovr Z kA C → Arv Z h' a kA (.object C) n [] .null → Run Z K ph h' (n1 + 1) (n2 + cap) pc' ls (.ref a :: st)) : Run Z K ph h n1 n2 pc ls (.int n :: st) := by
  subst hp
  refine r_old fun X0 => ?_
  refine rH ok (P := fun h' => Ext h h' ∧ ∃ kA, Ovr Z kA C ∧ Arv Z h' h.size kA (.object C) n [] .null) (m1 := n1 + 1) (m2 := n2 + cap) (fun p e s m args below meth c T locs X hx hby hml hZ ho hnm eT X0 => ?_) (fun h' q => by obtain ⟨q1, kA, q2, q3⟩ := q; exact hr h' _ kA rfl X0.1 q1 q2 q3)
  obtain ⟨T', h', kA, X', e', E, A, O, st'⟩ := newR X hx hZ ho w1 w2 eT (g := mkF m pc ls (.int n :: st)) rfl (hb hby hd) rfl hn0 (cap := cap) hcap hbg hc hn
  exact ⟨T', h', [], by rw [List.append_nil]; exact X', e', Fr.nil _, E.1, ext_trans X0 E, ⟨E, kA, O, Arv.new A hn0⟩, st'⟩
/-- a law that leaves the heap as it is and moves the state -/
theorem rT (ok : Ok Z K EL own code maxL ret nm R l w Q) (hr : Run Z K ph h n1 n2 pc' ls' st')
    (f : ∀ (p : Program) (e : Env) (s : State) (m : MethodId) (args : Array Value) (below : List Frame) (meth : Method) (c : Code) (T : State) (locs : List Loc), Stand p l e R s m args below meth c T locs n1 n2 → p.tables.exec = Jvm.exec → c.code = code → c.maxLocals = maxL → Z.Warmed39 s.vm → s.vm.findClass own = some m.cls → T.heap = h →
      ∃ T', Stand p l e R s m args below meth c T' locs n1 n2 ∧ T'.heap = h ∧ ∀ t, Steps p.tables e below (T'.setTop (mkF m pc' ls' st')) t → Steps p.tables e below (T.setTop (mkF m pc ls st)) t) : Run Z K ph h n1 n2 pc ls st := by
  refine rH ok (P := fun h' => h' = h) (m1 := n1) (m2 := n2) (fun p e s m args below meth c T locs X hx hby hml hZ ho hnm eT X0 => ?_) (fun h' q => q ▸ hr)
  obtain ⟨T', X', e', st'⟩ := f p e s m args below meth c T locs X hx hby hml hZ ho eT
  exact ⟨T', h, [], by rw [List.append_nil]; exact X', e', Fr.nil _, Nat.le_refl _, X0, rfl, st'⟩
theorem r_getfield (ok : Ok Z K EL own code maxL ret nm R l w Q) (hp : pc + 3 = pc') {R0 O n d host : String} {idx : Nat} {a : Addr} {v : Value} (hd : decode code pc = .ok (.getfield idx, 3)) (w1 : (Jvm.Cond.fieldLink own idx R0 n d).before a0 Z = true ∨ (Jvm.Cond.fieldLinkNest own idx R0 n d host).before a0 Z = true) (via : Via Z R0 O n d) (F : Fld Z h a O n d v) (hr : Run Z K ph h n1 n2 pc' ls (v :: st)) : Run Z K ph h n1 n2 pc ls (.ref a :: st) := by
  subst hp
  exact rT ok hr fun p e s m args below meth c T locs X hx hby hml hZ ho eT => getF X hx hZ ho w1 via eT F (g := mkF m pc ls (.ref a :: st)) rfl rfl (hb hby hd)
theorem r_getstatic (ok : Ok Z K EL own code maxL ret nm R l w Q) (hp : pc + 3 = pc') {R0 O n d : String} {idx : Nat} {v : Value} (hd : decode code pc = .ok (.getstatic idx, 3)) (w1 : (Jvm.Cond.fieldLink own idx R0 n d).before a0 Z = true) (via : Via Z R0 O n d) (F : Sta Z Z.heap O n d v) (hr : Run Z K ph h n1 n2 pc' ls (v :: st)) : Run Z K ph h n1 n2 pc ls st := by
  subst hp
  refine r_old fun X0 => ?_
  exact rT ok hr fun p e s m args below meth c T locs X hx hby hml hZ ho eT => getS X (host := "") hx hZ ho w1 via eT (F.ext X0) (g := mkF m pc ls st) rfl (hb hby hd)
theorem r_getstaticN (ok : Ok Z K EL own code maxL ret nm R l w Q) (hp : pc + 3 = pc') {R0 O n d host : String} {idx : Nat} {v : Value} (hd : decode code pc = .ok (.getstatic idx, 3)) (w1 : (Jvm.Cond.fieldLink own idx R0 n d).before a0 Z = true ∨ (Jvm.Cond.fieldLinkNest own idx R0 n d host).before a0 Z = true) (via : Via Z R0 O n d) (F : Sta Z Z.heap O n d v) (hr : Run Z K ph h n1 n2 pc' ls (v :: st)) : Run Z K ph h n1 n2 pc ls st := by
  subst hp
  refine r_old fun X0 => ?_
  exact rT ok hr fun p e s m args below meth c T locs X hx hby hml hZ ho eT => getS2 X hx hZ ho w1 via eT (F.ext X0) (g := mkF m pc ls st) rfl (hb hby hd)
theorem r_checkcast (ok : Ok Z K EL own code maxL ret nm R l w Q) (hp : pc + 3 = pc') {C : String} {idx : Nat} {a : Addr} (hd : decode code pc = .ok (.checkcast idx, 3)) (w1 : (Jvm.Cond.classLink own idx C).before a0 Z = true) (F : Ins Z h a C true) (hr : Run Z K ph h n1 n2 pc' ls (.ref a :: st)) : Run Z K ph h n1 n2 pc ls (.ref a :: st) := by
  subst hp
  exact rT ok hr fun p e s m args below meth c T locs X hx hby hml hZ ho eT => castY X hx hZ ho w1 eT F (g := mkF m pc ls (.ref a :: st)) rfl rfl (hb hby hd)
theorem r_checkcastNull (ok : Ok Z K EL own code maxL ret nm R l w Q) (hp : pc + 3 = pc') {idx : Nat} (hd : decode code pc = .ok (.checkcast idx, 3)) (hr : Run Z K ph h n1 n2 pc' ls (.null :: st)) : Run Z K ph h n1 n2 pc ls (.null :: st) := by
  subst hp
  exact rX ok hr fun p e s m args below meth c T locs X hx hby hZ ho eT t => X.checkcastNull hx (g := mkF m pc ls (.null :: st)) rfl rfl (hb hby hd) t
theorem r_instanceof (ok : Ok Z K EL own code maxL ret nm R l w Q) (hp : pc + 3 = pc') {C : String} {idx : Nat} {a : Addr} (hd : decode code pc = .ok (.instanceof idx, 3)) (w1 : (Jvm.Cond.classLink own idx C).before a0 Z = true) (F : Ins Z h a C true) (hr : Run Z K ph h n1 n2 pc' ls (.int 1 :: st)) : Run Z K ph h n1 n2 pc ls (.ref a :: st) := by
  subst hp
  exact rT ok hr fun p e s m args below meth c T locs X hx hby hml hZ ho eT => instY X hx hZ ho w1 eT F (g := mkF m pc ls (.ref a :: st)) rfl rfl (hb hby hd)
theorem r_instanceofNo (ok : Ok Z K EL own code maxL ret nm R l w Q) (hp : pc + 3 = pc') {C D : String} {idx : Nat} {a : Addr} (hd : decode code pc = .ok (.instanceof idx, 3)) (w1 : (Jvm.Cond.classLink own idx C).before a0 Z = true) (E : Exa Z h a D) (F : ∃ c t, Z.vm.findClass D = some c ∧ Z.vm.findClass C = some t ∧ Z.vm.assignable c t = false) (hr : Run Z K ph h n1 n2 pc' ls (.int 0 :: st)) : Run Z K ph h n1 n2 pc ls (.ref a :: st) := by
  subst hp
  exact rT ok hr fun p e s m args below meth c T locs X hx hby hml hZ ho eT => instNo X hx hZ ho w1 eT E F (g := mkF m pc ls (.ref a :: st)) rfl rfl (hb hby hd)
theorem r_acmp (ok : Ok Z K EL own code maxL ret nm R l w Q) {cd : ACond} {x y : Value} {o : Int} {same : Bool} (h1 : x.isRef = true) (h2 : y.isRef = true) (hd : decode code pc = .ok (.if_acmp cd o, 3)) (hq : decide (x = y) = same) (ho : 0 ≤ (pc : Int) + o) (hp : pc' = if acV cd same = true then ((pc : Int) + o).toNat else pc + 3) (hr : Run Z K ph h n1 n2 pc' ls st) : Run Z K ph h n1 n2 pc ls (y :: x :: st) :=
  rX ok hr fun p e s m args below meth c T locs X hx hby hZ hw eT t => acmp (g := mkF m pc ls (y :: x :: st)) X hx rfl h1 h2 rfl (hb hby hd) rfl hq ho hp
theorem r_init (ok : Ok Z K EL own code maxL ret nm R l w Q) (hp : pc + 3 = pc') {idx : Nat} {a : Addr} (hd : decode code pc = .ok (.invokespecial idx, 3)) (w1 : (Jvm.Cond.methodLink own idx Lib.objectInit).before a0 Z = true) (w2 : (Jvm.Cond.instanceMethod Lib.objectInit).before a0 Z = true) (w3 : (Jvm.Cond.code Lib.objectInit ⟨#[0xb1]⟩ 1 none).before a0 Z = true) (hls : ls.size = maxL) (hf : 1 ≤ R.frames) (hl : (st.map fun v => v.category).sum + 12 ≤ R.locals) (hr : Run Z K ph h n1 n2 pc' ls st) : Run Z K ph h n1 n2 pc ls (.ref a :: st) := by
  subst hp
  exact rT ok hr fun p e s m args below meth c T locs X hx hby hml hZ ho eT => initO X hx hZ ho w1 w2 w3 eT (g := mkF m pc ls (.ref a :: st)) rfl (by rw [hml]; exact hls) rfl (hb hby hd) hf (W := (st.map fun v => v.category).sum) (by show 2 * 0 + _ ≤ _; omega) hl
theorem r_putfield (ok : Ok Z K EL own code maxL ret nm R l w Q) (hp : pc + 3 = pc') {R0 O n d host C : String} {idx kk : Nat} {ty : FieldType} {a : Addr} {v old : Value} (hd : decode code pc = .ok (.putfield idx, 3)) (w1 : (Jvm.Cond.fieldLink own idx R0 n d).before a0 Z = true ∨ (Jvm.Cond.fieldLinkNest own idx R0 n d host).before a0 Z = true) (via : Via Z R0 O n d) (w2 : (Jvm.Cond.lays C O n d).before a0 Z = true ∨ ((Jvm.Cond.laysFinal C O n d).before a0 Z = true ∧ own = O ∧ nm = "<init>")) (w3 : (Jvm.Cond.instantiable C kk).before a0 Z = true)
    (F : Fld Z h a O n d old) (E : Exa Z h a C) (g : Z.heap.size ≤ a) (hty : parseFieldDescriptor d = some ty) (hn : narrow ty v = v) (hf : fits ty v = true) (hr : ∀ h', Wr h h' a (RoadKit.slotOf Z O n d) v → Fld Z h' a O n d v → Exa Z h' a C → Run Z K ph h' n1 n2 pc' ls st) : Run Z K ph h n1 n2 pc ls (v :: .ref a :: st) := by
  subst hp
  refine rH ok (P := fun h' => Wr h h' a (RoadKit.slotOf Z O n d) v) (m1 := n1) (m2 := n2) (fun p e s m args below meth c T locs X hx hby hml hZ ho hnm eT X0 => ?_) (fun h' q => hr h' q (F.same q) (E.wr q))
  obtain ⟨T', h', X', e', W, st'⟩ := putF X hx hZ ho w1 via eT F E (w2.imp id fun q => ⟨q.1, q.2.1, hnm.trans q.2.2⟩) w3 hty hn hf (g := mkF m pc ls (v :: .ref a :: st)) rfl rfl (hb hby hd)
  exact ⟨T', h', _, X', e', (fun y hy => by cases List.mem_singleton.mp hy; exact g), Nat.le_of_eq W.size.symm, ext_wr X0 W g, W, st'⟩
theorem r_putfieldN (ok : Ok Z K EL own code maxL ret nm R l w Q) (hp : pc + 3 = pc') {R0 O n d C : String} {idx kk : Nat} {ty : FieldType} {a : Addr} {v v' old : Value} (hd : decode code pc = .ok (.putfield idx, 3)) (w1 : (Jvm.Cond.fieldLink own idx R0 n d).before a0 Z = true) (via : Via Z R0 O n d) (w2 : (Jvm.Cond.lays C O n d).before a0 Z = true ∨ ((Jvm.Cond.laysFinal C O n d).before a0 Z = true ∧ own = O ∧ nm = "<init>")) (w3 : (Jvm.Cond.instantiable C kk).before a0 Z = true)
    (F : Fld Z h a O n d old) (E : Exa Z h a C) (g : Z.heap.size ≤ a) (hty : parseFieldDescriptor d = some ty) (hn : narrow ty v = v') (hf : fits ty v' = true) (hr : ∀ h', Wr h h' a (RoadKit.slotOf Z O n d) v' → Fld Z h' a O n d v' → Exa Z h' a C → Run Z K ph h' n1 n2 pc' ls st) : Run Z K ph h n1 n2 pc ls (v :: .ref a :: st) := by
  subst hp
  refine rH ok (P := fun h' => Wr h h' a (RoadKit.slotOf Z O n d) v') (m1 := n1) (m2 := n2) (fun p e s m args below meth c T locs X hx hby hml hZ ho hnm eT X0 => ?_) (fun h' q => hr h' q (F.same q) (E.wr q))
  obtain ⟨T', h', X', e', W, st'⟩ := putFN X hx hZ ho w1 via eT F E (w2.imp id fun q => ⟨q.1, q.2.1, hnm.trans q.2.2⟩) w3 hty hn hf (g := mkF m pc ls (v :: .ref a :: st)) rfl rfl (hb hby hd)
  exact ⟨T', h', _, X', e', (fun y hy => by cases List.mem_singleton.mp hy; exact g), Nat.le_of_eq W.size.symm, ext_wr X0 W g, W, st'⟩
/-- an array's length -/
theorem r_arraylength (ok : Ok Z K EL own code maxL ret nm R l w Q) (hp : pc + 1 = pc') {a : Addr} {k : ClassId} {ty : FieldType} {n : Int32} {vs : List Value} {dv : Value} (hd : decode code pc = .ok (.arraylength, 1)) (A : Arv Z h a k ty n vs dv) (hr : Run Z K ph h n1 n2 pc' ls (.int n :: st)) : Run Z K ph h n1 n2 pc ls (.ref a :: st) := by
  subst hp
  obtain ⟨cl, Ar, q, S, N, H, G⟩ := A
  exact rX ok hr fun p e s m args below meth c T locs X hx hby hZ ho eT t ht => X.arraylength hx (a := a) (cell := cl) (ty := ty) (by rw [eT]; exact Ar.1) (State.isArrayOf_alike hZ.alike Ar.2.1) (g := mkF m pc ls (.ref a :: st)) rfl rfl (hb hby hd) t (by rw [len_of S N]; exact ht)
/-- an element's place -/
theorem getD_at {c : Cell} {vs : List Value} {dv : Value} {j n : Int32} (S : c.slots.size = n.toNatClampNeg) (H : Has c vs dv) (q : ¬ j < 0 ∧ j < n) : c.slots[j.toNatClampNeg]? = some (vs.getD j.toNatClampNeg dv) := H.at (inb_of S q) rfl
theorem r_caload (ok : Ok Z K EL own code maxL ret nm R l w Q) (hp : pc + 1 = pc') {a : Addr} {k : ClassId} {n j : Int32} {vs : List Value} {v dv : Value} (hd : decode code pc = .ok (.caload, 1)) (A : Arv Z h a k .char n vs dv) (q : ¬ j < 0 ∧ j < n) (hv : vs.getD j.toNatClampNeg dv = v) (hr : Run Z K ph h n1 n2 pc' ls (v :: st)) : Run Z K ph h n1 n2 pc ls (.int j :: .ref a :: st) := by
  subst hp
  obtain ⟨cl, Ar, q1, S, N, H, G⟩ := A
  exact rX ok hr fun p e s m args below meth c T locs X hx hby hZ ho eT t => X.caload hx (j := j) (v := v) (by rw [eT]; exact Ar.1) (State.isArrayOf_alike hZ.alike Ar.2.1) Ar.2.2 (inb_of S q) (H.at (inb_of S q) hv) (g := mkF m pc ls (.int j :: .ref a :: st)) rfl rfl (hb hby hd) t
theorem r_baload (ok : Ok Z K EL own code maxL ret nm R l w Q) (hp : pc + 1 = pc') {a : Addr} {k : ClassId} {n j : Int32} {vs : List Value} {v dv : Value} (hd : decode code pc = .ok (.baload, 1)) (A : Arv Z h a k .byte n vs dv) (q : ¬ j < 0 ∧ j < n) (hv : vs.getD j.toNatClampNeg dv = v) (hr : Run Z K ph h n1 n2 pc' ls (v :: st)) : Run Z K ph h n1 n2 pc ls (.int j :: .ref a :: st) := by
  subst hp
  obtain ⟨cl, Ar, q1, S, N, H, G⟩ := A
  exact rX ok hr fun p e s m args below meth c T locs X hx hby hZ ho eT t => X.baloadBytes hx (j := j) (v := v) (by rw [eT]; exact Ar.1) (State.isArrayOf_alike hZ.alike Ar.2.1) Ar.2.2 (inb_of S q) (H.at (inb_of S q) hv) (g := mkF m pc ls (.int j :: .ref a :: st)) rfl rfl (hb hby hd) t
theorem r_baloadZ (ok : Ok Z K EL own code maxL ret nm R l w Q) (hp : pc + 1 = pc') {a : Addr} {k : ClassId} {n j : Int32} {vs : List Value} {v dv : Value} (hd : decode code pc = .ok (.baload, 1)) (A : Arv Z h a k .boolean n vs dv) (q : ¬ j < 0 ∧ j < n) (hv : vs.getD j.toNatClampNeg dv = v) (hr : Run Z K ph h n1 n2 pc' ls (v :: st)) : Run Z K ph h n1 n2 pc ls (.int j :: .ref a :: st) := by
  subst hp
  obtain ⟨cl, Ar, q1, S, N, H, G⟩ := A
  exact rX ok hr fun p e s m args below meth c T locs X hx hby hZ ho eT t => X.baloadBooleans hx (j := j) (v := v) (by rw [eT]; exact Ar.1) (State.isArrayOf_alike hZ.alike Ar.2.1) Ar.2.2 (inb_of S q) (H.at (inb_of S q) hv) (g := mkF m pc ls (.int j :: .ref a :: st)) rfl rfl (hb hby hd) t
theorem r_aaload (ok : Ok Z K EL own code maxL ret nm R l w Q) (hp : pc + 1 = pc') {a : Addr} {k : ClassId} {ty : FieldType} {n j : Int32} {vs : List Value} {v dv : Value} (hd : decode code pc = .ok (.aaload, 1)) (hty : ty.isReference = true) (A : Arv Z h a k ty n vs dv) (q : ¬ j < 0 ∧ j < n) (hv : vs.getD j.toNatClampNeg dv = v) (hr : Run Z K ph h n1 n2 pc' ls (v :: st)) : Run Z K ph h n1 n2 pc ls (.int j :: .ref a :: st) := by
  subst hp
  obtain ⟨cl, Ar, q1, S, N, H, G⟩ := A
  exact rX ok hr fun p e s m args below meth c T locs X hx hby hZ ho eT t => X.aaload hx (j := j) (v := v) (by rw [eT]; exact Ar.1) (State.isArrayOf_alike hZ.alike Ar.2.1) hty Ar.2.2 (inb_of S q) (H.at (inb_of S q) hv) (g := mkF m pc ls (.int j :: .ref a :: st)) rfl rfl (hb hby hd) t
/-- stores into arrays -/
theorem r_castore (ok : Ok Z K EL own code maxL ret nm R l w Q) (hp : pc + 1 = pc') {a : Addr} {k : ClassId} {n j x : Int32} {vs : List Value} {dv : Value} (i : Nat) (hd : decode code pc = .ok (.castore, 1)) (A : Arv Z h a k .char n vs dv) (g : Z.heap.size ≤ a) (q : ¬ j < 0 ∧ j < n) (hj : j.toNatClampNeg = i) (hi : i < vs.length) (hr : ∀ h', Wr h h' a j.toNatClampNeg (.int (nar .char x)) → Arv Z h' a k .char n (vs.set i (.int (nar .char x))) dv → Run Z K ph h' n1 n2 pc' ls st) : Run Z K ph h n1 n2 pc ls (.int x :: .int j :: .ref a :: st) := by
  subst hp
  obtain ⟨cl, Ar, q1, S, N, H, G⟩ := A
  refine rH ok (P := fun h' => Wr h h' a j.toNatClampNeg (.int (nar .char x))) (m1 := n1) (m2 := n2) (fun p e s m args below meth c T locs X hx hby hml hZ ho hnm eT X0 => ?_) (fun h' W => hr h' W (Arv.set Ar q1 S N H G (fits_nar_char _) W i hj hi))
  obtain ⟨T', h', X', e', W, st'⟩ := stC X hx hZ eT Ar (inb_of S q) (g := mkF m pc ls (.int x :: .int j :: .ref a :: st)) rfl rfl (hb hby hd)
  exact ⟨T', h', _, X', e', (fun y hy => by cases List.mem_singleton.mp hy; exact g), Nat.le_of_eq W.size.symm, ext_wr X0 W g, W, st'⟩
theorem r_bastore (ok : Ok Z K EL own code maxL ret nm R l w Q) (hp : pc + 1 = pc') {a : Addr} {k : ClassId} {n j x : Int32} {vs : List Value} {dv : Value} (i : Nat) (hd : decode code pc = .ok (.bastore, 1)) (A : Arv Z h a k .byte n vs dv) (g : Z.heap.size ≤ a) (q : ¬ j < 0 ∧ j < n) (hj : j.toNatClampNeg = i) (hi : i < vs.length) (hr : ∀ h', Wr h h' a j.toNatClampNeg (.int (nar .byte x)) → Arv Z h' a k .byte n (vs.set i (.int (nar .byte x))) dv → Run Z K ph h' n1 n2 pc' ls st) : Run Z K ph h n1 n2 pc ls (.int x :: .int j :: .ref a :: st) := by
  subst hp
  obtain ⟨cl, Ar, q1, S, N, H, G⟩ := A
  refine rH ok (P := fun h' => Wr h h' a j.toNatClampNeg (.int (nar .byte x))) (m1 := n1) (m2 := n2) (fun p e s m args below meth c T locs X hx hby hml hZ ho hnm eT X0 => ?_) (fun h' W => hr h' W (Arv.set Ar q1 S N H G (fits_nar_byte _) W i hj hi))
  obtain ⟨T', h', X', e', W, st'⟩ := stB X hx hZ eT Ar (inb_of S q) (g := mkF m pc ls (.int x :: .int j :: .ref a :: st)) rfl rfl (hb hby hd)
  exact ⟨T', h', _, X', e', (fun y hy => by cases List.mem_singleton.mp hy; exact g), Nat.le_of_eq W.size.symm, ext_wr X0 W g, W, st'⟩
theorem r_aastore (ok : Ok Z K EL own code maxL ret nm R l w Q) (hp : pc + 1 = pc') {a : Addr} {k : ClassId} {ty : FieldType} {n j : Int32} {v : Value} {vs : List Value} {dv : Value} (i : Nat) (hd : decode code pc = .ok (.aastore, 1)) (hty : ty.isReference = true) (A : Arv Z h a k ty n vs dv) (F : Sto Z h a v) (hv : fits ty v = true) (g : Z.heap.size ≤ a) (q : ¬ j < 0 ∧ j < n) (hj : j.toNatClampNeg = i) (hi : i < vs.length) (hr : ∀ h', Wr h h' a j.toNatClampNeg v → Arv Z h' a k ty n (vs.set i v) dv → Run Z K ph h' n1 n2 pc' ls st) : Run Z K ph h n1 n2 pc ls (v :: .int j :: .ref a :: st) := by
  subst hp
  obtain ⟨cl, Ar, q1, S, N, H, G⟩ := A
  refine rH ok (P := fun h' => Wr h h' a j.toNatClampNeg v) (m1 := n1) (m2 := n2) (fun p e s m args below meth c T locs X hx hby hml hZ ho hnm eT X0 => ?_) (fun h' W => hr h' W (Arv.set Ar q1 S N H G hv W i hj hi))
  obtain ⟨T', h', X', e', W, st'⟩ := stR X hx hZ eT Ar (inb_of S q) hty F (g := mkF m pc ls (v :: .int j :: .ref a :: st)) rfl rfl (hb hby hd)
  exact ⟨T', h', _, X', e', (fun y hy => by cases List.mem_singleton.mp hy; exact g), Nat.le_of_eq W.size.symm, ext_wr X0 W g, W, st'⟩
/-- constants out of the pool -/
theorem r_ldcI (ok : Ok Z K EL own code maxL ret nm R l w Q) (hp : pc + 2 = pc') {idx : Nat} {v : Int32} (hd : decode code pc = .ok (.ldc idx, 2)) (w1 : (Jvm.Cond.constant own idx v).before a0 Z = true) (hr : Run Z K ph h n1 n2 pc' ls (.int v :: st)) : Run Z K ph h n1 n2 pc ls st := by
  subst hp; exact rX ok hr fun p e s m args below meth c T locs X hx hby hZ ho eT t => X.ldcI hx ho (mv hZ w1) (g := mkF m pc ls st) rfl (hb hby hd)

/-- what a call leaves, of a walk that hasn't interned | that may have -/
theorem rCall (ok : Ok Z K EL own code maxL ret nm R l w Q) {w' : Bool} {EL' : Els} {k n : Nat} {as : Array Value} {rest : List Value} {Q' : Option Value → Heap → Prop} (hww : w' = true → w = true) (hEL : EL' = [] ∨ EL' = EL ∧ ∀ s v, ph s v → v = s.vm)
    (f0 : w' = false → ∀ (p : Program) (e : Env) (s : State) (m : MethodId) (args : Array Value) (below : List Frame) (meth : Method) (c : Code) (T : State) (locs : List Loc), Stand p l e R s m args below meth c T locs n1 n2 → p.tables.exec = Jvm.exec → c.code = code → c.maxLocals = maxL → Z.Warmed39 s.vm → s.vm.findClass own = some m.cls → T.heap = h → CHv Z EL' s.vm Z.heap → Ext Z.heap h →
      ∃ (v : Option Value) (vm₁ : Vm) (B : Pt), Stand p l e R s m args below meth c B.U B.locs B.cells B.slots ∧ (∃ L, Pst Z h.size Q' v B.U.heap L ∧ B.locs = locs ++ L ∧ B.cells = n1 + k ∧ B.slots = n2 + n) ∧ ∀ t, Steps p.tables e below (B.U.setTop (mkF m pc' ls (v.toList ++ rest))) t → Steps p.tables e below (T.setTop (mkF m pc ls st)) t)
    (f1 : w' = true → ∀ (p : Program) (e : Env) (s : State) (m : MethodId) (args : Array Value) (below : List Frame) (meth : Method) (c : Code) (T : State) (locs : List Loc), Stand p l e R s m args below meth c T locs n1 n2 → p.tables.exec = Jvm.exec → c.code = code → c.maxLocals = maxL → Z.Warmed39 s.vm → s.vm.findClass own = some m.cls → T.heap = h → CHv Z EL' s.vm Z.heap → Ext Z.heap h →
      ∃ (v : Option Value) (vm₁ : Vm) (B : Pt), Stand p l e R (s.setVm B.U.vm) m args below meth c B.U B.locs B.cells B.slots ∧ s.Since B.U.vm B.U.heap.size ∧ (∃ L, Pst Z h.size Q' v B.U.heap L ∧ B.locs = locs ++ L ∧ B.cells = n1 + k ∧ B.slots = n2 + n) ∧ ∀ t, Steps p.tables e below (B.U.setTop (mkF m pc' ls (v.toList ++ rest))) t → Steps p.tables e below (T.setTop (mkF m pc ls st)) t)
    (hr : ∀ v h', Q' v h' → h.size ≤ h'.size → Run Z K (PhA w' ph) h' (n1 + k) (n2 + n) pc' ls (v.toList ++ rest)) : Run Z K ph h n1 n2 pc ls st := by
  obtain ⟨p, l1, e, R1, s, m, args, below, meth, c, w1, Q1⟩ := K
  obtain ⟨hx, hby, hml, ho, hret, hlk, hnm, rfl, rfl, rfl, rfl, hCH⟩ := ok
  intro T X W
  obtain ⟨vm0, k0, locs, S, hS, hk, hZ, hF, eT, hw⟩ := W
  have hC : CHv Z EL' (s.setVm vm0).vm Z.heap := by
    rcases hEL with rfl | ⟨rfl, q⟩
    · exact chv_nil
    · rw [q _ _ hw]; exact hCH
  cases w'
  · obtain ⟨v, vm₁, ⟨U, Lq, c1, s1⟩, S', ⟨L, ⟨hq, hL, hX', hle⟩, e1, e2, e3⟩, hst⟩ := f0 rfl p e (s.setVm vm0) m args below meth c T locs S hx hby hml hZ (ho vm0 hZ) eT hC X
    dsimp only [Pt.U, Pt.locs, Pt.cells, Pt.slots] at S' hq hX' hle e1 e2 e3 hst
    subst e1 e2 e3
    obtain ⟨s₂, o, h1, r⟩ := hr v U.heap hq hle U hX' ⟨vm0, k0, _, S', hS, by rw [eT] at hk; exact Nat.le_trans hk hle, hZ, hF.app hL, rfl, hw⟩
    exact ⟨s₂, o, hst _ h1, r⟩
  · obtain ⟨v, vm₁, ⟨U, Lq, c1, s1⟩, S', hS', ⟨L, ⟨hq, hL, hX', hle⟩, e1, e2, e3⟩, hst⟩ := f1 rfl p e (s.setVm vm0) m args below meth c T locs S hx hby hml hZ (ho vm0 hZ) eT hC X
    dsimp only [Pt.U, Pt.locs, Pt.cells, Pt.slots] at S' hS' hq hX' hle e1 e2 e3 hst
    subst e1 e2 e3
    obtain ⟨s₂, o, h1, r⟩ := hr v U.heap hq hle U hX' ⟨U.vm, U.heap.size, _, S', hS.trans hS' (by rw [eT] at hk; exact Nat.le_trans hk hle), Nat.le_refl _, State.Warmed39.trans (t := s.setVm vm0) hZ hS'.1, hF.app hL, rfl, trivial⟩
    exact ⟨s₂, o, hst _ h1, r⟩
section Calls
variable {y : MethodName} {idx : Nat} {bytes : ByteArray} {mL : Nat} {rt : Option FieldType} {ps : List FieldType} {rty : Option FieldType} {w' : Bool} {EL' : Els} {W k n : Nat} {as : Array Value} {Q' : Option Value → Heap → Prop} {argsL rest : List Value}
theorem r_static (ok : Ok Z K EL own code maxL ret nm R l w Q) (hp : pc + 3 = pc') (hd : decode code pc = .ok (.invokestatic idx, 3)) (w1 : (Jvm.Cond.methodLink own idx y).before a0 Z = true) (w2 : (Jvm.Cond.static y).before a0 Z = true) (w3 : (Jvm.Cond.initialized y.cls).before a0 Z = true) (w4 : (Jvm.Cond.code y bytes mL rt).before a0 Z = true)
    (hy : y.cls ≠ "java/lang/invoke/MethodHandle" ∧ y.cls ≠ "java/lang/invoke/VarHandle") (pd : parseMethodDescriptor y.desc = some ⟨ps, rty⟩) (pay : Pay Z EL' w' l R y 3 W as h k n Q') (hww : w' = true → w = true) (hEL : EL' = [] ∨ EL' = EL ∧ ∀ s v, ph s v → v = s.vm) (hls : ls.size = maxL) (has : argsL.toArray = as) (hst : st = argsL.reverse ++ rest) (hlen : argsL.length = ps.length) (hW : (rest.map fun v => v.category).sum ≤ W) (hc : n1 + k ≤ R.cells) (hn : n2 + n ≤ R.slots)
    (hr : ∀ v h', Q' v h' → h.size ≤ h'.size → Run Z K (PhA w' ph) h' (n1 + k) (n2 + n) pc' ls (v.toList ++ rest)) : Run Z K ph h n1 n2 pc ls st := by
  subst hp has
  refine rCall ok (w' := w') (as := argsL.toArray) hww hEL (fun hw0 p e s m args below meth c T locs S hx hby hml hZ ho eT hC X => ?_) (fun hw0 p e s m args below meth c T locs S hx hby hml hZ ho eT hC X => ?_) hr
  · subst hw0
    obtain ⟨v, vm₁, B, -, S', hQ, hst'⟩ := Jvm.LawKit.callS S hx ho (mvT hZ w1) (mvT hZ w2) (mvT hZ w3) (mvT hZ w4) hy (pay p e below s args hZ hC X) (g := mkF m pc ls st) rfl (by rw [hml]; exact hls) (argsL := argsL) (rest := rest) (lenOf pd hlen) hst (by show 2 * 0 + _ ≤ _; omega) (hb hby hd) (fun _ _ => ⟨rfl, eT, hc, hn⟩)
    exact ⟨v, vm₁, B, S', hQ, hst'⟩
  · subst hw0
    obtain ⟨v, vm₁, B, -, S', hS, -, hQ, hst'⟩ := callSS S hx ho (mvT hZ w1) (mvT hZ w2) (mvT hZ w3) (mvT hZ w4) hy (pay p e below s args hZ hC X) (g := mkF m pc ls st) rfl (by rw [hml]; exact hls) (argsL := argsL) (rest := rest) (lenOf pd hlen) hst (by show 2 * 0 + _ ≤ _; omega) (hb hby hd) (fun _ _ => ⟨rfl, eT, hc, hn⟩)
    exact ⟨v, vm₁, B, S', hS, hQ, fun t ht => hst'.trans ht⟩
theorem r_special {a : Addr} (ok : Ok Z K EL own code maxL ret nm R l w Q) (hp : pc + 3 = pc') (hd : decode code pc = .ok (.invokespecial idx, 3)) (hy1 : y.name = "<init>") (w1 : (Jvm.Cond.methodLink own idx y).before a0 Z = true) (w2 : (Jvm.Cond.instanceMethod y).before a0 Z = true) (w4 : (Jvm.Cond.code y bytes mL none).before a0 Z = true)
    (hy : y.cls ≠ "java/lang/invoke/MethodHandle" ∧ y.cls ≠ "java/lang/invoke/VarHandle") (pd : parseMethodDescriptor y.desc = some ⟨ps, rty⟩) (pay : Pay Z EL' w' l R y 3 W as h k n Q') (hww : w' = true → w = true) (hEL : EL' = [] ∨ EL' = EL ∧ ∀ s v, ph s v → v = s.vm) (hls : ls.size = maxL) (has : (.ref a :: argsL).toArray = as) (hst : st = argsL.reverse ++ .ref a :: rest) (hlen : argsL.length = ps.length) (hW : (rest.map fun v => v.category).sum ≤ W) (hc : n1 + k ≤ R.cells) (hn : n2 + n ≤ R.slots)
    (hr : ∀ v h', Q' v h' → h.size ≤ h'.size → Run Z K (PhA w' ph) h' (n1 + k) (n2 + n) pc' ls (v.toList ++ rest)) : Run Z K ph h n1 n2 pc ls st := by
  subst hp has
  refine rCall ok (w' := w') (as := (.ref a :: argsL).toArray) hww hEL (fun hw0 p e s m args below meth c T locs S hx hby hml hZ ho eT hC X => ?_) (fun hw0 p e s m args below meth c T locs S hx hby hml hZ ho eT hC X => ?_) hr
  · subst hw0
    obtain ⟨v, vm₁, B, -, S', hQ, hst'⟩ := S.specialBack hx hy1 ho (mvT hZ w1) (mvT hZ w2) (mvT hZ w4) hy (pay p e below s args hZ hC X) (g := mkF m pc ls st) rfl (by rw [hml]; exact hls) (Steps.refl _) (a := a) (argsL := argsL) (rest := rest) (lenOf pd hlen) hst (by show 2 * 0 + _ ≤ _; omega) (hb hby hd) (fun _ _ => ⟨rfl, eT, hc, hn⟩)
    exact ⟨v, vm₁, B, S', hQ, fun t ht => hst'.trans ht⟩
  · subst hw0
    obtain ⟨v, vm₁, B, -, S', hS, -, hQ, hst'⟩ := S.specialBackS hx hy1 ho (mvT hZ w1) (mvT hZ w2) (mvT hZ w4) hy (pay p e below s args hZ hC X) (g := mkF m pc ls st) rfl (by rw [hml]; exact hls) (Steps.refl _) (a := a) (argsL := argsL) (rest := rest) (lenOf pd hlen) hst (by show 2 * 0 + _ ≤ _; omega) (hb hby hd) (fun _ _ => ⟨rfl, eT, hc, hn⟩)
    exact ⟨v, vm₁, B, S', hS, hQ, fun t ht => hst'.trans ht⟩
theorem r_virtual {a : Addr} {C : String} {z : MethodName} (ok : Ok Z K EL own code maxL ret nm R l w Q) (hp : pc + 3 = pc') (hd : decode code pc = .ok (.invokevirtual idx, 3)) (w1 : (Jvm.Cond.methodLink own idx y).before a0 Z = true) (w2 : (Jvm.Cond.declares y).before a0 Z = true) (w3 : (Jvm.Cond.selects C y z).before a0 Z = true) (w4 : (Jvm.Cond.instanceMethod z).before a0 Z = true) (nf : ∀ (s : State), Z.Warmed39 s.vm → NotFace s y) (E : Exa Z h a C)
    (hy : y.cls ≠ "java/lang/invoke/MethodHandle" ∧ y.cls ≠ "java/lang/invoke/VarHandle") (pd : parseMethodDescriptor y.desc = some ⟨ps, rty⟩) (pay : Pay Z EL' w' l R z 3 W as h k n Q') (hww : w' = true → w = true) (hEL : EL' = [] ∨ EL' = EL ∧ ∀ s v, ph s v → v = s.vm) (hls : ls.size = maxL) (has : (.ref a :: argsL).toArray = as) (hst : st = argsL.reverse ++ .ref a :: rest) (hlen : argsL.length = ps.length) (hW : (rest.map fun v => v.category).sum ≤ W) (hc : n1 + k ≤ R.cells) (hn : n2 + n ≤ R.slots)
    (hr : ∀ v h', Q' v h' → h.size ≤ h'.size → Run Z K (PhA w' ph) h' (n1 + k) (n2 + n) pc' ls (v.toList ++ rest)) : Run Z K ph h n1 n2 pc ls st := by
  subst hp has
  refine rCall ok (w' := w') (as := (.ref a :: argsL).toArray) hww hEL (fun hw0 p e s m args below meth c T locs S hx hby hml hZ ho eT hC X => ?_) (fun hw0 p e s m args below meth c T locs S hx hby hml hZ ho eT hC X => ?_) hr
  · subst hw0
    obtain ⟨cq, kq, qa, qb, qc⟩ := isOf hZ eT E
    obtain ⟨v, vm₁, B, -, S', hQ, hst'⟩ := S.virtualBack hx ho (mvT hZ w1) (mvT hZ w2) (nf s hZ) (mvT hZ w3) (mvT hZ w4) hy (pay p e below s args hZ hC X) qa qc (g := mkF m pc ls st) rfl (by rw [hml]; exact hls) (Steps.refl _) (argsL := argsL) (rest := rest) (lenOf pd hlen) hst (by show 2 * 0 + _ ≤ _; omega) (hb hby hd) (fun _ _ => ⟨rfl, eT, hc, hn⟩)
    exact ⟨v, vm₁, B, S', hQ, fun t ht => hst'.trans ht⟩
  · subst hw0
    obtain ⟨cq, kq, qa, qb, qc⟩ := isOf hZ eT E
    obtain ⟨v, vm₁, B, -, S', hS, -, hQ, hst'⟩ := S.virtualBackS hx ho (mvT hZ w1) (mvT hZ w2) (nf s hZ) (mvT hZ w3) (mvT hZ w4) hy (pay p e below s args hZ hC X) qa qc (g := mkF m pc ls st) rfl (by rw [hml]; exact hls) (Steps.refl _) (argsL := argsL) (rest := rest) (lenOf pd hlen) hst (by show 2 * 0 + _ ≤ _; omega) (hb hby hd) (fun _ _ => ⟨rfl, eT, hc, hn⟩)
    exact ⟨v, vm₁, B, S', hS, hQ, fun t ht => hst'.trans ht⟩
theorem nf_sel {C : String} {z : MethodName} (w3 : (Jvm.Cond.selects C y y).before a0 Z = true) : ∀ (s : State), Z.Warmed39 s.vm → NotFace s y := fun s hZ => notFace_of_selects (args := #[]) (mvT hZ w3)
end Calls
theorem cV {rest : List Value} {m1 m2 : Nat} {Q' : Value → Heap → Prop} (f : ∀ x h', Q' x h' → h.size ≤ h'.size → Run Z K ph h' m1 m2 pc ls (x :: rest)) : ∀ v h', rV Q' v h' → h.size ≤ h'.size → Run Z K ph h' m1 m2 pc ls (v.toList ++ rest) := by
  rintro _ h' ⟨x, rfl, q⟩ hl; exact f x h' q hl
theorem cU {rest : List Value} {m1 m2 : Nat} {Q' : Heap → Prop} (f : ∀ h', Q' h' → h.size ≤ h'.size → Run Z K ph h' m1 m2 pc ls rest) : ∀ v h', rU Q' v h' → h.size ≤ h'.size → Run Z K ph h' m1 m2 pc ls (v.toList ++ rest) := by
  rintro _ h' ⟨rfl, q⟩ hl; exact f h' q hl
theorem r_gen {x : Int32} (hr : ∀ z, z = x → Run Z K ph h n1 n2 pc ls (.int z :: st)) : Run Z K ph h n1 n2 pc ls (.int x :: st) := hr x rfl
theorem r_genL {x : Int64} (hr : ∀ z, z = x → Run Z K ph h n1 n2 pc ls (.long z :: st)) : Run Z K ph h n1 n2 pc ls (.long x :: st) := hr x rfl
theorem Pay.more {y : MethodName} {len W k n k' n' : Nat} {as : Array Value} {Q' : Option Value → Heap → Prop} (H : Pay Z EL false l R y len W as h k n Q') (hk : k ≤ k') (hn : n ≤ n') : Pay Z EL false l R y len W as h k' n' Q' := by
  intro p e below s args hZ H0 X m meth c A g ig mk a S hg hsize hdg hW hnm hp
  obtain ⟨v, B, S', ⟨L, q, e1, e2, e3⟩, hs⟩ := H p e below s args hZ H0 X m meth c A g ig mk a S hg hsize hdg hW hnm ⟨hp.1, hp.2.1, by have := hp.2.2.1; omega, by have := hp.2.2.2; omega⟩
  exact ⟨v, (B.U, B.locs, A.cells + k', A.slots + n'), Stand.more S' (by show B.cells ≤ A.cells + k'; rw [e2]; omega) (by show B.slots ≤ A.slots + n'; rw [e3]; omega), ⟨L, q, e1, rfl, rfl⟩, hs⟩
/-- a String constant that may be new to the machine -/
theorem r_ldcS (ok : Ok Z K EL own code maxL ret nm R l true Q) (hp : pc + 2 = pc') {idx : Nat} {text : String} (n : Nat) (hd : decode code pc = .ok (.ldc idx, 2)) (w1 : (Jvm.Cond.stringLink own idx text).before a0 Z = true) (wS : ∀ a ∈ Bundle.stringAtoms, a.before a0 Z = true) (hn : 4 * text.toList.length ≤ n) (hbig : n ≤ 536870912) (hc : n1 + 2 ≤ R.cells) (hl : n2 + (n + 4) ≤ R.slots)
    (hr : ∀ h' a, Ext h h' → Run Z K Dty h' (n1 + 2) (n2 + (n + 4)) pc' ls (.ref a :: st)) : Run Z K ph h n1 n2 pc ls st := by
  subst hp
  obtain ⟨p, l1, e, R1, s, m, args, below, meth, c, w1', Q1⟩ := K
  obtain ⟨hx, hby, hml, ho, hret, hlk, hnm, rfl, rfl, rfl, rfl, hCH⟩ := ok
  intro T X W
  obtain ⟨vm0, k0, locs, S, hS, hk, hZ, hF, eT, hw⟩ := W
  obtain ⟨a, T', h', k1, S', e', E, hS', hk', hZ', -, hst⟩ := ldcS S hx hZ (ho vm0 hZ) w1 wS eT hS (by rw [eT] at hk; exact hk) (g := mkF m pc ls st) rfl (hb hby hd) hn hbig hc hl
  obtain ⟨s₂, o, h1, r⟩ := hr h' a E T' (ext_trans X E) ⟨T'.vm, k1, locs, S', hS', by rw [e']; exact hk', hZ', hF, e', trivial⟩
  exact ⟨s₂, o, hst _ h1, r⟩
/-- a String constant, read, where nothing has been interned so far; and the same once more behind it -/
theorem r_ldcL (ok : Ok Z K EL own code maxL ret nm R l true Q) (hp : pc + 2 = pc') {idx : Nat} {text : String} (n : Nat) {vs : List Value} {z : Int32} (hd : decode code pc = .ok (.ldc idx, 2)) (w1 : (Jvm.Cond.stringLink own idx text).before a0 Z = true) (wS : ∀ a ∈ Bundle.stringAtoms, a.before a0 Z = true) (hEL : EW Z a0 EL) (hmem : (own, idx) ∈ EL) (hcl : ∀ s v, ph s v → v = s.vm) (ht : (∀ c ∈ text.toList, c.toNat < 256) ∧ text.toList.map (fun c => Value.int (Jvm.Lit.byteI c.toNat.toUInt16)) = vs) (hz : ¬ z < 0) (hvl : z.toNatClampNeg = vs.length) (hn : 4 * text.toList.length ≤ n) (hbig : n ≤ 536870912) (hc : n1 + 2 ≤ R.cells) (hl : n2 + (n + 4) ≤ R.slots)
    (hr : ∀ h' a b k, Ext h h' → Exa Z h' a "java/lang/String" → Fld Z h' a "java/lang/String" "coder" "B" (.int 0) → Fld Z h' a "java/lang/String" "value" "[B" (.ref b) → Arv Z h' b k .byte z vs (.int 0) → Run Z K (fun s v => Lit (s.setVm v) own idx a) h' (n1 + 2) (n2 + (n + 4)) pc' ls (.ref a :: st)) : Run Z K ph h n1 n2 pc ls st := by
  subst hp
  obtain ⟨p, l1, e, R1, s, m, args, below, meth, c, w1', Q1⟩ := K
  obtain ⟨hx, hby, hml, ho, hret, hlk, hnm, rfl, rfl, rfl, rfl, hCH⟩ := ok
  intro T X W
  obtain ⟨vm0, k0, locs, S, hS, hk, hZ, hF, eT, hw⟩ := W
  have hC : CHv Z EL vm0 h := by rw [hcl _ _ hw]; exact hCH.ext X
  obtain ⟨a, T', h', k1, b, k, S', e', E, hS', hk', hZ', -, q1, q2, q3, q4, -, -, -, hL, -, hst⟩ := ldcCH S hx hZ (ho vm0 hZ) w1 wS eT hS (by rw [eT] at hk; exact hk) hEL hmem hC ht hz hvl (g := mkF m pc ls st) rfl (hb hby hd) hn hbig hc hl
  obtain ⟨s₂, o, h1, r⟩ := hr h' a b k E q1 q2 q3 q4 T' (ext_trans X E) ⟨T'.vm, k1, locs, S', hS', by rw [e']; exact hk', hZ', hF, e', hL⟩
  exact ⟨s₂, o, hst _ h1, r⟩
theorem r_ldcAgain (ok : Ok Z K EL own code maxL ret nm R l w Q) (hp : pc + 2 = pc') {idx : Nat} {text : String} {a : Addr} (hd : decode code pc = .ok (.ldc idx, 2)) (w1 : (Jvm.Cond.stringLink own idx text).before a0 Z = true) (hph : ∀ s v, ph s v → Lit (s.setVm v) own idx a) (hr : Run Z K ph h n1 n2 pc' ls (.ref a :: st)) : Run Z K ph h n1 n2 pc ls st := by
  subst hp
  obtain ⟨p, l1, e, R1, s, m, args, below, meth, c, w1', Q1⟩ := K
  obtain ⟨hx, hby, hml, ho, hret, hlk, hnm, rfl, rfl, rfl, rfl, hCH⟩ := ok
  intro T X W
  obtain ⟨s₂, o, h1, r⟩ := hr T X W
  obtain ⟨vm0, k0, locs, S, hS, hk, hZ, hF, eT, hw⟩ := W
  exact ⟨s₂, o, ldcAgain S hx hZ (ho vm0 hZ) w1 (hph _ _ hw) (g := mkF m pc ls st) rfl (hb hby hd) _ h1, r⟩
/-- getClass through an interface; a Class constant -/
theorem r_getClassI {a mr : Addr} {C : String} {xi : MethodName} {idx count : Nat} (ok : Ok Z K EL own code maxL ret nm R l w Q) (hp : pc + 5 = pc') (hd : decode code pc = .ok (.invokeinterface idx count, 5)) (w1 : (Jvm.Cond.methodLink own idx xi).before a0 Z = true) (w2 : (Jvm.Cond.declares Jvm.Stand.gcN).before a0 Z = true) (w3 : (Jvm.Cond.interfaceMethod xi.cls "java/lang/Object" xi.name xi.desc).before a0 Z = true) (w4 : (Jvm.Cond.selects C xi Jvm.Stand.gcN).before a0 Z = true) (w5 : (Jvm.Cond.instanceMethod Jvm.Stand.gcN).before a0 Z = true) (w6 : (Jvm.Cond.publicMethod Jvm.Stand.gcN).before a0 Z = true) (w7 : (Jvm.Cond.unhidden C xi.name xi.desc).before a0 Z = true) (w8 : (Jvm.Cond.castable C xi.cls).before a0 Z = true) (w9 : (Jvm.Cond.native Jvm.Stand.gcN).before a0 Z = true) (hx1 : xi.cls ≠ "java/lang/invoke/MethodHandle" ∧ xi.cls ≠ "java/lang/invoke/VarHandle") (hx2 : xi.cls ≠ "java/lang/Object") (hx3 : xi.name = "getClass") (hx4 : xi.desc = "()Ljava/lang/Class;") (E : Exa Z h a C) (M : Mir Z C mr) (hls : ls.size = maxL) (hf : 1 ≤ R.frames) (hl : (st.map fun v => v.category).sum + (nativeFrameWords "java/lang/Object" "getClass" 1 + 11) ≤ R.locals) (hr : Run Z K ph h n1 n2 pc' ls (.ref mr :: st)) : Run Z K ph h n1 n2 pc ls (.ref a :: st) := by
  subst hp
  refine rT ok hr fun p e s m args below meth c T locs X hx hby hml hZ ho eT => ?_
  obtain ⟨cB, kB, i1, i2, i3⟩ := isOf hZ eT E
  obtain ⟨cc, kc, m1, m2, m3, -⟩ := M
  obtain ⟨k', q, ek⟩ := hZ.alike.2.2 _ _ m2
  have i1' := i1
  rw [hZ.alike.findClass] at i1'
  cases i1'.symm.trans m1
  obtain ⟨vm', X', st'⟩ := X.getClassOfI hx ho (mvT hZ w1) (mvT hZ w2) (Jvm.Free.ULB.iface_rides hZ.alike w3) (mvT hZ w4) (mvT hZ w5) (mvT hZ w6) (mvT hZ w7) (mvT hZ w8) (mvT hZ w9) hx1 hx2 hx3 hx4 i1 q i3 (mir := mr) (by rw [ek]; exact m3) (g := mkF m pc ls (.ref a :: st)) rfl (by rw [hml]; exact hls) rfl (hb hby hd) hf (by show 2 * 0 + _ + _ ≤ _; omega)
  exact ⟨_, X', eT, st'⟩
theorem r_ldcMir {mr : Addr} {C : String} {idx : Nat} (ok : Ok Z K EL own code maxL ret nm R l w Q) (hp : pc + 2 = pc') (hd : decode code pc = .ok (.ldc idx, 2)) (w1 : (Jvm.Cond.classLink own idx C).before a0 Z = true) (M : Mir Z C mr) (hr : Run Z K ph h n1 n2 pc' ls (.ref mr :: st)) : Run Z K ph h n1 n2 pc ls st := by
  subst hp
  refine rT ok hr fun p e s m args below meth c T locs X hx hby hml hZ ho eT => ?_
  obtain ⟨cc, kc, m1, m2, m3, -⟩ := M
  obtain ⟨k', q, ek⟩ := hZ.alike.2.2 _ _ m2
  have hev : (Term.mirror C).eval args s none [] s = some (.ref mr) := by
    have f1 : s.vm.findClass C = some cc := by rw [hZ.alike.findClass]; exact m1
    have f2 : k'.mirror = some mr := by rw [ek]; exact m3
    simp [Term.eval, f1, q, f2]
  obtain ⟨vm', X', st'⟩ := X.ldcMirror hx ho (mvT hZ w1) hev (g := mkF m pc ls st) rfl (hb hby hd)
  exact ⟨_, X', eT, st'⟩
theorem r_ph {ph' : Ph} (q : ∀ s v, ph s v → ph' s v) (hr : Run Z K ph' h n1 n2 pc ls st) : Run Z K ph h n1 n2 pc ls st := by
  obtain ⟨p, l1, e, R1, s, m, args, below, meth, c, w1', Q1⟩ := K
  intro T X W
  obtain ⟨vm0, k0, locs, S, hS, hk, hZ, hF, eT, hw⟩ := W
  exact hr T X ⟨vm0, k0, locs, S, hS, hk, hZ, hF, eT, q _ _ hw⟩

end Walk
theorem own_ne {a b : Addr} {n : Nat} (h : a < n) (e : b = n) : a ≠ b := fun q => Nat.lt_irrefl n (by rw [q, e] at h; exact h)
theorem own_ne' {a b : Addr} {n : Nat} (h : a < n) (e : n ≤ b) : a ≠ b := fun q => Nat.lt_irrefl n (Nat.lt_of_le_of_lt e (by rw [q] at h; exact h))

/-! new String(char[]) as a payer -/
theorem own_c255 (x : Int32) : ¬ nar .char ((x &&& (255 : Int32)).toUInt32.toUInt16.toUInt32.toInt32) < 0 ∧ ¬ (255 : Int32) < nar .char ((x &&& (255 : Int32)).toUInt32.toUInt16.toUInt32.toInt32) := by
  have a := c_mask x 255 8 (by decide) (by decide)
  have b := c_i2c (x &&& (255 : Int32))
  have c := c_i2c ((x &&& (255 : Int32)).toUInt32.toUInt16.toUInt32.toInt32)
  have e0 : (0 : Int32).toInt = 0 := rfl
  have e255 : (255 : Int32).toInt = 255 := rfl
  rw [Int32.lt_iff_toInt_lt, Int32.lt_iff_toInt_lt, e0, e255]
  show ¬ (((x &&& (255 : Int32)).toUInt32.toUInt16.toUInt32.toInt32).toUInt32.toUInt16.toUInt32.toInt32).toInt < 0 ∧ ¬ (255 : Int) < (((x &&& (255 : Int32)).toUInt32.toUInt16.toUInt32.toInt32).toUInt32.toUInt16.toUInt32.toInt32).toInt
  omega
abbrev strN : MethodName := ⟨"java/lang/String", "<init>", "([C)V"⟩
theorem payStr (l : Launch) (Z : State) (a0 : Array Value) (hw : ∀ d ∈ tables_1, d.before a0 Z = true) (R : Room) {W : Nat} (cap : Nat) {h : Heap} {x b : Addr} {kC : ClassId} {cs : List Int32} {d v0 c0 : Value} {z N : Int32} (hws : ∀ d ∈ StrChars.Road.words, d ∈ tables_1) {kI : Nat} (wi : (Jvm.Cond.instantiable "java/lang/String" kI).before a0 Z = true) (hx0 : Z.heap.size ≤ x) (E : Exa Z h x "java/lang/String") (V : Fld Z h x "java/lang/String" "value" "[B" v0) (C : Fld Z h x "java/lang/String" "coder" "B" c0) (K : Arv Z h b kC .char N (cs.map Value.int) d)
    (S : Sta Z Z.heap "java/lang/String" "COMPACT_STRINGS" "Z" (.int z)) (hz : ¬ z = 0) (hN : N = Int32.ofNat cs.length) (l0 : 0 < cs.length) (hcap : cs.length ≤ cap) (l2 : cap ≤ 4000) (hp : ∀ c ∈ cs, ¬ c < 0 ∧ ¬ (255 : Int32) < c) (hfr : 4 ≤ R.frames) (hlo : W + 65 ≤ R.locals) :
    Pay Z [] false l R strN 3 W #[.ref x, .ref b] h 1 cap (rU fun h' => Keep h h' [x] ∧ Exa Z h' x "java/lang/String" ∧ Fld Z h' x "java/lang/String" "coder" "B" (.int 0) ∧ ∃ (t : Addr) (kb : ClassId), Z.heap.size ≤ t ∧ h.size ≤ t ∧ ¬ t = x ∧ Fld Z h' x "java/lang/String" "value" "[B" (.ref t) ∧ Arv Z h' t kb .byte N ((cs.map fun c => c.toInt8.toInt32).map Value.int) (.int 0)) := by
  refine Pay.more (n := cs.length) (k := 1) ?_ (Nat.le_refl _) hcap
  intro p e below s args hZ _ X
  refine Back.mono (StrChars.Road.backV (n0 := Z.heap.size) hZ (fun d hd => hw d (hws d hd)) wi hx0 X.1 E V C K (S.ext X) hz rfl hN l0 (Nat.le_trans hcap l2) hp rfl hfr hlo) (fun A a q => q) (fun A a v B hp' hq => ?_)
  obtain ⟨L, ⟨q1, q2, q3, q4, q5, t, kb, q6, q7, q8, q9, q10⟩, r⟩ := hq
  exact ⟨L, ⟨⟨q1, q3, q4, q5, t, kb, q6, q7, q8, q9, q10⟩, q2, ext_keep X q3 (fun y hy => by cases List.mem_singleton.mp hy; exact hx0), q3.1⟩, r⟩

theorem pn_0 : plainName "com/example/anchorhold/anchorhold/FindingWarningPinLaw" = true := by first | (simp [plainName, overriddenIn]; done) | decide +kernel
theorem pn_1 : plainName "java/lang/String" = true := by first | (simp [plainName, overriddenIn]; done) | decide +kernel
theorem pn_2 : plainName "java/lang/StringUTF16" = true := by first | (simp [plainName, overriddenIn]; done) | decide +kernel
theorem pn_3 : plainName "com/example/anchorhold/anchorhold/Finding" = true := by first | (simp [plainName, overriddenIn]; done) | decide +kernel
theorem pn_4 : plainName "java/util/Map" = true := by first | (simp [plainName, overriddenIn]; done) | decide +kernel
theorem pn_5 : plainName "java/util/Collections" = true := by first | (simp [plainName, overriddenIn]; done) | decide +kernel
theorem pn_6 : plainName "java/util/Collections$UnmodifiableMap" = true := by first | (simp [plainName, overriddenIn]; done) | decide +kernel
theorem pd_0 : parseMethodDescriptor "(I)Lcom/example/anchorhold/anchorhold/Finding$Kind;" = some ⟨[.int], some (.object "com/example/anchorhold/anchorhold/Finding$Kind")⟩ := by decide +kernel
theorem pd_1 : parseMethodDescriptor "(IIII)Ljava/lang/String;" = some ⟨[.int, .int, .int, .int], some (.object "java/lang/String")⟩ := by decide +kernel
theorem pd_2 : parseMethodDescriptor "([C)V" = some ⟨[(.array .char)], none⟩ := by decide +kernel
theorem pd_3 : parseMethodDescriptor "([CIILjava/lang/Void;)V" = some ⟨[(.array .char), .int, .int, (.object "java/lang/Void")], none⟩ := by decide +kernel
theorem pd_4 : parseMethodDescriptor "()V" = some ⟨[], none⟩ := by decide +kernel
theorem pd_5 : parseMethodDescriptor "([CII)[B" = some ⟨[(.array .char), .int, .int], some (.array .byte)⟩ := by decide +kernel
theorem pd_6 : parseMethodDescriptor "([CI[BII)I" = some ⟨[(.array .char), .int, (.array .byte), .int, .int], some .int⟩ := by decide +kernel
theorem pd_7 : parseMethodDescriptor "([BI)B" = some ⟨[(.array .byte), .int], some .byte⟩ := by decide +kernel
theorem pd_8 : parseMethodDescriptor "(Lcom/example/anchorhold/anchorhold/Finding$Kind;Ljava/lang/String;)Lcom/example/anchorhold/anchorhold/Finding;" = some ⟨[(.object "com/example/anchorhold/anchorhold/Finding$Kind"), (.object "java/lang/String")], some (.object "com/example/anchorhold/anchorhold/Finding")⟩ := by decide +kernel
theorem pd_9 : parseMethodDescriptor "()Ljava/util/Map;" = some ⟨[], some (.object "java/util/Map")⟩ := by decide +kernel
theorem pd_10 : parseMethodDescriptor "(Lcom/example/anchorhold/anchorhold/Finding$Kind;Ljava/lang/String;Ljava/nio/file/Path;ILjava/lang/String;Ljava/util/Map;I)V" = some ⟨[(.object "com/example/anchorhold/anchorhold/Finding$Kind"), (.object "java/lang/String"), (.object "java/nio/file/Path"), .int, (.object "java/lang/String"), (.object "java/util/Map"), .int], none⟩ := by decide +kernel
theorem pd_11 : parseMethodDescriptor "(Ljava/util/Map;)Ljava/util/Map;" = some ⟨[(.object "java/util/Map")], some (.object "java/util/Map")⟩ := by decide +kernel
theorem pd_12 : parseMethodDescriptor "()Ljava/lang/Class;" = some ⟨[], some (.object "java/lang/Class")⟩ := by decide +kernel
theorem pd_13 : parseMethodDescriptor "(Ljava/util/Map;)V" = some ⟨[(.object "java/util/Map")], none⟩ := by decide +kernel
theorem pd_14 : parseMethodDescriptor "()Lcom/example/anchorhold/anchorhold/Finding$Kind;" = some ⟨[], some (.object "com/example/anchorhold/anchorhold/Finding$Kind")⟩ := by decide +kernel
theorem pd_15 : parseMethodDescriptor "()Ljava/lang/String;" = some ⟨[], some (.object "java/lang/String")⟩ := by decide +kernel
theorem pd_16 : parseMethodDescriptor "(Ljava/lang/Object;)Z" = some ⟨[(.object "java/lang/Object")], some .boolean⟩ := by decide +kernel
theorem pd_17 : parseMethodDescriptor "()I" = some ⟨[], some .int⟩ := by decide +kernel
theorem pd_18 : parseMethodDescriptor "(IIIII)Z" = some ⟨[.int, .int, .int, .int, .int], some .boolean⟩ := by decide +kernel
abbrev LW : String := "com/example/anchorhold/anchorhold/FindingWarningPinLaw"
abbrev FN : String := "com/example/anchorhold/anchorhold/Finding"
abbrev KD : String := "com/example/anchorhold/anchorhold/Finding$Kind"
abbrev KDd : String := "Lcom/example/anchorhold/anchorhold/Finding$Kind;"
abbrev ST : String := "java/lang/String"
abbrev MN : String := "java/util/ImmutableCollections$MapN"
abbrev UM : String := "java/util/Collections$UnmodifiableMap"
abbrev EL1 : Els := [("java/lang/String", 7)]
abbrev RZ : Room := { frames := 0, cells := 0, slots := 0, locals := 0 }
abbrev R1 : Room := { frames := 1, cells := 0, slots := 0, locals := 12 }
section Claim
theorem hEW (Z : State) (a0 : Array Value) (hw : ∀ d ∈ tables_1, d.before a0 Z = true) : EW Z a0 EL1 := EW.cons (hw _ (List.mem_of_getElem? (i := 117) rfl)) (by decide) EW.nil
theorem hatoms (Z : State) (a0 : Array Value) (hw : ∀ d ∈ tables_1, d.before a0 Z = true) : ∀ a ∈ Bundle.stringAtoms, a.before a0 Z = true := fun d hd => hw d ((by decide +kernel : ∀ d ∈ Bundle.stringAtoms, d ∈ tables_1) d hd)
theorem d1_0 : decode method_2_code 0 = .ok (.iload_n 0, 1) := by decide +kernel
theorem d1_1 : decode method_2_code 1 = .ok (.ldc 7, 2) := by decide +kernel
theorem d1_3 : decode method_2_code 3 = .ok (.iand, 1) := by decide +kernel
theorem d1_4 : decode method_2_code 4 = .ok (.bipush 6, 2) := by decide +kernel
theorem d1_6 : decode method_2_code 6 = .ok (.irem, 1) := by decide +kernel
theorem d1_7 : decode method_2_code 7 = .ok (.istore_n 1, 1) := by decide +kernel
theorem d1_8 : decode method_2_code 8 = .ok (.iload_n 1, 1) := by decide +kernel
theorem d1_9 : decode method_2_code 9 = .ok (.ifCond .ne 7, 3) := by decide +kernel
theorem d1_12 : decode method_2_code 12 = .ok (.getstatic 8, 3) := by decide +kernel
theorem d1_15 : decode method_2_code 15 = .ok (.areturn, 1) := by decide +kernel
theorem d1_16 : decode method_2_code 16 = .ok (.iload_n 1, 1) := by decide +kernel
theorem d1_17 : decode method_2_code 17 = .ok (.iconst 1, 1) := by decide +kernel
theorem d1_18 : decode method_2_code 18 = .ok (.if_icmp .ne 7, 3) := by decide +kernel
theorem d1_21 : decode method_2_code 21 = .ok (.getstatic 14, 3) := by decide +kernel
theorem d1_24 : decode method_2_code 24 = .ok (.areturn, 1) := by decide +kernel
theorem d1_25 : decode method_2_code 25 = .ok (.iload_n 1, 1) := by decide +kernel
theorem d1_26 : decode method_2_code 26 = .ok (.iconst 2, 1) := by decide +kernel
theorem d1_27 : decode method_2_code 27 = .ok (.if_icmp .ne 7, 3) := by decide +kernel
theorem d1_30 : decode method_2_code 30 = .ok (.getstatic 17, 3) := by decide +kernel
theorem d1_33 : decode method_2_code 33 = .ok (.areturn, 1) := by decide +kernel
theorem d1_34 : decode method_2_code 34 = .ok (.iload_n 1, 1) := by decide +kernel
theorem d1_35 : decode method_2_code 35 = .ok (.iconst 3, 1) := by decide +kernel
theorem d1_36 : decode method_2_code 36 = .ok (.if_icmp .ne 7, 3) := by decide +kernel
theorem d1_39 : decode method_2_code 39 = .ok (.getstatic 20, 3) := by decide +kernel
theorem d1_42 : decode method_2_code 42 = .ok (.areturn, 1) := by decide +kernel
theorem d1_43 : decode method_2_code 43 = .ok (.iload_n 1, 1) := by decide +kernel
theorem d1_44 : decode method_2_code 44 = .ok (.iconst 4, 1) := by decide +kernel
theorem d1_45 : decode method_2_code 45 = .ok (.if_icmp .ne 7, 3) := by decide +kernel
theorem d1_48 : decode method_2_code 48 = .ok (.getstatic 23, 3) := by decide +kernel
theorem d1_51 : decode method_2_code 51 = .ok (.areturn, 1) := by decide +kernel
theorem d1_52 : decode method_2_code 52 = .ok (.getstatic 26, 3) := by decide +kernel
theorem d1_55 : decode method_2_code 55 = .ok (.areturn, 1) := by decide +kernel
set_option maxRecDepth 65536 in
theorem rmK (l : Launch) (Z : State) (a0 : Array Value) (hw : ∀ d ∈ tables_1, d.before a0 Z = true) (p1 : Int32) (h0 : Heap) (c1 c2 c3 c4 c5 c6 : Addr) (S1 : Sta Z Z.heap KD "LIMIT_BELOW_RANGE" KDd (.ref c1)) (S2 : Sta Z Z.heap KD "STOP_RANGE_ABOVE_LIMIT" KDd (.ref c2)) (S3 : Sta Z Z.heap KD "DUPLICATE_CODE" KDd (.ref c3)) (S4 : Sta Z Z.heap KD "INTERVAL_INCOMPLETE" KDd (.ref c4)) (S5 : Sta Z Z.heap KD "LIMITS_ONLY" KDd (.ref c5)) (S6 : Sta Z Z.heap KD "INTERVALS_ONLY" KDd (.ref c6)) :
    Con l Z [] [] false (⟨"com/example/anchorhold/anchorhold/FindingWarningPinLaw", "kindOf", "(I)Lcom/example/anchorhold/anchorhold/Finding$Kind;"⟩ : MethodName) method_2_code 2 (some (.object "com/example/anchorhold/anchorhold/Finding$Kind")) RZ #[.int p1] h0 (rV fun x h => (∃ a, x = .ref a) ∧ h0 = h) := by
  refine body (ls := #[.val (.int p1), .unset]) (plainFor_of_name pn_0) (fun m => by first | (simp [entryFrame, mkF, argsToLocals, Value.category]; done) | rfl) fun K ok => ?_
  refine r_iloadN (pc' := 1) ok rfl d1_0 rfl ?_
  refine r_ldcI (pc' := 3) ok rfl d1_1 (hw _ (List.mem_of_getElem? (i := 4) rfl)) ?_
  refine r_iand (pc' := 4) ok rfl d1_3 ?_
  refine r_bipushV (pc' := 6) ok rfl (6 : Int32) d1_4 rfl ?_
  refine r_irem (pc' := 7) ok rfl d1_6 (by decide) ?_
  refine r_istoreN (pc' := 8) (ls' := fun z => #[.val (.int p1), .val (.int z)]) ok rfl d1_7 (fun _ => rfl) ?_
  intro v7 ev7
  refine r_iloadN (pc' := 9) ok rfl d1_8 rfl ?_
  refine r_if_ne (pc' := 12) (pcY := 16) ok rfl d1_9 (by decide) (by decide) ?_ ?_
  rotate_left
  · intro _
    refine r_getstatic (pc' := 15) ok rfl d1_12 (hw _ (List.mem_of_getElem? (i := 5) rfl)) Via.refl S1 ?_
    refine r_areturn ok d1_15 rfl rfl rfl (by decide) (by decide) ?_
    exact ⟨⟨_, rfl⟩, rfl⟩
  intro _
  refine r_iloadN (pc' := 17) ok rfl d1_16 rfl ?_
  refine r_iconstV (pc' := 18) ok rfl (1 : Int32) d1_17 rfl ?_
  refine r_icmp_ne (pc' := 21) (pcY := 25) ok rfl d1_18 (by decide) (by decide) ?_ ?_
  rotate_left
  · intro _
    refine r_getstatic (pc' := 24) ok rfl d1_21 (hw _ (List.mem_of_getElem? (i := 124) rfl)) Via.refl S2 ?_
    refine r_areturn ok d1_24 rfl rfl rfl (by decide) (by decide) ?_
    exact ⟨⟨_, rfl⟩, rfl⟩
  intro _
  refine r_iloadN (pc' := 26) ok rfl d1_25 rfl ?_
  refine r_iconstV (pc' := 27) ok rfl (2 : Int32) d1_26 rfl ?_
  refine r_icmp_ne (pc' := 30) (pcY := 34) ok rfl d1_27 (by decide) (by decide) ?_ ?_
  rotate_left
  · intro _
    refine r_getstatic (pc' := 33) ok rfl d1_30 (hw _ (List.mem_of_getElem? (i := 120) rfl)) Via.refl S3 ?_
    refine r_areturn ok d1_33 rfl rfl rfl (by decide) (by decide) ?_
    exact ⟨⟨_, rfl⟩, rfl⟩
  intro _
  refine r_iloadN (pc' := 35) ok rfl d1_34 rfl ?_
  refine r_iconstV (pc' := 36) ok rfl (3 : Int32) d1_35 rfl ?_
  refine r_icmp_ne (pc' := 39) (pcY := 43) ok rfl d1_36 (by decide) (by decide) ?_ ?_
  rotate_left
  · intro _
    refine r_getstatic (pc' := 42) ok rfl d1_39 (hw _ (List.mem_of_getElem? (i := 115) rfl)) Via.refl S4 ?_
    refine r_areturn ok d1_42 rfl rfl rfl (by decide) (by decide) ?_
    exact ⟨⟨_, rfl⟩, rfl⟩
  intro _
  refine r_iloadN (pc' := 44) ok rfl d1_43 rfl ?_
  refine r_iconstV (pc' := 45) ok rfl (4 : Int32) d1_44 rfl ?_
  refine r_icmp_ne (pc' := 48) (pcY := 52) ok rfl d1_45 (by decide) (by decide) ?_ ?_
  rotate_left
  · intro _
    refine r_getstatic (pc' := 51) ok rfl d1_48 (hw _ (List.mem_of_getElem? (i := 122) rfl)) Via.refl S5 ?_
    refine r_areturn ok d1_51 rfl rfl rfl (by decide) (by decide) ?_
    exact ⟨⟨_, rfl⟩, rfl⟩
  intro _
  refine r_getstatic (pc' := 55) ok rfl d1_52 (hw _ (List.mem_of_getElem? (i := 126) rfl)) Via.refl S6 ?_
  refine r_areturn ok d1_55 rfl rfl rfl (by decide) (by decide) ?_
  exact ⟨⟨_, rfl⟩, rfl⟩
theorem d2_0 : decode jdk_42_method_149_code 0 = .ok (.aload_n 0, 1) := by decide +kernel
theorem d2_1 : decode jdk_42_method_149_code 1 = .ok (.invokespecial 1, 3) := by decide +kernel
theorem d2_4 : decode jdk_42_method_149_code 4 = .ok (.iload_n 3, 1) := by decide +kernel
theorem d2_5 : decode jdk_42_method_149_code 5 = .ok (.ifCond .ne 22, 3) := by decide +kernel
theorem d2_8 : decode jdk_42_method_149_code 8 = .ok (.aload_n 0, 1) := by decide +kernel
theorem d2_9 : decode jdk_42_method_149_code 9 = .ok (.ldc 7, 2) := by decide +kernel
theorem d2_11 : decode jdk_42_method_149_code 11 = .ok (.getfield 9, 3) := by decide +kernel
theorem d2_14 : decode jdk_42_method_149_code 14 = .ok (.putfield 9, 3) := by decide +kernel
theorem d2_17 : decode jdk_42_method_149_code 17 = .ok (.aload_n 0, 1) := by decide +kernel
theorem d2_18 : decode jdk_42_method_149_code 18 = .ok (.ldc 7, 2) := by decide +kernel
theorem d2_20 : decode jdk_42_method_149_code 20 = .ok (.getfield 15, 3) := by decide +kernel
theorem d2_23 : decode jdk_42_method_149_code 23 = .ok (.putfield 15, 3) := by decide +kernel
theorem d2_26 : decode jdk_42_method_149_code 26 = .ok (.return_, 1) := by decide +kernel
abbrev R2 : Room := { frames := 1, cells := 2, slots := 4, locals := 12 }
set_option maxRecDepth 65536 in
theorem rmS2 (l : Launch) (Z : State) (a0 : Array Value) (hw : ∀ d ∈ tables_1, d.before a0 Z = true) (a1 a2 : Addr) (p3 : Int32) (u1 u2 : Value) (h0 : Heap) (E : Exa Z h0 a1 ST) (Fv : Fld Z h0 a1 ST "value" "[B" u1) (Fc : Fld Z h0 a1 ST "coder" "B" u2) (g : Z.heap.size ≤ a1) :
    Con l Z EL1 [] true (⟨"java/lang/String", "<init>", "([CIILjava/lang/Void;)V"⟩ : MethodName) jdk_42_method_149_code 6 none R2 #[.ref a1, .ref a2, .int p3, .int 0, .null] h0 (rU fun h => Keep h0 h [a1] ∧ Exa Z h a1 ST ∧ Fld Z h a1 ST "coder" "B" (.int 0) ∧ ∃ t kb, Fld Z h a1 ST "value" "[B" (.ref t) ∧ Arv Z h t kb .byte 0 [] (.int 0)) := by
  refine body (ls := #[.val (.ref a1), .val (.ref a2), .val (.int p3), .val (.int 0), .val .null, .unset]) (plainFor_of_name pn_1) (fun m => by first | (simp [entryFrame, mkF, argsToLocals, Value.category]; done) | rfl) fun K ok => ?_
  refine r_aloadN (pc' := 1) ok rfl d2_0 rfl rfl ?_
  refine r_init (pc' := 4) ok rfl d2_1 (hw _ (List.mem_of_getElem? (i := 22) rfl)) (hw _ (List.mem_of_getElem? (i := 23) rfl)) (hw _ (List.mem_of_getElem? (i := 24) rfl)) rfl (by decide) (Nat.le_of_ble_eq_true rfl) ?_
  refine r_iloadN (pc' := 5) ok rfl d2_4 rfl ?_
  refine r_if_ne (pc' := 8) (pcY := 27) ok rfl d2_5 (by decide) (by decide) ?_ ?_
  · intro hc
    exact absurd rfl hc
  intro _
  refine r_aloadN (pc' := 9) ok rfl d2_8 rfl rfl ?_
  refine r_ldcL (pc' := 11) ok rfl 0 d2_9 (hw _ (List.mem_of_getElem? (i := 117) rfl)) (hatoms Z a0 hw) (hEW Z a0 hw) (List.mem_singleton.mpr rfl) (fun _ _ q => q) (vs := []) (z := 0) ⟨by decide, rfl⟩ (by decide) rfl (by decide) (by decide) (by decide) (by decide) ?_
  intro h1 b1 t1 k1 X1 L1 Lc Lv La
  refine r_getfield (pc' := 14) (host := "") ok rfl d2_11 (Or.inl (hw _ (List.mem_of_getElem? (i := 39) rfl))) Via.refl Lv ?_
  replace E := E.ext X1
  replace Fv := Fv.ext X1
  replace Fc := Fc.ext X1
  have ne := Exa.neArv E La (hw _ (List.mem_of_getElem? (i := 13) rfl))
  refine r_putfield (pc' := 17) (host := "") ok rfl d2_14 (Or.inl (hw _ (List.mem_of_getElem? (i := 39) rfl))) Via.refl (Or.inr ⟨(hw _ (List.mem_of_getElem? (i := 40) rfl)), rfl, rfl⟩) (hw _ (List.mem_of_getElem? (i := 13) rfl)) Fv E g (ty := (.array .byte)) (by decide) rfl rfl ?_
  intro h3 W3 F3 E3
  replace Fc := Fc.other W3 (Or.inr (slot_ne (Or.inr (hw _ (List.mem_of_getElem? (i := 38) rfl))) (Or.inr (hw _ (List.mem_of_getElem? (i := 40) rfl))) (by decide) (t := .byte) (t' := (.array .byte)) (by decide) (by decide)))
  replace Lc := Lc.other W3 (Or.inr (slot_ne (Or.inr (hw _ (List.mem_of_getElem? (i := 38) rfl))) (Or.inr (hw _ (List.mem_of_getElem? (i := 40) rfl))) (by decide) (t := .byte) (t' := (.array .byte)) (by decide) (by decide)))
  replace La := La.other W3 ne.symm
  refine r_aloadN (pc' := 18) ok rfl d2_17 rfl rfl ?_
  refine r_ldcAgain (pc' := 20) (a := b1) ok rfl d2_18 (hw _ (List.mem_of_getElem? (i := 117) rfl)) (fun _ _ q => q) ?_
  refine r_getfield (pc' := 23) (host := "") ok rfl d2_20 (Or.inl (hw _ (List.mem_of_getElem? (i := 37) rfl))) Via.refl Lc ?_
  refine r_putfieldN (pc' := 26) ok rfl d2_23 (hw _ (List.mem_of_getElem? (i := 37) rfl)) Via.refl (Or.inr ⟨(hw _ (List.mem_of_getElem? (i := 38) rfl)), rfl, rfl⟩) (hw _ (List.mem_of_getElem? (i := 13) rfl)) Fc E3 g (ty := .byte) (by decide) rfl (by decide) ?_
  intro h4 W4 F4 E4
  replace F3 := F3.other W4 (Or.inr (slot_ne (Or.inr (hw _ (List.mem_of_getElem? (i := 40) rfl))) (Or.inr (hw _ (List.mem_of_getElem? (i := 38) rfl))) (by decide) (t := (.array .byte)) (t' := .byte) (by decide) (by decide)))
  replace La := La.other W4 ne.symm
  refine r_return ok d2_26 ?_ (by decide) (by decide)
  exact ⟨(((Keep.refl h0 [a1]).ext X1).wr W3 (Or.inl (List.mem_singleton.mpr rfl))).wr W4 (Or.inl (List.mem_singleton.mpr rfl)), E4, F4, t1, k1, F3, La⟩
theorem d3_0 : decode jdk_42_method_3_code 0 = .ok (.aload_n 0, 1) := by decide +kernel
theorem d3_1 : decode jdk_42_method_3_code 1 = .ok (.aload_n 1, 1) := by decide +kernel
theorem d3_2 : decode jdk_42_method_3_code 2 = .ok (.iconst 0, 1) := by decide +kernel
theorem d3_3 : decode jdk_42_method_3_code 3 = .ok (.aload_n 1, 1) := by decide +kernel
theorem d3_4 : decode jdk_42_method_3_code 4 = .ok (.arraylength, 1) := by decide +kernel
theorem d3_5 : decode jdk_42_method_3_code 5 = .ok (.aconst_null, 1) := by decide +kernel
theorem d3_6 : decode jdk_42_method_3_code 6 = .ok (.invokespecial 27, 3) := by decide +kernel
theorem d3_9 : decode jdk_42_method_3_code 9 = .ok (.return_, 1) := by decide +kernel
abbrev R3 : Room := { frames := 2, cells := 2, slots := 4, locals := 30 }
set_option maxRecDepth 65536 in
theorem rmS1 (l : Launch) (Z : State) (a0 : Array Value) (hw : ∀ d ∈ tables_1, d.before a0 Z = true) (a1 a2 : Addr) (kc : ClassId) (u1 u2 : Value) (h0 : Heap) (E : Exa Z h0 a1 ST) (Fv : Fld Z h0 a1 ST "value" "[B" u1) (Fc : Fld Z h0 a1 ST "coder" "B" u2) (g : Z.heap.size ≤ a1) (V : Arv Z h0 a2 kc .char 0 [] (.int 0)) :
    Con l Z EL1 [] true (⟨"java/lang/String", "<init>", "([C)V"⟩ : MethodName) jdk_42_method_3_code 2 none R3 #[.ref a1, .ref a2] h0 (rU fun h => Keep h0 h [a1] ∧ Exa Z h a1 ST ∧ Fld Z h a1 ST "coder" "B" (.int 0) ∧ ∃ t kb, Fld Z h a1 ST "value" "[B" (.ref t) ∧ Arv Z h t kb .byte 0 [] (.int 0)) := by
  refine body (ls := #[.val (.ref a1), .val (.ref a2)]) (plainFor_of_name pn_1) (fun m => by first | (simp [entryFrame, mkF, argsToLocals, Value.category]; done) | rfl) fun K ok => ?_
  refine r_aloadN (pc' := 1) ok rfl d3_0 rfl rfl ?_
  refine r_aloadN (pc' := 2) ok rfl d3_1 rfl rfl ?_
  refine r_iconstV (pc' := 3) ok rfl (0 : Int32) d3_2 rfl ?_
  refine r_aloadN (pc' := 4) ok rfl d3_3 rfl rfl ?_
  refine r_arraylength (pc' := 5) ok rfl d3_4 V ?_
  refine r_aconst_null (pc' := 6) ok rfl d3_5 ?_
  refine r_special (pc' := 9) ok rfl d3_6 rfl (hw _ (List.mem_of_getElem? (i := 18) rfl)) (hw _ (List.mem_of_getElem? (i := 19) rfl)) (hw _ (List.mem_of_getElem? (i := 21) rfl)) (by decide) pd_3 (Con.pay (W := 0) (rmS2 l Z a0 hw a1 a2 0 u1 u2 h0 E Fv Fc g) (hEW Z a0 hw) (hw _ (List.mem_of_getElem? (i := 21) rfl)) (hw _ (List.mem_of_getElem? (i := 14) rfl)) (by decide) (by decide)) (fun _ => rfl) (Or.inr ⟨rfl, fun _ _ q => q⟩) rfl (argsL := [(.ref a2), .int _, .int _, .null]) (rest := []) rfl rfl rfl (Nat.le_of_ble_eq_true rfl) (by decide) (by decide) (cU fun h1 q1 le1 => ?_)
  refine r_return ok d3_9 ?_ (by decide) (by decide)
  exact q1
theorem d4_0 : decode method_3_code 0 = .ok (.iload_n 0, 1) := by decide +kernel
theorem d4_1 : decode method_3_code 1 = .ok (.iconst 3, 1) := by decide +kernel
theorem d4_2 : decode method_3_code 2 = .ok (.iand, 1) := by decide +kernel
theorem d4_3 : decode method_3_code 3 = .ok (.istore 4, 2) := by decide +kernel
theorem d4_5 : decode method_3_code 5 = .ok (.iload_n 1, 1) := by decide +kernel
theorem d4_6 : decode method_3_code 6 = .ok (.sipush 255, 3) := by decide +kernel
theorem d4_9 : decode method_3_code 9 = .ok (.iand, 1) := by decide +kernel
theorem d4_10 : decode method_3_code 10 = .ok (.i2c, 1) := by decide +kernel
theorem d4_11 : decode method_3_code 11 = .ok (.istore 5, 2) := by decide +kernel
theorem d4_13 : decode method_3_code 13 = .ok (.iload_n 2, 1) := by decide +kernel
theorem d4_14 : decode method_3_code 14 = .ok (.sipush 255, 3) := by decide +kernel
theorem d4_17 : decode method_3_code 17 = .ok (.iand, 1) := by decide +kernel
theorem d4_18 : decode method_3_code 18 = .ok (.i2c, 1) := by decide +kernel
theorem d4_19 : decode method_3_code 19 = .ok (.istore 6, 2) := by decide +kernel
theorem d4_21 : decode method_3_code 21 = .ok (.iload_n 3, 1) := by decide +kernel
theorem d4_22 : decode method_3_code 22 = .ok (.sipush 255, 3) := by decide +kernel
theorem d4_25 : decode method_3_code 25 = .ok (.iand, 1) := by decide +kernel
theorem d4_26 : decode method_3_code 26 = .ok (.i2c, 1) := by decide +kernel
theorem d4_27 : decode method_3_code 27 = .ok (.istore 7, 2) := by decide +kernel
theorem d4_29 : decode method_3_code 29 = .ok (.iload 4, 2) := by decide +kernel
theorem d4_31 : decode method_3_code 31 = .ok (.ifCond .ne 14, 3) := by decide +kernel
theorem d4_34 : decode method_3_code 34 = .ok (.new 29, 3) := by decide +kernel
theorem d4_37 : decode method_3_code 37 = .ok (.dup, 1) := by decide +kernel
theorem d4_38 : decode method_3_code 38 = .ok (.iconst 0, 1) := by decide +kernel
theorem d4_39 : decode method_3_code 39 = .ok (.newarray .char, 2) := by decide +kernel
theorem d4_41 : decode method_3_code 41 = .ok (.invokespecial 31, 3) := by decide +kernel
theorem d4_44 : decode method_3_code 44 = .ok (.areturn, 1) := by decide +kernel
theorem d4_45 : decode method_3_code 45 = .ok (.iload 4, 2) := by decide +kernel
theorem d4_47 : decode method_3_code 47 = .ok (.iconst 1, 1) := by decide +kernel
theorem d4_48 : decode method_3_code 48 = .ok (.if_icmp .ne 24, 3) := by decide +kernel
theorem d4_51 : decode method_3_code 51 = .ok (.iconst 1, 1) := by decide +kernel
theorem d4_52 : decode method_3_code 52 = .ok (.newarray .char, 2) := by decide +kernel
theorem d4_54 : decode method_3_code 54 = .ok (.astore 8, 2) := by decide +kernel
theorem d4_56 : decode method_3_code 56 = .ok (.aload 8, 2) := by decide +kernel
theorem d4_58 : decode method_3_code 58 = .ok (.iconst 0, 1) := by decide +kernel
theorem d4_59 : decode method_3_code 59 = .ok (.iload 5, 2) := by decide +kernel
theorem d4_61 : decode method_3_code 61 = .ok (.castore, 1) := by decide +kernel
theorem d4_62 : decode method_3_code 62 = .ok (.new 29, 3) := by decide +kernel
theorem d4_65 : decode method_3_code 65 = .ok (.dup, 1) := by decide +kernel
theorem d4_66 : decode method_3_code 66 = .ok (.aload 8, 2) := by decide +kernel
theorem d4_68 : decode method_3_code 68 = .ok (.invokespecial 31, 3) := by decide +kernel
theorem d4_71 : decode method_3_code 71 = .ok (.areturn, 1) := by decide +kernel
theorem d4_72 : decode method_3_code 72 = .ok (.iload 4, 2) := by decide +kernel
theorem d4_74 : decode method_3_code 74 = .ok (.iconst 2, 1) := by decide +kernel
theorem d4_75 : decode method_3_code 75 = .ok (.if_icmp .ne 30, 3) := by decide +kernel
theorem d4_78 : decode method_3_code 78 = .ok (.iconst 2, 1) := by decide +kernel
theorem d4_79 : decode method_3_code 79 = .ok (.newarray .char, 2) := by decide +kernel
theorem d4_81 : decode method_3_code 81 = .ok (.astore 8, 2) := by decide +kernel
theorem d4_83 : decode method_3_code 83 = .ok (.aload 8, 2) := by decide +kernel
theorem d4_85 : decode method_3_code 85 = .ok (.iconst 0, 1) := by decide +kernel
theorem d4_86 : decode method_3_code 86 = .ok (.iload 5, 2) := by decide +kernel
theorem d4_88 : decode method_3_code 88 = .ok (.castore, 1) := by decide +kernel
theorem d4_89 : decode method_3_code 89 = .ok (.aload 8, 2) := by decide +kernel
theorem d4_91 : decode method_3_code 91 = .ok (.iconst 1, 1) := by decide +kernel
theorem d4_92 : decode method_3_code 92 = .ok (.iload 6, 2) := by decide +kernel
theorem d4_94 : decode method_3_code 94 = .ok (.castore, 1) := by decide +kernel
theorem d4_95 : decode method_3_code 95 = .ok (.new 29, 3) := by decide +kernel
theorem d4_98 : decode method_3_code 98 = .ok (.dup, 1) := by decide +kernel
theorem d4_99 : decode method_3_code 99 = .ok (.aload 8, 2) := by decide +kernel
theorem d4_101 : decode method_3_code 101 = .ok (.invokespecial 31, 3) := by decide +kernel
theorem d4_104 : decode method_3_code 104 = .ok (.areturn, 1) := by decide +kernel
theorem d4_105 : decode method_3_code 105 = .ok (.iconst 3, 1) := by decide +kernel
theorem d4_106 : decode method_3_code 106 = .ok (.newarray .char, 2) := by decide +kernel
theorem d4_108 : decode method_3_code 108 = .ok (.astore 8, 2) := by decide +kernel
theorem d4_110 : decode method_3_code 110 = .ok (.aload 8, 2) := by decide +kernel
theorem d4_112 : decode method_3_code 112 = .ok (.iconst 0, 1) := by decide +kernel
theorem d4_113 : decode method_3_code 113 = .ok (.iload 5, 2) := by decide +kernel
theorem d4_115 : decode method_3_code 115 = .ok (.castore, 1) := by decide +kernel
theorem d4_116 : decode method_3_code 116 = .ok (.aload 8, 2) := by decide +kernel
theorem d4_118 : decode method_3_code 118 = .ok (.iconst 1, 1) := by decide +kernel
theorem d4_119 : decode method_3_code 119 = .ok (.iload 6, 2) := by decide +kernel
theorem d4_121 : decode method_3_code 121 = .ok (.castore, 1) := by decide +kernel
theorem d4_122 : decode method_3_code 122 = .ok (.aload 8, 2) := by decide +kernel
theorem d4_124 : decode method_3_code 124 = .ok (.iconst 2, 1) := by decide +kernel
theorem d4_125 : decode method_3_code 125 = .ok (.iload 7, 2) := by decide +kernel
theorem d4_127 : decode method_3_code 127 = .ok (.castore, 1) := by decide +kernel
theorem d4_128 : decode method_3_code 128 = .ok (.new 29, 3) := by decide +kernel
theorem d4_131 : decode method_3_code 131 = .ok (.dup, 1) := by decide +kernel
theorem d4_132 : decode method_3_code 132 = .ok (.aload 8, 2) := by decide +kernel
theorem d4_134 : decode method_3_code 134 = .ok (.invokespecial 31, 3) := by decide +kernel
theorem d4_137 : decode method_3_code 137 = .ok (.areturn, 1) := by decide +kernel
abbrev R4 : Room := { frames := 4, cells := 4, slots := 11, locals := 66 }
set_option maxRecDepth 65536 in
theorem rmStr (l : Launch) (Z : State) (a0 : Array Value) (hw : ∀ d ∈ tables_1, d.before a0 Z = true) (p1 p2 p3 p4 : Int32) (G1 : Int32) (S1 : Sta Z Z.heap ST "COMPACT_STRINGS" "Z" (.int G1)) (P1 : ¬ G1 = 0) (h0 : Heap) :
    Con l Z EL1 [] true (⟨"com/example/anchorhold/anchorhold/FindingWarningPinLaw", "str", "(IIII)Ljava/lang/String;"⟩ : MethodName) method_3_code 9 (some (.object "java/lang/String")) R4 #[.int p1, .int p2, .int p3, .int p4] h0 (rV fun x h => ∃ a, x = .ref a ∧ Exa Z h a ST) := by
  refine body (ls := #[.val (.int p1), .val (.int p2), .val (.int p3), .val (.int p4), .unset, .unset, .unset, .unset, .unset]) (plainFor_of_name pn_0) (fun m => by first | (simp [entryFrame, mkF, argsToLocals, Value.category]; done) | rfl) fun K ok => ?_
  refine r_iloadN (pc' := 1) ok rfl d4_0 rfl ?_
  refine r_iconstV (pc' := 2) ok rfl (3 : Int32) d4_1 rfl ?_
  refine r_iand (pc' := 3) ok rfl d4_2 ?_
  refine r_istore (pc' := 5) (ls' := fun z => #[.val (.int p1), .val (.int p2), .val (.int p3), .val (.int p4), .val (.int z), .unset, .unset, .unset, .unset]) ok rfl d4_3 (fun _ => rfl) ?_
  intro v3 ev3
  refine r_iloadN (pc' := 6) ok rfl d4_5 rfl ?_
  refine r_sipushV (pc' := 9) ok rfl (255 : Int32) d4_6 rfl ?_
  refine r_iand (pc' := 10) ok rfl d4_9 ?_
  refine r_i2c (pc' := 11) ok rfl d4_10 ?_
  refine r_istore (pc' := 13) (ls' := fun z => #[.val (.int p1), .val (.int p2), .val (.int p3), .val (.int p4), .val (.int v3), .val (.int z), .unset, .unset, .unset]) ok rfl d4_11 (fun _ => rfl) ?_
  intro v11 ev11
  refine r_iloadN (pc' := 14) ok rfl d4_13 rfl ?_
  refine r_sipushV (pc' := 17) ok rfl (255 : Int32) d4_14 rfl ?_
  refine r_iand (pc' := 18) ok rfl d4_17 ?_
  refine r_i2c (pc' := 19) ok rfl d4_18 ?_
  refine r_istore (pc' := 21) (ls' := fun z => #[.val (.int p1), .val (.int p2), .val (.int p3), .val (.int p4), .val (.int v3), .val (.int v11), .val (.int z), .unset, .unset]) ok rfl d4_19 (fun _ => rfl) ?_
  intro v19 ev19
  refine r_iloadN (pc' := 22) ok rfl d4_21 rfl ?_
  refine r_sipushV (pc' := 25) ok rfl (255 : Int32) d4_22 rfl ?_
  refine r_iand (pc' := 26) ok rfl d4_25 ?_
  refine r_i2c (pc' := 27) ok rfl d4_26 ?_
  refine r_istore (pc' := 29) (ls' := fun z => #[.val (.int p1), .val (.int p2), .val (.int p3), .val (.int p4), .val (.int v3), .val (.int v11), .val (.int v19), .val (.int z), .unset]) ok rfl d4_27 (fun _ => rfl) ?_
  intro v27 ev27
  refine r_iload (pc' := 31) ok rfl d4_29 rfl ?_
  refine r_if_ne (pc' := 34) (pcY := 45) ok rfl d4_31 (by decide) (by decide) ?_ ?_
  rotate_left
  · intro _
    refine r_new (pc' := 37) ok rfl d4_34 (hw _ (List.mem_of_getElem? (i := 12) rfl)) (hw _ (List.mem_of_getElem? (i := 13) rfl)) (hw _ (List.mem_of_getElem? (i := 14) rfl)) (by decide) (by decide) ?_
    intro h5 b5 g5 z5 E5 A5 D5
    have Fc := D5 (Or.inr (hw _ (List.mem_of_getElem? (i := 38) rfl))) (ty := .byte) (by decide)
    have Fv := D5 (Or.inr (hw _ (List.mem_of_getElem? (i := 40) rfl))) (ty := (.array .byte)) (by decide)
    refine r_dup (pc' := 38) ok rfl d4_37 rfl ?_
    refine r_iconstV (pc' := 39) ok rfl (0 : Int32) d4_38 rfl ?_
    refine r_newarray (pc' := 41) ok rfl (0) d4_39 (hw _ (List.mem_of_getElem? (i := 11) rfl)) (by decide) (by decide) (by decide) (by decide) (by decide) ?_
    intro h6 b6 k6 g6 z6 E6 V6
    refine r_special (pc' := 44) ok rfl d4_41 rfl (hw _ (List.mem_of_getElem? (i := 15) rfl)) (hw _ (List.mem_of_getElem? (i := 16) rfl)) (hw _ (List.mem_of_getElem? (i := 17) rfl)) (by decide) pd_2 (Con.pay (W := 1) (rmS1 l Z a0 hw b5 b6 k6 _ _ h6 (A5.ext E6) (Fv.ext E6) (Fc.ext E6) z5 V6) (hEW Z a0 hw) (hw _ (List.mem_of_getElem? (i := 17) rfl)) (hw _ (List.mem_of_getElem? (i := 14) rfl)) (by decide) (by decide)) (fun _ => rfl) (Or.inr ⟨rfl, fun _ _ q => q⟩) rfl (argsL := [(.ref b6)]) (rest := [(.ref b5)]) rfl rfl rfl (Nat.le_of_ble_eq_true rfl) (by decide) (by decide) (cU fun h7 q7 le7 => ?_)
    refine r_areturn ok d4_44 rfl rfl rfl (by decide) (by decide) ?_
    exact ⟨b5, rfl, q7.2.1⟩
  intro _
  refine r_iload (pc' := 47) ok rfl d4_45 rfl ?_
  refine r_iconstV (pc' := 48) ok rfl (1 : Int32) d4_47 rfl ?_
  refine r_icmp_ne (pc' := 51) (pcY := 72) ok rfl d4_48 (by decide) (by decide) ?_ ?_
  rotate_left
  · intro _
    refine r_iconstV (pc' := 52) ok rfl (1 : Int32) d4_51 rfl ?_
    refine r_newarray (pc' := 54) ok rfl (1) d4_52 (hw _ (List.mem_of_getElem? (i := 11) rfl)) (by decide) (by decide) (by decide) (by decide) (by decide) ?_
    intro h5 b5 k5 g5 z5 E5 V5
    replace V5 := V5.pad (pad_rep [] _ 1)
    refine r_astore (pc' := 56) (ls' := #[.val (.int p1), .val (.int p2), .val (.int p3), .val (.int p4), .val (.int v3), .val (.int v11), .val (.int v19), .val (.int v27), .val (.ref b5)]) ok rfl d4_54 rfl rfl ?_
    refine r_aload (pc' := 58) ok rfl d4_56 rfl rfl ?_
    refine r_iconstV (pc' := 59) ok rfl (0 : Int32) d4_58 rfl ?_
    refine r_iload (pc' := 61) ok rfl d4_59 rfl ?_
    refine r_castore (pc' := 62) ok rfl 0 d4_61 V5 z5 (by decide) rfl (by simp) ?_
    intro h6 W6 V6
    refine r_new (pc' := 65) ok rfl d4_62 (hw _ (List.mem_of_getElem? (i := 12) rfl)) (hw _ (List.mem_of_getElem? (i := 13) rfl)) (hw _ (List.mem_of_getElem? (i := 14) rfl)) (by decide) (by decide) ?_
    intro h7 b7 g7 z7 E7 A7 D7
    have Fc := D7 (Or.inr (hw _ (List.mem_of_getElem? (i := 38) rfl))) (ty := .byte) (by decide)
    have Fv := D7 (Or.inr (hw _ (List.mem_of_getElem? (i := 40) rfl))) (ty := (.array .byte)) (by decide)
    refine r_dup (pc' := 66) ok rfl d4_65 rfl ?_
    refine r_aload (pc' := 68) ok rfl d4_66 rfl rfl ?_
    refine r_special (pc' := 71) ok rfl d4_68 rfl (hw _ (List.mem_of_getElem? (i := 15) rfl)) (hw _ (List.mem_of_getElem? (i := 16) rfl)) (hw _ (List.mem_of_getElem? (i := 17) rfl)) (by decide) pd_2 (payStr l Z a0 hw R4 (W := 1) (cs := [_]) 1 (by decide +kernel) (hw _ (List.mem_of_getElem? (i := 13) rfl)) z7 A7 Fv Fc (V6.ext E7) S1 P1 rfl (by simp) (by simp) (by decide) (by intro c hc; cases List.mem_singleton.mp hc; rw [ev11]; exact own_c255 _) (by decide) (by decide)) (fun q => nomatch q) (Or.inl rfl) rfl (argsL := [(.ref b5)]) (rest := [(.ref b7)]) rfl rfl rfl (Nat.le_of_ble_eq_true rfl) (by decide) (by decide) (cU fun h8 q8 le8 => ?_)
    refine r_areturn ok d4_71 rfl rfl rfl (by decide) (by decide) ?_
    exact ⟨b7, rfl, q8.2.1⟩
  intro _
  refine r_iload (pc' := 74) ok rfl d4_72 rfl ?_
  refine r_iconstV (pc' := 75) ok rfl (2 : Int32) d4_74 rfl ?_
  refine r_icmp_ne (pc' := 78) (pcY := 105) ok rfl d4_75 (by decide) (by decide) ?_ ?_
  rotate_left
  · intro _
    refine r_iconstV (pc' := 79) ok rfl (2 : Int32) d4_78 rfl ?_
    refine r_newarray (pc' := 81) ok rfl (2) d4_79 (hw _ (List.mem_of_getElem? (i := 11) rfl)) (by decide) (by decide) (by decide) (by decide) (by decide) ?_
    intro h5 b5 k5 g5 z5 E5 V5
    replace V5 := V5.pad (pad_rep [] _ 2)
    refine r_astore (pc' := 83) (ls' := #[.val (.int p1), .val (.int p2), .val (.int p3), .val (.int p4), .val (.int v3), .val (.int v11), .val (.int v19), .val (.int v27), .val (.ref b5)]) ok rfl d4_81 rfl rfl ?_
    refine r_aload (pc' := 85) ok rfl d4_83 rfl rfl ?_
    refine r_iconstV (pc' := 86) ok rfl (0 : Int32) d4_85 rfl ?_
    refine r_iload (pc' := 88) ok rfl d4_86 rfl ?_
    refine r_castore (pc' := 89) ok rfl 0 d4_88 V5 z5 (by decide) rfl (by simp) ?_
    intro h6 W6 V6
    refine r_aload (pc' := 91) ok rfl d4_89 rfl rfl ?_
    refine r_iconstV (pc' := 92) ok rfl (1 : Int32) d4_91 rfl ?_
    refine r_iload (pc' := 94) ok rfl d4_92 rfl ?_
    refine r_castore (pc' := 95) ok rfl 1 d4_94 V6 z5 (by decide) rfl (by simp) ?_
    intro h9 W9 V9
    refine r_new (pc' := 98) ok rfl d4_95 (hw _ (List.mem_of_getElem? (i := 12) rfl)) (hw _ (List.mem_of_getElem? (i := 13) rfl)) (hw _ (List.mem_of_getElem? (i := 14) rfl)) (by decide) (by decide) ?_
    intro h7 b7 g7 z7 E7 A7 D7
    have Fc := D7 (Or.inr (hw _ (List.mem_of_getElem? (i := 38) rfl))) (ty := .byte) (by decide)
    have Fv := D7 (Or.inr (hw _ (List.mem_of_getElem? (i := 40) rfl))) (ty := (.array .byte)) (by decide)
    refine r_dup (pc' := 99) ok rfl d4_98 rfl ?_
    refine r_aload (pc' := 101) ok rfl d4_99 rfl rfl ?_
    refine r_special (pc' := 104) ok rfl d4_101 rfl (hw _ (List.mem_of_getElem? (i := 15) rfl)) (hw _ (List.mem_of_getElem? (i := 16) rfl)) (hw _ (List.mem_of_getElem? (i := 17) rfl)) (by decide) pd_2 (payStr l Z a0 hw R4 (W := 1) (cs := [_, _]) 2 (by decide +kernel) (hw _ (List.mem_of_getElem? (i := 13) rfl)) z7 A7 Fv Fc (V9.ext E7) S1 P1 rfl (by simp) (by simp) (by decide) (by intro c hc; simp only [List.mem_cons, List.not_mem_nil, or_false] at hc; rcases hc with rfl | rfl <;> simp only [ev11, ev19] <;> exact own_c255 _) (by decide) (by decide)) (fun q => nomatch q) (Or.inl rfl) rfl (argsL := [(.ref b5)]) (rest := [(.ref b7)]) rfl rfl rfl (Nat.le_of_ble_eq_true rfl) (by decide) (by decide) (cU fun h8 q8 le8 => ?_)
    refine r_areturn ok d4_104 rfl rfl rfl (by decide) (by decide) ?_
    exact ⟨b7, rfl, q8.2.1⟩
  intro _
  refine r_iconstV (pc' := 106) ok rfl (3 : Int32) d4_105 rfl ?_
  refine r_newarray (pc' := 108) ok rfl (3) d4_106 (hw _ (List.mem_of_getElem? (i := 11) rfl)) (by decide) (by decide) (by decide) (by decide) (by decide) ?_
  intro h5 b5 k5 g5 z5 E5 V5
  replace V5 := V5.pad (pad_rep [] _ 3)
  refine r_astore (pc' := 110) (ls' := #[.val (.int p1), .val (.int p2), .val (.int p3), .val (.int p4), .val (.int v3), .val (.int v11), .val (.int v19), .val (.int v27), .val (.ref b5)]) ok rfl d4_108 rfl rfl ?_
  refine r_aload (pc' := 112) ok rfl d4_110 rfl rfl ?_
  refine r_iconstV (pc' := 113) ok rfl (0 : Int32) d4_112 rfl ?_
  refine r_iload (pc' := 115) ok rfl d4_113 rfl ?_
  refine r_castore (pc' := 116) ok rfl 0 d4_115 V5 z5 (by decide) rfl (by simp) ?_
  intro h6 W6 V6
  refine r_aload (pc' := 118) ok rfl d4_116 rfl rfl ?_
  refine r_iconstV (pc' := 119) ok rfl (1 : Int32) d4_118 rfl ?_
  refine r_iload (pc' := 121) ok rfl d4_119 rfl ?_
  refine r_castore (pc' := 122) ok rfl 1 d4_121 V6 z5 (by decide) rfl (by simp) ?_
  intro h9 W9 V9
  refine r_aload (pc' := 124) ok rfl d4_122 rfl rfl ?_
  refine r_iconstV (pc' := 125) ok rfl (2 : Int32) d4_124 rfl ?_
  refine r_iload (pc' := 127) ok rfl d4_125 rfl ?_
  refine r_castore (pc' := 128) ok rfl 2 d4_127 V9 z5 (by decide) rfl (by simp) ?_
  intro h10 W10 V10
  refine r_new (pc' := 131) ok rfl d4_128 (hw _ (List.mem_of_getElem? (i := 12) rfl)) (hw _ (List.mem_of_getElem? (i := 13) rfl)) (hw _ (List.mem_of_getElem? (i := 14) rfl)) (by decide) (by decide) ?_
  intro h7 b7 g7 z7 E7 A7 D7
  have Fc := D7 (Or.inr (hw _ (List.mem_of_getElem? (i := 38) rfl))) (ty := .byte) (by decide)
  have Fv := D7 (Or.inr (hw _ (List.mem_of_getElem? (i := 40) rfl))) (ty := (.array .byte)) (by decide)
  refine r_dup (pc' := 132) ok rfl d4_131 rfl ?_
  refine r_aload (pc' := 134) ok rfl d4_132 rfl rfl ?_
  refine r_special (pc' := 137) ok rfl d4_134 rfl (hw _ (List.mem_of_getElem? (i := 15) rfl)) (hw _ (List.mem_of_getElem? (i := 16) rfl)) (hw _ (List.mem_of_getElem? (i := 17) rfl)) (by decide) pd_2 (payStr l Z a0 hw R4 (W := 1) (cs := [_, _, _]) 3 (by decide +kernel) (hw _ (List.mem_of_getElem? (i := 13) rfl)) z7 A7 Fv Fc (V10.ext E7) S1 P1 rfl (by simp) (by simp) (by decide) (by intro c hc; simp only [List.mem_cons, List.not_mem_nil, or_false] at hc; rcases hc with rfl | rfl | rfl <;> simp only [ev11, ev19, ev27] <;> exact own_c255 _) (by decide) (by decide)) (fun q => nomatch q) (Or.inl rfl) rfl (argsL := [(.ref b5)]) (rest := [(.ref b7)]) rfl rfl rfl (Nat.le_of_ble_eq_true rfl) (by decide) (by decide) (cU fun h8 q8 le8 => ?_)
  refine r_areturn ok d4_137 rfl rfl rfl (by decide) (by decide) ?_
  exact ⟨b7, rfl, q8.2.1⟩
theorem d5_0 : decode jdk_72_method_26_code 0 = .ok (.getstatic 81, 3) := by decide +kernel
theorem d5_3 : decode jdk_72_method_26_code 3 = .ok (.areturn, 1) := by decide +kernel
set_option maxRecDepth 65536 in
theorem rmMap (l : Launch) (Z : State) (a0 : Array Value) (hw : ∀ d ∈ tables_1, d.before a0 Z = true) (h0 : Heap) (mp : Addr) (S : Sta Z Z.heap "java/util/ImmutableCollections" "EMPTY_MAP" "Ljava/util/ImmutableCollections$MapN;" (.ref mp)) :
    Con l Z [] [] false (⟨"java/util/Map", "of", "()Ljava/util/Map;"⟩ : MethodName) jdk_72_method_26_code 0 (some (.object "java/util/Map")) RZ #[] h0 (rV fun x h => x = .ref mp ∧ h0 = h) := by
  refine body (ls := #[]) (plainFor_of_name pn_4) (fun m => by first | (simp [entryFrame, mkF, argsToLocals, Value.category]; done) | rfl) fun K ok => ?_
  refine r_getstatic (pc' := 3) ok rfl d5_0 (hw _ (List.mem_of_getElem? (i := 51) rfl)) Via.refl S ?_
  refine r_areturn ok d5_3 rfl rfl rfl (by decide) (by decide) ?_
  exact ⟨rfl, rfl⟩
theorem d6_0 : decode jdk_2500_method_1_code 0 = .ok (.aload_n 0, 1) := by decide +kernel
theorem d6_1 : decode jdk_2500_method_1_code 1 = .ok (.invokespecial 1, 3) := by decide +kernel
theorem d6_4 : decode jdk_2500_method_1_code 4 = .ok (.aload_n 1, 1) := by decide +kernel
theorem d6_5 : decode jdk_2500_method_1_code 5 = .ok (.ifnonnull 11, 3) := by decide +kernel
theorem d6_8 : decode jdk_2500_method_1_code 8 = .ok (.new 7, 3) := by decide +kernel
theorem d6_11 : decode jdk_2500_method_1_code 11 = .ok (.dup, 1) := by decide +kernel
theorem d6_12 : decode jdk_2500_method_1_code 12 = .ok (.invokespecial 9, 3) := by decide +kernel
theorem d6_15 : decode jdk_2500_method_1_code 15 = .ok (.athrow, 1) := by decide +kernel
theorem d6_16 : decode jdk_2500_method_1_code 16 = .ok (.aload_n 0, 1) := by decide +kernel
theorem d6_17 : decode jdk_2500_method_1_code 17 = .ok (.aload_n 1, 1) := by decide +kernel
theorem d6_18 : decode jdk_2500_method_1_code 18 = .ok (.putfield 10, 3) := by decide +kernel
theorem d6_21 : decode jdk_2500_method_1_code 21 = .ok (.return_, 1) := by decide +kernel
set_option maxRecDepth 65536 in
theorem rmUM (l : Launch) (Z : State) (a0 : Array Value) (hw : ∀ d ∈ tables_1, d.before a0 Z = true) (a1 a2 : Addr) (u1 : Value) (h0 : Heap) (E : Exa Z h0 a1 UM) (F : Fld Z h0 a1 UM "m" "Ljava/util/Map;" u1) (g : Z.heap.size ≤ a1) :
    Con l Z [] [] false (⟨"java/util/Collections$UnmodifiableMap", "<init>", "(Ljava/util/Map;)V"⟩ : MethodName) jdk_2500_method_1_code 2 none R1 #[.ref a1, .ref a2] h0 (rU fun h => Keep h0 h [a1]) := by
  refine body (ls := #[.val (.ref a1), .val (.ref a2)]) (plainFor_of_name pn_6) (fun m => by first | (simp [entryFrame, mkF, argsToLocals, Value.category]; done) | rfl) fun K ok => ?_
  refine r_aloadN (pc' := 1) ok rfl d6_0 rfl rfl ?_
  refine r_init (pc' := 4) ok rfl d6_1 (hw _ (List.mem_of_getElem? (i := 88) rfl)) (hw _ (List.mem_of_getElem? (i := 23) rfl)) (hw _ (List.mem_of_getElem? (i := 24) rfl)) rfl (by decide) (Nat.le_of_ble_eq_true rfl) ?_
  refine r_aloadN (pc' := 5) ok rfl d6_4 rfl rfl ?_
  refine r_ifnonnull_ref (pc' := 16) ok d6_5 (by decide) (by decide) ?_
  refine r_aloadN (pc' := 17) ok rfl d6_16 rfl rfl ?_
  refine r_aloadN (pc' := 18) ok rfl d6_17 rfl rfl ?_
  refine r_putfield (pc' := 21) (host := "") ok rfl d6_18 (Or.inl (hw _ (List.mem_of_getElem? (i := 89) rfl))) Via.refl (Or.inr ⟨(hw _ (List.mem_of_getElem? (i := 90) rfl)), rfl, rfl⟩) (hw _ (List.mem_of_getElem? (i := 83) rfl)) F E g (ty := (.object "java/util/Map")) (by decide) rfl rfl ?_
  intro h3 W3 F3 E3
  refine r_return ok d6_21 ?_ (by decide) (by decide)
  exact (Keep.refl h0 [a1]).wr W3 (Or.inl (List.mem_singleton.mpr rfl))
theorem d7_0 : decode jdk_79_method_36_code 0 = .ok (.aload_n 0, 1) := by decide +kernel
theorem d7_1 : decode jdk_79_method_36_code 1 = .ok (.invokeinterface 220 1, 5) := by decide +kernel
theorem d7_6 : decode jdk_79_method_36_code 6 = .ok (.ldc 223, 2) := by decide +kernel
theorem d7_8 : decode jdk_79_method_36_code 8 = .ok (.if_acmp .ne 5, 3) := by decide +kernel
theorem d7_11 : decode jdk_79_method_36_code 11 = .ok (.aload_n 0, 1) := by decide +kernel
theorem d7_12 : decode jdk_79_method_36_code 12 = .ok (.areturn, 1) := by decide +kernel
theorem d7_13 : decode jdk_79_method_36_code 13 = .ok (.new 223, 3) := by decide +kernel
theorem d7_16 : decode jdk_79_method_36_code 16 = .ok (.dup, 1) := by decide +kernel
theorem d7_17 : decode jdk_79_method_36_code 17 = .ok (.aload_n 0, 1) := by decide +kernel
theorem d7_18 : decode jdk_79_method_36_code 18 = .ok (.invokespecial 225, 3) := by decide +kernel
theorem d7_21 : decode jdk_79_method_36_code 21 = .ok (.areturn, 1) := by decide +kernel
abbrev R7 : Room := { frames := 2, cells := 1, slots := 4, locals := 40 }
set_option maxRecDepth 65536 in
theorem rmU (l : Launch) (Z : State) (a0 : Array Value) (hw : ∀ d ∈ tables_1, d.before a0 Z = true) (a1 : Addr) (h0 : Heap) (E : Exa Z Z.heap a1 MN) (m1 m2 : Addr) (M1 : Mir Z MN m1) (M2 : Mir Z UM m2) :
    Con l Z [] [] false (⟨"java/util/Collections", "unmodifiableMap", "(Ljava/util/Map;)Ljava/util/Map;"⟩ : MethodName) jdk_79_method_36_code 1 (some (.object "java/util/Map")) R7 #[.ref a1] h0 (rV fun x h => (∃ a, x = .ref a) ∧ Keep h0 h []) := by
  refine body (ls := #[.val (.ref a1)]) (plainFor_of_name pn_5) (fun m => by first | (simp [entryFrame, mkF, argsToLocals, Value.category]; done) | rfl) fun K ok => ?_
  refine r_aloadN (pc' := 1) ok rfl d7_0 rfl rfl ?_
  refine r_old fun X0 => ?_
  refine r_getClassI (pc' := 6) ok rfl d7_1 (hw _ (List.mem_of_getElem? (i := 71) rfl)) (hw _ (List.mem_of_getElem? (i := 72) rfl)) (hw _ (List.mem_of_getElem? (i := 73) rfl)) (hw _ (List.mem_of_getElem? (i := 74) rfl)) (hw _ (List.mem_of_getElem? (i := 75) rfl)) (hw _ (List.mem_of_getElem? (i := 76) rfl)) (hw _ (List.mem_of_getElem? (i := 77) rfl)) (hw _ (List.mem_of_getElem? (i := 78) rfl)) (hw _ (List.mem_of_getElem? (i := 79) rfl)) (by decide) (by decide) rfl rfl (E.ext X0) M1 rfl (by decide) (by decide) ?_
  refine r_ldcMir (pc' := 8) ok rfl d7_6 (hw _ (List.mem_of_getElem? (i := 81) rfl)) M2 ?_
  refine r_acmp (pc' := 13) (same := false) ok rfl rfl d7_8 (decide_eq_false fun q => Mir.ne M1 M2 (by decide) (Value.ref.inj q)) (by decide) (by decide) ?_
  refine r_new (pc' := 16) ok rfl d7_13 (hw _ (List.mem_of_getElem? (i := 81) rfl)) (hw _ (List.mem_of_getElem? (i := 83) rfl)) (hw _ (List.mem_of_getElem? (i := 84) rfl)) (by decide) (by decide) ?_
  intro h3 b3 g3 z3 E3 A3 D3
  have Fm := D3 (Or.inr (hw _ (List.mem_of_getElem? (i := 90) rfl))) (ty := (.object "java/util/Map")) (by decide)
  refine r_dup (pc' := 17) ok rfl d7_16 rfl ?_
  refine r_aloadN (pc' := 18) ok rfl d7_17 rfl rfl ?_
  refine r_special (pc' := 21) ok rfl d7_18 rfl (hw _ (List.mem_of_getElem? (i := 85) rfl)) (hw _ (List.mem_of_getElem? (i := 86) rfl)) (hw _ (List.mem_of_getElem? (i := 87) rfl)) (by decide) pd_13 (Con.pay (W := 1) (rmUM l Z a0 hw b3 a1 _ h3 A3 Fm z3) EW.nil (hw _ (List.mem_of_getElem? (i := 87) rfl)) (hw _ (List.mem_of_getElem? (i := 84) rfl)) (by decide) (by decide)) (fun q => nomatch q) (Or.inl rfl) rfl (argsL := [(.ref a1)]) (rest := [(.ref b3)]) rfl rfl rfl (Nat.le_of_ble_eq_true rfl) (by decide) (by decide) (cU fun h4 q4 le4 => ?_)
  refine r_areturn ok d7_21 rfl rfl rfl (by decide) (by decide) ?_
  exact ⟨⟨_, rfl⟩, ((Keep.refl h0 []).ext E3).trans q4 (fun y hy => by cases List.mem_singleton.mp hy; exact Or.inr (Nat.le_of_eq g3.symm))⟩
theorem d8_0 : decode prog_7_method_1_code 0 = .ok (.aload_n 0, 1) := by decide +kernel
theorem d8_1 : decode prog_7_method_1_code 1 = .ok (.invokespecial 1, 3) := by decide +kernel
theorem d8_4 : decode prog_7_method_1_code 4 = .ok (.aload_n 0, 1) := by decide +kernel
theorem d8_5 : decode prog_7_method_1_code 5 = .ok (.aload_n 1, 1) := by decide +kernel
theorem d8_6 : decode prog_7_method_1_code 6 = .ok (.putfield 7, 3) := by decide +kernel
theorem d8_9 : decode prog_7_method_1_code 9 = .ok (.aload_n 0, 1) := by decide +kernel
theorem d8_10 : decode prog_7_method_1_code 10 = .ok (.aload_n 2, 1) := by decide +kernel
theorem d8_11 : decode prog_7_method_1_code 11 = .ok (.putfield 13, 3) := by decide +kernel
theorem d8_14 : decode prog_7_method_1_code 14 = .ok (.aload_n 0, 1) := by decide +kernel
theorem d8_15 : decode prog_7_method_1_code 15 = .ok (.aload_n 3, 1) := by decide +kernel
theorem d8_16 : decode prog_7_method_1_code 16 = .ok (.putfield 17, 3) := by decide +kernel
theorem d8_19 : decode prog_7_method_1_code 19 = .ok (.aload_n 0, 1) := by decide +kernel
theorem d8_20 : decode prog_7_method_1_code 20 = .ok (.iload 4, 2) := by decide +kernel
theorem d8_22 : decode prog_7_method_1_code 22 = .ok (.putfield 21, 3) := by decide +kernel
theorem d8_25 : decode prog_7_method_1_code 25 = .ok (.aload_n 0, 1) := by decide +kernel
theorem d8_26 : decode prog_7_method_1_code 26 = .ok (.aload 5, 2) := by decide +kernel
theorem d8_28 : decode prog_7_method_1_code 28 = .ok (.putfield 25, 3) := by decide +kernel
theorem d8_31 : decode prog_7_method_1_code 31 = .ok (.aload_n 0, 1) := by decide +kernel
theorem d8_32 : decode prog_7_method_1_code 32 = .ok (.aload 6, 2) := by decide +kernel
theorem d8_34 : decode prog_7_method_1_code 34 = .ok (.invokestatic 28, 3) := by decide +kernel
theorem d8_37 : decode prog_7_method_1_code 37 = .ok (.putfield 34, 3) := by decide +kernel
theorem d8_40 : decode prog_7_method_1_code 40 = .ok (.aload_n 0, 1) := by decide +kernel
theorem d8_41 : decode prog_7_method_1_code 41 = .ok (.iload 7, 2) := by decide +kernel
theorem d8_43 : decode prog_7_method_1_code 43 = .ok (.putfield 38, 3) := by decide +kernel
theorem d8_46 : decode prog_7_method_1_code 46 = .ok (.return_, 1) := by decide +kernel
abbrev R8 : Room := { frames := 3, cells := 1, slots := 4, locals := 60 }
set_option maxRecDepth 65536 in
theorem rmF (l : Launch) (Z : State) (a0 : Array Value) (hw : ∀ d ∈ tables_1, d.before a0 Z = true) (a1 a2 a3 a7 : Addr) (p5 p8 : Int32) (u1 u2 u3 u4 u5 u6 u7 : Value) (h0 : Heap) (E : Exa Z h0 a1 FN) (F1 : Fld Z h0 a1 FN "kind" KDd u1) (F2 : Fld Z h0 a1 FN "code" "Ljava/lang/String;" u2) (F3 : Fld Z h0 a1 FN "file" "Ljava/nio/file/Path;" u3) (F4 : Fld Z h0 a1 FN "line" "I" u4) (F5 : Fld Z h0 a1 FN "field" "Ljava/lang/String;" u5) (F6 : Fld Z h0 a1 FN "compared" "Ljava/util/Map;" u6) (F7 : Fld Z h0 a1 FN "firstLine" "I" u7) (g : Z.heap.size ≤ a1)
    (E7 : Exa Z Z.heap a7 MN) (m1 m2 : Addr) (M1 : Mir Z MN m1) (M2 : Mir Z UM m2) :
    Con l Z [] [] false (⟨"com/example/anchorhold/anchorhold/Finding", "<init>", "(Lcom/example/anchorhold/anchorhold/Finding$Kind;Ljava/lang/String;Ljava/nio/file/Path;ILjava/lang/String;Ljava/util/Map;I)V"⟩ : MethodName) prog_7_method_1_code 8 none R8 #[.ref a1, .ref a2, .ref a3, .null, .int p5, .null, .ref a7, .int p8] h0 (rU fun h => Keep h0 h [a1] ∧ Exa Z h a1 FN ∧ Fld Z h a1 FN "kind" KDd (.ref a2) ∧ Fld Z h a1 FN "code" "Ljava/lang/String;" (.ref a3) ∧ Fld Z h a1 FN "line" "I" (.int p5)) := by
  refine body (ls := #[.val (.ref a1), .val (.ref a2), .val (.ref a3), .val .null, .val (.int p5), .val .null, .val (.ref a7), .val (.int p8)]) (plainFor_of_name pn_3) (fun m => by first | (simp [entryFrame, mkF, argsToLocals, Value.category]; done) | rfl) fun K ok => ?_
  refine r_aloadN (pc' := 1) ok rfl d8_0 rfl rfl ?_
  refine r_init (pc' := 4) ok rfl d8_1 (hw _ (List.mem_of_getElem? (i := 56) rfl)) (hw _ (List.mem_of_getElem? (i := 23) rfl)) (hw _ (List.mem_of_getElem? (i := 24) rfl)) rfl (by decide) (Nat.le_of_ble_eq_true rfl) ?_
  refine r_aloadN (pc' := 5) ok rfl d8_4 rfl rfl ?_
  refine r_aloadN (pc' := 6) ok rfl d8_5 rfl rfl ?_
  refine r_putfield (pc' := 9) (host := "") ok rfl d8_6 (Or.inl (hw _ (List.mem_of_getElem? (i := 57) rfl))) Via.refl (Or.inr ⟨(hw _ (List.mem_of_getElem? (i := 58) rfl)), rfl, rfl⟩) (hw _ (List.mem_of_getElem? (i := 46) rfl)) F1 E g (ty := (.object "com/example/anchorhold/anchorhold/Finding$Kind")) (by decide) rfl rfl ?_
  intro h11 W11 F11 E11
  replace F2 := F2.other W11 (Or.inr (slot_ne (Or.inr (hw _ (List.mem_of_getElem? (i := 60) rfl))) (Or.inr (hw _ (List.mem_of_getElem? (i := 58) rfl))) (by decide) (t := (.object "java/lang/String")) (t' := (.object "com/example/anchorhold/anchorhold/Finding$Kind")) (by decide) (by decide)))
  replace F3 := F3.other W11 (Or.inr (slot_ne (Or.inr (hw _ (List.mem_of_getElem? (i := 62) rfl))) (Or.inr (hw _ (List.mem_of_getElem? (i := 58) rfl))) (by decide) (t := (.object "java/nio/file/Path")) (t' := (.object "com/example/anchorhold/anchorhold/Finding$Kind")) (by decide) (by decide)))
  replace F4 := F4.other W11 (Or.inr (slot_ne (Or.inr (hw _ (List.mem_of_getElem? (i := 64) rfl))) (Or.inr (hw _ (List.mem_of_getElem? (i := 58) rfl))) (by decide) (t := .int) (t' := (.object "com/example/anchorhold/anchorhold/Finding$Kind")) (by decide) (by decide)))
  replace F5 := F5.other W11 (Or.inr (slot_ne (Or.inr (hw _ (List.mem_of_getElem? (i := 66) rfl))) (Or.inr (hw _ (List.mem_of_getElem? (i := 58) rfl))) (by decide) (t := (.object "java/lang/String")) (t' := (.object "com/example/anchorhold/anchorhold/Finding$Kind")) (by decide) (by decide)))
  replace F6 := F6.other W11 (Or.inr (slot_ne (Or.inr (hw _ (List.mem_of_getElem? (i := 92) rfl))) (Or.inr (hw _ (List.mem_of_getElem? (i := 58) rfl))) (by decide) (t := (.object "java/util/Map")) (t' := (.object "com/example/anchorhold/anchorhold/Finding$Kind")) (by decide) (by decide)))
  replace F7 := F7.other W11 (Or.inr (slot_ne (Or.inr (hw _ (List.mem_of_getElem? (i := 94) rfl))) (Or.inr (hw _ (List.mem_of_getElem? (i := 58) rfl))) (by decide) (t := .int) (t' := (.object "com/example/anchorhold/anchorhold/Finding$Kind")) (by decide) (by decide)))
  refine r_aloadN (pc' := 10) ok rfl d8_9 rfl rfl ?_
  refine r_aloadN (pc' := 11) ok rfl d8_10 rfl rfl ?_
  refine r_putfield (pc' := 14) (host := "") ok rfl d8_11 (Or.inl (hw _ (List.mem_of_getElem? (i := 59) rfl))) Via.refl (Or.inr ⟨(hw _ (List.mem_of_getElem? (i := 60) rfl)), rfl, rfl⟩) (hw _ (List.mem_of_getElem? (i := 46) rfl)) F2 E11 g (ty := (.object "java/lang/String")) (by decide) rfl rfl ?_
  intro h12 W12 F12 E12
  replace F11 := F11.other W12 (Or.inr (slot_ne (Or.inr (hw _ (List.mem_of_getElem? (i := 58) rfl))) (Or.inr (hw _ (List.mem_of_getElem? (i := 60) rfl))) (by decide) (t := (.object "com/example/anchorhold/anchorhold/Finding$Kind")) (t' := (.object "java/lang/String")) (by decide) (by decide)))
  replace F3 := F3.other W12 (Or.inr (slot_ne (Or.inr (hw _ (List.mem_of_getElem? (i := 62) rfl))) (Or.inr (hw _ (List.mem_of_getElem? (i := 60) rfl))) (by decide) (t := (.object "java/nio/file/Path")) (t' := (.object "java/lang/String")) (by decide) (by decide)))
  replace F4 := F4.other W12 (Or.inr (slot_ne (Or.inr (hw _ (List.mem_of_getElem? (i := 64) rfl))) (Or.inr (hw _ (List.mem_of_getElem? (i := 60) rfl))) (by decide) (t := .int) (t' := (.object "java/lang/String")) (by decide) (by decide)))
  replace F5 := F5.other W12 (Or.inr (slot_ne (Or.inr (hw _ (List.mem_of_getElem? (i := 66) rfl))) (Or.inr (hw _ (List.mem_of_getElem? (i := 60) rfl))) (by decide) (t := (.object "java/lang/String")) (t' := (.object "java/lang/String")) (by decide) (by decide)))
  replace F6 := F6.other W12 (Or.inr (slot_ne (Or.inr (hw _ (List.mem_of_getElem? (i := 92) rfl))) (Or.inr (hw _ (List.mem_of_getElem? (i := 60) rfl))) (by decide) (t := (.object "java/util/Map")) (t' := (.object "java/lang/String")) (by decide) (by decide)))
  replace F7 := F7.other W12 (Or.inr (slot_ne (Or.inr (hw _ (List.mem_of_getElem? (i := 94) rfl))) (Or.inr (hw _ (List.mem_of_getElem? (i := 60) rfl))) (by decide) (t := .int) (t' := (.object "java/lang/String")) (by decide) (by decide)))
  refine r_aloadN (pc' := 15) ok rfl d8_14 rfl rfl ?_
  refine r_aloadN (pc' := 16) ok rfl d8_15 rfl rfl ?_
  refine r_putfield (pc' := 19) (host := "") ok rfl d8_16 (Or.inl (hw _ (List.mem_of_getElem? (i := 61) rfl))) Via.refl (Or.inr ⟨(hw _ (List.mem_of_getElem? (i := 62) rfl)), rfl, rfl⟩) (hw _ (List.mem_of_getElem? (i := 46) rfl)) F3 E12 g (ty := (.object "java/nio/file/Path")) (by decide) rfl rfl ?_
  intro h13 W13 F13 E13
  replace F11 := F11.other W13 (Or.inr (slot_ne (Or.inr (hw _ (List.mem_of_getElem? (i := 58) rfl))) (Or.inr (hw _ (List.mem_of_getElem? (i := 62) rfl))) (by decide) (t := (.object "com/example/anchorhold/anchorhold/Finding$Kind")) (t' := (.object "java/nio/file/Path")) (by decide) (by decide)))
  replace F12 := F12.other W13 (Or.inr (slot_ne (Or.inr (hw _ (List.mem_of_getElem? (i := 60) rfl))) (Or.inr (hw _ (List.mem_of_getElem? (i := 62) rfl))) (by decide) (t := (.object "java/lang/String")) (t' := (.object "java/nio/file/Path")) (by decide) (by decide)))
  replace F4 := F4.other W13 (Or.inr (slot_ne (Or.inr (hw _ (List.mem_of_getElem? (i := 64) rfl))) (Or.inr (hw _ (List.mem_of_getElem? (i := 62) rfl))) (by decide) (t := .int) (t' := (.object "java/nio/file/Path")) (by decide) (by decide)))
  replace F5 := F5.other W13 (Or.inr (slot_ne (Or.inr (hw _ (List.mem_of_getElem? (i := 66) rfl))) (Or.inr (hw _ (List.mem_of_getElem? (i := 62) rfl))) (by decide) (t := (.object "java/lang/String")) (t' := (.object "java/nio/file/Path")) (by decide) (by decide)))
  replace F6 := F6.other W13 (Or.inr (slot_ne (Or.inr (hw _ (List.mem_of_getElem? (i := 92) rfl))) (Or.inr (hw _ (List.mem_of_getElem? (i := 62) rfl))) (by decide) (t := (.object "java/util/Map")) (t' := (.object "java/nio/file/Path")) (by decide) (by decide)))
  replace F7 := F7.other W13 (Or.inr (slot_ne (Or.inr (hw _ (List.mem_of_getElem? (i := 94) rfl))) (Or.inr (hw _ (List.mem_of_getElem? (i := 62) rfl))) (by decide) (t := .int) (t' := (.object "java/nio/file/Path")) (by decide) (by decide)))
  refine r_aloadN (pc' := 20) ok rfl d8_19 rfl rfl ?_
  refine r_iload (pc' := 22) ok rfl d8_20 rfl ?_
  refine r_putfield (pc' := 25) (host := "") ok rfl d8_22 (Or.inl (hw _ (List.mem_of_getElem? (i := 63) rfl))) Via.refl (Or.inr ⟨(hw _ (List.mem_of_getElem? (i := 64) rfl)), rfl, rfl⟩) (hw _ (List.mem_of_getElem? (i := 46) rfl)) F4 E13 g (ty := .int) (by decide) rfl rfl ?_
  intro h14 W14 F14 E14
  replace F11 := F11.other W14 (Or.inr (slot_ne (Or.inr (hw _ (List.mem_of_getElem? (i := 58) rfl))) (Or.inr (hw _ (List.mem_of_getElem? (i := 64) rfl))) (by decide) (t := (.object "com/example/anchorhold/anchorhold/Finding$Kind")) (t' := .int) (by decide) (by decide)))
  replace F12 := F12.other W14 (Or.inr (slot_ne (Or.inr (hw _ (List.mem_of_getElem? (i := 60) rfl))) (Or.inr (hw _ (List.mem_of_getElem? (i := 64) rfl))) (by decide) (t := (.object "java/lang/String")) (t' := .int) (by decide) (by decide)))
  replace F5 := F5.other W14 (Or.inr (slot_ne (Or.inr (hw _ (List.mem_of_getElem? (i := 66) rfl))) (Or.inr (hw _ (List.mem_of_getElem? (i := 64) rfl))) (by decide) (t := (.object "java/lang/String")) (t' := .int) (by decide) (by decide)))
  replace F6 := F6.other W14 (Or.inr (slot_ne (Or.inr (hw _ (List.mem_of_getElem? (i := 92) rfl))) (Or.inr (hw _ (List.mem_of_getElem? (i := 64) rfl))) (by decide) (t := (.object "java/util/Map")) (t' := .int) (by decide) (by decide)))
  replace F7 := F7.other W14 (Or.inr (slot_ne (Or.inr (hw _ (List.mem_of_getElem? (i := 94) rfl))) (Or.inr (hw _ (List.mem_of_getElem? (i := 64) rfl))) (by decide) (t := .int) (t' := .int) (by decide) (by decide)))
  refine r_aloadN (pc' := 26) ok rfl d8_25 rfl rfl ?_
  refine r_aload (pc' := 28) ok rfl d8_26 rfl rfl ?_
  refine r_putfield (pc' := 31) (host := "") ok rfl d8_28 (Or.inl (hw _ (List.mem_of_getElem? (i := 65) rfl))) Via.refl (Or.inr ⟨(hw _ (List.mem_of_getElem? (i := 66) rfl)), rfl, rfl⟩) (hw _ (List.mem_of_getElem? (i := 46) rfl)) F5 E14 g (ty := (.object "java/lang/String")) (by decide) rfl rfl ?_
  intro h15 W15 F15 E15
  replace F11 := F11.other W15 (Or.inr (slot_ne (Or.inr (hw _ (List.mem_of_getElem? (i := 58) rfl))) (Or.inr (hw _ (List.mem_of_getElem? (i := 66) rfl))) (by decide) (t := (.object "com/example/anchorhold/anchorhold/Finding$Kind")) (t' := (.object "java/lang/String")) (by decide) (by decide)))
  replace F12 := F12.other W15 (Or.inr (slot_ne (Or.inr (hw _ (List.mem_of_getElem? (i := 60) rfl))) (Or.inr (hw _ (List.mem_of_getElem? (i := 66) rfl))) (by decide) (t := (.object "java/lang/String")) (t' := (.object "java/lang/String")) (by decide) (by decide)))
  replace F14 := F14.other W15 (Or.inr (slot_ne (Or.inr (hw _ (List.mem_of_getElem? (i := 64) rfl))) (Or.inr (hw _ (List.mem_of_getElem? (i := 66) rfl))) (by decide) (t := .int) (t' := (.object "java/lang/String")) (by decide) (by decide)))
  replace F6 := F6.other W15 (Or.inr (slot_ne (Or.inr (hw _ (List.mem_of_getElem? (i := 92) rfl))) (Or.inr (hw _ (List.mem_of_getElem? (i := 66) rfl))) (by decide) (t := (.object "java/util/Map")) (t' := (.object "java/lang/String")) (by decide) (by decide)))
  replace F7 := F7.other W15 (Or.inr (slot_ne (Or.inr (hw _ (List.mem_of_getElem? (i := 94) rfl))) (Or.inr (hw _ (List.mem_of_getElem? (i := 66) rfl))) (by decide) (t := .int) (t' := (.object "java/lang/String")) (by decide) (by decide)))
  refine r_aloadN (pc' := 32) ok rfl d8_31 rfl rfl ?_
  refine r_aload (pc' := 34) ok rfl d8_32 rfl rfl ?_
  refine r_static (pc' := 37) ok rfl d8_34 (hw _ (List.mem_of_getElem? (i := 67) rfl)) (hw _ (List.mem_of_getElem? (i := 68) rfl)) (hw _ (List.mem_of_getElem? (i := 69) rfl)) (hw _ (List.mem_of_getElem? (i := 70) rfl)) (by decide) pd_11 (Con.pay (W := 1) (rmU l Z a0 hw a7 h15 E7 m1 m2 M1 M2) EW.nil (hw _ (List.mem_of_getElem? (i := 70) rfl)) (hw _ (List.mem_of_getElem? (i := 69) rfl)) (by decide) (by decide)) (fun q => nomatch q) (Or.inl rfl) rfl (argsL := [(.ref a7)]) (rest := [(.ref a1)]) rfl rfl rfl (Nat.le_of_ble_eq_true rfl) (by decide) (by decide) (cV fun x16 h16 q16 le16 => ?_)
  obtain ⟨⟨um, rfl⟩, K16⟩ := q16
  replace E15 := E15.keep K16
  replace F11 := F11.keep K16 nin0
  replace F12 := F12.keep K16 nin0
  replace F14 := F14.keep K16 nin0
  replace F6 := F6.keep K16 nin0
  replace F7 := F7.keep K16 nin0
  refine r_putfield (pc' := 40) (host := "") ok rfl d8_37 (Or.inl (hw _ (List.mem_of_getElem? (i := 91) rfl))) Via.refl (Or.inr ⟨(hw _ (List.mem_of_getElem? (i := 92) rfl)), rfl, rfl⟩) (hw _ (List.mem_of_getElem? (i := 46) rfl)) F6 E15 g (ty := (.object "java/util/Map")) (by decide) rfl rfl ?_
  intro h17 W17 F17 E17
  replace F11 := F11.other W17 (Or.inr (slot_ne (Or.inr (hw _ (List.mem_of_getElem? (i := 58) rfl))) (Or.inr (hw _ (List.mem_of_getElem? (i := 92) rfl))) (by decide) (t := (.object "com/example/anchorhold/anchorhold/Finding$Kind")) (t' := (.object "java/util/Map")) (by decide) (by decide)))
  replace F12 := F12.other W17 (Or.inr (slot_ne (Or.inr (hw _ (List.mem_of_getElem? (i := 60) rfl))) (Or.inr (hw _ (List.mem_of_getElem? (i := 92) rfl))) (by decide) (t := (.object "java/lang/String")) (t' := (.object "java/util/Map")) (by decide) (by decide)))
  replace F14 := F14.other W17 (Or.inr (slot_ne (Or.inr (hw _ (List.mem_of_getElem? (i := 64) rfl))) (Or.inr (hw _ (List.mem_of_getElem? (i := 92) rfl))) (by decide) (t := .int) (t' := (.object "java/util/Map")) (by decide) (by decide)))
  replace F7 := F7.other W17 (Or.inr (slot_ne (Or.inr (hw _ (List.mem_of_getElem? (i := 94) rfl))) (Or.inr (hw _ (List.mem_of_getElem? (i := 92) rfl))) (by decide) (t := .int) (t' := (.object "java/util/Map")) (by decide) (by decide)))
  refine r_aloadN (pc' := 41) ok rfl d8_40 rfl rfl ?_
  refine r_iload (pc' := 43) ok rfl d8_41 rfl ?_
  refine r_putfield (pc' := 46) (host := "") ok rfl d8_43 (Or.inl (hw _ (List.mem_of_getElem? (i := 93) rfl))) Via.refl (Or.inr ⟨(hw _ (List.mem_of_getElem? (i := 94) rfl)), rfl, rfl⟩) (hw _ (List.mem_of_getElem? (i := 46) rfl)) F7 E17 g (ty := .int) (by decide) rfl rfl ?_
  intro h18 W18 F18 E18
  replace F11 := F11.other W18 (Or.inr (slot_ne (Or.inr (hw _ (List.mem_of_getElem? (i := 58) rfl))) (Or.inr (hw _ (List.mem_of_getElem? (i := 94) rfl))) (by decide) (t := (.object "com/example/anchorhold/anchorhold/Finding$Kind")) (t' := .int) (by decide) (by decide)))
  replace F12 := F12.other W18 (Or.inr (slot_ne (Or.inr (hw _ (List.mem_of_getElem? (i := 60) rfl))) (Or.inr (hw _ (List.mem_of_getElem? (i := 94) rfl))) (by decide) (t := (.object "java/lang/String")) (t' := .int) (by decide) (by decide)))
  replace F14 := F14.other W18 (Or.inr (slot_ne (Or.inr (hw _ (List.mem_of_getElem? (i := 64) rfl))) (Or.inr (hw _ (List.mem_of_getElem? (i := 94) rfl))) (by decide) (t := .int) (t' := .int) (by decide) (by decide)))
  have m0 : a1 ∈ [a1] ∨ h0.size ≤ a1 := Or.inl (List.mem_singleton.mpr rfl)
  refine r_return ok d8_46 ?_ (by decide) (by decide)
  exact ⟨(((((((((Keep.refl h0 [a1]).wr W11 m0).wr W12 m0).wr W13 m0).wr W14 m0).wr W15 m0).trans K16 (fun y hy => nomatch hy)).wr W17 m0).wr W18 m0), E18, F11, F12, F14⟩
theorem d9_0 : decode prog_7_method_5_code 0 = .ok (.new 8, 3) := by decide +kernel
theorem d9_3 : decode prog_7_method_5_code 3 = .ok (.dup, 1) := by decide +kernel
theorem d9_4 : decode prog_7_method_5_code 4 = .ok (.aload_n 0, 1) := by decide +kernel
theorem d9_5 : decode prog_7_method_5_code 5 = .ok (.aload_n 1, 1) := by decide +kernel
theorem d9_6 : decode prog_7_method_5_code 6 = .ok (.aconst_null, 1) := by decide +kernel
theorem d9_7 : decode prog_7_method_5_code 7 = .ok (.iconst 0, 1) := by decide +kernel
theorem d9_8 : decode prog_7_method_5_code 8 = .ok (.aconst_null, 1) := by decide +kernel
theorem d9_9 : decode prog_7_method_5_code 9 = .ok (.invokestatic 59, 3) := by decide +kernel
theorem d9_12 : decode prog_7_method_5_code 12 = .ok (.iconst 0, 1) := by decide +kernel
theorem d9_13 : decode prog_7_method_5_code 13 = .ok (.invokespecial 50, 3) := by decide +kernel
theorem d9_16 : decode prog_7_method_5_code 16 = .ok (.areturn, 1) := by decide +kernel
abbrev R9 : Room := { frames := 4, cells := 2, slots := 11, locals := 90 }
set_option maxRecDepth 65536 in
theorem rmW (l : Launch) (Z : State) (a0 : Array Value) (hw : ∀ d ∈ tables_1, d.before a0 Z = true) (a1 a2 mp : Addr) (h0 : Heap) (S : Sta Z Z.heap "java/util/ImmutableCollections" "EMPTY_MAP" "Ljava/util/ImmutableCollections$MapN;" (.ref mp)) (E7 : Exa Z Z.heap mp MN) (m1 m2 : Addr) (M1 : Mir Z MN m1) (M2 : Mir Z UM m2) :
    Con l Z [] [] false (⟨"com/example/anchorhold/anchorhold/Finding", "warning", "(Lcom/example/anchorhold/anchorhold/Finding$Kind;Ljava/lang/String;)Lcom/example/anchorhold/anchorhold/Finding;"⟩ : MethodName) prog_7_method_5_code 2 (some (.object "com/example/anchorhold/anchorhold/Finding")) R9 #[.ref a1, .ref a2] h0 (rV fun x h => ∃ f, x = .ref f ∧ Keep h0 h [] ∧ Exa Z h f FN ∧ Fld Z h f FN "kind" KDd (.ref a1) ∧ Fld Z h f FN "code" "Ljava/lang/String;" (.ref a2) ∧ Fld Z h f FN "line" "I" (.int 0)) := by
  refine body (ls := #[.val (.ref a1), .val (.ref a2)]) (plainFor_of_name pn_3) (fun m => by first | (simp [entryFrame, mkF, argsToLocals, Value.category]; done) | rfl) fun K ok => ?_
  refine r_new (pc' := 3) ok rfl d9_0 (hw _ (List.mem_of_getElem? (i := 45) rfl)) (hw _ (List.mem_of_getElem? (i := 46) rfl)) (hw _ (List.mem_of_getElem? (i := 43) rfl)) (by decide) (by decide) ?_
  intro h1 b1 g1 z1 E1 A1 D1
  have F1 := D1 (Or.inr (hw _ (List.mem_of_getElem? (i := 58) rfl))) (ty := (.object "com/example/anchorhold/anchorhold/Finding$Kind")) (by decide)
  have F2 := D1 (Or.inr (hw _ (List.mem_of_getElem? (i := 60) rfl))) (ty := (.object "java/lang/String")) (by decide)
  have F3 := D1 (Or.inr (hw _ (List.mem_of_getElem? (i := 62) rfl))) (ty := (.object "java/nio/file/Path")) (by decide)
  have F4 := D1 (Or.inr (hw _ (List.mem_of_getElem? (i := 64) rfl))) (ty := .int) (by decide)
  have F5 := D1 (Or.inr (hw _ (List.mem_of_getElem? (i := 66) rfl))) (ty := (.object "java/lang/String")) (by decide)
  have F6 := D1 (Or.inr (hw _ (List.mem_of_getElem? (i := 92) rfl))) (ty := (.object "java/util/Map")) (by decide)
  have F7 := D1 (Or.inr (hw _ (List.mem_of_getElem? (i := 94) rfl))) (ty := .int) (by decide)
  refine r_dup (pc' := 4) ok rfl d9_3 rfl ?_
  refine r_aloadN (pc' := 5) ok rfl d9_4 rfl rfl ?_
  refine r_aloadN (pc' := 6) ok rfl d9_5 rfl rfl ?_
  refine r_aconst_null (pc' := 7) ok rfl d9_6 ?_
  refine r_iconstV (pc' := 8) ok rfl (0 : Int32) d9_7 rfl ?_
  refine r_aconst_null (pc' := 9) ok rfl d9_8 ?_
  refine r_static (pc' := 12) ok rfl d9_9 (hw _ (List.mem_of_getElem? (i := 47) rfl)) (hw _ (List.mem_of_getElem? (i := 48) rfl)) (hw _ (List.mem_of_getElem? (i := 49) rfl)) (hw _ (List.mem_of_getElem? (i := 50) rfl)) (by decide) pd_9 (Con.pay (W := 7) (rmMap l Z a0 hw h1 mp S) EW.nil (hw _ (List.mem_of_getElem? (i := 50) rfl)) (hw _ (List.mem_of_getElem? (i := 49) rfl)) (by decide) (by decide)) (fun q => nomatch q) (Or.inl rfl) rfl (argsL := []) (rest := [.null, .int _, .null, (.ref a2), (.ref a1), (.ref b1), (.ref b1)]) rfl rfl rfl (Nat.le_of_ble_eq_true rfl) (by decide) (by decide) (cV fun x2 h2 q2 le2 => ?_)
  obtain ⟨rfl, rfl⟩ := q2
  refine r_iconstV (pc' := 13) ok rfl (0 : Int32) d9_12 rfl ?_
  refine r_special (pc' := 16) ok rfl d9_13 rfl (hw _ (List.mem_of_getElem? (i := 53) rfl)) (hw _ (List.mem_of_getElem? (i := 54) rfl)) (hw _ (List.mem_of_getElem? (i := 55) rfl)) (by decide) pd_10 (Con.pay (W := 1) (rmF l Z a0 hw b1 a1 a2 mp 0 0 _ _ _ _ _ _ _ h1 A1 F1 F2 F3 F4 F5 F6 F7 z1 E7 m1 m2 M1 M2) EW.nil (hw _ (List.mem_of_getElem? (i := 55) rfl)) (hw _ (List.mem_of_getElem? (i := 43) rfl)) (by decide) (by decide)) (fun q => nomatch q) (Or.inl rfl) rfl (argsL := [(.ref a1), (.ref a2), .null, .int _, .null, (.ref mp), .int _]) (rest := [(.ref b1)]) rfl rfl rfl (Nat.le_of_ble_eq_true rfl) (by decide) (by decide) (cU fun h3 q3 le3 => ?_)
  obtain ⟨K3, G1, G2, G3, G4⟩ := q3
  refine r_areturn ok d9_16 rfl rfl rfl (by decide) (by decide) ?_
  exact ⟨b1, rfl, ((Keep.refl h0 []).ext E1).trans K3 (fun y hy => by cases List.mem_singleton.mp hy; exact Or.inr (Nat.le_of_eq g1.symm)), G1, G2, G3, G4⟩
theorem d10_0 : decode prog_7_method_7_code 0 = .ok (.aload_n 0, 1) := by decide +kernel
theorem d10_1 : decode prog_7_method_7_code 1 = .ok (.getfield 7, 3) := by decide +kernel
theorem d10_4 : decode prog_7_method_7_code 4 = .ok (.areturn, 1) := by decide +kernel
set_option maxRecDepth 65536 in
theorem rmGk (l : Launch) (Z : State) (a0 : Array Value) (hw : ∀ d ∈ tables_1, d.before a0 Z = true) (a1 v : Addr) (h0 : Heap) (F : Fld Z h0 a1 FN "kind" KDd (.ref v)) : Con l Z [] [] false (⟨"com/example/anchorhold/anchorhold/Finding", "kind", "()Lcom/example/anchorhold/anchorhold/Finding$Kind;"⟩ : MethodName) prog_7_method_7_code 1 (some (.object "com/example/anchorhold/anchorhold/Finding$Kind")) RZ #[.ref a1] h0 (rV fun x h => x = .ref v ∧ h0 = h) := by
  refine body (ls := #[.val (.ref a1)]) (plainFor_of_name pn_3) (fun m => by first | (simp [entryFrame, mkF, argsToLocals, Value.category]; done) | rfl) fun K ok => ?_
  refine r_aloadN (pc' := 1) ok rfl d10_0 rfl rfl ?_
  refine r_getfield (pc' := 4) (host := "") ok rfl d10_1 (Or.inl (hw _ (List.mem_of_getElem? (i := 57) rfl))) Via.refl F ?_
  refine r_areturn ok d10_4 rfl rfl rfl (by decide) (by decide) ?_
  exact ⟨rfl, rfl⟩
theorem d11_0 : decode prog_7_method_8_code 0 = .ok (.aload_n 0, 1) := by decide +kernel
theorem d11_1 : decode prog_7_method_8_code 1 = .ok (.getfield 13, 3) := by decide +kernel
theorem d11_4 : decode prog_7_method_8_code 4 = .ok (.areturn, 1) := by decide +kernel
set_option maxRecDepth 65536 in
theorem rmGc (l : Launch) (Z : State) (a0 : Array Value) (hw : ∀ d ∈ tables_1, d.before a0 Z = true) (a1 v : Addr) (h0 : Heap) (F : Fld Z h0 a1 FN "code" "Ljava/lang/String;" (.ref v)) : Con l Z [] [] false (⟨"com/example/anchorhold/anchorhold/Finding", "code", "()Ljava/lang/String;"⟩ : MethodName) prog_7_method_8_code 1 (some (.object "java/lang/String")) RZ #[.ref a1] h0 (rV fun x h => x = .ref v ∧ h0 = h) := by
  refine body (ls := #[.val (.ref a1)]) (plainFor_of_name pn_3) (fun m => by first | (simp [entryFrame, mkF, argsToLocals, Value.category]; done) | rfl) fun K ok => ?_
  refine r_aloadN (pc' := 1) ok rfl d11_0 rfl rfl ?_
  refine r_getfield (pc' := 4) (host := "") ok rfl d11_1 (Or.inl (hw _ (List.mem_of_getElem? (i := 59) rfl))) Via.refl F ?_
  refine r_areturn ok d11_4 rfl rfl rfl (by decide) (by decide) ?_
  exact ⟨rfl, rfl⟩
theorem d12_0 : decode prog_7_method_10_code 0 = .ok (.aload_n 0, 1) := by decide +kernel
theorem d12_1 : decode prog_7_method_10_code 1 = .ok (.getfield 21, 3) := by decide +kernel
theorem d12_4 : decode prog_7_method_10_code 4 = .ok (.ireturn, 1) := by decide +kernel
set_option maxRecDepth 65536 in
theorem rmGl (l : Launch) (Z : State) (a0 : Array Value) (hw : ∀ d ∈ tables_1, d.before a0 Z = true) (a1 : Addr) (v : Int32) (h0 : Heap) (F : Fld Z h0 a1 FN "line" "I" (.int v)) : Con l Z [] [] false (⟨"com/example/anchorhold/anchorhold/Finding", "line", "()I"⟩ : MethodName) prog_7_method_10_code 1 (some .int) RZ #[.ref a1] h0 (rV fun x h => x = .int v ∧ h0 = h) := by
  refine body (ls := #[.val (.ref a1)]) (plainFor_of_name pn_3) (fun m => by first | (simp [entryFrame, mkF, argsToLocals, Value.category]; done) | rfl) fun K ok => ?_
  refine r_aloadN (pc' := 1) ok rfl d12_0 rfl rfl ?_
  refine r_getfield (pc' := 4) (host := "") ok rfl d12_1 (Or.inl (hw _ (List.mem_of_getElem? (i := 63) rfl))) Via.refl F ?_
  refine r_ireturn ok d12_4 rfl (by simp) (by decide) (by decide) ?_
  exact ⟨rfl, rfl⟩
theorem d13_0 : decode jdk_42_method_66_code 0 = .ok (.aload_n 0, 1) := by decide +kernel
theorem d13_1 : decode jdk_42_method_66_code 1 = .ok (.aload_n 1, 1) := by decide +kernel
theorem d13_2 : decode jdk_42_method_66_code 2 = .ok (.if_acmp .ne 5, 3) := by decide +kernel
theorem d13_5 : decode jdk_42_method_66_code 5 = .ok (.iconst 1, 1) := by decide +kernel
theorem d13_6 : decode jdk_42_method_66_code 6 = .ok (.ireturn, 1) := by decide +kernel
set_option maxRecDepth 65536 in
theorem rmEq (l : Launch) (Z : State) (a0 : Array Value) (hw : ∀ d ∈ tables_1, d.before a0 Z = true) (a1 : Addr) (h0 : Heap) : Con l Z [] [] false (⟨"java/lang/String", "equals", "(Ljava/lang/Object;)Z"⟩ : MethodName) jdk_42_method_66_code 3 (some .boolean) RZ #[.ref a1, .ref a1] h0 (rV fun x h => x = .int 1 ∧ h0 = h) := by
  refine body (ls := #[.val (.ref a1), .val (.ref a1), .unset]) (plainFor_of_name pn_1) (fun m => by first | (simp [entryFrame, mkF, argsToLocals, Value.category]; done) | rfl) fun K ok => ?_
  refine r_aloadN (pc' := 1) ok rfl d13_0 rfl rfl ?_
  refine r_aloadN (pc' := 2) ok rfl d13_1 rfl rfl ?_
  refine r_acmp (pc' := 5) (same := true) ok rfl rfl d13_2 (decide_eq_true rfl) (by decide) (by decide) ?_
  refine r_iconstV (pc' := 6) ok rfl (1 : Int32) d13_5 rfl ?_
  refine r_ireturn ok d13_6 rfl (by simp) (by decide) (by decide) ?_
  exact ⟨rfl, rfl⟩
set_option maxRecDepth 65536 in
theorem rm0 (l : Launch) (Z : State) (a0 : Array Value) (hw : ∀ d ∈ tables_1, d.before a0 Z = true) (p1 p2 p3 p4 p5 : Int32) (G1 : Int32) (S1 : Sta Z Z.heap ST "COMPACT_STRINGS" "Z" (.int G1)) (P1 : ¬ G1 = 0) (c1 c2 c3 c4 c5 c6 : Addr) (K1 : Sta Z Z.heap KD "LIMIT_BELOW_RANGE" KDd (.ref c1)) (K2 : Sta Z Z.heap KD "STOP_RANGE_ABOVE_LIMIT" KDd (.ref c2)) (K3 : Sta Z Z.heap KD "DUPLICATE_CODE" KDd (.ref c3)) (K4 : Sta Z Z.heap KD "INTERVAL_INCOMPLETE" KDd (.ref c4)) (K5 : Sta Z Z.heap KD "LIMITS_ONLY" KDd (.ref c5)) (K6 : Sta Z Z.heap KD "INTERVALS_ONLY" KDd (.ref c6))
    (mp : Addr) (S : Sta Z Z.heap "java/util/ImmutableCollections" "EMPTY_MAP" "Ljava/util/ImmutableCollections$MapN;" (.ref mp)) (E7 : Exa Z Z.heap mp MN) (m1 m2 : Addr) (M1 : Mir Z MN m1) (M2 : Mir Z UM m2) :
    Con l Z EL1 tables_1 true x code maxLocals ret room_1 #[.int p1, .int p2, .int p3, .int p4, .int p5] Z.heap (rV fun x _ => x = .int 1) := by
  refine body (ls := #[.val (.int p1), .val (.int p2), .val (.int p3), .val (.int p4), .val (.int p5), .unset, .unset, .unset]) (plainFor_of_name pn_0) (fun m => by first | (simp [entryFrame, mkF, argsToLocals, Value.category, maxLocals]; done) | rfl) fun K ok => ?_
  refine r_iloadN (pc' := 1) ok rfl at_0 rfl ?_
  refine r_static (pc' := 4) ok rfl at_1 (hw _ (List.mem_of_getElem? (i := 0) rfl)) (hw _ (List.mem_of_getElem? (i := 1) rfl)) (hw _ (List.mem_of_getElem? (i := 2) rfl)) (hw _ (List.mem_of_getElem? (i := 3) rfl)) (by decide) pd_0 (Con.pay (W := 0) (rmK l Z a0 hw p1 Z.heap c1 c2 c3 c4 c5 c6 K1 K2 K3 K4 K5 K6) EW.nil (hw _ (List.mem_of_getElem? (i := 3) rfl)) (hw _ (List.mem_of_getElem? (i := 2) rfl)) (by decide) (by decide)) (fun q => nomatch q) (Or.inl rfl) rfl (argsL := [(.int p1)]) (rest := []) rfl rfl rfl (Nat.le_of_ble_eq_true rfl) (by decide) (by decide) (cV fun x1 h1 q1 le1 => ?_)
  obtain ⟨⟨kd, rfl⟩, rfl⟩ := q1
  refine r_astore (pc' := 6) (ls' := #[.val (.int p1), .val (.int p2), .val (.int p3), .val (.int p4), .val (.int p5), .val (.ref kd), .unset, .unset]) ok rfl at_4 rfl rfl ?_
  refine r_iloadN (pc' := 7) ok rfl at_6 rfl ?_
  refine r_iloadN (pc' := 8) ok rfl at_7 rfl ?_
  refine r_iloadN (pc' := 9) ok rfl at_8 rfl ?_
  refine r_iload (pc' := 11) ok rfl at_9 rfl ?_
  refine r_static (pc' := 14) ok rfl at_11 (hw _ (List.mem_of_getElem? (i := 8) rfl)) (hw _ (List.mem_of_getElem? (i := 9) rfl)) (hw _ (List.mem_of_getElem? (i := 2) rfl)) (hw _ (List.mem_of_getElem? (i := 10) rfl)) (by decide) pd_1 (Con.pay (W := 0) (rmStr l Z a0 hw p2 p3 p4 p5 G1 S1 P1 Z.heap) (hEW Z a0 hw) (hw _ (List.mem_of_getElem? (i := 10) rfl)) (hw _ (List.mem_of_getElem? (i := 2) rfl)) (by decide) (by decide)) (fun _ => rfl) (Or.inr ⟨rfl, fun _ _ q => q⟩) rfl (argsL := [(.int p2), (.int p3), (.int p4), (.int p5)]) (rest := []) rfl rfl rfl (Nat.le_of_ble_eq_true rfl) (by decide) (by decide) (cV fun x2 h2 q2 le2 => ?_)
  obtain ⟨sa, rfl, Es⟩ := q2
  refine r_astore (pc' := 16) (ls' := #[.val (.int p1), .val (.int p2), .val (.int p3), .val (.int p4), .val (.int p5), .val (.ref kd), .val (.ref sa), .unset]) ok rfl at_14 rfl rfl ?_
  refine r_aload (pc' := 18) ok rfl at_16 rfl rfl ?_
  refine r_aload (pc' := 20) ok rfl at_18 rfl rfl ?_
  refine r_static (pc' := 23) ok rfl at_20 (hw _ (List.mem_of_getElem? (i := 41) rfl)) (hw _ (List.mem_of_getElem? (i := 42) rfl)) (hw _ (List.mem_of_getElem? (i := 43) rfl)) (hw _ (List.mem_of_getElem? (i := 44) rfl)) (by decide) pd_8 (Con.pay (W := 0) (rmW l Z a0 hw kd sa mp h2 S E7 m1 m2 M1 M2) EW.nil (hw _ (List.mem_of_getElem? (i := 44) rfl)) (hw _ (List.mem_of_getElem? (i := 43) rfl)) (by decide) (by decide)) (fun q => nomatch q) (Or.inl rfl) rfl (argsL := [(.ref kd), (.ref sa)]) (rest := []) rfl rfl rfl (Nat.le_of_ble_eq_true rfl) (by decide) (by decide) (cV fun x3 h3 q3 le3 => ?_)
  obtain ⟨f, rfl, Kf, Ef, Fk, Fc, Fl⟩ := q3
  replace Es := Es.keep Kf
  refine r_astore (pc' := 25) (ls' := #[.val (.int p1), .val (.int p2), .val (.int p3), .val (.int p4), .val (.int p5), .val (.ref kd), .val (.ref sa), .val (.ref f)]) ok rfl at_23 rfl rfl ?_
  refine r_aload (pc' := 27) ok rfl at_25 rfl rfl ?_
  refine r_virtual (pc' := 30) ok rfl at_27 (hw _ (List.mem_of_getElem? (i := 95) rfl)) (hw _ (List.mem_of_getElem? (i := 96) rfl)) (hw _ (List.mem_of_getElem? (i := 98) rfl)) (hw _ (List.mem_of_getElem? (i := 97) rfl)) (nf_sel (C := "com/example/anchorhold/anchorhold/Finding") (z := (⟨"com/example/anchorhold/anchorhold/Finding", "kind", "()Lcom/example/anchorhold/anchorhold/Finding$Kind;"⟩ : MethodName)) (hw _ (List.mem_of_getElem? (i := 98) rfl))) Ef (by decide) pd_14 (Con.pay (W := 0) (rmGk l Z a0 hw f kd h3 Fk) EW.nil (hw _ (List.mem_of_getElem? (i := 99) rfl)) (hw _ (List.mem_of_getElem? (i := 43) rfl)) (by decide) (by decide)) (fun q => nomatch q) (Or.inl rfl) rfl (argsL := []) (rest := []) rfl rfl rfl (Nat.le_of_ble_eq_true rfl) (by decide) (by decide) (cV fun x4 h4 q4 le4 => ?_)
  obtain ⟨rfl, rfl⟩ := q4
  refine r_aload (pc' := 32) ok rfl at_30 rfl rfl ?_
  refine r_acmp (pc' := 35) (same := true) ok rfl rfl at_32 (decide_eq_true rfl) (by decide) (by decide) ?_
  refine r_aload (pc' := 37) ok rfl at_35 rfl rfl ?_
  refine r_virtual (pc' := 40) ok rfl at_37 (hw _ (List.mem_of_getElem? (i := 100) rfl)) (hw _ (List.mem_of_getElem? (i := 101) rfl)) (hw _ (List.mem_of_getElem? (i := 103) rfl)) (hw _ (List.mem_of_getElem? (i := 102) rfl)) (nf_sel (C := "com/example/anchorhold/anchorhold/Finding") (z := (⟨"com/example/anchorhold/anchorhold/Finding", "code", "()Ljava/lang/String;"⟩ : MethodName)) (hw _ (List.mem_of_getElem? (i := 103) rfl))) Ef (by decide) pd_15 (Con.pay (W := 0) (rmGc l Z a0 hw f sa h3 Fc) EW.nil (hw _ (List.mem_of_getElem? (i := 104) rfl)) (hw _ (List.mem_of_getElem? (i := 43) rfl)) (by decide) (by decide)) (fun q => nomatch q) (Or.inl rfl) rfl (argsL := []) (rest := []) rfl rfl rfl (Nat.le_of_ble_eq_true rfl) (by decide) (by decide) (cV fun x5 h5 q5 le5 => ?_)
  obtain ⟨rfl, rfl⟩ := q5
  refine r_aload (pc' := 42) ok rfl at_40 rfl rfl ?_
  refine r_virtual (pc' := 45) ok rfl at_42 (hw _ (List.mem_of_getElem? (i := 105) rfl)) (hw _ (List.mem_of_getElem? (i := 106) rfl)) (hw _ (List.mem_of_getElem? (i := 108) rfl)) (hw _ (List.mem_of_getElem? (i := 107) rfl)) (nf_sel (C := "java/lang/String") (z := (⟨"java/lang/String", "equals", "(Ljava/lang/Object;)Z"⟩ : MethodName)) (hw _ (List.mem_of_getElem? (i := 108) rfl))) Es (by decide) pd_16 (Con.pay (W := 0) (rmEq l Z a0 hw sa h3) EW.nil (hw _ (List.mem_of_getElem? (i := 109) rfl)) (hw _ (List.mem_of_getElem? (i := 14) rfl)) (by decide) (by decide)) (fun q => nomatch q) (Or.inl rfl) rfl (argsL := [(.ref sa)]) (rest := []) rfl rfl rfl (Nat.le_of_ble_eq_true rfl) (by decide) (by decide) (cV fun x6 h6 q6 le6 => ?_)
  obtain ⟨rfl, rfl⟩ := q6
  refine r_if_eq (pc' := 48) (pcY := 60) ok rfl at_45 (by decide) (by decide) ?_ ?_
  · intro hc
    exact absurd hc (by decide)
  intro _
  refine r_aload (pc' := 50) ok rfl at_48 rfl rfl ?_
  refine r_virtual (pc' := 53) ok rfl at_50 (hw _ (List.mem_of_getElem? (i := 110) rfl)) (hw _ (List.mem_of_getElem? (i := 111) rfl)) (hw _ (List.mem_of_getElem? (i := 113) rfl)) (hw _ (List.mem_of_getElem? (i := 112) rfl)) (nf_sel (C := "com/example/anchorhold/anchorhold/Finding") (z := (⟨"com/example/anchorhold/anchorhold/Finding", "line", "()I"⟩ : MethodName)) (hw _ (List.mem_of_getElem? (i := 113) rfl))) Ef (by decide) pd_17 (Con.pay (W := 0) (rmGl l Z a0 hw f 0 h3 Fl) EW.nil (hw _ (List.mem_of_getElem? (i := 114) rfl)) (hw _ (List.mem_of_getElem? (i := 43) rfl)) (by decide) (by decide)) (fun q => nomatch q) (Or.inl rfl) rfl (argsL := []) (rest := []) rfl rfl rfl (Nat.le_of_ble_eq_true rfl) (by decide) (by decide) (cV fun x7 h7 q7 le7 => ?_)
  obtain ⟨rfl, rfl⟩ := q7
  refine r_if_ne (pc' := 56) (pcY := 60) ok rfl at_53 (by decide) (by decide) ?_ ?_
  · intro hc
    exact absurd rfl hc
  intro _
  refine r_iconstV (pc' := 57) ok rfl (1 : Int32) at_56 rfl ?_
  refine r_goto (pc' := 61) ok at_57 (by decide) (by decide) ?_
  refine r_ireturn ok at_61 rfl (by simp) (by decide) (by decide) ?_
  rfl
end Claim

set_option maxRecDepth 65536 in
set_option maxHeartbeats 4000000 in
theorem comes_1 {Post : Tables → Env → Array Value → State → Outcome → State → Prop} (hpost : ∀ tb e args s v u, (limb_1_1.after args s (.returned v) u = true ∧ limb_1_2.after args s (.returned v) u = true ∧ True) → FramedW s (.returned v) u (Jvm.fieldLocs frame_1_writes args s ++ Jvm.arrayLocs frame_1_arrays args s ++ Jvm.staticLocs frame_1_statics s) 24 1152 → Post tb e args s (.returned v) u) :
    ArmFor flags0 classFile x code maxLocals ret World_1 tables_1 room_1 Calls_1 rest_1 Pre_1 Post := by
  intro l hfl _ _ p e ha hc hk s m args below hf hA hF happ hP
  obtain ⟨hcalls, hrest, hpre⟩ := hP
  obtain ⟨-, -, -, hnamed, -, -, -, hat⟩ := (Spec.applies_iff hf).mp happ
  obtain ⟨hg, hn⟩ := and_e (Cond.before_iff.mp (show (Jvm.Cond.and given_1 narrow_1).before args s = true from hpre))
  obtain ⟨gc, gr0⟩ := and_e hg
  obtain ⟨ga0, gr1⟩ := and_e gr0
  obtain ⟨ga1, gr2⟩ := and_e gr1
  obtain ⟨ga2, gr3⟩ := and_e gr2
  obtain ⟨ga3, gr4⟩ := and_e gr3
  have ga4 := gr4
  obtain ⟨w0, w1, w2, w3, w4, rfl⟩ : ∃ w0 w1 w2 w3 w4 : Value, args = #[w0, w1, w2, w3, w4] := by
    have hs : args.size = 5 := by simpa [Cond.value, given_1] using gc
    obtain ⟨L⟩ := args
    match L, hs with
    | [w0, w1, w2, w3, w4], _ => exact ⟨w0, w1, w2, w3, w4, rfl⟩
  have hw := fun d (hd : d ∈ tables_1) => atoms_spec (ws := Jvm.Cond.code x code maxLocals ret :: tables_1) hat d (List.mem_cons_of_mem _ hd)
  have hfit : Fit s := fun {y c} hc i hi => by
    obtain ⟨ha, rfl⟩ := Array.getElem?_eq_some_iff.mp hc
    have q := List.all_eq_true.mp ((Array.all_eq_true_iff_forall_mem.mp hF) _ (Array.getElem_mem ha)) i (List.mem_range.mpr hi)
    simpa [Array.getElem?_eq_getElem hi] using q
  obtain ⟨hsets, hown0⟩ := atoms_of _ (rest_1_c_eq ▸ (show rest_1_c.before _ s = true from hrest))
  obtain ⟨i0, ei0⟩ := is_v ga0
  obtain rfl : w0 = (.int i0) := Option.some.inj ei0
  obtain ⟨i1, ei1⟩ := is_v ga1
  obtain rfl : w1 = (.int i1) := Option.some.inj ei1
  obtain ⟨i2, ei2⟩ := is_v ga2
  obtain rfl : w2 = (.int i2) := Option.some.inj ei2
  obtain ⟨i3, ei3⟩ := is_v ga3
  obtain rfl : w3 = (.int i3) := Option.some.inj ei3
  obtain ⟨i4, ei4⟩ := is_v ga4
  obtain rfl : w4 = (.int i4) := Option.some.inj ei4
  have n5 := not_v (Cond.before_iff.mp (hsets _ (List.mem_of_getElem? (i := 2) rfl)))
  obtain ⟨G1, e10⟩ := is_v (Cond.before_iff.mp (hsets _ (List.mem_of_getElem? (i := 1) rfl)))
  have S1 : Sta s s.heap "java/lang/String" "COMPACT_STRINGS" "Z" (.int G1) := Sta.start e10 (Or.inl (hsets _ (List.mem_of_getElem? (i := 0) rfl)))
  have P1 : ¬ (G1 = (0 : Int32)) := gotF (Cond.eq_ints e10 (Term.int_eval (0))) n5
  obtain ⟨hn1, hr1⟩ := and_e hn
  obtain ⟨hn2, hr2⟩ := and_e hr1
  obtain ⟨hn3, hr3⟩ := and_e hr2
  obtain ⟨hn4, hr4⟩ := and_e hr3
  obtain ⟨hn5, hn6⟩ := and_e hr4
  obtain ⟨c1, ec1⟩ := exa_v hn1
  have T1 : Sta s s.heap "com/example/anchorhold/anchorhold/Finding$Kind" "LIMIT_BELOW_RANGE" "Lcom/example/anchorhold/anchorhold/Finding$Kind;" (.ref c1) := Sta.start ec1 (Or.inr ⟨hw _ (List.mem_of_getElem? (i := 6) rfl), hw _ (List.mem_of_getElem? (i := 7) rfl)⟩)
  obtain ⟨c2, ec2⟩ := exa_v hn2
  have T2 : Sta s s.heap "com/example/anchorhold/anchorhold/Finding$Kind" "INTERVAL_INCOMPLETE" "Lcom/example/anchorhold/anchorhold/Finding$Kind;" (.ref c2) := Sta.start ec2 (Or.inr ⟨hw _ (List.mem_of_getElem? (i := 6) rfl), hw _ (List.mem_of_getElem? (i := 116) rfl)⟩)
  obtain ⟨c3, ec3⟩ := exa_v hn3
  have T3 : Sta s s.heap "com/example/anchorhold/anchorhold/Finding$Kind" "DUPLICATE_CODE" "Lcom/example/anchorhold/anchorhold/Finding$Kind;" (.ref c3) := Sta.start ec3 (Or.inr ⟨hw _ (List.mem_of_getElem? (i := 6) rfl), hw _ (List.mem_of_getElem? (i := 121) rfl)⟩)
  obtain ⟨c4, ec4⟩ := exa_v hn4
  have T4 : Sta s s.heap "com/example/anchorhold/anchorhold/Finding$Kind" "LIMITS_ONLY" "Lcom/example/anchorhold/anchorhold/Finding$Kind;" (.ref c4) := Sta.start ec4 (Or.inr ⟨hw _ (List.mem_of_getElem? (i := 6) rfl), hw _ (List.mem_of_getElem? (i := 123) rfl)⟩)
  obtain ⟨c5, ec5⟩ := exa_v hn5
  have T5 : Sta s s.heap "com/example/anchorhold/anchorhold/Finding$Kind" "STOP_RANGE_ABOVE_LIMIT" "Lcom/example/anchorhold/anchorhold/Finding$Kind;" (.ref c5) := Sta.start ec5 (Or.inr ⟨hw _ (List.mem_of_getElem? (i := 6) rfl), hw _ (List.mem_of_getElem? (i := 125) rfl)⟩)
  obtain ⟨c6, ec6⟩ := exa_v hn6
  have T6 : Sta s s.heap "com/example/anchorhold/anchorhold/Finding$Kind" "INTERVALS_ONLY" "Lcom/example/anchorhold/anchorhold/Finding$Kind;" (.ref c6) := Sta.start ec6 (Or.inr ⟨hw _ (List.mem_of_getElem? (i := 6) rfl), hw _ (List.mem_of_getElem? (i := 127) rfl)⟩)
  have x11 := Cond.before_iff.mp (hsets _ (List.mem_of_getElem? (i := 11) rfl))
  obtain ⟨mp, emp⟩ := exa_v x11
  have SE : Sta s s.heap "java/util/ImmutableCollections" "EMPTY_MAP" "Ljava/util/ImmutableCollections$MapN;" (.ref mp) := Sta.start emp (Or.inl (hsets _ (List.mem_of_getElem? (i := 10) rfl)))
  have EE := Exa.start emp x11
  obtain ⟨q1, q2, q3, -⟩ := hcalls
  obtain ⟨mc1, mk1, m1, M1⟩ := q1
  obtain ⟨mc2, mk2, m2, M2⟩ := q2
  have hch : CHv s EL1 s.vm s.heap := CHv.start (hEW s _ hw) (fun p hp => by cases List.mem_singleton.mp hp; exact q3 _ (by decide)) (hsets _ (List.mem_of_getElem? (i := 2) rfl)) (hw _ (List.mem_of_getElem? (i := 30) rfl)) (hw _ (List.mem_of_getElem? (i := 13) rfl))
  obtain ⟨n, o, h1, h2, h3, _, L, rfl, ⟨⟨xr, rfl, rfl⟩, N, -, -⟩, hq⟩ := (rm0 l s _ hw i0 i1 i2 i3 i4 G1 S1 P1 c1 c5 c3 c2 c4 c6 T1 T5 T3 T2 T4 T6 mp SE EE m1 m2 ⟨mc1, mk1, M1⟩ ⟨mc2, mk2, M2⟩) ⟨Nat.le_refl _, fun _ _ q => q⟩ p e ha hc hk s m _ below hf ((Spec.applies_iff_loose hf).mp happ).1 ⟨rfl, State.Warmed39.refl s, rfl, hch⟩ trivial
  exact ⟨n, _, h1, h2, h3, hpost _ _ _ _ _ _ ⟨Cond.after_iff.mpr rfl, Cond.after_iff.mpr (eq_i res_at (Term.int_eval (1)) rfl), trivial⟩ ⟨hq.1, hq.2.1, hq.2.2.1, (hq.2.2.2.sift fun y hy => Or.inr (N y hy)).mono (by decide) (by decide)⟩⟩
theorem main_1_1 : Claimed_1_1 := comes_1 fun _ _ _ _ _ _ h hF => ⟨h.1, hF⟩
theorem main_1_2 : Claimed_1_2 := comes_1 fun _ _ _ _ _ _ h hF => ⟨h.2.1, hF⟩
end Jvm.Pilot.@@N@@
namespace Jvm.Pilot.@@N@@
open Jvm Jvm.ClassFile Sem Op Lib Jvm.Free Jvm.Stand Jvm.Pilot.@@N@@.Jvm.D
/-! MADE BY PROGRAM (witnessworld.py) out of the Statement's table words and the real class files: 31 classes; the members and pool entries that the words name. The judged class is class 1, her method 3. -/
namespace start1
open Jvm.ClassFile
def u (s : String) : CpInfo := .utf8 (stringToUtf16 s)
/-- a pool by its gaps: so many unusable entries, then the entry; so many at the end -/
def gap : Nat → List CpInfo → List CpInfo
  | 0, r => r
  | n + 1, r => .unusable :: gap n r
def poolList (es : List (Nat × CpInfo)) (last : Nat) : List CpInfo := es.foldr (fun e r => gap e.1 (e.2 :: r)) (gap last [])
def pool (es : List (Nat × CpInfo)) (last : Nat) : Array CpInfo := ⟨poolList es last⟩
def fileOf (pool : Array CpInfo) (this : Nat) (attrs : Array Attribute := #[]) (ms : Array MethodInfo := #[]) (fl : Nat := 33) (sup : Nat := 0) (ifs : Array Nat := #[]) (fds : Array FieldInfo := #[]) : ClassFile where
  minorVersion := 0
  majorVersion := 65
  constantPool := pool
  accessFlags := fl
  thisClass := this
  superClass := sup
  interfaces := ifs
  fields := fds
  methods := ms
  attributes := attrs
def plain (name : String) (sup : Option ClassId) : Class where
  name := name
  kind := .ordinary
  loader := none
  accessFlags := 33
  super := sup
  interfaces := #[]
  cf := none
  fields := #[]
  methods := #[]
  instanceTypes := #[]
  staticTypes := #[]
  resolved := #[]
  callSites := []
  init := .initialized
  statics := none
  mirror := none

def pool0 : Array CpInfo := pool [(5, u "<init>"), (0, u "()V"), (1, .class_ 10), (1, u "java/lang/Object"), (0, u "getClass"), (0, u "()Ljava/lang/Class;")] 111

def k0c0 : Code := { maxStack := 0, maxLocals := 1, code := object_method_1_code, exceptionTable := #[], attributes := #[] }
def k0m0 : Method := { name := "<init>", desc := "()V", sig := { parameters := [], returnType := none }, accessFlags := 1, code := some k0c0 }
def k0m1 : Method := { name := "getClass", desc := "()Ljava/lang/Class;", sig := { parameters := [], returnType := some (.object "java/lang/Class") }, accessFlags := 273, code := none }
/-- java/lang/Object -/
def k0 : Class := { plain "java/lang/Object" none with
  accessFlags := 33
  interfaces := #[]
  cf := some (fileOf pool0 8 #[] #[{ accessFlags := 1, nameIndex := 5, descriptorIndex := 6, attributes := #[] }, { accessFlags := 273, nameIndex := 11, descriptorIndex := 12, attributes := #[] }] 33 0 #[] #[])
  fields := #[]
  methods := #[k0m0, k0m1]
  instanceTypes := #[]
  staticTypes := #[]
  resolved := Array.replicate 124 none
  statics := none }

def pool1 : Array CpInfo := pool [(2, .class_ 4), (1, u "java/lang/Object"), (0, u "<init>"), (0, u "()V"), (0, .integer 2147483647), (0, .fieldref 9 10), (0, .class_ 11), (0, .nameAndType 12 13), (0, u "com/example/anchorhold/anchorhold/Finding$Kind"), (0, u "LIMIT_BELOW_RANGE"), (0, u "Lcom/example/anchorhold/anchorhold/Finding$Kind;"), (0, .fieldref 9 15), (0, .nameAndType 16 13), (0, u "STOP_RANGE_ABOVE_LIMIT"), (0, .fieldref 9 18), (0, .nameAndType 19 13), (0, u "DUPLICATE_CODE"), (0, .fieldref 9 21), (0, .nameAndType 22 13), (0, u "INTERVAL_INCOMPLETE"), (0, .fieldref 9 24), (0, .nameAndType 25 13), (0, u "LIMITS_ONLY"), (0, .fieldref 9 27), (0, .nameAndType 28 13), (0, u "INTERVALS_ONLY"), (0, .class_ 30), (0, u "java/lang/String"), (0, .methodref 29 32), (0, .nameAndType 5 33), (0, u "([C)V"), (0, .methodref 35 36), (0, .class_ 37), (0, .nameAndType 38 39), (0, u "com/example/anchorhold/anchorhold/FindingWarningPinLaw"), (0, u "kindOf"), (0, u "(I)Lcom/example/anchorhold/anchorhold/Finding$Kind;"), (0, .methodref 35 41), (0, .nameAndType 42 43), (0, u "str"), (0, u "(IIII)Ljava/lang/String;"), (0, .methodref 45 46), (0, .class_ 47), (0, .nameAndType 48 49), (0, u "com/example/anchorhold/anchorhold/Finding"), (0, u "warning"), (0, u "(Lcom/example/anchorhold/anchorhold/Finding$Kind;Ljava/lang/String;)Lcom/example/anchorhold/anchorhold/Finding;"), (0, .methodref 45 51), (0, .nameAndType 52 53), (0, u "kind"), (0, u "()Lcom/example/anchorhold/anchorhold/Finding$Kind;"), (0, .methodref 45 55), (0, .nameAndType 56 57), (0, u "code"), (0, u "()Ljava/lang/String;"), (0, .methodref 29 59), (0, .nameAndType 60 61), (0, u "equals"), (0, u "(Ljava/lang/Object;)Z"), (0, .methodref 45 63), (0, .nameAndType 64 65), (0, u "line"), (0, u "()I"), (3, u "law"), (0, u "(IIIII)Z")] 4

def k1m0 : Method := { name := "<init>", desc := "()V", sig := { parameters := [], returnType := none }, accessFlags := 2, code := none }
def k1c1 : Code := { maxStack := 2, maxLocals := 2, code := method_2_code, exceptionTable := #[], attributes := #[] }
def k1m1 : Method := { name := "kindOf", desc := "(I)Lcom/example/anchorhold/anchorhold/Finding$Kind;", sig := { parameters := [.int], returnType := some (.object "com/example/anchorhold/anchorhold/Finding$Kind") }, accessFlags := 10, code := some k1c1 }
def k1c2 : Code := { maxStack := 3, maxLocals := 9, code := method_3_code, exceptionTable := #[], attributes := #[] }
def k1m2 : Method := { name := "str", desc := "(IIII)Ljava/lang/String;", sig := { parameters := [.int, .int, .int, .int], returnType := some (.object "java/lang/String") }, accessFlags := 10, code := some k1c2 }
def k1c3 : Code := { maxStack := 4, maxLocals := 8, code := code, exceptionTable := #[], attributes := #[] }
def k1m3 : Method := { name := "law", desc := "(IIIII)Z", sig := { parameters := [.int, .int, .int, .int, .int], returnType := some .boolean }, accessFlags := 9, code := some k1c3 }
/-- com/example/anchorhold/anchorhold/FindingWarningPinLaw -/
def k1 : Class := { plain "com/example/anchorhold/anchorhold/FindingWarningPinLaw" (some 0) with
  accessFlags := 49
  interfaces := #[]
  cf := some (fileOf pool1 35 #[] #[{ accessFlags := 2, nameIndex := 5, descriptorIndex := 6, attributes := #[] }, { accessFlags := 10, nameIndex := 38, descriptorIndex := 39, attributes := #[] }, { accessFlags := 10, nameIndex := 42, descriptorIndex := 43, attributes := #[] }, { accessFlags := 9, nameIndex := 69, descriptorIndex := 70, attributes := #[] }] 49 2 #[] #[])
  fields := #[]
  methods := #[k1m0, k1m1, k1m2, k1m3]
  instanceTypes := #[]
  staticTypes := #[]
  resolved := Array.replicate 75 none
  statics := none }

def pool2 : Array CpInfo := pool [(1, .class_ 2), (0, u "java/lang/constant/Constable"), (0, .class_ 4), (0, u "java/lang/Object")] 6

/-- java/lang/constant/Constable -/
def k2 : Class := { plain "java/lang/constant/Constable" (some 0) with
  accessFlags := 1537
  interfaces := #[]
  cf := some (fileOf pool2 1 #[] #[] 1537 3 #[] #[])
  fields := #[]
  methods := #[]
  instanceTypes := #[]
  staticTypes := #[]
  resolved := Array.replicate 11 none
  statics := none }

def pool3 : Array CpInfo := pool [(1, .class_ 2), (0, u "java/lang/Comparable"), (0, .class_ 4), (0, u "java/lang/Object")] 7

/-- java/lang/Comparable -/
def k3 : Class := { plain "java/lang/Comparable" (some 0) with
  accessFlags := 1537
  interfaces := #[]
  cf := some (fileOf pool3 1 #[] #[] 1537 3 #[] #[])
  fields := #[]
  methods := #[]
  instanceTypes := #[]
  staticTypes := #[]
  resolved := Array.replicate 12 none
  statics := none }

def pool4 : Array CpInfo := pool [(1, .class_ 2), (0, u "java/io/Serializable"), (0, .class_ 4), (0, u "java/lang/Object")] 2

/-- java/io/Serializable -/
def k4 : Class := { plain "java/io/Serializable" (some 0) with
  accessFlags := 1537
  interfaces := #[]
  cf := some (fileOf pool4 1 #[] #[] 1537 3 #[] #[])
  fields := #[]
  methods := #[]
  instanceTypes := #[]
  staticTypes := #[]
  resolved := Array.replicate 7 none
  statics := none }

def pool5 : Array CpInfo := pool [(2, .class_ 4), (1, u "java/lang/Enum"), (0, u "name"), (0, u "Ljava/lang/String;"), (2, u "ordinal"), (0, u "I"), (1, .class_ 14), (1, u "java/lang/Object"), (4, u "hash"), (86, .class_ 108), (1, u "java/lang/Enum$EnumDesc"), (2, .class_ 112), (0, u "java/lang/constant/Constable"), (0, .class_ 114), (0, u "java/lang/Comparable"), (0, .class_ 116), (0, u "java/io/Serializable")] 87

/-- java/lang/Enum -/
def k5 : Class := { plain "java/lang/Enum" (some 0) with
  accessFlags := 1057
  interfaces := #[2, 3, 4]
  cf := some (fileOf pool5 2 #[.nestMembers #[106]] #[] 1057 12 #[111, 113, 115] #[{ accessFlags := 18, nameIndex := 5, descriptorIndex := 6, attributes := #[] }, { accessFlags := 18, nameIndex := 9, descriptorIndex := 10, attributes := #[] }, { accessFlags := 2, nameIndex := 19, descriptorIndex := 10, attributes := #[] }])
  fields := #[{ name := "name", type := (.object "java/lang/String"), accessFlags := 18, slot := 0, constantValue := 0 }, { name := "ordinal", type := .int, accessFlags := 18, slot := 1, constantValue := 0 }, { name := "hash", type := .int, accessFlags := 2, slot := 2, constantValue := 0 }]
  methods := #[]
  instanceTypes := #[(.object "java/lang/String"), .int, .int]
  staticTypes := #[]
  resolved := Array.replicate 204 none
  statics := none }

def pool6 : Array CpInfo := pool [(1, .class_ 2), (0, u "com/example/anchorhold/anchorhold/Finding$Kind"), (2, u "LIMIT_BELOW_RANGE"), (0, u "Lcom/example/anchorhold/anchorhold/Finding$Kind;"), (2, u "STOP_RANGE_ABOVE_LIMIT"), (2, u "DUPLICATE_CODE"), (2, u "INTERVAL_INCOMPLETE"), (2, u "LIMITS_ONLY"), (2, u "INTERVALS_ONLY"), (2, u "$VALUES"), (0, u "[Lcom/example/anchorhold/anchorhold/Finding$Kind;"), (6, .class_ 34), (1, u "java/lang/Enum"), (8, u "word"), (0, u "Ljava/lang/String;"), (2, u "error"), (0, u "Z"), (41, .class_ 91), (0, u "com/example/anchorhold/anchorhold/Finding")] 2

/-- com/example/anchorhold/anchorhold/Finding$Kind -/
def k6 : Class := { plain "com/example/anchorhold/anchorhold/Finding$Kind" (some 5) with
  accessFlags := 16433
  interfaces := #[]
  cf := some (fileOf pool6 1 #[.nestHost 90] #[] 16433 32 #[] #[{ accessFlags := 16409, nameIndex := 5, descriptorIndex := 6, attributes := #[] }, { accessFlags := 16409, nameIndex := 9, descriptorIndex := 6, attributes := #[] }, { accessFlags := 16409, nameIndex := 12, descriptorIndex := 6, attributes := #[] }, { accessFlags := 16409, nameIndex := 15, descriptorIndex := 6, attributes := #[] }, { accessFlags := 16409, nameIndex := 18, descriptorIndex := 6, attributes := #[] }, { accessFlags := 16409, nameIndex := 21, descriptorIndex := 6, attributes := #[] }, { accessFlags := 18, nameIndex := 43, descriptorIndex := 44, attributes := #[] }, { accessFlags := 18, nameIndex := 47, descriptorIndex := 48, attributes := #[] }, { accessFlags := 4122, nameIndex := 24, descriptorIndex := 25, attributes := #[] }])
  fields := #[{ name := "LIMIT_BELOW_RANGE", type := (.object "com/example/anchorhold/anchorhold/Finding$Kind"), accessFlags := 16409, slot := 0, constantValue := 0 }, { name := "STOP_RANGE_ABOVE_LIMIT", type := (.object "com/example/anchorhold/anchorhold/Finding$Kind"), accessFlags := 16409, slot := 1, constantValue := 0 }, { name := "DUPLICATE_CODE", type := (.object "com/example/anchorhold/anchorhold/Finding$Kind"), accessFlags := 16409, slot := 2, constantValue := 0 }, { name := "INTERVAL_INCOMPLETE", type := (.object "com/example/anchorhold/anchorhold/Finding$Kind"), accessFlags := 16409, slot := 3, constantValue := 0 }, { name := "LIMITS_ONLY", type := (.object "com/example/anchorhold/anchorhold/Finding$Kind"), accessFlags := 16409, slot := 4, constantValue := 0 }, { name := "INTERVALS_ONLY", type := (.object "com/example/anchorhold/anchorhold/Finding$Kind"), accessFlags := 16409, slot := 5, constantValue := 0 }, { name := "word", type := (.object "java/lang/String"), accessFlags := 18, slot := 3, constantValue := 0 }, { name := "error", type := .boolean, accessFlags := 18, slot := 4, constantValue := 0 }, { name := "$VALUES", type := (.array (.object "com/example/anchorhold/anchorhold/Finding$Kind")), accessFlags := 4122, slot := 6, constantValue := 0 }]
  methods := #[]
  instanceTypes := #[(.object "java/lang/String"), .int, .int, (.object "java/lang/String"), .boolean]
  staticTypes := #[(.object "com/example/anchorhold/anchorhold/Finding$Kind"), (.object "com/example/anchorhold/anchorhold/Finding$Kind"), (.object "com/example/anchorhold/anchorhold/Finding$Kind"), (.object "com/example/anchorhold/anchorhold/Finding$Kind"), (.object "com/example/anchorhold/anchorhold/Finding$Kind"), (.object "com/example/anchorhold/anchorhold/Finding$Kind"), (.array (.object "com/example/anchorhold/anchorhold/Finding$Kind"))]
  resolved := Array.replicate 94 none
  statics := some 0 }

def pool7 : Array CpInfo := pool [(2, .class_ 4), (1, u "java/lang/CharSequence"), (42, .class_ 48), (0, u "java/lang/CharSequence$1CodePointIterator"), (10, .class_ 60), (0, u "java/lang/CharSequence$1CharIterator"), (5, .class_ 67), (0, u "java/lang/Object")] 63

/-- java/lang/CharSequence -/
def k7 : Class := { plain "java/lang/CharSequence" (some 0) with
  accessFlags := 1537
  interfaces := #[]
  cf := some (fileOf pool7 2 #[.nestMembers #[47, 59]] #[] 1537 66 #[] #[])
  fields := #[]
  methods := #[]
  instanceTypes := #[]
  staticTypes := #[]
  resolved := Array.replicate 131 none
  statics := none }

def pool8 : Array CpInfo := pool [(1, .class_ 2), (0, u "java/lang/constant/ConstantDesc"), (0, .class_ 4), (0, u "java/lang/Object")] 32

/-- java/lang/constant/ConstantDesc -/
def k8 : Class := { plain "java/lang/constant/ConstantDesc" (some 0) with
  accessFlags := 1537
  interfaces := #[]
  cf := some (fileOf pool8 1 #[] #[] 1537 3 #[] #[])
  fields := #[]
  methods := #[]
  instanceTypes := #[]
  staticTypes := #[]
  resolved := Array.replicate 37 none
  statics := none }

def pool9 : Array CpInfo := pool [(1, .methodref 2 3), (0, .class_ 4), (0, .nameAndType 5 6), (0, u "java/lang/Object"), (0, u "<init>"), (0, u "()V"), (0, .string 8), (0, u ""), (0, .fieldref 10 11), (0, .class_ 12), (0, .nameAndType 13 14), (0, u "java/lang/String"), (0, u "value"), (0, u "[B"), (0, .fieldref 10 16), (0, .nameAndType 17 18), (0, u "coder"), (0, u "B"), (2, u "hash"), (0, u "I"), (2, u "hashIsZero"), (0, u "Z"), (0, .methodref 10 28), (0, .nameAndType 5 29), (0, u "([CIILjava/lang/Void;)V"), (8, .fieldref 10 39), (0, .nameAndType 40 26), (0, u "COMPACT_STRINGS"), (1, .class_ 44), (1, u "java/lang/StringUTF16"), (0, u "compress"), (1, .methodref 42 48), (0, .nameAndType 49 50), (0, u "coderFromArrayLen"), (0, u "([BI)B"), (126, .methodref 42 178), (0, .nameAndType 45 179), (0, u "([CII)[B"), (363, u "equals"), (29, u "(Ljava/lang/Object;)Z"), (1, .class_ 576), (0, u "java/lang/CharSequence"), (22, u "CASE_INSENSITIVE_ORDER"), (0, u "Ljava/util/Comparator;"), (409, u "([C)V"), (90, u "serialPersistentFields"), (0, u "[Ljava/io/ObjectStreamField;"), (0, .class_ 1104), (0, u "java/lang/String$CaseInsensitiveComparator"), (1, .class_ 1107), (0, u "java/io/Serializable"), (0, .class_ 1109), (0, u "java/lang/Comparable"), (0, .class_ 1111), (0, u "java/lang/constant/Constable"), (0, .class_ 1113), (0, u "java/lang/constant/ConstantDesc"), (2, u "serialVersionUID"), (0, u "J"), (3, u "REPL"), (0, u "C"), (2, u "LATIN1"), (1, u "UTF16")] 323

def k9m0 : Method := { name := "<init>", desc := "()V", sig := { parameters := [], returnType := none }, accessFlags := 1, code := none }
def k9c1 : Code := { maxStack := 5, maxLocals := 2, code := jdk_42_method_3_code, exceptionTable := #[], attributes := #[] }
def k9m1 : Method := { name := "<init>", desc := "([C)V", sig := { parameters := [(.array .char)], returnType := none }, accessFlags := 1, code := some k9c1 }
def k9c2 : Code := { maxStack := 2, maxLocals := 3, code := jdk_42_method_66_code, exceptionTable := #[], attributes := #[] }
def k9m2 : Method := { name := "equals", desc := "(Ljava/lang/Object;)Z", sig := { parameters := [(.object "java/lang/Object")], returnType := some .boolean }, accessFlags := 1, code := some k9c2 }
def k9c3 : Code := { maxStack := 4, maxLocals := 6, code := jdk_42_method_149_code, exceptionTable := #[], attributes := #[] }
def k9m3 : Method := { name := "<init>", desc := "([CIILjava/lang/Void;)V", sig := { parameters := [(.array .char), .int, .int, (.object "java/lang/Void")], returnType := none }, accessFlags := 2, code := some k9c3 }
/-- java/lang/String -/
def k9 : Class := { plain "java/lang/String" (some 0) with
  accessFlags := 49
  interfaces := #[4, 3, 7, 2, 8]
  cf := some (fileOf pool9 10 #[.nestMembers #[1103]] #[{ accessFlags := 1, nameIndex := 5, descriptorIndex := 6, attributes := #[] }, { accessFlags := 1, nameIndex := 5, descriptorIndex := 1010, attributes := #[] }, { accessFlags := 1, nameIndex := 543, descriptorIndex := 573, attributes := #[] }, { accessFlags := 2, nameIndex := 5, descriptorIndex := 29, attributes := #[] }] 49 2 #[1106, 1108, 575, 1110, 1112] #[{ accessFlags := 18, nameIndex := 13, descriptorIndex := 14, attributes := #[] }, { accessFlags := 18, nameIndex := 17, descriptorIndex := 18, attributes := #[] }, { accessFlags := 2, nameIndex := 21, descriptorIndex := 22, attributes := #[] }, { accessFlags := 2, nameIndex := 25, descriptorIndex := 26, attributes := #[] }, { accessFlags := 26, nameIndex := 1116, descriptorIndex := 1117, attributes := #[] }, { accessFlags := 24, nameIndex := 40, descriptorIndex := 26, attributes := #[] }, { accessFlags := 26, nameIndex := 1101, descriptorIndex := 1102, attributes := #[] }, { accessFlags := 26, nameIndex := 1121, descriptorIndex := 1122, attributes := #[] }, { accessFlags := 25, nameIndex := 599, descriptorIndex := 600, attributes := #[] }, { accessFlags := 24, nameIndex := 1125, descriptorIndex := 18, attributes := #[] }, { accessFlags := 24, nameIndex := 1127, descriptorIndex := 18, attributes := #[] }])
  fields := #[{ name := "value", type := (.array .byte), accessFlags := 18, slot := 0, constantValue := 0 }, { name := "coder", type := .byte, accessFlags := 18, slot := 1, constantValue := 0 }, { name := "hash", type := .int, accessFlags := 2, slot := 2, constantValue := 0 }, { name := "hashIsZero", type := .boolean, accessFlags := 2, slot := 3, constantValue := 0 }, { name := "serialVersionUID", type := .long, accessFlags := 26, slot := 0, constantValue := 0 }, { name := "COMPACT_STRINGS", type := .boolean, accessFlags := 24, slot := 1, constantValue := 0 }, { name := "serialPersistentFields", type := (.array (.object "java/io/ObjectStreamField")), accessFlags := 26, slot := 2, constantValue := 0 }, { name := "REPL", type := .char, accessFlags := 26, slot := 3, constantValue := 0 }, { name := "CASE_INSENSITIVE_ORDER", type := (.object "java/util/Comparator"), accessFlags := 25, slot := 4, constantValue := 0 }, { name := "LATIN1", type := .byte, accessFlags := 24, slot := 5, constantValue := 0 }, { name := "UTF16", type := .byte, accessFlags := 24, slot := 6, constantValue := 0 }]
  methods := #[k9m0, k9m1, k9m2, k9m3]
  instanceTypes := #[(.array .byte), .byte, .int, .boolean]
  staticTypes := #[.long, .boolean, (.array (.object "java/io/ObjectStreamField")), .char, (.object "java/util/Comparator"), .byte, .byte]
  resolved := Array.replicate 1451 none
  statics := some 1 }

def pool10 : Array CpInfo := pool [(6, .class_ 8), (1, u "java/lang/Object"), (0, u "<init>"), (0, u "()V"), (1, .class_ 14), (1, u "java/lang/StringUTF16"), (31, u "$assertionsDisabled"), (0, u "Z"), (13, u "HI_BYTE_SHIFT"), (0, u "I"), (2, u "LO_BYTE_SHIFT"), (49, .methodref 12 116), (0, .nameAndType 117 118), (0, u "compress"), (0, u "([CI[BII)I"), (3, u "([CII)[B"), (138, u "coderFromArrayLen"), (0, u "([BI)B"), (106, .class_ 371), (1, u "java/lang/StringUTF16$LinesSpliterator"), (58, u "MAX_LENGTH"), (196, .class_ 628), (0, u "java/lang/StringUTF16$CodePointsSpliterator"), (0, .class_ 630), (0, u "java/lang/StringUTF16$CharsSpliterator")] 4

def k10m0 : Method := { name := "<init>", desc := "()V", sig := { parameters := [], returnType := none }, accessFlags := 0, code := none }
def k10c1 : Code := { maxStack := 2, maxLocals := 2, code := jdk_52_method_15_code, exceptionTable := #[], attributes := #[] }
def k10m1 : Method := { name := "coderFromArrayLen", desc := "([BI)B", sig := { parameters := [(.array .byte), .int], returnType := some .byte }, accessFlags := 8, code := some k10c1 }
def k10c2 : Code := { maxStack := 5, maxLocals := 6, code := jdk_52_method_16_code, exceptionTable := #[], attributes := #[] }
def k10m2 : Method := { name := "compress", desc := "([CII)[B", sig := { parameters := [(.array .char), .int, .int], returnType := some (.array .byte) }, accessFlags := 9, code := some k10c2 }
def k10c3 : Code := { maxStack := 3, maxLocals := 7, code := jdk_52_method_21_code, exceptionTable := #[], attributes := #[] }
def k10m3 : Method := { name := "compress", desc := "([CI[BII)I", sig := { parameters := [(.array .char), .int, (.array .byte), .int, .int], returnType := some .int }, accessFlags := 9, code := some k10c3 }
/-- java/lang/StringUTF16 -/
def k10 : Class := { plain "java/lang/StringUTF16" (some 0) with
  accessFlags := 48
  interfaces := #[]
  cf := some (fileOf pool10 12 #[.nestMembers #[627, 629, 369]] #[{ accessFlags := 0, nameIndex := 9, descriptorIndex := 10, attributes := #[] }, { accessFlags := 8, nameIndex := 261, descriptorIndex := 262, attributes := #[] }, { accessFlags := 9, nameIndex := 117, descriptorIndex := 122, attributes := #[] }, { accessFlags := 9, nameIndex := 117, descriptorIndex := 118, attributes := #[] }] 48 6 #[] #[{ accessFlags := 26, nameIndex := 61, descriptorIndex := 62, attributes := #[] }, { accessFlags := 26, nameIndex := 65, descriptorIndex := 62, attributes := #[] }, { accessFlags := 24, nameIndex := 430, descriptorIndex := 62, attributes := #[] }, { accessFlags := 4120, nameIndex := 46, descriptorIndex := 47, attributes := #[] }])
  fields := #[{ name := "HI_BYTE_SHIFT", type := .int, accessFlags := 26, slot := 0, constantValue := 0 }, { name := "LO_BYTE_SHIFT", type := .int, accessFlags := 26, slot := 1, constantValue := 0 }, { name := "MAX_LENGTH", type := .int, accessFlags := 24, slot := 2, constantValue := 0 }, { name := "$assertionsDisabled", type := .boolean, accessFlags := 4120, slot := 3, constantValue := 0 }]
  methods := #[k10m0, k10m1, k10m2, k10m3]
  instanceTypes := #[]
  staticTypes := #[.int, .int, .int, .boolean]
  resolved := Array.replicate 635 none
  statics := none }

def pool11 : Array CpInfo := pool [(1, .methodref 2 3), (0, .class_ 4), (0, .nameAndType 5 6), (0, u "java/lang/Object"), (0, u "<init>"), (0, u "()V"), (0, .fieldref 8 9), (0, .class_ 10), (0, .nameAndType 11 12), (0, u "com/example/anchorhold/anchorhold/Finding"), (0, u "kind"), (0, u "Lcom/example/anchorhold/anchorhold/Finding$Kind;"), (0, .fieldref 8 14), (0, .nameAndType 15 16), (0, u "code"), (0, u "Ljava/lang/String;"), (0, .fieldref 8 18), (0, .nameAndType 19 20), (0, u "file"), (0, u "Ljava/nio/file/Path;"), (0, .fieldref 8 22), (0, .nameAndType 23 24), (0, u "line"), (0, u "I"), (0, .fieldref 8 26), (0, .nameAndType 27 16), (0, u "field"), (0, .methodref 29 30), (0, .class_ 31), (0, .nameAndType 32 33), (0, u "java/util/Collections"), (0, u "unmodifiableMap"), (0, u "(Ljava/util/Map;)Ljava/util/Map;"), (0, .fieldref 8 35), (0, .nameAndType 36 37), (0, u "compared"), (0, u "Ljava/util/Map;"), (0, .fieldref 8 39), (0, .nameAndType 40 24), (0, u "firstLine"), (4, .class_ 47), (1, u "java/util/Map"), (2, .methodref 8 51), (0, .nameAndType 5 52), (0, u "(Lcom/example/anchorhold/anchorhold/Finding$Kind;Ljava/lang/String;Ljava/nio/file/Path;ILjava/lang/String;Ljava/util/Map;I)V"), (1, .class_ 56), (1, u "com/example/anchorhold/anchorhold/Finding$Kind"), (2, .interfaceMethodref 45 60), (0, .nameAndType 61 62), (0, u "of"), (0, u "()Ljava/util/Map;"), (55, u "()I"), (87, u "warning"), (0, u "(Lcom/example/anchorhold/anchorhold/Finding$Kind;Ljava/lang/String;)Lcom/example/anchorhold/anchorhold/Finding;"), (5, u "()Lcom/example/anchorhold/anchorhold/Finding$Kind;"), (0, u "()Ljava/lang/String;")] 46

def k11c0 : Code := { maxStack := 2, maxLocals := 8, code := prog_7_method_1_code, exceptionTable := #[], attributes := #[] }
def k11m0 : Method := { name := "<init>", desc := "(Lcom/example/anchorhold/anchorhold/Finding$Kind;Ljava/lang/String;Ljava/nio/file/Path;ILjava/lang/String;Ljava/util/Map;I)V", sig := { parameters := [(.object "com/example/anchorhold/anchorhold/Finding$Kind"), (.object "java/lang/String"), (.object "java/nio/file/Path"), .int, (.object "java/lang/String"), (.object "java/util/Map"), .int], returnType := none }, accessFlags := 2, code := some k11c0 }
def k11c1 : Code := { maxStack := 9, maxLocals := 2, code := prog_7_method_5_code, exceptionTable := #[], attributes := #[] }
def k11m1 : Method := { name := "warning", desc := "(Lcom/example/anchorhold/anchorhold/Finding$Kind;Ljava/lang/String;)Lcom/example/anchorhold/anchorhold/Finding;", sig := { parameters := [(.object "com/example/anchorhold/anchorhold/Finding$Kind"), (.object "java/lang/String")], returnType := some (.object "com/example/anchorhold/anchorhold/Finding") }, accessFlags := 8, code := some k11c1 }
def k11c2 : Code := { maxStack := 1, maxLocals := 1, code := prog_7_method_7_code, exceptionTable := #[], attributes := #[] }
def k11m2 : Method := { name := "kind", desc := "()Lcom/example/anchorhold/anchorhold/Finding$Kind;", sig := { parameters := [], returnType := some (.object "com/example/anchorhold/anchorhold/Finding$Kind") }, accessFlags := 1, code := some k11c2 }
def k11c3 : Code := { maxStack := 1, maxLocals := 1, code := prog_7_method_8_code, exceptionTable := #[], attributes := #[] }
def k11m3 : Method := { name := "code", desc := "()Ljava/lang/String;", sig := { parameters := [], returnType := some (.object "java/lang/String") }, accessFlags := 1, code := some k11c3 }
def k11c4 : Code := { maxStack := 1, maxLocals := 1, code := prog_7_method_10_code, exceptionTable := #[], attributes := #[] }
def k11m4 : Method := { name := "line", desc := "()I", sig := { parameters := [], returnType := some .int }, accessFlags := 1, code := some k11c4 }
/-- com/example/anchorhold/anchorhold/Finding -/
def k11 : Class := { plain "com/example/anchorhold/anchorhold/Finding" (some 0) with
  accessFlags := 49
  interfaces := #[]
  cf := some (fileOf pool11 8 #[.nestMembers #[54]] #[{ accessFlags := 2, nameIndex := 5, descriptorIndex := 52, attributes := #[] }, { accessFlags := 8, nameIndex := 206, descriptorIndex := 207, attributes := #[] }, { accessFlags := 1, nameIndex := 11, descriptorIndex := 213, attributes := #[] }, { accessFlags := 1, nameIndex := 15, descriptorIndex := 214, attributes := #[] }, { accessFlags := 1, nameIndex := 23, descriptorIndex := 118, attributes := #[] }] 49 2 #[] #[{ accessFlags := 18, nameIndex := 11, descriptorIndex := 12, attributes := #[] }, { accessFlags := 18, nameIndex := 15, descriptorIndex := 16, attributes := #[] }, { accessFlags := 18, nameIndex := 19, descriptorIndex := 20, attributes := #[] }, { accessFlags := 18, nameIndex := 23, descriptorIndex := 24, attributes := #[] }, { accessFlags := 18, nameIndex := 27, descriptorIndex := 16, attributes := #[] }, { accessFlags := 18, nameIndex := 36, descriptorIndex := 37, attributes := #[] }, { accessFlags := 18, nameIndex := 40, descriptorIndex := 24, attributes := #[] }])
  fields := #[{ name := "kind", type := (.object "com/example/anchorhold/anchorhold/Finding$Kind"), accessFlags := 18, slot := 0, constantValue := 0 }, { name := "code", type := (.object "java/lang/String"), accessFlags := 18, slot := 1, constantValue := 0 }, { name := "file", type := (.object "java/nio/file/Path"), accessFlags := 18, slot := 2, constantValue := 0 }, { name := "line", type := .int, accessFlags := 18, slot := 3, constantValue := 0 }, { name := "field", type := (.object "java/lang/String"), accessFlags := 18, slot := 4, constantValue := 0 }, { name := "compared", type := (.object "java/util/Map"), accessFlags := 18, slot := 5, constantValue := 0 }, { name := "firstLine", type := .int, accessFlags := 18, slot := 6, constantValue := 0 }]
  methods := #[k11m0, k11m1, k11m2, k11m3, k11m4]
  instanceTypes := #[(.object "com/example/anchorhold/anchorhold/Finding$Kind"), (.object "java/lang/String"), (.object "java/nio/file/Path"), .int, (.object "java/lang/String"), (.object "java/util/Map"), .int]
  staticTypes := #[]
  resolved := Array.replicate 261 none
  statics := none }

def pool12 : Array CpInfo := pool [(2, .class_ 4), (1, u "java/util/Map"), (31, .class_ 37), (0, u "java/util/Map$Entry"), (43, .fieldref 82 83), (0, .class_ 84), (0, .nameAndType 85 86), (0, u "java/util/ImmutableCollections"), (0, u "EMPTY_MAP"), (0, u "Ljava/util/ImmutableCollections$MapN;"), (6, .class_ 94), (0, u "java/lang/Object"), (13, u "of"), (0, u "()Ljava/util/Map;")] 153

def k12c0 : Code := { maxStack := 1, maxLocals := 0, code := jdk_72_method_26_code, exceptionTable := #[], attributes := #[] }
def k12m0 : Method := { name := "of", desc := "()Ljava/util/Map;", sig := { parameters := [], returnType := some (.object "java/util/Map") }, accessFlags := 9, code := some k12c0 }
/-- java/util/Map -/
def k12 : Class := { plain "java/util/Map" (some 0) with
  accessFlags := 1537
  interfaces := #[]
  cf := some (fileOf pool12 2 #[.nestMembers #[36]] #[{ accessFlags := 9, nameIndex := 108, descriptorIndex := 109, attributes := #[] }] 1537 93 #[] #[])
  fields := #[]
  methods := #[k12m0]
  instanceTypes := #[]
  staticTypes := #[]
  resolved := Array.replicate 263 none
  statics := none }

def pool13 : Array CpInfo := pool [(2, .class_ 4), (1, u "java/lang/Object"), (0, u "<init>"), (0, u "()V"), (3, .class_ 11), (0, u "java/util/ImmutableCollections$List12"), (0, .class_ 13), (0, u "java/util/ImmutableCollections$ListN"), (3, u "Z"), (29, .class_ 49), (1, u "java/util/ImmutableCollections"), (0, u "$assertionsDisabled"), (5, u "[Ljava/lang/Object;"), (5, u "EMPTY_LIST"), (0, u "Ljava/util/ImmutableCollections$ListN;"), (8, u "EMPTY_LIST_NULLS"), (22, u "SALT32L"), (0, u "J"), (2, u "REVERSE"), (6, u "archivedObjects"), (2, u "EMPTY"), (0, u "Ljava/lang/Object;"), (0, .class_ 112), (0, u "java/util/ImmutableCollections$SetN"), (5, u "EMPTY_SET"), (0, u "Ljava/util/ImmutableCollections$SetN;"), (0, .class_ 121), (0, u "java/util/ImmutableCollections$MapN"), (3, u "EMPTY_MAP"), (0, u "Ljava/util/ImmutableCollections$MapN;"), (4, u "EXPAND_FACTOR"), (0, u "I"), (36, .class_ 170), (0, u "java/util/ImmutableCollections$MapN$MapNIterator"), (0, .class_ 172), (0, u "java/util/ImmutableCollections$MapN$1"), (0, .class_ 174), (0, u "java/util/ImmutableCollections$Map1"), (0, .class_ 176), (0, u "java/util/ImmutableCollections$AbstractImmutableMap"), (0, .class_ 178), (0, u "java/util/ImmutableCollections$SetN$SetNIterator"), (0, .class_ 180), (0, u "java/util/ImmutableCollections$Set12"), (0, .class_ 182), (0, u "java/util/ImmutableCollections$Set12$1"), (0, .class_ 184), (0, u "java/util/ImmutableCollections$AbstractImmutableSet"), (0, .class_ 186), (0, u "java/util/ImmutableCollections$SubList"), (0, .class_ 188), (0, u "java/util/ImmutableCollections$ListItr"), (0, .class_ 190), (0, u "java/util/ImmutableCollections$AbstractImmutableList"), (0, .class_ 192), (0, u "java/util/ImmutableCollections$AbstractImmutableCollection"), (0, .class_ 194), (0, u "java/util/ImmutableCollections$Access"), (0, .class_ 196), (0, u "java/util/ImmutableCollections$Access$1")] 16

def k13m0 : Method := { name := "<init>", desc := "()V", sig := { parameters := [], returnType := none }, accessFlags := 2, code := none }
/-- java/util/ImmutableCollections -/
def k13 : Class := { plain "java/util/ImmutableCollections" (some 0) with
  accessFlags := 32
  interfaces := #[]
  cf := some (fileOf pool13 47 #[.nestMembers #[120, 169, 171, 173, 175, 111, 177, 179, 181, 183, 12, 10, 185, 187, 189, 191, 193, 195]] #[{ accessFlags := 2, nameIndex := 5, descriptorIndex := 6, attributes := #[] }] 32 2 #[] #[{ accessFlags := 26, nameIndex := 95, descriptorIndex := 96, attributes := #[] }, { accessFlags := 26, nameIndex := 99, descriptorIndex := 17, attributes := #[] }, { accessFlags := 10, nameIndex := 106, descriptorIndex := 56, attributes := #[] }, { accessFlags := 26, nameIndex := 109, descriptorIndex := 110, attributes := #[] }, { accessFlags := 24, nameIndex := 62, descriptorIndex := 63, attributes := #[] }, { accessFlags := 24, nameIndex := 72, descriptorIndex := 63, attributes := #[] }, { accessFlags := 24, nameIndex := 118, descriptorIndex := 119, attributes := #[] }, { accessFlags := 24, nameIndex := 125, descriptorIndex := 126, attributes := #[] }, { accessFlags := 24, nameIndex := 131, descriptorIndex := 132, attributes := #[] }, { accessFlags := 4120, nameIndex := 50, descriptorIndex := 17, attributes := #[] }])
  fields := #[{ name := "SALT32L", type := .long, accessFlags := 26, slot := 0, constantValue := 0 }, { name := "REVERSE", type := .boolean, accessFlags := 26, slot := 1, constantValue := 0 }, { name := "archivedObjects", type := (.array (.object "java/lang/Object")), accessFlags := 10, slot := 2, constantValue := 0 }, { name := "EMPTY", type := (.object "java/lang/Object"), accessFlags := 26, slot := 3, constantValue := 0 }, { name := "EMPTY_LIST", type := (.object "java/util/ImmutableCollections$ListN"), accessFlags := 24, slot := 4, constantValue := 0 }, { name := "EMPTY_LIST_NULLS", type := (.object "java/util/ImmutableCollections$ListN"), accessFlags := 24, slot := 5, constantValue := 0 }, { name := "EMPTY_SET", type := (.object "java/util/ImmutableCollections$SetN"), accessFlags := 24, slot := 6, constantValue := 0 }, { name := "EMPTY_MAP", type := (.object "java/util/ImmutableCollections$MapN"), accessFlags := 24, slot := 7, constantValue := 0 }, { name := "EXPAND_FACTOR", type := .int, accessFlags := 24, slot := 8, constantValue := 0 }, { name := "$assertionsDisabled", type := .boolean, accessFlags := 4120, slot := 9, constantValue := 0 }]
  methods := #[k13m0]
  instanceTypes := #[]
  staticTypes := #[.long, .boolean, (.array (.object "java/lang/Object")), (.object "java/lang/Object"), (.object "java/util/ImmutableCollections$ListN"), (.object "java/util/ImmutableCollections$ListN"), (.object "java/util/ImmutableCollections$SetN"), (.object "java/util/ImmutableCollections$MapN"), .int, .boolean]
  resolved := Array.replicate 213 none
  statics := some 2 }

def pool14 : Array CpInfo := pool [(2, .class_ 4), (1, u "java/lang/Object"), (0, u "<init>"), (0, u "()V"), (12, .class_ 20), (0, u "java/util/Collections"), (63, u "r"), (0, u "Ljava/util/Random;"), (77, .nameAndType 164 165), (0, u "getClass"), (0, u "()Ljava/lang/Class;"), (0, .class_ 167), (0, u "java/util/Collections$UnmodifiableCollection"), (6, .class_ 175), (0, u "java/util/Collections$UnmodifiableSequencedCollection"), (6, .class_ 183), (0, u "java/util/Collections$UnmodifiableSet"), (6, .class_ 191), (0, u "java/util/Collections$UnmodifiableSequencedSet"), (6, .class_ 199), (0, u "java/util/Collections$UnmodifiableSortedSet"), (6, .class_ 207), (0, u "java/util/Collections$UnmodifiableNavigableSet"), (4, .class_ 213), (0, u "java/util/Collections$UnmodifiableList"), (1, .class_ 216), (0, u "java/util/Collections$UnmodifiableRandomAccessList"), (3, .interfaceMethodref 221 163), (0, .class_ 222), (0, u "java/util/Map"), (0, .class_ 224), (0, u "java/util/Collections$UnmodifiableMap"), (0, .methodref 223 226), (0, .nameAndType 5 227), (0, u "(Ljava/util/Map;)V"), (3, .class_ 232), (0, u "java/util/Collections$UnmodifiableSequencedMap"), (4, .class_ 238), (0, u "java/util/Collections$UnmodifiableSortedMap"), (6, .class_ 246), (0, u "java/util/Collections$UnmodifiableNavigableMap"), (3, .class_ 251), (0, u "java/util/Collections$SynchronizedCollection"), (4, .class_ 257), (0, u "java/util/Collections$SynchronizedSet"), (4, .class_ 263), (0, u "java/util/Collections$SynchronizedSortedSet"), (1, .class_ 266), (0, u "java/util/Collections$SynchronizedNavigableSet"), (1, .class_ 269), (0, u "java/util/Collections$SynchronizedRandomAccessList"), (1, .class_ 272), (0, u "java/util/Collections$SynchronizedList"), (5, .class_ 279), (0, u "java/util/Collections$SynchronizedMap"), (1, .class_ 282), (0, u "java/util/Collections$SynchronizedSortedMap"), (1, .class_ 285), (0, u "java/util/Collections$SynchronizedNavigableMap"), (1, .class_ 288), (0, u "java/util/Collections$CheckedCollection"), (11, .class_ 301), (0, u "java/util/Collections$CheckedQueue"), (3, .class_ 306), (0, u "java/util/Collections$CheckedSet"), (3, .class_ 311), (0, u "java/util/Collections$CheckedSortedSet"), (3, .class_ 316), (0, u "java/util/Collections$CheckedNavigableSet"), (3, .class_ 321), (0, u "java/util/Collections$CheckedRandomAccessList"), (3, .class_ 326), (0, u "java/util/Collections$CheckedList"), (1, .class_ 329), (0, u "java/util/Collections$CheckedMap"), (3, .class_ 334), (0, u "java/util/Collections$CheckedSortedMap"), (3, .class_ 339), (0, u "java/util/Collections$CheckedNavigableMap"), (4, .class_ 346), (1, u "java/util/Collections$EmptyIterator"), (3, .class_ 352), (1, u "java/util/Collections$EmptyListIterator"), (2, .class_ 357), (1, u "java/util/Collections$EmptyEnumeration"), (4, u "EMPTY_SET"), (0, u "Ljava/util/Set;"), (6, u "EMPTY_LIST"), (0, u "Ljava/util/List;"), (2, u "EMPTY_MAP"), (0, u "Ljava/util/Map;"), (4, .class_ 381), (0, u "java/util/Collections$SingletonSet"), (2, .class_ 385), (0, u "java/util/Collections$1"), (1, .class_ 388), (0, u "java/util/Collections$2"), (1, .class_ 391), (0, u "java/util/Collections$SingletonList"), (1, .class_ 394), (0, u "java/util/Collections$SingletonMap"), (22, .class_ 418), (0, u "java/util/Collections$CopiesList"), (4, .class_ 425), (1, u "java/util/Collections$ReverseComparator"), (8, .class_ 435), (0, u "java/util/Collections$ReverseComparator2"), (6, .class_ 443), (0, u "java/util/Collections$3"), (25, .class_ 470), (0, u "java/util/Collections$SetFromMap"), (2, .class_ 474), (0, u "java/util/Collections$SequencedSetFromMap"), (3, .class_ 479), (0, u "java/util/Collections$AsLIFOQueue"), (11, .class_ 492), (0, u "java/util/Collections$EmptySet"), (1, .class_ 495), (0, u "java/util/Collections$EmptyList"), (1, .class_ 498), (0, u "java/util/Collections$EmptyMap"), (1, u "BINARYSEARCH_THRESHOLD"), (0, u "I"), (2, u "REVERSE_THRESHOLD"), (1, u "SHUFFLE_THRESHOLD"), (1, u "FILL_THRESHOLD"), (1, u "ROTATE_THRESHOLD"), (1, u "COPY_THRESHOLD"), (1, u "REPLACEALL_THRESHOLD"), (1, u "INDEXOFSUBLIST_THRESHOLD"), (132, u "unmodifiableMap"), (0, u "(Ljava/util/Map;)Ljava/util/Map;"), (199, .class_ 851), (0, u "java/util/Collections$CheckedMap$CheckedEntrySet"), (0, .class_ 853), (0, u "java/util/Collections$CheckedMap$CheckedEntrySet$CheckedEntry"), (0, .class_ 855), (0, u "java/util/Collections$CheckedMap$CheckedEntrySet$1"), (0, .class_ 857), (0, u "java/util/Collections$CheckedList$1"), (0, .class_ 859), (0, u "java/util/Collections$CheckedCollection$1"), (0, .class_ 861), (0, u "java/util/Collections$UnmodifiableNavigableMap$EmptyNavigableMap"), (0, .class_ 863), (0, u "java/util/Collections$UnmodifiableMap$UnmodifiableEntrySet"), (0, .class_ 865), (0, u "java/util/Collections$UnmodifiableMap$UnmodifiableEntrySet$UnmodifiableEntry"), (0, .class_ 867), (0, u "java/util/Collections$UnmodifiableMap$UnmodifiableEntrySet$UnmodifiableEntrySetSpliterator"), (0, .class_ 869), (0, u "java/util/Collections$UnmodifiableMap$UnmodifiableEntrySet$1"), (0, .class_ 871), (0, u "java/util/Collections$UnmodifiableList$1"), (0, .class_ 873), (0, u "java/util/Collections$UnmodifiableNavigableSet$EmptyNavigableSet"), (0, .class_ 875), (0, u "java/util/Collections$UnmodifiableCollection$1")] 57

def k14m0 : Method := { name := "<init>", desc := "()V", sig := { parameters := [], returnType := none }, accessFlags := 2, code := none }
def k14c1 : Code := { maxStack := 3, maxLocals := 1, code := jdk_79_method_36_code, exceptionTable := #[], attributes := #[] }
def k14m1 : Method := { name := "unmodifiableMap", desc := "(Ljava/util/Map;)Ljava/util/Map;", sig := { parameters := [(.object "java/util/Map")], returnType := some (.object "java/util/Map") }, accessFlags := 9, code := some k14c1 }
/-- java/util/Collections -/
def k14 : Class := { plain "java/util/Collections" (some 0) with
  accessFlags := 33
  interfaces := #[]
  cf := some (fileOf pool14 19 #[.nestMembers #[478, 473, 469, 434, 423, 417, 393, 390, 380, 497, 494, 491, 355, 350, 344, 338, 333, 328, 850, 852, 854, 320, 325, 856, 315, 310, 305, 300, 287, 858, 284, 281, 278, 268, 271, 265, 262, 256, 250, 245, 860, 237, 231, 223, 862, 864, 866, 868, 215, 212, 870, 206, 872, 198, 190, 182, 174, 166, 874, 442, 387, 384]] #[{ accessFlags := 2, nameIndex := 5, descriptorIndex := 6, attributes := #[] }, { accessFlags := 9, nameIndex := 649, descriptorIndex := 650, attributes := #[] }] 33 2 #[] #[{ accessFlags := 26, nameIndex := 500, descriptorIndex := 501, attributes := #[] }, { accessFlags := 26, nameIndex := 504, descriptorIndex := 501, attributes := #[] }, { accessFlags := 26, nameIndex := 506, descriptorIndex := 501, attributes := #[] }, { accessFlags := 26, nameIndex := 508, descriptorIndex := 501, attributes := #[] }, { accessFlags := 26, nameIndex := 510, descriptorIndex := 501, attributes := #[] }, { accessFlags := 26, nameIndex := 512, descriptorIndex := 501, attributes := #[] }, { accessFlags := 26, nameIndex := 514, descriptorIndex := 501, attributes := #[] }, { accessFlags := 26, nameIndex := 516, descriptorIndex := 501, attributes := #[] }, { accessFlags := 10, nameIndex := 84, descriptorIndex := 85, attributes := #[] }, { accessFlags := 25, nameIndex := 362, descriptorIndex := 363, attributes := #[] }, { accessFlags := 25, nameIndex := 370, descriptorIndex := 371, attributes := #[] }, { accessFlags := 25, nameIndex := 374, descriptorIndex := 375, attributes := #[] }])
  fields := #[{ name := "BINARYSEARCH_THRESHOLD", type := .int, accessFlags := 26, slot := 0, constantValue := 0 }, { name := "REVERSE_THRESHOLD", type := .int, accessFlags := 26, slot := 1, constantValue := 0 }, { name := "SHUFFLE_THRESHOLD", type := .int, accessFlags := 26, slot := 2, constantValue := 0 }, { name := "FILL_THRESHOLD", type := .int, accessFlags := 26, slot := 3, constantValue := 0 }, { name := "ROTATE_THRESHOLD", type := .int, accessFlags := 26, slot := 4, constantValue := 0 }, { name := "COPY_THRESHOLD", type := .int, accessFlags := 26, slot := 5, constantValue := 0 }, { name := "REPLACEALL_THRESHOLD", type := .int, accessFlags := 26, slot := 6, constantValue := 0 }, { name := "INDEXOFSUBLIST_THRESHOLD", type := .int, accessFlags := 26, slot := 7, constantValue := 0 }, { name := "r", type := (.object "java/util/Random"), accessFlags := 10, slot := 8, constantValue := 0 }, { name := "EMPTY_SET", type := (.object "java/util/Set"), accessFlags := 25, slot := 9, constantValue := 0 }, { name := "EMPTY_LIST", type := (.object "java/util/List"), accessFlags := 25, slot := 10, constantValue := 0 }, { name := "EMPTY_MAP", type := (.object "java/util/Map"), accessFlags := 25, slot := 11, constantValue := 0 }]
  methods := #[k14m0, k14m1]
  instanceTypes := #[]
  staticTypes := #[.int, .int, .int, .int, .int, .int, .int, .int, (.object "java/util/Random"), (.object "java/util/Set"), (.object "java/util/List"), (.object "java/util/Map")]
  resolved := Array.replicate 933 none
  statics := none }

def pool15 : Array CpInfo := pool [(2, .class_ 4), (1, u "java/lang/Object"), (0, u "<init>"), (0, u "()V"), (1, .class_ 10), (1, u "java/util/AbstractMap"), (42, .class_ 54), (0, u "java/util/Map"), (9, u "keySet"), (0, u "Ljava/util/Set;"), (0, .class_ 67), (0, u "java/util/AbstractMap$1"), (5, u "values"), (0, u "Ljava/util/Collection;"), (0, .class_ 76), (0, u "java/util/AbstractMap$2"), (104, .class_ 182), (0, u "java/util/AbstractMap$ViewCollection"), (0, .class_ 184), (0, u "java/util/AbstractMap$SimpleImmutableEntry"), (0, .class_ 186), (0, u "java/util/AbstractMap$SimpleEntry"), (0, .class_ 188), (0, u "java/util/AbstractMap$2$1"), (0, .class_ 190), (0, u "java/util/AbstractMap$1$1")] 5

def k15m0 : Method := { name := "<init>", desc := "()V", sig := { parameters := [], returnType := none }, accessFlags := 4, code := none }
/-- java/util/AbstractMap -/
def k15 : Class := { plain "java/util/AbstractMap" (some 0) with
  accessFlags := 1057
  interfaces := #[12]
  cf := some (fileOf pool15 8 #[.nestMembers #[181, 183, 185, 75, 187, 66, 189]] #[{ accessFlags := 4, nameIndex := 5, descriptorIndex := 6, attributes := #[] }] 1057 2 #[53] #[{ accessFlags := 128, nameIndex := 64, descriptorIndex := 65, attributes := #[] }, { accessFlags := 128, nameIndex := 73, descriptorIndex := 74, attributes := #[] }])
  fields := #[{ name := "keySet", type := (.object "java/util/Set"), accessFlags := 128, slot := 0, constantValue := 0 }, { name := "values", type := (.object "java/util/Collection"), accessFlags := 128, slot := 1, constantValue := 0 }]
  methods := #[k15m0]
  instanceTypes := #[(.object "java/util/Set"), (.object "java/util/Collection")]
  staticTypes := #[]
  resolved := Array.replicate 196 none
  statics := none }

def pool16 : Array CpInfo := pool [(2, .class_ 4), (1, u "java/util/AbstractMap"), (0, u "<init>"), (0, u "()V"), (1, .class_ 10), (1, u "java/util/ImmutableCollections"), (3, .class_ 16), (1, u "java/util/ImmutableCollections$AbstractImmutableMap"), (2, .class_ 20), (0, u "java/io/Serializable")] 66

def k16m0 : Method := { name := "<init>", desc := "()V", sig := { parameters := [], returnType := none }, accessFlags := 0, code := none }
/-- java/util/ImmutableCollections$AbstractImmutableMap -/
def k16 : Class := { plain "java/util/ImmutableCollections$AbstractImmutableMap" (some 15) with
  accessFlags := 1056
  interfaces := #[4]
  cf := some (fileOf pool16 14 #[.nestHost 8] #[{ accessFlags := 0, nameIndex := 5, descriptorIndex := 6, attributes := #[] }] 1056 2 #[19] #[])
  fields := #[]
  methods := #[k16m0]
  instanceTypes := #[(.object "java/util/Set"), (.object "java/util/Collection")]
  staticTypes := #[]
  resolved := Array.replicate 87 none
  statics := none }

def pool17 : Array CpInfo := pool [(1, .class_ 2), (0, u "java/util/ImmutableCollections"), (1, .class_ 6), (1, u "java/util/ImmutableCollections$AbstractImmutableMap"), (10, .class_ 19), (1, u "java/util/ImmutableCollections$MapN"), (0, u "size"), (0, u "I"), (4, u "table"), (0, u "[Ljava/lang/Object;")] 121

/-- java/util/ImmutableCollections$MapN -/
def k17 : Class := { plain "java/util/ImmutableCollections$MapN" (some 16) with
  accessFlags := 48
  interfaces := #[]
  cf := some (fileOf pool17 17 #[.nestHost 1] #[] 48 4 #[] #[{ accessFlags := 16, nameIndex := 26, descriptorIndex := 27, attributes := #[] }, { accessFlags := 16, nameIndex := 20, descriptorIndex := 21, attributes := #[] }])
  fields := #[{ name := "table", type := (.array (.object "java/lang/Object")), accessFlags := 16, slot := 2, constantValue := 0 }, { name := "size", type := .int, accessFlags := 16, slot := 3, constantValue := 0 }]
  methods := #[]
  instanceTypes := #[(.object "java/util/Set"), (.object "java/util/Collection"), (.array (.object "java/lang/Object")), .int]
  staticTypes := #[]
  resolved := Array.replicate 149 none
  mirror := some 4
  statics := none }

def pool18 : Array CpInfo := pool [(1, .methodref 2 3), (0, .class_ 4), (0, .nameAndType 5 6), (0, u "java/lang/Object"), (0, u "<init>"), (0, u "()V"), (3, .fieldref 11 12), (0, .class_ 13), (0, .nameAndType 14 15), (0, u "java/util/Collections$UnmodifiableMap"), (0, u "m"), (0, u "Ljava/util/Map;"), (1, .class_ 19), (1, u "java/util/Map"), (22, u "keySet"), (0, u "Ljava/util/Set;"), (4, .class_ 50), (1, u "java/util/Collections"), (4, u "entrySet"), (9, u "values"), (0, u "Ljava/util/Collection;"), (25, .class_ 93), (0, u "java/io/Serializable"), (0, u "serialVersionUID"), (0, u "J"), (8, u "(Ljava/util/Map;)V")] 70

def k18c0 : Code := { maxStack := 2, maxLocals := 2, code := jdk_2500_method_1_code, exceptionTable := #[], attributes := #[] }
def k18m0 : Method := { name := "<init>", desc := "(Ljava/util/Map;)V", sig := { parameters := [(.object "java/util/Map")], returnType := none }, accessFlags := 0, code := some k18c0 }
/-- java/util/Collections$UnmodifiableMap -/
def k18 : Class := { plain "java/util/Collections$UnmodifiableMap" (some 0) with
  accessFlags := 32
  interfaces := #[12, 4]
  cf := some (fileOf pool18 11 #[.nestHost 48] #[{ accessFlags := 0, nameIndex := 5, descriptorIndex := 104, attributes := #[] }] 32 2 #[17, 92] #[{ accessFlags := 26, nameIndex := 94, descriptorIndex := 95, attributes := #[] }, { accessFlags := 16, nameIndex := 14, descriptorIndex := 15, attributes := #[] }, { accessFlags := 130, nameIndex := 42, descriptorIndex := 43, attributes := #[] }, { accessFlags := 130, nameIndex := 55, descriptorIndex := 43, attributes := #[] }, { accessFlags := 130, nameIndex := 65, descriptorIndex := 66, attributes := #[] }])
  fields := #[{ name := "serialVersionUID", type := .long, accessFlags := 26, slot := 0, constantValue := 0 }, { name := "m", type := (.object "java/util/Map"), accessFlags := 16, slot := 0, constantValue := 0 }, { name := "keySet", type := (.object "java/util/Set"), accessFlags := 130, slot := 1, constantValue := 0 }, { name := "entrySet", type := (.object "java/util/Set"), accessFlags := 130, slot := 2, constantValue := 0 }, { name := "values", type := (.object "java/util/Collection"), accessFlags := 130, slot := 3, constantValue := 0 }]
  methods := #[k18m0]
  instanceTypes := #[(.object "java/util/Map"), (.object "java/util/Set"), (.object "java/util/Set"), (.object "java/util/Collection")]
  staticTypes := #[.long]
  resolved := Array.replicate 175 none
  mirror := some 5
  statics := none }

def pool19 : Array CpInfo := pool [(4, .class_ 6), (1, u "java/lang/Object"), (0, u "<init>"), (0, u "()V"), (5, .class_ 16), (1, u "java/lang/StringLatin1"), (104, u "$assertionsDisabled"), (0, u "Z"), (98, .class_ 223), (1, u "java/lang/StringLatin1$LinesSpliterator"), (166, .class_ 391), (0, u "java/lang/StringLatin1$CharsSpliterator")] 3

def k19m0 : Method := { name := "<init>", desc := "()V", sig := { parameters := [], returnType := none }, accessFlags := 0, code := none }
/-- java/lang/StringLatin1 -/
def k19 : Class := { plain "java/lang/StringLatin1" (some 0) with
  accessFlags := 48
  interfaces := #[]
  cf := some (fileOf pool19 14 #[.nestMembers #[390, 221]] #[{ accessFlags := 0, nameIndex := 7, descriptorIndex := 8, attributes := #[] }] 48 4 #[] #[{ accessFlags := 4120, nameIndex := 121, descriptorIndex := 122, attributes := #[] }])
  fields := #[{ name := "$assertionsDisabled", type := .boolean, accessFlags := 4120, slot := 0, constantValue := 0 }]
  methods := #[k19m0]
  instanceTypes := #[]
  staticTypes := #[.boolean]
  resolved := Array.replicate 395 none
  statics := none }

def pool20 : Array CpInfo := pool [(2, .class_ 4), (1, u "java/lang/Object"), (0, u "<init>"), (0, u "()V"), (17, .class_ 26), (1, u "jdk/internal/util/Preconditions"), (28, .class_ 56), (0, u "jdk/internal/util/Preconditions$4"), (57, .class_ 115), (0, u "jdk/internal/util/Preconditions$1"), (7, u "SIOOBE_FORMATTER"), (0, u "Ljava/util/function/BiFunction;"), (0, .class_ 126), (0, u "jdk/internal/util/Preconditions$2"), (3, u "AIOOBE_FORMATTER"), (0, .class_ 132), (0, u "jdk/internal/util/Preconditions$3"), (3, u "IOOBE_FORMATTER")] 57

def k20m0 : Method := { name := "<init>", desc := "()V", sig := { parameters := [], returnType := none }, accessFlags := 1, code := none }
/-- jdk/internal/util/Preconditions -/
def k20 : Class := { plain "jdk/internal/util/Preconditions" (some 0) with
  accessFlags := 33
  interfaces := #[]
  cf := some (fileOf pool20 24 #[.nestMembers #[55, 131, 125, 114]] #[{ accessFlags := 1, nameIndex := 5, descriptorIndex := 6, attributes := #[] }] 33 2 #[] #[{ accessFlags := 25, nameIndex := 123, descriptorIndex := 124, attributes := #[] }, { accessFlags := 25, nameIndex := 130, descriptorIndex := 124, attributes := #[] }, { accessFlags := 25, nameIndex := 136, descriptorIndex := 124, attributes := #[] }])
  fields := #[{ name := "SIOOBE_FORMATTER", type := (.object "java/util/function/BiFunction"), accessFlags := 25, slot := 0, constantValue := 0 }, { name := "AIOOBE_FORMATTER", type := (.object "java/util/function/BiFunction"), accessFlags := 25, slot := 1, constantValue := 0 }, { name := "IOOBE_FORMATTER", type := (.object "java/util/function/BiFunction"), accessFlags := 25, slot := 2, constantValue := 0 }]
  methods := #[k20m0]
  instanceTypes := #[]
  staticTypes := #[(.object "java/util/function/BiFunction"), (.object "java/util/function/BiFunction"), (.object "java/util/function/BiFunction")]
  resolved := Array.replicate 194 none
  statics := some 3 }

def pool21 : Array CpInfo := pool [(9, u "<init>"), (6, .class_ 18), (1, u "java/lang/Object"), (0, u "()V"), (1, .class_ 23), (1, u "jdk/internal/util/ArraysSupport"), (0, u "LOG2_ARRAY_LONG_INDEX_SCALE"), (0, u "I"), (2, u "U"), (0, u "Ljdk/internal/misc/Unsafe;"), (8, u "BIG_ENDIAN"), (0, u "Z"), (8, u "LOG2_BYTE_BIT_SIZE"), (4, u "LOG2_ARRAY_INT_INDEX_SCALE"), (54, u "JLA"), (0, u "Ljdk/internal/access/JavaLangAccess;"), (11, u "LOG2_ARRAY_BOOLEAN_INDEX_SCALE"), (9, u "LOG2_ARRAY_BYTE_INDEX_SCALE"), (5, u "LOG2_ARRAY_CHAR_INDEX_SCALE"), (5, u "LOG2_ARRAY_SHORT_INDEX_SCALE"), (18, u "LOG2_ARRAY_FLOAT_INDEX_SCALE"), (24, u "LOG2_ARRAY_DOUBLE_INDEX_SCALE"), (89, u "T_BOOLEAN"), (2, u "T_CHAR"), (1, u "T_FLOAT"), (1, u "T_DOUBLE"), (1, u "T_BYTE"), (1, u "T_SHORT"), (1, u "T_INT"), (1, u "T_LONG"), (1, u "SOFT_MAX_ARRAY_LENGTH")] 83

def k21m0 : Method := { name := "<init>", desc := "()V", sig := { parameters := [], returnType := none }, accessFlags := 2, code := none }
/-- jdk/internal/util/ArraysSupport -/
def k21 : Class := { plain "jdk/internal/util/ArraysSupport" (some 0) with
  accessFlags := 33
  interfaces := #[]
  cf := some (fileOf pool21 21 #[] #[{ accessFlags := 2, nameIndex := 9, descriptorIndex := 19, attributes := #[] }] 33 16 #[] #[{ accessFlags := 24, nameIndex := 28, descriptorIndex := 29, attributes := #[] }, { accessFlags := 26, nameIndex := 38, descriptorIndex := 39, attributes := #[] }, { accessFlags := 25, nameIndex := 121, descriptorIndex := 25, attributes := #[] }, { accessFlags := 25, nameIndex := 131, descriptorIndex := 25, attributes := #[] }, { accessFlags := 25, nameIndex := 137, descriptorIndex := 25, attributes := #[] }, { accessFlags := 25, nameIndex := 143, descriptorIndex := 25, attributes := #[] }, { accessFlags := 25, nameIndex := 53, descriptorIndex := 25, attributes := #[] }, { accessFlags := 25, nameIndex := 24, descriptorIndex := 25, attributes := #[] }, { accessFlags := 25, nameIndex := 162, descriptorIndex := 25, attributes := #[] }, { accessFlags := 25, nameIndex := 187, descriptorIndex := 25, attributes := #[] }, { accessFlags := 26, nameIndex := 48, descriptorIndex := 25, attributes := #[] }, { accessFlags := 25, nameIndex := 277, descriptorIndex := 25, attributes := #[] }, { accessFlags := 25, nameIndex := 280, descriptorIndex := 25, attributes := #[] }, { accessFlags := 25, nameIndex := 282, descriptorIndex := 25, attributes := #[] }, { accessFlags := 25, nameIndex := 284, descriptorIndex := 25, attributes := #[] }, { accessFlags := 25, nameIndex := 286, descriptorIndex := 25, attributes := #[] }, { accessFlags := 25, nameIndex := 288, descriptorIndex := 25, attributes := #[] }, { accessFlags := 25, nameIndex := 290, descriptorIndex := 25, attributes := #[] }, { accessFlags := 25, nameIndex := 292, descriptorIndex := 25, attributes := #[] }, { accessFlags := 26, nameIndex := 108, descriptorIndex := 109, attributes := #[] }, { accessFlags := 25, nameIndex := 294, descriptorIndex := 25, attributes := #[] }])
  fields := #[{ name := "U", type := (.object "jdk/internal/misc/Unsafe"), accessFlags := 24, slot := 0, constantValue := 0 }, { name := "BIG_ENDIAN", type := .boolean, accessFlags := 26, slot := 1, constantValue := 0 }, { name := "LOG2_ARRAY_BOOLEAN_INDEX_SCALE", type := .int, accessFlags := 25, slot := 2, constantValue := 0 }, { name := "LOG2_ARRAY_BYTE_INDEX_SCALE", type := .int, accessFlags := 25, slot := 3, constantValue := 0 }, { name := "LOG2_ARRAY_CHAR_INDEX_SCALE", type := .int, accessFlags := 25, slot := 4, constantValue := 0 }, { name := "LOG2_ARRAY_SHORT_INDEX_SCALE", type := .int, accessFlags := 25, slot := 5, constantValue := 0 }, { name := "LOG2_ARRAY_INT_INDEX_SCALE", type := .int, accessFlags := 25, slot := 6, constantValue := 0 }, { name := "LOG2_ARRAY_LONG_INDEX_SCALE", type := .int, accessFlags := 25, slot := 7, constantValue := 0 }, { name := "LOG2_ARRAY_FLOAT_INDEX_SCALE", type := .int, accessFlags := 25, slot := 8, constantValue := 0 }, { name := "LOG2_ARRAY_DOUBLE_INDEX_SCALE", type := .int, accessFlags := 25, slot := 9, constantValue := 0 }, { name := "LOG2_BYTE_BIT_SIZE", type := .int, accessFlags := 26, slot := 10, constantValue := 0 }, { name := "T_BOOLEAN", type := .int, accessFlags := 25, slot := 11, constantValue := 0 }, { name := "T_CHAR", type := .int, accessFlags := 25, slot := 12, constantValue := 0 }, { name := "T_FLOAT", type := .int, accessFlags := 25, slot := 13, constantValue := 0 }, { name := "T_DOUBLE", type := .int, accessFlags := 25, slot := 14, constantValue := 0 }, { name := "T_BYTE", type := .int, accessFlags := 25, slot := 15, constantValue := 0 }, { name := "T_SHORT", type := .int, accessFlags := 25, slot := 16, constantValue := 0 }, { name := "T_INT", type := .int, accessFlags := 25, slot := 17, constantValue := 0 }, { name := "T_LONG", type := .int, accessFlags := 25, slot := 18, constantValue := 0 }, { name := "JLA", type := (.object "jdk/internal/access/JavaLangAccess"), accessFlags := 26, slot := 19, constantValue := 0 }, { name := "SOFT_MAX_ARRAY_LENGTH", type := .int, accessFlags := 25, slot := 20, constantValue := 0 }]
  methods := #[k21m0]
  instanceTypes := #[]
  staticTypes := #[(.object "jdk/internal/misc/Unsafe"), .boolean, .int, .int, .int, .int, .int, .int, .int, .int, .int, .int, .int, .int, .int, .int, .int, .int, .int, (.object "jdk/internal/access/JavaLangAccess"), .int]
  resolved := Array.replicate 378 none
  statics := none }

def pool22 : Array CpInfo := pool [(1, u "java/lang/Class"), (0, .class_ 1), (0, u "java/lang/Object"), (0, .class_ 3)] 0

/-- java/lang/Class -/
def k22 : Class := { plain "java/lang/Class" (some 0) with
  accessFlags := 49
  interfaces := #[]
  cf := some (fileOf pool22 2 #[] #[] 49 4 #[] #[])
  fields := #[]
  methods := #[]
  instanceTypes := #[]
  staticTypes := #[]
  resolved := Array.replicate 5 none
  statics := none }

def pool23 : Array CpInfo := pool [(1, u "java/lang/Cloneable"), (0, .class_ 1), (0, u "java/lang/Object"), (0, .class_ 3)] 3

/-- java/lang/Cloneable -/
def k23 : Class := { plain "java/lang/Cloneable" (some 0) with
  accessFlags := 1537
  interfaces := #[]
  cf := some (fileOf pool23 2 #[] #[] 1537 4 #[] #[])
  fields := #[]
  methods := #[]
  instanceTypes := #[]
  staticTypes := #[]
  resolved := Array.replicate 8 none
  statics := none }

/-- the primitive byte -/
def k24 : Class := { plain "byte" none with kind := .primitive 'B', accessFlags := 0x411 }
/-- [B -/
def k25 : Class := { plain "[B" (some 0) with kind := .array 24 .byte, interfaces := #[23, 4], accessFlags := 1041 }

/-- the primitive char -/
def k26 : Class := { plain "char" none with kind := .primitive 'C', accessFlags := 0x411 }
/-- [C -/
def k27 : Class := { plain "[C" (some 0) with kind := .array 26 .char, interfaces := #[23, 4], accessFlags := 1041 }

/-- the primitive int -/
def k28 : Class := { plain "int" none with kind := .primitive 'I', accessFlags := 0x411 }
/-- [I -/
def k29 : Class := { plain "[I" (some 0) with kind := .array 28 .int, interfaces := #[23, 4], accessFlags := 1041 }

/-- [Ljava/lang/Object; -/
def k30 : Class := { plain "[Ljava/lang/Object;" (some 0) with kind := .array 0 (.object "java/lang/Object"), interfaces := #[23, 4], accessFlags := 1041 }

def heap : Heap := #[{ cls := 6, slots := #[.ref 7, .ref 11, .ref 9, .ref 8, .ref 10, .ref 12, .null], vm := .statics 6 },
  { cls := 9, slots := #[.long 0, .int 1, .null, .int 0, .null, .int 0, .int 0], vm := .statics 9 },
  { cls := 13, slots := #[.long 0, .int 0, .null, .null, .null, .null, .null, .ref 13, .int 0, .int 0], vm := .statics 13 },
  { cls := 20, slots := #[.null, .null, .null], vm := .statics 20 },
  { cls := 22, slots := #[], vm := .mirror 17 },
  { cls := 22, slots := #[], vm := .mirror 18 },
  { cls := 30, slots := #[], vm := .none },
  { cls := 6, slots := #[.null, .int 0, .int 0, .null, .int 0], vm := .none },
  { cls := 6, slots := #[.null, .int 0, .int 0, .null, .int 0], vm := .none },
  { cls := 6, slots := #[.null, .int 0, .int 0, .null, .int 0], vm := .none },
  { cls := 6, slots := #[.null, .int 0, .int 0, .null, .int 0], vm := .none },
  { cls := 6, slots := #[.null, .int 0, .int 0, .null, .int 0], vm := .none },
  { cls := 6, slots := #[.null, .int 0, .int 0, .null, .int 0], vm := .none },
  { cls := 17, slots := #[.null, .null, .ref 6, .int 0], vm := .none }]
def classes : Array Class := #[k0, k1, k2, k3, k4, k5, k6, k7, k8, k9, k10, k11, k12, k13, k14, k15, k16, k17, k18, k19, k20, k21, k22, k23, k24, k25, k26, k27, k28, k29, k30]
def interned : List (Array UInt16 × Addr) := []
def slotsUsed : Nat := 61
def theMethod : MethodId := ⟨1, 3⟩
def args0 : Array Value := #[.int 1, .int 2, .int 97, .int 98, .int 99]
def aboutOver (below : List Frame) : State where
  vm := { classes := classes, interned := interned.toArray }
  heap := heap
  slotsUsed := slotsUsed
  threads := #[{ frames := .invoking theMethod args0 :: below }]
def below0 : List Frame := [.native { method := ⟨0, 0⟩, args := #[] }]
def about1 : State := aboutOver below0
def p0 : Program := .bare "" "" ""
def e0 : Env := launch0.env 0 0 0
theorem w_frames : about1.frames = Frame.invoking theMethod args0 :: below0 := rfl
set_option maxRecDepth 65536 in
theorem w_args : argsFit about1.vm theMethod args0 = true := by decide +kernel
set_option maxRecDepth 65536 in
theorem w_heap : heapFits about1 = true := by decide +kernel
set_option maxRecDepth 65536 in
theorem w_runnable : about1.curStatus? = some .runnable := by decide +kernel
set_option maxRecDepth 65536 in
theorem w_alone : about1.alone = true := by decide +kernel
set_option maxRecDepth 65536 in
theorem w_named : about1.methodNamed? x = some theMethod := by decide +kernel
set_option maxRecDepth 65536 in
theorem w_hears : about1.hears theMethod below0 = true := by decide +kernel
set_option maxRecDepth 65536 in
theorem w_ripe : about1.ripe theMethod args0 below0 = true := by decide +kernel
theorem w_running : about1.status = .running := rfl
set_option maxRecDepth 65536 in
theorem w_room : about1.hasRoom e0.platform room_1 = true :=
  launch0.hasRoom_least _ room_1 (by decide +kernel) (by decide +kernel) (by decide +kernel) (by decide +kernel) (by decide +kernel) (by decide +kernel)
theorem allAtoms_all (ts : List Jvm.Cond) (a : Array Jvm.Value) (st : Jvm.State) : (allAtoms ts).before a st = ts.all (fun c => c.before a st) := by
  induction ts with
  | nil => rfl
  | cons c t ih =>
    show (Jvm.Cond.and c (allAtoms t)).before a st = _
    rw [Jvm.Cond.before_and, ih, List.all_cons]
def words1 : List Jvm.Cond := Jvm.Cond.code x code maxLocals ret :: tables_1
/-- a 'code' word, met by the world's own term for the bytes: nothing is compared byte by byte -/
theorem code_word {y : MethodName} {bytes : ByteArray} {mx : Nat} {rt : Option FieldType} {a : Array Value} {s : State} {m : MethodId} {meth : Method} {c : Code} (h1 : s.methodNamed? y = some m) (h2 : s.vm.method? m = some meth) (h3 : meth.code = some c) (h4 : c.code = bytes)
    (h5 : (c.maxLocals == mx && c.exceptionTable.isEmpty && decide (c.maxStack ≤ mostOperands) && decide (meth.sig.returnType = rt) && !meth.locks && decide (parseMethodDescriptor y.desc = some meth.sig)) = true) : (Jvm.Cond.code y bytes mx rt).before a s = true := by
  simp only [Bool.and_eq_true, beq_iff_eq, Bool.not_eq_true', decide_eq_true_eq] at h5
  obtain ⟨⟨⟨⟨⟨g1, g2⟩, g3⟩, g4⟩, g5⟩, g6⟩ := h5
  simp [Cond.before, Cond.holds, Cond.value, h1, h2, h3, h4, g1, g2, g3, g4, g5, g6]
def isCode : Jvm.Cond → Bool
  | .code _ _ _ _ => true
  | _ => false
theorem all_split {L : List Jvm.Cond} {P : Jvm.Cond → Bool} (h1 : L.all (fun c => isCode c || P c) = true) (h2 : ∀ c ∈ L.filter isCode, P c = true) : L.all P = true := by
  refine List.all_eq_true.mpr fun c hc => ?_
  have h := List.all_eq_true.mp h1 c hc
  rcases Bool.eq_false_or_eq_true (isCode c) with hi | hi
  · exact h2 c (List.mem_filter.mpr ⟨hc, hi⟩)
  · simpa [hi] using h
set_option maxRecDepth 65536 in
theorem w_c0 : (Jvm.Cond.code x code maxLocals ret).before args0 about1 = true := code_word (m := ⟨1, 3⟩) (meth := k1m3) (c := k1c3) (by decide +kernel) rfl rfl rfl (by decide +kernel)
set_option maxRecDepth 65536 in
theorem w_c1 : (Jvm.Cond.code ({ cls := "com/example/anchorhold/anchorhold/FindingWarningPinLaw", name := "kindOf", desc := "(I)Lcom/example/anchorhold/anchorhold/Finding$Kind;" } : Jvm.MethodName) method_2_code (2 : Nat) (Option.some (Jvm.ClassFile.FieldType.object "com/example/anchorhold/anchorhold/Finding$Kind"))).before args0 about1 = true := code_word (m := ⟨1, 1⟩) (meth := k1m1) (c := k1c1) (by decide +kernel) rfl rfl rfl (by decide +kernel)
set_option maxRecDepth 65536 in
theorem w_c2 : (Jvm.Cond.code ({ cls := "com/example/anchorhold/anchorhold/FindingWarningPinLaw", name := "str", desc := "(IIII)Ljava/lang/String;" } : Jvm.MethodName) method_3_code (9 : Nat) (Option.some (Jvm.ClassFile.FieldType.object "java/lang/String"))).before args0 about1 = true := code_word (m := ⟨1, 2⟩) (meth := k1m2) (c := k1c2) (by decide +kernel) rfl rfl rfl (by decide +kernel)
set_option maxRecDepth 65536 in
theorem w_c3 : (Jvm.Cond.code ({ cls := "java/lang/String", name := "<init>", desc := "([C)V" } : Jvm.MethodName) jdk_42_method_3_code (2 : Nat) (Option.none : Option Jvm.ClassFile.FieldType)).before args0 about1 = true := code_word (m := ⟨9, 1⟩) (meth := k9m1) (c := k9c1) (by decide +kernel) rfl rfl rfl (by decide +kernel)
set_option maxRecDepth 65536 in
theorem w_c4 : (Jvm.Cond.code ({ cls := "java/lang/String", name := "<init>", desc := "([CIILjava/lang/Void;)V" } : Jvm.MethodName) jdk_42_method_149_code (6 : Nat) (Option.none : Option Jvm.ClassFile.FieldType)).before args0 about1 = true := code_word (m := ⟨9, 3⟩) (meth := k9m3) (c := k9c3) (by decide +kernel) rfl rfl rfl (by decide +kernel)
set_option maxRecDepth 65536 in
theorem w_c5 : (Jvm.Cond.code ({ cls := "java/lang/Object", name := "<init>", desc := "()V" } : Jvm.MethodName) object_method_1_code (1 : Nat) (Option.none : Option Jvm.ClassFile.FieldType)).before args0 about1 = true := code_word (m := ⟨0, 0⟩) (meth := k0m0) (c := k0c0) (by decide +kernel) rfl rfl rfl (by decide +kernel)
set_option maxRecDepth 65536 in
theorem w_c6 : (Jvm.Cond.code ({ cls := "java/lang/StringUTF16", name := "compress", desc := "([CII)[B" } : Jvm.MethodName) jdk_52_method_16_code (6 : Nat) (Option.some (Jvm.ClassFile.FieldType.array Jvm.ClassFile.FieldType.byte))).before args0 about1 = true := code_word (m := ⟨10, 2⟩) (meth := k10m2) (c := k10c2) (by decide +kernel) rfl rfl rfl (by decide +kernel)
set_option maxRecDepth 65536 in
theorem w_c7 : (Jvm.Cond.code ({ cls := "java/lang/StringUTF16", name := "compress", desc := "([CI[BII)I" } : Jvm.MethodName) jdk_52_method_21_code (7 : Nat) (Option.some Jvm.ClassFile.FieldType.int)).before args0 about1 = true := code_word (m := ⟨10, 3⟩) (meth := k10m3) (c := k10c3) (by decide +kernel) rfl rfl rfl (by decide +kernel)
set_option maxRecDepth 65536 in
theorem w_c8 : (Jvm.Cond.code ({ cls := "java/lang/StringUTF16", name := "coderFromArrayLen", desc := "([BI)B" } : Jvm.MethodName) jdk_52_method_15_code (2 : Nat) (Option.some Jvm.ClassFile.FieldType.byte)).before args0 about1 = true := code_word (m := ⟨10, 1⟩) (meth := k10m1) (c := k10c1) (by decide +kernel) rfl rfl rfl (by decide +kernel)
set_option maxRecDepth 65536 in
theorem w_c9 : (Jvm.Cond.code ({ cls := "com/example/anchorhold/anchorhold/Finding", name := "warning", desc := "(Lcom/example/anchorhold/anchorhold/Finding$Kind;Ljava/lang/String;)Lcom/example/anchorhold/anchorhold/Finding;" } : Jvm.MethodName) prog_7_method_5_code (2 : Nat) (Option.some (Jvm.ClassFile.FieldType.object "com/example/anchorhold/anchorhold/Finding"))).before args0 about1 = true := code_word (m := ⟨11, 1⟩) (meth := k11m1) (c := k11c1) (by decide +kernel) rfl rfl rfl (by decide +kernel)
set_option maxRecDepth 65536 in
theorem w_c10 : (Jvm.Cond.code ({ cls := "java/util/Map", name := "of", desc := "()Ljava/util/Map;" } : Jvm.MethodName) jdk_72_method_26_code (0 : Nat) (Option.some (Jvm.ClassFile.FieldType.object "java/util/Map"))).before args0 about1 = true := code_word (m := ⟨12, 0⟩) (meth := k12m0) (c := k12c0) (by decide +kernel) rfl rfl rfl (by decide +kernel)
set_option maxRecDepth 65536 in
theorem w_c11 : (Jvm.Cond.code ({ cls := "com/example/anchorhold/anchorhold/Finding", name := "<init>", desc := "(Lcom/example/anchorhold/anchorhold/Finding$Kind;Ljava/lang/String;Ljava/nio/file/Path;ILjava/lang/String;Ljava/util/Map;I)V" } : Jvm.MethodName) prog_7_method_1_code (8 : Nat) (Option.none : Option Jvm.ClassFile.FieldType)).before args0 about1 = true := code_word (m := ⟨11, 0⟩) (meth := k11m0) (c := k11c0) (by decide +kernel) rfl rfl rfl (by decide +kernel)
set_option maxRecDepth 65536 in
theorem w_c12 : (Jvm.Cond.code ({ cls := "java/util/Collections", name := "unmodifiableMap", desc := "(Ljava/util/Map;)Ljava/util/Map;" } : Jvm.MethodName) jdk_79_method_36_code (1 : Nat) (Option.some (Jvm.ClassFile.FieldType.object "java/util/Map"))).before args0 about1 = true := code_word (m := ⟨14, 1⟩) (meth := k14m1) (c := k14c1) (by decide +kernel) rfl rfl rfl (by decide +kernel)
set_option maxRecDepth 65536 in
theorem w_c13 : (Jvm.Cond.code ({ cls := "java/util/Collections$UnmodifiableMap", name := "<init>", desc := "(Ljava/util/Map;)V" } : Jvm.MethodName) jdk_2500_method_1_code (2 : Nat) (Option.none : Option Jvm.ClassFile.FieldType)).before args0 about1 = true := code_word (m := ⟨18, 0⟩) (meth := k18m0) (c := k18c0) (by decide +kernel) rfl rfl rfl (by decide +kernel)
set_option maxRecDepth 65536 in
theorem w_c14 : (Jvm.Cond.code ({ cls := "com/example/anchorhold/anchorhold/Finding", name := "kind", desc := "()Lcom/example/anchorhold/anchorhold/Finding$Kind;" } : Jvm.MethodName) prog_7_method_7_code (1 : Nat) (Option.some (Jvm.ClassFile.FieldType.object "com/example/anchorhold/anchorhold/Finding$Kind"))).before args0 about1 = true := code_word (m := ⟨11, 2⟩) (meth := k11m2) (c := k11c2) (by decide +kernel) rfl rfl rfl (by decide +kernel)
set_option maxRecDepth 65536 in
theorem w_c15 : (Jvm.Cond.code ({ cls := "com/example/anchorhold/anchorhold/Finding", name := "code", desc := "()Ljava/lang/String;" } : Jvm.MethodName) prog_7_method_8_code (1 : Nat) (Option.some (Jvm.ClassFile.FieldType.object "java/lang/String"))).before args0 about1 = true := code_word (m := ⟨11, 3⟩) (meth := k11m3) (c := k11c3) (by decide +kernel) rfl rfl rfl (by decide +kernel)
set_option maxRecDepth 65536 in
theorem w_c16 : (Jvm.Cond.code ({ cls := "java/lang/String", name := "equals", desc := "(Ljava/lang/Object;)Z" } : Jvm.MethodName) jdk_42_method_66_code (3 : Nat) (Option.some Jvm.ClassFile.FieldType.boolean)).before args0 about1 = true := code_word (m := ⟨9, 2⟩) (meth := k9m2) (c := k9c2) (by decide +kernel) rfl rfl rfl (by decide +kernel)
set_option maxRecDepth 65536 in
theorem w_c17 : (Jvm.Cond.code ({ cls := "com/example/anchorhold/anchorhold/Finding", name := "line", desc := "()I" } : Jvm.MethodName) prog_7_method_10_code (1 : Nat) (Option.some Jvm.ClassFile.FieldType.int)).before args0 about1 = true := code_word (m := ⟨11, 4⟩) (meth := k11m4) (c := k11c4) (by decide +kernel) rfl rfl rfl (by decide +kernel)
def codes1 : List Jvm.Cond := [Jvm.Cond.code x code maxLocals ret, Jvm.Cond.code ({ cls := "com/example/anchorhold/anchorhold/FindingWarningPinLaw", name := "kindOf", desc := "(I)Lcom/example/anchorhold/anchorhold/Finding$Kind;" } : Jvm.MethodName) method_2_code (2 : Nat) (Option.some (Jvm.ClassFile.FieldType.object "com/example/anchorhold/anchorhold/Finding$Kind")), Jvm.Cond.code ({ cls := "com/example/anchorhold/anchorhold/FindingWarningPinLaw", name := "str", desc := "(IIII)Ljava/lang/String;" } : Jvm.MethodName) method_3_code (9 : Nat) (Option.some (Jvm.ClassFile.FieldType.object "java/lang/String")), Jvm.Cond.code ({ cls := "java/lang/String", name := "<init>", desc := "([C)V" } : Jvm.MethodName) jdk_42_method_3_code (2 : Nat) (Option.none : Option Jvm.ClassFile.FieldType), Jvm.Cond.code ({ cls := "java/lang/String", name := "<init>", desc := "([CIILjava/lang/Void;)V" } : Jvm.MethodName) jdk_42_method_149_code (6 : Nat) (Option.none : Option Jvm.ClassFile.FieldType), Jvm.Cond.code ({ cls := "java/lang/Object", name := "<init>", desc := "()V" } : Jvm.MethodName) object_method_1_code (1 : Nat) (Option.none : Option Jvm.ClassFile.FieldType), Jvm.Cond.code ({ cls := "java/lang/StringUTF16", name := "compress", desc := "([CII)[B" } : Jvm.MethodName) jdk_52_method_16_code (6 : Nat) (Option.some (Jvm.ClassFile.FieldType.array Jvm.ClassFile.FieldType.byte)), Jvm.Cond.code ({ cls := "java/lang/StringUTF16", name := "compress", desc := "([CI[BII)I" } : Jvm.MethodName) jdk_52_method_21_code (7 : Nat) (Option.some Jvm.ClassFile.FieldType.int), Jvm.Cond.code ({ cls := "java/lang/StringUTF16", name := "coderFromArrayLen", desc := "([BI)B" } : Jvm.MethodName) jdk_52_method_15_code (2 : Nat) (Option.some Jvm.ClassFile.FieldType.byte), Jvm.Cond.code ({ cls := "com/example/anchorhold/anchorhold/Finding", name := "warning", desc := "(Lcom/example/anchorhold/anchorhold/Finding$Kind;Ljava/lang/String;)Lcom/example/anchorhold/anchorhold/Finding;" } : Jvm.MethodName) prog_7_method_5_code (2 : Nat) (Option.some (Jvm.ClassFile.FieldType.object "com/example/anchorhold/anchorhold/Finding")), Jvm.Cond.code ({ cls := "java/util/Map", name := "of", desc := "()Ljava/util/Map;" } : Jvm.MethodName) jdk_72_method_26_code (0 : Nat) (Option.some (Jvm.ClassFile.FieldType.object "java/util/Map")), Jvm.Cond.code ({ cls := "com/example/anchorhold/anchorhold/Finding", name := "<init>", desc := "(Lcom/example/anchorhold/anchorhold/Finding$Kind;Ljava/lang/String;Ljava/nio/file/Path;ILjava/lang/String;Ljava/util/Map;I)V" } : Jvm.MethodName) prog_7_method_1_code (8 : Nat) (Option.none : Option Jvm.ClassFile.FieldType), Jvm.Cond.code ({ cls := "java/util/Collections", name := "unmodifiableMap", desc := "(Ljava/util/Map;)Ljava/util/Map;" } : Jvm.MethodName) jdk_79_method_36_code (1 : Nat) (Option.some (Jvm.ClassFile.FieldType.object "java/util/Map")), Jvm.Cond.code ({ cls := "java/util/Collections$UnmodifiableMap", name := "<init>", desc := "(Ljava/util/Map;)V" } : Jvm.MethodName) jdk_2500_method_1_code (2 : Nat) (Option.none : Option Jvm.ClassFile.FieldType), Jvm.Cond.code ({ cls := "com/example/anchorhold/anchorhold/Finding", name := "kind", desc := "()Lcom/example/anchorhold/anchorhold/Finding$Kind;" } : Jvm.MethodName) prog_7_method_7_code (1 : Nat) (Option.some (Jvm.ClassFile.FieldType.object "com/example/anchorhold/anchorhold/Finding$Kind")), Jvm.Cond.code ({ cls := "com/example/anchorhold/anchorhold/Finding", name := "code", desc := "()Ljava/lang/String;" } : Jvm.MethodName) prog_7_method_8_code (1 : Nat) (Option.some (Jvm.ClassFile.FieldType.object "java/lang/String")), Jvm.Cond.code ({ cls := "java/lang/String", name := "equals", desc := "(Ljava/lang/Object;)Z" } : Jvm.MethodName) jdk_42_method_66_code (3 : Nat) (Option.some Jvm.ClassFile.FieldType.boolean), Jvm.Cond.code ({ cls := "com/example/anchorhold/anchorhold/Finding", name := "line", desc := "()I" } : Jvm.MethodName) prog_7_method_10_code (1 : Nat) (Option.some Jvm.ClassFile.FieldType.int)]
set_option maxRecDepth 65536 in
theorem codes_eq : words1.filter isCode = codes1 := rfl
theorem w_codes : ∀ c ∈ words1.filter isCode, c.before args0 about1 = true := by
  rw [codes_eq]
  intro c hc
  simp only [codes1, List.mem_cons, List.not_mem_nil, or_false] at hc
  rcases hc with rfl | rfl | rfl | rfl | rfl | rfl | rfl | rfl | rfl | rfl | rfl | rfl | rfl | rfl | rfl | rfl | rfl | rfl
  · exact w_c0
  · exact w_c1
  · exact w_c2
  · exact w_c3
  · exact w_c4
  · exact w_c5
  · exact w_c6
  · exact w_c7
  · exact w_c8
  · exact w_c9
  · exact w_c10
  · exact w_c11
  · exact w_c12
  · exact w_c13
  · exact w_c14
  · exact w_c15
  · exact w_c16
  · exact w_c17
set_option maxRecDepth 65536 in
theorem w_t1 : (words1.take 24).all (fun c => isCode c || c.before args0 about1) = true := by decide +kernel
set_option maxRecDepth 65536 in
theorem w_t2 : ((words1.drop 24).take 24).all (fun c => isCode c || c.before args0 about1) = true := by decide +kernel
set_option maxRecDepth 65536 in
theorem w_t3 : (((words1.drop 24).drop 24).take 24).all (fun c => isCode c || c.before args0 about1) = true := by decide +kernel
set_option maxRecDepth 65536 in
theorem w_t4 : ((((words1.drop 24).drop 24).drop 24).take 24).all (fun c => isCode c || c.before args0 about1) = true := by decide +kernel
set_option maxRecDepth 65536 in
theorem w_t5 : (((((words1.drop 24).drop 24).drop 24).drop 24).take 24).all (fun c => isCode c || c.before args0 about1) = true := by decide +kernel
set_option maxRecDepth 65536 in
theorem w_t6 : (((((words1.drop 24).drop 24).drop 24).drop 24).drop 24).all (fun c => isCode c || c.before args0 about1) = true := by decide +kernel
theorem w_tables : (allAtoms (Jvm.Cond.code x code maxLocals ret :: tables_1)).before args0 about1 = true := by
  rw [allAtoms_all]
  show words1.all (fun c => c.before args0 about1) = true
  refine all_split ?_ w_codes
  rw [← List.take_append_drop 24 words1, List.all_append, w_t1, ← List.take_append_drop 24 (words1.drop 24), List.all_append, w_t2, ← List.take_append_drop 24 ((words1.drop 24).drop 24), List.all_append, w_t3, ← List.take_append_drop 24 (((words1.drop 24).drop 24).drop 24), List.all_append, w_t4, ← List.take_append_drop 24 ((((words1.drop 24).drop 24).drop 24).drop 24), List.all_append, w_t5, w_t6]
  rfl
set_option maxRecDepth 65536 in
theorem w_rest : rest_1_c.before args0 about1 = true := by decide +kernel
set_option maxRecDepth 65536 in
theorem w_case : (Jvm.Cond.and given_1 narrow_1).before args0 about1 = true := by decide +kernel
set_option maxRecDepth 65536 in
theorem w_consts : constsHeld consts_1 about1 := Jvm.Lit.constsHeldB_iff.mp (by decide +kernel)
theorem w_applies : (headSpec (Jvm.Cond.code x code maxLocals ret :: tables_1) room_1).applies x e0.platform about1 = true :=
  (Spec.applies_iff w_frames).mpr ⟨w_running, w_runnable, w_alone, w_named, w_hears, w_ripe, w_room, w_tables⟩
theorem atStart : AtStart classFile x code maxLocals ret World_1 tables_1 room_1 Calls_1 rest_1 Pre_1 launch0 p0 e0 about1 theMethod args0 below0 :=
  ⟨lists_1, trivial, launch0.admits_env _ _ _, launch0.least_env, fairChoices_fair.cas, fairChoices_fair.clock, w_frames, w_args, w_heap, w_applies, ⟨⟨17, k17, 4, by decide +kernel, rfl, rfl, _, rfl, rfl⟩, ⟨⟨18, k18, 5, by decide +kernel, rfl, rfl, _, rfl, rfl⟩, ⟨w_consts, trivial⟩⟩⟩, w_rest, w_case⟩
end start1
theorem witness_1 : WitnessClaimed_1 := ⟨start1.p0, start1.e0, start1.about1, start1.theMethod, start1.args0, start1.below0, start1.atStart⟩
end Jvm.Pilot.@@N@@
