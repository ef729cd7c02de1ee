import JvmDerived
import JvmDerived.Pilot.@@N@@Statement
import JvmDerived.Pilot.@@N@@Code
set_option linter.unusedVariables false
set_option linter.unusedSimpArgs false
/- laws to paste: Road.backV, Road.chN, Road.codOf (cut by pick.py; bodies as the Statement names them) -/
namespace Jvm.Pilot.@@N@@
namespace StrChars
open Jvm Sem ClassFile Op Lib Jvm.Stand Jvm.Free.XT Jvm.Free.ALB Jvm.Free.JM Jvm.Free
open Jvm.Lib.Cold (StaticIs)
/-- a char array whose places are chars -/
def Ch (a : Addr) (A : Cell) (U : State) : Prop := Arr .char a A U ∧ Typed .char A
theorem Ch.mv {a : Addr} {A : Cell} {U U' : State} (h : Ch a A U) (hal : U.vm.Alike U'.vm) (hh : U'.heap = U.heap) : Ch a A U' := ⟨h.1.mv hal hh, h.2⟩
theorem Ch.keep {a : Addr} {A : Cell} {U U' : State} (h : Ch a A U) (hal : U.vm.Alike U'.vm) (hk : U'.heap[a]? = some A) : Ch a A U' := ⟨h.1.keep hal hk, h.2⟩
/-- what place i of a char[]'s cell holds -/
def cv (A : Cell) (i : Nat) : Int32 := match A.slots[i]? with | some (.int x) => x | _ => 0
theorem Ch.get {a : Addr} {A : Cell} {U : State} (h : Ch a A U) {i : Nat} (hi : i < A.slots.size) : A.slots[i]? = some (.int (cv A i)) := by
  have e := Array.getElem?_eq_getElem hi
  have f := h.2 i _ e
  unfold cv; rw [e]
  generalize A.slots[i] = v at f
  cases v <;> simp [fits] at f ⊢
/-- the byte that i2b leaves of a char -/
def lo8 (x : Int32) : Int32 := x.toInt8.toInt32
theorem fits_lo8 (y : Int32) : fits .byte (.int (lo8 y)) = true := by
  have h1 := y.toInt8.le_toInt
  have h2 := y.toInt8.toInt_lt
  simp only [lo8, fits, Bool.and_eq_true, decide_eq_true_eq, Int32.le_iff_toInt_le, Int8.toInt_toInt32, show (-128 : Int32).toInt = -128 from by decide, show (127 : Int32).toInt = 127 from by decide]
  omega
/-- A' is A but that each place j of lo .. hi - 1 holds f j -/
def Laid (A A' : Cell) (lo hi : Nat) (f : Nat → Value) : Prop := A'.cls = A.cls ∧ A'.vm = A.vm ∧ A'.slots.size = A.slots.size ∧ ∀ i, A'.slots[i]? = if lo ≤ i ∧ i < hi then some (f i) else A.slots[i]?
theorem Laid.zero (A : Cell) (lo : Nat) (f : Nat → Value) : Laid A A lo (lo + 0) f := ⟨rfl, rfl, rfl, fun i => by rw [if_neg (by omega)]⟩
theorem Laid.step {A Ak : Cell} {lo k : Nat} {f : Nat → Value} {v : Value} (h : Laid A Ak lo k f) (hlo : lo ≤ k) (hk : k < Ak.slots.size) (hv : v = f k) : Laid A (Ak.setSlot k v) lo (k + 1) f := by
  refine ⟨h.1, h.2.1, by simpa [Cell.setSlot] using h.2.2.1, fun i => ?_⟩
  by_cases e : k = i
  · subst e; rw [Cell.slots_setSlot_self v hk, if_pos (by omega), hv]
  · rw [Cell.slots_setSlot_ne v e, h.2.2.2 i]
    by_cases q : lo ≤ i ∧ i < k
    · rw [if_pos q, if_pos (by omega)]
    · rw [if_neg q, if_neg (by omega)]
def U16 : String := "java/lang/StringUTF16"
namespace Cmp5
def yN : MethodName := ⟨"java/lang/StringUTF16", "compress", "([CI[BII)I"⟩
abbrev yB : ByteArray := jdk_52_method_21_code
theorem d0 : decode yB 0 = .ok (.iconst 0, 1) := by decide +kernel
theorem d1 : decode yB 1 = .ok (.istore 5, 2) := by decide +kernel
theorem d3 : decode yB 3 = .ok (.iload 5, 2) := by decide +kernel
theorem d5 : decode yB 5 = .ok (.iload 4, 2) := by decide +kernel
theorem d7 : decode yB 7 = .ok (.if_icmp (.ge) 37, 3) := by decide +kernel
theorem d10 : decode yB 10 = .ok (.aload_n 0, 1) := by decide +kernel
theorem d11 : decode yB 11 = .ok (.iload_n 1, 1) := by decide +kernel
theorem d12 : decode yB 12 = .ok (.caload, 1) := by decide +kernel
theorem d13 : decode yB 13 = .ok (.istore 6, 2) := by decide +kernel
theorem d15 : decode yB 15 = .ok (.iload 6, 2) := by decide +kernel
theorem d17 : decode yB 17 = .ok (.sipush 255, 3) := by decide +kernel
theorem d20 : decode yB 20 = .ok (.if_icmp (.le) 6, 3) := by decide +kernel
theorem d26 : decode yB 26 = .ok (.aload_n 2, 1) := by decide +kernel
theorem d27 : decode yB 27 = .ok (.iload_n 3, 1) := by decide +kernel
theorem d28 : decode yB 28 = .ok (.iload 6, 2) := by decide +kernel
theorem d30 : decode yB 30 = .ok (.i2b, 1) := by decide +kernel
theorem d31 : decode yB 31 = .ok (.bastore, 1) := by decide +kernel
theorem d32 : decode yB 32 = .ok (.iinc 1 1, 3) := by decide +kernel
theorem d35 : decode yB 35 = .ok (.iinc 3 1, 3) := by decide +kernel
theorem d38 : decode yB 38 = .ok (.iinc 5 1, 3) := by decide +kernel
theorem d41 : decode yB 41 = .ok (.goto (-38), 3) := by decide +kernel
theorem d44 : decode yB 44 = .ok (.iload 4, 2) := by decide +kernel
theorem d46 : decode yB 46 = .ok (.ireturn, 1) := by decide +kernel
def site : List Cond := []
def tab : Cond := tabOf yN yB 7 (some .int) site
def P (b : Addr) (A : Cell) (d : Addr) (B : Cell) (o q len : Nat) (args : Array Value) (s : State) : Prop := args = #[.ref b, .int (Int32.ofNat o), .ref d, .int (Int32.ofNat q), .int (Int32.ofNat len)] ∧ Ch b A s ∧ Arr .byte d B s ∧ b ≠ d ∧ o + len ≤ A.slots.size ∧ q + len ≤ B.slots.size ∧ ∀ i, i < len → ¬ 255 < cv A (o + i)
def E (b : Addr) (A : Cell) (d : Addr) (B : Cell) (o q len : Nat) (r : Option Value) (s u : State) : Prop := r = some (.int (Int32.ofNat len)) ∧ ∃ B', Put d B' s u ∧ Laid B B' q (q + len) (fun j => Value.int (lo8 (cv A (o + (j - q)))))
/-- no char of the range above 255: len; the places written hold each char's low byte -/
theorem law (l : Launch) (b : Addr) (A : Cell) (d : Addr) (B : Cell) (o q len : Nat) : Law l yN 5 5 0 0 yB 7 (some .int) site (P b A d B o q len) (E b A d B o q len) (copyLocs d q len) 0 0 := by
  refine Law.of_walk (plainFor_of_name (by decide +kernel)) (by decide +kernel) (by decide +kernel) (by decide) (fun _ _ h => by rw [h.1]; rfl) (fun _ U U' hal hh h => ⟨h.1, h.2.1.mv hal hh, h.2.2.1.mv hal hh, h.2.2.2⟩) (fun r U U' V V' h1 hal h2 h => ⟨h.1, h.2.elim fun B' q => ⟨B', q.1.mv h1 h2, q.2⟩⟩) ?_
  intro p e s m args below meth c s₁ X0 hexec hbytes hml hret hlk hnm hown hh0 W hP
  obtain ⟨rfl, hA, hB, hne, l1, l2, hp⟩ := hP
  have c1 : Steps p.tables e below (s₁.setTop (entryFrame m #[.ref b, .int (Int32.ofNat o), .ref d, .int (Int32.ofNat q), .int (Int32.ofNat len)] 7)) (s₁.setTop (mkF m 0 #[.val (.ref b), .val (.int (Int32.ofNat o)), .val (.ref d), .val (.int (Int32.ofNat q)), .val (.int (Int32.ofNat len)), .unset, .unset] [])) := entry rfl
  have hA0 := hA.1.mv X0.warmed.alike hh0
  have hB0 := hB.mv X0.warmed.alike hh0
  have a31 := hA.1.2.2.2
  have c2 : Steps p.tables e below (s₁.setTop (entryFrame m #[.ref b, .int (Int32.ofNat o), .ref d, .int (Int32.ofNat q), .int (Int32.ofNat len)] 7)) (s₁.setTop (mkF m 3 #[.val (.ref b), .val (.int (Int32.ofNat o)), .val (.ref d), .val (.int (Int32.ofNat q)), .val (.int (Int32.ofNat len)), .val (.int 0), .unset] [])) := c1.trans (by
    refine iconstV X0.here hexec rfl 0 (hb hbytes d0) (by decide) ?_
    refine XS.istore X0.here hexec rfl (hb hbytes d1) rfl rfl ?_
    exact Steps.refl _)
  have loop : ∀ (r i : Nat), i + r = len → ∀ (z : Slot), (z = .unset ∨ ∃ w, z = .val w ∧ w.category = 1) → ∀ (Tl : State) (Bk : Cell), Stand p l e { frames := 0, locals := 0, cells := 0, slots := 0 } s m #[.ref b, .int (Int32.ofNat o), .ref d, .int (Int32.ofNat q), .int (Int32.ofNat len)] below meth c Tl ([] ++ copyLocs d q i) 0 0 → Put d Bk s₁ Tl → Laid B Bk q (q + i) (fun j => Value.int (lo8 (cv A (o + (j - q))))) →
      Steps p.tables e below (s₁.setTop (entryFrame m #[.ref b, .int (Int32.ofNat o), .ref d, .int (Int32.ofNat q), .int (Int32.ofNat len)] 7)) (Tl.setTop (mkF m 3 #[.val (.ref b), .val (.int (Int32.ofNat (o + i))), .val (.ref d), .val (.int (Int32.ofNat (q + i))), .val (.int (Int32.ofNat len)), .val (.int (Int32.ofNat i)), z] [])) → ∃ (T' : State) (B' : Cell) (z' : Slot), Stand p l e { frames := 0, locals := 0, cells := 0, slots := 0 } s m #[.ref b, .int (Int32.ofNat o), .ref d, .int (Int32.ofNat q), .int (Int32.ofNat len)] below meth c T' ([] ++ copyLocs d q len) 0 0 ∧ Put d B' s₁ T' ∧ Laid B B' q (q + len) (fun j => Value.int (lo8 (cv A (o + (j - q))))) ∧
      Steps p.tables e below (s₁.setTop (entryFrame m #[.ref b, .int (Int32.ofNat o), .ref d, .int (Int32.ofNat q), .int (Int32.ofNat len)] 7)) (T'.setTop (mkF m 3 #[.val (.ref b), .val (.int (Int32.ofNat (o + len))), .val (.ref d), .val (.int (Int32.ofNat (q + len))), .val (.int (Int32.ofNat len)), .val (.int (Int32.ofNat len)), z'] [])) := by
    intro r
    induction r with
    | zero =>
      intro i hi z hz Tl Bk Xl pl fl cl
      have hil : i = len := by omega
      rw [hil] at Xl fl cl
      exact ⟨Tl, Bk, z, Xl, pl, fl, cl⟩
    | succ r ih =>
      intro i hi z hz Tl Bk Xl pl fl cl
      have all := X0.warmed.alike.symm.trans Xl.warmed.alike
      have hAl := hA0.keep all (pl.other hne hA0.1)
      have hBk := hB0.like all pl.1 fl.1 fl.2.1 fl.2.2.1
      have hlt : q + i < Bk.slots.size := by rw [fl.2.2.1]; omega
      have c3 : Steps p.tables e below (s₁.setTop (entryFrame m #[.ref b, .int (Int32.ofNat o), .ref d, .int (Int32.ofNat q), .int (Int32.ofNat len)] 7)) (Tl.setTop (mkF m 12 #[.val (.ref b), .val (.int (Int32.ofNat (o + i))), .val (.ref d), .val (.int (Int32.ofNat (q + i))), .val (.int (Int32.ofNat len)), .val (.int (Int32.ofNat i)), z] [.int (Int32.ofNat (o + i)), .ref b])) := cl.trans (by
        refine XS.iload Xl.here hexec rfl (hb hbytes d3) rfl ?_
        refine XS.iload Xl.here hexec rfl (hb hbytes d5) rfl ?_
        refine XS.icmpNo Xl.here hexec rfl (hb hbytes d7) rfl (ii_ge_f (lt32 (by omega) (by omega))) ?_
        refine XS.aloadN Xl.here hexec rfl (hb hbytes d10) rfl rfl ?_
        refine XS.iloadN Xl.here hexec rfl (hb hbytes d11) rfl ?_
        exact Steps.refl _)
      have c4 : Steps p.tables e below (s₁.setTop (entryFrame m #[.ref b, .int (Int32.ofNat o), .ref d, .int (Int32.ofNat q), .int (Int32.ofNat len)] 7)) (Tl.setTop (mkF m 13 #[.val (.ref b), .val (.int (Int32.ofNat (o + i))), .val (.ref d), .val (.int (Int32.ofNat (q + i))), .val (.int (Int32.ofNat len)), .val (.int (Int32.ofNat i)), z] [.int (cv A (o + i))])) := c3.trans (by
        refine Xl.aget hexec hAl rfl (hA.get (i := o + i) (by omega)) rfl rfl (hb hbytes d12) ?_
        exact Steps.refl _)
      have c5 : Steps p.tables e below (s₁.setTop (entryFrame m #[.ref b, .int (Int32.ofNat o), .ref d, .int (Int32.ofNat q), .int (Int32.ofNat len)] 7)) (Tl.setTop (mkF m 15 #[.val (.ref b), .val (.int (Int32.ofNat (o + i))), .val (.ref d), .val (.int (Int32.ofNat (q + i))), .val (.int (Int32.ofNat len)), .val (.int (Int32.ofNat i)), .val (.int (cv A (o + i)))] [])) := c4.trans (by
        refine XS.istoreS Xl.here hexec rfl (hb hbytes d13) rfl rfl hz ?_
        exact Steps.refl _)
      have c6 : Steps p.tables e below (s₁.setTop (entryFrame m #[.ref b, .int (Int32.ofNat o), .ref d, .int (Int32.ofNat q), .int (Int32.ofNat len)] 7)) (Tl.setTop (mkF m 31 #[.val (.ref b), .val (.int (Int32.ofNat (o + i))), .val (.ref d), .val (.int (Int32.ofNat (q + i))), .val (.int (Int32.ofNat len)), .val (.int (Int32.ofNat i)), .val (.int (cv A (o + i)))] [.int (lo8 (cv A (o + i))), .int (Int32.ofNat (q + i)), .ref d])) := c5.trans (by
        refine XS.iload Xl.here hexec rfl (hb hbytes d15) rfl ?_
        refine sipushV Xl.here hexec rfl 255 (hb hbytes d17) (by decide) ?_
        refine XS.icmpYes Xl.here hexec rfl (pc0 := 20) rfl (hb hbytes d20) rfl (ii_le_t (hp i (by omega))) (by decide) rfl ?_
        refine XS.aloadN Xl.here hexec rfl (hb hbytes d26) rfl rfl ?_
        refine XS.iloadN Xl.here hexec rfl (hb hbytes d27) rfl ?_
        refine XS.iload Xl.here hexec rfl (hb hbytes d28) rfl ?_
        refine i2b Xl.here hexec rfl (hb hbytes d30) rfl ?_
        exact Steps.refl _)
      obtain ⟨T7, X7, p7, st7⟩ := Xl.aput hexec hBk rfl hlt rfl (fits_lo8 (cv A (o + i))) (g := (mkF m 31 #[.val (.ref b), .val (.int (Int32.ofNat (o + i))), .val (.ref d), .val (.int (Int32.ofNat (q + i))), .val (.int (Int32.ofNat len)), .val (.int (Int32.ofNat i)), .val (.int (cv A (o + i)))] [.int (lo8 (cv A (o + i))), .int (Int32.ofNat (q + i)), .ref d])) rfl (rest := []) rfl (hb hbytes d31)
      have c8 : Steps p.tables e below (s₁.setTop (entryFrame m #[.ref b, .int (Int32.ofNat o), .ref d, .int (Int32.ofNat q), .int (Int32.ofNat len)] 7)) (T7.setTop (mkF m 32 #[.val (.ref b), .val (.int (Int32.ofNat (o + i))), .val (.ref d), .val (.int (Int32.ofNat (q + i))), .val (.int (Int32.ofNat len)), .val (.int (Int32.ofNat i)), .val (.int (cv A (o + i)))] [])) := c6.trans (st7 _ (Steps.refl _))
      have c9 : Steps p.tables e below (s₁.setTop (entryFrame m #[.ref b, .int (Int32.ofNat o), .ref d, .int (Int32.ofNat q), .int (Int32.ofNat len)] 7)) (T7.setTop (mkF m 3 #[.val (.ref b), .val (.int (Int32.ofNat (o + i) + 1)), .val (.ref d), .val (.int (Int32.ofNat (q + i) + 1)), .val (.int (Int32.ofNat len)), .val (.int (Int32.ofNat i + 1)), .val (.int (cv A (o + i)))] [])) := c8.trans (by
        refine iincV X7.here hexec rfl 1 (hb hbytes d32) (by decide) rfl rfl ?_
        refine iincV X7.here hexec rfl 1 (hb hbytes d35) (by decide) rfl rfl ?_
        refine iincV X7.here hexec rfl 1 (hb hbytes d38) (by decide) rfl rfl ?_
        refine XS.goto X7.here hexec rfl (pc0 := 41) rfl (hb hbytes d41) (by decide) rfl ?_
        exact Steps.refl _)
      have c10 : Steps p.tables e below (s₁.setTop (entryFrame m #[.ref b, .int (Int32.ofNat o), .ref d, .int (Int32.ofNat q), .int (Int32.ofNat len)] 7)) (T7.setTop (mkF m 3 #[.val (.ref b), .val (.int (Int32.ofNat (o + (i + 1)))), .val (.ref d), .val (.int (Int32.ofNat (q + (i + 1)))), .val (.int (Int32.ofNat len)), .val (.int (Int32.ofNat (i + 1))), .val (.int (cv A (o + i)))] [])) := by
        have := c9
        rw [succ32, succ32, succ32] at this
        exact this
      exact ih (i + 1) (by omega) _ (Or.inr ⟨_, rfl, rfl⟩) T7 _ (by rw [copyLocs_step, ← List.append_assoc]; exact X7) (pl.trans p7) (fl.step (by omega) hlt (by simp)) c10
  obtain ⟨T9, B9, z9, X9, p9, f9, g9⟩ := loop len 0 (by omega) .unset (Or.inl rfl) s₁ B (by simpa [copyLocs] using X0) ⟨hB0.1, fun _ _ => rfl, rfl⟩ (Laid.zero _ _ _) c2
  have c11 : Steps p.tables e below (s₁.setTop (entryFrame m #[.ref b, .int (Int32.ofNat o), .ref d, .int (Int32.ofNat q), .int (Int32.ofNat len)] 7)) (T9.setTop (mkF m 46 #[.val (.ref b), .val (.int (Int32.ofNat (o + len))), .val (.ref d), .val (.int (Int32.ofNat (q + len))), .val (.int (Int32.ofNat len)), .val (.int (Int32.ofNat len)), z9] [.int (Int32.ofNat len)])) := g9.trans (by
    refine XS.iload X9.here hexec rfl (hb hbytes d3) rfl ?_
    refine XS.iload X9.here hexec rfl (hb hbytes d5) rfl ?_
    refine XS.icmpYes X9.here hexec rfl (pc0 := 7) rfl (hb hbytes d7) rfl (ii_ge_t (nlt32 (by omega) (Nat.le_refl _))) (by decide) rfl ?_
    refine XS.iload X9.here hexec rfl (hb hbytes d44) rfl ?_
    exact Steps.refl _)
  exact ⟨T9, some (.int (Int32.ofNat len)), _, _, _, X9, by simp, rfl, rfl, (fun h => by cases h), ⟨rfl, B9, p9.from hh0, f9⟩, fun fs hl => c11.trans (X9.ireturnOut hexec hret rfl (Or.inl rfl) (hb hbytes d46) hl)⟩
end Cmp5
namespace Cmp3
def yN : MethodName := ⟨"java/lang/StringUTF16", "compress", "([CII)[B"⟩
abbrev yB : ByteArray := jdk_52_method_16_code
theorem d0 : decode yB 0 = .ok (.iload_n 2, 1) := by decide +kernel
theorem d1 : decode yB 1 = .ok (.newarray .byte, 2) := by decide +kernel
theorem d3 : decode yB 3 = .ok (.astore_n 3, 1) := by decide +kernel
theorem d4 : decode yB 4 = .ok (.aload_n 0, 1) := by decide +kernel
theorem d5 : decode yB 5 = .ok (.iload_n 1, 1) := by decide +kernel
theorem d6 : decode yB 6 = .ok (.aload_n 3, 1) := by decide +kernel
theorem d7 : decode yB 7 = .ok (.iconst 0, 1) := by decide +kernel
theorem d8 : decode yB 8 = .ok (.iload_n 2, 1) := by decide +kernel
theorem d9 : decode yB 9 = .ok (.invokestatic 115, 3) := by decide +kernel
theorem d12 : decode yB 12 = .ok (.istore 4, 2) := by decide +kernel
theorem d14 : decode yB 14 = .ok (.iload 4, 2) := by decide +kernel
theorem d16 : decode yB 16 = .ok (.iload_n 2, 1) := by decide +kernel
theorem d17 : decode yB 17 = .ok (.if_icmp (.eq) 40, 3) := by decide +kernel
theorem d57 : decode yB 57 = .ok (.aload_n 3, 1) := by decide +kernel
theorem d58 : decode yB 58 = .ok (.areturn, 1) := by decide +kernel
def site : List Cond := [.arrayClass .byte, Cmp5.tab] ++ staticW U16 115 Cmp5.yN
def tab : Cond := tabOf yN yB 6 (some (.array .byte)) site
def P (b : Addr) (A : Cell) (o len : Nat) (args : Array Value) (s : State) : Prop := args = #[.ref b, .int (Int32.ofNat o), .int (Int32.ofNat len)] ∧ Ch b A s ∧ o + len ≤ A.slots.size ∧ len ≤ 536870912 ∧ ∀ i, i < len → ¬ 255 < cv A (o + i)
def E (b : Addr) (A : Cell) (o len : Nat) (r : Option Value) (s u : State) : Prop := NewArr .byte "[B" len (fun j => .int (lo8 (cv A (o + j)))) r s u ∧ u.heap.size = s.heap.size + 1
/-- no char of the range above 255: a new byte[] of their low bytes -/
theorem law (l : Launch) (b : Addr) (A : Cell) (o len : Nat) : Law l yN 3 3 1 18 yB 6 (some (.array .byte)) site (P b A o len) (E b A o len) [] 1 len := by
  refine Law.of_walk (plainFor_of_name (by decide +kernel)) (by decide +kernel) (by decide +kernel) (by decide) (fun _ _ h => by rw [h.1]; rfl) (fun _ U U' hal hh h => ⟨h.1, h.2.1.mv hal hh, h.2.2⟩) (fun r U U' V V' h1 hal h2 h => ⟨NewArr.mv r U U' V V' h1 hal h2 h.1, by rw [h1, h2]; exact h.2⟩) ?_
  intro p e s m args below meth c s₁ X0 hexec hbytes hml hret hlk hnm hown hh0 W hP
  obtain ⟨rfl, hA, l1, l2, hp⟩ := hP
  have a31 := hA.1.2.2.2
  have c1 : Steps p.tables e below (s₁.setTop (entryFrame m #[.ref b, .int (Int32.ofNat o), .int (Int32.ofNat len)] 6)) (s₁.setTop (mkF m 0 #[.val (.ref b), .val (.int (Int32.ofNat o)), .val (.int (Int32.ofNat len)), .unset, .unset, .unset] [])) := entry rfl
  have c2 : Steps p.tables e below (s₁.setTop (entryFrame m #[.ref b, .int (Int32.ofNat o), .int (Int32.ofNat len)] 6)) (s₁.setTop (mkF m 1 #[.val (.ref b), .val (.int (Int32.ofNat o)), .val (.int (Int32.ofNat len)), .unset, .unset, .unset] [.int (Int32.ofNat len)])) := c1.trans (by
    refine XS.iloadN X0.here hexec rfl (hb hbytes d0) rfl ?_
    exact Steps.refl _)
  obtain ⟨T3, B3, X3, ba3, bs3, bv3, bh3, bf3, st3⟩ := X0.anew hexec (atype := .byte) (wk W (.arrayClass .byte)) rfl (by show len * 1 ≤ _; omega) (by omega) (g := (mkF m 1 #[.val (.ref b), .val (.int (Int32.ofNat o)), .val (.int (Int32.ofNat len)), .unset, .unset, .unset] [.int (Int32.ofNat len)])) rfl (hb hbytes d1) (rest := []) rfl (Nat.le_refl _) (by show 0 + len ≤ len; omega)
  rw [hh0] at ba3 st3
  have kp3 : XT.Kept s T3 := (XT.Kept.of_eq hh0).push bh3
  have hA3 := hA.keep X3.warmed.alike (kp3 _ _ hA.1.1)
  have hne : b ≠ s.heap.size := hA.1.ne
  have c4 : Steps p.tables e below (s₁.setTop (entryFrame m #[.ref b, .int (Int32.ofNat o), .int (Int32.ofNat len)] 6)) (T3.setTop (mkF m 3 #[.val (.ref b), .val (.int (Int32.ofNat o)), .val (.int (Int32.ofNat len)), .unset, .unset, .unset] [.ref s.heap.size])) := c2.trans (st3 _ (Steps.refl _))
  have c5 : Steps p.tables e below (s₁.setTop (entryFrame m #[.ref b, .int (Int32.ofNat o), .int (Int32.ofNat len)] 6)) (T3.setTop (mkF m 9 #[.val (.ref b), .val (.int (Int32.ofNat o)), .val (.int (Int32.ofNat len)), .val (.ref s.heap.size), .unset, .unset] [.int (Int32.ofNat len), .int 0, .ref s.heap.size, .int (Int32.ofNat o), .ref b])) := c4.trans (by
    refine XS.astoreN X3.here hexec rfl (hb hbytes d3) rfl rfl rfl ?_
    refine XS.aloadN X3.here hexec rfl (hb hbytes d4) rfl rfl ?_
    refine XS.iloadN X3.here hexec rfl (hb hbytes d5) rfl ?_
    refine XS.aloadN X3.here hexec rfl (hb hbytes d6) rfl rfl ?_
    refine iconstV X3.here hexec rfl 0 (hb hbytes d7) (by decide) ?_
    refine XS.iloadN X3.here hexec rfl (hb hbytes d8) rfl ?_
    exact Steps.refl _)
  obtain ⟨v6, T6, X6, E6, g6⟩ := X3.callS hexec (Cmp5.law l b A s.heap.size B3 o 0 len) hown (wks W (staticW U16 115 Cmp5.yN)) (wk W Cmp5.tab) (W := 0) (Nat.le_of_ble_eq_true rfl) (Nat.le_of_ble_eq_true rfl) (Nat.le_refl _) (by show 0 + len + 0 ≤ len; omega) (g := (mkF m 9 #[.val (.ref b), .val (.int (Int32.ofNat o)), .val (.int (Int32.ofNat len)), .val (.ref s.heap.size), .unset, .unset] [.int (Int32.ofNat len), .int (Int32.ofNat 0), .ref s.heap.size, .int (Int32.ofNat o), .ref b])) rfl (by rw [hml]; rfl) c5 (argsL := [.ref b, .int (Int32.ofNat o), .ref s.heap.size, .int (Int32.ofNat 0), .int (Int32.ofNat len)]) (rest := []) rfl rfl (by show 2 * 0 + 0 ≤ _; decide) (hb hbytes d9) (⟨rfl, hA3, ba3, hne, l1, by rw [bs3]; simp, hp⟩)
  obtain ⟨rfl, B6, p6, f6⟩ := E6
  have c7 : Steps p.tables e below (s₁.setTop (entryFrame m #[.ref b, .int (Int32.ofNat o), .int (Int32.ofNat len)] 6)) (T6.setTop (mkF m 12 #[.val (.ref b), .val (.int (Int32.ofNat o)), .val (.int (Int32.ofNat len)), .val (.ref s.heap.size), .unset, .unset] [.int (Int32.ofNat len)])) := g6
  have c8 : Steps p.tables e below (s₁.setTop (entryFrame m #[.ref b, .int (Int32.ofNat o), .int (Int32.ofNat len)] 6)) (T6.setTop (mkF m 58 #[.val (.ref b), .val (.int (Int32.ofNat o)), .val (.int (Int32.ofNat len)), .val (.ref s.heap.size), .val (.int (Int32.ofNat len)), .unset] [.ref s.heap.size])) := c7.trans (by
    refine XS.istore X6.here hexec rfl (hb hbytes d12) rfl rfl ?_
    refine XS.iload X6.here hexec rfl (hb hbytes d14) rfl ?_
    refine XS.iloadN X6.here hexec rfl (hb hbytes d16) rfl ?_
    refine XS.icmpYes X6.here hexec rfl (pc0 := 17) rfl (hb hbytes d17) rfl (ii_eq_t rfl) (by decide) rfl ?_
    refine XS.aloadN X6.here hexec rfl (hb hbytes d57) rfl rfl ?_
    exact Steps.refl _)
  have X8 := X6.wide (L' := []) (cells' := 1) (slots' := len) (fun x hx hlt => by
    simp only [List.nil_append, copyLocs, List.mem_map, List.mem_range] at hx
    obtain ⟨i, -, rfl⟩ := hx
    exact absurd hlt (Nat.lt_irrefl _)) (Nat.le_refl _) (by omega)
  exact ⟨T6, some (.ref s.heap.size), _, _, _, X8, rfl, rfl, rfl, (fun h => by cases h), ⟨⟨rfl, B6, ba3.like (X3.warmed.alike.symm.trans X6.warmed.alike) p6.1 f6.1 f6.2.1 f6.2.2.1, f6.2.1.trans bv3, by rw [X6.warmed.alike.findClass, f6.1]; exact bf3, by rw [f6.2.2.1, bs3]; simp, fun j hj => by rw [f6.2.2.2 j, if_pos (by omega)]; rfl, kp3.put p6 (Nat.le_refl _)⟩, by rw [p6.2.2, bh3, hh0]; simp⟩, fun fs hl => c8.trans (X8.areturnOut hexec rfl hret rfl (hb hbytes d58) hl)⟩
end Cmp3
namespace CodL
def yN : MethodName := ⟨"java/lang/StringUTF16", "coderFromArrayLen", "([BI)B"⟩
abbrev yB : ByteArray := jdk_52_method_15_code
theorem d0 : decode yB 0 = .ok (.iload_n 1, 1) := by decide +kernel
theorem d1 : decode yB 1 = .ok (.aload_n 0, 1) := by decide +kernel
theorem d2 : decode yB 2 = .ok (.arraylength, 1) := by decide +kernel
theorem d3 : decode yB 3 = .ok (.isub, 1) := by decide +kernel
theorem d4 : decode yB 4 = .ok (.bipush 31, 2) := by decide +kernel
theorem d6 : decode yB 6 = .ok (.iushr, 1) := by decide +kernel
theorem d7 : decode yB 7 = .ok (.i2b, 1) := by decide +kernel
theorem d8 : decode yB 8 = .ok (.ireturn, 1) := by decide +kernel
def site : List Cond := []
def tab : Cond := tabOf yN yB 2 (some .byte) site
def P (d : Addr) (B : Cell) (args : Array Value) (s : State) : Prop := args = #[.ref d, .int (Int32.ofNat B.slots.size)] ∧ Arr .byte d B s
def E (r : Option Value) (s u : State) : Prop := XT.PureE (some (.int 0)) r s u
/-- an array as long as the number of chars: LATIN1 -/
theorem law (l : Launch) (d : Addr) (B : Cell) : Law l yN 2 2 0 0 yB 2 (some .byte) site (P d B) E [] 0 0 := by
  refine Law.of_walk (plainFor_of_name (by decide +kernel)) (by decide +kernel) (by decide +kernel) (by decide) (fun _ _ h => by rw [h.1]; rfl) (fun _ U U' hal hh h => ⟨h.1, h.2.mv hal hh⟩) (fun r U U' V V' h1 hal h2 h => XT.PureE.mv r U U' V V' h1 hal h2 h) ?_
  intro p e s m args below meth c s₁ X0 hexec hbytes hml hret hlk hnm hown hh0 W hP
  obtain ⟨rfl, hB⟩ := hP
  have hB0 := hB.mv X0.warmed.alike hh0
  have c1 : Steps p.tables e below (s₁.setTop (entryFrame m #[.ref d, .int (Int32.ofNat B.slots.size)] 2)) (s₁.setTop (mkF m 0 #[.val (.ref d), .val (.int (Int32.ofNat B.slots.size))] [])) := entry rfl
  have c2 : Steps p.tables e below (s₁.setTop (entryFrame m #[.ref d, .int (Int32.ofNat B.slots.size)] 2)) (s₁.setTop (mkF m 2 #[.val (.ref d), .val (.int (Int32.ofNat B.slots.size))] [.ref d, .int (Int32.ofNat B.slots.size)])) := c1.trans (by
    refine XS.iloadN X0.here hexec rfl (hb hbytes d0) rfl ?_
    refine XS.aloadN X0.here hexec rfl (hb hbytes d1) rfl rfl ?_
    exact Steps.refl _)
  have c3 : Steps p.tables e below (s₁.setTop (entryFrame m #[.ref d, .int (Int32.ofNat B.slots.size)] 2)) (s₁.setTop (mkF m 8 #[.val (.ref d), .val (.int (Int32.ofNat B.slots.size))] [.int (lo8 (ushr (Int32.ofNat B.slots.size - Int32.ofNat B.slots.size) 31))])) := c2.trans (by
    refine X0.alen hexec hB0 rfl rfl (hb hbytes d2) ?_
    refine XS.isub X0.here hexec rfl (hb hbytes d3) rfl ?_
    refine bipushV X0.here hexec rfl 31 (hb hbytes d4) (by decide) ?_
    refine iushr X0.here hexec rfl (hb hbytes d6) rfl ?_
    refine i2b X0.here hexec rfl (hb hbytes d7) rfl ?_
    exact Steps.refl _)
  have e0 : lo8 (ushr (Int32.ofNat B.slots.size - Int32.ofNat B.slots.size) 31) = 0 := by rw [Int32.sub_self]; decide
  rw [e0] at c3
  exact ⟨s₁, some (.int 0), _, _, _, X0, rfl, rfl, rfl, (fun h => by cases h), ⟨rfl, hh0⟩, fun fs hl => c3.trans (X0.ireturnOut hexec hret rfl (Or.inr (Or.inr (Or.inl rfl))) (hb hbytes d8) hl)⟩
end CodL
/-- the String at a is Latin-1 over a new byte[] (the heap's one new cell): the low bytes of the len chars of A from o on; every cell but a is kept -/
def Got (a : Addr) (D : Cell) (fV fC : Field) (A : Cell) (o len : Nat) (r : Option Value) (s u : State) : Prop := r = none ∧ ∃ D' V : Cell, Blank "java/lang/String" a D' u ∧ Same D D' [fV.slot, fC.slot] ∧ D'.slots[fV.slot]? = some (.ref s.heap.size) ∧ D'.slots[fC.slot]? = some (.int 0) ∧ Arr .byte s.heap.size V u ∧ V.vm = .none ∧ u.vm.findClass "[B" = some V.cls ∧ V.slots.size = len ∧ (∀ j, j < len → V.slots[j]? = some (.int (lo8 (cv A (o + j))))) ∧ (∀ (y : Addr) (c : Cell), y ≠ a → s.heap[y]? = some c → u.heap[y]? = some c) ∧ u.heap.size = s.heap.size + 1
theorem Got.mv {a : Addr} {D A : Cell} {fV fC : Field} {o len : Nat} : ∀ r (U U' V V' : State), U'.heap = U.heap → V.vm.Alike V'.vm → V'.heap = V.heap → Got a D fV fC A o len r U V → Got a D fV fC A o len r U' V' :=
  fun r U U' V V' h1 hal h2 ⟨e0, D', X, a1, a2, a3, a4, a5, a6, a7, a8, a9, a10, a11⟩ => ⟨e0, D', X, a1.mv hal h2, a2, by rw [h1]; exact a3, a4, by rw [h1]; exact a5.mv hal h2, a6, by rw [hal.findClass]; exact a7, a8, a9, by rw [h1, h2]; exact a10, by rw [h1, h2]; exact a11⟩
namespace New4
def yN : MethodName := ⟨"java/lang/String", "<init>", "([CIILjava/lang/Void;)V"⟩
abbrev yB : ByteArray := jdk_42_method_149_code
theorem d0 : decode yB 0 = .ok (.aload_n 0, 1) := by decide +kernel
theorem d1 : decode yB 1 = .ok (.invokespecial 1, 3) := by decide +kernel
theorem d4 : decode yB 4 = .ok (.iload_n 3, 1) := by decide +kernel
theorem d5 : decode yB 5 = .ok (.ifCond (.ne) 22, 3) := by decide +kernel
theorem d27 : decode yB 27 = .ok (.getstatic 38, 3) := by decide +kernel
theorem d30 : decode yB 30 = .ok (.ifCond (.eq) 28, 3) := by decide +kernel
theorem d33 : decode yB 33 = .ok (.aload_n 1, 1) := by decide +kernel
theorem d34 : decode yB 34 = .ok (.iload_n 2, 1) := by decide +kernel
theorem d35 : decode yB 35 = .ok (.iload_n 3, 1) := by decide +kernel
theorem d36 : decode yB 36 = .ok (.invokestatic 177, 3) := by decide +kernel
theorem d39 : decode yB 39 = .ok (.astore 5, 2) := by decide +kernel
theorem d41 : decode yB 41 = .ok (.aload_n 0, 1) := by decide +kernel
theorem d42 : decode yB 42 = .ok (.aload 5, 2) := by decide +kernel
theorem d44 : decode yB 44 = .ok (.iload_n 3, 1) := by decide +kernel
theorem d45 : decode yB 45 = .ok (.invokestatic 47, 3) := by decide +kernel
theorem d48 : decode yB 48 = .ok (.putfield 15, 3) := by decide +kernel
theorem d51 : decode yB 51 = .ok (.aload_n 0, 1) := by decide +kernel
theorem d52 : decode yB 52 = .ok (.aload 5, 2) := by decide +kernel
theorem d54 : decode yB 54 = .ok (.putfield 9, 3) := by decide +kernel
theorem d57 : decode yB 57 = .ok (.return_, 1) := by decide +kernel
def site : List Cond := [.fieldLink "java/lang/String" 38 "java/lang/String" "COMPACT_STRINGS" "Z", Cmp3.tab, CodL.tab, .laysFinal "java/lang/String" "java/lang/String" "value" "[B", .fieldLink "java/lang/String" 9 "java/lang/String" "value" "[B", .laysFinal "java/lang/String" "java/lang/String" "coder" "B", .fieldLink "java/lang/String" 15 "java/lang/String" "coder" "B"] ++ objW "java/lang/String" 1 ++ staticW "java/lang/String" 177 Cmp3.yN ++ staticW "java/lang/String" 47 CodL.yN
def tab : Cond := tabOf yN yB 6 none site
def P (a : Addr) (D : Cell) (fV fC : Field) (b : Addr) (A : Cell) (z : Int32) (o len : Nat) (args : Array Value) (s : State) : Prop := args = #[.ref a, .ref b, .int (Int32.ofNat o), .int (Int32.ofNat len), .null] ∧ Blank "java/lang/String" a D s ∧ Found "java/lang/String" "value" "[B" fV s ∧ Found "java/lang/String" "coder" "B" fC s ∧ Ch b A s ∧ StaticIs s "java/lang/String" "COMPACT_STRINGS" "Z" (.int z) ∧ ¬ z = 0 ∧ 0 < len ∧ o + len ≤ A.slots.size ∧ len ≤ 536870912 ∧ ∀ i, i < len → ¬ 255 < cv A (o + i)
def E (a : Addr) (D : Cell) (fV fC : Field) (A : Cell) (o len : Nat) (r : Option Value) (s u : State) : Prop := Got a D fV fC A o len r s u
/-- len > 0, no char of the range above 255: a Latin-1 String of their low bytes -/
theorem law (l : Launch) (a : Addr) (D : Cell) (fV fC : Field) (b : Addr) (A : Cell) (z : Int32) (o len : Nat) : Law l yN 5 4 2 35 yB 6 none site (P a D fV fC b A z o len) (E a D fV fC A o len) [⟨a, fC.slot⟩, ⟨a, fV.slot⟩] 1 len := by
  refine Law.of_walk (plainFor_of_name (by decide +kernel)) (by decide +kernel) (by decide +kernel) (by decide) (fun _ _ h => by rw [h.1]; rfl) (fun _ U U' hal hh h => ⟨h.1, h.2.1.mv hal hh, h.2.2.1.al hal, h.2.2.2.1.al hal, h.2.2.2.2.1.mv hal hh, h.2.2.2.2.2.1.there hal hh, h.2.2.2.2.2.2⟩) (fun r U U' V V' h1 hal h2 h => Got.mv r U U' V V' h1 hal h2 h) ?_
  intro p e s m args below meth c s₁ X0 hexec hbytes hml hret hlk hnm hown hh0 W hP
  obtain ⟨rfl, hB, f1, f2, hA, s1, hz, l0, l1, l2, hp⟩ := hP
  have a31 := hA.1.2.2.2
  have c1 : Steps p.tables e below (s₁.setTop (entryFrame m #[.ref a, .ref b, .int (Int32.ofNat o), .int (Int32.ofNat len), .null] 6)) (s₁.setTop (mkF m 0 #[.val (.ref a), .val (.ref b), .val (.int (Int32.ofNat o)), .val (.int (Int32.ofNat len)), .val .null, .unset] [])) := entry rfl
  have c2 : Steps p.tables e below (s₁.setTop (entryFrame m #[.ref a, .ref b, .int (Int32.ofNat o), .int (Int32.ofNat len), .null] 6)) (s₁.setTop (mkF m 1 #[.val (.ref a), .val (.ref b), .val (.int (Int32.ofNat o)), .val (.int (Int32.ofNat len)), .val .null, .unset] [.ref a])) := c1.trans (by
    refine XS.aloadN X0.here hexec rfl (hb hbytes d0) rfl rfl ?_
    exact Steps.refl _)
  obtain ⟨T3, X3, q3, st3⟩ := X0.oinit hexec hown (wks W (objW "java/lang/String" 1)) (g := (mkF m 1 #[.val (.ref a), .val (.ref b), .val (.int (Int32.ofNat o)), .val (.int (Int32.ofNat len)), .val .null, .unset] [.ref a])) rfl (by rw [hml]; rfl) (rest := []) rfl (hb hbytes d1) (W := 0) (by show 2 * 0 + 0 ≤ _; decide) (Nat.le_of_ble_eq_true rfl) (Nat.le_of_ble_eq_true rfl)
  have hh3 := q3.trans hh0
  have c4 : Steps p.tables e below (s₁.setTop (entryFrame m #[.ref a, .ref b, .int (Int32.ofNat o), .int (Int32.ofNat len), .null] 6)) (T3.setTop (mkF m 27 #[.val (.ref a), .val (.ref b), .val (.int (Int32.ofNat o)), .val (.int (Int32.ofNat len)), .val .null, .unset] [])) := (c2.trans (st3 _ (Steps.refl _))).trans (by
    refine XS.iloadN X3.here hexec rfl (hb hbytes d4) rfl ?_
    refine XS.ifYes X3.here hexec rfl (pc0 := 5) rfl (hb hbytes d5) rfl (i0_ne_t (nz32 (by omega) l0)) (by decide) rfl ?_
    exact Steps.refl _)
  obtain ⟨T5, X5, q5, st5⟩ := X3.sget hexec hown (wk W (.fieldLink "java/lang/String" 38 "java/lang/String" "COMPACT_STRINGS" "Z")) s1 (fun _ _ h => by rw [hh3]; exact h) (g := (mkF m 27 #[.val (.ref a), .val (.ref b), .val (.int (Int32.ofNat o)), .val (.int (Int32.ofNat len)), .val .null, .unset] [])) rfl (hb hbytes d27)
  have hh5 := q5.trans hh3
  have c6 : Steps p.tables e below (s₁.setTop (entryFrame m #[.ref a, .ref b, .int (Int32.ofNat o), .int (Int32.ofNat len), .null] 6)) (T5.setTop (mkF m 30 #[.val (.ref a), .val (.ref b), .val (.int (Int32.ofNat o)), .val (.int (Int32.ofNat len)), .val .null, .unset] [.int z])) := c4.trans (st5 _ (Steps.refl _))
  have c7 : Steps p.tables e below (s₁.setTop (entryFrame m #[.ref a, .ref b, .int (Int32.ofNat o), .int (Int32.ofNat len), .null] 6)) (T5.setTop (mkF m 36 #[.val (.ref a), .val (.ref b), .val (.int (Int32.ofNat o)), .val (.int (Int32.ofNat len)), .val .null, .unset] [.int (Int32.ofNat len), .int (Int32.ofNat o), .ref b])) := c6.trans (by
    refine XS.ifNo X5.here hexec rfl (hb hbytes d30) rfl (i0_eq_f hz) ?_
    refine XS.aloadN X5.here hexec rfl (hb hbytes d33) rfl rfl ?_
    refine XS.iloadN X5.here hexec rfl (hb hbytes d34) rfl ?_
    refine XS.iloadN X5.here hexec rfl (hb hbytes d35) rfl ?_
    exact Steps.refl _)
  obtain ⟨v8, T8, X8, E8, g8⟩ := X5.callS hexec (Cmp3.law l b A o len) hown (wks W (staticW "java/lang/String" 177 Cmp3.yN)) (wk W Cmp3.tab) (W := 0) (Nat.le_of_ble_eq_true rfl) (Nat.le_of_ble_eq_true rfl) (Nat.le_refl _) (by show 0 + len ≤ len; omega) (g := (mkF m 36 #[.val (.ref a), .val (.ref b), .val (.int (Int32.ofNat o)), .val (.int (Int32.ofNat len)), .val .null, .unset] [.int (Int32.ofNat len), .int (Int32.ofNat o), .ref b])) rfl (by rw [hml]; rfl) c7 (argsL := [.ref b, .int (Int32.ofNat o), .int (Int32.ofNat len)]) (rest := []) rfl rfl (by show 2 * 0 + 0 ≤ _; decide) (hb hbytes d36) (⟨rfl, hA.mv X5.warmed.alike hh5, l1, l2, hp⟩)
  obtain ⟨e8, z8⟩ := E8
  obtain ⟨rfl, N, n1, n2, n3, n4, n5, n6⟩ := NewArr.mv _ T5 s _ _ hh5.symm (Vm.Alike.refl _) rfl e8
  rw [hh5] at z8
  have hB1 := hB.keep X8.warmed.alike (n6 _ _ hB.1)
  have hne : s.heap.size ≠ a := (Nat.ne_of_lt (Array.getElem?_eq_some_iff.mp hB.1).1).symm
  have c9 : Steps p.tables e below (s₁.setTop (entryFrame m #[.ref a, .ref b, .int (Int32.ofNat o), .int (Int32.ofNat len), .null] 6)) (T8.setTop (mkF m 39 #[.val (.ref a), .val (.ref b), .val (.int (Int32.ofNat o)), .val (.int (Int32.ofNat len)), .val .null, .unset] [.ref s.heap.size])) := g8
  have c10 : Steps p.tables e below (s₁.setTop (entryFrame m #[.ref a, .ref b, .int (Int32.ofNat o), .int (Int32.ofNat len), .null] 6)) (T8.setTop (mkF m 45 #[.val (.ref a), .val (.ref b), .val (.int (Int32.ofNat o)), .val (.int (Int32.ofNat len)), .val .null, .val (.ref s.heap.size)] [.int (Int32.ofNat N.slots.size), .ref s.heap.size, .ref a])) := by
    have hc : Steps p.tables e below (s₁.setTop (entryFrame m #[.ref a, .ref b, .int (Int32.ofNat o), .int (Int32.ofNat len), .null] 6)) (T8.setTop (mkF m 45 #[.val (.ref a), .val (.ref b), .val (.int (Int32.ofNat o)), .val (.int (Int32.ofNat len)), .val .null, .val (.ref s.heap.size)] [.int (Int32.ofNat len), .ref s.heap.size, .ref a])) := c9.trans (by
      refine XS.astore X8.here hexec rfl (hb hbytes d39) rfl rfl rfl ?_
      refine XS.aloadN X8.here hexec rfl (hb hbytes d41) rfl rfl ?_
      refine XS.aload X8.here hexec rfl (hb hbytes d42) rfl rfl ?_
      refine XS.iloadN X8.here hexec rfl (hb hbytes d44) rfl ?_
      exact Steps.refl _)
    rw [n4]; exact hc
  obtain ⟨v11, T11, X11, E11, g11⟩ := X8.callS hexec (CodL.law l s.heap.size N) hown (wks W (staticW "java/lang/String" 47 CodL.yN)) (wk W CodL.tab) (W := 1) (Nat.le_of_ble_eq_true rfl) (Nat.le_of_ble_eq_true rfl) (Nat.le_refl _) (by show 0 + len + 0 ≤ len; omega) (g := (mkF m 45 #[.val (.ref a), .val (.ref b), .val (.int (Int32.ofNat o)), .val (.int (Int32.ofNat len)), .val .null, .val (.ref s.heap.size)] [.int (Int32.ofNat N.slots.size), .ref s.heap.size, .ref a])) rfl (by rw [hml]; rfl) c10 (argsL := [.ref s.heap.size, .int (Int32.ofNat N.slots.size)]) (rest := [.ref a]) rfl rfl (by show 2 * 0 + (1 + 0) ≤ _; decide) (hb hbytes d45) (⟨rfl, n1⟩)
  obtain ⟨rfl, q11⟩ := E11
  have hB11 := hB1.mv (X8.warmed.alike.symm.trans X11.warmed.alike) q11
  have c12 : Steps p.tables e below (s₁.setTop (entryFrame m #[.ref a, .ref b, .int (Int32.ofNat o), .int (Int32.ofNat len), .null] 6)) (T11.setTop (mkF m 48 #[.val (.ref a), .val (.ref b), .val (.int (Int32.ofNat o)), .val (.int (Int32.ofNat len)), .val .null, .val (.ref s.heap.size)] [.int 0, .ref a])) := g11
  obtain ⟨T13, X13, p13, bl13, sl13, st13⟩ := X11.finit hexec hown (wk W (.fieldLink "java/lang/String" 15 "java/lang/String" "coder" "B")) (Or.inr ⟨_, (wk W (.laysFinal "java/lang/String" "java/lang/String" "coder" "B"))⟩) (Or.inl ⟨rfl, hnm⟩) f2 (Or.inl rfl) hB11 (t := .byte) (by decide +kernel) rfl (g := (mkF m 48 #[.val (.ref a), .val (.ref b), .val (.int (Int32.ofNat o)), .val (.int (Int32.ofNat len)), .val .null, .val (.ref s.heap.size)] [.int 0, .ref a])) rfl (rest := []) rfl (hb hbytes d48)
  have c14 : Steps p.tables e below (s₁.setTop (entryFrame m #[.ref a, .ref b, .int (Int32.ofNat o), .int (Int32.ofNat len), .null] 6)) (T13.setTop (mkF m 54 #[.val (.ref a), .val (.ref b), .val (.int (Int32.ofNat o)), .val (.int (Int32.ofNat len)), .val .null, .val (.ref s.heap.size)] [.ref s.heap.size, .ref a])) := (c12.trans (st13 _ (Steps.refl _))).trans (by
    refine XS.aloadN X13.here hexec rfl (hb hbytes d51) rfl rfl ?_
    refine XS.aload X13.here hexec rfl (hb hbytes d52) rfl rfl ?_
    exact Steps.refl _)
  obtain ⟨T15, X15, p15, bl15, sl15, st15⟩ := X13.finit hexec hown (wk W (.fieldLink "java/lang/String" 9 "java/lang/String" "value" "[B")) (Or.inr ⟨_, (wk W (.laysFinal "java/lang/String" "java/lang/String" "value" "[B"))⟩) (Or.inl ⟨rfl, hnm⟩) f1 (Or.inl rfl) bl13 (t := (.array .byte)) (by decide +kernel) rfl (g := (mkF m 54 #[.val (.ref a), .val (.ref b), .val (.int (Int32.ofNat o)), .val (.int (Int32.ofNat len)), .val .null, .val (.ref s.heap.size)] [.ref s.heap.size, .ref a])) rfl (rest := []) rfl (hb hbytes d54)
  have c16 : Steps p.tables e below (s₁.setTop (entryFrame m #[.ref a, .ref b, .int (Int32.ofNat o), .int (Int32.ofNat len), .null] 6)) (T15.setTop (mkF m 57 #[.val (.ref a), .val (.ref b), .val (.int (Int32.ofNat o)), .val (.int (Int32.ofNat len)), .val .null, .val (.ref s.heap.size)] [])) := c14.trans (st15 _ (Steps.refl _))
  have ap := apart (Or.inr ⟨_, (wk W (.laysFinal "java/lang/String" "java/lang/String" "value" "[B"))⟩) (Or.inr ⟨_, (wk W (.laysFinal "java/lang/String" "java/lang/String" "coder" "B"))⟩) f1 f2 (t₁ := .array .byte) (t₂ := .byte) (by decide +kernel) (by decide +kernel) (by decide)
  have al := X8.warmed.alike.symm.trans X15.warmed.alike
  have n7 : T11.heap[s.heap.size]? = some N := by rw [q11]; exact n1.1
  exact ⟨T15, none, _, _, _, X15, by simp, rfl, by omega, (fun _ => rfl), ⟨rfl, _, N, bl15, ((Same.refl D _).set _ (by simp)).set _ (by simp), sl15, (Cell.slots_setSlot_ne _ ap).trans sl13, n1.keep al (p15.other hne (p13.other hne n7)), n2, by rw [al.findClass]; exact n3, n4, n5, fun y c h1 h2 => p15.other h1 (p13.other h1 (by rw [q11]; exact n6 y c h2)), by rw [p15.2.2, p13.2.2, q11]; exact z8⟩, fun fs hl => c16.trans (X15.returnOut hexec hret (hb hbytes d57) hl)⟩
end New4
namespace New1
def yN : MethodName := ⟨"java/lang/String", "<init>", "([C)V"⟩
abbrev yB : ByteArray := jdk_42_method_3_code
theorem d0 : decode yB 0 = .ok (.aload_n 0, 1) := by decide +kernel
theorem d1 : decode yB 1 = .ok (.aload_n 1, 1) := by decide +kernel
theorem d2 : decode yB 2 = .ok (.iconst 0, 1) := by decide +kernel
theorem d3 : decode yB 3 = .ok (.aload_n 1, 1) := by decide +kernel
theorem d4 : decode yB 4 = .ok (.arraylength, 1) := by decide +kernel
theorem d5 : decode yB 5 = .ok (.aconst_null, 1) := by decide +kernel
theorem d6 : decode yB 6 = .ok (.invokespecial 27, 3) := by decide +kernel
theorem d9 : decode yB 9 = .ok (.return_, 1) := by decide +kernel
def site : List Cond := [New4.tab] ++ initW "java/lang/String" 27 New4.yN
def tab : Cond := tabOf yN yB 2 none site
def P (a : Addr) (D : Cell) (fV fC : Field) (b : Addr) (A : Cell) (z : Int32) (args : Array Value) (s : State) : Prop := args = #[.ref a, .ref b] ∧ Blank "java/lang/String" a D s ∧ Found "java/lang/String" "value" "[B" fV s ∧ Found "java/lang/String" "coder" "B" fC s ∧ Ch b A s ∧ StaticIs s "java/lang/String" "COMPACT_STRINGS" "Z" (.int z) ∧ ¬ z = 0 ∧ 0 < A.slots.size ∧ A.slots.size ≤ 536870912 ∧ ∀ i, i < A.slots.size → ¬ 255 < cv A i
def E (a : Addr) (D : Cell) (fV fC : Field) (A : Cell) (r : Option Value) (s u : State) : Prop := Got a D fV fC A 0 A.slots.size r s u
/-- new String(chars), not empty, no char above 255: a Latin-1 String of their low bytes -/
theorem law (l : Launch) (a : Addr) (D : Cell) (fV fC : Field) (b : Addr) (A : Cell) (z : Int32) : Law l yN 2 1 3 52 yB 2 none site (P a D fV fC b A z) (E a D fV fC A) [⟨a, fC.slot⟩, ⟨a, fV.slot⟩] 1 A.slots.size := by
  refine Law.of_walk (plainFor_of_name (by decide +kernel)) (by decide +kernel) (by decide +kernel) (by decide) (fun _ _ h => by rw [h.1]; rfl) (fun _ U U' hal hh h => ⟨h.1, h.2.1.mv hal hh, h.2.2.1.al hal, h.2.2.2.1.al hal, h.2.2.2.2.1.mv hal hh, h.2.2.2.2.2.1.there hal hh, h.2.2.2.2.2.2⟩) (fun r U U' V V' h1 hal h2 h => Got.mv r U U' V V' h1 hal h2 h) ?_
  intro p e s m args below meth c s₁ X0 hexec hbytes hml hret hlk hnm hown hh0 W hP
  obtain ⟨rfl, hB, f1, f2, hA, s1, hz, l0, l2, hp⟩ := hP
  have c1 : Steps p.tables e below (s₁.setTop (entryFrame m #[.ref a, .ref b] 2)) (s₁.setTop (mkF m 0 #[.val (.ref a), .val (.ref b)] [])) := entry rfl
  have c2 : Steps p.tables e below (s₁.setTop (entryFrame m #[.ref a, .ref b] 2)) (s₁.setTop (mkF m 6 #[.val (.ref a), .val (.ref b)] [.null, .int (Int32.ofNat A.slots.size), .int 0, .ref b, .ref a])) := c1.trans (by
    refine XS.aloadN X0.here hexec rfl (hb hbytes d0) rfl rfl ?_
    refine XS.aloadN X0.here hexec rfl (hb hbytes d1) rfl rfl ?_
    refine iconstV X0.here hexec rfl 0 (hb hbytes d2) (by decide) ?_
    refine XS.aloadN X0.here hexec rfl (hb hbytes d3) rfl rfl ?_
    refine X0.alen hexec (hA.1.mv X0.warmed.alike hh0) rfl rfl (hb hbytes d4) ?_
    refine XS.aconstNull X0.here hexec rfl (hb hbytes d5) ?_
    exact Steps.refl _)
  obtain ⟨v3, T3, X3, E3, g3⟩ := X0.callN hexec (New4.law l a D fV fC b A z 0 A.slots.size) rfl hown (wks W (initW "java/lang/String" 27 New4.yN)) (W New4.tab (by simp only [site, List.mem_cons, List.mem_append, true_or, or_true])) (W := 0) (Nat.le_of_ble_eq_true rfl) (Nat.le_of_ble_eq_true rfl) (Nat.le_refl _) (by show 0 + A.slots.size ≤ A.slots.size; omega) (g := (mkF m 6 #[.val (.ref a), .val (.ref b)] [.null, .int (Int32.ofNat A.slots.size), .int (Int32.ofNat 0), .ref b, .ref a])) rfl (by rw [hml]; rfl) c2 (argsL := [.ref b, .int (Int32.ofNat 0), .int (Int32.ofNat A.slots.size), .null]) (rest := []) rfl rfl (by show 2 * 0 + 0 ≤ _; decide) (hb hbytes d6) (⟨rfl, hB.mv X0.warmed.alike hh0, f1.al X0.warmed.alike, f2.al X0.warmed.alike, hA.mv X0.warmed.alike hh0, s1.there X0.warmed.alike hh0, hz, l0, by omega, l2, fun i hi => by rw [Nat.zero_add]; exact hp i hi⟩)
  have e0 := Got.mv _ s₁ s _ _ hh0.symm (Vm.Alike.refl _) rfl E3
  obtain rfl := e0.1
  have c4 : Steps p.tables e below (s₁.setTop (entryFrame m #[.ref a, .ref b] 2)) (T3.setTop (mkF m 9 #[.val (.ref a), .val (.ref b)] [])) := g3
  exact ⟨T3, none, _, _, _, X3, by simp, rfl, by omega, (fun _ => rfl), e0, fun fs hl => c4.trans (X3.returnOut hexec hret (hb hbytes d9) hl)⟩
theorem pays {l : Launch} {R : Room} {p : Program} {e : Env} {below : List Frame} {s : State} {sargs : Array Value} {len W : Nat} (a : Addr) (D : Cell) (fV fC : Field) (b : Addr) (A : Cell) (z : Int32) (htab : tab.before sargs s = true) (hfr : 4 ≤ R.frames) (hlo : W + 65 ≤ R.locals) :
    Back l R p e below s sargs yN len W (fun A₁ a₁ => A₁.cells + 1 ≤ R.cells ∧ A₁.slots + A.slots.size ≤ R.slots ∧ P a D fV fC b A z a₁ A₁.U) (fun A₁ _ v₁ B₁ => E a D fV fC A v₁ A₁.U B₁.U ∧ B₁.locs = A₁.locs ++ [⟨a, fC.slot⟩, ⟨a, fV.slot⟩] ∧ B₁.cells = A₁.cells + 1 ∧ B₁.slots = A₁.slots + A.slots.size) :=
  (law l a D fV fC b A z).pays htab hfr (by omega)
end New1
/-- the byte, read back as charAt reads it, is the char -/
theorem lo8_mask {x : Int32} (h0 : ¬ x < 0) (h1 : ¬ 255 < x) : lo8 x &&& 255 = x := by
  have t : ∀ k : Fin 256, lo8 (Int32.ofNat k.val) &&& 255 = Int32.ofNat k.val := by decide +kernel
  rw [Int32.lt_iff_toInt_lt] at h0 h1
  have e0 : (0 : Int32).toInt = 0 := rfl
  have e1 : (255 : Int32).toInt = 255 := rfl
  obtain ⟨k, hk⟩ : ∃ k : Nat, x.toInt = k := ⟨x.toInt.toNat, by omega⟩
  have hx : x = Int32.ofNat k := Int32.toInt_inj.mp (by rw [hk, Int32.toInt_ofNat_small (by omega)])
  rw [hx]
  exact t ⟨k, by omega⟩
end StrChars
namespace StrChars.Road
open Jvm Sem ClassFile Op Lib Jvm.Stand Jvm.Free Jvm.Free.XT
open Jvm.Lib.Cold (StaticIs)
abbrev ST : String := "java/lang/String"
/-- every table word that New1's law asks, flat -/
abbrev words : List Jvm.Cond := [.code New1.yN New1.yB 2 none, .initialized ST, .methodLink ST 27 New4.yN, .instanceMethod New4.yN,
  .code New4.yN New4.yB 6 none, .fieldLink ST 38 ST "COMPACT_STRINGS" "Z", .laysFinal ST ST "value" "[B", .fieldLink ST 9 ST "value" "[B", .laysFinal ST ST "coder" "B", .fieldLink ST 15 ST "coder" "B",
  .methodLink ST 1 Lib.objectInit, .instanceMethod Lib.objectInit, .code Lib.objectInit ⟨#[0xb1]⟩ 1 none, .methodLink ST 177 Cmp3.yN, .static Cmp3.yN, .methodLink ST 47 CodL.yN, .static CodL.yN,
  .code Cmp3.yN Cmp3.yB 6 (some (.array .byte)), .initialized U16, .arrayClass .byte, .methodLink U16 115 Cmp5.yN, .static Cmp5.yN, .code Cmp5.yN Cmp5.yB 7 (some .int), .code CodL.yN CodL.yB 2 (some .byte)]
theorem tab_of {a : Array Value} {s : State} (h : ∀ w ∈ words, w.before a s = true) : New1.tab.before a s = true := by
  have h5 : Cmp5.tab.before a s = true := unparts (wk h (.code Cmp5.yN Cmp5.yB 7 (some .int))) (wks h (.initialized Cmp5.yN.cls :: Cmp5.site))
  have hc : CodL.tab.before a s = true := unparts (wk h (.code CodL.yN CodL.yB 2 (some .byte))) (wks h (.initialized CodL.yN.cls :: CodL.site))
  have q5 : ∀ w ∈ Cmp5.tab :: words, w.before a s = true := fun w hw => (List.mem_cons.mp hw).elim (fun e => e ▸ h5) (h w)
  have h3 : Cmp3.tab.before a s = true := unparts (wk q5 (.code Cmp3.yN Cmp3.yB 6 (some (.array .byte)))) (wks q5 (.initialized Cmp3.yN.cls :: Cmp3.site))
  have q3 : ∀ w ∈ Cmp3.tab :: CodL.tab :: words, w.before a s = true := fun w hw => (List.mem_cons.mp hw).elim (fun e => e ▸ h3) fun hw => (List.mem_cons.mp hw).elim (fun e => e ▸ hc) (h w)
  have h4 : New4.tab.before a s = true := unparts (wk q3 (.code New4.yN New4.yB 6 none)) (wks q3 (.initialized New4.yN.cls :: New4.site))
  have q4 : ∀ w ∈ New4.tab :: words, w.before a s = true := fun w hw => (List.mem_cons.mp hw).elim (fun e => e ▸ h4) (h w)
  exact unparts (wk q4 (.code New1.yN New1.yB 2 none)) (wks q4 (.initialized New1.yN.cls :: New1.site))
/-- the words ride from the start Z to the walk's own state -/
theorem moved {Z s : State} {a0 args : Array Value} (hZ : Z.Warmed39 s.vm) (hw : ∀ d ∈ words, d.before a0 Z = true) : ∀ d ∈ words, d.before args s = true := fun d hd => by
  have q := hw d hd
  have t : ∀ d ∈ words, d = .arrayClass .byte ∨ (d.onTables && d.keepsFace) = true := by decide +kernel
  rcases t d hd with rfl | t
  · exact RoadKit.mvA hZ q
  · exact RoadKit.mv hZ q t
/-- WHAT COMES BACK, over the tables of the start Z: h the heap at the call, h' behind it -/
def Q (Z : State) (x : Addr) (A : Cell) (h : Heap) (v : Option Value) (h' : Heap) (L : List Loc) : Prop := v = none ∧ (∀ y ∈ L, y.base = x) ∧ RoadKit.Keep h h' [x] ∧ h'.size = h.size + 1 ∧ RoadKit.Exa Z h' x ST ∧ RoadKit.Fld Z h' x ST "value" "[B" (.ref h.size) ∧ RoadKit.Fld Z h' x ST "coder" "B" (.int 0) ∧
  (∃ V : Cell, RoadKit.Arr Z h' h.size V .byte ∧ V.vm = .none ∧ Z.vm.findClass "[B" = some V.cls ∧ V.slots.size = A.slots.size ∧ ∀ j, j < A.slots.size → V.slots[j]? = some (.int (lo8 (cv A j)))) ∧
  ∀ (O n d : String) (w : Value), RoadKit.Fld Z h x O n d w → RoadKit.slotOf Z O n d ≠ RoadKit.slotOf Z ST "value" "[B" → RoadKit.slotOf Z O n d ≠ RoadKit.slotOf Z ST "coder" "B" → RoadKit.Fld Z h' x O n d w
/-- **new String(chars) AT A CALL, IN THE ROAD'S FORM**: for specialBack behind newO: x the fresh String, b the char[] with the cell A -/
theorem back {p : Program} {l : Launch} {e : Env} {R : Room} {s : State} {args : Array Value} {below : List Frame} {len W : Nat} {Z : State} {a0 : Array Value} {h : Heap} (hZ : Z.Warmed39 s.vm) (hw : ∀ d ∈ words, d.before a0 Z = true) {kI : Nat} (wi : (Jvm.Cond.instantiable ST kI).before a0 Z = true)
    {x b : Addr} {A : Cell} {z : Int32} {v0 c0 : Value} (E : RoadKit.Exa Z h x ST) (V : RoadKit.Fld Z h x ST "value" "[B" v0) (C : RoadKit.Fld Z h x ST "coder" "B" c0) (K : RoadKit.Arr Z h b A .char) (hty : Typed .char A) (S : RoadKit.Sta Z h ST "COMPACT_STRINGS" "Z" (.int z)) (hz : ¬ z = 0)
    (l0 : 0 < A.slots.size) (l2 : A.slots.size ≤ 536870912) (hp : ∀ i, i < A.slots.size → ¬ 255 < cv A i) (hfr : 4 ≤ R.frames) (hlo : W + 65 ≤ R.locals) :
    Back l R p e below s args New1.yN len W (fun P a => a = #[.ref x, .ref b] ∧ P.U.heap = h ∧ P.cells + 1 ≤ R.cells ∧ P.slots + A.slots.size ≤ R.slots)
      (fun P _ v B => ∃ L, Q Z x A h v B.U.heap L ∧ B.locs = P.locs ++ L ∧ B.cells = P.cells + 1 ∧ B.slots = P.slots + A.slots.size) := by
  intro m meth c P g ig mk a X hg hsize hdg hW hn hp'
  obtain ⟨rfl, rfl, r1, r2⟩ := hp'
  have al : Z.vm.Alike P.U.vm := hZ.alike.trans X.warmed.alike
  obtain ⟨D, cfV, kV, iV, fV, hD, gV, stV, knV, obV, asV, slV⟩ := id V
  obtain ⟨D', cfC, kC, iC, fC, hD', gC, stC, -, -, asC, slC⟩ := id C
  cases hD.symm.trans hD'
  obtain ⟨D2, kD, e1, e2, e3, e4, e5⟩ := id E
  cases hD.symm.trans e1
  obtain ⟨c2, k2, i1, i2, i3, -⟩ := Cond.instantiable_spec wi
  cases e2.symm.trans i1
  cases e3.symm.trans i2
  obtain ⟨kU, u1, u2⟩ := al.2.2 _ _ e3
  have hB : Blank ST x D P.U := ⟨hD, ⟨knV, fun q hq => by rw [hq] at obV; cases obV⟩, by rw [al.findClass]; exact e2, kU, u1, by rw [u2]; exact i3, by rw [u2]; exact e5 i3⟩
  have F1 : Found ST "value" "[B" fV P.U := ⟨SBG.found_only al ⟨cfV, kV, iV, gV⟩, stV⟩
  have F2 : Found ST "coder" "B" fC P.U := ⟨SBG.found_only al ⟨cfC, kC, iC, gC⟩, stC⟩
  have hA : Ch b A P.U := ⟨⟨K.1, State.isArrayOf_alike al K.2.1, K.2.2, by omega⟩, hty⟩
  have hS : StaticIs P.U ST "COMPACT_STRINGS" "Z" (.int z) := by
    obtain ⟨cfS, iS, kS, fS, st, cS, t1, t2, t3, t4, t5, t6, t7⟩ := S
    exact StaticIs.there (s := { Z with heap := P.U.heap }) ⟨cfS, iS, kS, fS, st, cS, t1, t2, t3, t4, t5, (fun q => by rw [q] at t6; cases t6), t7⟩ al rfl
  obtain ⟨v, B, X', ⟨⟨hv, E', V', q1, q2, q3, q4, q5, q6, q7, q8, q9, q10, q11⟩, hl, hc, hs⟩, st⟩ := New1.pays x D fV fC b A z (tab_of (moved hZ hw)) hfr hlo m meth c P g ig mk _ X hg hsize hdg hW hn ⟨r1, r2, rfl, hB, F1, F2, hA, hS, hz, l0, l2, hp⟩
  have al' : Z.vm.Alike B.U.vm := hZ.alike.trans X'.warmed.alike
  have hsz : E'.slots.size = D.slots.size := by
    obtain ⟨-, -, -, kB, w1, w2, w3⟩ := q1
    obtain ⟨kB', y1, y2⟩ := al'.2.2 _ _ e3
    rw [q2.2.1] at w1
    cases w1.symm.trans y1
    rw [w3, e5 i3, y2]
  refine ⟨v, B, X', ⟨_, ⟨hv, ?_, ⟨by omega, fun y cy hy hn' => q10 y cy (by simpa using hn') hy, fun y cy hy => ?_⟩, q11, ⟨E', _, q1.1, by rw [q2.2.1]; exact e2, by rw [q2.2.1]; exact e3, by rw [q2.1]; exact obV, fun _ => by rw [hsz]; exact e5 i3⟩,
    ⟨E', cfV, kV, iV, fV, q1.1, gV, stV, by rw [q2.1]; exact knV, by rw [q2.1]; exact obV, by rw [q2.2.1]; exact asV, q3⟩, ⟨E', cfC, kC, iC, fC, q1.1, gC, stC, by rw [q2.1]; exact knV, by rw [q2.1]; exact obV, by rw [q2.2.1]; exact asC, q4⟩,
    ⟨V', ⟨q5.1, State.isArrayOf_alike al'.symm q5.2.1, q5.2.2.1⟩, q6, by rw [← al'.findClass]; exact q7, q8, fun j hj => by have := q9 j hj; rwa [Nat.zero_add] at this⟩, fun O n d w F n1 n2 => ?_⟩, hl, hc, hs⟩, st⟩
  · intro y hy
    simp only [List.mem_cons, List.not_mem_nil, or_false] at hy
    rcases hy with rfl | rfl <;> rfl
  · by_cases q : y = x
    · subst q
      cases hD.symm.trans hy
      exact ⟨E', q1.1, q2.2.1, q2.1, hsz⟩
    · exact ⟨cy, q10 y cy q hy, rfl, rfl, rfl⟩
  · obtain ⟨D3, cf, k, i, f, g1, g2, g3, g4, g5, g6, g7⟩ := F
    cases hD.symm.trans g1
    simp only [RoadKit.slotOf, g2, gV, gC, Option.map_some, Option.getD_some] at n1 n2
    exact ⟨E', cf, k, i, f, q1.1, g2, g3, by rw [q2.1]; exact g4, by rw [q2.1]; exact g5, by rw [q2.2.1]; exact g6, by rw [q2.2.2 f.slot (by simp [n1, n2])]; exact g7⟩
end StrChars.Road
namespace StrChars.Road
open Jvm Sem ClassFile Op Lib Jvm.Stand Jvm.Free Jvm.Free.XT
/-- WHAT COMES BACK, the byte[] as a list of values -/
def QA (Z : State) (x : Addr) (zn : Int32) (cs : List Int32) (h : Heap) (v : Option Value) (h' : Heap) (L : List Loc) : Prop := v = none ∧ (∀ y ∈ L, y.base = x) ∧ RoadKit.Keep h h' [x] ∧ h'.size = h.size + 1 ∧ RoadKit.Exa Z h' x ST ∧ RoadKit.Fld Z h' x ST "value" "[B" (.ref h.size) ∧ RoadKit.Fld Z h' x ST "coder" "B" (.int 0) ∧
  (∃ kb, Z.vm.findClass "[B" = some kb ∧ RoadKit.Arv Z h' h.size kb .byte zn (cs.map fun c => .int (lo8 c)) (.int 0)) ∧
  ∀ (O n d : String) (w : Value), RoadKit.Fld Z h x O n d w → RoadKit.slotOf Z O n d ≠ RoadKit.slotOf Z ST "value" "[B" → RoadKit.slotOf Z O n d ≠ RoadKit.slotOf Z ST "coder" "B" → RoadKit.Fld Z h' x O n d w
/-- **new String(chars) AT A CALL, THE ARRAYS AS LISTS**: the char[] at b holds cs, not empty, no char above 255 -/
theorem backArv {p : Program} {l : Launch} {e : Env} {R : Room} {s : State} {args : Array Value} {below : List Frame} {len W : Nat} {Z : State} {a0 : Array Value} {h : Heap} (hZ : Z.Warmed39 s.vm) (hw : ∀ d ∈ words, d.before a0 Z = true) {kI : Nat} (wi : (Jvm.Cond.instantiable ST kI).before a0 Z = true)
    {x b : Addr} {k : ClassId} {zn z : Int32} {cs : List Int32} {dv v0 c0 : Value} (E : RoadKit.Exa Z h x ST) (V : RoadKit.Fld Z h x ST "value" "[B" v0) (C : RoadKit.Fld Z h x ST "coder" "B" c0) (K : RoadKit.Arv Z h b k .char zn (cs.map Value.int) dv) (S : RoadKit.Sta Z h ST "COMPACT_STRINGS" "Z" (.int z)) (hz : ¬ z = 0)
    (hlen : zn.toNatClampNeg = cs.length) (h0 : 0 < cs.length) (hbig : cs.length ≤ 536870912) (hall : ∀ c ∈ cs, ¬ 255 < c) (hfr : 4 ≤ R.frames) (hlo : W + 65 ≤ R.locals) :
    Back l R p e below s args New1.yN len W (fun P a => a = #[.ref x, .ref b] ∧ P.U.heap = h ∧ P.cells + 1 ≤ R.cells ∧ P.slots + cs.length ≤ R.slots)
      (fun P _ v B => ∃ L, QA Z x zn cs h v B.U.heap L ∧ B.locs = P.locs ++ L ∧ B.cells = P.cells + 1 ∧ B.slots = P.slots + cs.length) := by
  obtain ⟨A, K1, K2, K3, K4, K5, K6⟩ := K
  have e : A.slots.size = cs.length := K3.trans hlen
  have hat : ∀ (i : Nat) (hi : i < cs.length), A.slots[i]? = some (.int cs[i]) := fun i hi => by rw [K5 i (by omega)]; simp [List.getD_eq_getElem?_getD, hi]
  have hcv : ∀ (i : Nat) (hi : i < cs.length), cv A i = cs[i] := fun i hi => by unfold cv; rw [hat i hi]
  have hty : Typed .char A := fun i v hv => by
    have hi : i < A.slots.size := (Array.getElem?_eq_some_iff.mp hv).1
    have q := K5 i hi
    rw [hv] at q
    rw [Option.some.inj q]
    exact K6 i hi
  refine Back.mono (back hZ hw wi E V C K1 hty S hz (by omega) (by omega) (fun i hi => by rw [hcv i (by omega)]; exact hall _ (List.getElem_mem _)) hfr hlo) (fun P a hp => ⟨hp.1, hp.2.1, hp.2.2.1, by rw [e]; exact hp.2.2.2⟩) (fun P a v B hp hq => ?_)
  obtain ⟨L, ⟨q1, q2, q3, q4, q5, q6, q7, ⟨V', v1, v2, v3, v4, v5⟩, q9⟩, hl, hc, hs⟩ := hq
  refine ⟨L, ⟨q1, q2, q3, q4, q5, q6, q7, ⟨V'.cls, v3, V', v1, rfl, by rw [v4, e, hlen], K4, fun i hi => ?_, fun i hi => ?_⟩, q9⟩, hl, hc, by rw [hs, e]⟩
  · have hi' : i < cs.length := by omega
    rw [v5 i (by omega), hcv i hi']; simp [List.getD_eq_getElem?_getD, hi']
  · have hi' : i < cs.length := by omega
    simp only [List.getD_eq_getElem?_getD, List.getElem?_map, List.getElem?_eq_getElem hi', Option.map_some, Option.getD_some]
    exact fits_lo8 _
end StrChars.Road
namespace StrChars.Road
open Jvm Sem ClassFile Op Lib Jvm.Stand Jvm.Free Jvm.Free.XT
/-- WHAT COMES BACK, in the writer's own shape -/
def QV (Z : State) (x : Addr) (N : Int32) (bs : List Int32) (h : Heap) (n0 : Nat) (v : Option Value) (h' : Heap) (L : List Loc) : Prop := v = none ∧ RoadKit.Fr n0 L ∧ RoadKit.Keep h h' [x] ∧ RoadKit.Exa Z h' x ST ∧ RoadKit.Fld Z h' x ST "coder" "B" (.int 0) ∧
  ∃ (t : Addr) (kb : ClassId), n0 ≤ t ∧ h.size ≤ t ∧ ¬ t = x ∧ RoadKit.Fld Z h' x ST "value" "[B" (.ref t) ∧ RoadKit.Arv Z h' t kb .byte N (bs.map Value.int) (.int 0)
/-- **new String(chars) AT A CALL, FOR THE WRITER**: a char[] of n known ints, each 0 to 255 -/
theorem backV {p : Program} {l : Launch} {e : Env} {R : Room} {s : State} {args : Array Value} {below : List Frame} {len W : Nat} {Z : State} {a0 : Array Value} {h : Heap} (hZ : Z.Warmed39 s.vm) (hw : ∀ d ∈ words, d.before a0 Z = true) {kI : Nat} (wi : (Jvm.Cond.instantiable ST kI).before a0 Z = true)
    {x b : Addr} {kC : ClassId} {cs bs : List Int32} {d v0 c0 : Value} {z N : Int32} {n n0 : Nat} (hx0 : n0 ≤ x) (hh0 : n0 ≤ h.size) (E : RoadKit.Exa Z h x ST) (V : RoadKit.Fld Z h x ST "value" "[B" v0) (C : RoadKit.Fld Z h x ST "coder" "B" c0) (K : RoadKit.Arv Z h b kC .char N (cs.map Value.int) d) (S : RoadKit.Sta Z h ST "COMPACT_STRINGS" "Z" (.int z)) (hz : ¬ z = 0)
    (hn : cs.length = n) (hN : N = Int32.ofNat n) (l0 : 0 < n) (l2 : n ≤ 4000) (hp : ∀ c ∈ cs, ¬ c < 0 ∧ ¬ (255 : Int32) < c) (hb : bs = cs.map (fun c => c.toInt8.toInt32)) (hfr : 4 ≤ R.frames) (hlo : W + 65 ≤ R.locals) :
    Back l R p e below s args (⟨"java/lang/String", "<init>", "([C)V"⟩ : MethodName) len W (fun P a => a = #[.ref x, .ref b] ∧ P.U.heap = h ∧ P.cells + 1 ≤ R.cells ∧ P.slots + n ≤ R.slots)
      (fun P _ v B => ∃ L, QV Z x N bs h n0 v B.U.heap L ∧ B.locs = P.locs ++ L ∧ B.cells = P.cells + 1 ∧ B.slots = P.slots + n) := by
  subst hn hN hb
  refine Back.mono (backArv hZ hw wi E V C K S hz (n32 (by omega)) l0 (by omega) (fun c hc => (hp c hc).2) hfr hlo) (fun P a hp => hp) (fun P a v B hp hq => ?_)
  obtain ⟨L, ⟨q1, q2, q3, q4, q5, q6, q7, ⟨kb, v1, v2⟩, q9⟩, hl, hc, hs⟩ := hq
  exact ⟨L, ⟨q1, fun y hy => by rw [q2 y hy]; exact hx0, q3, q5, q7, h.size, kb, hh0, Nat.le_refl _, Nat.ne_of_gt E.lt, q6, by rw [List.map_map]; exact v2⟩, hl, hc, hs⟩
end StrChars.Road
namespace StrChars
open Jvm Sem ClassFile Op Lib Jvm.Stand Jvm.Free.XT Jvm.Free.ALB Jvm.Free.JM Jvm.Free
open Jvm.Lib.Cold (StaticIs)
def hi8 (x : Int32) : Int32 := lo8 (x >>> ((8 : Int32) &&& 31))
/-- what StringUTF16.getChar makes of two bytes -/
def pairCh (u v : Int32) : Int32 := (((u &&& 255) <<< ((0 : Int32) &&& 31)) ||| ((v &&& 255) <<< ((8 : Int32) &&& 31))).toUInt32.toUInt16.toUInt32.toInt32
theorem lo8_and (x : Int32) : (lo8 x &&& 255).toBitVec.toNat = x.toBitVec.toNat % 256 := by
  have h : (lo8 x).toBitVec = (x.toBitVec.signExtend 8).signExtend 32 := by rw [lo8, Int8.toBitVec_toInt32, Int32.toBitVec_toInt8]
  rw [Int32.toBitVec_and, BitVec.toNat_and, h]
  have e : ((x.toBitVec.signExtend 8).signExtend 32).toNat % 256 = x.toBitVec.toNat % 256 := by
    rw [BitVec.toNat_signExtend]
    have hlt := x.toBitVec.isLt
    simp only [BitVec.toNat_setWidth, BitVec.toNat_signExtend]
    split <;> split <;> omega
  rw [← e]
  exact Nat.and_two_pow_sub_one_eq_mod _ 8
theorem pair_says {c : Int32} (h0 : ¬ c < 0) (h1 : ¬ 65535 < c) : pairCh (lo8 c) (hi8 c) = c := by
  rw [Int32.lt_iff_toInt_lt] at h0 h1
  have e0 : (0 : Int32).toInt = 0 := rfl
  have e1 : (65535 : Int32).toInt = 65535 := rfl
  have hc : c.toInt = c.toBitVec.toNat := by
    have := c.toBitVec.isLt
    have e : c.toInt = c.toBitVec.toInt := rfl
    rw [e] at h0 h1
    rw [e]
    rw [BitVec.toInt_eq_toNat_cond] at h0 h1 ⊢
    split at h0 <;> split <;> omega
  have hn : c.toBitVec.toNat < 65536 := by omega
  have a1 := lo8_and c
  have a2 : (hi8 c &&& 255).toBitVec.toNat = c.toBitVec.toNat / 256 := by
    rw [hi8, lo8_and]
    have e : ((8 : Int32) &&& 31) = 8 := by decide
    rw [e, Int32.toBitVec_shiftRight]
    have e2 : ((8 : Int32).toBitVec.smod 32) = 8#32 := by decide
    rw [e2, BitVec.sshiftRight_eq', BitVec.toNat_sshiftRight_of_msb_false (by rw [BitVec.msb_eq_false_iff_two_mul_lt]; omega)]
    show c.toBitVec.toNat >>> 8 % 256 = _
    rw [Nat.shiftRight_eq_div_pow]
    omega
  unfold pairCh
  apply Int32.toBitVec_inj.mp
  apply BitVec.eq_of_toNat_eq
  have f0 : ((0 : Int32) &&& 31) = 0 := by decide
  have f8 : ((8 : Int32) &&& 31) = 8 := by decide
  rw [f0, f8]
  have g : (((lo8 c &&& 255) <<< (0 : Int32)) ||| ((hi8 c &&& 255) <<< (8 : Int32))).toBitVec.toNat = c.toBitVec.toNat := by
    rw [Int32.toBitVec_or, Int32.toBitVec_shiftLeft, Int32.toBitVec_shiftLeft]
    have s0 : ((0 : Int32).toBitVec.smod 32) = 0#32 := by decide
    have s8 : ((8 : Int32).toBitVec.smod 32) = 8#32 := by decide
    rw [s0, s8, BitVec.toNat_or]
    simp only [BitVec.shiftLeft_eq', BitVec.toNat_shiftLeft, a1, a2]
    show (c.toBitVec.toNat % 256) <<< 0 % 2 ^ 32 ||| (c.toBitVec.toNat / 256) <<< 8 % 2 ^ 32 = _
    rw [Nat.shiftLeft_zero, Nat.mod_eq_of_lt (show c.toBitVec.toNat % 256 < 2 ^ 32 by omega), Nat.mod_eq_of_lt (show (c.toBitVec.toNat / 256) <<< 8 < 2 ^ 32 by rw [Nat.shiftLeft_eq]; omega), Nat.or_comm, ← Nat.shiftLeft_add_eq_or_of_lt (by omega), Nat.shiftLeft_eq]
    omega
  show BitVec.toNat (((((lo8 c &&& 255) <<< (0 : Int32)) ||| ((hi8 c &&& 255) <<< (8 : Int32))).toBitVec.setWidth 16).setWidth 32) = _
  rw [BitVec.toNat_setWidth, BitVec.toNat_setWidth, g]
  omega
end StrChars
namespace StrChars
open Jvm Sem ClassFile Op Lib Jvm.Stand Jvm.Free.XT Jvm.Free.ALB Jvm.Free.JM Jvm.Free
open Jvm.Lib.Cold (StaticIs)
/-- charAt's cast of a byte read back -/
def chr8 (u : Int32) : Int32 := (u &&& 255).toUInt32.toUInt16.toUInt32.toInt32
theorem chr8_lo8 {c : Int32} (h0 : ¬ c < 0) (h1 : ¬ 255 < c) : chr8 (lo8 c) = c := by
  have t : ∀ k : Fin 256, (Int32.ofNat k.val).toUInt32.toUInt16.toUInt32.toInt32 = Int32.ofNat k.val := by decide +kernel
  unfold chr8
  rw [lo8_mask h0 h1]
  rw [Int32.lt_iff_toInt_lt] at h0 h1
  have e0 : (0 : Int32).toInt = 0 := rfl
  have e1 : (255 : Int32).toInt = 255 := rfl
  obtain ⟨k, hk⟩ : ∃ k : Nat, c.toInt = k := ⟨c.toInt.toNat, by omega⟩
  have hx : c = Int32.ofNat k := Int32.toInt_inj.mp (by rw [hk, Int32.toInt_ofNat_small (by omega)])
  rw [hx]
  exact t ⟨k, by omega⟩
theorem narrow_ch {c : Int32} (h0 : ¬ c < 0) (h1 : ¬ 65535 < c) : narrow .char (.int c) = .int c := by
  have q : narrow .char (.int (pairCh (lo8 c) (hi8 c))) = .int (pairCh (lo8 c) (hi8 c)) := narrow_c _
  rwa [pair_says h0 h1] at q
/-- the array's cell V codes the n chars f 0 .. f (n - 1) by the coder cd, as the JDK does: coder 1 just where some char is above 255 -/
def Cod (cd : Int32) (n : Nat) (f : Nat → Int32) (V : Cell) : Prop := (cd = 0 ∧ V.slots.size = n ∧ ∀ j, j < n → V.slots[j]? = some (.int (lo8 (f j))) ∧ ¬ 255 < f j) ∨ (cd = 1 ∧ V.slots.size = 2 * n ∧ (∀ j, j < n → V.slots[2 * j]? = some (.int (lo8 (f j))) ∧ V.slots[2 * j + 1]? = some (.int (hi8 (f j)))) ∧ ∃ j, j < n ∧ 255 < f j)
theorem Cod.cd {cd : Int32} {n : Nat} {f : Nat → Int32} {V : Cell} (h : Cod cd n f V) : cd = 0 ∨ cd = 1 := h.imp (fun q => q.1) fun q => q.1
/-- **x is a String of the n chars f 0 .. f (n - 1)**, Latin-1 or UTF-16; its array at t has the cell V -/
def Txt (x t : Addr) (V : Cell) (cd : Int32) (n : Nat) (f : Nat → Int32) (U : State) : Prop := Exact "java/lang/String" x U ∧ Has x "java/lang/String" "value" "[B" (.ref t) U ∧ Has x "java/lang/String" "coder" "B" (.int cd) U ∧ XT.Arr .byte t V U ∧ Cod cd n f V ∧ ∀ j, j < n → ¬ f j < 0 ∧ ¬ 65535 < f j
theorem Txt.mv {x t : Addr} {V : Cell} {cd : Int32} {n : Nat} {f : Nat → Int32} {U U' : State} (h : Txt x t V cd n f U) (hal : U.vm.Alike U'.vm) (hh : U'.heap = U.heap) : Txt x t V cd n f U' := ⟨h.1.mv hal hh, h.2.1.mv hal hh, h.2.2.1.mv hal hh, h.2.2.2.1.mv hal hh, h.2.2.2.2⟩
namespace IsL
def yN : MethodName := ⟨"java/lang/String", "isLatin1", "()Z"⟩
abbrev yB : ByteArray := jdk_42_method_154_code
theorem d0 : decode yB 0 = .ok (.getstatic 38, 3) := by decide +kernel
theorem d3 : decode yB 3 = .ok (.ifCond (.eq) 14, 3) := by decide +kernel
theorem d6 : decode yB 6 = .ok (.aload_n 0, 1) := by decide +kernel
theorem d7 : decode yB 7 = .ok (.getfield 15, 3) := by decide +kernel
theorem d10 : decode yB 10 = .ok (.ifCond (.ne) 7, 3) := by decide +kernel
theorem d13 : decode yB 13 = .ok (.iconst 1, 1) := by decide +kernel
theorem d14 : decode yB 14 = .ok (.goto 4, 3) := by decide +kernel
theorem d17 : decode yB 17 = .ok (.iconst 0, 1) := by decide +kernel
theorem d18 : decode yB 18 = .ok (.ireturn, 1) := by decide +kernel
def site : List Cond := [.fieldLink "java/lang/String" 38 "java/lang/String" "COMPACT_STRINGS" "Z", .fieldLink "java/lang/String" 15 "java/lang/String" "coder" "B"]
def tab : Cond := tabOf yN yB 1 (some .boolean) site
def P (x : Addr) (cd z : Int32) (args : Array Value) (s : State) : Prop := args = #[.ref x] ∧ Has x "java/lang/String" "coder" "B" (.int cd) s ∧ (cd = 0 ∨ cd = 1) ∧ StaticIs s "java/lang/String" "COMPACT_STRINGS" "Z" (.int z) ∧ ¬ z = 0
def E (cd : Int32) (r : Option Value) (s u : State) : Prop := XT.PureE (some (.int (1 - cd))) r s u
theorem law (l : Launch) (x : Addr) (cd z : Int32) : Law l yN 1 0 0 0 yB 1 (some .boolean) site (P x cd z) (E cd) [] 0 0 := by
  refine Law.of_walk (plainFor_of_name (by decide +kernel)) (by decide +kernel) (by decide +kernel) (by decide) (fun _ _ h => by rw [h.1]; rfl) (fun _ U U' hal hh h => ⟨h.1, h.2.1.mv hal hh, h.2.2.1, h.2.2.2.1.there hal hh, h.2.2.2.2⟩) (fun r U U' V V' h1 hal h2 h => XT.PureE.mv r U U' V V' h1 hal h2 h) ?_
  intro p e s m args below meth c s₁ X0 hexec hbytes hml hret hlk hnm hown hh0 W hP
  obtain ⟨rfl, hx, hc, s1, hz⟩ := hP
  have c1 : Steps p.tables e below (s₁.setTop (entryFrame m #[.ref x] 1)) (s₁.setTop (mkF m 0 #[.val (.ref x)] [])) := entry rfl
  obtain ⟨T2, X2, q2, st2⟩ := X0.sget hexec hown (wk W (.fieldLink "java/lang/String" 38 "java/lang/String" "COMPACT_STRINGS" "Z")) s1 (fun _ _ h => by rw [hh0]; exact h) (g := (mkF m 0 #[.val (.ref x)] [])) rfl (hb hbytes d0)
  have hh2 := q2.trans hh0
  have c3 : Steps p.tables e below (s₁.setTop (entryFrame m #[.ref x] 1)) (T2.setTop (mkF m 7 #[.val (.ref x)] [.ref x])) := (c1.trans (st2 _ (Steps.refl _))).trans (by
    refine XS.ifNo X2.here hexec rfl (hb hbytes d3) rfl (i0_eq_f hz) ?_
    refine XS.aloadN X2.here hexec rfl (hb hbytes d6) rfl rfl ?_
    exact Steps.refl _)
  obtain ⟨T4, X4, q4, st4⟩ := X2.hget hexec hown (wk W (.fieldLink "java/lang/String" 15 "java/lang/String" "coder" "B")) (hx.mv X2.warmed.alike hh2) (g := (mkF m 7 #[.val (.ref x)] [.ref x])) rfl (rest := []) rfl (hb hbytes d7)
  have c5 : Steps p.tables e below (s₁.setTop (entryFrame m #[.ref x] 1)) (T4.setTop (mkF m 10 #[.val (.ref x)] [.int cd])) := c3.trans (st4 _ (Steps.refl _))
  have c6 : Steps p.tables e below (s₁.setTop (entryFrame m #[.ref x] 1)) (T4.setTop (mkF m 18 #[.val (.ref x)] [.int (1 - cd)])) := by
    rcases hc with rfl | rfl
    · exact c5.trans (by
        refine XS.ifNo X4.here hexec rfl (hb hbytes d10) rfl (i0_ne_f rfl) ?_
        refine iconstV X4.here hexec rfl 1 (hb hbytes d13) (by decide) ?_
        refine XS.goto X4.here hexec rfl (pc0 := 14) rfl (hb hbytes d14) (by decide) rfl ?_
        exact Steps.refl _)
    · exact c5.trans (by
        refine XS.ifYes X4.here hexec rfl (pc0 := 10) rfl (hb hbytes d10) rfl (i0_ne_t (by decide)) (by decide) rfl ?_
        refine iconstV X4.here hexec rfl 0 (hb hbytes d17) (by decide) ?_
        exact Steps.refl _)
  exact ⟨T4, some (.int (1 - cd)), _, _, _, X4, rfl, rfl, rfl, (fun h => by cases h), ⟨rfl, q4.trans hh2⟩, fun fs hl => c6.trans (X4.ireturnOut hexec hret (by rcases hc with rfl | rfl <;> rfl) (Or.inr (Or.inl rfl)) (hb hbytes d18) hl)⟩
end IsL
namespace LChA
def yN : MethodName := ⟨"java/lang/StringLatin1", "charAt", "([BI)C"⟩
abbrev yB : ByteArray := jdk_43_method_2_code
theorem d0 : decode yB 0 = .ok (.iload_n 1, 1) := by decide +kernel
theorem d1 : decode yB 1 = .ok (.aload_n 0, 1) := by decide +kernel
theorem d2 : decode yB 2 = .ok (.arraylength, 1) := by decide +kernel
theorem d3 : decode yB 3 = .ok (.invokestatic 9, 3) := by decide +kernel
theorem d6 : decode yB 6 = .ok (.aload_n 0, 1) := by decide +kernel
theorem d7 : decode yB 7 = .ok (.iload_n 1, 1) := by decide +kernel
theorem d8 : decode yB 8 = .ok (.baload, 1) := by decide +kernel
theorem d9 : decode yB 9 = .ok (.sipush 255, 3) := by decide +kernel
theorem d12 : decode yB 12 = .ok (.iand, 1) := by decide +kernel
theorem d13 : decode yB 13 = .ok (.i2c, 1) := by decide +kernel
theorem d14 : decode yB 14 = .ok (.ireturn, 1) := by decide +kernel
def site : List Cond := [JO.Str_checkIndex.tab] ++ staticW "java/lang/StringLatin1" 9 JO.Str_checkIndex.yN
def tab : Cond := tabOf yN yB 2 (some .char) site
def P (t : Addr) (V : Cell) (i : Nat) (u : Int32) (fm : Value) (args : Array Value) (s : State) : Prop := args = #[.ref t, .int (Int32.ofNat i)] ∧ XT.Arr .byte t V s ∧ V.slots[i]? = some (.int u) ∧ (StaticIs s "jdk/internal/util/Preconditions" "SIOOBE_FORMATTER" "Ljava/util/function/BiFunction;" fm ∧ fm.isRef = true)
def E (u : Int32) (r : Option Value) (s w : State) : Prop := XT.PureE (some (.int (chr8 u))) r s w
theorem law (l : Launch) (t : Addr) (V : Cell) (i : Nat) (u : Int32) (fm : Value) : Law l yN 2 2 2 27 yB 2 (some .char) site (P t V i u fm) (E u) [] 0 0 := by
  refine Law.of_walk (plainFor_of_name (by decide +kernel)) (by decide +kernel) (by decide +kernel) (by decide) (fun _ _ h => by rw [h.1]; rfl) (fun _ U U' hal hh h => ⟨h.1, h.2.1.mv hal hh, h.2.2.1, h.2.2.2.1.there hal hh, h.2.2.2.2⟩) (fun r U U' V V' h1 hal h2 h => XT.PureE.mv r U U' V V' h1 hal h2 h) ?_
  intro p e s m args below meth c s₁ X0 hexec hbytes hml hret hlk hnm hown hh0 W hP
  obtain ⟨rfl, hV, hu, s1, rf⟩ := hP
  have v31 := hV.2.2.2
  have hi : i < V.slots.size := (Array.getElem?_eq_some_iff.mp hu).1
  have c1 : Steps p.tables e below (s₁.setTop (entryFrame m #[.ref t, .int (Int32.ofNat i)] 2)) (s₁.setTop (mkF m 0 #[.val (.ref t), .val (.int (Int32.ofNat i))] [])) := entry rfl
  have c2 : Steps p.tables e below (s₁.setTop (entryFrame m #[.ref t, .int (Int32.ofNat i)] 2)) (s₁.setTop (mkF m 3 #[.val (.ref t), .val (.int (Int32.ofNat i))] [.int (Int32.ofNat V.slots.size), .int (Int32.ofNat i)])) := c1.trans (by
    refine XS.iloadN X0.here hexec rfl (hb hbytes d0) rfl ?_
    refine XS.aloadN X0.here hexec rfl (hb hbytes d1) rfl rfl ?_
    refine X0.alen hexec (hV.mv X0.warmed.alike hh0) rfl rfl (hb hbytes d2) ?_
    exact Steps.refl _)
  obtain ⟨v3, T3, X3, E3, g3⟩ := X0.callS hexec (JO.Str_checkIndex.law l (Int32.ofNat i) (Int32.ofNat V.slots.size) fm) hown (wks W (staticW "java/lang/StringLatin1" 9 JO.Str_checkIndex.yN)) (wk W JO.Str_checkIndex.tab) (W := 0) (Nat.le_of_ble_eq_true rfl) (Nat.le_of_ble_eq_true rfl) (Nat.le_refl _) (Nat.le_refl _) (g := (mkF m 3 #[.val (.ref t), .val (.int (Int32.ofNat i))] [.int (Int32.ofNat V.slots.size), .int (Int32.ofNat i)])) rfl (by rw [hml]; rfl) c2 (argsL := [.int (Int32.ofNat i), .int (Int32.ofNat V.slots.size)]) (rest := []) rfl rfl (by show 2 * 0 + 0 ≤ _; decide) (hb hbytes d3) (⟨rfl, rf, s1.there X0.warmed.alike hh0, Int32.ofNat_not_neg (by omega), lt32 v31 hi⟩)
  obtain ⟨rfl, q3⟩ := E3
  have hh3 := q3.trans hh0
  have c4 : Steps p.tables e below (s₁.setTop (entryFrame m #[.ref t, .int (Int32.ofNat i)] 2)) (T3.setTop (mkF m 14 #[.val (.ref t), .val (.int (Int32.ofNat i))] [.int (chr8 u)])) := Steps.trans g3 (by
    refine XS.aloadN X3.here hexec rfl (hb hbytes d6) rfl rfl ?_
    refine XS.iloadN X3.here hexec rfl (hb hbytes d7) rfl ?_
    refine X3.aget hexec (hV.mv X3.warmed.alike hh3) rfl hu rfl rfl (hb hbytes d8) ?_
    refine sipushV X3.here hexec rfl 255 (hb hbytes d9) (by decide) ?_
    refine XS.iand X3.here hexec rfl (hb hbytes d12) rfl ?_
    refine i2c X3.here hexec rfl (hb hbytes d13) rfl ?_
    exact Steps.refl _)
  exact ⟨T3, some (.int (chr8 u)), _, _, _, X3, rfl, rfl, rfl, (fun h => by cases h), ⟨rfl, hh3⟩, fun fs hl => c4.trans (X3.ireturnOut hexec hret (narrow_c _) (Or.inr (Or.inr (Or.inr (Or.inl rfl)))) (hb hbytes d14) hl)⟩
end LChA
end StrChars
namespace StrChars.Road
open Jvm Sem ClassFile Op Lib Jvm.Stand Jvm.Free Jvm.Free.XT
open Jvm.Lib.Cold (StaticIs)
theorem consq {a : Array Value} {s : State} {c : Jvm.Cond} {L : List Jvm.Cond} (h0 : c.before a s = true) (h : ∀ w ∈ L, w.before a s = true) : ∀ w ∈ c :: L, w.before a s = true := fun w hw => (List.mem_cons.mp hw).elim (fun e => e ▸ h0) (h w)
/-- the bytes of the chars cs, low before high -/
def wideBytes : List Int32 → List Value
  | [] => []
  | c :: cs => .int (lo8 c) :: .int (hi8 c) :: wideBytes cs
theorem wide_lo (d : Value) : ∀ (cs : List Int32) (j : Nat), j < cs.length → (wideBytes cs).getD (2 * j) d = .int (lo8 (cs.getD j 0))
  | [], j, h => absurd h (Nat.not_lt_zero j)
  | c :: cs, 0, _ => rfl
  | c :: cs, j + 1, h => by
    have q := wide_lo d cs j (by simpa using h)
    rw [show 2 * (j + 1) = 2 * j + 1 + 1 from by omega]
    simpa [wideBytes] using q
theorem wide_hi (d : Value) : ∀ (cs : List Int32) (j : Nat), j < cs.length → (wideBytes cs).getD (2 * j + 1) d = .int (hi8 (cs.getD j 0))
  | [], j, h => absurd h (Nat.not_lt_zero j)
  | c :: cs, 0, _ => rfl
  | c :: cs, j + 1, h => by
    have q := wide_hi d cs j (by simpa using h)
    rw [show 2 * (j + 1) + 1 = 2 * j + 1 + 1 + 1 from by omega]
    simpa [wideBytes] using q
theorem low_at (d : Value) (cs : List Int32) (j : Nat) (h : j < cs.length) : (cs.map fun c => Value.int (lo8 c)).getD j d = .int (lo8 (cs.getD j 0)) := by
  simp [List.getD_eq_getElem?_getD, h]
/-- an array of N2 bytes vs codes the chars cs by the coder cd -/
def CodA (cs : List Int32) (cd N2 : Int32) (vs : List Value) : Prop := (cd = 0 ∧ N2 = Int32.ofNat cs.length ∧ vs = (cs.map fun c => Value.int (lo8 c)) ∧ ∀ c ∈ cs, ¬ 255 < c) ∨ (cd = 1 ∧ N2 = Int32.ofNat (2 * cs.length) ∧ vs = wideBytes cs ∧ ∃ c ∈ cs, 255 < c)
theorem CodA.cod {cs : List Int32} {cd N2 : Int32} {vs : List Value} {V : Cell} (h : CodA cs cd N2 vs) (hn : 2 * cs.length < 2 ^ 31) (hs : V.slots.size = N2.toNatClampNeg) (hv : RoadKit.Has V vs (.int 0)) : Cod cd cs.length (fun j => cs.getD j 0) V := by
  rcases h with ⟨rfl, rfl, rfl, h⟩ | ⟨rfl, rfl, rfl, c, hc, hw⟩
  · rw [n32 (by omega)] at hs
    exact Or.inl ⟨rfl, hs, fun j hj => ⟨by rw [hv j (by omega), low_at _ _ _ hj], by
      have e : cs.getD j 0 = cs[j] := by simp [List.getD_eq_getElem?_getD, hj]
      show ¬ 255 < cs.getD j 0
      rw [e]; exact h _ (List.getElem_mem _)⟩⟩
  · rw [n32 (by omega)] at hs
    obtain ⟨j, hj, rfl⟩ := List.getElem_of_mem hc
    exact Or.inr ⟨rfl, hs, fun j hj => ⟨by rw [hv _ (by omega), wide_lo _ _ _ hj], by rw [hv _ (by omega), wide_hi _ _ _ hj]⟩, j, hj, by
      have e : cs.getD j 0 = cs[j] := by simp [List.getD_eq_getElem?_getD, hj]
      show 255 < cs.getD j 0
      rw [e]; exact hw⟩
/-- an object of exactly java/lang/String, its two fields found: as the laws ask it -/
theorem strObj {Z U : State} {a0 : Array Value} {kI : Nat} (wi : (Jvm.Cond.instantiable ST kI).before a0 Z = true) (al : Z.vm.Alike U.vm) {x : Addr} {v0 c0 : Value} (E : RoadKit.Exa Z U.heap x ST) (V : RoadKit.Fld Z U.heap x ST "value" "[B" v0) (C : RoadKit.Fld Z U.heap x ST "coder" "B" c0) :
    ∃ (D : Cell) (fV fC : Field), Blank ST x D U ∧ Found ST "value" "[B" fV U ∧ Found ST "coder" "B" fC U ∧ D.slots[fV.slot]? = some v0 ∧ D.slots[fC.slot]? = some c0 ∧ RoadKit.slotOf Z ST "value" "[B" = fV.slot ∧ RoadKit.slotOf Z ST "coder" "B" = fC.slot := by
  obtain ⟨D, cfV, kV, iV, fV, hD, gV, stV, knV, obV, asV, slV⟩ := V
  obtain ⟨D', cfC, kC, iC, fC, hD', gC, stC, -, -, asC, slC⟩ := C
  cases hD.symm.trans hD'
  obtain ⟨D2, kD, e1, e2, e3, e4, e5⟩ := E
  cases hD.symm.trans e1
  obtain ⟨c2, k2, i1, i2, i3, -⟩ := Cond.instantiable_spec wi
  cases e2.symm.trans i1
  cases e3.symm.trans i2
  obtain ⟨kU, u1, u2⟩ := al.2.2 _ _ e3
  exact ⟨D, fV, fC, ⟨hD, ⟨knV, fun q hq => by rw [hq] at obV; cases obV⟩, by rw [al.findClass]; exact e2, kU, u1, by rw [u2]; exact i3, by rw [u2]; exact e5 i3⟩, ⟨SBG.found_only al ⟨cfV, kV, iV, gV⟩, stV⟩, ⟨SBG.found_only al ⟨cfC, kC, iC, gC⟩, stC⟩, slV, slC, by simp [RoadKit.slotOf, gV], by simp [RoadKit.slotOf, gC]⟩
theorem sta_is {Z U : State} (al : Z.vm.Alike U.vm) {C n d : String} {v : Value} (S : RoadKit.Sta Z U.heap C n d v) : StaticIs U C n d v := by
  obtain ⟨cfS, iS, kS, fS, st, cS, t1, t2, t3, t4, t5, t6, t7⟩ := S
  exact StaticIs.there (s := { Z with heap := U.heap }) ⟨cfS, iS, kS, fS, st, cS, t1, t2, t3, t4, t5, (fun q => by rw [q] at t6; cases t6), t7⟩ al rfl
end StrChars.Road
namespace StrChars.Road
open Jvm Sem ClassFile Op Lib Jvm.Stand Jvm.Free Jvm.Free.XT
open Jvm.Lib.Cold (StaticIs)
/-- the road's facts of a String, as the laws ask it -/
theorem txt_of {Z U : State} {a0 : Array Value} {kI : Nat} (wi : (Jvm.Cond.instantiable ST kI).before a0 Z = true) (al : Z.vm.Alike U.vm) {x t : Addr} {kb : ClassId} {cs : List Int32} {cd N2 : Int32} {vs : List Value} (E : RoadKit.Exa Z U.heap x ST) (V : RoadKit.Fld Z U.heap x ST "value" "[B" (.ref t)) (C : RoadKit.Fld Z U.heap x ST "coder" "B" (.int cd)) (K : RoadKit.Arv Z U.heap t kb .byte N2 vs (.int 0)) (hc : CodA cs cd N2 vs) (hb : ∀ c ∈ cs, ¬ c < 0 ∧ ¬ (65535 : Int32) < c) (l2 : cs.length ≤ 4000) :
    ∃ A, Txt x t A cd cs.length (fun j => cs.getD j 0) U := by
  obtain ⟨A, K1, K2, K3, K4, K5, K6⟩ := K
  have hcod := hc.cod (by omega) K3 K5
  obtain ⟨D, fV, fC, hB, F1, F2, g1, g2, -, -⟩ := strObj wi al E V C
  exact ⟨A, ⟨_, hB.2.2.1, D, hB.1, rfl, by cases q : D.vm <;> first | rfl | exact absurd q (hB.2.1.2 _)⟩, Has.of hB F1 g1, Has.of hB F2 g2, ⟨K1.1, State.isArrayOf_alike al K1.2.1, K1.2.2, by rcases hcod with ⟨-, q, -⟩ | ⟨-, q, -⟩ <;> omega⟩, hcod, fun j hj => by
    have e : cs.getD j 0 = cs[j] := by simp [List.getD_eq_getElem?_getD, hj]
    show ¬ cs.getD j 0 < 0 ∧ ¬ 65535 < cs.getD j 0
    rw [e]; exact hb _ (List.getElem_mem _)⟩
end StrChars.Road
namespace StrChars
open Jvm Sem ClassFile Op Lib Jvm.Stand Jvm.Free.XT Jvm.Free.ALB Jvm.Free.JM Jvm.Free
open Jvm.Lib.Cold (StaticIs)
namespace ChN
def yN : MethodName := ⟨"java/lang/String", "charAt", "(I)C"⟩
abbrev yB : ByteArray := jdk_42_method_56_code
theorem d0 : decode yB 0 = .ok (.aload_n 0, 1) := by decide +kernel
theorem d1 : decode yB 1 = .ok (.invokevirtual 492, 3) := by decide +kernel
theorem d4 : decode yB 4 = .ok (.ifCond (.eq) 12, 3) := by decide +kernel
theorem d7 : decode yB 7 = .ok (.aload_n 0, 1) := by decide +kernel
theorem d8 : decode yB 8 = .ok (.getfield 9, 3) := by decide +kernel
theorem d11 : decode yB 11 = .ok (.iload_n 1, 1) := by decide +kernel
theorem d12 : decode yB 12 = .ok (.invokestatic 495, 3) := by decide +kernel
theorem d15 : decode yB 15 = .ok (.ireturn, 1) := by decide +kernel
def site : List Cond := [.fieldLink "java/lang/String" 9 "java/lang/String" "value" "[B", IsL.tab, LChA.tab] ++ virtW "java/lang/String" 492 "java/lang/String" IsL.yN IsL.yN ++ staticW "java/lang/String" 495 LChA.yN
def tab : Cond := tabOf yN yB 2 (some .char) site
def P (x t : Addr) (V : Cell) (n : Nat) (f : Nat → Int32) (z : Int32) (fm : Value) (i : Nat) (args : Array Value) (s : State) : Prop := args = #[.ref x, .int (Int32.ofNat i)] ∧ Txt x t V 0 n f s ∧ i < n ∧ StaticIs s "java/lang/String" "COMPACT_STRINGS" "Z" (.int z) ∧ ¬ z = 0 ∧ StaticIs s "jdk/internal/util/Preconditions" "SIOOBE_FORMATTER" "Ljava/util/function/BiFunction;" fm ∧ fm.isRef = true
def E (f : Nat → Int32) (i : Nat) (r : Option Value) (s u : State) : Prop := XT.PureE (some (.int (f i))) r s u
/-- charAt(i) of a Latin-1 String of n chars, i < n: f i -/
theorem law (l : Launch) (x t : Addr) (V : Cell) (n : Nat) (f : Nat → Int32) (z : Int32) (fm : Value) (i : Nat) : Law l yN 2 1 3 40 yB 2 (some .char) site (P x t V n f z fm i) (E f i) [] 0 0 := by
  refine Law.of_walk (plainFor_of_name (by decide +kernel)) (by decide +kernel) (by decide +kernel) (by decide) (fun _ _ h => by rw [h.1]; rfl) (fun _ U U' hal hh h => ⟨h.1, h.2.1.mv hal hh, h.2.2.1, h.2.2.2.1.there hal hh, h.2.2.2.2.1, h.2.2.2.2.2.1.there hal hh, h.2.2.2.2.2.2⟩) (fun r U U' V V' h1 hal h2 h => XT.PureE.mv r U U' V V' h1 hal h2 h) ?_
  intro p e s m args below meth c s₁ X0 hexec hbytes hml hret hlk hnm hown hh0 W hP
  obtain ⟨rfl, hx, hi, s1, hz, s3, rf⟩ := hP
  have v31 := hx.2.2.2.1.2.2.2
  have hr := hx.2.2.2.2.2 i hi
  have hx0 := hx.mv X0.warmed.alike hh0
  have c1 : Steps p.tables e below (s₁.setTop (entryFrame m #[.ref x, .int (Int32.ofNat i)] 2)) (s₁.setTop (mkF m 1 #[.val (.ref x), .val (.int (Int32.ofNat i))] [.ref x])) := Steps.trans (entry rfl) (by
    show Steps p.tables e below (s₁.setTop (mkF m 0 #[.val (.ref x), .val (.int (Int32.ofNat i))] [])) _
    refine XS.aloadN X0.here hexec rfl (hb hbytes d0) rfl rfl ?_
    exact Steps.refl _)
  obtain ⟨v2, T2, X2, E2, g2⟩ := X0.callV hexec (IsL.law l x 0 z) hown (wks W (virtW "java/lang/String" 492 "java/lang/String" IsL.yN IsL.yN)) rfl (by decide) (wk W IsL.tab) (W := 0) (Nat.le_of_ble_eq_true rfl) (Nat.le_of_ble_eq_true rfl) (Nat.le_refl _) (Nat.le_refl _) (hx0.1.fc X0.warmed.alike) hx0.1.is (g := (mkF m 1 #[.val (.ref x), .val (.int (Int32.ofNat i))] [.ref x])) rfl (by rw [hml]; rfl) c1 (argsL := []) (rest := []) rfl rfl (by show 2 * 0 + 0 ≤ _; decide) (hb hbytes d1) (⟨rfl, hx0.2.2.1, hx.2.2.2.2.1.cd, s1.there X0.warmed.alike hh0, hz⟩)
  obtain ⟨rfl, q2⟩ := E2
  have hh2 := q2.trans hh0
  have hx2 := hx.mv X2.warmed.alike hh2
  obtain ⟨-, k1, k2⟩ | ⟨k0, -⟩ := hx.2.2.2.2.1
  · have c3 : Steps p.tables e below (s₁.setTop (entryFrame m #[.ref x, .int (Int32.ofNat i)] 2)) (T2.setTop (mkF m 8 #[.val (.ref x), .val (.int (Int32.ofNat i))] [.ref x])) := Steps.trans g2 (by
      refine XS.ifNo X2.here hexec rfl (hb hbytes d4) rfl (i0_eq_f (by decide)) ?_
      refine XS.aloadN X2.here hexec rfl (hb hbytes d7) rfl rfl ?_
      exact Steps.refl _)
    obtain ⟨T4, X4, q4, st4⟩ := X2.hget hexec hown (wk W (.fieldLink "java/lang/String" 9 "java/lang/String" "value" "[B")) hx2.2.1 (g := (mkF m 8 #[.val (.ref x), .val (.int (Int32.ofNat i))] [.ref x])) rfl (rest := []) rfl (hb hbytes d8)
    have hh4 := q4.trans hh2
    have c5 : Steps p.tables e below (s₁.setTop (entryFrame m #[.ref x, .int (Int32.ofNat i)] 2)) (T4.setTop (mkF m 12 #[.val (.ref x), .val (.int (Int32.ofNat i))] [.int (Int32.ofNat i), .ref t])) := (c3.trans (st4 _ (Steps.refl _))).trans (by
      refine XS.iloadN X4.here hexec rfl (hb hbytes d11) rfl ?_
      exact Steps.refl _)
    obtain ⟨v6, T6, X6, E6, g6⟩ := X4.callS hexec (LChA.law l t V i (lo8 (f i)) fm) hown (wks W (staticW "java/lang/String" 495 LChA.yN)) (wk W LChA.tab) (W := 0) (Nat.le_of_ble_eq_true rfl) (Nat.le_of_ble_eq_true rfl) (Nat.le_refl _) (Nat.le_refl _) (g := (mkF m 12 #[.val (.ref x), .val (.int (Int32.ofNat i))] [.int (Int32.ofNat i), .ref t])) rfl (by rw [hml]; rfl) c5 (argsL := [.ref t, .int (Int32.ofNat i)]) (rest := []) rfl rfl (by show 2 * 0 + 0 ≤ _; decide) (hb hbytes d12) (⟨rfl, hx.2.2.2.1.mv X4.warmed.alike hh4, (k2 i hi).1, s3.there X4.warmed.alike hh4, rf⟩)
    obtain ⟨rfl, q6⟩ := E6
    rw [chr8_lo8 hr.1 (k2 i hi).2] at g6
    exact ⟨T6, some (.int (f i)), _, _, _, X6, rfl, rfl, rfl, (fun h => by cases h), ⟨rfl, q6.trans hh4⟩, fun fs hl => Steps.trans g6 (X6.ireturnOut hexec hret (narrow_ch hr.1 hr.2) (Or.inr (Or.inr (Or.inr (Or.inl rfl)))) (hb hbytes d15) hl)⟩
  · exact absurd k0 (by decide)
theorem pays {l : Launch} {R : Room} {p : Program} {e : Env} {below : List Frame} {s : State} {sargs : Array Value} {len W : Nat} (x t : Addr) (V : Cell) (n : Nat) (f : Nat → Int32) (z : Int32) (fm : Value) (i : Nat) (htab : tab.before sargs s = true) (hfr : 4 ≤ R.frames) (hlo : W + 53 ≤ R.locals) :
    Back l R p e below s sargs yN len W (fun A₁ a₁ => A₁.cells + 0 ≤ R.cells ∧ A₁.slots + 0 ≤ R.slots ∧ P x t V n f z fm i a₁ A₁.U) (fun A₁ _ v₁ B₁ => E f i v₁ A₁.U B₁.U ∧ B₁.locs = A₁.locs ++ [] ∧ B₁.cells = A₁.cells + 0 ∧ B₁.slots = A₁.slots + 0) :=
  (law l x t V n f z fm i).pays htab hfr (by omega)
end ChN
end StrChars
namespace StrChars.Road
open Jvm Sem ClassFile Op Lib Jvm.Stand Jvm.Free Jvm.Free.XT
open Jvm.Lib.Cold (StaticIs)
/-- the words of String.charAt(int), the Latin-1 road alone -/
abbrev wordsChN : List Jvm.Cond := [.code ChN.yN ChN.yB 2 (some .char), .initialized ST, .fieldLink ST 9 ST "value" "[B", .fieldLink ST 38 ST "COMPACT_STRINGS" "Z", .fieldLink ST 15 ST "coder" "B", .code IsL.yN IsL.yB 1 (some .boolean), .methodLink ST 492 IsL.yN, .declares IsL.yN, .selects ST IsL.yN IsL.yN, .instanceMethod IsL.yN,
  .methodLink ST 495 LChA.yN, .static LChA.yN, .code LChA.yN LChA.yB 2 (some .char), .initialized "java/lang/StringLatin1", .methodLink "java/lang/StringLatin1" 9 JO.Str_checkIndex.yN, .static JO.Str_checkIndex.yN, .code JO.Str_checkIndex.yN JO.Str_checkIndex.yB 2 none,
  .fieldLink ST 1053 "jdk/internal/util/Preconditions" "SIOOBE_FORMATTER" "Ljava/util/function/BiFunction;", .methodLink ST 1059 JC.PreCheck.yN, .static JC.PreCheck.yN, .code JC.PreCheck.yN JC.PreCheck.yB 3 (some .int), .initialized "jdk/internal/util/Preconditions"]
theorem tabChN_of {a : Array Value} {s : State} (h : ∀ w ∈ wordsChN, w.before a s = true) : ChN.tab.before a s = true := by
  have hp : JC.PreCheck.tab.before a s = true := unparts (wk h (.code JC.PreCheck.yN JC.PreCheck.yB 3 (some .int))) (wks h (.initialized JC.PreCheck.yN.cls :: JC.PreCheck.site))
  have qk := consq hp h
  have hk : JO.Str_checkIndex.tab.before a s = true := unparts (wk qk (.code JO.Str_checkIndex.yN JO.Str_checkIndex.yB 2 none)) (wks qk (.initialized JO.Str_checkIndex.yN.cls :: JO.Str_checkIndex.site))
  have ql := consq hk h
  have hl : LChA.tab.before a s = true := unparts (wk ql (.code LChA.yN LChA.yB 2 (some .char))) (wks ql (.initialized LChA.yN.cls :: LChA.site))
  have hi : IsL.tab.before a s = true := unparts (wk h (.code IsL.yN IsL.yB 1 (some .boolean))) (wks h (.initialized IsL.yN.cls :: IsL.site))
  have q := consq hi (consq hl h)
  exact unparts (wk q (.code ChN.yN ChN.yB 2 (some .char))) (wks q (.initialized ChN.yN.cls :: ChN.site))
theorem movedChN {Z s : State} {a0 args : Array Value} (hZ : Z.Warmed39 s.vm) (hw : ∀ d ∈ wordsChN, d.before a0 Z = true) : ∀ d ∈ wordsChN, d.before args s = true := fun d hd => by
  have t : ∀ d ∈ wordsChN, (d.onTables && d.keepsFace) = true := by decide +kernel
  exact RoadKit.mv hZ (hw d hd) (t d hd)
/-- **charAt(i) OF A LATIN-1 STRING**, i < n: the char -/
theorem chN {p : Program} {l : Launch} {e : Env} {R : Room} {s : State} {args : Array Value} {below : List Frame} {len W : Nat} {Z : State} {a0 : Array Value} {h : Heap} (hZ : Z.Warmed39 s.vm) (hw : ∀ d ∈ wordsChN, d.before a0 Z = true) {kI : Nat} (wi : (Jvm.Cond.instantiable ST kI).before a0 Z = true)
    {x t : Addr} {kb : ClassId} {cs : List Int32} {N2 z : Int32} {vs : List Value} {fm : Value} {i : Nat} {j : Int32} (E : RoadKit.Exa Z h x ST) (V : RoadKit.Fld Z h x ST "value" "[B" (.ref t)) (C : RoadKit.Fld Z h x ST "coder" "B" (.int 0)) (K : RoadKit.Arv Z h t kb .byte N2 vs (.int 0)) (hc : CodA cs 0 N2 vs) (hb : ∀ c ∈ cs, ¬ c < 0 ∧ ¬ (65535 : Int32) < c)
    (S : RoadKit.Sta Z h ST "COMPACT_STRINGS" "Z" (.int z)) (hz : ¬ z = 0) (F : RoadKit.Sta Z h "jdk/internal/util/Preconditions" "SIOOBE_FORMATTER" "Ljava/util/function/BiFunction;" fm) (rf : fm.isRef = true) (l2 : cs.length ≤ 4000) (hi : i < cs.length) (hj : j = Int32.ofNat i) (hfr : 4 ≤ R.frames) (hlo : W + 53 ≤ R.locals) :
    Back l R p e below s args (⟨"java/lang/String", "charAt", "(I)C"⟩ : MethodName) len W (fun P a => a = #[.ref x, .int j] ∧ P.U.heap = h ∧ P.cells + 0 ≤ R.cells ∧ P.slots + 0 ≤ R.slots)
      (fun P _ v B => ∃ L, (v = some (.int (cs.getD i 0)) ∧ L = [] ∧ B.U.heap = h) ∧ B.locs = P.locs ++ L ∧ B.cells = P.cells + 0 ∧ B.slots = P.slots + 0) := by
  subst hj
  intro m meth c P g ig mk a X hg hsize hdg hW hn hp'
  obtain ⟨rfl, rfl, r1, r2⟩ := hp'
  have al : Z.vm.Alike P.U.vm := hZ.alike.trans X.warmed.alike
  obtain ⟨A, hx⟩ := txt_of wi al E V C K hc hb l2
  obtain ⟨v, B, X', ⟨⟨hv, hh⟩, hl, hk, hs⟩, st⟩ := ChN.pays x t A cs.length (fun j => cs.getD j 0) z fm i (tabChN_of (movedChN hZ hw)) hfr hlo m meth c P g ig mk _ X hg hsize hdg hW hn ⟨r1, r2, rfl, hx, hi, sta_is al S, hz, sta_is al F, rf⟩
  exact ⟨v, B, X', ⟨[], ⟨hv, rfl, hh⟩, hl, hk, hs⟩, st⟩
/-- what backV says of its String, as the contracts of this text ask it: cs's low bytes, coder 0 -/
theorem codOf {cs : List Int32} {n : Nat} (hn : cs.length = n) (hb : ∀ c ∈ cs, ¬ 255 < c) : CodA cs 0 (Int32.ofNat n) ((cs.map lo8).map Value.int) := Or.inl ⟨rfl, by rw [hn], by simp [List.map_map, Function.comp_def], hb⟩
end StrChars.Road
end Jvm.Pilot.@@N@@
namespace Jvm.Pilot.@@N@@
open Jvm Jvm.ClassFile Sem Op Lib Jvm.Free Jvm.Stand Jvm.LawKit Jvm.RoadKit Bundle Jvm.Pilot.@@N@@.Jvm.D
/-! A walk in continuation form over the library's Stand (one rule an instruction; the state T, the tables, the written places and the start's tables are hidden in Wk). -/
abbrev Cx : Type := Program × Launch × Env × Room × State × MethodId × Array Value × List Frame × Method × Code × Bool × (Option Value → Heap → Prop)
/-- what is known of the tables at hand: Cln: the start's own (nothing interned so far); Dty: nothing -/
abbrev Ph : Type := State → Vm → Prop
def Cln : Ph := fun s v => v = s.vm
def Dty : Ph := fun _ _ => True
def PhA : Bool → Ph → Ph
  | false, ph => ph
  | true, _ => Dty
abbrev Els : Type := List (String × Nat)
theorem chv_nil {Z : State} {vm : Vm} {h : Heap} : CHv Z [] vm h := fun p hp => by cases hp
def Cx.me (K : Cx) : MethodId := K.2.2.2.2.2.1
def EndW : Bool → State → Outcome → State → List Loc → Nat → Nat → Prop
  | false, s, o, t, L, k, n => FrameEnd s o t L k n
  | true, s, o, t, L, k, n => ReturnedEndW s o t L k n
def Pst (Z : State) (n : Nat) (Q : Option Value → Heap → Prop) (v : Option Value) (h : Heap) (L : List Loc) : Prop := Q v h ∧ Fr Z.heap.size L ∧ Ext Z.heap h ∧ n ≤ h.size
def rV (Q : Value → Heap → Prop) (v : Option Value) (h : Heap) : Prop := ∃ x, v = some x ∧ Q x h
def rU (Q : Heap → Prop) (v : Option Value) (h : Heap) : Prop := v = none ∧ Q h
def Wk (Z : State) : Cx → Ph → State → Heap → Nat → Nat → Prop
  | (p, l, e, R, s, m, args, below, meth, c, w, Q), ph, T, h, n1, n2 => ∃ vm0 k0 locs, Stand p l e R (s.setVm vm0) m args below meth c T locs n1 n2 ∧ s.Since vm0 k0 ∧ k0 ≤ T.heap.size ∧ Z.Warmed39 vm0 ∧ Fr Z.heap.size locs ∧ T.heap = h ∧ ph s vm0
def Go (Z : State) : Cx → State → Prop
  | (p, l, e, R, s, m, args, below, meth, c, w, Q), st => ∃ s₂ o, Steps p.tables e below st s₂ ∧ s₂.status = .running ∧ Ended s₂ below o ∧ ∃ v L, o = .returned v ∧ Pst Z s.heap.size Q v s₂.heap L ∧ EndW w s o s₂ L R.cells R.slots
def Run (Z : State) (K : Cx) (ph : Ph) (h : Heap) (n1 n2 pc : Nat) (ls : Array Slot) (st : List Value) : Prop := ∀ T, Ext Z.heap h → Wk Z K ph T h n1 n2 → Go Z K (T.setTop (mkF K.me pc ls st))
def Ok (Z : State) : Cx → Els → String → ByteArray → Nat → Option FieldType → String → Room → Launch → Bool → (Option Value → Heap → Prop) → Prop
  | (p, l, e, R, s, m, args, below, meth, c, w, Q), EL, own, code, maxL, ret, nm, R0, l0, w0, Q0 => p.tables.exec = Jvm.exec ∧ c.code = code ∧ c.maxLocals = maxL ∧ (∀ vm0, Z.Warmed39 vm0 → vm0.findClass own = some m.cls) ∧ meth.sig.returnType = ret ∧ meth.locks = false ∧ meth.name = nm ∧ R = R0 ∧ l = l0 ∧ w = w0 ∧ Q = Q0 ∧ CHv Z EL s.vm Z.heap
def Con (l : Launch) (Z : State) (EL : Els) (ws : List Jvm.Cond) (w : Bool) (y : MethodName) (bytes : ByteArray) (maxL : Nat) (ret : Option FieldType) (R : Room) (as : Array Value) (h0 : Heap) (Q : Option Value → Heap → Prop) : Prop :=
  Ext Z.heap h0 → MetFree l y (head1 (Jvm.Cond.code y bytes maxL ret :: ws) R) (fun a U => a = as ∧ Z.Warmed39 U.vm ∧ U.heap = h0 ∧ CHv Z EL U.vm Z.heap) (fun _ _ _ _ _ => True) (fun _ U o U' => ∃ v L, o = .returned v ∧ Pst Z h0.size Q v U'.heap L ∧ EndW w U o U' L R.cells R.slots)
def Pay (Z : State) (EL : Els) : Bool → Launch → Room → MethodName → Nat → Nat → Array Value → Heap → Nat → Nat → (Option Value → Heap → Prop) → Prop
  | false, l, R, y, len, W, as, h, k, n, Q => ∀ (p : Program) (e : Env) (below : List Frame) (s : State) (args : Array Value), Z.Warmed39 s.vm → CHv Z EL s.vm Z.heap → Ext Z.heap h →
      Back l R p e below s args y len W (fun A a => a = as ∧ A.U.heap = h ∧ A.cells + k ≤ R.cells ∧ A.slots + n ≤ R.slots) (fun A _ v B => ∃ L, Pst Z h.size Q v B.U.heap L ∧ B.locs = A.locs ++ L ∧ B.cells = A.cells + k ∧ B.slots = A.slots + n)
  | true, l, R, y, len, W, as, h, k, n, Q => ∀ (p : Program) (e : Env) (below : List Frame) (s : State) (args : Array Value), Z.Warmed39 s.vm → CHv Z EL s.vm Z.heap → Ext Z.heap h →
      BackS l R p e below s args y len W (fun A a => a = as ∧ A.U.heap = h ∧ A.cells + k ≤ R.cells ∧ A.slots + n ≤ R.slots) (fun A _ v B => ∃ L, Pst Z h.size Q v B.U.heap L ∧ B.locs = A.locs ++ L ∧ B.cells = A.cells + k ∧ B.slots = A.slots + n)
section Walk
variable {Z : State} {K : Cx} {EL : Els} {ph : Ph} {own : String} {code : ByteArray} {maxL : Nat} {ret : Option FieldType} {nm : String} {R : Room} {l : Launch} {w : Bool} {Q : Option Value → Heap → Prop} {h : Heap} {n1 n2 pc pc' pcY : Nat} {ls ls' : Array Slot} {st st' : List Value} {a0 : Array Value}
theorem rS (ok : Ok Z K EL own code maxL ret nm R l w Q) (hr : Run Z K ph h n1 n2 pc' ls' st')
    (f : ∀ (p : Program) (e : Env) (below : List Frame) (m : MethodId) (c : Code) (T : State), At T m c below → p.tables.exec = Jvm.exec → c.code = code → ∀ t, Steps p.tables e below (T.setTop (mkF m pc' ls' st')) t → Steps p.tables e below (T.setTop (mkF m pc ls st)) t) : Run Z K ph h n1 n2 pc ls st := by
  obtain ⟨p, l1, e, R1, s, m, args, below, meth, c, w1, Q1⟩ := K
  obtain ⟨hx, hby, -⟩ := ok
  intro T X W
  obtain ⟨s₂, o, h1, r⟩ := hr T X W
  obtain ⟨vm0, k0, locs, S, -⟩ := W
  exact ⟨s₂, o, f p e below m c T S.here hx hby _ h1, r⟩
theorem rX (ok : Ok Z K EL own code maxL ret nm R l w Q) (hr : Run Z K ph h n1 n2 pc' ls' st')
    (f : ∀ (p : Program) (e : Env) (s : State) (m : MethodId) (args : Array Value) (below : List Frame) (meth : Method) (c : Code) (T : State) (locs : List Loc), Stand p l e R s m args below meth c T locs n1 n2 → p.tables.exec = Jvm.exec → c.code = code → Z.Warmed39 s.vm → s.vm.findClass own = some m.cls → T.heap = h →
      ∀ t, Steps p.tables e below (T.setTop (mkF m pc' ls' st')) t → Steps p.tables e below (T.setTop (mkF m pc ls st)) t) : Run Z K ph h n1 n2 pc ls st := by
  obtain ⟨p, l1, e, R1, s, m, args, below, meth, c, w1, Q1⟩ := K
  obtain ⟨hx, hby, -, ho, -, -, -, rfl, rfl, -⟩ := ok
  intro T X W
  obtain ⟨s₂, o, h1, r⟩ := hr T X W
  obtain ⟨vm0, k0, locs, S, -, -, hZ, -, eT, -⟩ := W
  exact ⟨s₂, o, f p e (s.setVm vm0) m args below meth c T locs S hx hby hZ (ho vm0 hZ) eT _ h1, r⟩
theorem rH (ok : Ok Z K EL own code maxL ret nm R l w Q) {P : Heap → Prop} {m1 m2 : Nat}
    (f : ∀ (p : Program) (e : Env) (s : State) (m : MethodId) (args : Array Value) (below : List Frame) (meth : Method) (c : Code) (T : State) (locs : List Loc), Stand p l e R s m args below meth c T locs n1 n2 → p.tables.exec = Jvm.exec → c.code = code → c.maxLocals = maxL → Z.Warmed39 s.vm → s.vm.findClass own = some m.cls → meth.name = nm → T.heap = h → Ext Z.heap h →
      ∃ T' h' L, Stand p l e R s m args below meth c T' (locs ++ L) m1 m2 ∧ T'.heap = h' ∧ Fr Z.heap.size L ∧ h.size ≤ h'.size ∧ Ext Z.heap h' ∧ P h' ∧ ∀ t, Steps p.tables e below (T'.setTop (mkF m pc' ls' st')) t → Steps p.tables e below (T.setTop (mkF m pc ls st)) t)
    (hr : ∀ h', P h' → Run Z K ph h' m1 m2 pc' ls' st') : Run Z K ph h n1 n2 pc ls st := by
  obtain ⟨p, l1, e, R1, s, m, args, below, meth, c, w1, Q1⟩ := K
  obtain ⟨hx, hby, hml, ho, hret, hlk, hnm, rfl, rfl, rfl, rfl, hCH⟩ := ok
  intro T X W
  obtain ⟨vm0, k0, locs, S, hS, hk, hZ, hF, eT, hw⟩ := W
  obtain ⟨T', h', L, S', eT', hL, hle, hX', hP, hst⟩ := f p e (s.setVm vm0) m args below meth c T locs S hx hby hml hZ (ho vm0 hZ) hnm eT X
  obtain ⟨s₂, o, h1, r⟩ := hr h' hP T' hX' ⟨vm0, k0, locs ++ L, S', hS, by rw [eT']; rw [eT] at hk; exact Nat.le_trans hk hle, hZ, hF.app hL, eT', hw⟩
  exact ⟨s₂, o, hst _ h1, r⟩
theorem r_old (f : Ext Z.heap h → Run Z K ph h n1 n2 pc ls st) : Run Z K ph h n1 n2 pc ls st := fun T X W => f X T X W
theorem r_more {m1 m2 : Nat} (hc : n1 ≤ m1) (hn : n2 ≤ m2) (hr : Run Z K ph h m1 m2 pc ls st) : Run Z K ph h n1 n2 pc ls st := by
  obtain ⟨p, l1, e, R1, s, m, args, below, meth, c, w1, Q1⟩ := K
  intro T X W
  obtain ⟨vm0, k0, locs, S, r⟩ := W
  exact hr T X ⟨vm0, k0, locs, S.more hc hn, r⟩

theorem r_iadd (ok : Ok Z K EL own code maxL ret nm R l w Q) (hp : pc + 1 = pc') {x y : Int32} (hd : decode code pc = .ok (.iadd, 1)) (hr : Run Z K ph h n1 n2 pc' ls (.int (x + y) :: st)) : Run Z K ph h n1 n2 pc ls (.int y :: .int x :: st) := by
  subst hp; exact rS ok hr fun p e below m c T A hx hby t => XS.iadd (g := mkF m pc ls (.int y :: .int x :: st)) A hx rfl (hb hby hd) rfl
theorem r_isub (ok : Ok Z K EL own code maxL ret nm R l w Q) (hp : pc + 1 = pc') {x y : Int32} (hd : decode code pc = .ok (.isub, 1)) (hr : Run Z K ph h n1 n2 pc' ls (.int (x - y) :: st)) : Run Z K ph h n1 n2 pc ls (.int y :: .int x :: st) := by
  subst hp; exact rS ok hr fun p e below m c T A hx hby t => XS.isub (g := mkF m pc ls (.int y :: .int x :: st)) A hx rfl (hb hby hd) rfl
theorem r_imul (ok : Ok Z K EL own code maxL ret nm R l w Q) (hp : pc + 1 = pc') {x y : Int32} (hd : decode code pc = .ok (.imul, 1)) (hr : Run Z K ph h n1 n2 pc' ls (.int (x * y) :: st)) : Run Z K ph h n1 n2 pc ls (.int y :: .int x :: st) := by
  subst hp; exact rS ok hr fun p e below m c T A hx hby t => XS.imul (g := mkF m pc ls (.int y :: .int x :: st)) A hx rfl (hb hby hd) rfl
theorem r_iand (ok : Ok Z K EL own code maxL ret nm R l w Q) (hp : pc + 1 = pc') {x y : Int32} (hd : decode code pc = .ok (.iand, 1)) (hr : Run Z K ph h n1 n2 pc' ls (.int (x &&& y) :: st)) : Run Z K ph h n1 n2 pc ls (.int y :: .int x :: st) := by
  subst hp; exact rS ok hr fun p e below m c T A hx hby t => XS.iand (g := mkF m pc ls (.int y :: .int x :: st)) A hx rfl (hb hby hd) rfl
theorem r_ior (ok : Ok Z K EL own code maxL ret nm R l w Q) (hp : pc + 1 = pc') {x y : Int32} (hd : decode code pc = .ok (.ior, 1)) (hr : Run Z K ph h n1 n2 pc' ls (.int (x ||| y) :: st)) : Run Z K ph h n1 n2 pc ls (.int y :: .int x :: st) := by
  subst hp; exact rS ok hr fun p e below m c T A hx hby t => XS.ior (g := mkF m pc ls (.int y :: .int x :: st)) A hx rfl (hb hby hd) rfl
theorem r_ixor (ok : Ok Z K EL own code maxL ret nm R l w Q) (hp : pc + 1 = pc') {x y : Int32} (hd : decode code pc = .ok (.ixor, 1)) (hr : Run Z K ph h n1 n2 pc' ls (.int (x ^^^ y) :: st)) : Run Z K ph h n1 n2 pc ls (.int y :: .int x :: st) := by
  subst hp; exact rS ok hr fun p e below m c T A hx hby t => XS.ixor (g := mkF m pc ls (.int y :: .int x :: st)) A hx rfl (hb hby hd) rfl
theorem r_ishl (ok : Ok Z K EL own code maxL ret nm R l w Q) (hp : pc + 1 = pc') {x y : Int32} (hd : decode code pc = .ok (.ishl, 1)) (hr : Run Z K ph h n1 n2 pc' ls (.int (x <<< (y &&& 31)) :: st)) : Run Z K ph h n1 n2 pc ls (.int y :: .int x :: st) := by
  subst hp; exact rS ok hr fun p e below m c T A hx hby t => XS.ishl (g := mkF m pc ls (.int y :: .int x :: st)) A hx rfl (hb hby hd) rfl
theorem r_ishr (ok : Ok Z K EL own code maxL ret nm R l w Q) (hp : pc + 1 = pc') {x y : Int32} (hd : decode code pc = .ok (.ishr, 1)) (hr : Run Z K ph h n1 n2 pc' ls (.int (x >>> (y &&& 31)) :: st)) : Run Z K ph h n1 n2 pc ls (.int y :: .int x :: st) := by
  subst hp; exact rS ok hr fun p e below m c T A hx hby t => XS.ishr (g := mkF m pc ls (.int y :: .int x :: st)) A hx rfl (hb hby hd) rfl
theorem r_iushr (ok : Ok Z K EL own code maxL ret nm R l w Q) (hp : pc + 1 = pc') {x y : Int32} (hd : decode code pc = .ok (.iushr, 1)) (hr : Run Z K ph h n1 n2 pc' ls (.int ((x.toUInt32 >>> (y &&& 31).toUInt32).toInt32) :: st)) : Run Z K ph h n1 n2 pc ls (.int y :: .int x :: st) := by
  subst hp; exact rS ok hr fun p e below m c T A hx hby t => XS.iushr (g := mkF m pc ls (.int y :: .int x :: st)) A hx rfl (hb hby hd) rfl
theorem r_ladd (ok : Ok Z K EL own code maxL ret nm R l w Q) (hp : pc + 1 = pc') {x y : Int64} (hd : decode code pc = .ok (.ladd, 1)) (hr : Run Z K ph h n1 n2 pc' ls (.long (x + y) :: st)) : Run Z K ph h n1 n2 pc ls (.long y :: .long x :: st) := by
  subst hp; exact rS ok hr fun p e below m c T A hx hby t => XS.ladd (g := mkF m pc ls (.long y :: .long x :: st)) A hx rfl (hb hby hd) rfl
theorem r_lsub (ok : Ok Z K EL own code maxL ret nm R l w Q) (hp : pc + 1 = pc') {x y : Int64} (hd : decode code pc = .ok (.lsub, 1)) (hr : Run Z K ph h n1 n2 pc' ls (.long (x - y) :: st)) : Run Z K ph h n1 n2 pc ls (.long y :: .long x :: st) := by
  subst hp; exact rS ok hr fun p e below m c T A hx hby t => XS.lsub (g := mkF m pc ls (.long y :: .long x :: st)) A hx rfl (hb hby hd) rfl
theorem r_lmul (ok : Ok Z K EL own code maxL ret nm R l w Q) (hp : pc + 1 = pc') {x y : Int64} (hd : decode code pc = .ok (.lmul, 1)) (hr : Run Z K ph h n1 n2 pc' ls (.long (x * y) :: st)) : Run Z K ph h n1 n2 pc ls (.long y :: .long x :: st) := by
  subst hp; exact rS ok hr fun p e below m c T A hx hby t => XS.lmul (g := mkF m pc ls (.long y :: .long x :: st)) A hx rfl (hb hby hd) rfl
theorem r_land (ok : Ok Z K EL own code maxL ret nm R l w Q) (hp : pc + 1 = pc') {x y : Int64} (hd : decode code pc = .ok (.land, 1)) (hr : Run Z K ph h n1 n2 pc' ls (.long (x &&& y) :: st)) : Run Z K ph h n1 n2 pc ls (.long y :: .long x :: st) := by
  subst hp; exact rS ok hr fun p e below m c T A hx hby t => XS.land (g := mkF m pc ls (.long y :: .long x :: st)) A hx rfl (hb hby hd) rfl
theorem r_lor (ok : Ok Z K EL own code maxL ret nm R l w Q) (hp : pc + 1 = pc') {x y : Int64} (hd : decode code pc = .ok (.lor, 1)) (hr : Run Z K ph h n1 n2 pc' ls (.long (x ||| y) :: st)) : Run Z K ph h n1 n2 pc ls (.long y :: .long x :: st) := by
  subst hp; exact rS ok hr fun p e below m c T A hx hby t => XS.lor (g := mkF m pc ls (.long y :: .long x :: st)) A hx rfl (hb hby hd) rfl
theorem r_lxor (ok : Ok Z K EL own code maxL ret nm R l w Q) (hp : pc + 1 = pc') {x y : Int64} (hd : decode code pc = .ok (.lxor, 1)) (hr : Run Z K ph h n1 n2 pc' ls (.long (x ^^^ y) :: st)) : Run Z K ph h n1 n2 pc ls (.long y :: .long x :: st) := by
  subst hp; exact rS ok hr fun p e below m c T A hx hby t => XS.lxor (g := mkF m pc ls (.long y :: .long x :: st)) A hx rfl (hb hby hd) rfl
theorem r_lshl (ok : Ok Z K EL own code maxL ret nm R l w Q) (hp : pc + 1 = pc') {x : Int64} {y : Int32} (hd : decode code pc = .ok (.lshl, 1)) (hr : Run Z K ph h n1 n2 pc' ls (.long (x <<< (y &&& 0x3f).toInt64) :: st)) : Run Z K ph h n1 n2 pc ls (.int y :: .long x :: st) := by
  subst hp; exact rS ok hr fun p e below m c T A hx hby t => XS.lshl (g := mkF m pc ls (.int y :: .long x :: st)) A hx rfl (hb hby hd) rfl
theorem r_lshr (ok : Ok Z K EL own code maxL ret nm R l w Q) (hp : pc + 1 = pc') {x : Int64} {y : Int32} (hd : decode code pc = .ok (.lshr, 1)) (hr : Run Z K ph h n1 n2 pc' ls (.long (x >>> (y &&& 0x3f).toInt64) :: st)) : Run Z K ph h n1 n2 pc ls (.int y :: .long x :: st) := by
  subst hp; exact rS ok hr fun p e below m c T A hx hby t => XS.lshr (g := mkF m pc ls (.int y :: .long x :: st)) A hx rfl (hb hby hd) rfl
theorem r_lushr (ok : Ok Z K EL own code maxL ret nm R l w Q) (hp : pc + 1 = pc') {x : Int64} {y : Int32} (hd : decode code pc = .ok (.lushr, 1)) (hr : Run Z K ph h n1 n2 pc' ls (.long ((x.toUInt64 >>> (y &&& 0x3f).toInt64.toUInt64).toInt64) :: st)) : Run Z K ph h n1 n2 pc ls (.int y :: .long x :: st) := by
  subst hp; exact rS ok hr fun p e below m c T A hx hby t => XS.lushr (g := mkF m pc ls (.int y :: .long x :: st)) A hx rfl (hb hby hd) rfl
theorem r_ineg (ok : Ok Z K EL own code maxL ret nm R l w Q) (hp : pc + 1 = pc') {x : Int32} (hd : decode code pc = .ok (.ineg, 1)) (hr : Run Z K ph h n1 n2 pc' ls (.int (-x) :: st)) : Run Z K ph h n1 n2 pc ls (.int x :: st) := by
  subst hp; exact rS ok hr fun p e below m c T A hx hby t => XS.ineg (g := mkF m pc ls (.int x :: st)) A hx rfl (hb hby hd) rfl
theorem r_lneg (ok : Ok Z K EL own code maxL ret nm R l w Q) (hp : pc + 1 = pc') {x : Int64} (hd : decode code pc = .ok (.lneg, 1)) (hr : Run Z K ph h n1 n2 pc' ls (.long (-x) :: st)) : Run Z K ph h n1 n2 pc ls (.long x :: st) := by
  subst hp; exact rS ok hr fun p e below m c T A hx hby t => XS.lneg (g := mkF m pc ls (.long x :: st)) A hx rfl (hb hby hd) rfl
theorem r_i2l (ok : Ok Z K EL own code maxL ret nm R l w Q) (hp : pc + 1 = pc') {x : Int32} (hd : decode code pc = .ok (.i2l, 1)) (hr : Run Z K ph h n1 n2 pc' ls (.long (x.toInt64) :: st)) : Run Z K ph h n1 n2 pc ls (.int x :: st) := by
  subst hp; exact rS ok hr fun p e below m c T A hx hby t => XS.i2l (g := mkF m pc ls (.int x :: st)) A hx rfl (hb hby hd) rfl
theorem r_l2i (ok : Ok Z K EL own code maxL ret nm R l w Q) (hp : pc + 1 = pc') {x : Int64} (hd : decode code pc = .ok (.l2i, 1)) (hr : Run Z K ph h n1 n2 pc' ls (.int (x.toInt32) :: st)) : Run Z K ph h n1 n2 pc ls (.long x :: st) := by
  subst hp; exact rS ok hr fun p e below m c T A hx hby t => XS.l2i (g := mkF m pc ls (.long x :: st)) A hx rfl (hb hby hd) rfl
theorem r_i2b (ok : Ok Z K EL own code maxL ret nm R l w Q) (hp : pc + 1 = pc') {x : Int32} (hd : decode code pc = .ok (.i2b, 1)) (hr : Run Z K ph h n1 n2 pc' ls (.int (x.toInt8.toInt32) :: st)) : Run Z K ph h n1 n2 pc ls (.int x :: st) := by
  subst hp; exact rS ok hr fun p e below m c T A hx hby t => XS.i2b (g := mkF m pc ls (.int x :: st)) A hx rfl (hb hby hd) rfl
theorem r_i2s (ok : Ok Z K EL own code maxL ret nm R l w Q) (hp : pc + 1 = pc') {x : Int32} (hd : decode code pc = .ok (.i2s, 1)) (hr : Run Z K ph h n1 n2 pc' ls (.int (x.toInt16.toInt32) :: st)) : Run Z K ph h n1 n2 pc ls (.int x :: st) := by
  subst hp; exact rS ok hr fun p e below m c T A hx hby t => XS.i2s (g := mkF m pc ls (.int x :: st)) A hx rfl (hb hby hd) rfl
theorem r_i2c (ok : Ok Z K EL own code maxL ret nm R l w Q) (hp : pc + 1 = pc') {x : Int32} (hd : decode code pc = .ok (.i2c, 1)) (hr : Run Z K ph h n1 n2 pc' ls (.int (x.toUInt32.toUInt16.toUInt32.toInt32) :: st)) : Run Z K ph h n1 n2 pc ls (.int x :: st) := by
  subst hp; exact rS ok hr fun p e below m c T A hx hby t => XS.i2c (g := mkF m pc ls (.int x :: st)) A hx rfl (hb hby hd) rfl
theorem r_iload (ok : Ok Z K EL own code maxL ret nm R l w Q) (hp : pc + 2 = pc') {k : Nat} {v : Int32} (hd : decode code pc = .ok (.iload k, 2)) (hl : ls[k]? = some (.val (.int v))) (hr : Run Z K ph h n1 n2 pc' ls (.int v :: st)) : Run Z K ph h n1 n2 pc ls st := by
  subst hp; exact rS ok hr fun p e below m c T A hx hby t => XS.iload (g := mkF m pc ls st) A hx rfl (hb hby hd) hl
theorem r_iloadN (ok : Ok Z K EL own code maxL ret nm R l w Q) (hp : pc + 1 = pc') {k : Fin 4} {v : Int32} (hd : decode code pc = .ok (.iload_n k, 1)) (hl : ls[k.val]? = some (.val (.int v))) (hr : Run Z K ph h n1 n2 pc' ls (.int v :: st)) : Run Z K ph h n1 n2 pc ls st := by
  subst hp; exact rS ok hr fun p e below m c T A hx hby t => XS.iloadN (g := mkF m pc ls st) A hx rfl (hb hby hd) hl
theorem r_istore (ok : Ok Z K EL own code maxL ret nm R l w Q) (hp : pc + 2 = pc') {x : Int32} {k : Nat} {ls' : Int32 → Array Slot} (hd : decode code pc = .ok (.istore k, 2)) (hl : ∀ z, storeLocals ls k (.int z) = some (ls' z)) (hr : ∀ z, z = x → Run Z K ph h n1 n2 pc' (ls' z) st) : Run Z K ph h n1 n2 pc ls (.int x :: st) := by
  subst hp; exact rS ok (hr x rfl) fun p e below m c T A hx hby t => XS.istore (g := mkF m pc ls (.int x :: st)) A hx rfl (hb hby hd) rfl (hl x)
theorem r_istoreN (ok : Ok Z K EL own code maxL ret nm R l w Q) (hp : pc + 1 = pc') {x : Int32} {k : Fin 4} {ls' : Int32 → Array Slot} (hd : decode code pc = .ok (.istore_n k, 1)) (hl : ∀ z, storeLocals ls k.val (.int z) = some (ls' z)) (hr : ∀ z, z = x → Run Z K ph h n1 n2 pc' (ls' z) st) : Run Z K ph h n1 n2 pc ls (.int x :: st) := by
  subst hp; exact rS ok (hr x rfl) fun p e below m c T A hx hby t => XS.istoreN (g := mkF m pc ls (.int x :: st)) A hx rfl (hb hby hd) rfl (hl x)
theorem r_lload (ok : Ok Z K EL own code maxL ret nm R l w Q) (hp : pc + 2 = pc') {k : Nat} {v : Int64} (hd : decode code pc = .ok (.lload k, 2)) (hl : ls[k]? = some (.val (.long v))) (hr : Run Z K ph h n1 n2 pc' ls (.long v :: st)) : Run Z K ph h n1 n2 pc ls st := by
  subst hp; exact rS ok hr fun p e below m c T A hx hby t => XS.lload (g := mkF m pc ls st) A hx rfl (hb hby hd) hl
theorem r_lloadN (ok : Ok Z K EL own code maxL ret nm R l w Q) (hp : pc + 1 = pc') {k : Fin 4} {v : Int64} (hd : decode code pc = .ok (.lload_n k, 1)) (hl : ls[k.val]? = some (.val (.long v))) (hr : Run Z K ph h n1 n2 pc' ls (.long v :: st)) : Run Z K ph h n1 n2 pc ls st := by
  subst hp; exact rS ok hr fun p e below m c T A hx hby t => XS.lloadN (g := mkF m pc ls st) A hx rfl (hb hby hd) hl
theorem r_lstore (ok : Ok Z K EL own code maxL ret nm R l w Q) (hp : pc + 2 = pc') {x : Int64} {k : Nat} {ls' : Int64 → Array Slot} (hd : decode code pc = .ok (.lstore k, 2)) (hl : ∀ z, storeLocals ls k (.long z) = some (ls' z)) (hr : ∀ z, z = x → Run Z K ph h n1 n2 pc' (ls' z) st) : Run Z K ph h n1 n2 pc ls (.long x :: st) := by
  subst hp; exact rS ok (hr x rfl) fun p e below m c T A hx hby t => XS.lstore (g := mkF m pc ls (.long x :: st)) A hx rfl (hb hby hd) rfl (hl x)
theorem r_lstoreN (ok : Ok Z K EL own code maxL ret nm R l w Q) (hp : pc + 1 = pc') {x : Int64} {k : Fin 4} {ls' : Int64 → Array Slot} (hd : decode code pc = .ok (.lstore_n k, 1)) (hl : ∀ z, storeLocals ls k.val (.long z) = some (ls' z)) (hr : ∀ z, z = x → Run Z K ph h n1 n2 pc' (ls' z) st) : Run Z K ph h n1 n2 pc ls (.long x :: st) := by
  subst hp; exact rS ok (hr x rfl) fun p e below m c T A hx hby t => XS.lstoreN (g := mkF m pc ls (.long x :: st)) A hx rfl (hb hby hd) rfl (hl x)
theorem r_astore (ok : Ok Z K EL own code maxL ret nm R l w Q) (hp : pc + 2 = pc') {x : Value} {k : Nat} {ls' : Array Slot} (hd : decode code pc = .ok (.astore k, 2)) (hv : x.isRef = true) (hl : storeLocals ls k x = some ls') (hr : Run Z K ph h n1 n2 pc' ls' st) : Run Z K ph h n1 n2 pc ls (x :: st) := by
  subst hp; exact rS ok hr fun p e below m c T A hx hby t => XS.astore (g := mkF m pc ls (x :: st)) A hx rfl (hb hby hd) rfl hv hl
theorem r_aload (ok : Ok Z K EL own code maxL ret nm R l w Q) (hp : pc + 2 = pc') {v : Value} {k : Nat} (hd : decode code pc = .ok (.aload k, 2)) (hl : ls[k]? = some (.val v)) (hv : v.isRef = true) (hr : Run Z K ph h n1 n2 pc' ls (v :: st)) : Run Z K ph h n1 n2 pc ls st := by
  subst hp; exact rS ok hr fun p e below m c T A hx hby t => XS.aload (g := mkF m pc ls st) A hx rfl (hb hby hd) hl hv
theorem r_astoreN (ok : Ok Z K EL own code maxL ret nm R l w Q) (hp : pc + 1 = pc') {x : Value} {k : Fin 4} {ls' : Array Slot} (hd : decode code pc = .ok (.astore_n k, 1)) (hv : x.isRef = true) (hl : storeLocals ls k.val x = some ls') (hr : Run Z K ph h n1 n2 pc' ls' st) : Run Z K ph h n1 n2 pc ls (x :: st) := by
  subst hp; exact rS ok hr fun p e below m c T A hx hby t => XS.astoreN (g := mkF m pc ls (x :: st)) A hx rfl (hb hby hd) rfl hv hl
theorem r_aloadN (ok : Ok Z K EL own code maxL ret nm R l w Q) (hp : pc + 1 = pc') {v : Value} {k : Fin 4} (hd : decode code pc = .ok (.aload_n k, 1)) (hl : ls[k.val]? = some (.val v)) (hv : v.isRef = true) (hr : Run Z K ph h n1 n2 pc' ls (v :: st)) : Run Z K ph h n1 n2 pc ls st := by
  subst hp; exact rS ok hr fun p e below m c T A hx hby t => XS.aloadN (g := mkF m pc ls st) A hx rfl (hb hby hd) hl hv
theorem r_iconst (ok : Ok Z K EL own code maxL ret nm R l w Q) (hp : pc + 1 = pc') {i : Int} (hd : decode code pc = .ok (.iconst i, 1)) (hr : Run Z K ph h n1 n2 pc' ls (.int (Int32.ofInt i) :: st)) : Run Z K ph h n1 n2 pc ls st := by
  subst hp; exact rS ok hr fun p e below m c T A hx hby t => XS.iconst (g := mkF m pc ls st) A hx rfl (hb hby hd)
theorem r_bipush (ok : Ok Z K EL own code maxL ret nm R l w Q) (hp : pc + 2 = pc') {i : Int} (hd : decode code pc = .ok (.bipush i, 2)) (hr : Run Z K ph h n1 n2 pc' ls (.int (Int8.ofInt i).toInt32 :: st)) : Run Z K ph h n1 n2 pc ls st := by
  subst hp; exact rS ok hr fun p e below m c T A hx hby t => XS.bipush (g := mkF m pc ls st) A hx rfl (hb hby hd)
theorem r_iconstV (ok : Ok Z K EL own code maxL ret nm R l w Q) (hp : pc + 1 = pc') (v : Int32) {i : Int} (hd : decode code pc = .ok (.iconst i, 1)) (hv : Int32.ofInt i = v) (hr : Run Z K ph h n1 n2 pc' ls (.int v :: st)) : Run Z K ph h n1 n2 pc ls st := by
  subst hp hv; exact rS ok hr fun p e below m c T A hx hby t => XS.iconst (g := mkF m pc ls st) A hx rfl (hb hby hd)
theorem r_bipushV (ok : Ok Z K EL own code maxL ret nm R l w Q) (hp : pc + 2 = pc') (v : Int32) {i : Int} (hd : decode code pc = .ok (.bipush i, 2)) (hv : (Int8.ofInt i).toInt32 = v) (hr : Run Z K ph h n1 n2 pc' ls (.int v :: st)) : Run Z K ph h n1 n2 pc ls st := by
  subst hp hv; exact rS ok hr fun p e below m c T A hx hby t => XS.bipush (g := mkF m pc ls st) A hx rfl (hb hby hd)
theorem r_sipushV (ok : Ok Z K EL own code maxL ret nm R l w Q) (hp : pc + 3 = pc') (v : Int32) {i : Int} (hd : decode code pc = .ok (.sipush i, 3)) (hv : (Int16.ofInt i).toInt32 = v) (hr : Run Z K ph h n1 n2 pc' ls (.int v :: st)) : Run Z K ph h n1 n2 pc ls st := by
  subst hp hv; exact rS ok hr fun p e below m c T A hx hby t => XS.sipush (g := mkF m pc ls st) A hx rfl (hb hby hd)
theorem r_lconst (ok : Ok Z K EL own code maxL ret nm R l w Q) (hp : pc + 1 = pc') (v : Int64) {k : Fin 2} (hd : decode code pc = .ok (.lconst k, 1)) (hv : (k.val : Nat).toInt64 = v) (hr : Run Z K ph h n1 n2 pc' ls (.long v :: st)) : Run Z K ph h n1 n2 pc ls st := by
  subst hp hv; exact rS ok hr fun p e below m c T A hx hby t => XS.lconst (g := mkF m pc ls st) A hx rfl (hb hby hd)
theorem r_aconst_null (ok : Ok Z K EL own code maxL ret nm R l w Q) (hp : pc + 1 = pc') (hd : decode code pc = .ok (.aconst_null, 1)) (hr : Run Z K ph h n1 n2 pc' ls (.null :: st)) : Run Z K ph h n1 n2 pc ls st := by
  subst hp; exact rS ok hr fun p e below m c T A hx hby t => XS.aconstNull (g := mkF m pc ls st) A hx rfl (hb hby hd)
theorem r_dup (ok : Ok Z K EL own code maxL ret nm R l w Q) (hp : pc + 1 = pc') {x : Value} (hd : decode code pc = .ok (.dup, 1)) (hc : x.category = 1) (hr : Run Z K ph h n1 n2 pc' ls (x :: x :: st)) : Run Z K ph h n1 n2 pc ls (x :: st) := by
  subst hp; exact rS ok hr fun p e below m c T A hx hby t => XS.dup (g := mkF m pc ls (x :: st)) A hx rfl (hb hby hd) rfl hc
theorem r_dup_x1 (ok : Ok Z K EL own code maxL ret nm R l w Q) (hp : pc + 1 = pc') {x y : Value} (hd : decode code pc = .ok (.dup_x1, 1)) (hc : x.category = 1) (hc' : y.category = 1) (hr : Run Z K ph h n1 n2 pc' ls (x :: y :: x :: st)) : Run Z K ph h n1 n2 pc ls (x :: y :: st) := by
  subst hp; exact rS ok hr fun p e below m c T A hx hby t => XS.dupX1 (g := mkF m pc ls (x :: y :: st)) A hx rfl (hb hby hd) rfl hc hc'
theorem r_dup2 (ok : Ok Z K EL own code maxL ret nm R l w Q) (hp : pc + 1 = pc') {x y : Value} (hd : decode code pc = .ok (.dup2, 1)) (hc : x.category = 1) (hc' : y.category = 1) (hr : Run Z K ph h n1 n2 pc' ls (x :: y :: x :: y :: st)) : Run Z K ph h n1 n2 pc ls (x :: y :: st) := by
  subst hp; exact rS ok hr fun p e below m c T A hx hby t => XT.dup2 (g := mkF m pc ls (x :: y :: st)) A hx rfl (hb hby hd) rfl hc hc'
theorem r_dup2L (ok : Ok Z K EL own code maxL ret nm R l w Q) (hp : pc + 1 = pc') {x : Int64} (hd : decode code pc = .ok (.dup2, 1)) (hr : Run Z K ph h n1 n2 pc' ls (.long x :: .long x :: st)) : Run Z K ph h n1 n2 pc ls (.long x :: st) := by
  subst hp; exact rS ok hr fun p e below m c T A hx hby t => XT.dup2L (g := mkF m pc ls (.long x :: st)) A hx rfl (hb hby hd) rfl
theorem r_pop (ok : Ok Z K EL own code maxL ret nm R l w Q) (hp : pc + 1 = pc') {x : Value} (hd : decode code pc = .ok (.pop, 1)) (hc : x.category = 1) (hr : Run Z K ph h n1 n2 pc' ls st) : Run Z K ph h n1 n2 pc ls (x :: st) := by
  subst hp; exact rS ok hr fun p e below m c T A hx hby t => XS.pop (g := mkF m pc ls (x :: st)) A hx rfl (hb hby hd) rfl hc
theorem r_lcmp (ok : Ok Z K EL own code maxL ret nm R l w Q) (hp : pc + 1 = pc') {x y : Int64} (hd : decode code pc = .ok (.lcmp, 1)) (hr : Run Z K ph h n1 n2 pc' ls (.int (lcmpW x y) :: st)) : Run Z K ph h n1 n2 pc ls (.long y :: .long x :: st) := by
  subst hp; exact rS ok hr fun p e below m c T A hx hby t => XS.lcmp (g := mkF m pc ls (.long y :: .long x :: st)) A hx rfl (hb hby hd) rfl
theorem r_idiv (ok : Ok Z K EL own code maxL ret nm R l w Q) (hp : pc + 1 = pc') {x y : Int32} (hd : decode code pc = .ok (.idiv, 1)) (hy : y ≠ 0) (hr : Run Z K ph h n1 n2 pc' ls (.int (x / y) :: st)) : Run Z K ph h n1 n2 pc ls (.int y :: .int x :: st) := by
  subst hp; exact rS ok hr fun p e below m c T A hx hby t => XS.idiv (g := mkF m pc ls (.int y :: .int x :: st)) A hx rfl (hb hby hd) rfl hy
theorem r_iinc (ok : Ok Z K EL own code maxL ret nm R l w Q) (hp : pc + 3 = pc') {k : Nat} {cst : Int} {x : Int32} {ls' : Int32 → Array Slot} (hd : decode code pc = .ok (.iinc k cst, 3)) (hl : ls[k]? = some (.val (.int x))) (hl' : ∀ z, storeLocals ls k (.int z) = some (ls' z)) (hr : ∀ z, z = x + Int32.ofInt cst → Run Z K ph h n1 n2 pc' (ls' z) st) : Run Z K ph h n1 n2 pc ls st := by
  subst hp; exact rS ok (hr _ rfl) fun p e below m c T A hx hby t => XS.iinc (g := mkF m pc ls st) A hx rfl (hb hby hd) hl (hl' _)
theorem r_goto (ok : Ok Z K EL own code maxL ret nm R l w Q) {o : Int} (hd : decode code pc = .ok (.goto o, 3)) (ho : 0 ≤ (pc : Int) + o) (hp : ((pc : Int) + o).toNat = pc') (hr : Run Z K ph h n1 n2 pc' ls st) : Run Z K ph h n1 n2 pc ls st := by
  exact rS ok hr fun p e below m c T A hx hby t => XS.goto (g := mkF m pc ls st) A hx rfl rfl (hb hby hd) ho hp
theorem r_icmp_eq (ok : Ok Z K EL own code maxL ret nm R l w Q) (hp : pc + 3 = pc') {x y : Int32} {o : Int} (hd : decode code pc = .ok (.if_icmp .eq o, 3)) (ho : 0 ≤ (pc : Int) + o) (hq : ((pc : Int) + o).toNat = pcY) (hy : x = y → Run Z K ph h n1 n2 pcY ls st) (hn : ¬ x = y → Run Z K ph h n1 n2 pc' ls st) : Run Z K ph h n1 n2 pc ls (.int y :: .int x :: st) := by
  subst hp
  by_cases q : x = y
  · exact rS ok (hy q) fun p e below m c T A hx hby t => XS.icmpYes (g := mkF m pc ls (.int y :: .int x :: st)) A hx rfl rfl (hb hby hd) rfl (teq q).1 ho hq
  · exact rS ok (hn q) fun p e below m c T A hx hby t => XS.icmpNo (g := mkF m pc ls (.int y :: .int x :: st)) A hx rfl (hb hby hd) rfl (feq q).1
theorem r_if_eq (ok : Ok Z K EL own code maxL ret nm R l w Q) (hp : pc + 3 = pc') {x : Int32} {o : Int} (hd : decode code pc = .ok (.ifCond .eq o, 3)) (ho : 0 ≤ (pc : Int) + o) (hq : ((pc : Int) + o).toNat = pcY) (hy : x = (0 : Int32) → Run Z K ph h n1 n2 pcY ls st) (hn : ¬ x = (0 : Int32) → Run Z K ph h n1 n2 pc' ls st) : Run Z K ph h n1 n2 pc ls (.int x :: st) := by
  subst hp
  by_cases q : x = (0 : Int32)
  · exact rS ok (hy q) fun p e below m c T A hx hby t => XS.ifYes (g := mkF m pc ls (.int x :: st)) A hx rfl rfl (hb hby hd) rfl ((if0 _ _).trans (teq q).1) ho hq
  · exact rS ok (hn q) fun p e below m c T A hx hby t => XS.ifNo (g := mkF m pc ls (.int x :: st)) A hx rfl (hb hby hd) rfl ((if0 _ _).trans (feq q).1)
theorem r_icmp_ne (ok : Ok Z K EL own code maxL ret nm R l w Q) (hp : pc + 3 = pc') {x y : Int32} {o : Int} (hd : decode code pc = .ok (.if_icmp .ne o, 3)) (ho : 0 ≤ (pc : Int) + o) (hq : ((pc : Int) + o).toNat = pcY) (hy : ¬ x = y → Run Z K ph h n1 n2 pcY ls st) (hn : x = y → Run Z K ph h n1 n2 pc' ls st) : Run Z K ph h n1 n2 pc ls (.int y :: .int x :: st) := by
  subst hp
  by_cases q : x = y
  · exact rS ok (hn q) fun p e below m c T A hx hby t => XS.icmpNo (g := mkF m pc ls (.int y :: .int x :: st)) A hx rfl (hb hby hd) rfl (teq q).2
  · exact rS ok (hy q) fun p e below m c T A hx hby t => XS.icmpYes (g := mkF m pc ls (.int y :: .int x :: st)) A hx rfl rfl (hb hby hd) rfl (feq q).2 ho hq
theorem r_if_ne (ok : Ok Z K EL own code maxL ret nm R l w Q) (hp : pc + 3 = pc') {x : Int32} {o : Int} (hd : decode code pc = .ok (.ifCond .ne o, 3)) (ho : 0 ≤ (pc : Int) + o) (hq : ((pc : Int) + o).toNat = pcY) (hy : ¬ x = (0 : Int32) → Run Z K ph h n1 n2 pcY ls st) (hn : x = (0 : Int32) → Run Z K ph h n1 n2 pc' ls st) : Run Z K ph h n1 n2 pc ls (.int x :: st) := by
  subst hp
  by_cases q : x = (0 : Int32)
  · exact rS ok (hn q) fun p e below m c T A hx hby t => XS.ifNo (g := mkF m pc ls (.int x :: st)) A hx rfl (hb hby hd) rfl ((if0 _ _).trans (teq q).2)
  · exact rS ok (hy q) fun p e below m c T A hx hby t => XS.ifYes (g := mkF m pc ls (.int x :: st)) A hx rfl rfl (hb hby hd) rfl ((if0 _ _).trans (feq q).2) ho hq
theorem r_icmp_lt (ok : Ok Z K EL own code maxL ret nm R l w Q) (hp : pc + 3 = pc') {x y : Int32} {o : Int} (hd : decode code pc = .ok (.if_icmp .lt o, 3)) (ho : 0 ≤ (pc : Int) + o) (hq : ((pc : Int) + o).toNat = pcY) (hy : x < y → Run Z K ph h n1 n2 pcY ls st) (hn : ¬ x < y → Run Z K ph h n1 n2 pc' ls st) : Run Z K ph h n1 n2 pc ls (.int y :: .int x :: st) := by
  subst hp
  by_cases q : x < y
  · exact rS ok (hy q) fun p e below m c T A hx hby t => XS.icmpYes (g := mkF m pc ls (.int y :: .int x :: st)) A hx rfl rfl (hb hby hd) rfl (tlt q).1 ho hq
  · exact rS ok (hn q) fun p e below m c T A hx hby t => XS.icmpNo (g := mkF m pc ls (.int y :: .int x :: st)) A hx rfl (hb hby hd) rfl (flt q).1
theorem r_if_lt (ok : Ok Z K EL own code maxL ret nm R l w Q) (hp : pc + 3 = pc') {x : Int32} {o : Int} (hd : decode code pc = .ok (.ifCond .lt o, 3)) (ho : 0 ≤ (pc : Int) + o) (hq : ((pc : Int) + o).toNat = pcY) (hy : x < (0 : Int32) → Run Z K ph h n1 n2 pcY ls st) (hn : ¬ x < (0 : Int32) → Run Z K ph h n1 n2 pc' ls st) : Run Z K ph h n1 n2 pc ls (.int x :: st) := by
  subst hp
  by_cases q : x < (0 : Int32)
  · exact rS ok (hy q) fun p e below m c T A hx hby t => XS.ifYes (g := mkF m pc ls (.int x :: st)) A hx rfl rfl (hb hby hd) rfl ((if0 _ _).trans (tlt q).1) ho hq
  · exact rS ok (hn q) fun p e below m c T A hx hby t => XS.ifNo (g := mkF m pc ls (.int x :: st)) A hx rfl (hb hby hd) rfl ((if0 _ _).trans (flt q).1)
theorem r_icmp_ge (ok : Ok Z K EL own code maxL ret nm R l w Q) (hp : pc + 3 = pc') {x y : Int32} {o : Int} (hd : decode code pc = .ok (.if_icmp .ge o, 3)) (ho : 0 ≤ (pc : Int) + o) (hq : ((pc : Int) + o).toNat = pcY) (hy : ¬ x < y → Run Z K ph h n1 n2 pcY ls st) (hn : x < y → Run Z K ph h n1 n2 pc' ls st) : Run Z K ph h n1 n2 pc ls (.int y :: .int x :: st) := by
  subst hp
  by_cases q : x < y
  · exact rS ok (hn q) fun p e below m c T A hx hby t => XS.icmpNo (g := mkF m pc ls (.int y :: .int x :: st)) A hx rfl (hb hby hd) rfl (tlt q).2.1
  · exact rS ok (hy q) fun p e below m c T A hx hby t => XS.icmpYes (g := mkF m pc ls (.int y :: .int x :: st)) A hx rfl rfl (hb hby hd) rfl (flt q).2.1 ho hq
theorem r_if_ge (ok : Ok Z K EL own code maxL ret nm R l w Q) (hp : pc + 3 = pc') {x : Int32} {o : Int} (hd : decode code pc = .ok (.ifCond .ge o, 3)) (ho : 0 ≤ (pc : Int) + o) (hq : ((pc : Int) + o).toNat = pcY) (hy : ¬ x < (0 : Int32) → Run Z K ph h n1 n2 pcY ls st) (hn : x < (0 : Int32) → Run Z K ph h n1 n2 pc' ls st) : Run Z K ph h n1 n2 pc ls (.int x :: st) := by
  subst hp
  by_cases q : x < (0 : Int32)
  · exact rS ok (hn q) fun p e below m c T A hx hby t => XS.ifNo (g := mkF m pc ls (.int x :: st)) A hx rfl (hb hby hd) rfl ((if0 _ _).trans (tlt q).2.1)
  · exact rS ok (hy q) fun p e below m c T A hx hby t => XS.ifYes (g := mkF m pc ls (.int x :: st)) A hx rfl rfl (hb hby hd) rfl ((if0 _ _).trans (flt q).2.1) ho hq
theorem r_icmp_gt (ok : Ok Z K EL own code maxL ret nm R l w Q) (hp : pc + 3 = pc') {x y : Int32} {o : Int} (hd : decode code pc = .ok (.if_icmp .gt o, 3)) (ho : 0 ≤ (pc : Int) + o) (hq : ((pc : Int) + o).toNat = pcY) (hy : y < x → Run Z K ph h n1 n2 pcY ls st) (hn : ¬ y < x → Run Z K ph h n1 n2 pc' ls st) : Run Z K ph h n1 n2 pc ls (.int y :: .int x :: st) := by
  subst hp
  by_cases q : y < x
  · exact rS ok (hy q) fun p e below m c T A hx hby t => XS.icmpYes (g := mkF m pc ls (.int y :: .int x :: st)) A hx rfl rfl (hb hby hd) rfl (tlt q).2.2.1 ho hq
  · exact rS ok (hn q) fun p e below m c T A hx hby t => XS.icmpNo (g := mkF m pc ls (.int y :: .int x :: st)) A hx rfl (hb hby hd) rfl (flt q).2.2.1
theorem r_if_gt (ok : Ok Z K EL own code maxL ret nm R l w Q) (hp : pc + 3 = pc') {x : Int32} {o : Int} (hd : decode code pc = .ok (.ifCond .gt o, 3)) (ho : 0 ≤ (pc : Int) + o) (hq : ((pc : Int) + o).toNat = pcY) (hy : (0 : Int32) < x → Run Z K ph h n1 n2 pcY ls st) (hn : ¬ (0 : Int32) < x → Run Z K ph h n1 n2 pc' ls st) : Run Z K ph h n1 n2 pc ls (.int x :: st) := by
  subst hp
  by_cases q : (0 : Int32) < x
  · exact rS ok (hy q) fun p e below m c T A hx hby t => XS.ifYes (g := mkF m pc ls (.int x :: st)) A hx rfl rfl (hb hby hd) rfl ((if0 _ _).trans (tlt q).2.2.1) ho hq
  · exact rS ok (hn q) fun p e below m c T A hx hby t => XS.ifNo (g := mkF m pc ls (.int x :: st)) A hx rfl (hb hby hd) rfl ((if0 _ _).trans (flt q).2.2.1)
theorem r_icmp_le (ok : Ok Z K EL own code maxL ret nm R l w Q) (hp : pc + 3 = pc') {x y : Int32} {o : Int} (hd : decode code pc = .ok (.if_icmp .le o, 3)) (ho : 0 ≤ (pc : Int) + o) (hq : ((pc : Int) + o).toNat = pcY) (hy : ¬ y < x → Run Z K ph h n1 n2 pcY ls st) (hn : y < x → Run Z K ph h n1 n2 pc' ls st) : Run Z K ph h n1 n2 pc ls (.int y :: .int x :: st) := by
  subst hp
  by_cases q : y < x
  · exact rS ok (hn q) fun p e below m c T A hx hby t => XS.icmpNo (g := mkF m pc ls (.int y :: .int x :: st)) A hx rfl (hb hby hd) rfl (tlt q).2.2.2
  · exact rS ok (hy q) fun p e below m c T A hx hby t => XS.icmpYes (g := mkF m pc ls (.int y :: .int x :: st)) A hx rfl rfl (hb hby hd) rfl (flt q).2.2.2 ho hq
theorem r_if_le (ok : Ok Z K EL own code maxL ret nm R l w Q) (hp : pc + 3 = pc') {x : Int32} {o : Int} (hd : decode code pc = .ok (.ifCond .le o, 3)) (ho : 0 ≤ (pc : Int) + o) (hq : ((pc : Int) + o).toNat = pcY) (hy : ¬ (0 : Int32) < x → Run Z K ph h n1 n2 pcY ls st) (hn : (0 : Int32) < x → Run Z K ph h n1 n2 pc' ls st) : Run Z K ph h n1 n2 pc ls (.int x :: st) := by
  subst hp
  by_cases q : (0 : Int32) < x
  · exact rS ok (hn q) fun p e below m c T A hx hby t => XS.ifNo (g := mkF m pc ls (.int x :: st)) A hx rfl (hb hby hd) rfl ((if0 _ _).trans (tlt q).2.2.2)
  · exact rS ok (hy q) fun p e below m c T A hx hby t => XS.ifYes (g := mkF m pc ls (.int x :: st)) A hx rfl rfl (hb hby hd) rfl ((if0 _ _).trans (flt q).2.2.2) ho hq
theorem r_ifnull_null (ok : Ok Z K EL own code maxL ret nm R l w Q)  {o : Int} (hd : decode code pc = .ok (.ifnull o, 3)) (ho : 0 ≤ (pc : Int) + o) (hp : ((pc : Int) + o).toNat = pc') (hr : Run Z K ph h n1 n2 pc' ls st) : Run Z K ph h n1 n2 pc ls (.null :: st) := by
  exact rS ok hr fun p e below m c T A hx hby t => XS.ifnullYes (g := mkF m pc ls (.null :: st)) A hx rfl rfl (hb hby hd) rfl ho hp
theorem r_ifnull_ref (ok : Ok Z K EL own code maxL ret nm R l w Q) (hp : pc + 3 = pc') {b : Addr} {o : Int} (hd : decode code pc = .ok (.ifnull o, 3)) (hr : Run Z K ph h n1 n2 pc' ls st) : Run Z K ph h n1 n2 pc ls (.ref b :: st) := by
  subst hp; exact rS ok hr fun p e below m c T A hx hby t => XS.ifnullNo (g := mkF m pc ls (.ref b :: st)) A hx rfl (hb hby hd) rfl
theorem r_ifnonnull_null (ok : Ok Z K EL own code maxL ret nm R l w Q) (hp : pc + 3 = pc')  {o : Int} (hd : decode code pc = .ok (.ifnonnull o, 3)) (hr : Run Z K ph h n1 n2 pc' ls st) : Run Z K ph h n1 n2 pc ls (.null :: st) := by
  subst hp; exact rS ok hr fun p e below m c T A hx hby t => XS.ifnonnullNo (g := mkF m pc ls (.null :: st)) A hx rfl (hb hby hd) rfl
theorem r_ifnonnull_ref (ok : Ok Z K EL own code maxL ret nm R l w Q) {b : Addr} {o : Int} (hd : decode code pc = .ok (.ifnonnull o, 3)) (ho : 0 ≤ (pc : Int) + o) (hp : ((pc : Int) + o).toNat = pc') (hr : Run Z K ph h n1 n2 pc' ls st) : Run Z K ph h n1 n2 pc ls (.ref b :: st) := by
  exact rS ok hr fun p e below m c T A hx hby t => XS.ifnonnullYes (g := mkF m pc ls (.ref b :: st)) A hx rfl rfl (hb hby hd) rfl ho hp

theorem endW_mono {s t : State} {o : Outcome} {L : List Loc} {k n k' n' : Nat} (h : EndW w s o t L k n) (hk : k ≤ k') (hn : n ≤ n') : EndW w s o t L k' n' := by
  cases w
  · exact ⟨h.1, h.2.1, h.2.2.mono hk hn⟩
  · exact ⟨h.1, h.2.1, h.2.2.1, h.2.2.2.mono hk hn⟩
/-- the end of a walk -/
theorem rEnd (ok : Ok Z K EL own code maxL ret nm R l w Q) {v : Option Value} (hv : ret = none → v = none) (hq : Q v h) (hc : n1 ≤ R.cells) (hn : n2 ≤ R.slots) (hcl : w = true ∨ (∀ s v, ph s v → v = s.vm))
    (f : ∀ (p : Program) (e : Env) (s : State) (m : MethodId) (args : Array Value) (below : List Frame) (meth : Method) (c : Code) (T : State) (locs : List Loc), Stand p l e R s m args below meth c T locs n1 n2 → p.tables.exec = Jvm.exec → c.code = code → meth.sig.returnType = ret → ∀ fs, (∀ (g : JFrame) (acts : List Action), g.method = m → g.locked = none → g.entered = [] → (doReturn e (T.setTop g) acts v).1 = T.setFrames fs) →
      Steps p.tables e below (T.setTop (mkF m pc ls st)) (T.setFrames fs)) : Run Z K ph h n1 n2 pc ls st := by
  obtain ⟨p, l1, e, R1, s, m, args, below, meth, c, w1, Q1⟩ := K
  obtain ⟨hx, hby, hml, ho, hret, hlk, hnm, rfl, rfl, rfl, rfl, hCH⟩ := ok
  intro T X W
  obtain ⟨vm0, k0, locs, S, hS, hk, hZ, hF, eT, hw⟩ := W
  have hsz : s.heap.size ≤ T.heap.size := S.same.2.1
  cases w1
  · obtain rfl := (hcl.resolve_left (fun q => nomatch q)) _ _ hw
    obtain ⟨fs, hr, hrun, hended, hW, hsame⟩ := S.leave (v := v) (fun q => hv (hret ▸ q)) hlk
    exact ⟨_, _, f p e _ m args below meth c T locs S hx hby hret fs hr, hrun, hended, v, locs, rfl, ⟨by show Q1 v T.heap; rw [eT]; exact hq, hF, by show Ext Z.heap T.heap; rw [eT]; exact X, hsz⟩, ⟨_, rfl⟩, hW, State.sameButNew.mono hsame hc hn⟩
  · obtain ⟨fs, hr, hrun, hended, hE⟩ := S.leaveW hS hk (v := v) (fun q => hv (hret ▸ q)) hlk
    exact ⟨_, _, f p e _ m args below meth c T locs S hx hby hret fs hr, hrun, hended, v, locs, rfl, ⟨by show Q1 v T.heap; rw [eT]; exact hq, hF, by show Ext Z.heap T.heap; rw [eT]; exact X, hsz⟩, hE.1, hE.2.1, hE.2.2.1, State.sameButNew.mono hE.2.2.2 hc hn⟩
theorem r_return {Q' : Heap → Prop} (ok : Ok Z K EL own code maxL none nm R l w (rU Q')) (hd : decode code pc = .ok (.return_, 1)) (hq : Q' h) (hc : n1 ≤ R.cells) (hn : n2 ≤ R.slots) (hcl : w = true ∨ (∀ s v, ph s v → v = s.vm) := by first | exact Or.inl rfl | exact Or.inr (fun _ _ q => q)) : Run Z K ph h n1 n2 pc ls [] :=
  rEnd ok (v := none) (fun _ => rfl) ⟨rfl, hq⟩ hc hn hcl fun p e s m args below meth c T locs S hx hby hret fs hr => S.returnOut hx hret (hb hby hd) hr
theorem r_ret {t : FieldType} {i : Instr} {x : Value} {Q' : Value → Heap → Prop} (ok : Ok Z K EL own code maxL (some t) nm R l w (rV Q')) (hd : decode code pc = .ok (i, 1)) (hnr : narrow t x = x)
    (hi : (i = .ireturn ∧ (t = .int ∨ t = .boolean ∨ t = .byte ∨ t = .char ∨ t = .short) ∧ ∃ z, x = .int z) ∨ (i = .lreturn ∧ t = .long ∧ ∃ z, x = .long z) ∨ (i = .dreturn ∧ t = .double ∧ ∃ z, x = .double z) ∨ (i = .freturn ∧ t = .float ∧ ∃ z, x = .float z) ∨ (i = .areturn ∧ t.isReference = true ∧ x.isRef = true))
    (hc : n1 ≤ R.cells) (hn : n2 ≤ R.slots) (hq : Q' x h) (hcl : w = true ∨ (∀ s v, ph s v → v = s.vm) := by first | exact Or.inl rfl | exact Or.inr (fun _ _ q => q)) : Run Z K ph h n1 n2 pc ls (x :: st) :=
  rEnd ok (v := some x) (fun q => nomatch q) ⟨x, rfl, hq⟩ hc hn hcl fun p e s m args below meth c T locs S hx hby hret fs hr => retOut S hx hret hnr hi (hb hby hd) hr
theorem r_ireturn {t : FieldType} {z : Int32} {Q' : Value → Heap → Prop} (ok : Ok Z K EL own code maxL (some t) nm R l w (rV Q')) (hd : decode code pc = .ok (.ireturn, 1)) (hnr : narrow t (.int z) = .int z) (ht : t = .int ∨ t = .boolean ∨ t = .byte ∨ t = .char ∨ t = .short) (hc : n1 ≤ R.cells) (hn : n2 ≤ R.slots) (hq : Q' (.int z) h) (hcl : w = true ∨ (∀ s v, ph s v → v = s.vm) := by first | exact Or.inl rfl | exact Or.inr (fun _ _ q => q)) : Run Z K ph h n1 n2 pc ls (.int z :: st) :=
  r_ret ok hd hnr (Or.inl ⟨rfl, ht, z, rfl⟩) hc hn hq hcl
theorem r_areturn {t : FieldType} {x : Value} {Q' : Value → Heap → Prop} (ok : Ok Z K EL own code maxL (some t) nm R l w (rV Q')) (hd : decode code pc = .ok (.areturn, 1)) (hnr : narrow t x = x) (ht : t.isReference = true) (hx : x.isRef = true) (hc : n1 ≤ R.cells) (hn : n2 ≤ R.slots) (hq : Q' x h) (hcl : w = true ∨ (∀ s v, ph s v → v = s.vm) := by first | exact Or.inl rfl | exact Or.inr (fun _ _ q => q)) : Run Z K ph h n1 n2 pc ls (x :: st) :=
  r_ret ok hd hnr (Or.inr (Or.inr (Or.inr (Or.inr ⟨rfl, ht, hx⟩)))) hc hn hq hcl
theorem r_lreturn {z : Int64} {Q' : Value → Heap → Prop} (ok : Ok Z K EL own code maxL (some .long) nm R l w (rV Q')) (hd : decode code pc = .ok (.lreturn, 1)) (hc : n1 ≤ R.cells) (hn : n2 ≤ R.slots) (hq : Q' (.long z) h) (hcl : w = true ∨ (∀ s v, ph s v → v = s.vm) := by first | exact Or.inl rfl | exact Or.inr (fun _ _ q => q)) : Run Z K ph h n1 n2 pc ls (.long z :: st) :=
  r_ret ok hd rfl (Or.inr (Or.inl ⟨rfl, rfl, z, rfl⟩)) hc hn hq hcl
/-- the beginning of a walk -/
theorem body {y : MethodName} {ws : List Jvm.Cond} {as : Array Value} (pn : plainFor y = true) (ent : ∀ m, entryFrame m as maxL = mkF m 0 ls []) (run : ∀ K, Ok Z K EL y.cls code maxL ret y.name R l w Q → Run Z K Cln h 0 0 0 ls []) : Con l Z EL ws w y code maxL ret R as h Q := by
  intro X
  refine MetFree.of_bodySF pn hisR ?_
  intro p e s m args below meth c s₁ Bd hml0 hP hK
  obtain ⟨rfl, hZ, hh, hCH⟩ := hP
  have hown : s.vm.findClass y.cls = some m.cls := findClass_of_methodNamed Bd.named
  have hnm := (name_of_methodNamed Bd.named Bd.method).1
  have X0 : Stand p l e R s m args below meth c s₁ [] 0 0 := Stand.of_body Bd
  have e0 : s₁.heap = h := by rw [← hh, Bd.state]; rfl
  have ok : Ok Z (p, l, e, R, s, m, args, below, meth, c, w, Q) EL y.cls code maxL ret y.name R l w Q :=
    ⟨Bd.exec, Bd.bytes, hml0, fun vm0 hv => by rw [hv.alike.findClass, ← hZ.alike.findClass]; exact hown, Bd.returns, Bd.notSynchronized, hnm, rfl, rfl, rfl, rfl, hCH⟩
  obtain ⟨s₂, o, h1, h2, h3, v, L, rfl, h4, h5⟩ := run _ ok s₁ X ⟨s.vm, 0, [], X0, (State.WarmedH.refl s).since 0, Nat.zero_le _, hZ, Fr.nil _, e0, rfl⟩
  exact ⟨s₂, _, castTop (ent m) h1, h2, h3, v, L, rfl, by rw [← hh]; exact h4, h5⟩
theorem Con.pay {y : MethodName} {bytes : ByteArray} {mL : Nat} {rt : Option FieldType} {R' : Room} {as : Array Value} {w' : Bool} {Q' : Option Value → Heap → Prop} {len W : Nat} (con : Con l Z EL [] w' y bytes mL rt R' as h Q') (hEL : EW Z a0 EL) (wc : (Jvm.Cond.code y bytes mL rt).before a0 Z = true) (wz : (Jvm.Cond.initialized y.cls).before a0 Z = true) (hf : R'.frames + 1 ≤ R.frames) (hl : W + (mL + 11) + R'.locals ≤ R.locals) :
    Pay Z EL w' l R y len W as h R'.cells R'.slots Q' := by
  cases w'
  · intro p e below s args hZ H X
    exact Back.of_free (bytes := bytes) (maxL := mL) (ret := rt) (E := fun _ _ o t L k n => k = R'.cells ∧ n = R'.slots ∧ ∃ v, o = .returned v ∧ Pst Z h.size Q' v t.heap L) (con X) hf hl
      (fun m meth c A a Y hp => have hU : Z.Warmed39 A.U.vm := wtrans hZ Y.warmed
        ⟨by show (Jvm.Cond.and _ .tt).before a A.U = true; rw [Cond.before_and, mv hU wc]; rfl, mv hU wc, mv hU wz, hp.2.2.1, hp.2.2.2⟩)
      (fun m meth c A a g mk Y hp => ⟨hp.1, wtrans hZ Y.warmed, hp.2.1, (CHv.at (vm0 := s.vm) (s := s) Y hZ hEL H).1⟩) (fun _ _ _ _ _ _ _ _ _ => trivial)
      (fun _ _ _ _ ⟨v, L, h1, h2, h3⟩ => ⟨L, _, _, h3, rfl, rfl, v, h1, h2⟩)
      (fun m meth c A a g mk v t L k n Y hp _ _ ⟨e1, e2, v', e3, e4⟩ => by cases e3; subst e1 e2; exact ⟨L, e4, rfl, rfl, rfl⟩)
  · intro p e below s args hZ H X
    exact BackS.of_freeW (bytes := bytes) (maxL := mL) (ret := rt) (E := fun _ _ o t L k n => k = R'.cells ∧ n = R'.slots ∧ ∃ v, o = .returned v ∧ Pst Z h.size Q' v t.heap L) (con X) hf hl
      (fun m meth c A a Y hp => have hU : Z.Warmed39 A.U.vm := wtrans hZ Y.warmed
        ⟨by show (Jvm.Cond.and _ .tt).before a A.U = true; rw [Cond.before_and, mv hU wc]; rfl, mv hU wc, mv hU wz, hp.2.2.1, hp.2.2.2⟩)
      (fun m meth c A a g mk Y hp => ⟨hp.1, wtrans hZ Y.warmed, hp.2.1, (CHv.at (vm0 := s.vm) (s := s) Y hZ hEL H).1⟩) (fun _ _ _ _ _ _ _ _ _ => trivial)
      (fun _ _ _ _ ⟨v, L, h1, h2, h3⟩ => ⟨L, _, _, h3, rfl, rfl, v, h1, h2⟩)
      (fun m meth c A a g mk v t L k n Y hp _ _ ⟨e1, e2, v', e3, e4⟩ => by cases e3; subst e1 e2; exact ⟨L, e4, rfl, rfl, rfl⟩)

theorem st1 {ls ls' : Array Slot} {i : Nat} {o : Slot} {v : Value} (ho : One o) (hold : ls[i]? = some o) (hv : v.category = 1) (e : ls.setIfInBounds i (.val v) = ls') : storeLocals ls i v = some ls' := by rw [XS.store1 hold ho hv, e]
theorem ext_wr {h' : Heap} {a : Addr} {sl : Nat} {v : Value} (X : Ext Z.heap h) (W : Wr h h' a sl v) (g : Z.heap.size ≤ a) : Ext Z.heap h' :=
  (Old.wr (n0 := Z.heap.size) ⟨rfl, X⟩ W g).2
theorem ext_keep {h' : Heap} {ws : List Addr} (X : Ext Z.heap h) (K : Keep h h' ws) (q : ∀ x ∈ ws, Z.heap.size ≤ x) : Ext Z.heap h' :=
  (Old.keep (n0 := Z.heap.size) ⟨rfl, X⟩ K q).2
theorem ext_trans {h1 h2 h3 : Heap} (A : Ext h1 h2) (B : Ext h2 h3) : Ext h1 h3 := ⟨Nat.le_trans A.1 B.1, fun a c q => B.2 a c (A.2 a c q)⟩
theorem r_irem (ok : Ok Z K EL own code maxL ret nm R l w Q) (hp : pc + 1 = pc') {x y : Int32} (hd : decode code pc = .ok (.irem, 1)) (hy : y ≠ 0) (hr : Run Z K ph h n1 n2 pc' ls (.int (x % y) :: st)) : Run Z K ph h n1 n2 pc ls (.int y :: .int x :: st) := by
  subst hp; exact rX ok hr fun p e s m args below meth c T locs X hx hby hZ ho eT t => iremM (g := mkF m pc ls (.int y :: .int x :: st)) X hx rfl (hb hby hd) rfl hy
theorem r_new (ok : Ok Z K EL own code maxL ret nm R l w Q) (hp : pc + 3 = pc') {C : String} {idx k : Nat} (hd : decode code pc = .ok (.new idx, 3)) (w1 : (Jvm.Cond.classLink own idx C).before a0 Z = true) (w2 : (Jvm.Cond.instantiable C k).before a0 Z = true) (w3 : (Jvm.Cond.initialized C).before a0 Z = true) (hc : n1 + 1 ≤ R.cells) (hn : n2 + k ≤ R.slots)
    (hr : ∀ h' a, a = h.size → Z.heap.size ≤ a → Ext h h' → Exa Z h' a C → (∀ {O nm d : String} {ty : FieldType}, Laid Z a0 C O nm d → parseFieldDescriptor d = some ty → Fld Z h' a O nm d (defaultValue ty)) → Run Z K ph h' (n1 + 1) (n2 + k) pc' ls (.ref a :: st)) : Run Z K ph h n1 n2 pc ls st := by
  subst hp
  refine r_old fun X0 => ?_
  refine rH ok (P := fun h' => Ext h h' ∧ Exa Z h' h.size C ∧ (∀ {O nm d : String} {ty : FieldType}, Laid Z a0 C O nm d → parseFieldDescriptor d = some ty → Fld Z h' h.size O nm d (defaultValue ty))) (m1 := n1 + 1) (m2 := n2 + k) (fun p e s m args below meth c T locs X hx hby hml hZ ho hnm eT X0 => ?_) (fun h' q => hr h' _ rfl X0.1 q.1 q.2.1 q.2.2)
  obtain ⟨T', h', X', e', E, A, D, -, st'⟩ := newO X hx hZ ho w1 w2 w3 eT (g := mkF m pc ls st) rfl (hb hby hd) hc hn
  exact ⟨T', h', [], by rw [List.append_nil]; exact X', e', Fr.nil _, E.1, ext_trans X0 E, ⟨E, A, D⟩, st'⟩
theorem r_newarray (ok : Ok Z K EL own code maxL ret nm R l w Q) (hp : pc + 2 = pc') {aty : ArrayType} {n : Int32} (cap : Nat) (hd : decode code pc = .ok (.newarray aty, 2)) (w1 : (Jvm.Cond.arrayClass (newarray.typeOf aty)).before a0 Z = true) (hn0 : ¬ n < 0) (hcap : n.toNatClampNeg ≤ cap) (hbg : cap * 8 ≤ 536870912) (hc : n1 + 1 ≤ R.cells) (hn : n2 + cap ≤ R.slots)
    (hr : ∀ h' a kA, a = h.size → Z.heap.size ≤ a → Ext h h' → Arv Z h' a kA (newarray.typeOf aty) n [] (defaultValue (newarray.typeOf aty)) → Run Z K ph h' (n1 + 1) (n2 + cap) pc' ls (.ref a :: st)) : Run Z K ph h n1 n2 pc ls (.int n :: st) := by
  subst hp
  refine r_old fun X0 => ?_
  refine rH ok (P := fun h' => Ext h h' ∧ ∃ kA, Arv Z h' h.size kA (newarray.typeOf aty) n [] (defaultValue (newarray.typeOf aty))) (m1 := n1 + 1) (m2 := n2 + cap) (fun p e s m args below meth c T locs X hx hby hml hZ ho hnm eT X0 => ?_) (fun h' q => by obtain ⟨q1, kA, q2⟩ := q; exact hr h' _ kA rfl X0.1 q1 q2)
  obtain ⟨T', h', kA, X', e', E, A, st'⟩ := newP X hx hZ w1 eT (g := mkF m pc ls (.int n :: st)) rfl (hb hby hd) rfl hn0 (cap := cap) hcap hbg hc hn
  exact ⟨T', h', [], by rw [List.append_nil]; exact X', e', Fr.nil _, E.1, ext_trans X0 E, ⟨E, kA, Arv.new A hn0⟩, st'⟩
theorem r_anewarray (ok : Ok Z K EL own code maxL ret nm R l w Q) (hp : pc + 3 = pc') {C : String} {idx : Nat} {n : Int32} (cap : Nat) (hd : decode code pc = .ok (.anewarray idx, 3)) (w1 : (Jvm.Cond.classLink own idx C).before a0 Z = true) (w2 : (Jvm.Cond.arrayOver (.object C)).before a0 Z = true) (hn0 : ¬ n < 0) (hcap : n.toNatClampNeg ≤ cap) (hbg : cap * 8 ≤ 536870912) (hc : n1 + 1 ≤ R.cells) (hn : n2 + cap ≤ R.slots)
    (hr : ∀ h' a kA, a = h.size → Z.heap.size ≤ a → Ext h h' → Ovr Z kA C → Arv Z h' a kA (.object C) n [] .null → Run Z K ph h' (n1 + 1) (n2 + cap) pc' ls (.ref a :: st)) : Run Z K ph h n1 n2 pc ls (.int n :: st) := by
  subst hp
  refine r_old fun X0 => ?_
  refine rH ok (P := fun h' => Ext h h' ∧ ∃ kA, Ovr Z kA C ∧ Arv Z h' h.size kA (.object C) n [] .null) (m1 := n1 + 1) (m2 := n2 + cap) (fun p e s m args below meth c T locs X hx hby hml hZ ho hnm eT X0 => ?_) (fun h' q => by obtain ⟨q1, kA, q2, q3⟩ := q; exact hr h' _ kA rfl X0.1 q1 q2 q3)
  obtain ⟨T', h', kA, X', e', E, A, O, st'⟩ := newR X hx hZ ho w1 w2 eT (g := mkF m pc ls (.int n :: st)) rfl (hb hby hd) rfl hn0 (cap := cap) hcap hbg hc hn
  exact ⟨T', h', [], by rw [List.append_nil]; exact X', e', Fr.nil _, E.1, ext_trans X0 E, ⟨E, kA, O, Arv.new A hn0⟩, st'⟩
/-- a law that leaves the heap as it is and moves the state -/
theorem rT (ok : Ok Z K EL own code maxL ret nm R l w Q) (hr : Run Z K ph h n1 n2 pc' ls' st')
    (f : ∀ (p : Program) (e : Env) (s : State) (m : MethodId) (args : Array Value) (below : List Frame) (meth : Method) (c : Code) (T : State) (locs : List Loc), Stand p l e R s m args below meth c T locs n1 n2 → p.tables.exec = Jvm.exec → c.code = code → c.maxLocals = maxL → Z.Warmed39 s.vm → s.vm.findClass own = some m.cls → T.heap = h →
      ∃ T', Stand p l e R s m args below meth c T' locs n1 n2 ∧ T'.heap = h ∧ ∀ t, Steps p.tables e below (T'.setTop (mkF m pc' ls' st')) t → Steps p.tables e below (T.setTop (mkF m pc ls st)) t) : Run Z K ph h n1 n2 pc ls st := by
  refine rH ok (P := fun h' => h' = h) (m1 := n1) (m2 := n2) (fun p e s m args below meth c T locs X hx hby hml hZ ho hnm eT X0 => ?_) (fun h' q => q ▸ hr)
  obtain ⟨T', X', e', st'⟩ := f p e s m args below meth c T locs X hx hby hml hZ ho eT
  exact ⟨T', h, [], by rw [List.append_nil]; exact X', e', Fr.nil _, Nat.le_refl _, X0, rfl, st'⟩
theorem r_getfield (ok : Ok Z K EL own code maxL ret nm R l w Q) (hp : pc + 3 = pc') {R0 O n d host : String} {idx : Nat} {a : Addr} {v : Value} (hd : decode code pc = .ok (.getfield idx, 3)) (w1 : (Jvm.Cond.fieldLink own idx R0 n d).before a0 Z = true ∨ (Jvm.Cond.fieldLinkNest own idx R0 n d host).before a0 Z = true) (via : Via Z R0 O n d) (F : Fld Z h a O n d v) (hr : Run Z K ph h n1 n2 pc' ls (v :: st)) : Run Z K ph h n1 n2 pc ls (.ref a :: st) := by
  subst hp
  exact rT ok hr fun p e s m args below meth c T locs X hx hby hml hZ ho eT => getF X hx hZ ho w1 via eT F (g := mkF m pc ls (.ref a :: st)) rfl rfl (hb hby hd)
theorem r_getstatic (ok : Ok Z K EL own code maxL ret nm R l w Q) (hp : pc + 3 = pc') {R0 O n d : String} {idx : Nat} {v : Value} (hd : decode code pc = .ok (.getstatic idx, 3)) (w1 : (Jvm.Cond.fieldLink own idx R0 n d).before a0 Z = true) (via : Via Z R0 O n d) (F : Sta Z Z.heap O n d v) (hr : Run Z K ph h n1 n2 pc' ls (v :: st)) : Run Z K ph h n1 n2 pc ls st := by
  subst hp
  refine r_old fun X0 => ?_
  exact rT ok hr fun p e s m args below meth c T locs X hx hby hml hZ ho eT => getS X (host := "") hx hZ ho w1 via eT (F.ext X0) (g := mkF m pc ls st) rfl (hb hby hd)
theorem r_getstaticN (ok : Ok Z K EL own code maxL ret nm R l w Q) (hp : pc + 3 = pc') {R0 O n d host : String} {idx : Nat} {v : Value} (hd : decode code pc = .ok (.getstatic idx, 3)) (w1 : (Jvm.Cond.fieldLink own idx R0 n d).before a0 Z = true ∨ (Jvm.Cond.fieldLinkNest own idx R0 n d host).before a0 Z = true) (via : Via Z R0 O n d) (F : Sta Z Z.heap O n d v) (hr : Run Z K ph h n1 n2 pc' ls (v :: st)) : Run Z K ph h n1 n2 pc ls st := by
  subst hp
  refine r_old fun X0 => ?_
  exact rT ok hr fun p e s m args below meth c T locs X hx hby hml hZ ho eT => getS2 X hx hZ ho w1 via eT (F.ext X0) (g := mkF m pc ls st) rfl (hb hby hd)
theorem r_checkcast (ok : Ok Z K EL own code maxL ret nm R l w Q) (hp : pc + 3 = pc') {C : String} {idx : Nat} {a : Addr} (hd : decode code pc = .ok (.checkcast idx, 3)) (w1 : (Jvm.Cond.classLink own idx C).before a0 Z = true) (F : Ins Z h a C true) (hr : Run Z K ph h n1 n2 pc' ls (.ref a :: st)) : Run Z K ph h n1 n2 pc ls (.ref a :: st) := by
  subst hp
  exact rT ok hr fun p e s m args below meth c T locs X hx hby hml hZ ho eT => castY X hx hZ ho w1 eT F (g := mkF m pc ls (.ref a :: st)) rfl rfl (hb hby hd)
theorem r_checkcastNull (ok : Ok Z K EL own code maxL ret nm R l w Q) (hp : pc + 3 = pc') {idx : Nat} (hd : decode code pc = .ok (.checkcast idx, 3)) (hr : Run Z K ph h n1 n2 pc' ls (.null :: st)) : Run Z K ph h n1 n2 pc ls (.null :: st) := by
  subst hp
  exact rX ok hr fun p e s m args below meth c T locs X hx hby hZ ho eT t => X.checkcastNull hx (g := mkF m pc ls (.null :: st)) rfl rfl (hb hby hd) t
theorem r_instanceof (ok : Ok Z K EL own code maxL ret nm R l w Q) (hp : pc + 3 = pc') {C : String} {idx : Nat} {a : Addr} (hd : decode code pc = .ok (.instanceof idx, 3)) (w1 : (Jvm.Cond.classLink own idx C).before a0 Z = true) (F : Ins Z h a C true) (hr : Run Z K ph h n1 n2 pc' ls (.int 1 :: st)) : Run Z K ph h n1 n2 pc ls (.ref a :: st) := by
  subst hp
  exact rT ok hr fun p e s m args below meth c T locs X hx hby hml hZ ho eT => instY X hx hZ ho w1 eT F (g := mkF m pc ls (.ref a :: st)) rfl rfl (hb hby hd)
theorem r_instanceofNo (ok : Ok Z K EL own code maxL ret nm R l w Q) (hp : pc + 3 = pc') {C D : String} {idx : Nat} {a : Addr} (hd : decode code pc = .ok (.instanceof idx, 3)) (w1 : (Jvm.Cond.classLink own idx C).before a0 Z = true) (E : Exa Z h a D) (F : ∃ c t, Z.vm.findClass D = some c ∧ Z.vm.findClass C = some t ∧ Z.vm.assignable c t = false) (hr : Run Z K ph h n1 n2 pc' ls (.int 0 :: st)) : Run Z K ph h n1 n2 pc ls (.ref a :: st) := by
  subst hp
  exact rT ok hr fun p e s m args below meth c T locs X hx hby hml hZ ho eT => instNo X hx hZ ho w1 eT E F (g := mkF m pc ls (.ref a :: st)) rfl rfl (hb hby hd)
theorem r_acmp (ok : Ok Z K EL own code maxL ret nm R l w Q) {cd : ACond} {x y : Value} {o : Int} {same : Bool} (h1 : x.isRef = true) (h2 : y.isRef = true) (hd : decode code pc = .ok (.if_acmp cd o, 3)) (hq : decide (x = y) = same) (ho : 0 ≤ (pc : Int) + o) (hp : pc' = if acV cd same = true then ((pc : Int) + o).toNat else pc + 3) (hr : Run Z K ph h n1 n2 pc' ls st) : Run Z K ph h n1 n2 pc ls (y :: x :: st) :=
  rX ok hr fun p e s m args below meth c T locs X hx hby hZ hw eT t => acmp (g := mkF m pc ls (y :: x :: st)) X hx rfl h1 h2 rfl (hb hby hd) rfl hq ho hp
theorem r_init (ok : Ok Z K EL own code maxL ret nm R l w Q) (hp : pc + 3 = pc') {idx : Nat} {a : Addr} (hd : decode code pc = .ok (.invokespecial idx, 3)) (w1 : (Jvm.Cond.methodLink own idx Lib.objectInit).before a0 Z = true) (w2 : (Jvm.Cond.instanceMethod Lib.objectInit).before a0 Z = true) (w3 : (Jvm.Cond.code Lib.objectInit ⟨#[0xb1]⟩ 1 none).before a0 Z = true) (hls : ls.size = maxL) (hf : 1 ≤ R.frames) (hl : (st.map fun v => v.category).sum + 12 ≤ R.locals) (hr : Run Z K ph h n1 n2 pc' ls st) : Run Z K ph h n1 n2 pc ls (.ref a :: st) := by
  subst hp
  exact rT ok hr fun p e s m args below meth c T locs X hx hby hml hZ ho eT => initO X hx hZ ho w1 w2 w3 eT (g := mkF m pc ls (.ref a :: st)) rfl (by rw [hml]; exact hls) rfl (hb hby hd) hf (W := (st.map fun v => v.category).sum) (by show 2 * 0 + _ ≤ _; omega) hl
theorem r_putfield (ok : Ok Z K EL own code maxL ret nm R l w Q) (hp : pc + 3 = pc') {R0 O n d host C : String} {idx kk : Nat} {ty : FieldType} {a : Addr} {v old : Value} (hd : decode code pc = .ok (.putfield idx, 3)) (w1 : (Jvm.Cond.fieldLink own idx R0 n d).before a0 Z = true ∨ (Jvm.Cond.fieldLinkNest own idx R0 n d host).before a0 Z = true) (via : Via Z R0 O n d) (w2 : (Jvm.Cond.lays C O n d).before a0 Z = true ∨ ((Jvm.Cond.laysFinal C O n d).before a0 Z = true ∧ own = O ∧ nm = "<init>")) (w3 : (Jvm.Cond.instantiable C kk).before a0 Z = true)
    (F : Fld Z h a O n d old) (E : Exa Z h a C) (g : Z.heap.size ≤ a) (hty : parseFieldDescriptor d = some ty) (hn : narrow ty v = v) (hf : fits ty v = true) (hr : ∀ h', Wr h h' a (RoadKit.slotOf Z O n d) v → Fld Z h' a O n d v → Exa Z h' a C → Run Z K ph h' n1 n2 pc' ls st) : Run Z K ph h n1 n2 pc ls (v :: .ref a :: st) := by
  subst hp
  refine rH ok (P := fun h' => Wr h h' a (RoadKit.slotOf Z O n d) v) (m1 := n1) (m2 := n2) (fun p e s m args below meth c T locs X hx hby hml hZ ho hnm eT X0 => ?_) (fun h' q => hr h' q (F.same q) (E.wr q))
  obtain ⟨T', h', X', e', W, st'⟩ := putF X hx hZ ho w1 via eT F E (w2.imp id fun q => ⟨q.1, q.2.1, hnm.trans q.2.2⟩) w3 hty hn hf (g := mkF m pc ls (v :: .ref a :: st)) rfl rfl (hb hby hd)
  exact ⟨T', h', _, X', e', (fun y hy => by cases List.mem_singleton.mp hy; exact g), Nat.le_of_eq W.size.symm, ext_wr X0 W g, W, st'⟩
theorem r_putfieldN (ok : Ok Z K EL own code maxL ret nm R l w Q) (hp : pc + 3 = pc') {R0 O n d C : String} {idx kk : Nat} {ty : FieldType} {a : Addr} {v v' old : Value} (hd : decode code pc = .ok (.putfield idx, 3)) (w1 : (Jvm.Cond.fieldLink own idx R0 n d).before a0 Z = true) (via : Via Z R0 O n d) (w2 : (Jvm.Cond.lays C O n d).before a0 Z = true ∨ ((Jvm.Cond.laysFinal C O n d).before a0 Z = true ∧ own = O ∧ nm = "<init>")) (w3 : (Jvm.Cond.instantiable C kk).before a0 Z = true)
    (F : Fld Z h a O n d old) (E : Exa Z h a C) (g : Z.heap.size ≤ a) (hty : parseFieldDescriptor d = some ty) (hn : narrow ty v = v') (hf : fits ty v' = true) (hr : ∀ h', Wr h h' a (RoadKit.slotOf Z O n d) v' → Fld Z h' a O n d v' → Exa Z h' a C → Run Z K ph h' n1 n2 pc' ls st) : Run Z K ph h n1 n2 pc ls (v :: .ref a :: st) := by
  subst hp
  refine rH ok (P := fun h' => Wr h h' a (RoadKit.slotOf Z O n d) v') (m1 := n1) (m2 := n2) (fun p e s m args below meth c T locs X hx hby hml hZ ho hnm eT X0 => ?_) (fun h' q => hr h' q (F.same q) (E.wr q))
  obtain ⟨T', h', X', e', W, st'⟩ := putFN X hx hZ ho w1 via eT F E (w2.imp id fun q => ⟨q.1, q.2.1, hnm.trans q.2.2⟩) w3 hty hn hf (g := mkF m pc ls (v :: .ref a :: st)) rfl rfl (hb hby hd)
  exact ⟨T', h', _, X', e', (fun y hy => by cases List.mem_singleton.mp hy; exact g), Nat.le_of_eq W.size.symm, ext_wr X0 W g, W, st'⟩
/-- an array's length -/
theorem r_arraylength (ok : Ok Z K EL own code maxL ret nm R l w Q) (hp : pc + 1 = pc') {a : Addr} {k : ClassId} {ty : FieldType} {n : Int32} {vs : List Value} {dv : Value} (hd : decode code pc = .ok (.arraylength, 1)) (A : Arv Z h a k ty n vs dv) (hr : Run Z K ph h n1 n2 pc' ls (.int n :: st)) : Run Z K ph h n1 n2 pc ls (.ref a :: st) := by
  subst hp
  obtain ⟨cl, Ar, q, S, N, H, G⟩ := A
  exact rX ok hr fun p e s m args below meth c T locs X hx hby hZ ho eT t ht => X.arraylength hx (a := a) (cell := cl) (ty := ty) (by rw [eT]; exact Ar.1) (State.isArrayOf_alike hZ.alike Ar.2.1) (g := mkF m pc ls (.ref a :: st)) rfl rfl (hb hby hd) t (by rw [len_of S N]; exact ht)
/-- an element's place -/
theorem getD_at {c : Cell} {vs : List Value} {dv : Value} {j n : Int32} (S : c.slots.size = n.toNatClampNeg) (H : Has c vs dv) (q : ¬ j < 0 ∧ j < n) : c.slots[j.toNatClampNeg]? = some (vs.getD j.toNatClampNeg dv) := H.at (inb_of S q) rfl
theorem r_caload (ok : Ok Z K EL own code maxL ret nm R l w Q) (hp : pc + 1 = pc') {a : Addr} {k : ClassId} {n j : Int32} {vs : List Value} {v dv : Value} (hd : decode code pc = .ok (.caload, 1)) (A : Arv Z h a k .char n vs dv) (q : ¬ j < 0 ∧ j < n) (hv : vs.getD j.toNatClampNeg dv = v) (hr : Run Z K ph h n1 n2 pc' ls (v :: st)) : Run Z K ph h n1 n2 pc ls (.int j :: .ref a :: st) := by
  subst hp
  obtain ⟨cl, Ar, q1, S, N, H, G⟩ := A
  exact rX ok hr fun p e s m args below meth c T locs X hx hby hZ ho eT t => X.caload hx (j := j) (v := v) (by rw [eT]; exact Ar.1) (State.isArrayOf_alike hZ.alike Ar.2.1) Ar.2.2 (inb_of S q) (H.at (inb_of S q) hv) (g := mkF m pc ls (.int j :: .ref a :: st)) rfl rfl (hb hby hd) t
theorem r_baload (ok : Ok Z K EL own code maxL ret nm R l w Q) (hp : pc + 1 = pc') {a : Addr} {k : ClassId} {n j : Int32} {vs : List Value} {v dv : Value} (hd : decode code pc = .ok (.baload, 1)) (A : Arv Z h a k .byte n vs dv) (q : ¬ j < 0 ∧ j < n) (hv : vs.getD j.toNatClampNeg dv = v) (hr : Run Z K ph h n1 n2 pc' ls (v :: st)) : Run Z K ph h n1 n2 pc ls (.int j :: .ref a :: st) := by
  subst hp
  obtain ⟨cl, Ar, q1, S, N, H, G⟩ := A
  exact rX ok hr fun p e s m args below meth c T locs X hx hby hZ ho eT t => X.baloadBytes hx (j := j) (v := v) (by rw [eT]; exact Ar.1) (State.isArrayOf_alike hZ.alike Ar.2.1) Ar.2.2 (inb_of S q) (H.at (inb_of S q) hv) (g := mkF m pc ls (.int j :: .ref a :: st)) rfl rfl (hb hby hd) t
theorem r_baloadZ (ok : Ok Z K EL own code maxL ret nm R l w Q) (hp : pc + 1 = pc') {a : Addr} {k : ClassId} {n j : Int32} {vs : List Value} {v dv : Value} (hd : decode code pc = .ok (.baload, 1)) (A : Arv Z h a k .boolean n vs dv) (q : ¬ j < 0 ∧ j < n) (hv : vs.getD j.toNatClampNeg dv = v) (hr : Run Z K ph h n1 n2 pc' ls (v :: st)) : Run Z K ph h n1 n2 pc ls (.int j :: .ref a :: st) := by
  subst hp
  obtain ⟨cl, Ar, q1, S, N, H, G⟩ := A
  exact rX ok hr fun p e s m args below meth c T locs X hx hby hZ ho eT t => X.baloadBooleans hx (j := j) (v := v) (by rw [eT]; exact Ar.1) (State.isArrayOf_alike hZ.alike Ar.2.1) Ar.2.2 (inb_of S q) (H.at (inb_of S q) hv) (g := mkF m pc ls (.int j :: .ref a :: st)) rfl rfl (hb hby hd) t
theorem r_aaload (ok : Ok Z K EL own code maxL ret nm R l w Q) (hp : pc + 1 = pc') {a : Addr} {k : ClassId} {ty : FieldType} {n j : Int32} {vs : List Value} {v dv : Value} (hd : decode code pc = .ok (.aaload, 1)) (hty : ty.isReference = true) (A : Arv Z h a k ty n vs dv) (q : ¬ j < 0 ∧ j < n) (hv : vs.getD j.toNatClampNeg dv = v) (hr : Run Z K ph h n1 n2 pc' ls (v :: st)) : Run Z K ph h n1 n2 pc ls (.int j :: .ref a :: st) := by
  subst hp
  obtain ⟨cl, Ar, q1, S, N, H, G⟩ := A
  exact rX ok hr fun p e s m args below meth c T locs X hx hby hZ ho eT t => X.aaload hx (j := j) (v := v) (by rw [eT]; exact Ar.1) (State.isArrayOf_alike hZ.alike Ar.2.1) hty Ar.2.2 (inb_of S q) (H.at (inb_of S q) hv) (g := mkF m pc ls (.int j :: .ref a :: st)) rfl rfl (hb hby hd) t
/-- stores into arrays -/
theorem r_castore (ok : Ok Z K EL own code maxL ret nm R l w Q) (hp : pc + 1 = pc') {a : Addr} {k : ClassId} {n j x : Int32} {vs : List Value} {dv : Value} (i : Nat) (hd : decode code pc = .ok (.castore, 1)) (A : Arv Z h a k .char n vs dv) (g : Z.heap.size ≤ a) (q : ¬ j < 0 ∧ j < n) (hj : j.toNatClampNeg = i) (hi : i < vs.length) (hr : ∀ h', Wr h h' a j.toNatClampNeg (.int (nar .char x)) → Arv Z h' a k .char n (vs.set i (.int (nar .char x))) dv → Run Z K ph h' n1 n2 pc' ls st) : Run Z K ph h n1 n2 pc ls (.int x :: .int j :: .ref a :: st) := by
  subst hp
  obtain ⟨cl, Ar, q1, S, N, H, G⟩ := A
  refine rH ok (P := fun h' => Wr h h' a j.toNatClampNeg (.int (nar .char x))) (m1 := n1) (m2 := n2) (fun p e s m args below meth c T locs X hx hby hml hZ ho hnm eT X0 => ?_) (fun h' W => hr h' W (Arv.set Ar q1 S N H G (fits_nar_char _) W i hj hi))
  obtain ⟨T', h', X', e', W, st'⟩ := stC X hx hZ eT Ar (inb_of S q) (g := mkF m pc ls (.int x :: .int j :: .ref a :: st)) rfl rfl (hb hby hd)
  exact ⟨T', h', _, X', e', (fun y hy => by cases List.mem_singleton.mp hy; exact g), Nat.le_of_eq W.size.symm, ext_wr X0 W g, W, st'⟩
theorem r_bastore (ok : Ok Z K EL own code maxL ret nm R l w Q) (hp : pc + 1 = pc') {a : Addr} {k : ClassId} {n j x : Int32} {vs : List Value} {dv : Value} (i : Nat) (hd : decode code pc = .ok (.bastore, 1)) (A : Arv Z h a k .byte n vs dv) (g : Z.heap.size ≤ a) (q : ¬ j < 0 ∧ j < n) (hj : j.toNatClampNeg = i) (hi : i < vs.length) (hr : ∀ h', Wr h h' a j.toNatClampNeg (.int (nar .byte x)) → Arv Z h' a k .byte n (vs.set i (.int (nar .byte x))) dv → Run Z K ph h' n1 n2 pc' ls st) : Run Z K ph h n1 n2 pc ls (.int x :: .int j :: .ref a :: st) := by
  subst hp
  obtain ⟨cl, Ar, q1, S, N, H, G⟩ := A
  refine rH ok (P := fun h' => Wr h h' a j.toNatClampNeg (.int (nar .byte x))) (m1 := n1) (m2 := n2) (fun p e s m args below meth c T locs X hx hby hml hZ ho hnm eT X0 => ?_) (fun h' W => hr h' W (Arv.set Ar q1 S N H G (fits_nar_byte _) W i hj hi))
  obtain ⟨T', h', X', e', W, st'⟩ := stB X hx hZ eT Ar (inb_of S q) (g := mkF m pc ls (.int x :: .int j :: .ref a :: st)) rfl rfl (hb hby hd)
  exact ⟨T', h', _, X', e', (fun y hy => by cases List.mem_singleton.mp hy; exact g), Nat.le_of_eq W.size.symm, ext_wr X0 W g, W, st'⟩
theorem r_aastore (ok : Ok Z K EL own code maxL ret nm R l w Q) (hp : pc + 1 = pc') {a : Addr} {k : ClassId} {ty : FieldType} {n j : Int32} {v : Value} {vs : List Value} {dv : Value} (i : Nat) (hd : decode code pc = .ok (.aastore, 1)) (hty : ty.isReference = true) (A : Arv Z h a k ty n vs dv) (F : Sto Z h a v) (hv : fits ty v = true) (g : Z.heap.size ≤ a) (q : ¬ j < 0 ∧ j < n) (hj : j.toNatClampNeg = i) (hi : i < vs.length) (hr : ∀ h', Wr h h' a j.toNatClampNeg v → Arv Z h' a k ty n (vs.set i v) dv → Run Z K ph h' n1 n2 pc' ls st) : Run Z K ph h n1 n2 pc ls (v :: .int j :: .ref a :: st) := by
  subst hp
  obtain ⟨cl, Ar, q1, S, N, H, G⟩ := A
  refine rH ok (P := fun h' => Wr h h' a j.toNatClampNeg v) (m1 := n1) (m2 := n2) (fun p e s m args below meth c T locs X hx hby hml hZ ho hnm eT X0 => ?_) (fun h' W => hr h' W (Arv.set Ar q1 S N H G hv W i hj hi))
  obtain ⟨T', h', X', e', W, st'⟩ := stR X hx hZ eT Ar (inb_of S q) hty F (g := mkF m pc ls (v :: .int j :: .ref a :: st)) rfl rfl (hb hby hd)
  exact ⟨T', h', _, X', e', (fun y hy => by cases List.mem_singleton.mp hy; exact g), Nat.le_of_eq W.size.symm, ext_wr X0 W g, W, st'⟩
/-- constants out of the pool -/
theorem r_ldcI (ok : Ok Z K EL own code maxL ret nm R l w Q) (hp : pc + 2 = pc') {idx : Nat} {v : Int32} (hd : decode code pc = .ok (.ldc idx, 2)) (w1 : (Jvm.Cond.constant own idx v).before a0 Z = true) (hr : Run Z K ph h n1 n2 pc' ls (.int v :: st)) : Run Z K ph h n1 n2 pc ls st := by
  subst hp; exact rX ok hr fun p e s m args below meth c T locs X hx hby hZ ho eT t => X.ldcI hx ho (mv hZ w1) (g := mkF m pc ls st) rfl (hb hby hd)

/-- what a call leaves, of a walk that hasn't interned | that may have -/
theorem rCall (ok : Ok Z K EL own code maxL ret nm R l w Q) {w' : Bool} {EL' : Els} {k n : Nat} {as : Array Value} {rest : List Value} {Q' : Option Value → Heap → Prop} (hww : w' = true → w = true) (hEL : EL' = [] ∨ EL' = EL ∧ ∀ s v, ph s v → v = s.vm)
    (f0 : w' = false → ∀ (p : Program) (e : Env) (s : State) (m : MethodId) (args : Array Value) (below : List Frame) (meth : Method) (c : Code) (T : State) (locs : List Loc), Stand p l e R s m args below meth c T locs n1 n2 → p.tables.exec = Jvm.exec → c.code = code → c.maxLocals = maxL → Z.Warmed39 s.vm → s.vm.findClass own = some m.cls → T.heap = h → CHv Z EL' s.vm Z.heap → Ext Z.heap h →
      ∃ (v : Option Value) (vm₁ : Vm) (B : Pt), Stand p l e R s m args below meth c B.U B.locs B.cells B.slots ∧ (∃ L, Pst Z h.size Q' v B.U.heap L ∧ B.locs = locs ++ L ∧ B.cells = n1 + k ∧ B.slots = n2 + n) ∧ ∀ t, Steps p.tables e below (B.U.setTop (mkF m pc' ls (v.toList ++ rest))) t → Steps p.tables e below (T.setTop (mkF m pc ls st)) t)
    (f1 : w' = true → ∀ (p : Program) (e : Env) (s : State) (m : MethodId) (args : Array Value) (below : List Frame) (meth : Method) (c : Code) (T : State) (locs : List Loc), Stand p l e R s m args below meth c T locs n1 n2 → p.tables.exec = Jvm.exec → c.code = code → c.maxLocals = maxL → Z.Warmed39 s.vm → s.vm.findClass own = some m.cls → T.heap = h → CHv Z EL' s.vm Z.heap → Ext Z.heap h →
      ∃ (v : Option Value) (vm₁ : Vm) (B : Pt), Stand p l e R (s.setVm B.U.vm) m args below meth c B.U B.locs B.cells B.slots ∧ s.Since B.U.vm B.U.heap.size ∧ (∃ L, Pst Z h.size Q' v B.U.heap L ∧ B.locs = locs ++ L ∧ B.cells = n1 + k ∧ B.slots = n2 + n) ∧ ∀ t, Steps p.tables e below (B.U.setTop (mkF m pc' ls (v.toList ++ rest))) t → Steps p.tables e below (T.setTop (mkF m pc ls st)) t)
    (hr : ∀ v h', Q' v h' → h.size ≤ h'.size → Run Z K (PhA w' ph) h' (n1 + k) (n2 + n) pc' ls (v.toList ++ rest)) : Run Z K ph h n1 n2 pc ls st := by
  obtain ⟨p, l1, e, R1, s, m, args, below, meth, c, w1, Q1⟩ := K
  obtain ⟨hx, hby, hml, ho, hret, hlk, hnm, rfl, rfl, rfl, rfl, hCH⟩ := ok
  intro T X W
  obtain ⟨vm0, k0, locs, S, hS, hk, hZ, hF, eT, hw⟩ := W
  have hC : CHv Z EL' (s.setVm vm0).vm Z.heap := by
    rcases hEL with rfl | ⟨rfl, q⟩
    · exact chv_nil
    · rw [q _ _ hw]; exact hCH
  cases w'
  · obtain ⟨v, vm₁, ⟨U, Lq, c1, s1⟩, S', ⟨L, ⟨hq, hL, hX', hle⟩, e1, e2, e3⟩, hst⟩ := f0 rfl p e (s.setVm vm0) m args below meth c T locs S hx hby hml hZ (ho vm0 hZ) eT hC X
    dsimp only [Pt.U, Pt.locs, Pt.cells, Pt.slots] at S' hq hX' hle e1 e2 e3 hst
    subst e1 e2 e3
    obtain ⟨s₂, o, h1, r⟩ := hr v U.heap hq hle U hX' ⟨vm0, k0, _, S', hS, by rw [eT] at hk; exact Nat.le_trans hk hle, hZ, hF.app hL, rfl, hw⟩
    exact ⟨s₂, o, hst _ h1, r⟩
  · obtain ⟨v, vm₁, ⟨U, Lq, c1, s1⟩, S', hS', ⟨L, ⟨hq, hL, hX', hle⟩, e1, e2, e3⟩, hst⟩ := f1 rfl p e (s.setVm vm0) m args below meth c T locs S hx hby hml hZ (ho vm0 hZ) eT hC X
    dsimp only [Pt.U, Pt.locs, Pt.cells, Pt.slots] at S' hS' hq hX' hle e1 e2 e3 hst
    subst e1 e2 e3
    obtain ⟨s₂, o, h1, r⟩ := hr v U.heap hq hle U hX' ⟨U.vm, U.heap.size, _, S', hS.trans hS' (by rw [eT] at hk; exact Nat.le_trans hk hle), Nat.le_refl _, State.Warmed39.trans (t := s.setVm vm0) hZ hS'.1, hF.app hL, rfl, trivial⟩
    exact ⟨s₂, o, hst _ h1, r⟩
section Calls
variable {y : MethodName} {idx : Nat} {bytes : ByteArray} {mL : Nat} {rt : Option FieldType} {ps : List FieldType} {rty : Option FieldType} {w' : Bool} {EL' : Els} {W k n : Nat} {as : Array Value} {Q' : Option Value → Heap → Prop} {argsL rest : List Value}
theorem r_static (ok : Ok Z K EL own code maxL ret nm R l w Q) (hp : pc + 3 = pc') (hd : decode code pc = .ok (.invokestatic idx, 3)) (w1 : (Jvm.Cond.methodLink own idx y).before a0 Z = true) (w2 : (Jvm.Cond.static y).before a0 Z = true) (w3 : (Jvm.Cond.initialized y.cls).before a0 Z = true) (w4 : (Jvm.Cond.code y bytes mL rt).before a0 Z = true)
    (hy : y.cls ≠ "java/lang/invoke/MethodHandle" ∧ y.cls ≠ "java/lang/invoke/VarHandle") (pd : parseMethodDescriptor y.desc = some ⟨ps, rty⟩) (pay : Pay Z EL' w' l R y 3 W as h k n Q') (hww : w' = true → w = true) (hEL : EL' = [] ∨ EL' = EL ∧ ∀ s v, ph s v → v = s.vm) (hls : ls.size = maxL) (has : argsL.toArray = as) (hst : st = argsL.reverse ++ rest) (hlen : argsL.length = ps.length) (hW : (rest.map fun v => v.category).sum ≤ W) (hc : n1 + k ≤ R.cells) (hn : n2 + n ≤ R.slots)
    (hr : ∀ v h', Q' v h' → h.size ≤ h'.size → Run Z K (PhA w' ph) h' (n1 + k) (n2 + n) pc' ls (v.toList ++ rest)) : Run Z K ph h n1 n2 pc ls st := by
  subst hp has
  refine rCall ok (w' := w') (as := argsL.toArray) hww hEL (fun hw0 p e s m args below meth c T locs S hx hby hml hZ ho eT hC X => ?_) (fun hw0 p e s m args below meth c T locs S hx hby hml hZ ho eT hC X => ?_) hr
  · subst hw0
    obtain ⟨v, vm₁, B, -, S', hQ, hst'⟩ := Jvm.LawKit.callS S hx ho (mvT hZ w1) (mvT hZ w2) (mvT hZ w3) (mvT hZ w4) hy (pay p e below s args hZ hC X) (g := mkF m pc ls st) rfl (by rw [hml]; exact hls) (argsL := argsL) (rest := rest) (lenOf pd hlen) hst (by show 2 * 0 + _ ≤ _; omega) (hb hby hd) (fun _ _ => ⟨rfl, eT, hc, hn⟩)
    exact ⟨v, vm₁, B, S', hQ, hst'⟩
  · subst hw0
    obtain ⟨v, vm₁, B, -, S', hS, -, hQ, hst'⟩ := callSS S hx ho (mvT hZ w1) (mvT hZ w2) (mvT hZ w3) (mvT hZ w4) hy (pay p e below s args hZ hC X) (g := mkF m pc ls st) rfl (by rw [hml]; exact hls) (argsL := argsL) (rest := rest) (lenOf pd hlen) hst (by show 2 * 0 + _ ≤ _; omega) (hb hby hd) (fun _ _ => ⟨rfl, eT, hc, hn⟩)
    exact ⟨v, vm₁, B, S', hS, hQ, fun t ht => hst'.trans ht⟩
theorem r_special {a : Addr} (ok : Ok Z K EL own code maxL ret nm R l w Q) (hp : pc + 3 = pc') (hd : decode code pc = .ok (.invokespecial idx, 3)) (hy1 : y.name = "<init>") (w1 : (Jvm.Cond.methodLink own idx y).before a0 Z = true) (w2 : (Jvm.Cond.instanceMethod y).before a0 Z = true) (w4 : (Jvm.Cond.code y bytes mL none).before a0 Z = true)
    (hy : y.cls ≠ "java/lang/invoke/MethodHandle" ∧ y.cls ≠ "java/lang/invoke/VarHandle") (pd : parseMethodDescriptor y.desc = some ⟨ps, rty⟩) (pay : Pay Z EL' w' l R y 3 W as h k n Q') (hww : w' = true → w = true) (hEL : EL' = [] ∨ EL' = EL ∧ ∀ s v, ph s v → v = s.vm) (hls : ls.size = maxL) (has : (.ref a :: argsL).toArray = as) (hst : st = argsL.reverse ++ .ref a :: rest) (hlen : argsL.length = ps.length) (hW : (rest.map fun v => v.category).sum ≤ W) (hc : n1 + k ≤ R.cells) (hn : n2 + n ≤ R.slots)
    (hr : ∀ v h', Q' v h' → h.size ≤ h'.size → Run Z K (PhA w' ph) h' (n1 + k) (n2 + n) pc' ls (v.toList ++ rest)) : Run Z K ph h n1 n2 pc ls st := by
  subst hp has
  refine rCall ok (w' := w') (as := (.ref a :: argsL).toArray) hww hEL (fun hw0 p e s m args below meth c T locs S hx hby hml hZ ho eT hC X => ?_) (fun hw0 p e s m args below meth c T locs S hx hby hml hZ ho eT hC X => ?_) hr
  · subst hw0
    obtain ⟨v, vm₁, B, -, S', hQ, hst'⟩ := S.specialBack hx hy1 ho (mvT hZ w1) (mvT hZ w2) (mvT hZ w4) hy (pay p e below s args hZ hC X) (g := mkF m pc ls st) rfl (by rw [hml]; exact hls) (Steps.refl _) (a := a) (argsL := argsL) (rest := rest) (lenOf pd hlen) hst (by show 2 * 0 + _ ≤ _; omega) (hb hby hd) (fun _ _ => ⟨rfl, eT, hc, hn⟩)
    exact ⟨v, vm₁, B, S', hQ, fun t ht => hst'.trans ht⟩
  · subst hw0
    obtain ⟨v, vm₁, B, -, S', hS, -, hQ, hst'⟩ := S.specialBackS hx hy1 ho (mvT hZ w1) (mvT hZ w2) (mvT hZ w4) hy (pay p e below s args hZ hC X) (g := mkF m pc ls st) rfl (by rw [hml]; exact hls) (Steps.refl _) (a := a) (argsL := argsL) (rest := rest) (lenOf pd hlen) hst (by show 2 * 0 + _ ≤ _; omega) (hb hby hd) (fun _ _ => ⟨rfl, eT, hc, hn⟩)
    exact ⟨v, vm₁, B, S', hS, hQ, fun t ht => hst'.trans ht⟩
theorem r_virtual {a : Addr} {C : String} {z : MethodName} (ok : Ok Z K EL own code maxL ret nm R l w Q) (hp : pc + 3 = pc') (hd : decode code pc = .ok (.invokevirtual idx, 3)) (w1 : (Jvm.Cond.methodLink own idx y).before a0 Z = true) (w2 : (Jvm.Cond.declares y).before a0 Z = true) (w3 : (Jvm.Cond.selects C y z).before a0 Z = true) (w4 : (Jvm.Cond.instanceMethod z).before a0 Z = true) (nf : ∀ (s : State), Z.Warmed39 s.vm → NotFace s y) (E : Exa Z h a C)
    (hy : y.cls ≠ "java/lang/invoke/MethodHandle" ∧ y.cls ≠ "java/lang/invoke/VarHandle") (pd : parseMethodDescriptor y.desc = some ⟨ps, rty⟩) (pay : Pay Z EL' w' l R z 3 W as h k n Q') (hww : w' = true → w = true) (hEL : EL' = [] ∨ EL' = EL ∧ ∀ s v, ph s v → v = s.vm) (hls : ls.size = maxL) (has : (.ref a :: argsL).toArray = as) (hst : st = argsL.reverse ++ .ref a :: rest) (hlen : argsL.length = ps.length) (hW : (rest.map fun v => v.category).sum ≤ W) (hc : n1 + k ≤ R.cells) (hn : n2 + n ≤ R.slots)
    (hr : ∀ v h', Q' v h' → h.size ≤ h'.size → Run Z K (PhA w' ph) h' (n1 + k) (n2 + n) pc' ls (v.toList ++ rest)) : Run Z K ph h n1 n2 pc ls st := by
  subst hp has
  refine rCall ok (w' := w') (as := (.ref a :: argsL).toArray) hww hEL (fun hw0 p e s m args below meth c T locs S hx hby hml hZ ho eT hC X => ?_) (fun hw0 p e s m args below meth c T locs S hx hby hml hZ ho eT hC X => ?_) hr
  · subst hw0
    obtain ⟨cq, kq, qa, qb, qc⟩ := isOf hZ eT E
    obtain ⟨v, vm₁, B, -, S', hQ, hst'⟩ := S.virtualBack hx ho (mvT hZ w1) (mvT hZ w2) (nf s hZ) (mvT hZ w3) (mvT hZ w4) hy (pay p e below s args hZ hC X) qa qc (g := mkF m pc ls st) rfl (by rw [hml]; exact hls) (Steps.refl _) (argsL := argsL) (rest := rest) (lenOf pd hlen) hst (by show 2 * 0 + _ ≤ _; omega) (hb hby hd) (fun _ _ => ⟨rfl, eT, hc, hn⟩)
    exact ⟨v, vm₁, B, S', hQ, fun t ht => hst'.trans ht⟩
  · subst hw0
    obtain ⟨cq, kq, qa, qb, qc⟩ := isOf hZ eT E
    obtain ⟨v, vm₁, B, -, S', hS, -, hQ, hst'⟩ := S.virtualBackS hx ho (mvT hZ w1) (mvT hZ w2) (nf s hZ) (mvT hZ w3) (mvT hZ w4) hy (pay p e below s args hZ hC X) qa qc (g := mkF m pc ls st) rfl (by rw [hml]; exact hls) (Steps.refl _) (argsL := argsL) (rest := rest) (lenOf pd hlen) hst (by show 2 * 0 + _ ≤ _; omega) (hb hby hd) (fun _ _ => ⟨rfl, eT, hc, hn⟩)
    exact ⟨v, vm₁, B, S', hS, hQ, fun t ht => hst'.trans ht⟩
theorem nf_sel {C : String} {z : MethodName} (w3 : (Jvm.Cond.selects C y y).before a0 Z = true) : ∀ (s : State), Z.Warmed39 s.vm → NotFace s y := fun s hZ => notFace_of_selects (args := #[]) (mvT hZ w3)
end Calls
theorem cV {rest : List Value} {m1 m2 : Nat} {Q' : Value → Heap → Prop} (f : ∀ x h', Q' x h' → h.size ≤ h'.size → Run Z K ph h' m1 m2 pc ls (x :: rest)) : ∀ v h', rV Q' v h' → h.size ≤ h'.size → Run Z K ph h' m1 m2 pc ls (v.toList ++ rest) := by
  rintro _ h' ⟨x, rfl, q⟩ hl; exact f x h' q hl
theorem cU {rest : List Value} {m1 m2 : Nat} {Q' : Heap → Prop} (f : ∀ h', Q' h' → h.size ≤ h'.size → Run Z K ph h' m1 m2 pc ls rest) : ∀ v h', rU Q' v h' → h.size ≤ h'.size → Run Z K ph h' m1 m2 pc ls (v.toList ++ rest) := by
  rintro _ h' ⟨rfl, q⟩ hl; exact f h' q hl
theorem r_gen {x : Int32} (hr : ∀ z, z = x → Run Z K ph h n1 n2 pc ls (.int z :: st)) : Run Z K ph h n1 n2 pc ls (.int x :: st) := hr x rfl
theorem r_genL {x : Int64} (hr : ∀ z, z = x → Run Z K ph h n1 n2 pc ls (.long z :: st)) : Run Z K ph h n1 n2 pc ls (.long x :: st) := hr x rfl
theorem Pay.more {y : MethodName} {len W k n k' n' : Nat} {as : Array Value} {Q' : Option Value → Heap → Prop} (H : Pay Z EL false l R y len W as h k n Q') (hk : k ≤ k') (hn : n ≤ n') : Pay Z EL false l R y len W as h k' n' Q' := by
  intro p e below s args hZ H0 X m meth c A g ig mk a S hg hsize hdg hW hnm hp
  obtain ⟨v, B, S', ⟨L, q, e1, e2, e3⟩, hs⟩ := H p e below s args hZ H0 X m meth c A g ig mk a S hg hsize hdg hW hnm ⟨hp.1, hp.2.1, by have := hp.2.2.1; omega, by have := hp.2.2.2; omega⟩
  exact ⟨v, (B.U, B.locs, A.cells + k', A.slots + n'), Stand.more S' (by show B.cells ≤ A.cells + k'; rw [e2]; omega) (by show B.slots ≤ A.slots + n'; rw [e3]; omega), ⟨L, q, e1, rfl, rfl⟩, hs⟩
/-- a String constant that may be new to the machine -/
theorem r_ldcS (ok : Ok Z K EL own code maxL ret nm R l true Q) (hp : pc + 2 = pc') {idx : Nat} {text : String} (n : Nat) (hd : decode code pc = .ok (.ldc idx, 2)) (w1 : (Jvm.Cond.stringLink own idx text).before a0 Z = true) (wS : ∀ a ∈ Bundle.stringAtoms, a.before a0 Z = true) (hn : 4 * text.toList.length ≤ n) (hbig : n ≤ 536870912) (hc : n1 + 2 ≤ R.cells) (hl : n2 + (n + 4) ≤ R.slots)
    (hr : ∀ h' a, Ext h h' → Run Z K Dty h' (n1 + 2) (n2 + (n + 4)) pc' ls (.ref a :: st)) : Run Z K ph h n1 n2 pc ls st := by
  subst hp
  obtain ⟨p, l1, e, R1, s, m, args, below, meth, c, w1', Q1⟩ := K
  obtain ⟨hx, hby, hml, ho, hret, hlk, hnm, rfl, rfl, rfl, rfl, hCH⟩ := ok
  intro T X W
  obtain ⟨vm0, k0, locs, S, hS, hk, hZ, hF, eT, hw⟩ := W
  obtain ⟨a, T', h', k1, S', e', E, hS', hk', hZ', -, hst⟩ := ldcS S hx hZ (ho vm0 hZ) w1 wS eT hS (by rw [eT] at hk; exact hk) (g := mkF m pc ls st) rfl (hb hby hd) hn hbig hc hl
  obtain ⟨s₂, o, h1, r⟩ := hr h' a E T' (ext_trans X E) ⟨T'.vm, k1, locs, S', hS', by rw [e']; exact hk', hZ', hF, e', trivial⟩
  exact ⟨s₂, o, hst _ h1, r⟩
/-- a String constant, read, where nothing has been interned so far; and the same once more behind it -/
theorem r_ldcL (ok : Ok Z K EL own code maxL ret nm R l true Q) (hp : pc + 2 = pc') {idx : Nat} {text : String} (n : Nat) {vs : List Value} {z : Int32} (hd : decode code pc = .ok (.ldc idx, 2)) (w1 : (Jvm.Cond.stringLink own idx text).before a0 Z = true) (wS : ∀ a ∈ Bundle.stringAtoms, a.before a0 Z = true) (hEL : EW Z a0 EL) (hmem : (own, idx) ∈ EL) (hcl : ∀ s v, ph s v → v = s.vm) (ht : (∀ c ∈ text.toList, c.toNat < 256) ∧ text.toList.map (fun c => Value.int (Jvm.Lit.byteI c.toNat.toUInt16)) = vs) (hz : ¬ z < 0) (hvl : z.toNatClampNeg = vs.length) (hn : 4 * text.toList.length ≤ n) (hbig : n ≤ 536870912) (hc : n1 + 2 ≤ R.cells) (hl : n2 + (n + 4) ≤ R.slots)
    (hr : ∀ h' a b k, Ext h h' → Exa Z h' a "java/lang/String" → Fld Z h' a "java/lang/String" "coder" "B" (.int 0) → Fld Z h' a "java/lang/String" "value" "[B" (.ref b) → Arv Z h' b k .byte z vs (.int 0) → Run Z K (fun s v => Lit (s.setVm v) own idx a) h' (n1 + 2) (n2 + (n + 4)) pc' ls (.ref a :: st)) : Run Z K ph h n1 n2 pc ls st := by
  subst hp
  obtain ⟨p, l1, e, R1, s, m, args, below, meth, c, w1', Q1⟩ := K
  obtain ⟨hx, hby, hml, ho, hret, hlk, hnm, rfl, rfl, rfl, rfl, hCH⟩ := ok
  intro T X W
  obtain ⟨vm0, k0, locs, S, hS, hk, hZ, hF, eT, hw⟩ := W
  have hC : CHv Z EL vm0 h := by rw [hcl _ _ hw]; exact hCH.ext X
  obtain ⟨a, T', h', k1, b, k, S', e', E, hS', hk', hZ', -, q1, q2, q3, q4, -, -, -, hL, -, hst⟩ := ldcCH S hx hZ (ho vm0 hZ) w1 wS eT hS (by rw [eT] at hk; exact hk) hEL hmem hC ht hz hvl (g := mkF m pc ls st) rfl (hb hby hd) hn hbig hc hl
  obtain ⟨s₂, o, h1, r⟩ := hr h' a b k E q1 q2 q3 q4 T' (ext_trans X E) ⟨T'.vm, k1, locs, S', hS', by rw [e']; exact hk', hZ', hF, e', hL⟩
  exact ⟨s₂, o, hst _ h1, r⟩
theorem r_ldcAgain (ok : Ok Z K EL own code maxL ret nm R l w Q) (hp : pc + 2 = pc') {idx : Nat} {text : String} {a : Addr} (hd : decode code pc = .ok (.ldc idx, 2)) (w1 : (Jvm.Cond.stringLink own idx text).before a0 Z = true) (hph : ∀ s v, ph s v → Lit (s.setVm v) own idx a) (hr : Run Z K ph h n1 n2 pc' ls (.ref a :: st)) : Run Z K ph h n1 n2 pc ls st := by
  subst hp
  obtain ⟨p, l1, e, R1, s, m, args, below, meth, c, w1', Q1⟩ := K
  obtain ⟨hx, hby, hml, ho, hret, hlk, hnm, rfl, rfl, rfl, rfl, hCH⟩ := ok
  intro T X W
  obtain ⟨s₂, o, h1, r⟩ := hr T X W
  obtain ⟨vm0, k0, locs, S, hS, hk, hZ, hF, eT, hw⟩ := W
  exact ⟨s₂, o, ldcAgain S hx hZ (ho vm0 hZ) w1 (hph _ _ hw) (g := mkF m pc ls st) rfl (hb hby hd) _ h1, r⟩
/-- getClass through an interface; a Class constant -/
theorem r_getClassI {a mr : Addr} {C : String} {xi : MethodName} {idx count : Nat} (ok : Ok Z K EL own code maxL ret nm R l w Q) (hp : pc + 5 = pc') (hd : decode code pc = .ok (.invokeinterface idx count, 5)) (w1 : (Jvm.Cond.methodLink own idx xi).before a0 Z = true) (w2 : (Jvm.Cond.declares Jvm.Stand.gcN).before a0 Z = true) (w3 : (Jvm.Cond.interfaceMethod xi.cls "java/lang/Object" xi.name xi.desc).before a0 Z = true) (w4 : (Jvm.Cond.selects C xi Jvm.Stand.gcN).before a0 Z = true) (w5 : (Jvm.Cond.instanceMethod Jvm.Stand.gcN).before a0 Z = true) (w6 : (Jvm.Cond.publicMethod Jvm.Stand.gcN).before a0 Z = true) (w7 : (Jvm.Cond.unhidden C xi.name xi.desc).before a0 Z = true) (w8 : (Jvm.Cond.castable C xi.cls).before a0 Z = true) (w9 : (Jvm.Cond.native Jvm.Stand.gcN).before a0 Z = true) (hx1 : xi.cls ≠ "java/lang/invoke/MethodHandle" ∧ xi.cls ≠ "java/lang/invoke/VarHandle") (hx2 : xi.cls ≠ "java/lang/Object") (hx3 : xi.name = "getClass") (hx4 : xi.desc = "()Ljava/lang/Class;") (E : Exa Z h a C) (M : Mir Z C mr) (hls : ls.size = maxL) (hf : 1 ≤ R.frames) (hl : (st.map fun v => v.category).sum + (nativeFrameWords "java/lang/Object" "getClass" 1 + 11) ≤ R.locals) (hr : Run Z K ph h n1 n2 pc' ls (.ref mr :: st)) : Run Z K ph h n1 n2 pc ls (.ref a :: st) := by
  subst hp
  refine rT ok hr fun p e s m args below meth c T locs X hx hby hml hZ ho eT => ?_
  obtain ⟨cB, kB, i1, i2, i3⟩ := isOf hZ eT E
  obtain ⟨cc, kc, m1, m2, m3, -⟩ := M
  obtain ⟨k', q, ek⟩ := hZ.alike.2.2 _ _ m2
  have i1' := i1
  rw [hZ.alike.findClass] at i1'
  cases i1'.symm.trans m1
  obtain ⟨vm', X', st'⟩ := X.getClassOfI hx ho (mvT hZ w1) (mvT hZ w2) (Jvm.Free.ULB.iface_rides hZ.alike w3) (mvT hZ w4) (mvT hZ w5) (mvT hZ w6) (mvT hZ w7) (mvT hZ w8) (mvT hZ w9) hx1 hx2 hx3 hx4 i1 q i3 (mir := mr) (by rw [ek]; exact m3) (g := mkF m pc ls (.ref a :: st)) rfl (by rw [hml]; exact hls) rfl (hb hby hd) hf (by show 2 * 0 + _ + _ ≤ _; omega)
  exact ⟨_, X', eT, st'⟩
theorem r_ldcMir {mr : Addr} {C : String} {idx : Nat} (ok : Ok Z K EL own code maxL ret nm R l w Q) (hp : pc + 2 = pc') (hd : decode code pc = .ok (.ldc idx, 2)) (w1 : (Jvm.Cond.classLink own idx C).before a0 Z = true) (M : Mir Z C mr) (hr : Run Z K ph h n1 n2 pc' ls (.ref mr :: st)) : Run Z K ph h n1 n2 pc ls st := by
  subst hp
  refine rT ok hr fun p e s m args below meth c T locs X hx hby hml hZ ho eT => ?_
  obtain ⟨cc, kc, m1, m2, m3, -⟩ := M
  obtain ⟨k', q, ek⟩ := hZ.alike.2.2 _ _ m2
  have hev : (Term.mirror C).eval args s none [] s = some (.ref mr) := by
    have f1 : s.vm.findClass C = some cc := by rw [hZ.alike.findClass]; exact m1
    have f2 : k'.mirror = some mr := by rw [ek]; exact m3
    simp [Term.eval, f1, q, f2]
  obtain ⟨vm', X', st'⟩ := X.ldcMirror hx ho (mvT hZ w1) hev (g := mkF m pc ls st) rfl (hb hby hd)
  exact ⟨_, X', eT, st'⟩
theorem r_ph {ph' : Ph} (q : ∀ s v, ph s v → ph' s v) (hr : Run Z K ph' h n1 n2 pc ls st) : Run Z K ph h n1 n2 pc ls st := by
  obtain ⟨p, l1, e, R1, s, m, args, below, meth, c, w1', Q1⟩ := K
  intro T X W
  obtain ⟨vm0, k0, locs, S, hS, hk, hZ, hF, eT, hw⟩ := W
  exact hr T X ⟨vm0, k0, locs, S, hS, hk, hZ, hF, eT, q _ _ hw⟩

/-! small numbers as ints -/
theorem ofN_toInt {n : Nat} (h : n < 2 ^ 31) : (Int32.ofNat n).toInt = (n : Int) := Int32.toInt_ofNat_of_lt h
theorem ofN_lt {i n : Nat} (hi : i < 2 ^ 31) (hn : n < 2 ^ 31) : Int32.ofNat i < Int32.ofNat n ↔ i < n := by
  rw [Int32.lt_iff_toInt_lt, ofN_toInt hi, ofN_toInt hn]; omega
theorem ofN_nn {n : Nat} (h : n < 2 ^ 31) : ¬ Int32.ofNat n < 0 := by
  rw [Int32.lt_iff_toInt_lt, ofN_toInt h]; show ¬ (n : Int) < 0; omega
theorem ofN_inj {i n : Nat} (hi : i < 2 ^ 31) (hn : n < 2 ^ 31) (e : Int32.ofNat i = Int32.ofNat n) : i = n := by
  have := congrArg Int32.toInt e
  rw [ofN_toInt hi, ofN_toInt hn] at this; omega
theorem ofN_nat {n : Nat} (h : n < 2 ^ 31) : (Int32.ofNat n).toNatClampNeg = n := by
  show (Int32.ofNat n).toInt.toNat = n
  rw [ofN_toInt h]; rfl
theorem ofN_eq {x : Int32} {n : Nat} (hn : n < 2 ^ 31) (e : x.toInt = (n : Int)) : x = Int32.ofNat n := by
  apply Int32.toInt_inj.mp; rw [e, ofN_toInt hn]
theorem ofN_add {i n : Nat} (h : i + n < 2 ^ 31) : Int32.ofNat i + Int32.ofNat n = Int32.ofNat (i + n) := by
  apply ofN_eq h
  have := c_iadd (Int32.ofNat i) (Int32.ofNat n)
  have r := rng32 (Int32.ofNat i + Int32.ofNat n)
  rw [ofN_toInt (by omega), ofN_toInt (by omega)] at this
  omega

end Walk
theorem own_ne {a b : Addr} {n : Nat} (h : a < n) (e : b = n) : a ≠ b := fun q => Nat.lt_irrefl n (by rw [q, e] at h; exact h)
theorem own_ne' {a b : Addr} {n : Nat} (h : a < n) (e : n ≤ b) : a ≠ b := fun q => Nat.lt_irrefl n (Nat.lt_of_le_of_lt e (by rw [q] at h; exact h))

/-! new String(char[]) as a payer -/
theorem own_c255 (x : Int32) : ¬ nar .char ((x &&& (255 : Int32)).toUInt32.toUInt16.toUInt32.toInt32) < 0 ∧ ¬ (255 : Int32) < nar .char ((x &&& (255 : Int32)).toUInt32.toUInt16.toUInt32.toInt32) := by
  have a := c_mask x 255 8 (by decide) (by decide)
  have b := c_i2c (x &&& (255 : Int32))
  have c := c_i2c ((x &&& (255 : Int32)).toUInt32.toUInt16.toUInt32.toInt32)
  have e0 : (0 : Int32).toInt = 0 := rfl
  have e255 : (255 : Int32).toInt = 255 := rfl
  rw [Int32.lt_iff_toInt_lt, Int32.lt_iff_toInt_lt, e0, e255]
  show ¬ (((x &&& (255 : Int32)).toUInt32.toUInt16.toUInt32.toInt32).toUInt32.toUInt16.toUInt32.toInt32).toInt < 0 ∧ ¬ (255 : Int) < (((x &&& (255 : Int32)).toUInt32.toUInt16.toUInt32.toInt32).toUInt32.toUInt16.toUInt32.toInt32).toInt
  omega
abbrev strN : MethodName := ⟨"java/lang/String", "<init>", "([C)V"⟩
theorem payStr (l : Launch) (Z : State) (a0 : Array Value) (hw : ∀ d ∈ tables_1, d.before a0 Z = true) (R : Room) {W : Nat} (cap : Nat) {h : Heap} {x b : Addr} {kC : ClassId} {cs : List Int32} {d v0 c0 : Value} {z N : Int32} (hws : ∀ d ∈ StrChars.Road.words, d ∈ tables_1) {kI : Nat} (wi : (Jvm.Cond.instantiable "java/lang/String" kI).before a0 Z = true) (hx0 : Z.heap.size ≤ x) (E : Exa Z h x "java/lang/String") (V : Fld Z h x "java/lang/String" "value" "[B" v0) (C : Fld Z h x "java/lang/String" "coder" "B" c0) (K : Arv Z h b kC .char N (cs.map Value.int) d)
    (S : Sta Z Z.heap "java/lang/String" "COMPACT_STRINGS" "Z" (.int z)) (hz : ¬ z = 0) (hN : N = Int32.ofNat cs.length) (l0 : 0 < cs.length) (hcap : cs.length ≤ cap) (l2 : cap ≤ 4000) (hp : ∀ c ∈ cs, ¬ c < 0 ∧ ¬ (255 : Int32) < c) (hfr : 4 ≤ R.frames) (hlo : W + 65 ≤ R.locals) :
    Pay Z [] false l R strN 3 W #[.ref x, .ref b] h 1 cap (rU fun h' => Keep h h' [x] ∧ Exa Z h' x "java/lang/String" ∧ Fld Z h' x "java/lang/String" "coder" "B" (.int 0) ∧ ∃ (t : Addr) (kb : ClassId), Z.heap.size ≤ t ∧ h.size ≤ t ∧ ¬ t = x ∧ Fld Z h' x "java/lang/String" "value" "[B" (.ref t) ∧ Arv Z h' t kb .byte N ((cs.map fun c => c.toInt8.toInt32).map Value.int) (.int 0)) := by
  refine Pay.more (n := cs.length) (k := 1) ?_ (Nat.le_refl _) hcap
  intro p e below s args hZ _ X
  refine Back.mono (StrChars.Road.backV (n0 := Z.heap.size) hZ (fun d hd => hw d (hws d hd)) wi hx0 X.1 E V C K (S.ext X) hz rfl hN l0 (Nat.le_trans hcap l2) hp rfl hfr hlo) (fun A a q => q) (fun A a v B hp' hq => ?_)
  obtain ⟨L, ⟨q1, q2, q3, q4, q5, t, kb, q6, q7, q8, q9, q10⟩, r⟩ := hq
  exact ⟨L, ⟨⟨q1, q3, q4, q5, t, kb, q6, q7, q8, q9, q10⟩, q2, ext_keep X q3 (fun y hy => by cases List.mem_singleton.mp hy; exact hx0), q3.1⟩, r⟩

/-! THE PLAIN LAW: what the scanner answers on such a text -/
def pv (d : Nat → Nat) : Nat → Nat
  | 0 => 0
  | j + 1 => 10 * pv d j + d j
def TokOk (d : Nat → Nat) (n f : Nat) : Prop := f ≤ n ∧ (∀ j, j < n → d j ≤ 9) ∧ (∀ j, j < f → pv d (j + 1) ≤ 255 ∧ (j = 0 ∨ d 0 ≠ 0)) ∧ (f < n → 255 < pv d (f + 1) ∨ (0 < f ∧ d 0 = 0))
def scanF (C : Nat → Int) (start : Nat) : Nat → Nat → Int → Nat ⊕ Nat
  | 0, pos, _ => .inr pos
  | f + 1, pos, v => if 48 ≤ C pos ∧ C pos ≤ 57 then (if 255 < v * 10 + C pos - 48 ∨ (C start = 48 ∧ start < pos) then .inl pos else scanF C start f (pos + 1) (v * 10 + C pos - 48)) else .inr pos
def octF (C : Nat → Int) (to start : Nat) : Nat ⊕ Nat := match scanF C start (to - start) start 0 with
  | .inl p => .inl p
  | .inr p => if p = start then .inl p else .inr p
def restF (C : Nat → Int) (to : Nat) : Nat → Nat → Int
  | 0, pos => if pos = to then -1 else pos
  | r + 1, pos => if pos = to ∨ ¬ C pos = 46 then pos else match octF C to (pos + 1) with
    | .inl p => p
    | .inr p => restF C to r p
def ffR (C : Nat → Int) (fr to : Nat) : Int := match octF C to fr with
  | .inl p => p
  | .inr p => restF C to 3 p
theorem scan_run {C : Nat → Int} {s to : Nat} {d : Nat → Nat} : ∀ m : Nat, s + m ≤ to → (∀ j, j < m → C (s + j) = 48 + (d j : Int) ∧ d j ≤ 9 ∧ pv d (j + 1) ≤ 255 ∧ (j = 0 ∨ d 0 ≠ 0)) → scanF C s (to - s) s 0 = scanF C s (to - (s + m)) (s + m) (pv d m)
  | 0, _, _ => rfl
  | m + 1, hm, H => by
    rw [scan_run m (by omega) (fun j hj => H j (by omega))]
    obtain ⟨h1, h2, h3, h4⟩ := H m (by omega)
    obtain ⟨g1, -, -, -⟩ := H 0 (by omega)
    have e : to - (s + m) = (to - (s + (m + 1))) + 1 := by omega
    rw [e, scanF, if_pos (by omega)]
    have hp : (pv d m : Int) * 10 + C (s + m) - 48 = (pv d (m + 1) : Nat) := by
      rw [h1, pv]; omega
    rw [if_neg, hp]
    · rfl
    · rw [hp]
      intro q
      rcases q with q | ⟨q, r⟩
      · omega
      · have : s + 0 = s := by omega
        rw [this] at g1
        rcases h4 with h4 | h4
        · omega
        · omega
theorem oct_stop {C : Nat → Int} {s to m : Nat} {d : Nat → Nat} (hm : s + m ≤ to) (H : ∀ j, j < m → C (s + j) = 48 + (d j : Int) ∧ d j ≤ 9 ∧ pv d (j + 1) ≤ 255 ∧ (j = 0 ∨ d 0 ≠ 0)) (hs : s + m = to ∨ ¬ (48 ≤ C (s + m) ∧ C (s + m) ≤ 57)) : octF C to s = if m = 0 then .inl (s + m) else .inr (s + m) := by
  have e : scanF C s (to - s) s 0 = .inr (s + m) := by
    rw [scan_run m hm H]
    rcases hs with q | q
    · rw [show to - (s + m) = 0 by omega]; rfl
    · by_cases z : s + m = to
      · rw [show to - (s + m) = 0 by omega]; rfl
      · rw [show to - (s + m) = (to - (s + m) - 1) + 1 by omega, scanF, if_neg q]
  rw [octF, e]
  by_cases z : m = 0
  · subst z; simp
  · simp [z]
theorem oct_fault {C : Nat → Int} {s to m : Nat} {d : Nat → Nat} (hm : s + m < to) (H : ∀ j, j < m → C (s + j) = 48 + (d j : Int) ∧ d j ≤ 9 ∧ pv d (j + 1) ≤ 255 ∧ (j = 0 ∨ d 0 ≠ 0)) (hc : C (s + m) = 48 + (d m : Int)) (h9 : d m ≤ 9) (hf : 255 < pv d (m + 1) ∨ (0 < m ∧ d 0 = 0)) : octF C to s = .inl (s + m) := by
  have e : scanF C s (to - s) s 0 = .inl (s + m) := by
    rw [scan_run m (by omega) H, show to - (s + m) = (to - (s + m) - 1) + 1 by omega, scanF, if_pos (by omega), if_pos]
    rcases hf with q | ⟨q, r⟩
    · rw [pv] at q; left; omega
    · right
      obtain ⟨g1, -, -, -⟩ := H 0 q
      rw [show s + 0 = s by omega] at g1
      omega
  rw [octF, e]
theorem own_main {C T : Nat → Int} {d : Nat → Nat → Nat} {n s : Nat → Nat} {fr to len k f p F : Nat} {rc : Int} {rp ht : Prop} (hk : k < 4)
    (s0 : s 0 = fr) (s1 : s 1 = s 0 + n 0 + 1) (s2 : s 2 = s 1 + n 1 + 1) (s3 : s 3 = s 2 + n 2 + 1)
    (tv : ∀ i, i < 4 → i ≠ k → TokOk (d i) (n i) (n i) ∧ 0 < n i) (tk : TokOk (d k) (n k) f)
    (tx : ∀ i, i < 4 → ∀ j, j < n i → T (s i + j) = 48 + (d i j : Int)) (td : ∀ i, i < 3 → T (s i + n i) = 46)
    (hlen : (ht ∧ len = s 3 + n 3 + 1 ∧ ¬ (48 ≤ T (s 3 + n 3) ∧ T (s 3 + n 3) ≤ 57)) ∨ (¬ ht ∧ len = s 3 + n 3))
    (hC1 : ∀ q, ¬ (rp ∧ q = p) → C q = T q) (hC2 : rp → C p = rc) (hrc : rp → ¬ (48 ≤ rc ∧ rc ≤ 57) ∧ rc ≠ 46)
    (hto : fr ≤ to ∧ to ≤ len)
    (F1 : (f < n k ∨ n k = 0) → F ≤ s k + f) (F2 : rp → fr ≤ p → F ≤ p) (F3 : ht → F ≤ s 3 + n 3)
    (F4 : F ≤ len → ((f < n k ∨ n k = 0) ∧ F = s k + f) ∨ (rp ∧ fr ≤ p ∧ F = p) ∨ (ht ∧ F = s 3 + n 3)) :
    ffR C fr to = if F < to then (F : Int) else if s 3 < to then -1 else (to : Int) := by
  -- E: the first place that isn't read
  obtain ⟨E, hE⟩ : ∃ E, E = min F to := ⟨_, rfl⟩
  have hEF : E ≤ F := by omega
  have hEt : E ≤ to := by omega
  have hE2 : E = to ∨ (E = F ∧ F < to) := by omega
  have hEC : ∀ q, fr ≤ q → q < E → C q = T q := fun q h1 h2 => hC1 q fun ⟨r1, r2⟩ => by
    have := F2 r1 (by omega)
    omega
  have mono : ∀ i, i < 3 → s (i + 1) = s i + n i + 1 := fun i hi => by
    obtain rfl | rfl | rfl : i = 0 ∨ i = 1 ∨ i = 2 := by omega
    · exact s1
    · exact s2
    · exact s3
  have lt3 : ∀ i, i < 3 → s i + n i < s 3 := fun i hi => by
    obtain rfl | rfl | rfl : i = 0 ∨ i = 1 ∨ i = 2 := by omega
    all_goals omega
  have frs : ∀ i, i < 4 → fr ≤ s i := fun i hi => by
    obtain rfl | rfl | rfl | rfl : i = 0 ∨ i = 1 ∨ i = 2 ∨ i = 3 := by omega
    all_goals omega
  have sep : ∀ i, i < 4 → i ≠ k → s k + n k < s i ∨ s i + n i < s k := fun i hi hne => by
    obtain rfl | rfl | rfl | rfl : i = 0 ∨ i = 1 ∨ i = 2 ∨ i = 3 := by omega
    all_goals
      obtain rfl | rfl | rfl | rfl : k = 0 ∨ k = 1 ∨ k = 2 ∨ k = 3 := by omega
      all_goals first | (exact absurd rfl hne) | (left; omega) | (right; omega)
  have hfn : f ≤ n k := tk.1
  have tok : ∀ i, i < 4 → ∃ g, TokOk (d i) (n i) g ∧ (i = k → g = f) ∧ (i ≠ k → g = n i ∧ 0 < n i) := fun i hi => by
    by_cases z : i = k
    · subst z; exact ⟨f, tk, fun _ => rfl, fun q => absurd rfl q⟩
    · exact ⟨n i, (tv i hi z).1, fun q => absurd q z, fun _ => ⟨rfl, (tv i hi z).2⟩⟩
  obtain ⟨res, hres⟩ : ∃ res : Int, res = if F < to then (F : Int) else if s 3 < to then -1 else (to : Int) := ⟨_, rfl⟩
  rw [← hres]
  have rE1 : E = to → s 3 < to → res = -1 := fun q r => by rw [hres, if_neg (by omega), if_pos r]
  have rE2 : E = to → ¬ s 3 < to → res = (to : Int) := fun q r => by rw [hres, if_neg (by omega), if_neg r]
  have rE3 : E = F → F < to → res = (F : Int) := fun q r => by rw [hres, if_pos r]
  have P : ∀ r i, i + r = 3 → s i ≤ E → (match octF C to (s i) with | .inl p => (p : Int) = res | .inr p => restF C to r p = res) := by
    intro r
    induction r with
    | zero =>
      intro i hi hsE
      obtain rfl : i = 3 := by omega
      obtain ⟨g, ⟨q1, q2, q3, q4⟩, q5, q6⟩ := tok 3 (by omega)
      by_cases hlt : E < s 3 + n 3
      · obtain ⟨m, hm⟩ : ∃ m, E = s 3 + m := ⟨E - s 3, by omega⟩
        have hmg : m ≤ g := by
          by_cases z : (3 : Nat) = k
          · have e1 := q5 z
            by_cases y : f < n k ∨ n k = 0
            · have := F1 y; subst z; omega
            · subst z; omega
          · have := q6 z; omega
        have H : ∀ j, j < m → C (s 3 + j) = 48 + (d 3 j : Int) ∧ d 3 j ≤ 9 ∧ pv (d 3) (j + 1) ≤ 255 ∧ (j = 0 ∨ d 3 0 ≠ 0) := fun j hj =>
          ⟨by rw [hEC _ (by have := frs 3 (by omega); omega) (by omega)]; exact tx 3 (by omega) j (by omega), q2 j (by omega), (q3 j (by omega)).1, (q3 j (by omega)).2⟩
        have stop : (s 3 + m = to ∨ ¬ (48 ≤ C (s 3 + m) ∧ C (s 3 + m) ≤ 57)) → (match octF C to (s 3) with | .inl p => (p : Int) = res | .inr p => restF C to 0 p = res) := fun st => by
          rw [oct_stop (by omega) H st]
          rcases hE2 with y | ⟨y1, y2⟩
          · by_cases z : m = 0
            · rw [if_pos z]; show ((s 3 + m : Nat) : Int) = res
              rw [rE2 y (by omega)]; omega
            · rw [if_neg z]; show restF C to 0 (s 3 + m) = res
              rw [restF, if_pos (by omega), rE1 y (by omega)]
          · by_cases z : m = 0
            · rw [if_pos z]; show ((s 3 + m : Nat) : Int) = res
              rw [rE3 y1 y2]; omega
            · rw [if_neg z]; show restF C to 0 (s 3 + m) = res
              rw [restF, if_neg (by omega), rE3 y1 y2]; omega
        rcases hE2 with y | ⟨y1, y2⟩
        · exact stop (Or.inl (by omega))
        · by_cases z : rp ∧ s 3 + m = p
          · exact stop (Or.inr (by rw [z.2, hC2 z.1]; exact (hrc z.1).1))
          · have hk3 : 3 = k ∧ m = f ∧ f < n k := by
              rcases F4 (by omega) with ⟨u1, u2⟩ | ⟨u1, u2, u3⟩ | ⟨u1, u2⟩
              · by_cases w : (3 : Nat) = k
                · subst w; omega
                · have := sep 3 (by omega) w; omega
              · exact absurd ⟨u1, by omega⟩ z
              · omega
            obtain ⟨w1, w2, w3⟩ := hk3
            have e1 := q5 w1
            rw [oct_fault (by omega) H (by rw [hC1 _ z]; exact tx 3 (by omega) m (by omega)) (q2 m (by omega)) (by have := q4 (by rw [e1, ← w2]; omega); rw [e1, ← w2] at this; exact this)]
            show ((s 3 + m : Nat) : Int) = res
            rw [rE3 y1 y2]; omega
      · have hgn : g = n 3 := by
          by_cases z : (3 : Nat) = k
          · have e1 := q5 z
            by_cases y : f < n k ∨ n k = 0
            · have := F1 y; subst z; omega
            · subst z; omega
          · exact (q6 z).1
        have H : ∀ j, j < n 3 → C (s 3 + j) = 48 + (d 3 j : Int) ∧ d 3 j ≤ 9 ∧ pv (d 3) (j + 1) ≤ 255 ∧ (j = 0 ∨ d 3 0 ≠ 0) := fun j hj =>
          ⟨by rw [hEC _ (by have := frs 3 (by omega); omega) (by omega)]; exact tx 3 (by omega) j hj, q2 j hj, (q3 j (by omega)).1, (q3 j (by omega)).2⟩
        have st : s 3 + n 3 = to ∨ ¬ (48 ≤ C (s 3 + n 3) ∧ C (s 3 + n 3) ≤ 57) := by
          by_cases y : s 3 + n 3 = to
          · exact Or.inl y
          · right
            by_cases z : rp ∧ s 3 + n 3 = p
            · rw [z.2, hC2 z.1]; exact (hrc z.1).1
            · rw [hC1 _ z]
              rcases hlen with u | u
              · exact u.2.2
              · omega
        rw [oct_stop (by omega) H st]
        by_cases z : n 3 = 0
        · rw [if_pos z]; show ((s 3 + n 3 : Nat) : Int) = res
          have hk3 : (3 : Nat) = k := Classical.byContradiction fun w => by have := (q6 w).2; omega
          have := F1 (Or.inr (by rw [← hk3]; exact z))
          have : f = 0 := by rw [← hk3] at hfn; omega
          rw [← hk3] at *
          rcases hE2 with y | ⟨y1, y2⟩
          · rw [rE2 y (by omega)]; omega
          · rw [rE3 y1 y2]; omega
        · rw [if_neg z]; show restF C to 0 (s 3 + n 3) = res
          by_cases y : s 3 + n 3 = to
          · rw [restF, if_pos y, rE1 (by omega) (by omega)]
          · rw [restF, if_neg y]
            rcases hlen with u | u
            · have := F3 u.1
              rw [rE3 (by omega) (by omega)]; omega
            · omega
    | succ r ih =>
      intro i hi hsE
      have hi3 : i < 3 := by omega
      have hnx := mono i hi3
      have hl3 := lt3 i hi3
      obtain ⟨g, ⟨q1, q2, q3, q4⟩, q5, q6⟩ := tok i (by omega)
      have hfr := frs i (by omega)
      by_cases hlt : E < s i + n i
      · obtain ⟨m, hm⟩ : ∃ m, E = s i + m := ⟨E - s i, by omega⟩
        have hmg : m ≤ g := by
          by_cases z : i = k
          · have e1 := q5 z
            by_cases y : f < n k ∨ n k = 0
            · have := F1 y; subst z; omega
            · subst z; omega
          · have := q6 z; omega
        have H : ∀ j, j < m → C (s i + j) = 48 + (d i j : Int) ∧ d i j ≤ 9 ∧ pv (d i) (j + 1) ≤ 255 ∧ (j = 0 ∨ d i 0 ≠ 0) := fun j hj =>
          ⟨by rw [hEC _ (by omega) (by omega)]; exact tx i (by omega) j (by omega), q2 j (by omega), (q3 j (by omega)).1, (q3 j (by omega)).2⟩
        have stop : (s i + m = to ∨ ¬ (48 ≤ C (s i + m) ∧ C (s i + m) ≤ 57)) → (s i + m = to ∨ ¬ C (s i + m) = 46) → (match octF C to (s i) with | .inl p => (p : Int) = res | .inr p => restF C to (r + 1) p = res) := fun st st2 => by
          have hv : ((s i + m : Nat) : Int) = res := by
            rcases hE2 with y | ⟨y1, y2⟩
            · rw [rE2 y (by omega)]; omega
            · rw [rE3 y1 y2]; omega
          rw [oct_stop (by omega) H st]
          by_cases z : m = 0
          · rw [if_pos z]; exact hv
          · rw [if_neg z]; show restF C to (r + 1) (s i + m) = res
            rw [restF, if_pos st2]; exact hv
        rcases hE2 with y | ⟨y1, y2⟩
        · exact stop (Or.inl (by omega)) (Or.inl (by omega))
        · by_cases z : rp ∧ s i + m = p
          · exact stop (Or.inr (by rw [z.2, hC2 z.1]; exact (hrc z.1).1)) (Or.inr (by rw [z.2, hC2 z.1]; exact (hrc z.1).2))
          · have hk3 : i = k ∧ m = f ∧ f < n k := by
              rcases F4 (by omega) with ⟨u1, u2⟩ | ⟨u1, u2, u3⟩ | ⟨u1, u2⟩
              · by_cases w : i = k
                · subst w; omega
                · have := sep i (by omega) w; omega
              · exact absurd ⟨u1, by omega⟩ z
              · omega
            obtain ⟨w1, w2, w3⟩ := hk3
            have e1 := q5 w1
            rw [oct_fault (by omega) H (by rw [hC1 _ z]; exact tx i (by omega) m (by subst w1; omega)) (q2 m (by subst w1; omega)) (by have := q4 (by rw [e1]; subst w1; omega); rw [e1, ← w2] at this; exact this)]
            show ((s i + m : Nat) : Int) = res
            rw [rE3 y1 y2]; omega
      · have hgn : g = n i := by
          by_cases z : i = k
          · have e1 := q5 z
            by_cases y : f < n k ∨ n k = 0
            · have := F1 y; subst z; omega
            · subst z; omega
          · exact (q6 z).1
        have H : ∀ j, j < n i → C (s i + j) = 48 + (d i j : Int) ∧ d i j ≤ 9 ∧ pv (d i) (j + 1) ≤ 255 ∧ (j = 0 ∨ d i 0 ≠ 0) := fun j hj =>
          ⟨by rw [hEC _ (by omega) (by omega)]; exact tx i (by omega) j hj, q2 j hj, (q3 j (by omega)).1, (q3 j (by omega)).2⟩
        have st : s i + n i = to ∨ ¬ (48 ≤ C (s i + n i) ∧ C (s i + n i) ≤ 57) := by
          by_cases y : s i + n i = to
          · exact Or.inl y
          · right
            by_cases z : rp ∧ s i + n i = p
            · rw [z.2, hC2 z.1]; exact (hrc z.1).1
            · rw [hC1 _ z, td i hi3]; omega
        rw [oct_stop (by omega) H st]
        by_cases z : n i = 0
        · rw [if_pos z]; show ((s i + n i : Nat) : Int) = res
          have hki : i = k := Classical.byContradiction fun w => by have := (q6 w).2; omega
          have := F1 (Or.inr (by rw [← hki]; exact z))
          have : f = 0 := by rw [← hki] at hfn; omega
          subst hki
          rcases hE2 with y | ⟨y1, y2⟩
          · rw [rE2 y (by omega)]; omega
          · rw [rE3 y1 y2]; omega
        · rw [if_neg z]; show restF C to (r + 1) (s i + n i) = res
          by_cases y : E = s i + n i
          · have hv : ((s i + n i : Nat) : Int) = res := by
              rcases hE2 with y | ⟨y1, y2⟩
              · rw [rE2 y (by omega)]; omega
              · rw [rE3 y1 y2]; omega
            rw [restF, if_pos]
            · exact hv
            · rcases hE2 with y3 | ⟨y1, y2⟩
              · left; omega
              · right
                rcases F4 (by omega) with ⟨u1, u2⟩ | ⟨u1, u2, u3⟩ | ⟨u1, u2⟩
                · exfalso
                  by_cases w : i = k
                  · subst w; omega
                  · have := sep i (by omega) w; omega
                · rw [show s i + n i = p by omega, hC2 u1]; exact (hrc u1).2
                · omega
          · rw [restF, if_neg]
            · have := ih (i + 1) (by omega) (by omega)
              rw [hnx] at this
              revert this
              cases octF C to (s i + n i + 1) <;> exact fun q => q
            · intro q
              rcases q with q | q
              · omega
              · exact q (by rw [hEC _ (by omega) (by omega)]; exact td i hi3)
  have hP := P 3 0 (by omega) (by
    rcases hE2 with y | ⟨y1, y2⟩
    · omega
    · rcases F4 (by omega) with ⟨u1, u2⟩ | ⟨u1, u2, u3⟩ | ⟨u1, u2⟩
      · have := frs k hk; omega
      · omega
      · have := frs 3 (by omega); omega)
  rw [s0] at hP
  rw [ffR]
  cases hO : octF C to fr with
  | inl p => rw [hO] at hP; exact hP
  | inr p => rw [hO] at hP; exact hP

theorem pn_0 : plainName "com/example/fundort/fundort/util/Ipv4AddressFirstFaultPinLaw" = true := by first | (simp [plainName, overriddenIn]; done) | decide +kernel
theorem pn_1 : plainName "java/lang/String" = true := by first | (simp [plainName, overriddenIn]; done) | decide +kernel
theorem pn_2 : plainName "java/lang/StringUTF16" = true := by first | (simp [plainName, overriddenIn]; done) | decide +kernel
theorem pn_3 : plainName "com/example/fundort/fundort/util/Ipv4Address" = true := by first | (simp [plainName, overriddenIn]; done) | decide +kernel
theorem pn_4 : plainName "java/lang/StringLatin1" = true := by first | (simp [plainName, overriddenIn]; done) | decide +kernel
theorem pn_5 : plainName "jdk/internal/util/Preconditions" = true := by first | (simp [plainName, overriddenIn]; done) | decide +kernel
theorem pn_6 : plainName "com/example/fundort/fundort/util/CharClass" = true := by first | (simp [plainName, overriddenIn]; done) | decide +kernel
theorem pd_0 : parseMethodDescriptor "(C)Z" = some ⟨[.char], some .boolean⟩ := by decide +kernel
theorem pd_1 : parseMethodDescriptor "([CIIIIII)I" = some ⟨[(.array .char), .int, .int, .int, .int, .int, .int], some .int⟩ := by decide +kernel
theorem pd_2 : parseMethodDescriptor "(II)I" = some ⟨[.int, .int], some .int⟩ := by decide +kernel
theorem pd_3 : parseMethodDescriptor "([C)V" = some ⟨[(.array .char)], none⟩ := by decide +kernel
theorem pd_4 : parseMethodDescriptor "([CIILjava/lang/Void;)V" = some ⟨[(.array .char), .int, .int, (.object "java/lang/Void")], none⟩ := by decide +kernel
theorem pd_5 : parseMethodDescriptor "()V" = some ⟨[], none⟩ := by decide +kernel
theorem pd_6 : parseMethodDescriptor "([CII)[B" = some ⟨[(.array .char), .int, .int], some (.array .byte)⟩ := by decide +kernel
theorem pd_7 : parseMethodDescriptor "([CI[BII)I" = some ⟨[(.array .char), .int, (.array .byte), .int, .int], some .int⟩ := by decide +kernel
theorem pd_8 : parseMethodDescriptor "([BI)B" = some ⟨[(.array .byte), .int], some .byte⟩ := by decide +kernel
theorem pd_9 : parseMethodDescriptor "(Ljava/lang/String;II)I" = some ⟨[(.object "java/lang/String"), .int, .int], some .int⟩ := by decide +kernel
theorem pd_10 : parseMethodDescriptor "(I)C" = some ⟨[.int], some .char⟩ := by decide +kernel
theorem pd_11 : parseMethodDescriptor "()Z" = some ⟨[], some .boolean⟩ := by decide +kernel
theorem pd_12 : parseMethodDescriptor "([BI)C" = some ⟨[(.array .byte), .int], some .char⟩ := by decide +kernel
theorem pd_13 : parseMethodDescriptor "(II)V" = some ⟨[.int, .int], none⟩ := by decide +kernel
theorem pd_14 : parseMethodDescriptor "(IILjava/util/function/BiFunction;)I" = some ⟨[.int, .int, (.object "java/util/function/BiFunction")], some .int⟩ := by decide +kernel
theorem pd_15 : parseMethodDescriptor "(IIIII)Z" = some ⟨[.int, .int, .int, .int, .int], some .boolean⟩ := by decide +kernel
abbrev LW : String := "com/example/fundort/fundort/util/Ipv4AddressFirstFaultPinLaw"
abbrev CC : String := "com/example/fundort/fundort/util/CharClass"
abbrev ST : String := "java/lang/String"
abbrev RZ : Room := { frames := 0, cells := 0, slots := 0, locals := 0 }
theorem lti {x y : Int32} : x < y ↔ x.toInt < y.toInt := Int32.lt_iff_toInt_lt
def dI (sp i : Int32) : Int32 := (((sp.toUInt32 >>> (((3 : Int32) + (4 : Int32) * i) &&& 31).toUInt32).toInt32) &&& (15 : Int32)) % (10 : Int32)
def dN (sp : Int32) (j : Nat) : Nat := (dI sp (Int32.ofNat j)).toInt.toNat
theorem dI_rng (sp i : Int32) : 0 ≤ (dI sp i).toInt ∧ (dI sp i).toInt ≤ 9 := by
  have h1 := c_mask ((sp.toUInt32 >>> (((3 : Int32) + (4 : Int32) * i) &&& 31).toUInt32).toInt32) 15 4 (by decide) (by decide)
  have h2 := c_irem ((((sp.toUInt32 >>> (((3 : Int32) + (4 : Int32) * i) &&& 31).toUInt32).toInt32) &&& (15 : Int32))) 10 10 (by decide)
  have h3 := h2.1 (by omega)
  unfold dI
  rw [h3]; omega
theorem dN_eq (sp : Int32) (j : Nat) : (dI sp (Int32.ofNat j)).toInt = (dN sp j : Int) := by
  have := dI_rng sp (Int32.ofNat j); unfold dN; omega
theorem dN_le (sp : Int32) (j : Nat) : dN sp j ≤ 9 := by
  have := dI_rng sp (Int32.ofNat j); unfold dN; omega
/-! an array of 18 chars: a token of m digits written from P on -/
def WrT (cs : List Int32) (P : Nat) (dg : Nat → Nat) (m : Nat) (cs' : List Int32) : Prop := cs'.length = 18 ∧ (∀ q, q < P ∨ P + m ≤ q → cs'.getD q 0 = cs.getD q 0) ∧ ∀ j, j < m → (cs'.getD (P + j) 0).toInt = 48 + (dg j : Int)
theorem own_setI {cs : List Int32} {i j : Nat} {v d : Int32} : (cs.set i v).getD j d = if i = j ∧ i < cs.length then v else cs.getD j d := by
  rw [List.getD_eq_getElem?_getD, List.getElem?_set]
  split
  · rename_i e; subst e
    by_cases q : i < cs.length
    · simp [q]
    · simp [q, List.getD_eq_getElem?_getD, List.getElem?_eq_none (Nat.le_of_not_lt q)]
  · rename_i e
    simp [e, List.getD_eq_getElem?_getD]
theorem WrT.zero {cs : List Int32} {P : Nat} {dg : Nat → Nat} (h : cs.length = 18) : WrT cs P dg 0 cs := ⟨h, fun _ _ => rfl, fun j hj => absurd hj (Nat.not_lt_zero _)⟩
theorem WrT.step {cs cs' : List Int32} {P m : Nat} {dg : Nat → Nat} {x : Int32} (H : WrT cs P dg m cs') (hP : P + m < 18) (hx : x.toInt = 48 + (dg m : Int)) : WrT cs P dg (m + 1) (cs'.set (P + m) x) := by
  obtain ⟨h1, h2, h3⟩ := H
  refine ⟨by rw [List.length_set]; exact h1, fun q hq => ?_, fun j hj => ?_⟩
  · rw [own_setI, if_neg (by omega)]; exact h2 q (by omega)
  · by_cases e : j = m
    · subst e; rw [own_setI, if_pos (by omega)]; exact hx
    · rw [own_setI, if_neg (by omega)]; exact h3 j (by omega)
theorem own_chr {x : Int32} (h0 : 0 ≤ x.toInt) (h1 : x.toInt ≤ 9) : (nar .char (((48 : Int32) + x).toUInt32.toUInt16.toUInt32.toInt32)).toInt = 48 + x.toInt := by
  have e48 : (48 : Int32).toInt = 48 := rfl
  have a := c_iadd (48 : Int32) x
  have r := rng32 ((48 : Int32) + x)
  have b := c_i2c ((48 : Int32) + x)
  have c := c_i2c (((48 : Int32) + x).toUInt32.toUInt16.toUInt32.toInt32)
  show ((((48 : Int32) + x).toUInt32.toUInt16.toUInt32.toInt32).toUInt32.toUInt16.toUInt32.toInt32).toInt = _
  omega
def Lat (cs : List Int32) : Prop := ∀ q, 0 ≤ (cs.getD q 0).toInt ∧ (cs.getD q 0).toInt ≤ 255
theorem Lat.set {cs : List Int32} {i : Nat} {x : Int32} (H : Lat cs) (h0 : 0 ≤ x.toInt) (h1 : x.toInt ≤ 255) : Lat (cs.set i x) := fun q => by
  rw [own_setI]; split
  · exact ⟨h0, h1⟩
  · exact H q
theorem Lat.tok {cs cs' : List Int32} {P m : Nat} {dg : Nat → Nat} (H : Lat cs) (W : WrT cs P dg m cs') (h9 : ∀ j, j < m → dg j ≤ 9) : Lat cs' := fun q => by
  by_cases e : q < P ∨ P + m ≤ q
  · rw [W.2.1 q e]; exact H q
  · obtain ⟨j, rfl⟩ : ∃ j, q = P + j := ⟨q - P, by omega⟩
    have := W.2.2 j (by omega)
    have := h9 j (by omega)
    omega
section Claim
theorem d1_0 : decode method_3_code 0 = .ok (.iload_n 0, 1) := by decide +kernel
theorem d1_1 : decode method_3_code 1 = .ok (.bipush 48, 2) := by decide +kernel
theorem d1_3 : decode method_3_code 3 = .ok (.if_icmp .lt 13, 3) := by decide +kernel
theorem d1_6 : decode method_3_code 6 = .ok (.iload_n 0, 1) := by decide +kernel
theorem d1_7 : decode method_3_code 7 = .ok (.bipush 57, 2) := by decide +kernel
theorem d1_9 : decode method_3_code 9 = .ok (.if_icmp .gt 7, 3) := by decide +kernel
theorem d1_12 : decode method_3_code 12 = .ok (.iconst 1, 1) := by decide +kernel
theorem d1_13 : decode method_3_code 13 = .ok (.goto 4, 3) := by decide +kernel
theorem d1_16 : decode method_3_code 16 = .ok (.iconst 0, 1) := by decide +kernel
theorem d1_17 : decode method_3_code 17 = .ok (.ireturn, 1) := by decide +kernel
set_option maxRecDepth 65536 in
theorem rmDg (l : Launch) (Z : State) (a0 : Array Value) (hw : ∀ d ∈ tables_1, d.before a0 Z = true) (c : Int32) (h0 : Heap) : Con l Z [] [] false (⟨"com/example/fundort/fundort/util/Ipv4AddressFirstFaultPinLaw", "isDigit", "(C)Z"⟩ : MethodName) method_3_code 1 (some .boolean) RZ #[.int c] h0 (rV fun v h => v = .int (if 48 ≤ c.toInt ∧ c.toInt ≤ 57 then 1 else 0) ∧ h0 = h) := by
  have e48 : (48 : Int32).toInt = 48 := rfl
  have e57 : (57 : Int32).toInt = 57 := rfl
  refine body (ls := #[.val (.int c)]) (plainFor_of_name pn_0) (fun m => by first | (simp [entryFrame, mkF, argsToLocals, Value.category]; done) | rfl) fun K ok => ?_
  refine r_iloadN (pc' := 1) ok rfl d1_0 rfl ?_
  refine r_bipushV (pc' := 3) ok rfl (48 : Int32) d1_1 rfl ?_
  refine r_icmp_lt (pc' := 6) (pcY := 16) ok rfl d1_3 (by decide) (by decide) ?_ ?_
  · intro hc
    rw [lti, e48] at hc
    refine r_iconstV (pc' := 17) ok rfl (0 : Int32) d1_16 rfl ?_
    refine r_ireturn ok d1_17 rfl (by simp) (by decide) (by decide) ?_
    exact ⟨by rw [if_neg (by omega)], rfl⟩
  intro hc
  rw [lti, e48] at hc
  refine r_iloadN (pc' := 7) ok rfl d1_6 rfl ?_
  refine r_bipushV (pc' := 9) ok rfl (57 : Int32) d1_7 rfl ?_
  refine r_icmp_gt (pc' := 12) (pcY := 16) ok rfl d1_9 (by decide) (by decide) ?_ ?_
  · intro hd
    rw [lti, e57] at hd
    refine r_iconstV (pc' := 17) ok rfl (0 : Int32) d1_16 rfl ?_
    refine r_ireturn ok d1_17 rfl (by simp) (by decide) (by decide) ?_
    exact ⟨by rw [if_neg (by omega)], rfl⟩
  intro hd
  rw [lti, e57] at hd
  refine r_iconstV (pc' := 13) ok rfl (1 : Int32) d1_12 rfl ?_
  refine r_goto (pc' := 17) ok d1_13 (by decide) (by decide) ?_
  refine r_ireturn ok d1_17 rfl (by simp) (by decide) (by decide) ?_
  exact ⟨by rw [if_pos (by omega)], rfl⟩
theorem d2_0 : decode method_4_code 0 = .ok (.iload_n 0, 1) := by decide +kernel
theorem d2_1 : decode method_4_code 1 = .ok (.iconst 3, 1) := by decide +kernel
theorem d2_2 : decode method_4_code 2 = .ok (.iconst 4, 1) := by decide +kernel
theorem d2_3 : decode method_4_code 3 = .ok (.iload_n 1, 1) := by decide +kernel
theorem d2_4 : decode method_4_code 4 = .ok (.imul, 1) := by decide +kernel
theorem d2_5 : decode method_4_code 5 = .ok (.iadd, 1) := by decide +kernel
theorem d2_6 : decode method_4_code 6 = .ok (.iushr, 1) := by decide +kernel
theorem d2_7 : decode method_4_code 7 = .ok (.bipush 15, 2) := by decide +kernel
theorem d2_9 : decode method_4_code 9 = .ok (.iand, 1) := by decide +kernel
theorem d2_10 : decode method_4_code 10 = .ok (.bipush 10, 2) := by decide +kernel
theorem d2_12 : decode method_4_code 12 = .ok (.irem, 1) := by decide +kernel
theorem d2_13 : decode method_4_code 13 = .ok (.ireturn, 1) := by decide +kernel
set_option maxRecDepth 65536 in
theorem rmDv (l : Launch) (Z : State) (a0 : Array Value) (hw : ∀ d ∈ tables_1, d.before a0 Z = true) (sp i : Int32) (h0 : Heap) : Con l Z [] [] false (⟨"com/example/fundort/fundort/util/Ipv4AddressFirstFaultPinLaw", "digitValue", "(II)I"⟩ : MethodName) method_4_code 2 (some .int) RZ #[.int sp, .int i] h0 (rV fun v h => v = .int (dI sp i) ∧ h0 = h) := by
  refine body (ls := #[.val (.int sp), .val (.int i)]) (plainFor_of_name pn_0) (fun m => by first | (simp [entryFrame, mkF, argsToLocals, Value.category]; done) | rfl) fun K ok => ?_
  refine r_iloadN (pc' := 1) ok rfl d2_0 rfl ?_
  refine r_iconstV (pc' := 2) ok rfl (3 : Int32) d2_1 rfl ?_
  refine r_iconstV (pc' := 3) ok rfl (4 : Int32) d2_2 rfl ?_
  refine r_iloadN (pc' := 4) ok rfl d2_3 rfl ?_
  refine r_imul (pc' := 5) ok rfl d2_4 ?_
  refine r_iadd (pc' := 6) ok rfl d2_5 ?_
  refine r_iushr (pc' := 7) ok rfl d2_6 ?_
  refine r_bipushV (pc' := 9) ok rfl (15 : Int32) d2_7 rfl ?_
  refine r_iand (pc' := 10) ok rfl d2_9 ?_
  refine r_bipushV (pc' := 12) ok rfl (10 : Int32) d2_10 rfl ?_
  refine r_irem (pc' := 13) ok rfl d2_12 (by decide) ?_
  refine r_ireturn ok d2_13 rfl (by simp) (by decide) (by decide) ?_
  exact ⟨rfl, rfl⟩
theorem d3_0 : decode method_5_code 0 = .ok (.iload_n 2, 1) := by decide +kernel
theorem d3_1 : decode method_5_code 1 = .ok (.iload_n 3, 1) := by decide +kernel
theorem d3_2 : decode method_5_code 2 = .ok (.if_icmp .ne 90, 3) := by decide +kernel
theorem d3_5 : decode method_5_code 5 = .ok (.iload 5, 2) := by decide +kernel
theorem d3_7 : decode method_5_code 7 = .ok (.iconst 1, 1) := by decide +kernel
theorem d3_8 : decode method_5_code 8 = .ok (.if_icmp .lt 16, 3) := by decide +kernel
theorem d3_11 : decode method_5_code 11 = .ok (.aload_n 0, 1) := by decide +kernel
theorem d3_12 : decode method_5_code 12 = .ok (.iload_n 1, 1) := by decide +kernel
theorem d3_13 : decode method_5_code 13 = .ok (.bipush 48, 2) := by decide +kernel
theorem d3_15 : decode method_5_code 15 = .ok (.iload 6, 2) := by decide +kernel
theorem d3_17 : decode method_5_code 17 = .ok (.iconst 0, 1) := by decide +kernel
theorem d3_18 : decode method_5_code 18 = .ok (.invokestatic 40, 3) := by decide +kernel
theorem d3_21 : decode method_5_code 21 = .ok (.iadd, 1) := by decide +kernel
theorem d3_22 : decode method_5_code 22 = .ok (.i2c, 1) := by decide +kernel
theorem d3_23 : decode method_5_code 23 = .ok (.castore, 1) := by decide +kernel
theorem d3_24 : decode method_5_code 24 = .ok (.iload 5, 2) := by decide +kernel
theorem d3_26 : decode method_5_code 26 = .ok (.iconst 2, 1) := by decide +kernel
theorem d3_27 : decode method_5_code 27 = .ok (.if_icmp .lt 18, 3) := by decide +kernel
theorem d3_30 : decode method_5_code 30 = .ok (.aload_n 0, 1) := by decide +kernel
theorem d3_31 : decode method_5_code 31 = .ok (.iload_n 1, 1) := by decide +kernel
theorem d3_32 : decode method_5_code 32 = .ok (.iconst 1, 1) := by decide +kernel
theorem d3_33 : decode method_5_code 33 = .ok (.iadd, 1) := by decide +kernel
theorem d3_34 : decode method_5_code 34 = .ok (.bipush 48, 2) := by decide +kernel
theorem d3_36 : decode method_5_code 36 = .ok (.iload 6, 2) := by decide +kernel
theorem d3_38 : decode method_5_code 38 = .ok (.iconst 1, 1) := by decide +kernel
theorem d3_39 : decode method_5_code 39 = .ok (.invokestatic 40, 3) := by decide +kernel
theorem d3_42 : decode method_5_code 42 = .ok (.iadd, 1) := by decide +kernel
theorem d3_43 : decode method_5_code 43 = .ok (.i2c, 1) := by decide +kernel
theorem d3_44 : decode method_5_code 44 = .ok (.castore, 1) := by decide +kernel
theorem d3_45 : decode method_5_code 45 = .ok (.iload 5, 2) := by decide +kernel
theorem d3_47 : decode method_5_code 47 = .ok (.iconst 3, 1) := by decide +kernel
theorem d3_48 : decode method_5_code 48 = .ok (.if_icmp .lt 18, 3) := by decide +kernel
theorem d3_51 : decode method_5_code 51 = .ok (.aload_n 0, 1) := by decide +kernel
theorem d3_52 : decode method_5_code 52 = .ok (.iload_n 1, 1) := by decide +kernel
theorem d3_53 : decode method_5_code 53 = .ok (.iconst 2, 1) := by decide +kernel
theorem d3_54 : decode method_5_code 54 = .ok (.iadd, 1) := by decide +kernel
theorem d3_55 : decode method_5_code 55 = .ok (.bipush 48, 2) := by decide +kernel
theorem d3_57 : decode method_5_code 57 = .ok (.iload 6, 2) := by decide +kernel
theorem d3_59 : decode method_5_code 59 = .ok (.iconst 2, 1) := by decide +kernel
theorem d3_60 : decode method_5_code 60 = .ok (.invokestatic 40, 3) := by decide +kernel
theorem d3_63 : decode method_5_code 63 = .ok (.iadd, 1) := by decide +kernel
theorem d3_64 : decode method_5_code 64 = .ok (.i2c, 1) := by decide +kernel
theorem d3_65 : decode method_5_code 65 = .ok (.castore, 1) := by decide +kernel
theorem d3_66 : decode method_5_code 66 = .ok (.iload 5, 2) := by decide +kernel
theorem d3_68 : decode method_5_code 68 = .ok (.iconst 4, 1) := by decide +kernel
theorem d3_69 : decode method_5_code 69 = .ok (.if_icmp .lt 18, 3) := by decide +kernel
theorem d3_72 : decode method_5_code 72 = .ok (.aload_n 0, 1) := by decide +kernel
theorem d3_73 : decode method_5_code 73 = .ok (.iload_n 1, 1) := by decide +kernel
theorem d3_74 : decode method_5_code 74 = .ok (.iconst 3, 1) := by decide +kernel
theorem d3_75 : decode method_5_code 75 = .ok (.iadd, 1) := by decide +kernel
theorem d3_76 : decode method_5_code 76 = .ok (.bipush 48, 2) := by decide +kernel
theorem d3_78 : decode method_5_code 78 = .ok (.iload 6, 2) := by decide +kernel
theorem d3_80 : decode method_5_code 80 = .ok (.iconst 3, 1) := by decide +kernel
theorem d3_81 : decode method_5_code 81 = .ok (.invokestatic 40, 3) := by decide +kernel
theorem d3_84 : decode method_5_code 84 = .ok (.iadd, 1) := by decide +kernel
theorem d3_85 : decode method_5_code 85 = .ok (.i2c, 1) := by decide +kernel
theorem d3_86 : decode method_5_code 86 = .ok (.castore, 1) := by decide +kernel
theorem d3_87 : decode method_5_code 87 = .ok (.iload_n 1, 1) := by decide +kernel
theorem d3_88 : decode method_5_code 88 = .ok (.iload 5, 2) := by decide +kernel
theorem d3_90 : decode method_5_code 90 = .ok (.iadd, 1) := by decide +kernel
theorem d3_91 : decode method_5_code 91 = .ok (.ireturn, 1) := by decide +kernel
theorem d3_92 : decode method_5_code 92 = .ok (.iload_n 2, 1) := by decide +kernel
theorem d3_93 : decode method_5_code 93 = .ok (.iload_n 3, 1) := by decide +kernel
theorem d3_94 : decode method_5_code 94 = .ok (.if_icmp .ge 7, 3) := by decide +kernel
theorem d3_97 : decode method_5_code 97 = .ok (.iload_n 2, 1) := by decide +kernel
theorem d3_98 : decode method_5_code 98 = .ok (.goto 6, 3) := by decide +kernel
theorem d3_101 : decode method_5_code 101 = .ok (.iload_n 2, 1) := by decide +kernel
theorem d3_102 : decode method_5_code 102 = .ok (.iconst 1, 1) := by decide +kernel
theorem d3_103 : decode method_5_code 103 = .ok (.isub, 1) := by decide +kernel
theorem d3_104 : decode method_5_code 104 = .ok (.istore 7, 2) := by decide +kernel
theorem d3_106 : decode method_5_code 106 = .ok (.iload 4, 2) := by decide +kernel
theorem d3_108 : decode method_5_code 108 = .ok (.bipush 8, 2) := by decide +kernel
theorem d3_110 : decode method_5_code 110 = .ok (.iload 7, 2) := by decide +kernel
theorem d3_112 : decode method_5_code 112 = .ok (.imul, 1) := by decide +kernel
theorem d3_113 : decode method_5_code 113 = .ok (.iushr, 1) := by decide +kernel
theorem d3_114 : decode method_5_code 114 = .ok (.sipush 255, 3) := by decide +kernel
theorem d3_117 : decode method_5_code 117 = .ok (.iand, 1) := by decide +kernel
theorem d3_118 : decode method_5_code 118 = .ok (.istore 8, 2) := by decide +kernel
theorem d3_120 : decode method_5_code 120 = .ok (.iload 8, 2) := by decide +kernel
theorem d3_122 : decode method_5_code 122 = .ok (.bipush 100, 2) := by decide +kernel
theorem d3_124 : decode method_5_code 124 = .ok (.if_icmp .lt 50, 3) := by decide +kernel
theorem d3_127 : decode method_5_code 127 = .ok (.aload_n 0, 1) := by decide +kernel
theorem d3_128 : decode method_5_code 128 = .ok (.iload_n 1, 1) := by decide +kernel
theorem d3_129 : decode method_5_code 129 = .ok (.bipush 48, 2) := by decide +kernel
theorem d3_131 : decode method_5_code 131 = .ok (.iload 8, 2) := by decide +kernel
theorem d3_133 : decode method_5_code 133 = .ok (.bipush 100, 2) := by decide +kernel
theorem d3_135 : decode method_5_code 135 = .ok (.idiv, 1) := by decide +kernel
theorem d3_136 : decode method_5_code 136 = .ok (.iadd, 1) := by decide +kernel
theorem d3_137 : decode method_5_code 137 = .ok (.i2c, 1) := by decide +kernel
theorem d3_138 : decode method_5_code 138 = .ok (.castore, 1) := by decide +kernel
theorem d3_139 : decode method_5_code 139 = .ok (.aload_n 0, 1) := by decide +kernel
theorem d3_140 : decode method_5_code 140 = .ok (.iload_n 1, 1) := by decide +kernel
theorem d3_141 : decode method_5_code 141 = .ok (.iconst 1, 1) := by decide +kernel
theorem d3_142 : decode method_5_code 142 = .ok (.iadd, 1) := by decide +kernel
theorem d3_143 : decode method_5_code 143 = .ok (.bipush 48, 2) := by decide +kernel
theorem d3_145 : decode method_5_code 145 = .ok (.iload 8, 2) := by decide +kernel
theorem d3_147 : decode method_5_code 147 = .ok (.bipush 10, 2) := by decide +kernel
theorem d3_149 : decode method_5_code 149 = .ok (.idiv, 1) := by decide +kernel
theorem d3_150 : decode method_5_code 150 = .ok (.bipush 10, 2) := by decide +kernel
theorem d3_152 : decode method_5_code 152 = .ok (.irem, 1) := by decide +kernel
theorem d3_153 : decode method_5_code 153 = .ok (.iadd, 1) := by decide +kernel
theorem d3_154 : decode method_5_code 154 = .ok (.i2c, 1) := by decide +kernel
theorem d3_155 : decode method_5_code 155 = .ok (.castore, 1) := by decide +kernel
theorem d3_156 : decode method_5_code 156 = .ok (.aload_n 0, 1) := by decide +kernel
theorem d3_157 : decode method_5_code 157 = .ok (.iload_n 1, 1) := by decide +kernel
theorem d3_158 : decode method_5_code 158 = .ok (.iconst 2, 1) := by decide +kernel
theorem d3_159 : decode method_5_code 159 = .ok (.iadd, 1) := by decide +kernel
theorem d3_160 : decode method_5_code 160 = .ok (.bipush 48, 2) := by decide +kernel
theorem d3_162 : decode method_5_code 162 = .ok (.iload 8, 2) := by decide +kernel
theorem d3_164 : decode method_5_code 164 = .ok (.bipush 10, 2) := by decide +kernel
theorem d3_166 : decode method_5_code 166 = .ok (.irem, 1) := by decide +kernel
theorem d3_167 : decode method_5_code 167 = .ok (.iadd, 1) := by decide +kernel
theorem d3_168 : decode method_5_code 168 = .ok (.i2c, 1) := by decide +kernel
theorem d3_169 : decode method_5_code 169 = .ok (.castore, 1) := by decide +kernel
theorem d3_170 : decode method_5_code 170 = .ok (.iload_n 1, 1) := by decide +kernel
theorem d3_171 : decode method_5_code 171 = .ok (.iconst 3, 1) := by decide +kernel
theorem d3_172 : decode method_5_code 172 = .ok (.iadd, 1) := by decide +kernel
theorem d3_173 : decode method_5_code 173 = .ok (.ireturn, 1) := by decide +kernel
theorem d3_174 : decode method_5_code 174 = .ok (.iload 8, 2) := by decide +kernel
theorem d3_176 : decode method_5_code 176 = .ok (.bipush 10, 2) := by decide +kernel
theorem d3_178 : decode method_5_code 178 = .ok (.if_icmp .lt 33, 3) := by decide +kernel
theorem d3_181 : decode method_5_code 181 = .ok (.aload_n 0, 1) := by decide +kernel
theorem d3_182 : decode method_5_code 182 = .ok (.iload_n 1, 1) := by decide +kernel
theorem d3_183 : decode method_5_code 183 = .ok (.bipush 48, 2) := by decide +kernel
theorem d3_185 : decode method_5_code 185 = .ok (.iload 8, 2) := by decide +kernel
theorem d3_187 : decode method_5_code 187 = .ok (.bipush 10, 2) := by decide +kernel
theorem d3_189 : decode method_5_code 189 = .ok (.idiv, 1) := by decide +kernel
theorem d3_190 : decode method_5_code 190 = .ok (.iadd, 1) := by decide +kernel
theorem d3_191 : decode method_5_code 191 = .ok (.i2c, 1) := by decide +kernel
theorem d3_192 : decode method_5_code 192 = .ok (.castore, 1) := by decide +kernel
theorem d3_193 : decode method_5_code 193 = .ok (.aload_n 0, 1) := by decide +kernel
theorem d3_194 : decode method_5_code 194 = .ok (.iload_n 1, 1) := by decide +kernel
theorem d3_195 : decode method_5_code 195 = .ok (.iconst 1, 1) := by decide +kernel
theorem d3_196 : decode method_5_code 196 = .ok (.iadd, 1) := by decide +kernel
theorem d3_197 : decode method_5_code 197 = .ok (.bipush 48, 2) := by decide +kernel
theorem d3_199 : decode method_5_code 199 = .ok (.iload 8, 2) := by decide +kernel
theorem d3_201 : decode method_5_code 201 = .ok (.bipush 10, 2) := by decide +kernel
theorem d3_203 : decode method_5_code 203 = .ok (.irem, 1) := by decide +kernel
theorem d3_204 : decode method_5_code 204 = .ok (.iadd, 1) := by decide +kernel
theorem d3_205 : decode method_5_code 205 = .ok (.i2c, 1) := by decide +kernel
theorem d3_206 : decode method_5_code 206 = .ok (.castore, 1) := by decide +kernel
theorem d3_207 : decode method_5_code 207 = .ok (.iload_n 1, 1) := by decide +kernel
theorem d3_208 : decode method_5_code 208 = .ok (.iconst 2, 1) := by decide +kernel
theorem d3_209 : decode method_5_code 209 = .ok (.iadd, 1) := by decide +kernel
theorem d3_210 : decode method_5_code 210 = .ok (.ireturn, 1) := by decide +kernel
theorem d3_211 : decode method_5_code 211 = .ok (.aload_n 0, 1) := by decide +kernel
theorem d3_212 : decode method_5_code 212 = .ok (.iload_n 1, 1) := by decide +kernel
theorem d3_213 : decode method_5_code 213 = .ok (.bipush 48, 2) := by decide +kernel
theorem d3_215 : decode method_5_code 215 = .ok (.iload 8, 2) := by decide +kernel
theorem d3_217 : decode method_5_code 217 = .ok (.iadd, 1) := by decide +kernel
theorem d3_218 : decode method_5_code 218 = .ok (.i2c, 1) := by decide +kernel
theorem d3_219 : decode method_5_code 219 = .ok (.castore, 1) := by decide +kernel
theorem d3_220 : decode method_5_code 220 = .ok (.iload_n 1, 1) := by decide +kernel
theorem d3_221 : decode method_5_code 221 = .ok (.iconst 1, 1) := by decide +kernel
theorem d3_222 : decode method_5_code 222 = .ok (.iadd, 1) := by decide +kernel
theorem d3_223 : decode method_5_code 223 = .ok (.ireturn, 1) := by decide +kernel
abbrev R3 : Room := { frames := 1, cells := 0, slots := 0, locals := 16 }
set_option maxRecDepth 65536 in
theorem rmPut (l : Launch) (Z : State) (a0 : Array Value) (hw : ∀ d ∈ tables_1, d.before a0 Z = true) (a : Addr) (kc : ClassId) (pos i k sh sl sp : Int32) (P L : Nat) (cs : List Int32) (h0 : Heap) (hpos : pos = Int32.ofNat P) (hsl : sl = Int32.ofNat L) (hL : L ≤ 4) (hi : 0 ≤ i.toInt ∧ i.toInt ≤ 3) (hk : 0 ≤ k.toInt ∧ k.toInt ≤ 3) (hP1 : i = k → P + L ≤ 18) (hP2 : ¬ i = k → P + 3 ≤ 18) (hcs : cs.length = 18) (V : Arv Z h0 a kc .char 18 (cs.map Value.int) (.int 0)) (g : Z.heap.size ≤ a) :
    Con l Z [] [] false (⟨"com/example/fundort/fundort/util/Ipv4AddressFirstFaultPinLaw", "putToken", "([CIIIIII)I"⟩ : MethodName) method_5_code 9 (some .int) R3 #[.ref a, .int pos, .int i, .int k, .int sh, .int sl, .int sp] h0 (rV fun v h => ∃ (n : Nat) (dg : Nat → Nat) (cs' : List Int32), v = .int (Int32.ofNat (P + n)) ∧ Keep h0 h [a] ∧ Arv Z h a kc .char 18 (cs'.map Value.int) (.int 0) ∧ WrT cs P dg n cs' ∧ ((i = k ∧ n = L ∧ dg = dN sp) ∨ (¬ i = k ∧ 0 < n ∧ n ≤ 3 ∧ TokOk dg n n))) := by
  have e18 : (18 : Int32) = Int32.ofNat 18 := rfl
  have hin : ∀ (q : Nat), q < 18 → ¬ Int32.ofNat q < 0 ∧ Int32.ofNat q < 18 := fun q hq => ⟨ofN_nn (by omega), by rw [e18]; exact (ofN_lt (by omega) (by omega)).mpr hq⟩
  have m0 : a ∈ [a] ∨ h0.size ≤ a := Or.inl (List.mem_singleton.mpr rfl)
  subst hpos
  refine body (ls := #[.val (.ref a), .val (.int (Int32.ofNat P)), .val (.int i), .val (.int k), .val (.int sh), .val (.int sl), .val (.int sp), .unset, .unset]) (plainFor_of_name pn_0) (fun m => by first | (simp [entryFrame, mkF, argsToLocals, Value.category]; done) | rfl) fun K ok => ?_
  refine r_iloadN (pc' := 1) ok rfl d3_0 rfl ?_
  refine r_iloadN (pc' := 2) ok rfl d3_1 rfl ?_
  refine r_icmp_ne (pc' := 5) (pcY := 92) ok rfl d3_2 (by decide) (by decide) ?_ ?_
  rotate_left
  · intro hik
    have hPL := hP1 hik
    have J4 : ∀ (h : Heap) (cs' : List Int32), Keep h0 h [a] → Arv Z h a kc .char 18 (cs'.map Value.int) (.int 0) → WrT cs P (dN sp) L cs' → Run Z K Cln h 0 0 87 #[.val (.ref a), .val (.int (Int32.ofNat P)), .val (.int i), .val (.int k), .val (.int sh), .val (.int sl), .val (.int sp), .unset, .unset] [] := by
      intro h cs' Kp V' Wt
      refine r_iloadN (pc' := 88) ok rfl d3_87 rfl ?_
      refine r_iload (pc' := 90) ok rfl d3_88 rfl ?_
      refine r_iadd (pc' := 91) ok rfl d3_90 ?_
      rw [hsl, ofN_add (by omega)]
      refine r_ireturn ok d3_91 rfl (by simp) (by decide) (by decide) ?_
      exact ⟨L, dN sp, cs', rfl, Kp, V', Wt, Or.inl ⟨hik, rfl, rfl⟩⟩
    have J3 : ∀ (h : Heap) (cs' : List Int32), Keep h0 h [a] → Arv Z h a kc .char 18 (cs'.map Value.int) (.int 0) → WrT cs P (dN sp) (min L 3) cs' → Run Z K Cln h 0 0 66 #[.val (.ref a), .val (.int (Int32.ofNat P)), .val (.int i), .val (.int k), .val (.int sh), .val (.int sl), .val (.int sp), .unset, .unset] [] := by
      intro h cs' Kp V' Wt
      refine r_iload (pc' := 68) ok rfl d3_66 rfl ?_
      refine r_iconstV (pc' := 69) ok rfl (4 : Int32) d3_68 rfl ?_
      refine r_icmp_lt (pc' := 72) (pcY := 87) ok rfl d3_69 (by decide) (by decide) ?_ ?_
      · intro hc
        rw [hsl] at hc
        have := (ofN_lt (n := 4) (by omega) (by omega)).mp hc
        exact J4 h cs' Kp V' (by rw [show min L 3 = L by omega] at Wt; exact Wt)
      intro hc
      have hL4 : 4 ≤ L := Nat.le_of_not_lt fun q => hc (by rw [hsl]; exact (ofN_lt (n := 4) (by omega) (by omega)).mpr q)
      refine r_aloadN (pc' := 73) ok rfl d3_72 rfl rfl ?_
      refine r_iloadN (pc' := 74) ok rfl d3_73 rfl ?_
      refine r_iconstV (pc' := 75) ok rfl (3 : Int32) d3_74 rfl ?_
      refine r_iadd (pc' := 76) ok rfl d3_75 ?_
      refine r_bipushV (pc' := 78) ok rfl (48 : Int32) d3_76 rfl ?_
      refine r_iload (pc' := 80) ok rfl d3_78 rfl ?_
      refine r_iconstV (pc' := 81) ok rfl (3 : Int32) d3_80 rfl ?_
      refine r_static (pc' := 84) ok rfl d3_81 (hw _ (List.mem_of_getElem? (i := 8) rfl)) (hw _ (List.mem_of_getElem? (i := 9) rfl)) (hw _ (List.mem_of_getElem? (i := 2) rfl)) (hw _ (List.mem_of_getElem? (i := 10) rfl)) (by decide) pd_2 (Con.pay (W := 3) (rmDv l Z a0 hw sp 3 h) EW.nil (hw _ (List.mem_of_getElem? (i := 10) rfl)) (hw _ (List.mem_of_getElem? (i := 2) rfl)) (by decide) (by decide)) (fun q => nomatch q) (Or.inl rfl) rfl (argsL := [(.int sp), .int _]) (rest := [.int _, .int _, (.ref a)]) rfl rfl rfl (Nat.le_of_ble_eq_true rfl) (by decide) (by decide) (cV fun x1 h1 q1 le1 => ?_)
      obtain ⟨rfl, rfl⟩ := q1
      rw [show Int32.ofNat P + 3 = Int32.ofNat (P + 3) from ofN_add (n := 3) (by omega)]
      refine r_iadd (pc' := 85) ok rfl d3_84 ?_
      refine r_i2c (pc' := 86) ok rfl d3_85 ?_
      refine r_castore (pc' := 87) ok rfl (P+3) d3_86 V' g (hin (P + 3) (by omega)) (ofN_nat (by omega)) (by rw [List.length_map, Wt.1]; omega) ?_
      intro h2 W2 V2
      rw [← List.map_set] at V2
      have r := dI_rng sp 3
      refine J4 h2 _ (Kp.wr W2 m0) V2 ?_
      rw [show min L 3 = 3 by omega] at Wt
      have := Wt.step (x := nar .char (((48 : Int32) + dI sp 3).toUInt32.toUInt16.toUInt32.toInt32)) (by omega) (by rw [own_chr r.1 r.2]; have := dN_eq sp 3; rw [show Int32.ofNat 3 = 3 from rfl] at this; omega)
      rw [show L = 3 + 1 by omega]; exact this
    have J2 : ∀ (h : Heap) (cs' : List Int32), Keep h0 h [a] → Arv Z h a kc .char 18 (cs'.map Value.int) (.int 0) → WrT cs P (dN sp) (min L 2) cs' → Run Z K Cln h 0 0 45 #[.val (.ref a), .val (.int (Int32.ofNat P)), .val (.int i), .val (.int k), .val (.int sh), .val (.int sl), .val (.int sp), .unset, .unset] [] := by
      intro h cs' Kp V' Wt
      refine r_iload (pc' := 47) ok rfl d3_45 rfl ?_
      refine r_iconstV (pc' := 48) ok rfl (3 : Int32) d3_47 rfl ?_
      refine r_icmp_lt (pc' := 51) (pcY := 66) ok rfl d3_48 (by decide) (by decide) ?_ ?_
      · intro hc
        rw [hsl] at hc
        have := (ofN_lt (n := 3) (by omega) (by omega)).mp hc
        exact J3 h cs' Kp V' (by rw [show min L 2 = min L 3 by omega] at Wt; exact Wt)
      intro hc
      have hL4 : 3 ≤ L := Nat.le_of_not_lt fun q => hc (by rw [hsl]; exact (ofN_lt (n := 3) (by omega) (by omega)).mpr q)
      refine r_aloadN (pc' := 52) ok rfl d3_51 rfl rfl ?_
      refine r_iloadN (pc' := 53) ok rfl d3_52 rfl ?_
      refine r_iconstV (pc' := 54) ok rfl (2 : Int32) d3_53 rfl ?_
      refine r_iadd (pc' := 55) ok rfl d3_54 ?_
      refine r_bipushV (pc' := 57) ok rfl (48 : Int32) d3_55 rfl ?_
      refine r_iload (pc' := 59) ok rfl d3_57 rfl ?_
      refine r_iconstV (pc' := 60) ok rfl (2 : Int32) d3_59 rfl ?_
      refine r_static (pc' := 63) ok rfl d3_60 (hw _ (List.mem_of_getElem? (i := 8) rfl)) (hw _ (List.mem_of_getElem? (i := 9) rfl)) (hw _ (List.mem_of_getElem? (i := 2) rfl)) (hw _ (List.mem_of_getElem? (i := 10) rfl)) (by decide) pd_2 (Con.pay (W := 3) (rmDv l Z a0 hw sp 2 h) EW.nil (hw _ (List.mem_of_getElem? (i := 10) rfl)) (hw _ (List.mem_of_getElem? (i := 2) rfl)) (by decide) (by decide)) (fun q => nomatch q) (Or.inl rfl) rfl (argsL := [(.int sp), .int _]) (rest := [.int _, .int _, (.ref a)]) rfl rfl rfl (Nat.le_of_ble_eq_true rfl) (by decide) (by decide) (cV fun x1 h1 q1 le1 => ?_)
      obtain ⟨rfl, rfl⟩ := q1
      rw [show Int32.ofNat P + 2 = Int32.ofNat (P + 2) from ofN_add (n := 2) (by omega)]
      refine r_iadd (pc' := 64) ok rfl d3_63 ?_
      refine r_i2c (pc' := 65) ok rfl d3_64 ?_
      refine r_castore (pc' := 66) ok rfl (P+2) d3_65 V' g (hin (P + 2) (by omega)) (ofN_nat (by omega)) (by rw [List.length_map, Wt.1]; omega) ?_
      intro h2 W2 V2
      rw [← List.map_set] at V2
      have r := dI_rng sp 2
      refine J3 h2 _ (Kp.wr W2 m0) V2 ?_
      rw [show min L 2 = 2 by omega] at Wt
      have := Wt.step (x := nar .char (((48 : Int32) + dI sp 2).toUInt32.toUInt16.toUInt32.toInt32)) (by omega) (by rw [own_chr r.1 r.2]; have := dN_eq sp 2; rw [show Int32.ofNat 2 = 2 from rfl] at this; omega)
      rw [show min L 3 = 2 + 1 by omega]; exact this
    have J1 : ∀ (h : Heap) (cs' : List Int32), Keep h0 h [a] → Arv Z h a kc .char 18 (cs'.map Value.int) (.int 0) → WrT cs P (dN sp) (min L 1) cs' → Run Z K Cln h 0 0 24 #[.val (.ref a), .val (.int (Int32.ofNat P)), .val (.int i), .val (.int k), .val (.int sh), .val (.int sl), .val (.int sp), .unset, .unset] [] := by
      intro h cs' Kp V' Wt
      refine r_iload (pc' := 26) ok rfl d3_24 rfl ?_
      refine r_iconstV (pc' := 27) ok rfl (2 : Int32) d3_26 rfl ?_
      refine r_icmp_lt (pc' := 30) (pcY := 45) ok rfl d3_27 (by decide) (by decide) ?_ ?_
      · intro hc
        rw [hsl] at hc
        have := (ofN_lt (n := 2) (by omega) (by omega)).mp hc
        exact J2 h cs' Kp V' (by rw [show min L 1 = min L 2 by omega] at Wt; exact Wt)
      intro hc
      have hL4 : 2 ≤ L := Nat.le_of_not_lt fun q => hc (by rw [hsl]; exact (ofN_lt (n := 2) (by omega) (by omega)).mpr q)
      refine r_aloadN (pc' := 31) ok rfl d3_30 rfl rfl ?_
      refine r_iloadN (pc' := 32) ok rfl d3_31 rfl ?_
      refine r_iconstV (pc' := 33) ok rfl (1 : Int32) d3_32 rfl ?_
      refine r_iadd (pc' := 34) ok rfl d3_33 ?_
      refine r_bipushV (pc' := 36) ok rfl (48 : Int32) d3_34 rfl ?_
      refine r_iload (pc' := 38) ok rfl d3_36 rfl ?_
      refine r_iconstV (pc' := 39) ok rfl (1 : Int32) d3_38 rfl ?_
      refine r_static (pc' := 42) ok rfl d3_39 (hw _ (List.mem_of_getElem? (i := 8) rfl)) (hw _ (List.mem_of_getElem? (i := 9) rfl)) (hw _ (List.mem_of_getElem? (i := 2) rfl)) (hw _ (List.mem_of_getElem? (i := 10) rfl)) (by decide) pd_2 (Con.pay (W := 3) (rmDv l Z a0 hw sp 1 h) EW.nil (hw _ (List.mem_of_getElem? (i := 10) rfl)) (hw _ (List.mem_of_getElem? (i := 2) rfl)) (by decide) (by decide)) (fun q => nomatch q) (Or.inl rfl) rfl (argsL := [(.int sp), .int _]) (rest := [.int _, .int _, (.ref a)]) rfl rfl rfl (Nat.le_of_ble_eq_true rfl) (by decide) (by decide) (cV fun x1 h1 q1 le1 => ?_)
      obtain ⟨rfl, rfl⟩ := q1
      rw [show Int32.ofNat P + 1 = Int32.ofNat (P + 1) from ofN_add (n := 1) (by omega)]
      refine r_iadd (pc' := 43) ok rfl d3_42 ?_
      refine r_i2c (pc' := 44) ok rfl d3_43 ?_
      refine r_castore (pc' := 45) ok rfl (P+1) d3_44 V' g (hin (P + 1) (by omega)) (ofN_nat (by omega)) (by rw [List.length_map, Wt.1]; omega) ?_
      intro h2 W2 V2
      rw [← List.map_set] at V2
      have r := dI_rng sp 1
      refine J2 h2 _ (Kp.wr W2 m0) V2 ?_
      rw [show min L 1 = 1 by omega] at Wt
      have := Wt.step (x := nar .char (((48 : Int32) + dI sp 1).toUInt32.toUInt16.toUInt32.toInt32)) (by omega) (by rw [own_chr r.1 r.2]; have := dN_eq sp 1; rw [show Int32.ofNat 1 = 1 from rfl] at this; omega)
      rw [show min L 2 = 1 + 1 by omega]; exact this
    refine r_iload (pc' := 7) ok rfl d3_5 rfl ?_
    refine r_iconstV (pc' := 8) ok rfl (1 : Int32) d3_7 rfl ?_
    refine r_icmp_lt (pc' := 11) (pcY := 24) ok rfl d3_8 (by decide) (by decide) ?_ ?_
    · intro hc
      rw [hsl] at hc
      have := (ofN_lt (n := 1) (by omega) (by omega)).mp hc
      exact J1 h0 cs (Keep.refl _ _) V (by rw [show min L 1 = 0 by omega]; exact WrT.zero hcs)
    intro hc
    have hL4 : 1 ≤ L := Nat.le_of_not_lt fun q => hc (by rw [hsl]; exact (ofN_lt (n := 1) (by omega) (by omega)).mpr q)
    refine r_aloadN (pc' := 12) ok rfl d3_11 rfl rfl ?_
    refine r_iloadN (pc' := 13) ok rfl d3_12 rfl ?_
    refine r_bipushV (pc' := 15) ok rfl (48 : Int32) d3_13 rfl ?_
    refine r_iload (pc' := 17) ok rfl d3_15 rfl ?_
    refine r_iconstV (pc' := 18) ok rfl (0 : Int32) d3_17 rfl ?_
    refine r_static (pc' := 21) ok rfl d3_18 (hw _ (List.mem_of_getElem? (i := 8) rfl)) (hw _ (List.mem_of_getElem? (i := 9) rfl)) (hw _ (List.mem_of_getElem? (i := 2) rfl)) (hw _ (List.mem_of_getElem? (i := 10) rfl)) (by decide) pd_2 (Con.pay (W := 3) (rmDv l Z a0 hw sp 0 h0) EW.nil (hw _ (List.mem_of_getElem? (i := 10) rfl)) (hw _ (List.mem_of_getElem? (i := 2) rfl)) (by decide) (by decide)) (fun q => nomatch q) (Or.inl rfl) rfl (argsL := [(.int sp), .int _]) (rest := [.int _, (.int (Int32.ofNat P)), (.ref a)]) rfl rfl rfl (Nat.le_of_ble_eq_true rfl) (by decide) (by decide) (cV fun x1 h1 q1 le1 => ?_)
    obtain ⟨rfl, rfl⟩ := q1
    refine r_iadd (pc' := 22) ok rfl d3_21 ?_
    refine r_i2c (pc' := 23) ok rfl d3_22 ?_
    refine r_castore (pc' := 24) ok rfl P d3_23 V g (hin P (by omega)) (ofN_nat (by omega)) (by rw [List.length_map, hcs]; omega) ?_
    intro h2 W2 V2
    rw [← List.map_set] at V2
    have r := dI_rng sp 0
    refine J1 h2 _ ((Keep.refl _ _).wr W2 m0) V2 ?_
    have := (WrT.zero (P := P) (dg := dN sp) hcs).step (x := nar .char (((48 : Int32) + dI sp 0).toUInt32.toUInt16.toUInt32.toInt32)) (by omega) (by rw [own_chr r.1 r.2]; have := dN_eq sp 0; rw [show Int32.ofNat 0 = 0 from rfl] at this; omega)
    rw [show min L 1 = 0 + 1 by omega]; exact this
  intro hik
  have hP3 := hP2 hik
  refine r_iloadN (pc' := 93) ok rfl d3_92 rfl ?_
  refine r_iloadN (pc' := 94) ok rfl d3_93 rfl ?_
  suffices J : ∀ jj : Int32, Run Z K Cln h0 0 0 104 #[.val (.ref a), .val (.int (Int32.ofNat P)), .val (.int i), .val (.int k), .val (.int sh), .val (.int sl), .val (.int sp), .unset, .unset] [.int jj] by
    refine r_icmp_ge (pc' := 97) (pcY := 101) ok rfl d3_94 (by decide) (by decide) ?_ ?_
    · intro _
      refine r_iloadN (pc' := 102) ok rfl d3_101 rfl ?_
      refine r_iconstV (pc' := 103) ok rfl (1 : Int32) d3_102 rfl ?_
      refine r_isub (pc' := 104) ok rfl d3_103 ?_
      exact J _
    · intro _
      refine r_iloadN (pc' := 98) ok rfl d3_97 rfl ?_
      refine r_goto (pc' := 104) ok d3_98 (by decide) (by decide) ?_
      exact J _
  intro jj
  refine r_istore (pc' := 106) (ls' := fun z => #[.val (.ref a), .val (.int (Int32.ofNat P)), .val (.int i), .val (.int k), .val (.int sh), .val (.int sl), .val (.int sp), .val (.int z), .unset]) ok rfl d3_104 (fun _ => rfl) ?_
  intro v104 ev104
  refine r_iload (pc' := 108) ok rfl d3_106 rfl ?_
  refine r_bipushV (pc' := 110) ok rfl (8 : Int32) d3_108 rfl ?_
  refine r_iload (pc' := 112) ok rfl d3_110 rfl ?_
  refine r_imul (pc' := 113) ok rfl d3_112 ?_
  refine r_iushr (pc' := 114) ok rfl d3_113 ?_
  refine r_sipushV (pc' := 117) ok rfl (255 : Int32) d3_114 rfl ?_
  refine r_iand (pc' := 118) ok rfl d3_117 ?_
  refine r_istore (pc' := 120) (ls' := fun z => #[.val (.ref a), .val (.int (Int32.ofNat P)), .val (.int i), .val (.int k), .val (.int sh), .val (.int sl), .val (.int sp), .val (.int v104), .val (.int z)]) ok rfl d3_118 (fun _ => rfl) ?_
  intro v118 ev118
  refine r_iload (pc' := 122) ok rfl d3_120 rfl ?_
  refine r_bipushV (pc' := 124) ok rfl (100 : Int32) d3_122 rfl ?_
  have hv := c_mask ((sh.toUInt32 >>> ((8 * v104) &&& 31).toUInt32).toInt32) 255 8 (by decide) (by decide)
  rw [← ev118] at hv
  have e100 : (100 : Int32).toInt = 100 := rfl
  have e10 : (10 : Int32).toInt = 10 := rfl
  have d100 := (c_idiv v118 100 100 rfl (by decide)).1 (by omega)
  have d10 := (c_idiv v118 10 10 rfl (by decide)).1 (by omega)
  have m10 := (c_irem v118 10 10 rfl).1 (by omega)
  have q10 := (c_irem (v118 / 10) 10 10 rfl).1 (by omega)
  refine r_icmp_lt (pc' := 127) (pcY := 174) ok rfl d3_124 (by decide) (by decide) ?_ ?_
  rotate_left
  · intro hc
    rw [lti, e100] at hc
    refine r_aloadN (pc' := 128) ok rfl d3_127 rfl rfl ?_
    refine r_iloadN (pc' := 129) ok rfl d3_128 rfl ?_
    refine r_bipushV (pc' := 131) ok rfl (48 : Int32) d3_129 rfl ?_
    refine r_iload (pc' := 133) ok rfl d3_131 rfl ?_
    refine r_bipushV (pc' := 135) ok rfl (100 : Int32) d3_133 rfl ?_
    refine r_idiv (pc' := 136) ok rfl d3_135 (by decide) ?_
    refine r_iadd (pc' := 137) ok rfl d3_136 ?_
    refine r_i2c (pc' := 138) ok rfl d3_137 ?_
    refine r_castore (pc' := 139) ok rfl P d3_138 V g (hin P (by omega)) (ofN_nat (by omega)) (by rw [List.length_map, hcs]; omega) ?_
    intro h2 W2 V2
    rw [← List.map_set] at V2
    refine r_aloadN (pc' := 140) ok rfl d3_139 rfl rfl ?_
    refine r_iloadN (pc' := 141) ok rfl d3_140 rfl ?_
    refine r_iconstV (pc' := 142) ok rfl (1 : Int32) d3_141 rfl ?_
    refine r_iadd (pc' := 143) ok rfl d3_142 ?_
    rw [show Int32.ofNat P + 1 = Int32.ofNat (P + 1) from ofN_add (n := 1) (by omega)]
    refine r_bipushV (pc' := 145) ok rfl (48 : Int32) d3_143 rfl ?_
    refine r_iload (pc' := 147) ok rfl d3_145 rfl ?_
    refine r_bipushV (pc' := 149) ok rfl (10 : Int32) d3_147 rfl ?_
    refine r_idiv (pc' := 150) ok rfl d3_149 (by decide) ?_
    refine r_bipushV (pc' := 152) ok rfl (10 : Int32) d3_150 rfl ?_
    refine r_irem (pc' := 153) ok rfl d3_152 (by decide) ?_
    refine r_iadd (pc' := 154) ok rfl d3_153 ?_
    refine r_i2c (pc' := 155) ok rfl d3_154 ?_
    refine r_castore (pc' := 156) ok rfl (P+1) d3_155 V2 g (hin (P + 1) (by omega)) (ofN_nat (by omega)) (by rw [List.length_map, List.length_set, hcs]; omega) ?_
    intro h3 W3 V3
    rw [← List.map_set] at V3
    refine r_aloadN (pc' := 157) ok rfl d3_156 rfl rfl ?_
    refine r_iloadN (pc' := 158) ok rfl d3_157 rfl ?_
    refine r_iconstV (pc' := 159) ok rfl (2 : Int32) d3_158 rfl ?_
    refine r_iadd (pc' := 160) ok rfl d3_159 ?_
    rw [show Int32.ofNat P + 2 = Int32.ofNat (P + 2) from ofN_add (n := 2) (by omega)]
    refine r_bipushV (pc' := 162) ok rfl (48 : Int32) d3_160 rfl ?_
    refine r_iload (pc' := 164) ok rfl d3_162 rfl ?_
    refine r_bipushV (pc' := 166) ok rfl (10 : Int32) d3_164 rfl ?_
    refine r_irem (pc' := 167) ok rfl d3_166 (by decide) ?_
    refine r_iadd (pc' := 168) ok rfl d3_167 ?_
    refine r_i2c (pc' := 169) ok rfl d3_168 ?_
    refine r_castore (pc' := 170) ok rfl (P+2) d3_169 V3 g (hin (P + 2) (by omega)) (ofN_nat (by omega)) (by rw [List.length_map, List.length_set, List.length_set, hcs]; omega) ?_
    intro h4 W4 V4
    rw [← List.map_set] at V4
    refine r_iloadN (pc' := 171) ok rfl d3_170 rfl ?_
    refine r_iconstV (pc' := 172) ok rfl (3 : Int32) d3_171 rfl ?_
    refine r_iadd (pc' := 173) ok rfl d3_172 ?_
    rw [show Int32.ofNat P + 3 = Int32.ofNat (P + 3) from ofN_add (n := 3) (by omega)]
    have W := (((WrT.zero (P := P) (dg := fun j => if j = 0 then (v118 / 100).toInt.toNat else if j = 1 then ((v118 / 10) % 10).toInt.toNat else (v118 % 10).toInt.toNat) hcs).step (x := nar .char (((48 : Int32) + v118 / 100).toUInt32.toUInt16.toUInt32.toInt32)) (by omega) (by rw [own_chr (by omega) (by omega)]; show 48 + (v118 / 100).toInt = 48 + (((v118 / 100).toInt.toNat : Nat) : Int); omega)).step (x := nar .char (((48 : Int32) + v118 / 10 % 10).toUInt32.toUInt16.toUInt32.toInt32)) (by omega) (by rw [own_chr (by omega) (by omega)]; show 48 + (v118 / 10 % 10).toInt = 48 + (((v118 / 10 % 10).toInt.toNat : Nat) : Int); omega)).step (x := nar .char (((48 : Int32) + v118 % 10).toUInt32.toUInt16.toUInt32.toInt32)) (by omega) (by rw [own_chr (by omega) (by omega)]; show 48 + (v118 % 10).toInt = 48 + (((v118 % 10).toInt.toNat : Nat) : Int); omega)
    refine r_ireturn ok d3_173 rfl (by simp) (by decide) (by decide) ?_
    refine ⟨3, _, _, rfl, (((Keep.refl _ _).wr W2 m0).wr W3 m0).wr W4 m0, V4, W, Or.inr ⟨hik, by omega, by omega, Nat.le_refl _, fun j hj => ?_, fun j hj => ?_, fun q => absurd q (by omega)⟩⟩
    · obtain rfl | rfl | rfl : j = 0 ∨ j = 1 ∨ j = 2 := by omega
      · show (v118 / 100).toInt.toNat ≤ 9; omega
      · show (v118 / 10 % 10).toInt.toNat ≤ 9; omega
      · show (v118 % 10).toInt.toNat ≤ 9; omega
    · obtain rfl | rfl | rfl : j = 0 ∨ j = 1 ∨ j = 2 := by omega
      · exact ⟨by show 10 * 0 + (v118 / 100).toInt.toNat ≤ 255; omega, Or.inl rfl⟩
      · exact ⟨by show 10 * (10 * 0 + (v118 / 100).toInt.toNat) + (v118 / 10 % 10).toInt.toNat ≤ 255; omega, Or.inr (by show (v118 / 100).toInt.toNat ≠ 0; omega)⟩
      · exact ⟨by show 10 * (10 * (10 * 0 + (v118 / 100).toInt.toNat) + (v118 / 10 % 10).toInt.toNat) + (v118 % 10).toInt.toNat ≤ 255; omega, Or.inr (by show (v118 / 100).toInt.toNat ≠ 0; omega)⟩
  intro hc
  rw [lti, e100] at hc
  refine r_iload (pc' := 176) ok rfl d3_174 rfl ?_
  refine r_bipushV (pc' := 178) ok rfl (10 : Int32) d3_176 rfl ?_
  refine r_icmp_lt (pc' := 181) (pcY := 211) ok rfl d3_178 (by decide) (by decide) ?_ ?_
  rotate_left
  · intro hd
    rw [lti, e10] at hd
    refine r_aloadN (pc' := 182) ok rfl d3_181 rfl rfl ?_
    refine r_iloadN (pc' := 183) ok rfl d3_182 rfl ?_
    refine r_bipushV (pc' := 185) ok rfl (48 : Int32) d3_183 rfl ?_
    refine r_iload (pc' := 187) ok rfl d3_185 rfl ?_
    refine r_bipushV (pc' := 189) ok rfl (10 : Int32) d3_187 rfl ?_
    refine r_idiv (pc' := 190) ok rfl d3_189 (by decide) ?_
    refine r_iadd (pc' := 191) ok rfl d3_190 ?_
    refine r_i2c (pc' := 192) ok rfl d3_191 ?_
    refine r_castore (pc' := 193) ok rfl P d3_192 V g (hin P (by omega)) (ofN_nat (by omega)) (by rw [List.length_map, hcs]; omega) ?_
    intro h2 W2 V2
    rw [← List.map_set] at V2
    refine r_aloadN (pc' := 194) ok rfl d3_193 rfl rfl ?_
    refine r_iloadN (pc' := 195) ok rfl d3_194 rfl ?_
    refine r_iconstV (pc' := 196) ok rfl (1 : Int32) d3_195 rfl ?_
    refine r_iadd (pc' := 197) ok rfl d3_196 ?_
    rw [show Int32.ofNat P + 1 = Int32.ofNat (P + 1) from ofN_add (n := 1) (by omega)]
    refine r_bipushV (pc' := 199) ok rfl (48 : Int32) d3_197 rfl ?_
    refine r_iload (pc' := 201) ok rfl d3_199 rfl ?_
    refine r_bipushV (pc' := 203) ok rfl (10 : Int32) d3_201 rfl ?_
    refine r_irem (pc' := 204) ok rfl d3_203 (by decide) ?_
    refine r_iadd (pc' := 205) ok rfl d3_204 ?_
    refine r_i2c (pc' := 206) ok rfl d3_205 ?_
    refine r_castore (pc' := 207) ok rfl (P+1) d3_206 V2 g (hin (P + 1) (by omega)) (ofN_nat (by omega)) (by rw [List.length_map, List.length_set, hcs]; omega) ?_
    intro h3 W3 V3
    rw [← List.map_set] at V3
    refine r_iloadN (pc' := 208) ok rfl d3_207 rfl ?_
    refine r_iconstV (pc' := 209) ok rfl (2 : Int32) d3_208 rfl ?_
    refine r_iadd (pc' := 210) ok rfl d3_209 ?_
    rw [show Int32.ofNat P + 2 = Int32.ofNat (P + 2) from ofN_add (n := 2) (by omega)]
    have W := ((WrT.zero (P := P) (dg := fun j => if j = 0 then (v118 / 10).toInt.toNat else (v118 % 10).toInt.toNat) hcs).step (x := nar .char (((48 : Int32) + v118 / 10).toUInt32.toUInt16.toUInt32.toInt32)) (by omega) (by rw [own_chr (by omega) (by omega)]; show 48 + (v118 / 10).toInt = 48 + (((v118 / 10).toInt.toNat : Nat) : Int); omega)).step (x := nar .char (((48 : Int32) + v118 % 10).toUInt32.toUInt16.toUInt32.toInt32)) (by omega) (by rw [own_chr (by omega) (by omega)]; show 48 + (v118 % 10).toInt = 48 + (((v118 % 10).toInt.toNat : Nat) : Int); omega)
    refine r_ireturn ok d3_210 rfl (by simp) (by decide) (by decide) ?_
    refine ⟨2, _, _, rfl, ((Keep.refl _ _).wr W2 m0).wr W3 m0, V3, W, Or.inr ⟨hik, by omega, by omega, Nat.le_refl _, fun j hj => ?_, fun j hj => ?_, fun q => absurd q (by omega)⟩⟩
    · obtain rfl | rfl : j = 0 ∨ j = 1 := by omega
      · show (v118 / 10).toInt.toNat ≤ 9; omega
      · show (v118 % 10).toInt.toNat ≤ 9; omega
    · obtain rfl | rfl : j = 0 ∨ j = 1 := by omega
      · exact ⟨by show 10 * 0 + (v118 / 10).toInt.toNat ≤ 255; omega, Or.inl rfl⟩
      · exact ⟨by show 10 * (10 * 0 + (v118 / 10).toInt.toNat) + (v118 % 10).toInt.toNat ≤ 255; omega, Or.inr (by show (v118 / 10).toInt.toNat ≠ 0; omega)⟩
  intro hd
  rw [lti, e10] at hd
  refine r_aloadN (pc' := 212) ok rfl d3_211 rfl rfl ?_
  refine r_iloadN (pc' := 213) ok rfl d3_212 rfl ?_
  refine r_bipushV (pc' := 215) ok rfl (48 : Int32) d3_213 rfl ?_
  refine r_iload (pc' := 217) ok rfl d3_215 rfl ?_
  refine r_iadd (pc' := 218) ok rfl d3_217 ?_
  refine r_i2c (pc' := 219) ok rfl d3_218 ?_
  refine r_castore (pc' := 220) ok rfl P d3_219 V g (hin P (by omega)) (ofN_nat (by omega)) (by rw [List.length_map, hcs]; omega) ?_
  intro h2 W2 V2
  rw [← List.map_set] at V2
  refine r_iloadN (pc' := 221) ok rfl d3_220 rfl ?_
  refine r_iconstV (pc' := 222) ok rfl (1 : Int32) d3_221 rfl ?_
  refine r_iadd (pc' := 223) ok rfl d3_222 ?_
  rw [show Int32.ofNat P + 1 = Int32.ofNat (P + 1) from ofN_add (n := 1) (by omega)]
  have W := (WrT.zero (P := P) (dg := fun j => v118.toInt.toNat) hcs).step (x := nar .char (((48 : Int32) + v118).toUInt32.toUInt16.toUInt32.toInt32)) (by omega) (by rw [own_chr (by omega) (by omega)]; omega)
  refine r_ireturn ok d3_223 rfl (by simp) (by decide) (by decide) ?_
  refine ⟨1, _, _, rfl, (Keep.refl _ _).wr W2 m0, V2, W, Or.inr ⟨hik, by omega, by omega, Nat.le_refl _, fun j hj => ?_, fun j hj => ?_, fun q => absurd q (by omega)⟩⟩
  · show v118.toInt.toNat ≤ 9
    omega
  · obtain rfl : j = 0 := by omega
    exact ⟨by show 10 * 0 + v118.toInt.toNat ≤ 255; omega, Or.inl rfl⟩
theorem d4_0 : decode method_6_code 0 = .ok (.iload_n 1, 1) := by decide +kernel
theorem d4_1 : decode method_6_code 1 = .ok (.iconst 0, 1) := by decide +kernel
theorem d4_2 : decode method_6_code 2 = .ok (.invokestatic 40, 3) := by decide +kernel
theorem d4_5 : decode method_6_code 5 = .ok (.istore_n 2, 1) := by decide +kernel
theorem d4_6 : decode method_6_code 6 = .ok (.iload_n 1, 1) := by decide +kernel
theorem d4_7 : decode method_6_code 7 = .ok (.iconst 1, 1) := by decide +kernel
theorem d4_8 : decode method_6_code 8 = .ok (.invokestatic 40, 3) := by decide +kernel
theorem d4_11 : decode method_6_code 11 = .ok (.istore_n 3, 1) := by decide +kernel
theorem d4_12 : decode method_6_code 12 = .ok (.iload_n 1, 1) := by decide +kernel
theorem d4_13 : decode method_6_code 13 = .ok (.iconst 2, 1) := by decide +kernel
theorem d4_14 : decode method_6_code 14 = .ok (.invokestatic 40, 3) := by decide +kernel
theorem d4_17 : decode method_6_code 17 = .ok (.istore 4, 2) := by decide +kernel
theorem d4_19 : decode method_6_code 19 = .ok (.iload_n 0, 1) := by decide +kernel
theorem d4_20 : decode method_6_code 20 = .ok (.ifCond .ne 5, 3) := by decide +kernel
theorem d4_23 : decode method_6_code 23 = .ok (.iconst 0, 1) := by decide +kernel
theorem d4_24 : decode method_6_code 24 = .ok (.ireturn, 1) := by decide +kernel
theorem d4_25 : decode method_6_code 25 = .ok (.iload_n 2, 1) := by decide +kernel
theorem d4_26 : decode method_6_code 26 = .ok (.ifCond .ne 10, 3) := by decide +kernel
theorem d4_29 : decode method_6_code 29 = .ok (.iload_n 0, 1) := by decide +kernel
theorem d4_30 : decode method_6_code 30 = .ok (.iconst 2, 1) := by decide +kernel
theorem d4_31 : decode method_6_code 31 = .ok (.if_icmp .lt 5, 3) := by decide +kernel
theorem d4_34 : decode method_6_code 34 = .ok (.iconst 1, 1) := by decide +kernel
theorem d4_35 : decode method_6_code 35 = .ok (.ireturn, 1) := by decide +kernel
theorem d4_36 : decode method_6_code 36 = .ok (.iload_n 0, 1) := by decide +kernel
theorem d4_37 : decode method_6_code 37 = .ok (.iconst 3, 1) := by decide +kernel
theorem d4_38 : decode method_6_code 38 = .ok (.if_icmp .lt 23, 3) := by decide +kernel
theorem d4_41 : decode method_6_code 41 = .ok (.iload_n 2, 1) := by decide +kernel
theorem d4_42 : decode method_6_code 42 = .ok (.bipush 100, 2) := by decide +kernel
theorem d4_44 : decode method_6_code 44 = .ok (.imul, 1) := by decide +kernel
theorem d4_45 : decode method_6_code 45 = .ok (.iload_n 3, 1) := by decide +kernel
theorem d4_46 : decode method_6_code 46 = .ok (.bipush 10, 2) := by decide +kernel
theorem d4_48 : decode method_6_code 48 = .ok (.imul, 1) := by decide +kernel
theorem d4_49 : decode method_6_code 49 = .ok (.iadd, 1) := by decide +kernel
theorem d4_50 : decode method_6_code 50 = .ok (.iload 4, 2) := by decide +kernel
theorem d4_52 : decode method_6_code 52 = .ok (.iadd, 1) := by decide +kernel
theorem d4_53 : decode method_6_code 53 = .ok (.sipush 255, 3) := by decide +kernel
theorem d4_56 : decode method_6_code 56 = .ok (.if_icmp .le 5, 3) := by decide +kernel
theorem d4_59 : decode method_6_code 59 = .ok (.iconst 2, 1) := by decide +kernel
theorem d4_60 : decode method_6_code 60 = .ok (.ireturn, 1) := by decide +kernel
theorem d4_61 : decode method_6_code 61 = .ok (.iload_n 0, 1) := by decide +kernel
theorem d4_62 : decode method_6_code 62 = .ok (.iconst 4, 1) := by decide +kernel
theorem d4_63 : decode method_6_code 63 = .ok (.if_icmp .ne 5, 3) := by decide +kernel
theorem d4_66 : decode method_6_code 66 = .ok (.iconst 3, 1) := by decide +kernel
theorem d4_67 : decode method_6_code 67 = .ok (.ireturn, 1) := by decide +kernel
theorem d4_68 : decode method_6_code 68 = .ok (.iconst (-1), 1) := by decide +kernel
theorem d4_69 : decode method_6_code 69 = .ok (.ireturn, 1) := by decide +kernel
set_option maxRecDepth 65536 in
theorem rmSF (l : Launch) (Z : State) (a0 : Array Value) (hw : ∀ d ∈ tables_1, d.before a0 Z = true) (sl sp : Int32) (L : Nat) (h0 : Heap) (hsl : sl = Int32.ofNat L) (hL : L ≤ 4) :
    Con l Z [] [] false (⟨"com/example/fundort/fundort/util/Ipv4AddressFirstFaultPinLaw", "specialFault", "(II)I"⟩ : MethodName) method_6_code 5 (some .int) R3 #[.int sl, .int sp] h0 (rV fun v h => (∃ r : Int32, v = .int r ∧ ((r.toInt = -1 ∧ 0 < L ∧ TokOk (dN sp) L L) ∨ ∃ f : Nat, r.toInt = (f : Int) ∧ f ≤ 3 ∧ TokOk (dN sp) L f ∧ (f < L ∨ L = 0))) ∧ h0 = h) := by
  have e0 := dN_eq sp 0
  have e1 := dN_eq sp 1
  have e2 := dN_eq sp 2
  have l0 := dN_le sp 0
  have l1 := dN_le sp 1
  have l2 := dN_le sp 2
  have l3 := dN_le sp 3
  rw [show Int32.ofNat 0 = 0 from rfl] at e0
  rw [show Int32.ofNat 1 = 1 from rfl] at e1
  rw [show Int32.ofNat 2 = 2 from rfl] at e2
  have hlt : ∀ n : Nat, n ≤ 4 → (sl < Int32.ofNat n ↔ L < n) := fun n hn => by rw [hsl]; exact ofN_lt (by omega) (by omega)
  have all9 : ∀ j, j < L → dN sp j ≤ 9 := fun j _ => dN_le sp j
  refine body (ls := #[.val (.int sl), .val (.int sp), .unset, .unset, .unset]) (plainFor_of_name pn_0) (fun m => by first | (simp [entryFrame, mkF, argsToLocals, Value.category]; done) | rfl) fun K ok => ?_
  refine r_iloadN (pc' := 1) ok rfl d4_0 rfl ?_
  refine r_iconstV (pc' := 2) ok rfl (0 : Int32) d4_1 rfl ?_
  refine r_static (pc' := 5) ok rfl d4_2 (hw _ (List.mem_of_getElem? (i := 8) rfl)) (hw _ (List.mem_of_getElem? (i := 9) rfl)) (hw _ (List.mem_of_getElem? (i := 2) rfl)) (hw _ (List.mem_of_getElem? (i := 10) rfl)) (by decide) pd_2 (Con.pay (W := 0) (rmDv l Z a0 hw sp 0 h0) EW.nil (hw _ (List.mem_of_getElem? (i := 10) rfl)) (hw _ (List.mem_of_getElem? (i := 2) rfl)) (by decide) (by decide)) (fun q => nomatch q) (Or.inl rfl) rfl (argsL := [(.int sp), .int _]) (rest := []) rfl rfl rfl (Nat.le_of_ble_eq_true rfl) (by decide) (by decide) (cV fun x1 h1 q1 le1 => ?_)
  obtain ⟨rfl, rfl⟩ := q1
  refine r_istoreN (pc' := 6) (ls' := fun z => #[.val (.int sl), .val (.int sp), .val (.int z), .unset, .unset]) ok rfl d4_5 (fun _ => rfl) ?_
  intro v5 ev5
  refine r_iloadN (pc' := 7) ok rfl d4_6 rfl ?_
  refine r_iconstV (pc' := 8) ok rfl (1 : Int32) d4_7 rfl ?_
  refine r_static (pc' := 11) ok rfl d4_8 (hw _ (List.mem_of_getElem? (i := 8) rfl)) (hw _ (List.mem_of_getElem? (i := 9) rfl)) (hw _ (List.mem_of_getElem? (i := 2) rfl)) (hw _ (List.mem_of_getElem? (i := 10) rfl)) (by decide) pd_2 (Con.pay (W := 0) (rmDv l Z a0 hw sp 1 h0) EW.nil (hw _ (List.mem_of_getElem? (i := 10) rfl)) (hw _ (List.mem_of_getElem? (i := 2) rfl)) (by decide) (by decide)) (fun q => nomatch q) (Or.inl rfl) rfl (argsL := [(.int sp), .int _]) (rest := []) rfl rfl rfl (Nat.le_of_ble_eq_true rfl) (by decide) (by decide) (cV fun x2 h2 q2 le2 => ?_)
  obtain ⟨rfl, rfl⟩ := q2
  refine r_istoreN (pc' := 12) (ls' := fun z => #[.val (.int sl), .val (.int sp), .val (.int v5), .val (.int z), .unset]) ok rfl d4_11 (fun _ => rfl) ?_
  intro v11 ev11
  refine r_iloadN (pc' := 13) ok rfl d4_12 rfl ?_
  refine r_iconstV (pc' := 14) ok rfl (2 : Int32) d4_13 rfl ?_
  refine r_static (pc' := 17) ok rfl d4_14 (hw _ (List.mem_of_getElem? (i := 8) rfl)) (hw _ (List.mem_of_getElem? (i := 9) rfl)) (hw _ (List.mem_of_getElem? (i := 2) rfl)) (hw _ (List.mem_of_getElem? (i := 10) rfl)) (by decide) pd_2 (Con.pay (W := 0) (rmDv l Z a0 hw sp 2 h0) EW.nil (hw _ (List.mem_of_getElem? (i := 10) rfl)) (hw _ (List.mem_of_getElem? (i := 2) rfl)) (by decide) (by decide)) (fun q => nomatch q) (Or.inl rfl) rfl (argsL := [(.int sp), .int _]) (rest := []) rfl rfl rfl (Nat.le_of_ble_eq_true rfl) (by decide) (by decide) (cV fun x3 h3 q3 le3 => ?_)
  obtain ⟨rfl, rfl⟩ := q3
  refine r_istore (pc' := 19) (ls' := fun z => #[.val (.int sl), .val (.int sp), .val (.int v5), .val (.int v11), .val (.int z)]) ok rfl d4_17 (fun _ => rfl) ?_
  intro v17 ev17
  refine r_iloadN (pc' := 20) ok rfl d4_19 rfl ?_
  rw [← ev5] at e0
  rw [← ev11] at e1
  rw [← ev17] at e2
  refine r_if_ne (pc' := 23) (pcY := 25) ok rfl d4_20 (by decide) (by decide) ?_ ?_
  rotate_left
  · intro hc
    refine r_iconstV (pc' := 24) ok rfl (0 : Int32) d4_23 rfl ?_
    have L0 : L = 0 := by rw [hsl] at hc; exact ofN_inj (n := 0) (by omega) (by omega) hc
    refine r_ireturn ok d4_24 rfl (by simp) (by decide) (by decide) ?_
    exact ⟨⟨_, rfl, Or.inr ⟨0, rfl, by omega, ⟨by omega, all9, fun j hj => absurd hj (by omega), fun q => absurd q (by omega)⟩, Or.inr L0⟩⟩, rfl⟩
  intro hc
  have L1 : 0 < L := Nat.pos_of_ne_zero fun q => hc (by rw [hsl, q]; rfl)
  refine r_iloadN (pc' := 26) ok rfl d4_25 rfl ?_
  -- behind the leading zero
  have J : (dN sp 0 ≠ 0 ∨ L < 2) → Run Z K Cln h0 0 0 36 #[.val (.int sl), .val (.int sp), .val (.int v5), .val (.int v11), .val (.int v17)] [] := by
    intro hz
    refine r_iloadN (pc' := 37) ok rfl d4_36 rfl ?_
    refine r_iconstV (pc' := 38) ok rfl (3 : Int32) d4_37 rfl ?_
    have J2 : (L < 3 ∨ 100 * dN sp 0 + 10 * dN sp 1 + dN sp 2 ≤ 255) → Run Z K Cln h0 0 0 61 #[.val (.int sl), .val (.int sp), .val (.int v5), .val (.int v11), .val (.int v17)] [] := by
      intro hy
      refine r_iloadN (pc' := 62) ok rfl d4_61 rfl ?_
      refine r_iconstV (pc' := 63) ok rfl (4 : Int32) d4_62 rfl ?_
      refine r_icmp_ne (pc' := 66) (pcY := 68) ok rfl d4_63 (by decide) (by decide) ?_ ?_
      · intro hd
        refine r_iconstV (pc' := 69) ok rfl (-1 : Int32) d4_68 rfl ?_
        have L4 : L ≠ 4 := fun q => hd (by rw [hsl, q]; rfl)
        refine r_ireturn ok d4_69 rfl (by simp) (by decide) (by decide) ?_
        refine ⟨⟨_, rfl, Or.inl ⟨rfl, L1, Nat.le_refl _, all9, fun j hj => ?_, fun q => absurd q (by omega)⟩⟩, rfl⟩
        obtain rfl | rfl | rfl : j = 0 ∨ j = 1 ∨ j = 2 := by omega
        all_goals simp [pv]; omega
      intro hd
      refine r_iconstV (pc' := 67) ok rfl (3 : Int32) d4_66 rfl ?_
      have L4 : L = 4 := by rw [hsl] at hd; exact ofN_inj (n := 4) (by omega) (by omega) hd
      refine r_ireturn ok d4_67 rfl (by simp) (by decide) (by decide) ?_
      refine ⟨⟨_, rfl, Or.inr ⟨3, rfl, by omega, ⟨by omega, all9, fun j hj => ?_, fun q => Or.inl ?_⟩, Or.inl (by omega)⟩⟩, rfl⟩
      · obtain rfl | rfl | rfl : j = 0 ∨ j = 1 ∨ j = 2 := by omega
        all_goals simp [pv]; omega
      · simp [pv]; omega
    refine r_icmp_lt (pc' := 41) (pcY := 61) ok rfl d4_38 (by decide) (by decide) ?_ ?_
    · intro hd
      exact J2 (Or.inl ((hlt 3 (by omega)).mp hd))
    intro hd
    have L3 : 3 ≤ L := Nat.le_of_not_lt fun q => hd ((hlt 3 (by omega)).mpr q)
    refine r_iloadN (pc' := 42) ok rfl d4_41 rfl ?_
    refine r_bipushV (pc' := 44) ok rfl (100 : Int32) d4_42 rfl ?_
    refine r_imul (pc' := 45) ok rfl d4_44 ?_
    refine r_iloadN (pc' := 46) ok rfl d4_45 rfl ?_
    refine r_bipushV (pc' := 48) ok rfl (10 : Int32) d4_46 rfl ?_
    refine r_imul (pc' := 49) ok rfl d4_48 ?_
    refine r_iadd (pc' := 50) ok rfl d4_49 ?_
    refine r_iload (pc' := 52) ok rfl d4_50 rfl ?_
    refine r_iadd (pc' := 53) ok rfl d4_52 ?_
    refine r_sipushV (pc' := 56) ok rfl (255 : Int32) d4_53 rfl ?_
    have e255 : (255 : Int32).toInt = 255 := rfl
    have x1 := c_imul v5 100
    have x2 := c_imul v11 10
    have x3 := c_iadd (v5 * 100) (v11 * 10)
    have x4 := c_iadd (v5 * 100 + v11 * 10) v17
    have r1 := rng32 (v5 * 100)
    have r2 := rng32 (v11 * 10)
    have r3 := rng32 (v5 * 100 + v11 * 10)
    have r4 := rng32 (v5 * 100 + v11 * 10 + v17)
    rw [show (100 : Int32).toInt = 100 from rfl] at x1
    rw [show (10 : Int32).toInt = 10 from rfl] at x2
    have hsum : (v5 * 100 + v11 * 10 + v17).toInt = 100 * (dN sp 0 : Int) + 10 * (dN sp 1 : Int) + (dN sp 2 : Int) := by omega
    refine r_icmp_le (pc' := 59) (pcY := 61) ok rfl d4_56 (by decide) (by decide) ?_ ?_
    · intro hx
      rw [lti, e255, hsum] at hx
      exact J2 (Or.inr (by omega))
    intro hx
    rw [lti, e255, hsum] at hx
    refine r_iconstV (pc' := 60) ok rfl (2 : Int32) d4_59 rfl ?_
    refine r_ireturn ok d4_60 rfl (by simp) (by decide) (by decide) ?_
    refine ⟨⟨_, rfl, Or.inr ⟨2, rfl, by omega, ⟨by omega, all9, fun j hj => ?_, fun q => Or.inl ?_⟩, Or.inl (by omega)⟩⟩, rfl⟩
    · obtain rfl | rfl : j = 0 ∨ j = 1 := by omega
      all_goals simp [pv]; omega
    · simp [pv]; omega
  refine r_if_ne (pc' := 29) (pcY := 36) ok rfl d4_26 (by decide) (by decide) ?_ ?_
  · intro hd
    refine J (Or.inl fun q => hd ?_)
    apply Int32.toInt_inj.mp
    rw [e0, q]; rfl
  intro hd
  refine r_iloadN (pc' := 30) ok rfl d4_29 rfl ?_
  refine r_iconstV (pc' := 31) ok rfl (2 : Int32) d4_30 rfl ?_
  refine r_icmp_lt (pc' := 34) (pcY := 36) ok rfl d4_31 (by decide) (by decide) ?_ ?_
  · intro hx
    exact J (Or.inr ((hlt 2 (by omega)).mp hx))
  intro hx
  have L2 : 2 ≤ L := Nat.le_of_not_lt fun q => hx ((hlt 2 (by omega)).mpr q)
  refine r_iconstV (pc' := 35) ok rfl (1 : Int32) d4_34 rfl ?_
  have d0 : dN sp 0 = 0 := by rw [hd] at e0; have : (0 : Int32).toInt = 0 := rfl; omega
  refine r_ireturn ok d4_35 rfl (by simp) (by decide) (by decide) ?_
  refine ⟨⟨_, rfl, Or.inr ⟨1, rfl, by omega, ⟨by omega, all9, fun j hj => ?_, fun q => Or.inr ⟨by omega, d0⟩⟩, Or.inl (by omega)⟩⟩, rfl⟩
  obtain rfl : j = 0 := by omega
  simp [pv]; omega
/-! DIGIT -/
def digV : List Value := (List.range 128).map fun j => Value.int (if 48 ≤ j ∧ j < 58 then 1 else 0)
theorem digV_at {j : Nat} (h : j < 128) (d : Value) : digV.getD j d = Value.int (if 48 ≤ j ∧ j < 58 then 1 else 0) := by
  simp [digV, List.getD_eq_getElem?_getD, h]
theorem own_digit {Z : State} {args : Array Value} {t : Term} {mb : Addr} (hf : Fit Z) (et : ∀ idx, t.eval args Z none idx Z = some (.ref mb)) (hA : (Cond.arrayOf t .boolean).value args Z none Z [] = some true) (hl : (Cond.eq (Term.length t) (Term.int 128)).value args Z none Z [] = some true)
    (h1 : (Cond.all t (.or (.le (.int 48) (.index 0)) (.eq (.elem t (.index 0)) (.int 0)))).value args Z none Z [] = some true)
    (h2 : (Cond.all t (.or (.lt (.index 0) (.int 48)) (.or (.le (.int 58) (.index 0)) (.eq (.elem t (.index 0)) (.int 1))))).value args Z none Z [] = some true)
    (h3 : (Cond.all t (.or (.lt (.index 0) (.int 58)) (.eq (.elem t (.index 0)) (.int 0)))).value args Z none Z [] = some true) : ∃ km, Arv Z Z.heap mb km .boolean 128 digV (.int 0) := by
  obtain ⟨cl, A⟩ := Arr.start (et []) hA
  have ha := A.fin (Vm.Alike.refl _)
  have e := eqv_i (Term.int_eval 128) hl
  have q : cl.slots.size < 2 ^ 31 := by
    by_cases q : cl.slots.size < 2 ^ 31
    · exact q
    · simp [Term.eval, et [], ha, q] at e
  have S : cl.slots.size = 128 := by
    rw [len_f (et []) ha q] at e
    have x := len_toInt q
    rw [show cl.slots.size.toInt32 = 128 by injection (Option.some.inj e)] at x
    have : (128 : Int32).toInt = 128 := rfl
    omega
  have ix : ∀ i : Nat, i < 128 → (Nat.toInt32 i).toInt = (i : Int) := fun i hi => len_toInt (by omega)
  have nn : ∀ i : Nat, i < 128 → ¬ Nat.toInt32 i < 0 := fun i hi => by rw [lti, ix i hi]; show ¬ (i : Int) < 0; omega
  have cn : ∀ i : Nat, i < 128 → (Nat.toInt32 i).toNatClampNeg = i := fun i hi => by show (Nat.toInt32 i).toInt.toNat = i; rw [ix i hi]; rfl
  have el : ∀ i : Nat, i < 128 → (Term.elem t (.index 0)).eval args Z none [i] Z = cl.slots[i]? := fun i hi => by
    have := elem_f (et _) (Term.index_eval (args := args) (first := Z) (o := none) (idx := []) (s := Z) i) ha (nn i hi)
    rw [cn i hi] at this; exact this
  have H : ∀ i : Nat, i < 128 → cl.slots[i]? = some (.int (if 48 ≤ i ∧ i < 58 then 1 else 0)) := by
    intro i hi
    have hs : i < cl.slots.size := by omega
    rw [← el i hi]
    by_cases a : i < 48
    · have u := Cond.all_elim (et []) ha h1 i hs
      rw [Cond.or_of_right (nay (Cond.le_ints (Term.int_eval 48) (Term.index_eval i)) (by rw [Int32.le_iff_toInt_le, ix i hi]; show ¬ (48 : Int) ≤ i; omega))] at u
      rw [if_neg (by omega)]; exact eqv_i (Term.int_eval 0) u
    · by_cases b : i < 58
      · have u := Cond.all_elim (et []) ha h2 i hs
        rw [Cond.or_of_right (nay (Cond.lt_ints (Term.index_eval i) (Term.int_eval 48)) (by rw [lti, ix i hi]; show ¬ (i : Int) < 48; omega)), Cond.or_of_right (nay (Cond.le_ints (Term.int_eval 58) (Term.index_eval i)) (by rw [Int32.le_iff_toInt_le, ix i hi]; show ¬ (58 : Int) ≤ i; omega))] at u
        rw [if_pos (by omega)]; exact eqv_i (Term.int_eval 1) u
      · have u := Cond.all_elim (et []) ha h3 i hs
        rw [Cond.or_of_right (nay (Cond.lt_ints (Term.index_eval i) (Term.int_eval 58)) (by rw [lti, ix i hi]; show ¬ (i : Int) < 58; omega))] at u
        rw [if_neg (by omega)]; exact eqv_i (Term.int_eval 0) u
  refine ⟨cl.cls, cl, A, rfl, S, by decide, fun i hi => ?_, fun i hi => ?_⟩
  · rw [digV_at (by omega)]; exact H i (by omega)
  · rw [digV_at (by omega)]; split <;> rfl
theorem d5_0 : decode prog_34_method_4_code 0 = .ok (.iload_n 1, 1) := by decide +kernel
theorem d5_1 : decode prog_34_method_4_code 1 = .ok (.aload_n 0, 1) := by decide +kernel
theorem d5_2 : decode prog_34_method_4_code 2 = .ok (.getfield 56, 3) := by decide +kernel
theorem d5_5 : decode prog_34_method_4_code 5 = .ok (.arraylength, 1) := by decide +kernel
theorem d5_6 : decode prog_34_method_4_code 6 = .ok (.if_icmp .ge 16, 3) := by decide +kernel
theorem d5_9 : decode prog_34_method_4_code 9 = .ok (.aload_n 0, 1) := by decide +kernel
theorem d5_10 : decode prog_34_method_4_code 10 = .ok (.getfield 56, 3) := by decide +kernel
theorem d5_13 : decode prog_34_method_4_code 13 = .ok (.iload_n 1, 1) := by decide +kernel
theorem d5_14 : decode prog_34_method_4_code 14 = .ok (.baload, 1) := by decide +kernel
theorem d5_15 : decode prog_34_method_4_code 15 = .ok (.ifCond .eq 7, 3) := by decide +kernel
theorem d5_18 : decode prog_34_method_4_code 18 = .ok (.iconst 1, 1) := by decide +kernel
theorem d5_19 : decode prog_34_method_4_code 19 = .ok (.goto 4, 3) := by decide +kernel
theorem d5_22 : decode prog_34_method_4_code 22 = .ok (.iconst 0, 1) := by decide +kernel
theorem d5_23 : decode prog_34_method_4_code 23 = .ok (.ireturn, 1) := by decide +kernel
set_option maxRecDepth 65536 in
theorem rmHo (l : Launch) (Z : State) (a0 : Array Value) (hw : ∀ d ∈ tables_1, d.before a0 Z = true) (dg mb : Addr) (km : ClassId) (c : Int32) (dv : Value) (h0 : Heap) (hc0 : 0 ≤ c.toInt) (F : Fld Z h0 dg CC "members" "[Z" (.ref mb)) (M : Arv Z h0 mb km .boolean 128 digV dv) :
    Con l Z [] [] false (⟨"com/example/fundort/fundort/util/CharClass", "holds", "(C)Z"⟩ : MethodName) prog_34_method_4_code 2 (some .boolean) RZ #[.ref dg, .int c] h0 (rV fun v h => v = .int (if 48 ≤ c.toInt ∧ c.toInt ≤ 57 then 1 else 0) ∧ h0 = h) := by
  have e128 : (128 : Int32).toInt = 128 := rfl
  have e0 : (0 : Int32).toInt = 0 := rfl
  refine body (ls := #[.val (.ref dg), .val (.int c)]) (plainFor_of_name pn_6) (fun m => by first | (simp [entryFrame, mkF, argsToLocals, Value.category]; done) | rfl) fun K ok => ?_
  refine r_iloadN (pc' := 1) ok rfl d5_0 rfl ?_
  refine r_aloadN (pc' := 2) ok rfl d5_1 rfl rfl ?_
  refine r_getfield (pc' := 5) (host := "") ok rfl d5_2 (Or.inl (hw _ (List.mem_of_getElem? (i := 75) rfl))) Via.refl F ?_
  refine r_arraylength (pc' := 6) ok rfl d5_5 M ?_
  refine r_icmp_ge (pc' := 9) (pcY := 22) ok rfl d5_6 (by decide) (by decide) ?_ ?_
  · intro hc
    rw [lti, e128] at hc
    refine r_iconstV (pc' := 23) ok rfl (0 : Int32) d5_22 rfl ?_
    refine r_ireturn ok d5_23 rfl (by simp) (by decide) (by decide) ?_
    exact ⟨by rw [if_neg (by omega)], rfl⟩
  intro hc
  refine r_aloadN (pc' := 10) ok rfl d5_9 rfl rfl ?_
  refine r_getfield (pc' := 13) (host := "") ok rfl d5_10 (Or.inl (hw _ (List.mem_of_getElem? (i := 75) rfl))) Via.refl F ?_
  refine r_iloadN (pc' := 14) ok rfl d5_13 rfl ?_
  have hcn : c.toNatClampNeg < 128 := by
    rw [lti, e128] at hc
    show c.toInt.toNat < 128
    omega
  have hcz : ¬ c < 0 := by rw [lti, e0]; omega
  refine r_baloadZ (pc' := 15) ok rfl d5_14 M ⟨hcz, hc⟩ (digV_at hcn _) ?_
  have ec : (c.toNatClampNeg : Int) = c.toInt := by show ((c.toInt.toNat : Nat) : Int) = _; omega
  by_cases hq : 48 ≤ c.toNatClampNeg ∧ c.toNatClampNeg < 58
  · rw [if_pos hq]
    refine r_if_eq (pc' := 18) (pcY := 22) ok rfl d5_15 (by decide) (by decide) ?_ ?_
    · intro hd
      exact absurd hd (by decide)
    intro _
    refine r_iconstV (pc' := 19) ok rfl (1 : Int32) d5_18 rfl ?_
    refine r_goto (pc' := 23) ok d5_19 (by decide) (by decide) ?_
    refine r_ireturn ok d5_23 rfl (by simp) (by decide) (by decide) ?_
    exact ⟨by rw [if_pos (by omega)], rfl⟩
  · rw [if_neg hq]
    refine r_if_eq (pc' := 18) (pcY := 22) ok rfl d5_15 (by decide) (by decide) ?_ ?_
    rotate_left
    · intro hd
      exact absurd rfl hd
    intro _
    refine r_iconstV (pc' := 23) ok rfl (0 : Int32) d5_22 rfl ?_
    refine r_ireturn ok d5_23 rfl (by simp) (by decide) (by decide) ?_
    exact ⟨by rw [if_neg (by omega)], rfl⟩
/-! the String, and its charAt -/
def StrL (Z : State) (h : Heap) (x : Addr) (cs : List Int32) : Prop := Exa Z h x ST ∧ ∃ (t : Addr) (kb : ClassId), Fld Z h x ST "value" "[B" (.ref t) ∧ Fld Z h x ST "coder" "B" (.int 0) ∧ Arv Z h t kb .byte 18 ((cs.map fun c => c.toInt8.toInt32).map Value.int) (.int 0)
abbrev chaN : MethodName := ⟨"java/lang/String", "charAt", "(I)C"⟩
theorem lat_mem {cs : List Int32} (H : Lat cs) : ∀ c ∈ cs, ¬ c < 0 ∧ ¬ (255 : Int32) < c := fun c hc => by
  obtain ⟨q, hq, rfl⟩ := List.getElem_of_mem hc
  have := H q
  rw [List.getD_eq_getElem?_getD, List.getElem?_eq_getElem hq, Option.getD_some] at this
  have e0 : (0 : Int32).toInt = 0 := rfl
  have e255 : (255 : Int32).toInt = 255 := rfl
  rw [lti, lti, e0, e255]; omega
theorem payCh (l : Launch) (Z : State) (a0 : Array Value) (hw : ∀ d ∈ tables_1, d.before a0 Z = true) (R : Room) {W : Nat} {h : Heap} {x : Addr} {cs : List Int32} {G1 : Int32} {FM : Value} (i : Nat) {j : Int32} (hl : cs.length = 18) (hL : Lat cs) (F : StrL Z h x cs) (S1 : Sta Z Z.heap ST "COMPACT_STRINGS" "Z" (.int G1)) (P1 : ¬ G1 = 0) (S8 : Sta Z Z.heap "jdk/internal/util/Preconditions" "SIOOBE_FORMATTER" "Ljava/util/function/BiFunction;" FM) (hFM : FM.isRef = true) (hj : j = Int32.ofNat i) (hi : i < 18) (hfr : 4 ≤ R.frames) (hlo : W + 53 ≤ R.locals) :
    Pay Z [] false l R chaN 3 W #[.ref x, .int j] h 0 0 (rV fun v h' => v = .int (cs.getD i 0) ∧ h = h') := by
  obtain ⟨E, t, kb, Fv, Fc, A⟩ := F
  intro p e below s args hZ _ X
  refine Back.mono (StrChars.Road.chN hZ (fun d hd => hw d ((by decide +kernel : ∀ d ∈ StrChars.Road.wordsChN, d ∈ tables_1) d hd)) (hw _ (List.mem_of_getElem? (i := 13) rfl)) (i := i) E Fv Fc A (by rw [show (18 : Int32) = Int32.ofNat cs.length by rw [hl]; rfl]; exact StrChars.Road.codOf rfl (fun c hc => (lat_mem hL c hc).2)) (fun c hc => ⟨(lat_mem hL c hc).1, fun q => (lat_mem hL c hc).2 (by rw [lti] at q ⊢; have a1 : (65535 : Int32).toInt = 65535 := rfl; have a2 : (255 : Int32).toInt = 255 := rfl; omega)⟩) (S1.ext X) P1 (S8.ext X) hFM (by omega) (by omega) hj hfr hlo) (fun A a q => q) (fun A a v B hp hq => ?_)
  obtain ⟨L, ⟨q1, rfl, q3⟩, r⟩ := hq
  exact ⟨[], ⟨⟨_, q1, rfl, q3.symm⟩, Fr.nil _, by rw [q3]; exact X, by rw [q3]; exact Nat.le_refl _⟩, r⟩
theorem d6_0 : decode prog_36_method_2_code 0 = .ok (.iload_n 1, 1) := by decide +kernel
theorem d6_1 : decode prog_36_method_2_code 1 = .ok (.istore_n 3, 1) := by decide +kernel
theorem d6_2 : decode prog_36_method_2_code 2 = .ok (.iconst 1, 1) := by decide +kernel
theorem d6_3 : decode prog_36_method_2_code 3 = .ok (.istore 4, 2) := by decide +kernel
theorem d6_5 : decode prog_36_method_2_code 5 = .ok (.iload 4, 2) := by decide +kernel
theorem d6_7 : decode prog_36_method_2_code 7 = .ok (.iconst 4, 1) := by decide +kernel
theorem d6_8 : decode prog_36_method_2_code 8 = .ok (.if_icmp .gt 117, 3) := by decide +kernel
theorem d6_11 : decode prog_36_method_2_code 11 = .ok (.iload 4, 2) := by decide +kernel
theorem d6_13 : decode prog_36_method_2_code 13 = .ok (.iconst 1, 1) := by decide +kernel
theorem d6_14 : decode prog_36_method_2_code 14 = .ok (.if_icmp .le 23, 3) := by decide +kernel
theorem d6_17 : decode prog_36_method_2_code 17 = .ok (.iload_n 3, 1) := by decide +kernel
theorem d6_18 : decode prog_36_method_2_code 18 = .ok (.iload_n 2, 1) := by decide +kernel
theorem d6_19 : decode prog_36_method_2_code 19 = .ok (.if_icmp .eq 13, 3) := by decide +kernel
theorem d6_22 : decode prog_36_method_2_code 22 = .ok (.aload_n 0, 1) := by decide +kernel
theorem d6_23 : decode prog_36_method_2_code 23 = .ok (.iload_n 3, 1) := by decide +kernel
theorem d6_24 : decode prog_36_method_2_code 24 = .ok (.invokevirtual 7, 3) := by decide +kernel
theorem d6_27 : decode prog_36_method_2_code 27 = .ok (.bipush 46, 2) := by decide +kernel
theorem d6_29 : decode prog_36_method_2_code 29 = .ok (.if_icmp .eq 5, 3) := by decide +kernel
theorem d6_32 : decode prog_36_method_2_code 32 = .ok (.iload_n 3, 1) := by decide +kernel
theorem d6_33 : decode prog_36_method_2_code 33 = .ok (.ireturn, 1) := by decide +kernel
theorem d6_34 : decode prog_36_method_2_code 34 = .ok (.iinc 3 1, 3) := by decide +kernel
theorem d6_37 : decode prog_36_method_2_code 37 = .ok (.iload_n 3, 1) := by decide +kernel
theorem d6_38 : decode prog_36_method_2_code 38 = .ok (.istore 5, 2) := by decide +kernel
theorem d6_40 : decode prog_36_method_2_code 40 = .ok (.iconst 0, 1) := by decide +kernel
theorem d6_41 : decode prog_36_method_2_code 41 = .ok (.istore 6, 2) := by decide +kernel
theorem d6_43 : decode prog_36_method_2_code 43 = .ok (.iload_n 3, 1) := by decide +kernel
theorem d6_44 : decode prog_36_method_2_code 44 = .ok (.iload_n 2, 1) := by decide +kernel
theorem d6_45 : decode prog_36_method_2_code 45 = .ok (.if_icmp .ge 66, 3) := by decide +kernel
theorem d6_48 : decode prog_36_method_2_code 48 = .ok (.getstatic 13, 3) := by decide +kernel
theorem d6_51 : decode prog_36_method_2_code 51 = .ok (.aload_n 0, 1) := by decide +kernel
theorem d6_52 : decode prog_36_method_2_code 52 = .ok (.iload_n 3, 1) := by decide +kernel
theorem d6_53 : decode prog_36_method_2_code 53 = .ok (.invokevirtual 7, 3) := by decide +kernel
theorem d6_56 : decode prog_36_method_2_code 56 = .ok (.invokevirtual 19, 3) := by decide +kernel
theorem d6_59 : decode prog_36_method_2_code 59 = .ok (.ifCond .eq 52, 3) := by decide +kernel
theorem d6_62 : decode prog_36_method_2_code 62 = .ok (.iload 6, 2) := by decide +kernel
theorem d6_64 : decode prog_36_method_2_code 64 = .ok (.bipush 10, 2) := by decide +kernel
theorem d6_66 : decode prog_36_method_2_code 66 = .ok (.imul, 1) := by decide +kernel
theorem d6_67 : decode prog_36_method_2_code 67 = .ok (.aload_n 0, 1) := by decide +kernel
theorem d6_68 : decode prog_36_method_2_code 68 = .ok (.iload_n 3, 1) := by decide +kernel
theorem d6_69 : decode prog_36_method_2_code 69 = .ok (.invokevirtual 7, 3) := by decide +kernel
theorem d6_72 : decode prog_36_method_2_code 72 = .ok (.iadd, 1) := by decide +kernel
theorem d6_73 : decode prog_36_method_2_code 73 = .ok (.bipush 48, 2) := by decide +kernel
theorem d6_75 : decode prog_36_method_2_code 75 = .ok (.isub, 1) := by decide +kernel
theorem d6_76 : decode prog_36_method_2_code 76 = .ok (.istore 6, 2) := by decide +kernel
theorem d6_78 : decode prog_36_method_2_code 78 = .ok (.iload 6, 2) := by decide +kernel
theorem d6_80 : decode prog_36_method_2_code 80 = .ok (.sipush 255, 3) := by decide +kernel
theorem d6_83 : decode prog_36_method_2_code 83 = .ok (.if_icmp .gt 20, 3) := by decide +kernel
theorem d6_86 : decode prog_36_method_2_code 86 = .ok (.aload_n 0, 1) := by decide +kernel
theorem d6_87 : decode prog_36_method_2_code 87 = .ok (.iload 5, 2) := by decide +kernel
theorem d6_89 : decode prog_36_method_2_code 89 = .ok (.invokevirtual 7, 3) := by decide +kernel
theorem d6_92 : decode prog_36_method_2_code 92 = .ok (.bipush 48, 2) := by decide +kernel
theorem d6_94 : decode prog_36_method_2_code 94 = .ok (.if_icmp .ne 11, 3) := by decide +kernel
theorem d6_97 : decode prog_36_method_2_code 97 = .ok (.iload_n 3, 1) := by decide +kernel
theorem d6_98 : decode prog_36_method_2_code 98 = .ok (.iload 5, 2) := by decide +kernel
theorem d6_100 : decode prog_36_method_2_code 100 = .ok (.if_icmp .le 5, 3) := by decide +kernel
theorem d6_103 : decode prog_36_method_2_code 103 = .ok (.iload_n 3, 1) := by decide +kernel
theorem d6_104 : decode prog_36_method_2_code 104 = .ok (.ireturn, 1) := by decide +kernel
theorem d6_105 : decode prog_36_method_2_code 105 = .ok (.iinc 3 1, 3) := by decide +kernel
theorem d6_108 : decode prog_36_method_2_code 108 = .ok (.goto (-65), 3) := by decide +kernel
theorem d6_111 : decode prog_36_method_2_code 111 = .ok (.iload_n 3, 1) := by decide +kernel
theorem d6_112 : decode prog_36_method_2_code 112 = .ok (.iload 5, 2) := by decide +kernel
theorem d6_114 : decode prog_36_method_2_code 114 = .ok (.if_icmp .ne 5, 3) := by decide +kernel
theorem d6_117 : decode prog_36_method_2_code 117 = .ok (.iload_n 3, 1) := by decide +kernel
theorem d6_118 : decode prog_36_method_2_code 118 = .ok (.ireturn, 1) := by decide +kernel
theorem d6_119 : decode prog_36_method_2_code 119 = .ok (.iinc 4 1, 3) := by decide +kernel
theorem d6_122 : decode prog_36_method_2_code 122 = .ok (.goto (-117), 3) := by decide +kernel
theorem d6_125 : decode prog_36_method_2_code 125 = .ok (.iload_n 3, 1) := by decide +kernel
theorem d6_126 : decode prog_36_method_2_code 126 = .ok (.iload_n 2, 1) := by decide +kernel
theorem d6_127 : decode prog_36_method_2_code 127 = .ok (.if_icmp .ne 7, 3) := by decide +kernel
theorem d6_130 : decode prog_36_method_2_code 130 = .ok (.iconst (-1), 1) := by decide +kernel
theorem d6_131 : decode prog_36_method_2_code 131 = .ok (.goto 4, 3) := by decide +kernel
theorem d6_134 : decode prog_36_method_2_code 134 = .ok (.iload_n 3, 1) := by decide +kernel
theorem d6_135 : decode prog_36_method_2_code 135 = .ok (.ireturn, 1) := by decide +kernel
abbrev R6 : Room := { frames := 4, cells := 0, slots := 0, locals := 54 }
set_option maxRecDepth 65536 in
theorem rmFF (l : Launch) (Z : State) (a0 : Array Value) (hw : ∀ d ∈ tables_1, d.before a0 Z = true) (x dg mb : Addr) (km : ClassId) (dv : Value) (fr to G1 : Int32) (FR TO : Nat) (cs : List Int32) (FM : Value) (h0 : Heap) (hcl : cs.length = 18) (hL : Lat cs) (Sx : StrL Z h0 x cs) (S1 : Sta Z Z.heap ST "COMPACT_STRINGS" "Z" (.int G1)) (P1 : ¬ G1 = 0) (S8 : Sta Z Z.heap "jdk/internal/util/Preconditions" "SIOOBE_FORMATTER" "Ljava/util/function/BiFunction;" FM) (hFM : FM.isRef = true)
    (SD : Sta Z Z.heap CC "DIGIT" "Lcom/example/fundort/fundort/util/CharClass;" (.ref dg)) (ED : Exa Z Z.heap dg CC) (FD : Fld Z Z.heap dg CC "members" "[Z" (.ref mb)) (MD : Arv Z Z.heap mb km .boolean 128 digV dv) (hfr : fr = Int32.ofNat FR) (hto : to = Int32.ofNat TO) (hft : FR ≤ TO) (hT : TO ≤ 18) :
    Con l Z [] [] false (⟨"com/example/fundort/fundort/util/Ipv4Address", "firstFault", "(Ljava/lang/String;II)I"⟩ : MethodName) prog_36_method_2_code 7 (some .int) R6 #[.ref x, .int fr, .int to] h0 (rV fun v h => (∃ r : Int32, v = .int r ∧ r.toInt = ffR (fun q => (cs.getD q 0).toInt) FR TO) ∧ h0 = h) := by
  obtain ⟨C, hC⟩ : ∃ C : Nat → Int, C = fun q => (cs.getD q 0).toInt := ⟨_, rfl⟩
  rw [← hC]
  have hCq : ∀ q, (cs.getD q 0).toInt = C q := fun q => by rw [hC]
  obtain ⟨res, hres⟩ : ∃ res, res = ffR C FR TO := ⟨_, rfl⟩
  rw [← hres]
  have e46 : (46 : Int32).toInt = 46 := rfl
  have e48 : (48 : Int32).toInt = 48 := rfl
  have e255 : (255 : Int32).toInt = 255 := rfl
  have eqi : ∀ {a b : Int32}, a = b ↔ a.toInt = b.toInt := fun {a b} => Int32.toInt_inj.symm
  have hE : Exa Z h0 x ST := Sx.1
  refine body (ls := #[.val (.ref x), .val (.int fr), .val (.int to), .unset, .unset, .unset, .unset]) (plainFor_of_name pn_3) (fun m => by first | (simp [entryFrame, mkF, argsToLocals, Value.category]; done) | rfl) fun K ok => ?_
  refine r_old fun X0 => ?_
  replace ED := ED.ext X0
  replace FD := FD.ext X0
  replace MD := MD.ext X0
  -- the answer given
  have fin : ∀ (p : Nat), p ≤ 18 → (p : Int) = res → (Int32.ofNat p).toInt = res := fun p hp e => by rw [ofN_toInt (by omega)]; exact e
  -- the scanning loop at 43
  have scan : ∀ (f pos : Nat) (st : Nat) (v : Int32) (oc : Int32), pos + f = TO → st ≤ pos → 0 ≤ v.toInt → v.toInt ≤ 255 → (match scanF C st f pos v.toInt with | .inl p => (p : Int) = res | .inr p => ∀ v' : Int32, st ≤ p → p ≤ TO → Run Z K Cln h0 0 0 111 #[.val (.ref x), .val (.int fr), .val (.int to), .val (.int (Int32.ofNat p)), .val (.int oc), .val (.int (Int32.ofNat st)), .val (.int v')] []) →
      Run Z K Cln h0 0 0 43 #[.val (.ref x), .val (.int fr), .val (.int to), .val (.int (Int32.ofNat pos)), .val (.int oc), .val (.int (Int32.ofNat st)), .val (.int v)] [] := by
    intro f
    induction f with
    | zero =>
      intro pos st v oc hpf hsp v0 v1 hm
      refine r_iloadN (pc' := 44) ok rfl d6_43 rfl ?_
      refine r_iloadN (pc' := 45) ok rfl d6_44 rfl ?_
      refine r_icmp_ge (pc' := 48) (pcY := 111) ok rfl d6_45 (by decide) (by decide) ?_ ?_
      · intro _
        exact hm v hsp (by omega)
      intro hc
      rw [hto] at hc
      exact absurd ((ofN_lt (by omega) (by omega)).mp hc) (by omega)
    | succ f ih =>
      intro pos st v oc hpf hsp v0 v1 hm
      refine r_iloadN (pc' := 44) ok rfl d6_43 rfl ?_
      refine r_iloadN (pc' := 45) ok rfl d6_44 rfl ?_
      refine r_icmp_ge (pc' := 48) (pcY := 111) ok rfl d6_45 (by decide) (by decide) ?_ ?_
      · intro hc
        rw [hto] at hc
        exact absurd ((ofN_lt (by omega) (by omega)).mpr (by omega)) hc
      intro _
      refine r_getstatic (pc' := 51) ok rfl d6_48 (hw _ (List.mem_of_getElem? (i := 45) rfl)) Via.refl SD ?_
      refine r_aloadN (pc' := 52) ok rfl d6_51 rfl rfl ?_
      refine r_iloadN (pc' := 53) ok rfl d6_52 rfl ?_
      refine r_virtual (pc' := 56) ok rfl d6_53 (hw _ (List.mem_of_getElem? (i := 48) rfl)) (hw _ (List.mem_of_getElem? (i := 49) rfl)) (hw _ (List.mem_of_getElem? (i := 51) rfl)) (hw _ (List.mem_of_getElem? (i := 50) rfl)) (nf_sel (C := "java/lang/String") (z := (⟨"java/lang/String", "charAt", "(I)C"⟩ : MethodName)) (hw _ (List.mem_of_getElem? (i := 51) rfl))) hE (by decide) pd_10 (payCh l Z a0 hw R6 (W := 1) pos hcl hL Sx S1 P1 S8 hFM rfl (by omega) (by decide) (by decide)) (fun q => nomatch q) (Or.inl rfl) rfl (argsL := [(.int (Int32.ofNat pos))]) (rest := [(.ref dg)]) rfl rfl rfl (Nat.le_of_ble_eq_true rfl) (by decide) (by decide) (cV fun x1 h1 q1 le1 => ?_)
      obtain ⟨rfl, rfl⟩ := q1
      have hlat := hL pos
      refine r_virtual (pc' := 59) ok rfl d6_56 (hw _ (List.mem_of_getElem? (i := 70) rfl)) (hw _ (List.mem_of_getElem? (i := 71) rfl)) (hw _ (List.mem_of_getElem? (i := 73) rfl)) (hw _ (List.mem_of_getElem? (i := 72) rfl)) (nf_sel (C := "com/example/fundort/fundort/util/CharClass") (z := (⟨"com/example/fundort/fundort/util/CharClass", "holds", "(C)Z"⟩ : MethodName)) (hw _ (List.mem_of_getElem? (i := 73) rfl))) ED (by decide) pd_0 (Con.pay (W := 0) (rmHo l Z a0 hw dg mb km (cs.getD pos 0) dv h0 hlat.1 FD MD) EW.nil (hw _ (List.mem_of_getElem? (i := 74) rfl)) (hw _ (List.mem_of_getElem? (i := 46) rfl)) (by decide) (by decide)) (fun q => nomatch q) (Or.inl rfl) rfl (argsL := [(.int _)]) (rest := []) rfl rfl rfl (Nat.le_of_ble_eq_true rfl) (by decide) (by decide) (cV fun x2 h2 q2 le2 => ?_)
      obtain ⟨rfl, rfl⟩ := q2
      rw [hCq] at *
      rw [scanF] at hm
      by_cases hdg : 48 ≤ C pos ∧ C pos ≤ 57
      rotate_left
      · rw [if_neg hdg]
        rw [if_neg hdg] at hm
        refine r_if_eq (pc' := 62) (pcY := 111) ok rfl d6_59 (by decide) (by decide) ?_ ?_
        rotate_left
        · intro hd
          exact absurd rfl hd
        intro _
        exact hm v hsp (by omega)
      rw [if_pos hdg]
      rw [if_pos hdg] at hm
      refine r_if_eq (pc' := 62) (pcY := 111) ok rfl d6_59 (by decide) (by decide) ?_ ?_
      · intro hd
        exact absurd hd (by decide)
      intro _
      refine r_iload (pc' := 64) ok rfl d6_62 rfl ?_
      refine r_bipushV (pc' := 66) ok rfl (10 : Int32) d6_64 rfl ?_
      refine r_imul (pc' := 67) ok rfl d6_66 ?_
      refine r_aloadN (pc' := 68) ok rfl d6_67 rfl rfl ?_
      refine r_iloadN (pc' := 69) ok rfl d6_68 rfl ?_
      refine r_virtual (pc' := 72) ok rfl d6_69 (hw _ (List.mem_of_getElem? (i := 48) rfl)) (hw _ (List.mem_of_getElem? (i := 49) rfl)) (hw _ (List.mem_of_getElem? (i := 51) rfl)) (hw _ (List.mem_of_getElem? (i := 50) rfl)) (nf_sel (C := "java/lang/String") (z := (⟨"java/lang/String", "charAt", "(I)C"⟩ : MethodName)) (hw _ (List.mem_of_getElem? (i := 51) rfl))) hE (by decide) pd_10 (payCh l Z a0 hw R6 (W := 1) pos hcl hL Sx S1 P1 S8 hFM rfl (by omega) (by decide) (by decide)) (fun q => nomatch q) (Or.inl rfl) rfl (argsL := [(.int (Int32.ofNat pos))]) (rest := [.int _]) rfl rfl rfl (Nat.le_of_ble_eq_true rfl) (by decide) (by decide) (cV fun x3 h3 q3 le3 => ?_)
      obtain ⟨rfl, rfl⟩ := q3
      refine r_iadd (pc' := 73) ok rfl d6_72 ?_
      refine r_bipushV (pc' := 75) ok rfl (48 : Int32) d6_73 rfl ?_
      refine r_isub (pc' := 76) ok rfl d6_75 ?_
      refine r_istore (pc' := 78) (ls' := fun z => #[.val (.ref x), .val (.int fr), .val (.int to), .val (.int (Int32.ofNat pos)), .val (.int oc), .val (.int (Int32.ofNat st)), .val (.int z)]) ok rfl d6_76 (fun _ => rfl) ?_
      intro v76 ev76
      refine r_iload (pc' := 80) ok rfl d6_78 rfl ?_
      refine r_sipushV (pc' := 83) ok rfl (255 : Int32) d6_80 rfl ?_
      have hcp := hCq pos
      have e10 : (10 : Int32).toInt = 10 := rfl
      have x1 := c_imul v 10
      have x2 := c_iadd (v * 10) (cs.getD pos 0)
      have x3 := c_isub (v * 10 + cs.getD pos 0) 48
      have r1 := rng32 (v * 10)
      have r2 := rng32 (v * 10 + cs.getD pos 0)
      have r3 := rng32 (v * 10 + cs.getD pos 0 - 48)
      rw [e10] at x1
      rw [e48] at x3
      have hv : v76.toInt = v.toInt * 10 + C pos - 48 := by rw [ev76]; omega
      refine r_icmp_gt (pc' := 86) (pcY := 103) ok rfl d6_83 (by decide) (by decide) ?_ ?_
      · intro hd
        rw [lti, e255, hv] at hd
        refine r_iloadN (pc' := 104) ok rfl d6_103 rfl ?_
        rw [if_pos (Or.inl (by omega))] at hm
        refine r_ireturn ok d6_104 rfl (by simp) (by decide) (by decide) ?_
        exact ⟨⟨_, rfl, fin pos (by omega) hm⟩, rfl⟩
      intro hd
      rw [lti, e255, hv] at hd
      refine r_aloadN (pc' := 87) ok rfl d6_86 rfl rfl ?_
      refine r_iload (pc' := 89) ok rfl d6_87 rfl ?_
      refine r_virtual (pc' := 92) ok rfl d6_89 (hw _ (List.mem_of_getElem? (i := 48) rfl)) (hw _ (List.mem_of_getElem? (i := 49) rfl)) (hw _ (List.mem_of_getElem? (i := 51) rfl)) (hw _ (List.mem_of_getElem? (i := 50) rfl)) (nf_sel (C := "java/lang/String") (z := (⟨"java/lang/String", "charAt", "(I)C"⟩ : MethodName)) (hw _ (List.mem_of_getElem? (i := 51) rfl))) hE (by decide) pd_10 (payCh l Z a0 hw R6 (W := 0) st hcl hL Sx S1 P1 S8 hFM rfl (by omega) (by decide) (by decide)) (fun q => nomatch q) (Or.inl rfl) rfl (argsL := [(.int (Int32.ofNat st))]) (rest := []) rfl rfl rfl (Nat.le_of_ble_eq_true rfl) (by decide) (by decide) (cV fun x4 h4 q4 le4 => ?_)
      obtain ⟨rfl, rfl⟩ := q4
      refine r_bipushV (pc' := 94) ok rfl (48 : Int32) d6_92 rfl ?_
      have go : ¬ (255 < v.toInt * 10 + C pos - 48 ∨ (C st = 48 ∧ st < pos)) → Run Z K Cln h0 0 0 105 #[.val (.ref x), .val (.int fr), .val (.int to), .val (.int (Int32.ofNat pos)), .val (.int oc), .val (.int (Int32.ofNat st)), .val (.int v76)] [] := by
        intro hno
        rw [if_neg hno] at hm
        refine r_iinc (pc' := 108) (ls' := fun z => #[.val (.ref x), .val (.int fr), .val (.int to), .val (.int z), .val (.int oc), .val (.int (Int32.ofNat st)), .val (.int v76)]) ok rfl d6_105 rfl (fun _ => rfl) ?_
        intro v105 ev105
        refine r_goto (pc' := 43) ok d6_108 (by decide) (by decide) ?_
        rw [show v105 = Int32.ofNat (pos + 1) by rw [ev105]; exact ofN_add (n := 1) (by omega)]
        exact ih (pos + 1) st v76 oc (by omega) (by omega) (by omega) (by omega) (by rw [hv]; exact hm)
      refine r_icmp_ne (pc' := 97) (pcY := 105) ok rfl d6_94 (by decide) (by decide) ?_ ?_
      · intro hd2
        rw [eqi, hCq, e48] at hd2
        exact go (by omega)
      intro hd2
      rw [eqi, hCq, e48] at hd2
      refine r_iloadN (pc' := 98) ok rfl d6_97 rfl ?_
      refine r_iload (pc' := 100) ok rfl d6_98 rfl ?_
      refine r_icmp_le (pc' := 103) (pcY := 105) ok rfl d6_100 (by decide) (by decide) ?_ ?_
      · intro hd3
        refine go fun q => ?_
        rcases q with q | q
        · omega
        · exact hd3 ((ofN_lt (by omega) (by omega)).mpr q.2)
      intro hd3
      have := (ofN_lt (by omega) (by omega)).mp hd3
      refine r_iloadN (pc' := 104) ok rfl d6_103 rfl ?_
      rw [if_pos (Or.inr ⟨hd2, this⟩)] at hm
      refine r_ireturn ok d6_104 rfl (by simp) (by decide) (by decide) ?_
      exact ⟨⟨_, rfl, fin pos (by omega) hm⟩, rfl⟩
  -- an octet from 37 on
  have oct : ∀ (st : Nat) (oc : Int32) (s5 s6 : Slot), One s5 → One s6 → st ≤ TO → (match octF C TO st with | .inl p => (p : Int) = res | .inr p => ∀ v', p ≤ TO → Run Z K Cln h0 0 0 119 #[.val (.ref x), .val (.int fr), .val (.int to), .val (.int (Int32.ofNat p)), .val (.int oc), .val (.int (Int32.ofNat st)), .val (.int v')] []) →
      Run Z K Cln h0 0 0 37 #[.val (.ref x), .val (.int fr), .val (.int to), .val (.int (Int32.ofNat st)), .val (.int oc), s5, s6] [] := by
    intro st oc s5 s6 o_s5 o_s6 hst hm
    refine r_iloadN (pc' := 38) ok rfl d6_37 rfl ?_
    refine r_istore (pc' := 40) (ls' := fun z => #[.val (.ref x), .val (.int fr), .val (.int to), .val (.int (Int32.ofNat st)), .val (.int oc), .val (.int z), s6]) ok rfl d6_38 (fun _ => st1 o_s5 rfl rfl rfl) ?_
    intro v38 ev38
    refine r_iconstV (pc' := 41) ok rfl (0 : Int32) d6_40 rfl ?_
    refine r_istore (pc' := 43) (ls' := fun z => #[.val (.ref x), .val (.int fr), .val (.int to), .val (.int (Int32.ofNat st)), .val (.int oc), .val (.int v38), .val (.int z)]) ok rfl d6_41 (fun _ => st1 o_s6 rfl rfl rfl) ?_
    intro v41 ev41
    rw [ev38]
    refine scan (TO - st) st st v41 oc (by omega) (Nat.le_refl _) (by rw [ev41]; decide) (by rw [ev41]; decide) ?_
    rw [octF] at hm
    rw [show v41.toInt = 0 by rw [ev41]; rfl]
    cases hS : scanF C st (TO - st) st 0 with
    | inl p => rw [hS] at hm; exact hm
    | inr p =>
      rw [hS] at hm
      intro v' hsp hpT
      dsimp only at hm
      refine r_iloadN (pc' := 112) ok rfl d6_111 rfl ?_
      refine r_iload (pc' := 114) ok rfl d6_112 rfl ?_
      by_cases hps : p = st
      · rw [if_pos hps] at hm
        refine r_icmp_ne (pc' := 117) (pcY := 119) ok rfl d6_114 (by decide) (by decide) ?_ ?_
        · intro hd
          exact absurd (by rw [hps]) hd
        intro _
        refine r_iloadN (pc' := 118) ok rfl d6_117 rfl ?_
        refine r_ireturn ok d6_118 rfl (by simp) (by decide) (by decide) ?_
        exact ⟨⟨_, rfl, fin p (by omega) hm⟩, rfl⟩
      · rw [if_neg hps] at hm
        refine r_icmp_ne (pc' := 117) (pcY := 119) ok rfl d6_114 (by decide) (by decide) ?_ ?_
        rotate_left
        · intro hd
          exact absurd (ofN_inj (by omega) (by omega) hd) hps
        intro _
        exact hm v' hpT
  -- the octets left
  have rest : ∀ (r p : Nat) (s5 s6 : Slot), One s5 → One s6 → r ≤ 3 → p ≤ TO → restF C TO r p = res → Run Z K Cln h0 0 0 5 #[.val (.ref x), .val (.int fr), .val (.int to), .val (.int (Int32.ofNat p)), .val (.int (Int32.ofNat (5 - r))), s5, s6] [] := by
    intro r
    induction r with
    | zero =>
      intro p s5 s6 o_s5 o_s6 hr hp hm
      refine r_iload (pc' := 7) ok rfl d6_5 rfl ?_
      refine r_iconstV (pc' := 8) ok rfl (4 : Int32) d6_7 rfl ?_
      refine r_icmp_gt (pc' := 11) (pcY := 125) ok rfl d6_8 (by decide) (by decide) ?_ ?_
      rotate_left
      · intro hd
        exact absurd (by decide) hd
      intro _
      refine r_iloadN (pc' := 126) ok rfl d6_125 rfl ?_
      refine r_iloadN (pc' := 127) ok rfl d6_126 rfl ?_
      rw [restF] at hm
      by_cases hpt : p = TO
      · rw [if_pos hpt] at hm
        refine r_icmp_ne (pc' := 130) (pcY := 134) ok rfl d6_127 (by decide) (by decide) ?_ ?_
        · intro hd
          exact absurd (by rw [hto, hpt]) hd
        intro _
        refine r_iconstV (pc' := 131) ok rfl (-1 : Int32) d6_130 rfl ?_
        refine r_goto (pc' := 135) ok d6_131 (by decide) (by decide) ?_
        refine r_ireturn ok d6_135 rfl (by simp) (by decide) (by decide) ?_
        exact ⟨⟨_, rfl, hm⟩, rfl⟩
      · rw [if_neg hpt] at hm
        refine r_icmp_ne (pc' := 130) (pcY := 134) ok rfl d6_127 (by decide) (by decide) ?_ ?_
        rotate_left
        · intro hd
          rw [hto] at hd
          exact absurd (ofN_inj (by omega) (by omega) hd) hpt
        intro _
        refine r_iloadN (pc' := 135) ok rfl d6_134 rfl ?_
        refine r_ireturn ok d6_135 rfl (by simp) (by decide) (by decide) ?_
        exact ⟨⟨_, rfl, fin p (by omega) hm⟩, rfl⟩
    | succ r ih =>
      intro p s5 s6 o_s5 o_s6 hr hp hm
      have o4 : 5 - (r + 1) = 4 - r := by omega
      refine r_iload (pc' := 7) ok rfl d6_5 rfl ?_
      refine r_iconstV (pc' := 8) ok rfl (4 : Int32) d6_7 rfl ?_
      refine r_icmp_gt (pc' := 11) (pcY := 125) ok rfl d6_8 (by decide) (by decide) ?_ ?_
      · intro hd
        exact absurd ((ofN_lt (i := 4) (by omega) (by omega)).mp hd) (by omega)
      intro _
      refine r_iload (pc' := 13) ok rfl d6_11 rfl ?_
      refine r_iconstV (pc' := 14) ok rfl (1 : Int32) d6_13 rfl ?_
      refine r_icmp_le (pc' := 17) (pcY := 37) ok rfl d6_14 (by decide) (by decide) ?_ ?_
      · intro hd
        exact absurd ((ofN_lt (i := 1) (by omega) (by omega)).mpr (by omega)) hd
      intro _
      refine r_iloadN (pc' := 18) ok rfl d6_17 rfl ?_
      refine r_iloadN (pc' := 19) ok rfl d6_18 rfl ?_
      rw [restF] at hm
      have ret32 : (p = TO ∨ ¬ C p = 46) → Run Z K Cln h0 0 0 32 #[.val (.ref x), .val (.int fr), .val (.int to), .val (.int (Int32.ofNat p)), .val (.int (Int32.ofNat (5 - (r + 1)))), s5, s6] [] := by
        intro hq
        rw [if_pos hq] at hm
        refine r_iloadN (pc' := 33) ok rfl d6_32 rfl ?_
        refine r_ireturn ok d6_33 rfl (by simp) (by decide) (by decide) ?_
        exact ⟨⟨_, rfl, fin p (by omega) hm⟩, rfl⟩
      refine r_icmp_eq (pc' := 22) (pcY := 32) ok rfl d6_19 (by decide) (by decide) ?_ ?_
      · intro hd
        rw [hto] at hd
        exact ret32 (Or.inl (ofN_inj (by omega) (by omega) hd))
      intro hd
      have hpt : p ≠ TO := fun q => hd (by rw [hto, q])
      refine r_aloadN (pc' := 23) ok rfl d6_22 rfl rfl ?_
      refine r_iloadN (pc' := 24) ok rfl d6_23 rfl ?_
      refine r_virtual (pc' := 27) ok rfl d6_24 (hw _ (List.mem_of_getElem? (i := 48) rfl)) (hw _ (List.mem_of_getElem? (i := 49) rfl)) (hw _ (List.mem_of_getElem? (i := 51) rfl)) (hw _ (List.mem_of_getElem? (i := 50) rfl)) (nf_sel (C := "java/lang/String") (z := (⟨"java/lang/String", "charAt", "(I)C"⟩ : MethodName)) (hw _ (List.mem_of_getElem? (i := 51) rfl))) hE (by decide) pd_10 (payCh l Z a0 hw R6 (W := 0) p hcl hL Sx S1 P1 S8 hFM rfl (by omega) (by decide) (by decide)) (fun q => nomatch q) (Or.inl rfl) rfl (argsL := [(.int (Int32.ofNat p))]) (rest := []) rfl rfl rfl (Nat.le_of_ble_eq_true rfl) (by decide) (by decide) (cV fun x1 h1 q1 le1 => ?_)
      obtain ⟨rfl, rfl⟩ := q1
      refine r_bipushV (pc' := 29) ok rfl (46 : Int32) d6_27 rfl ?_
      refine r_icmp_eq (pc' := 32) (pcY := 34) ok rfl d6_29 (by decide) (by decide) ?_ ?_
      rotate_left
      · intro hd2
        rw [eqi, hCq, e46] at hd2
        exact ret32 (Or.inr hd2)
      intro hd2
      rw [eqi, hCq, e46] at hd2
      refine r_iinc (pc' := 37) (ls' := fun z => #[.val (.ref x), .val (.int fr), .val (.int to), .val (.int z), .val (.int (Int32.ofNat (5 - (r + 1)))), s5, s6]) ok rfl d6_34 rfl (fun _ => rfl) ?_
      intro v34 ev34
      rw [if_neg (by omega)] at hm
      rw [show v34 = Int32.ofNat (p + 1) by rw [ev34]; exact ofN_add (n := 1) (by omega)]
      refine oct (p + 1) _ s5 s6 o_s5 o_s6 (by omega) ?_
      cases hO : octF C TO (p + 1) with
      | inl p' => rw [hO] at hm; exact hm
      | inr p' =>
        rw [hO] at hm
        intro v' hp'
        refine r_iinc (pc' := 122) (ls' := fun z => #[.val (.ref x), .val (.int fr), .val (.int to), .val (.int (Int32.ofNat p')), .val (.int z), .val (.int (Int32.ofNat (p + 1))), .val (.int v')]) ok rfl d6_119 rfl (fun _ => rfl) ?_
        intro v119 ev119
        refine r_goto (pc' := 5) ok d6_122 (by decide) (by decide) ?_
        rw [show v119 = Int32.ofNat (5 - r) by rw [ev119]; exact (ofN_add (i := 5 - (r + 1)) (n := 1) (by omega)).trans (by congr 1; omega)]
        exact ih p' _ _ (One.val rfl) (One.val rfl) (by omega) hp' hm
  refine r_iloadN (pc' := 1) ok rfl d6_0 rfl ?_
  refine r_istoreN (pc' := 2) (ls' := fun z => #[.val (.ref x), .val (.int fr), .val (.int to), .val (.int z), .unset, .unset, .unset]) ok rfl d6_1 (fun _ => rfl) ?_
  intro v1 ev1
  refine r_iconstV (pc' := 3) ok rfl (1 : Int32) d6_2 rfl ?_
  refine r_istore (pc' := 5) (ls' := fun z => #[.val (.ref x), .val (.int fr), .val (.int to), .val (.int v1), .val (.int z), .unset, .unset]) ok rfl d6_3 (fun _ => rfl) ?_
  intro v3 ev3
  refine r_iload (pc' := 7) ok rfl d6_5 rfl ?_
  refine r_iconstV (pc' := 8) ok rfl (4 : Int32) d6_7 rfl ?_
  refine r_icmp_gt (pc' := 11) (pcY := 125) ok rfl d6_8 (by decide) (by decide) ?_ ?_
  · intro hd
    exact absurd hd (by rw [ev3]; decide)
  intro _
  refine r_iload (pc' := 13) ok rfl d6_11 rfl ?_
  refine r_iconstV (pc' := 14) ok rfl (1 : Int32) d6_13 rfl ?_
  refine r_icmp_le (pc' := 17) (pcY := 37) ok rfl d6_14 (by decide) (by decide) ?_ ?_
  rotate_left
  · intro hd
    exact absurd hd (by rw [ev3]; decide)
  intro _
  rw [show v1 = Int32.ofNat FR from ev1.trans hfr]
  refine oct FR v3 _ _ One.u One.u hft ?_
  rw [ffR] at hres
  cases hO : octF C TO FR with
  | inl p' => rw [hO] at hres; exact hres.symm
  | inr p' =>
    rw [hO] at hres
    intro v' hp'
    refine r_iinc (pc' := 122) (ls' := fun z => #[.val (.ref x), .val (.int fr), .val (.int to), .val (.int (Int32.ofNat p')), .val (.int z), .val (.int (Int32.ofNat FR)), .val (.int v')]) ok rfl d6_119 rfl (fun _ => rfl) ?_
    intro v119 ev119
    refine r_goto (pc' := 5) ok d6_122 (by decide) (by decide) ?_
    rw [show v119 = Int32.ofNat (5 - 3) by rw [ev119, ev3]; rfl]
    exact rest 3 p' _ _ (One.val rfl) (One.val rfl) (by omega) hp' hres.symm
/-! the law's own -/
def sel4 {A : Type} (a b c d : A) (i : Nat) : A := if i = 0 then a else if i = 1 then b else if i = 2 then c else d
theorem own_msk (x : Int32) : 0 ≤ ((x &&& (255 : Int32)).toUInt32.toUInt16.toUInt32.toInt32).toInt ∧ ((x &&& (255 : Int32)).toUInt32.toUInt16.toUInt32.toInt32).toInt ≤ 255 := by
  have a := c_mask x 255 8 (by decide) (by decide)
  have b := c_i2c (x &&& (255 : Int32))
  omega
theorem own_nar {x : Int32} (h0 : 0 ≤ x.toInt) (h1 : x.toInt ≤ 255) : nar .char x = x := by
  apply Int32.toInt_inj.mp
  have b := c_i2c x
  show (x.toUInt32.toUInt16.toUInt32.toInt32).toInt = _
  omega
theorem own_m3 (x : Int32) : 0 ≤ (x &&& (3 : Int32)).toInt ∧ (x &&& (3 : Int32)).toInt ≤ 3 := by
  have a := c_mask x 3 2 (by decide) (by decide)
  omega
theorem own_m75 (x : Int32) : 0 ≤ ((x &&& (7 : Int32)) % (5 : Int32)).toInt ∧ ((x &&& (7 : Int32)) % (5 : Int32)).toInt ≤ 4 := by
  have a := c_mask x 7 3 (by decide) (by decide)
  have b := (c_irem (x &&& (7 : Int32)) 5 5 rfl).1 (by omega)
  omega
theorem own_m31 (x : Int32) : 0 ≤ (x &&& (2147483647 : Int32)).toInt := by
  have a := c_mask x 2147483647 31 (by decide) (by decide)
  omega
theorem own_sh1 (x : Int32) : 0 ≤ ((x.toUInt32 >>> ((1 : Int32) &&& 31).toUInt32).toInt32).toInt := by
  have a := c_iushr x 1 1 (by decide) (by decide)
  omega
theorem lat57 : Lat (List.replicate 18 (57 : Int32)) := fun q => by
  by_cases h : q < 18
  · have t : ∀ k : Fin 18, 0 ≤ ((List.replicate 18 (57 : Int32)).getD k.val 0).toInt ∧ ((List.replicate 18 (57 : Int32)).getD k.val 0).toInt ≤ 255 := by decide
    exact t ⟨q, h⟩
  · rw [List.getD_eq_getElem?_getD, List.getElem?_eq_none (by rw [List.length_replicate]; omega)]; decide
theorem own_tk {i v : Int32} {kN j n L : Nat} {d dS : Nat → Nat} (t : (i = v) ↔ kN = j) (h9 : ∀ j, dS j ≤ 9) (h : (i = v ∧ n = L ∧ d = dS) ∨ (¬ i = v ∧ 0 < n ∧ n ≤ 3 ∧ TokOk d n n)) :
    (kN = j → n = L ∧ d = dS) ∧ (kN ≠ j → (0 < n ∧ n ≤ 3) ∧ TokOk d n n) ∧ ∀ q, q < n → d q ≤ 9 := by
  rcases h with ⟨a, b, c⟩ | ⟨a, b, c, e⟩
  · exact ⟨fun _ => ⟨b, c⟩, fun q => absurd (t.mp a) q, fun q _ => by rw [c]; exact h9 q⟩
  · exact ⟨fun q => absurd (t.mpr q) a, fun _ => ⟨⟨b, c⟩, e⟩, e.2.1⟩
theorem own_low {cs : List Int32} {i q : Nat} {x : Int32} (h : q < i) : (cs.set i x).getD q 0 = cs.getD q 0 := by
  rw [own_setI, if_neg (by omega)]
theorem own_hit {cs : List Int32} {i : Nat} {x : Int32} (h : i < cs.length) : (cs.set i x).getD i 0 = x := by
  rw [own_setI, if_pos ⟨rfl, h⟩]
theorem own_Fs {rp ht A : Prop} {X1 X2 X3 S PN FR E3 LN : Nat} (h1 : (A ∧ X1 = S) ∨ (¬ A ∧ X1 = 2147483647)) (h2 : (rp ∧ FR ≤ PN ∧ X2 = min X1 PN) ∨ (¬ (rp ∧ FR ≤ PN) ∧ X2 = X1)) (h3 : (ht ∧ X3 = min X2 E3) ∨ (¬ ht ∧ X3 = X2)) (hLN : LN ≤ 18) :
    (A → X3 ≤ S) ∧ (rp → FR ≤ PN → X3 ≤ PN) ∧ (ht → X3 ≤ E3) ∧ (X3 ≤ LN → (A ∧ X3 = S) ∨ (rp ∧ FR ≤ PN ∧ X3 = PN) ∨ (ht ∧ X3 = E3)) := by
  have a1 : A → X1 = S := fun a => h1.elim (fun q => q.2) (fun q => absurd a q.1)
  have l21 : X2 ≤ X1 := by rcases h2 with ⟨_, _, e⟩ | ⟨_, e⟩ <;> omega
  have l32 : X3 ≤ X2 := by rcases h3 with ⟨_, e⟩ | ⟨_, e⟩ <;> omega
  have go : X3 ≤ LN → X3 = X2 → (A ∧ X3 = S) ∨ (rp ∧ FR ≤ PN ∧ X3 = PN) ∨ (ht ∧ X3 = E3) := fun hle e32 => by
    have last : X2 = X1 → (A ∧ X3 = S) ∨ (rp ∧ FR ≤ PN ∧ X3 = PN) ∨ (ht ∧ X3 = E3) := fun e2 => by
      rcases h1 with ⟨a, e1⟩ | ⟨_, e1⟩
      · exact Or.inl ⟨a, by omega⟩
      · exact absurd hle (by omega)
    rcases h2 with ⟨r, f, e2⟩ | ⟨_, e2⟩
    · by_cases q : X2 = PN
      · exact Or.inr (Or.inl ⟨r, f, by omega⟩)
      · exact last (by omega)
    · exact last e2
  refine ⟨fun a => by have := a1 a; omega, fun r f => ?_, fun t => ?_, fun hle => ?_⟩
  · rcases h2 with ⟨_, _, e⟩ | ⟨n, _⟩
    · omega
    · exact absurd ⟨r, f⟩ n
  · rcases h3 with ⟨_, e⟩ | ⟨n, _⟩
    · omega
    · exact absurd t n
  · rcases h3 with ⟨t, e3⟩ | ⟨_, e3⟩
    · by_cases q : X3 = E3
      · exact Or.inr (Or.inr ⟨t, q⟩)
      · exact go hle (by omega)
    · exact go hle e3
theorem d7_0 : decode jdk_29_method_69_code 0 = .ok (.iload_n 0, 1) := by decide +kernel
theorem d7_1 : decode jdk_29_method_69_code 1 = .ok (.iload_n 1, 1) := by decide +kernel
theorem d7_2 : decode jdk_29_method_69_code 2 = .ok (.if_icmp .gt 7, 3) := by decide +kernel
theorem d7_5 : decode jdk_29_method_69_code 5 = .ok (.iload_n 0, 1) := by decide +kernel
theorem d7_6 : decode jdk_29_method_69_code 6 = .ok (.goto 4, 3) := by decide +kernel
theorem d7_9 : decode jdk_29_method_69_code 9 = .ok (.iload_n 1, 1) := by decide +kernel
theorem d7_10 : decode jdk_29_method_69_code 10 = .ok (.ireturn, 1) := by decide +kernel
theorem rmMin (l : Launch) (Z : State) (a0 : Array Value) (hw : ∀ d ∈ tables_1, d.before a0 Z = true) (x y : Int32) (X Y : Nat) (h0 : Heap) (hx : x = Int32.ofNat X) (hy : y = Int32.ofNat Y) (bx : X < 2 ^ 31) (by' : Y < 2 ^ 31) : Con l Z [] [] false (⟨"java/lang/Math", "min", "(II)I"⟩ : MethodName) jdk_29_method_69_code 2 (some .int) RZ #[.int x, .int y] h0 (rV fun v h => v = .int (Int32.ofNat (min X Y)) ∧ h0 = h) := by
  refine body (ls := #[.val (.int x), .val (.int y)]) (by decide +kernel) (fun m => by first | (simp [entryFrame, mkF, argsToLocals, Value.category]; done) | rfl) fun K ok => ?_
  refine r_iloadN (pc' := 1) ok rfl d7_0 rfl ?_
  refine r_iloadN (pc' := 2) ok rfl d7_1 rfl ?_
  refine r_icmp_gt (pc' := 5) (pcY := 9) ok rfl d7_2 (by decide) (by decide) ?_ ?_
  · intro hc
    rw [hx, hy] at hc
    have := (ofN_lt by' bx).mp hc
    refine r_iloadN (pc' := 10) ok rfl d7_9 rfl ?_
    refine r_ireturn ok d7_10 rfl (by simp) (by decide) (by decide) ?_
    exact ⟨by rw [hy, show min X Y = Y by omega], rfl⟩
  intro hc
  rw [hx, hy] at hc
  have := mt (ofN_lt by' bx).mpr hc
  refine r_iloadN (pc' := 6) ok rfl d7_5 rfl ?_
  refine r_goto (pc' := 10) ok d7_6 (by decide) (by decide) ?_
  refine r_ireturn ok d7_10 rfl (by simp) (by decide) (by decide) ?_
  exact ⟨by rw [hx, show min X Y = X by omega], rfl⟩
set_option maxRecDepth 65536 in
set_option maxHeartbeats 4000000 in
theorem rm0 (l : Launch) (Z : State) (a0 : Array Value) (hw : ∀ d ∈ tables_1, d.before a0 Z = true) (p1 p2 p3 p4 p5 : Int32) (G1 : Int32) (S1 : Sta Z Z.heap ST "COMPACT_STRINGS" "Z" (.int G1)) (P1 : ¬ G1 = 0) (FM : Value) (hFM : FM.isRef = true) (S8 : Sta Z Z.heap "jdk/internal/util/Preconditions" "SIOOBE_FORMATTER" "Ljava/util/function/BiFunction;" FM)
    (dg mb : Addr) (km : ClassId) (dv : Value) (SD : Sta Z Z.heap CC "DIGIT" "Lcom/example/fundort/fundort/util/CharClass;" (.ref dg)) (ED : Exa Z Z.heap dg CC) (FD : Fld Z Z.heap dg CC "members" "[Z" (.ref mb)) (MD : Arv Z Z.heap mb km .boolean 128 digV dv) :
    Con l Z [] tables_1 false x code maxLocals ret room_1 #[.int p1, .int p2, .int p3, .int p4, .int p5] Z.heap (rV fun v _ => v = .int 1) := by
  have e18 : (18 : Int32) = Int32.ofNat 18 := rfl
  have hin : ∀ (q : Nat), q < 18 → ¬ Int32.ofNat q < 0 ∧ Int32.ofNat q < 18 := fun q hq => ⟨ofN_nn (by omega), by rw [e18]; exact (ofN_lt (by omega) (by omega)).mpr hq⟩
  have e57 : nar .char (57 : Int32) = 57 := by decide
  have e46 : nar .char (46 : Int32) = 46 := by decide
  have eqi : ∀ {a b : Int32}, a = b ↔ a.toInt = b.toInt := fun {a b} => Int32.toInt_inj.symm
  refine body (ls := #[.val (.int p1), .val (.int p2), .val (.int p3), .val (.int p4), .val (.int p5), .unset, .unset, .unset, .unset, .unset, .unset, .unset, .unset, .unset, .unset, .unset, .unset, .unset, .unset, .unset, .unset, .unset, .unset, .unset, .unset, .unset, .unset, .unset, .unset, .unset]) (plainFor_of_name pn_0) (fun m => by first | (simp [entryFrame, mkF, argsToLocals, Value.category, maxLocals]; done) | rfl) fun K ok => ?_
  refine r_iloadN (pc' := 1) ok rfl at_0 rfl ?_
  refine r_bipushV (pc' := 3) ok rfl (24 : Int32) at_1 rfl ?_
  refine r_iushr (pc' := 4) ok rfl at_3 ?_
  refine r_iconstV (pc' := 5) ok rfl (3 : Int32) at_4 rfl ?_
  refine r_iand (pc' := 6) ok rfl at_5 ?_
  refine r_istore (pc' := 8) (ls' := fun z => #[.val (.int p1), .val (.int p2), .val (.int p3), .val (.int p4), .val (.int p5), .val (.int z), .unset, .unset, .unset, .unset, .unset, .unset, .unset, .unset, .unset, .unset, .unset, .unset, .unset, .unset, .unset, .unset, .unset, .unset, .unset, .unset, .unset, .unset, .unset, .unset]) ok rfl at_6 (fun _ => rfl) ?_
  intro v6 ev6
  refine r_iloadN (pc' := 9) ok rfl at_8 rfl ?_
  refine r_bipushV (pc' := 11) ok rfl (26 : Int32) at_9 rfl ?_
  refine r_iushr (pc' := 12) ok rfl at_11 ?_
  refine r_iconstV (pc' := 13) ok rfl (1 : Int32) at_12 rfl ?_
  refine r_iand (pc' := 14) ok rfl at_13 ?_
  have hk : 0 ≤ v6.toInt ∧ v6.toInt ≤ 3 := by rw [ev6]; exact own_m3 _
  obtain ⟨kN, hkN, ek⟩ : ∃ kN : Nat, kN < 4 ∧ v6 = Int32.ofNat kN := ⟨v6.toInt.toNat, by omega, ofN_eq (by omega) (by omega)⟩
  have ti : ∀ i : Nat, i < 4 → ((Int32.ofNat i = v6) ↔ kN = i) := fun i hi => by
    rw [ek]; exact ⟨fun q => (ofN_inj (by omega) (by omega) q).symm, fun q => by rw [q]⟩
  have t0 : ((0 : Int32) = v6) ↔ kN = 0 := ti 0 (by omega)
  have t1 : ((1 : Int32) = v6) ↔ kN = 1 := ti 1 (by omega)
  have t2 : ((2 : Int32) = v6) ↔ kN = 2 := ti 2 (by omega)
  have t3 : ((3 : Int32) = v6) ↔ kN = 3 := ti 3 (by omega)
  suffices J22 : ∀ b : Int32, (b = 0 ∨ b = 1) → Run Z K Cln Z.heap 0 0 22 #[.val (.int p1), .val (.int p2), .val (.int p3), .val (.int p4), .val (.int p5), .val (.int v6), .unset, .unset, .unset, .unset, .unset, .unset, .unset, .unset, .unset, .unset, .unset, .unset, .unset, .unset, .unset, .unset, .unset, .unset, .unset, .unset, .unset, .unset, .unset, .unset] [.int b] by
    refine r_if_eq (pc' := 17) (pcY := 21) ok rfl at_14 (by decide) (by decide) ?_ ?_
    · intro _
      refine r_iconstV (pc' := 22) ok rfl (0 : Int32) at_21 rfl ?_
      exact J22 _ (Or.inl rfl)
    · intro _
      refine r_iconstV (pc' := 18) ok rfl (1 : Int32) at_17 rfl ?_
      refine r_goto (pc' := 22) ok at_18 (by decide) (by decide) ?_
      exact J22 _ (Or.inr rfl)
  intro b22 hb22
  refine r_istore (pc' := 24) (ls' := fun z => #[.val (.int p1), .val (.int p2), .val (.int p3), .val (.int p4), .val (.int p5), .val (.int v6), .val (.int z), .unset, .unset, .unset, .unset, .unset, .unset, .unset, .unset, .unset, .unset, .unset, .unset, .unset, .unset, .unset, .unset, .unset, .unset, .unset, .unset, .unset, .unset, .unset]) ok rfl at_22 (fun _ => rfl) ?_
  intro v22 ev22
  refine r_iloadN (pc' := 25) ok rfl at_24 rfl ?_
  refine r_bipushV (pc' := 27) ok rfl (27 : Int32) at_25 rfl ?_
  refine r_iushr (pc' := 28) ok rfl at_27 ?_
  refine r_iconstV (pc' := 29) ok rfl (1 : Int32) at_28 rfl ?_
  refine r_iand (pc' := 30) ok rfl at_29 ?_
  suffices J38 : ∀ b : Int32, (b = 0 ∨ b = 1) → Run Z K Cln Z.heap 0 0 38 #[.val (.int p1), .val (.int p2), .val (.int p3), .val (.int p4), .val (.int p5), .val (.int v6), .val (.int v22), .unset, .unset, .unset, .unset, .unset, .unset, .unset, .unset, .unset, .unset, .unset, .unset, .unset, .unset, .unset, .unset, .unset, .unset, .unset, .unset, .unset, .unset, .unset] [.int b] by
    refine r_if_eq (pc' := 33) (pcY := 37) ok rfl at_30 (by decide) (by decide) ?_ ?_
    · intro _
      refine r_iconstV (pc' := 38) ok rfl (0 : Int32) at_37 rfl ?_
      exact J38 _ (Or.inl rfl)
    · intro _
      refine r_iconstV (pc' := 34) ok rfl (1 : Int32) at_33 rfl ?_
      refine r_goto (pc' := 38) ok at_34 (by decide) (by decide) ?_
      exact J38 _ (Or.inr rfl)
  intro b38 hb38
  refine r_istore (pc' := 40) (ls' := fun z => #[.val (.int p1), .val (.int p2), .val (.int p3), .val (.int p4), .val (.int p5), .val (.int v6), .val (.int v22), .val (.int z), .unset, .unset, .unset, .unset, .unset, .unset, .unset, .unset, .unset, .unset, .unset, .unset, .unset, .unset, .unset, .unset, .unset, .unset, .unset, .unset, .unset, .unset]) ok rfl at_38 (fun _ => rfl) ?_
  intro v38 ev38
  refine r_iloadN (pc' := 41) ok rfl at_40 rfl ?_
  refine r_bipushV (pc' := 43) ok rfl (28 : Int32) at_41 rfl ?_
  refine r_iushr (pc' := 44) ok rfl at_43 ?_
  refine r_iconstV (pc' := 45) ok rfl (1 : Int32) at_44 rfl ?_
  refine r_iand (pc' := 46) ok rfl at_45 ?_
  suffices J54 : ∀ b : Int32, (b = 0 ∨ b = 1) → Run Z K Cln Z.heap 0 0 54 #[.val (.int p1), .val (.int p2), .val (.int p3), .val (.int p4), .val (.int p5), .val (.int v6), .val (.int v22), .val (.int v38), .unset, .unset, .unset, .unset, .unset, .unset, .unset, .unset, .unset, .unset, .unset, .unset, .unset, .unset, .unset, .unset, .unset, .unset, .unset, .unset, .unset, .unset] [.int b] by
    refine r_if_eq (pc' := 49) (pcY := 53) ok rfl at_46 (by decide) (by decide) ?_ ?_
    · intro _
      refine r_iconstV (pc' := 54) ok rfl (0 : Int32) at_53 rfl ?_
      exact J54 _ (Or.inl rfl)
    · intro _
      refine r_iconstV (pc' := 50) ok rfl (1 : Int32) at_49 rfl ?_
      refine r_goto (pc' := 54) ok at_50 (by decide) (by decide) ?_
      exact J54 _ (Or.inr rfl)
  intro b54 hb54
  refine r_istore (pc' := 56) (ls' := fun z => #[.val (.int p1), .val (.int p2), .val (.int p3), .val (.int p4), .val (.int p5), .val (.int v6), .val (.int v22), .val (.int v38), .val (.int z), .unset, .unset, .unset, .unset, .unset, .unset, .unset, .unset, .unset, .unset, .unset, .unset, .unset, .unset, .unset, .unset, .unset, .unset, .unset, .unset, .unset]) ok rfl at_54 (fun _ => rfl) ?_
  intro v54 ev54
  refine r_iloadN (pc' := 57) ok rfl at_56 rfl ?_
  refine r_sipushV (pc' := 60) ok rfl (255 : Int32) at_57 rfl ?_
  refine r_iand (pc' := 61) ok rfl at_60 ?_
  refine r_i2c (pc' := 62) ok rfl at_61 ?_
  refine r_istore (pc' := 64) (ls' := fun z => #[.val (.int p1), .val (.int p2), .val (.int p3), .val (.int p4), .val (.int p5), .val (.int v6), .val (.int v22), .val (.int v38), .val (.int v54), .val (.int z), .unset, .unset, .unset, .unset, .unset, .unset, .unset, .unset, .unset, .unset, .unset, .unset, .unset, .unset, .unset, .unset, .unset, .unset, .unset, .unset]) ok rfl at_62 (fun _ => rfl) ?_
  intro v62 ev62
  refine r_iloadN (pc' := 65) ok rfl at_64 rfl ?_
  refine r_bipushV (pc' := 67) ok rfl (8 : Int32) at_65 rfl ?_
  refine r_iushr (pc' := 68) ok rfl at_67 ?_
  refine r_sipushV (pc' := 71) ok rfl (255 : Int32) at_68 rfl ?_
  refine r_iand (pc' := 72) ok rfl at_71 ?_
  refine r_i2c (pc' := 73) ok rfl at_72 ?_
  refine r_istore (pc' := 75) (ls' := fun z => #[.val (.int p1), .val (.int p2), .val (.int p3), .val (.int p4), .val (.int p5), .val (.int v6), .val (.int v22), .val (.int v38), .val (.int v54), .val (.int v62), .val (.int z), .unset, .unset, .unset, .unset, .unset, .unset, .unset, .unset, .unset, .unset, .unset, .unset, .unset, .unset, .unset, .unset, .unset, .unset, .unset]) ok rfl at_73 (fun _ => rfl) ?_
  intro v73 ev73
  refine r_iloadN (pc' := 76) ok rfl at_75 rfl ?_
  refine r_bipushV (pc' := 78) ok rfl (16 : Int32) at_76 rfl ?_
  refine r_iushr (pc' := 79) ok rfl at_78 ?_
  refine r_sipushV (pc' := 82) ok rfl (255 : Int32) at_79 rfl ?_
  refine r_iand (pc' := 83) ok rfl at_82 ?_
  refine r_i2c (pc' := 84) ok rfl at_83 ?_
  refine r_istore (pc' := 86) (ls' := fun z => #[.val (.int p1), .val (.int p2), .val (.int p3), .val (.int p4), .val (.int p5), .val (.int v6), .val (.int v22), .val (.int v38), .val (.int v54), .val (.int v62), .val (.int v73), .val (.int z), .unset, .unset, .unset, .unset, .unset, .unset, .unset, .unset, .unset, .unset, .unset, .unset, .unset, .unset, .unset, .unset, .unset, .unset]) ok rfl at_84 (fun _ => rfl) ?_
  intro v84 ev84
  refine r_iload (pc' := 88) ok rfl at_86 rfl ?_
  rw [← ev22] at hb22
  rw [← ev38] at hb38
  rw [← ev54] at hb54
  have c62 : 0 ≤ v62.toInt ∧ v62.toInt ≤ 255 := by rw [ev62]; exact own_msk _
  have c73 : 0 ≤ v73.toInt ∧ v73.toInt ≤ 255 := by rw [ev73]; exact own_msk _
  have c84 : 0 ≤ v84.toInt ∧ v84.toInt ≤ 255 := by rw [ev84]; exact own_msk _
  refine r_static (pc' := 91) ok rfl at_88 (hw _ (List.mem_of_getElem? (i := 0) rfl)) (hw _ (List.mem_of_getElem? (i := 1) rfl)) (hw _ (List.mem_of_getElem? (i := 2) rfl)) (hw _ (List.mem_of_getElem? (i := 3) rfl)) (by decide) pd_0 (Con.pay (W := 0) (rmDg l Z a0 hw v73 Z.heap) EW.nil (hw _ (List.mem_of_getElem? (i := 3) rfl)) (hw _ (List.mem_of_getElem? (i := 2) rfl)) (by decide) (by decide)) (fun q => nomatch q) (Or.inl rfl) rfl (argsL := [(.int v73)]) (rest := []) rfl rfl rfl (Nat.le_of_ble_eq_true rfl) (by decide) (by decide) (cV fun x7 h7 q7 le7 => ?_)
  obtain ⟨rfl, rfl⟩ := q7
  suffices J97 : ∀ b : Int32, (b = 0 ∨ b = 1) → (b = 1 → ¬ (48 ≤ v73.toInt ∧ v73.toInt ≤ 57)) → Run Z K Cln Z.heap 0 0 97 #[.val (.int p1), .val (.int p2), .val (.int p3), .val (.int p4), .val (.int p5), .val (.int v6), .val (.int v22), .val (.int b), .val (.int v54), .val (.int v62), .val (.int v73), .val (.int v84), .unset, .unset, .unset, .unset, .unset, .unset, .unset, .unset, .unset, .unset, .unset, .unset, .unset, .unset, .unset, .unset, .unset, .unset] [] by
    refine r_if_eq (pc' := 94) (pcY := 97) ok rfl at_91 (by decide) (by decide) ?_ ?_
    · intro hc
      exact J97 _ hb38 (fun _ q => by rw [if_pos q] at hc; exact absurd hc (by decide))
    · intro hc
      refine r_iconstV (pc' := 95) ok rfl (0 : Int32) at_94 rfl ?_
      refine r_istore (pc' := 97) (ls' := fun z => #[.val (.int p1), .val (.int p2), .val (.int p3), .val (.int p4), .val (.int p5), .val (.int v6), .val (.int v22), .val (.int z), .val (.int v54), .val (.int v62), .val (.int v73), .val (.int v84), .unset, .unset, .unset, .unset, .unset, .unset, .unset, .unset, .unset, .unset, .unset, .unset, .unset, .unset, .unset, .unset, .unset, .unset]) ok rfl at_95 (fun _ => rfl) ?_
      intro v95 ev95
      exact J97 _ (Or.inl ev95) (fun q => absurd (ev95.symm.trans q) (by decide))
  intro b7 hb7 hb7t
  refine r_iload (pc' := 99) ok rfl at_97 rfl ?_
  refine r_static (pc' := 102) ok rfl at_99 (hw _ (List.mem_of_getElem? (i := 0) rfl)) (hw _ (List.mem_of_getElem? (i := 1) rfl)) (hw _ (List.mem_of_getElem? (i := 2) rfl)) (hw _ (List.mem_of_getElem? (i := 3) rfl)) (by decide) pd_0 (Con.pay (W := 0) (rmDg l Z a0 hw v84 Z.heap) EW.nil (hw _ (List.mem_of_getElem? (i := 3) rfl)) (hw _ (List.mem_of_getElem? (i := 2) rfl)) (by decide) (by decide)) (fun q => nomatch q) (Or.inl rfl) rfl (argsL := [(.int v84)]) (rest := []) rfl rfl rfl (Nat.le_of_ble_eq_true rfl) (by decide) (by decide) (cV fun x8 h8 q8 le8 => ?_)
  obtain ⟨rfl, rfl⟩ := q8
  suffices J115 : ∀ b : Int32, (b = 0 ∨ b = 1) → (b = 1 → ¬ (48 ≤ v84.toInt ∧ v84.toInt ≤ 57) ∧ v84.toInt ≠ 46) → Run Z K Cln Z.heap 0 0 115 #[.val (.int p1), .val (.int p2), .val (.int p3), .val (.int p4), .val (.int p5), .val (.int v6), .val (.int v22), .val (.int b7), .val (.int b), .val (.int v62), .val (.int v73), .val (.int v84), .unset, .unset, .unset, .unset, .unset, .unset, .unset, .unset, .unset, .unset, .unset, .unset, .unset, .unset, .unset, .unset, .unset, .unset] [] by
    have J112 : Run Z K Cln Z.heap 0 0 112 #[.val (.int p1), .val (.int p2), .val (.int p3), .val (.int p4), .val (.int p5), .val (.int v6), .val (.int v22), .val (.int b7), .val (.int v54), .val (.int v62), .val (.int v73), .val (.int v84), .unset, .unset, .unset, .unset, .unset, .unset, .unset, .unset, .unset, .unset, .unset, .unset, .unset, .unset, .unset, .unset, .unset, .unset] [] := by
      refine r_iconstV (pc' := 113) ok rfl (0 : Int32) at_112 rfl ?_
      refine r_istore (pc' := 115) (ls' := fun z => #[.val (.int p1), .val (.int p2), .val (.int p3), .val (.int p4), .val (.int p5), .val (.int v6), .val (.int v22), .val (.int b7), .val (.int z), .val (.int v62), .val (.int v73), .val (.int v84), .unset, .unset, .unset, .unset, .unset, .unset, .unset, .unset, .unset, .unset, .unset, .unset, .unset, .unset, .unset, .unset, .unset, .unset]) ok rfl at_113 (fun _ => rfl) ?_
      intro v113 ev113
      exact J115 _ (Or.inl ev113) (fun q => absurd (ev113.symm.trans q) (by decide))
    refine r_if_ne (pc' := 105) (pcY := 112) ok rfl at_102 (by decide) (by decide) ?_ ?_
    · intro _
      exact J112
    · intro hc
      refine r_iload (pc' := 107) ok rfl at_105 rfl ?_
      refine r_bipushV (pc' := 109) ok rfl (46 : Int32) at_107 rfl ?_
      refine r_icmp_ne (pc' := 112) (pcY := 115) ok rfl at_109 (by decide) (by decide) ?_ ?_
      · intro hd
        exact J115 _ hb54 (fun _ => ⟨fun q => by rw [if_pos q] at hc; exact absurd hc (by decide), fun q => hd (eqi.mpr (by rw [q]; rfl))⟩)
      · intro _
        exact J112
  intro b8 hb8 hb8t
  refine r_iloadN (pc' := 116) ok rfl at_115 rfl ?_
  refine r_bipushV (pc' := 118) ok rfl (7 : Int32) at_116 rfl ?_
  refine r_iand (pc' := 119) ok rfl at_118 ?_
  refine r_iconstV (pc' := 120) ok rfl (5 : Int32) at_119 rfl ?_
  refine r_irem (pc' := 121) ok rfl at_120 (by decide) ?_
  refine r_istore (pc' := 123) (ls' := fun z => #[.val (.int p1), .val (.int p2), .val (.int p3), .val (.int p4), .val (.int p5), .val (.int v6), .val (.int v22), .val (.int b7), .val (.int b8), .val (.int v62), .val (.int v73), .val (.int v84), .val (.int z), .unset, .unset, .unset, .unset, .unset, .unset, .unset, .unset, .unset, .unset, .unset, .unset, .unset, .unset, .unset, .unset, .unset]) ok rfl at_121 (fun _ => rfl) ?_
  intro v121 ev121
  refine r_bipushV (pc' := 125) ok rfl (18 : Int32) at_123 rfl ?_
  obtain ⟨L, hL, eL⟩ : ∃ L : Nat, L ≤ 4 ∧ v121 = Int32.ofNat L := by
    have m := own_m75 p2
    rw [← ev121] at m
    exact ⟨v121.toInt.toNat, by omega, ofN_eq (by omega) (by omega)⟩
  refine r_newarray (pc' := 127) ok rfl (18) at_125 (hw _ (List.mem_of_getElem? (i := 4) rfl)) (by decide) (by decide) (by decide) (by decide) (by decide) ?_
  intro h5 b5 k5 g5 z5 E5 V5
  replace V5 := V5.pad (pad_rep [] _ 18)
  refine r_dup (pc' := 128) ok rfl at_127 rfl ?_
  refine r_iconstV (pc' := 129) ok rfl (0 : Int32) at_128 rfl ?_
  refine r_bipushV (pc' := 131) ok rfl (57 : Int32) at_129 rfl ?_
  refine r_castore (pc' := 132) ok rfl 0 at_131 V5 z5 (by decide) rfl (by simp) ?_
  intro h101 W101 V101
  rw [e57] at V101
  refine r_dup (pc' := 133) ok rfl at_132 rfl ?_
  refine r_iconstV (pc' := 134) ok rfl (1 : Int32) at_133 rfl ?_
  refine r_bipushV (pc' := 136) ok rfl (57 : Int32) at_134 rfl ?_
  refine r_castore (pc' := 137) ok rfl 1 at_136 V101 z5 (by decide) rfl (by simp) ?_
  intro h102 W102 V102
  rw [e57] at V102
  refine r_dup (pc' := 138) ok rfl at_137 rfl ?_
  refine r_iconstV (pc' := 139) ok rfl (2 : Int32) at_138 rfl ?_
  refine r_bipushV (pc' := 141) ok rfl (57 : Int32) at_139 rfl ?_
  refine r_castore (pc' := 142) ok rfl 2 at_141 V102 z5 (by decide) rfl (by simp) ?_
  intro h103 W103 V103
  rw [e57] at V103
  refine r_dup (pc' := 143) ok rfl at_142 rfl ?_
  refine r_iconstV (pc' := 144) ok rfl (3 : Int32) at_143 rfl ?_
  refine r_bipushV (pc' := 146) ok rfl (57 : Int32) at_144 rfl ?_
  refine r_castore (pc' := 147) ok rfl 3 at_146 V103 z5 (by decide) rfl (by simp) ?_
  intro h104 W104 V104
  rw [e57] at V104
  refine r_dup (pc' := 148) ok rfl at_147 rfl ?_
  refine r_iconstV (pc' := 149) ok rfl (4 : Int32) at_148 rfl ?_
  refine r_bipushV (pc' := 151) ok rfl (57 : Int32) at_149 rfl ?_
  refine r_castore (pc' := 152) ok rfl 4 at_151 V104 z5 (by decide) rfl (by simp) ?_
  intro h105 W105 V105
  rw [e57] at V105
  refine r_dup (pc' := 153) ok rfl at_152 rfl ?_
  refine r_iconstV (pc' := 154) ok rfl (5 : Int32) at_153 rfl ?_
  refine r_bipushV (pc' := 156) ok rfl (57 : Int32) at_154 rfl ?_
  refine r_castore (pc' := 157) ok rfl 5 at_156 V105 z5 (by decide) rfl (by simp) ?_
  intro h106 W106 V106
  rw [e57] at V106
  refine r_dup (pc' := 158) ok rfl at_157 rfl ?_
  refine r_bipushV (pc' := 160) ok rfl (6 : Int32) at_158 rfl ?_
  refine r_bipushV (pc' := 162) ok rfl (57 : Int32) at_160 rfl ?_
  refine r_castore (pc' := 163) ok rfl 6 at_162 V106 z5 (by decide) rfl (by simp) ?_
  intro h107 W107 V107
  rw [e57] at V107
  refine r_dup (pc' := 164) ok rfl at_163 rfl ?_
  refine r_bipushV (pc' := 166) ok rfl (7 : Int32) at_164 rfl ?_
  refine r_bipushV (pc' := 168) ok rfl (57 : Int32) at_166 rfl ?_
  refine r_castore (pc' := 169) ok rfl 7 at_168 V107 z5 (by decide) rfl (by simp) ?_
  intro h108 W108 V108
  rw [e57] at V108
  refine r_dup (pc' := 170) ok rfl at_169 rfl ?_
  refine r_bipushV (pc' := 172) ok rfl (8 : Int32) at_170 rfl ?_
  refine r_bipushV (pc' := 174) ok rfl (57 : Int32) at_172 rfl ?_
  refine r_castore (pc' := 175) ok rfl 8 at_174 V108 z5 (by decide) rfl (by simp) ?_
  intro h109 W109 V109
  rw [e57] at V109
  refine r_dup (pc' := 176) ok rfl at_175 rfl ?_
  refine r_bipushV (pc' := 178) ok rfl (9 : Int32) at_176 rfl ?_
  refine r_bipushV (pc' := 180) ok rfl (57 : Int32) at_178 rfl ?_
  refine r_castore (pc' := 181) ok rfl 9 at_180 V109 z5 (by decide) rfl (by simp) ?_
  intro h110 W110 V110
  rw [e57] at V110
  refine r_dup (pc' := 182) ok rfl at_181 rfl ?_
  refine r_bipushV (pc' := 184) ok rfl (10 : Int32) at_182 rfl ?_
  refine r_bipushV (pc' := 186) ok rfl (57 : Int32) at_184 rfl ?_
  refine r_castore (pc' := 187) ok rfl 10 at_186 V110 z5 (by decide) rfl (by simp) ?_
  intro h111 W111 V111
  rw [e57] at V111
  refine r_dup (pc' := 188) ok rfl at_187 rfl ?_
  refine r_bipushV (pc' := 190) ok rfl (11 : Int32) at_188 rfl ?_
  refine r_bipushV (pc' := 192) ok rfl (57 : Int32) at_190 rfl ?_
  refine r_castore (pc' := 193) ok rfl 11 at_192 V111 z5 (by decide) rfl (by simp) ?_
  intro h112 W112 V112
  rw [e57] at V112
  refine r_dup (pc' := 194) ok rfl at_193 rfl ?_
  refine r_bipushV (pc' := 196) ok rfl (12 : Int32) at_194 rfl ?_
  refine r_bipushV (pc' := 198) ok rfl (57 : Int32) at_196 rfl ?_
  refine r_castore (pc' := 199) ok rfl 12 at_198 V112 z5 (by decide) rfl (by simp) ?_
  intro h113 W113 V113
  rw [e57] at V113
  refine r_dup (pc' := 200) ok rfl at_199 rfl ?_
  refine r_bipushV (pc' := 202) ok rfl (13 : Int32) at_200 rfl ?_
  refine r_bipushV (pc' := 204) ok rfl (57 : Int32) at_202 rfl ?_
  refine r_castore (pc' := 205) ok rfl 13 at_204 V113 z5 (by decide) rfl (by simp) ?_
  intro h114 W114 V114
  rw [e57] at V114
  refine r_dup (pc' := 206) ok rfl at_205 rfl ?_
  refine r_bipushV (pc' := 208) ok rfl (14 : Int32) at_206 rfl ?_
  refine r_bipushV (pc' := 210) ok rfl (57 : Int32) at_208 rfl ?_
  refine r_castore (pc' := 211) ok rfl 14 at_210 V114 z5 (by decide) rfl (by simp) ?_
  intro h115 W115 V115
  rw [e57] at V115
  refine r_dup (pc' := 212) ok rfl at_211 rfl ?_
  refine r_bipushV (pc' := 214) ok rfl (15 : Int32) at_212 rfl ?_
  refine r_bipushV (pc' := 216) ok rfl (57 : Int32) at_214 rfl ?_
  refine r_castore (pc' := 217) ok rfl 15 at_216 V115 z5 (by decide) rfl (by simp) ?_
  intro h116 W116 V116
  rw [e57] at V116
  refine r_dup (pc' := 218) ok rfl at_217 rfl ?_
  refine r_bipushV (pc' := 220) ok rfl (16 : Int32) at_218 rfl ?_
  refine r_bipushV (pc' := 222) ok rfl (57 : Int32) at_220 rfl ?_
  refine r_castore (pc' := 223) ok rfl 16 at_222 V116 z5 (by decide) rfl (by simp) ?_
  intro h117 W117 V117
  rw [e57] at V117
  refine r_dup (pc' := 224) ok rfl at_223 rfl ?_
  refine r_bipushV (pc' := 226) ok rfl (17 : Int32) at_224 rfl ?_
  refine r_bipushV (pc' := 228) ok rfl (57 : Int32) at_226 rfl ?_
  refine r_castore (pc' := 229) ok rfl 17 at_228 V117 z5 (by decide) rfl (by simp) ?_
  intro h118 W118 V118
  rw [e57] at V118
  replace V118 : Arv Z h118 b5 k5 .char 18 ((List.replicate 18 (57 : Int32)).map Value.int) (.int 0) := V118
  refine r_astore (pc' := 231) (ls' := #[.val (.int p1), .val (.int p2), .val (.int p3), .val (.int p4), .val (.int p5), .val (.int v6), .val (.int v22), .val (.int b7), .val (.int b8), .val (.int v62), .val (.int v73), .val (.int v84), .val (.int v121), .val (.ref b5), .unset, .unset, .unset, .unset, .unset, .unset, .unset, .unset, .unset, .unset, .unset, .unset, .unset, .unset, .unset, .unset]) ok rfl at_229 rfl rfl ?_
  refine r_iload (pc' := 233) ok rfl at_231 rfl ?_
  suffices J241 : ∀ b : Int32, b = v22 → Run Z K Cln h118 1 18 241 #[.val (.int p1), .val (.int p2), .val (.int p3), .val (.int p4), .val (.int p5), .val (.int v6), .val (.int v22), .val (.int b7), .val (.int b8), .val (.int v62), .val (.int v73), .val (.int v84), .val (.int v121), .val (.ref b5), .unset, .unset, .unset, .unset, .unset, .unset, .unset, .unset, .unset, .unset, .unset, .unset, .unset, .unset, .unset, .unset] [.int b] by
    refine r_if_eq (pc' := 236) (pcY := 240) ok rfl at_233 (by decide) (by decide) ?_ ?_
    · intro hc
      refine r_iconstV (pc' := 241) ok rfl (0 : Int32) at_240 rfl ?_
      exact J241 _ hc.symm
    · intro hc
      refine r_iconstV (pc' := 237) ok rfl (1 : Int32) at_236 rfl ?_
      refine r_goto (pc' := 241) ok at_237 (by decide) (by decide) ?_
      exact J241 _ (hb22.resolve_left hc).symm
  intro b41 hb41
  refine r_istore (pc' := 243) (ls' := fun z => #[.val (.int p1), .val (.int p2), .val (.int p3), .val (.int p4), .val (.int p5), .val (.int v6), .val (.int v22), .val (.int b7), .val (.int b8), .val (.int v62), .val (.int v73), .val (.int v84), .val (.int v121), .val (.ref b5), .val (.int z), .unset, .unset, .unset, .unset, .unset, .unset, .unset, .unset, .unset, .unset, .unset, .unset, .unset, .unset, .unset]) ok rfl at_241 (fun _ => rfl) ?_
  intro v241 ev241
  refine r_iload (pc' := 245) ok rfl at_243 rfl ?_
  obtain ⟨FR, hFR, eFR⟩ : ∃ FR : Nat, FR ≤ 1 ∧ v241 = Int32.ofNat FR := by
    rcases hb22 with q | q
    · exact ⟨0, by omega, by rw [ev241, hb41, q]; rfl⟩
    · exact ⟨1, by omega, by rw [ev241, hb41, q]; rfl⟩
  suffices J254 : ∀ (h : Heap) (cs : List Int32), cs.length = 18 → Lat cs → Arv Z h b5 k5 .char 18 (cs.map Value.int) (.int 0) → Run Z K Cln h 1 18 254 #[.val (.int p1), .val (.int p2), .val (.int p3), .val (.int p4), .val (.int p5), .val (.int v6), .val (.int v22), .val (.int b7), .val (.int b8), .val (.int v62), .val (.int v73), .val (.int v84), .val (.int v121), .val (.ref b5), .val (.int v241), .unset, .unset, .unset, .unset, .unset, .unset, .unset, .unset, .unset, .unset, .unset, .unset, .unset, .unset, .unset] [] by
    refine r_if_eq (pc' := 248) (pcY := 254) ok rfl at_245 (by decide) (by decide) ?_ ?_
    · intro _
      exact J254 h118 _ (by rw [List.length_replicate]) lat57 V118
    · intro _
      refine r_aload (pc' := 250) ok rfl at_248 rfl rfl ?_
      refine r_iconstV (pc' := 251) ok rfl (0 : Int32) at_250 rfl ?_
      refine r_iload (pc' := 253) ok rfl at_251 rfl ?_
      refine r_castore (pc' := 254) ok rfl 0 at_253 V118 z5 (by decide) rfl (by simp) ?_
      intro h119 W119 V119
      rw [own_nar c62.1 c62.2, ← List.map_set] at V119
      exact J254 h119 _ (by rw [List.length_set, List.length_replicate]) (lat57.set c62.1 c62.2) V119
  intro hh cs0 hc0 lat0 VA0
  refine r_iload (pc' := 256) ok rfl at_254 rfl ?_
  refine r_istore (pc' := 258) (ls' := fun z => #[.val (.int p1), .val (.int p2), .val (.int p3), .val (.int p4), .val (.int p5), .val (.int v6), .val (.int v22), .val (.int b7), .val (.int b8), .val (.int v62), .val (.int v73), .val (.int v84), .val (.int v121), .val (.ref b5), .val (.int v241), .val (.int z), .unset, .unset, .unset, .unset, .unset, .unset, .unset, .unset, .unset, .unset, .unset, .unset, .unset, .unset]) ok rfl at_256 (fun _ => rfl) ?_
  intro v256 ev256
  refine r_iload (pc' := 260) ok rfl at_258 rfl ?_
  refine r_istore (pc' := 262) (ls' := fun z => #[.val (.int p1), .val (.int p2), .val (.int p3), .val (.int p4), .val (.int p5), .val (.int v6), .val (.int v22), .val (.int b7), .val (.int b8), .val (.int v62), .val (.int v73), .val (.int v84), .val (.int v121), .val (.ref b5), .val (.int v241), .val (.int v256), .val (.int z), .unset, .unset, .unset, .unset, .unset, .unset, .unset, .unset, .unset, .unset, .unset, .unset, .unset]) ok rfl at_260 (fun _ => rfl) ?_
  intro v260 ev260
  refine r_aload (pc' := 264) ok rfl at_262 rfl rfl ?_
  refine r_iload (pc' := 266) ok rfl at_264 rfl ?_
  refine r_iconstV (pc' := 267) ok rfl (0 : Int32) at_266 rfl ?_
  refine r_iload (pc' := 269) ok rfl at_267 rfl ?_
  refine r_iloadN (pc' := 270) ok rfl at_269 rfl ?_
  refine r_iload (pc' := 272) ok rfl at_270 rfl ?_
  refine r_iloadN (pc' := 273) ok rfl at_272 rfl ?_
  have e256 : v256 = Int32.ofNat FR := ev256.trans eFR
  have e260 : v260 = Int32.ofNat FR := ev260.trans e256
  refine r_static (pc' := 276) ok rfl at_273 (hw _ (List.mem_of_getElem? (i := 5) rfl)) (hw _ (List.mem_of_getElem? (i := 6) rfl)) (hw _ (List.mem_of_getElem? (i := 2) rfl)) (hw _ (List.mem_of_getElem? (i := 7) rfl)) (by decide) pd_1 (Con.pay (W := 0) (rmPut l Z a0 hw b5 k5 v256 0 v6 p1 v121 p2 FR L cs0 hh e256 eL hL ⟨by decide, by decide⟩ hk (fun _ => by omega) (fun _ => by omega) hc0 VA0 z5) EW.nil (hw _ (List.mem_of_getElem? (i := 7) rfl)) (hw _ (List.mem_of_getElem? (i := 2) rfl)) (by decide) (by decide)) (fun q => nomatch q) (Or.inl rfl) rfl (argsL := [(.ref b5), (.int v256), .int _, (.int v6), (.int p1), (.int v121), (.int p2)]) (rest := []) rfl rfl rfl (Nat.le_of_ble_eq_true rfl) (by decide) (by decide) (cV fun x20 h20 q20 le20 => ?_)
  obtain ⟨n0, d0, c0, rfl, Kp0, V20, Wt0, hn0⟩ := q20
  obtain ⟨ya0, yb0, yc0⟩ := own_tk t0 (dN_le p2) hn0
  have bd0 : (kN = 0 ∧ n0 = L) ∨ (kN ≠ 0 ∧ 0 < n0 ∧ n0 ≤ 3) := by
    by_cases q : kN = 0
    · exact Or.inl ⟨q, (ya0 q).1⟩
    · exact Or.inr ⟨q, (yb0 q).1⟩
  have latT0 : Lat c0 := lat0.tok Wt0 yc0
  have lc0 : c0.length = 18 := Wt0.1
  refine r_istore (pc' := 278) (ls' := fun z => #[.val (.int p1), .val (.int p2), .val (.int p3), .val (.int p4), .val (.int p5), .val (.int v6), .val (.int v22), .val (.int b7), .val (.int b8), .val (.int v62), .val (.int v73), .val (.int v84), .val (.int v121), .val (.ref b5), .val (.int v241), .val (.int z), .val (.int v260), .unset, .unset, .unset, .unset, .unset, .unset, .unset, .unset, .unset, .unset, .unset, .unset, .unset]) ok rfl at_276 (fun _ => rfl) ?_
  intro v276 ev276
  refine r_aload (pc' := 280) ok rfl at_278 rfl rfl ?_
  refine r_iload (pc' := 282) ok rfl at_280 rfl ?_
  refine r_bipushV (pc' := 284) ok rfl (46 : Int32) at_282 rfl ?_
  have e276 : v276 = Int32.ofNat (FR + n0) := ev276
  refine r_castore (pc' := 285) ok rfl (FR+n0) at_284 V20 z5 (by rw [e276]; exact hin _ (by omega)) (by rw [e276]; exact ofN_nat (by omega)) (by rw [List.length_map, lc0]; omega) ?_
  intro h30 W30 V30
  rw [e46, ← List.map_set] at V30
  have ld0 : (c0.set (FR + n0) 46).length = 18 := by rw [List.length_set]; exact lc0
  have latD0 : Lat (c0.set (FR + n0) 46) := latT0.set (by decide) (by decide)
  obtain ⟨Q1, hQ1⟩ : ∃ Q1 : Nat, Q1 = FR + n0 + 1 := ⟨_, rfl⟩
  refine r_iinc (pc' := 288) (ls' := fun z => #[.val (.int p1), .val (.int p2), .val (.int p3), .val (.int p4), .val (.int p5), .val (.int v6), .val (.int v22), .val (.int b7), .val (.int b8), .val (.int v62), .val (.int v73), .val (.int v84), .val (.int v121), .val (.ref b5), .val (.int v241), .val (.int z), .val (.int v260), .unset, .unset, .unset, .unset, .unset, .unset, .unset, .unset, .unset, .unset, .unset, .unset, .unset]) ok rfl at_285 rfl (fun _ => rfl) ?_
  intro v285 ev285
  refine r_iload (pc' := 290) ok rfl at_288 rfl ?_
  refine r_istore (pc' := 292) (ls' := fun z => #[.val (.int p1), .val (.int p2), .val (.int p3), .val (.int p4), .val (.int p5), .val (.int v6), .val (.int v22), .val (.int b7), .val (.int b8), .val (.int v62), .val (.int v73), .val (.int v84), .val (.int v121), .val (.ref b5), .val (.int v241), .val (.int v285), .val (.int v260), .val (.int z), .unset, .unset, .unset, .unset, .unset, .unset, .unset, .unset, .unset, .unset, .unset, .unset]) ok rfl at_290 (fun _ => rfl) ?_
  intro v290 ev290
  refine r_aload (pc' := 294) ok rfl at_292 rfl rfl ?_
  refine r_iload (pc' := 296) ok rfl at_294 rfl ?_
  refine r_iconstV (pc' := 297) ok rfl (1 : Int32) at_296 rfl ?_
  refine r_iload (pc' := 299) ok rfl at_297 rfl ?_
  refine r_iloadN (pc' := 300) ok rfl at_299 rfl ?_
  refine r_iload (pc' := 302) ok rfl at_300 rfl ?_
  refine r_iloadN (pc' := 303) ok rfl at_302 rfl ?_
  have e285 : v285 = Int32.ofNat Q1 := by rw [ev285, e276, hQ1]; exact ofN_add (n := 1) (by omega)
  have e290 : v290 = Int32.ofNat Q1 := ev290.trans e285
  refine r_static (pc' := 306) ok rfl at_303 (hw _ (List.mem_of_getElem? (i := 5) rfl)) (hw _ (List.mem_of_getElem? (i := 6) rfl)) (hw _ (List.mem_of_getElem? (i := 2) rfl)) (hw _ (List.mem_of_getElem? (i := 7) rfl)) (by decide) pd_1 (Con.pay (W := 0) (rmPut l Z a0 hw b5 k5 v285 1 v6 p1 v121 p2 Q1 L (c0.set (FR + n0) 46) h30 e285 eL hL ⟨by decide, by decide⟩ hk (fun _ => by omega) (fun _ => by omega) ld0 V30 z5) EW.nil (hw _ (List.mem_of_getElem? (i := 7) rfl)) (hw _ (List.mem_of_getElem? (i := 2) rfl)) (by decide) (by decide)) (fun q => nomatch q) (Or.inl rfl) rfl (argsL := [(.ref b5), (.int v285), .int _, (.int v6), (.int p1), (.int v121), (.int p2)]) (rest := []) rfl rfl rfl (Nat.le_of_ble_eq_true rfl) (by decide) (by decide) (cV fun x21 h21 q21 le21 => ?_)
  obtain ⟨n1, d1, c1, rfl, Kp1, V21, Wt1, hn1⟩ := q21
  obtain ⟨ya1, yb1, yc1⟩ := own_tk t1 (dN_le p2) hn1
  have bd1 : (kN = 1 ∧ n1 = L) ∨ (kN ≠ 1 ∧ 0 < n1 ∧ n1 ≤ 3) := by
    by_cases q : kN = 1
    · exact Or.inl ⟨q, (ya1 q).1⟩
    · exact Or.inr ⟨q, (yb1 q).1⟩
  have latT1 : Lat c1 := latD0.tok Wt1 yc1
  have lc1 : c1.length = 18 := Wt1.1
  refine r_istore (pc' := 308) (ls' := fun z => #[.val (.int p1), .val (.int p2), .val (.int p3), .val (.int p4), .val (.int p5), .val (.int v6), .val (.int v22), .val (.int b7), .val (.int b8), .val (.int v62), .val (.int v73), .val (.int v84), .val (.int v121), .val (.ref b5), .val (.int v241), .val (.int z), .val (.int v260), .val (.int v290), .unset, .unset, .unset, .unset, .unset, .unset, .unset, .unset, .unset, .unset, .unset, .unset]) ok rfl at_306 (fun _ => rfl) ?_
  intro v306 ev306
  refine r_aload (pc' := 310) ok rfl at_308 rfl rfl ?_
  refine r_iload (pc' := 312) ok rfl at_310 rfl ?_
  refine r_bipushV (pc' := 314) ok rfl (46 : Int32) at_312 rfl ?_
  have e306 : v306 = Int32.ofNat (Q1 + n1) := ev306
  refine r_castore (pc' := 315) ok rfl (Q1+n1) at_314 V21 z5 (by rw [e306]; exact hin _ (by omega)) (by rw [e306]; exact ofN_nat (by omega)) (by rw [List.length_map, lc1]; omega) ?_
  intro h31 W31 V31
  rw [e46, ← List.map_set] at V31
  have ld1 : (c1.set (Q1 + n1) 46).length = 18 := by rw [List.length_set]; exact lc1
  have latD1 : Lat (c1.set (Q1 + n1) 46) := latT1.set (by decide) (by decide)
  obtain ⟨Q2, hQ2⟩ : ∃ Q2 : Nat, Q2 = Q1 + n1 + 1 := ⟨_, rfl⟩
  refine r_iinc (pc' := 318) (ls' := fun z => #[.val (.int p1), .val (.int p2), .val (.int p3), .val (.int p4), .val (.int p5), .val (.int v6), .val (.int v22), .val (.int b7), .val (.int b8), .val (.int v62), .val (.int v73), .val (.int v84), .val (.int v121), .val (.ref b5), .val (.int v241), .val (.int z), .val (.int v260), .val (.int v290), .unset, .unset, .unset, .unset, .unset, .unset, .unset, .unset, .unset, .unset, .unset, .unset]) ok rfl at_315 rfl (fun _ => rfl) ?_
  intro v315 ev315
  refine r_iload (pc' := 320) ok rfl at_318 rfl ?_
  refine r_istore (pc' := 322) (ls' := fun z => #[.val (.int p1), .val (.int p2), .val (.int p3), .val (.int p4), .val (.int p5), .val (.int v6), .val (.int v22), .val (.int b7), .val (.int b8), .val (.int v62), .val (.int v73), .val (.int v84), .val (.int v121), .val (.ref b5), .val (.int v241), .val (.int v315), .val (.int v260), .val (.int v290), .val (.int z), .unset, .unset, .unset, .unset, .unset, .unset, .unset, .unset, .unset, .unset, .unset]) ok rfl at_320 (fun _ => rfl) ?_
  intro v320 ev320
  refine r_aload (pc' := 324) ok rfl at_322 rfl rfl ?_
  refine r_iload (pc' := 326) ok rfl at_324 rfl ?_
  refine r_iconstV (pc' := 327) ok rfl (2 : Int32) at_326 rfl ?_
  refine r_iload (pc' := 329) ok rfl at_327 rfl ?_
  refine r_iloadN (pc' := 330) ok rfl at_329 rfl ?_
  refine r_iload (pc' := 332) ok rfl at_330 rfl ?_
  refine r_iloadN (pc' := 333) ok rfl at_332 rfl ?_
  have e315 : v315 = Int32.ofNat Q2 := by rw [ev315, e306, hQ2]; exact ofN_add (n := 1) (by omega)
  have e320 : v320 = Int32.ofNat Q2 := ev320.trans e315
  refine r_static (pc' := 336) ok rfl at_333 (hw _ (List.mem_of_getElem? (i := 5) rfl)) (hw _ (List.mem_of_getElem? (i := 6) rfl)) (hw _ (List.mem_of_getElem? (i := 2) rfl)) (hw _ (List.mem_of_getElem? (i := 7) rfl)) (by decide) pd_1 (Con.pay (W := 0) (rmPut l Z a0 hw b5 k5 v315 2 v6 p1 v121 p2 Q2 L (c1.set (Q1 + n1) 46) h31 e315 eL hL ⟨by decide, by decide⟩ hk (fun _ => by omega) (fun _ => by omega) ld1 V31 z5) EW.nil (hw _ (List.mem_of_getElem? (i := 7) rfl)) (hw _ (List.mem_of_getElem? (i := 2) rfl)) (by decide) (by decide)) (fun q => nomatch q) (Or.inl rfl) rfl (argsL := [(.ref b5), (.int v315), .int _, (.int v6), (.int p1), (.int v121), (.int p2)]) (rest := []) rfl rfl rfl (Nat.le_of_ble_eq_true rfl) (by decide) (by decide) (cV fun x22 h22 q22 le22 => ?_)
  obtain ⟨n2, d2, c2, rfl, Kp2, V22, Wt2, hn2⟩ := q22
  obtain ⟨ya2, yb2, yc2⟩ := own_tk t2 (dN_le p2) hn2
  have bd2 : (kN = 2 ∧ n2 = L) ∨ (kN ≠ 2 ∧ 0 < n2 ∧ n2 ≤ 3) := by
    by_cases q : kN = 2
    · exact Or.inl ⟨q, (ya2 q).1⟩
    · exact Or.inr ⟨q, (yb2 q).1⟩
  have latT2 : Lat c2 := latD1.tok Wt2 yc2
  have lc2 : c2.length = 18 := Wt2.1
  refine r_istore (pc' := 338) (ls' := fun z => #[.val (.int p1), .val (.int p2), .val (.int p3), .val (.int p4), .val (.int p5), .val (.int v6), .val (.int v22), .val (.int b7), .val (.int b8), .val (.int v62), .val (.int v73), .val (.int v84), .val (.int v121), .val (.ref b5), .val (.int v241), .val (.int z), .val (.int v260), .val (.int v290), .val (.int v320), .unset, .unset, .unset, .unset, .unset, .unset, .unset, .unset, .unset, .unset, .unset]) ok rfl at_336 (fun _ => rfl) ?_
  intro v336 ev336
  refine r_aload (pc' := 340) ok rfl at_338 rfl rfl ?_
  refine r_iload (pc' := 342) ok rfl at_340 rfl ?_
  refine r_bipushV (pc' := 344) ok rfl (46 : Int32) at_342 rfl ?_
  have e336 : v336 = Int32.ofNat (Q2 + n2) := ev336
  refine r_castore (pc' := 345) ok rfl (Q2+n2) at_344 V22 z5 (by rw [e336]; exact hin _ (by omega)) (by rw [e336]; exact ofN_nat (by omega)) (by rw [List.length_map, lc2]; omega) ?_
  intro h32 W32 V32
  rw [e46, ← List.map_set] at V32
  have ld2 : (c2.set (Q2 + n2) 46).length = 18 := by rw [List.length_set]; exact lc2
  have latD2 : Lat (c2.set (Q2 + n2) 46) := latT2.set (by decide) (by decide)
  obtain ⟨Q3, hQ3⟩ : ∃ Q3 : Nat, Q3 = Q2 + n2 + 1 := ⟨_, rfl⟩
  refine r_iinc (pc' := 348) (ls' := fun z => #[.val (.int p1), .val (.int p2), .val (.int p3), .val (.int p4), .val (.int p5), .val (.int v6), .val (.int v22), .val (.int b7), .val (.int b8), .val (.int v62), .val (.int v73), .val (.int v84), .val (.int v121), .val (.ref b5), .val (.int v241), .val (.int z), .val (.int v260), .val (.int v290), .val (.int v320), .unset, .unset, .unset, .unset, .unset, .unset, .unset, .unset, .unset, .unset, .unset]) ok rfl at_345 rfl (fun _ => rfl) ?_
  intro v345 ev345
  refine r_iload (pc' := 350) ok rfl at_348 rfl ?_
  refine r_istore (pc' := 352) (ls' := fun z => #[.val (.int p1), .val (.int p2), .val (.int p3), .val (.int p4), .val (.int p5), .val (.int v6), .val (.int v22), .val (.int b7), .val (.int b8), .val (.int v62), .val (.int v73), .val (.int v84), .val (.int v121), .val (.ref b5), .val (.int v241), .val (.int v345), .val (.int v260), .val (.int v290), .val (.int v320), .val (.int z), .unset, .unset, .unset, .unset, .unset, .unset, .unset, .unset, .unset, .unset]) ok rfl at_350 (fun _ => rfl) ?_
  intro v350 ev350
  refine r_aload (pc' := 354) ok rfl at_352 rfl rfl ?_
  refine r_iload (pc' := 356) ok rfl at_354 rfl ?_
  refine r_iconstV (pc' := 357) ok rfl (3 : Int32) at_356 rfl ?_
  refine r_iload (pc' := 359) ok rfl at_357 rfl ?_
  refine r_iloadN (pc' := 360) ok rfl at_359 rfl ?_
  refine r_iload (pc' := 362) ok rfl at_360 rfl ?_
  refine r_iloadN (pc' := 363) ok rfl at_362 rfl ?_
  have e345 : v345 = Int32.ofNat Q3 := by rw [ev345, e336, hQ3]; exact ofN_add (n := 1) (by omega)
  have e350 : v350 = Int32.ofNat Q3 := ev350.trans e345
  refine r_static (pc' := 366) ok rfl at_363 (hw _ (List.mem_of_getElem? (i := 5) rfl)) (hw _ (List.mem_of_getElem? (i := 6) rfl)) (hw _ (List.mem_of_getElem? (i := 2) rfl)) (hw _ (List.mem_of_getElem? (i := 7) rfl)) (by decide) pd_1 (Con.pay (W := 0) (rmPut l Z a0 hw b5 k5 v345 3 v6 p1 v121 p2 Q3 L (c2.set (Q2 + n2) 46) h32 e345 eL hL ⟨by decide, by decide⟩ hk (fun _ => by omega) (fun _ => by omega) ld2 V32 z5) EW.nil (hw _ (List.mem_of_getElem? (i := 7) rfl)) (hw _ (List.mem_of_getElem? (i := 2) rfl)) (by decide) (by decide)) (fun q => nomatch q) (Or.inl rfl) rfl (argsL := [(.ref b5), (.int v345), .int _, (.int v6), (.int p1), (.int v121), (.int p2)]) (rest := []) rfl rfl rfl (Nat.le_of_ble_eq_true rfl) (by decide) (by decide) (cV fun x23 h23 q23 le23 => ?_)
  obtain ⟨n3, d3, c3, rfl, Kp3, V23, Wt3, hn3⟩ := q23
  obtain ⟨ya3, yb3, yc3⟩ := own_tk t3 (dN_le p2) hn3
  have bd3 : (kN = 3 ∧ n3 = L) ∨ (kN ≠ 3 ∧ 0 < n3 ∧ n3 ≤ 3) := by
    by_cases q : kN = 3
    · exact Or.inl ⟨q, (ya3 q).1⟩
    · exact Or.inr ⟨q, (yb3 q).1⟩
  have latT3 : Lat c3 := latD2.tok Wt3 yc3
  have lc3 : c3.length = 18 := Wt3.1
  refine r_istore (pc' := 368) (ls' := fun z => #[.val (.int p1), .val (.int p2), .val (.int p3), .val (.int p4), .val (.int p5), .val (.int v6), .val (.int v22), .val (.int b7), .val (.int b8), .val (.int v62), .val (.int v73), .val (.int v84), .val (.int v121), .val (.ref b5), .val (.int v241), .val (.int z), .val (.int v260), .val (.int v290), .val (.int v320), .val (.int v350), .unset, .unset, .unset, .unset, .unset, .unset, .unset, .unset, .unset, .unset]) ok rfl at_366 (fun _ => rfl) ?_
  intro v366 ev366
  refine r_iload (pc' := 370) ok rfl at_368 rfl ?_
  refine r_istore (pc' := 372) (ls' := fun z => #[.val (.int p1), .val (.int p2), .val (.int p3), .val (.int p4), .val (.int p5), .val (.int v6), .val (.int v22), .val (.int b7), .val (.int b8), .val (.int v62), .val (.int v73), .val (.int v84), .val (.int v121), .val (.ref b5), .val (.int v241), .val (.int v366), .val (.int v260), .val (.int v290), .val (.int v320), .val (.int v350), .val (.int z), .unset, .unset, .unset, .unset, .unset, .unset, .unset, .unset, .unset]) ok rfl at_370 (fun _ => rfl) ?_
  intro v370 ev370
  refine r_iload (pc' := 374) ok rfl at_372 rfl ?_
  obtain ⟨E3, hE3⟩ : ∃ E3 : Nat, E3 = Q3 + n3 := ⟨_, rfl⟩
  have hE17 : 3 ≤ E3 ∧ E3 ≤ 17 := by omega
  have e366 : v366 = Int32.ofNat E3 := by rw [ev366, hE3]
  have e370 : v370 = Int32.ofNat E3 := ev370.trans e366
  suffices J387 : ∀ (h : Heap) (c4 : List Int32) (LN : Nat) (vL : Int32), c4.length = 18 → Lat c4 → Arv Z h b5 k5 .char 18 (c4.map Value.int) (.int 0) → vL = Int32.ofNat LN → (∀ q, q < E3 → c4.getD q 0 = c3.getD q 0) → ((b7 = 1 ∧ LN = E3 + 1 ∧ c4.getD E3 0 = v73) ∨ (b7 = 0 ∧ LN = E3)) → Run Z K Cln h 1 18 387 #[.val (.int p1), .val (.int p2), .val (.int p3), .val (.int p4), .val (.int p5), .val (.int v6), .val (.int v22), .val (.int b7), .val (.int b8), .val (.int v62), .val (.int v73), .val (.int v84), .val (.int v121), .val (.ref b5), .val (.int v241), .val (.int vL), .val (.int v260), .val (.int v290), .val (.int v320), .val (.int v350), .val (.int v370), .unset, .unset, .unset, .unset, .unset, .unset, .unset, .unset, .unset] [] by
    refine r_if_eq (pc' := 377) (pcY := 387) ok rfl at_374 (by decide) (by decide) ?_ ?_
    · intro hc
      exact J387 h23 c3 E3 _ lc3 latT3 V23 e366 (fun _ _ => rfl) (Or.inr ⟨hc, rfl⟩)
    · intro hc
      refine r_aload (pc' := 379) ok rfl at_377 rfl rfl ?_
      refine r_iload (pc' := 381) ok rfl at_379 rfl ?_
      refine r_iload (pc' := 383) ok rfl at_381 rfl ?_
      refine r_castore (pc' := 384) ok rfl E3 at_383 V23 z5 (by rw [e366]; exact hin _ (by omega)) (by rw [e366]; exact ofN_nat (by omega)) (by rw [List.length_map, lc3]; omega) ?_
      intro h40 W40 V40
      rw [own_nar c73.1 c73.2, ← List.map_set] at V40
      refine r_iinc (pc' := 387) (ls' := fun z => #[.val (.int p1), .val (.int p2), .val (.int p3), .val (.int p4), .val (.int p5), .val (.int v6), .val (.int v22), .val (.int b7), .val (.int b8), .val (.int v62), .val (.int v73), .val (.int v84), .val (.int v121), .val (.ref b5), .val (.int v241), .val (.int z), .val (.int v260), .val (.int v290), .val (.int v320), .val (.int v350), .val (.int v370), .unset, .unset, .unset, .unset, .unset, .unset, .unset, .unset, .unset]) ok rfl at_384 rfl (fun _ => rfl) ?_
      intro v384 ev384
      exact J387 h40 _ (E3 + 1) _ (by rw [List.length_set]; exact lc3) (latT3.set c73.1 c73.2) V40 (by rw [ev384, e366]; exact ofN_add (n := 1) (by omega)) (fun q hq => own_low hq) (Or.inl ⟨hb7.resolve_left hc, rfl, own_hit (by rw [lc3]; omega)⟩)
  intro h4 c4 LN vL hc4 lat4 V4 eLN hlow hlen
  have hLN : 3 ≤ LN ∧ LN ≤ 18 := by omega
  refine r_iload (pc' := 389) ok rfl at_387 rfl ?_
  refine r_istore (pc' := 391) (ls' := fun z => #[.val (.int p1), .val (.int p2), .val (.int p3), .val (.int p4), .val (.int p5), .val (.int v6), .val (.int v22), .val (.int b7), .val (.int b8), .val (.int v62), .val (.int v73), .val (.int v84), .val (.int v121), .val (.ref b5), .val (.int v241), .val (.int vL), .val (.int v260), .val (.int v290), .val (.int v320), .val (.int v350), .val (.int v370), .val (.int z), .unset, .unset, .unset, .unset, .unset, .unset, .unset, .unset]) ok rfl at_389 (fun _ => rfl) ?_
  intro v389 ev389
  refine r_iload (pc' := 393) ok rfl at_391 rfl ?_
  refine r_ldcI (pc' := 395) ok rfl at_393 (hw _ (List.mem_of_getElem? (i := 11) rfl)) ?_
  refine r_iand (pc' := 396) ok rfl at_395 ?_
  refine r_iload (pc' := 398) ok rfl at_396 rfl ?_
  have e389 : v389 = Int32.ofNat LN := ev389.trans eLN
  have i389 : v389.toInt = (LN : Int) := by rw [e389]; exact ofN_toInt (by omega)
  refine r_irem (pc' := 399) ok rfl at_398 (fun q => by rw [q] at i389; have : (0 : Int32).toInt = 0 := rfl; omega) ?_
  refine r_istore (pc' := 401) (ls' := fun z => #[.val (.int p1), .val (.int p2), .val (.int p3), .val (.int p4), .val (.int p5), .val (.int v6), .val (.int v22), .val (.int b7), .val (.int b8), .val (.int v62), .val (.int v73), .val (.int v84), .val (.int v121), .val (.ref b5), .val (.int v241), .val (.int vL), .val (.int v260), .val (.int v290), .val (.int v320), .val (.int v350), .val (.int v370), .val (.int v389), .val (.int z), .unset, .unset, .unset, .unset, .unset, .unset, .unset]) ok rfl at_399 (fun _ => rfl) ?_
  intro v399 ev399
  refine r_iload (pc' := 403) ok rfl at_401 rfl ?_
  obtain ⟨PN, hPN, ePN⟩ : ∃ PN : Nat, PN < LN ∧ v399 = Int32.ofNat PN := by
    have m := (c_iremV (p5 &&& (2147483647 : Int32)) v389).1 (own_m31 p5) (by omega)
    rw [← ev399] at m
    exact ⟨v399.toInt.toNat, by omega, ofN_eq (by omega) (by omega)⟩
  suffices J413 : ∀ (h : Heap) (c5 : List Int32), c5.length = 18 → Lat c5 → Arv Z h b5 k5 .char 18 (c5.map Value.int) (.int 0) → (∀ q, ¬ (b8 = 1 ∧ q = PN) → c5.getD q 0 = c4.getD q 0) → (b8 = 1 → c5.getD PN 0 = v84) → Run Z K Cln h 1 18 413 #[.val (.int p1), .val (.int p2), .val (.int p3), .val (.int p4), .val (.int p5), .val (.int v6), .val (.int v22), .val (.int b7), .val (.int b8), .val (.int v62), .val (.int v73), .val (.int v84), .val (.int v121), .val (.ref b5), .val (.int v241), .val (.int vL), .val (.int v260), .val (.int v290), .val (.int v320), .val (.int v350), .val (.int v370), .val (.int v389), .val (.int v399), .unset, .unset, .unset, .unset, .unset, .unset, .unset] [] by
    refine r_if_eq (pc' := 406) (pcY := 413) ok rfl at_403 (by decide) (by decide) ?_ ?_
    · intro hc
      exact J413 h4 c4 hc4 lat4 V4 (fun _ _ => rfl) (fun q => absurd (hc.symm.trans q) (by decide))
    · intro hc
      refine r_aload (pc' := 408) ok rfl at_406 rfl rfl ?_
      refine r_iload (pc' := 410) ok rfl at_408 rfl ?_
      refine r_iload (pc' := 412) ok rfl at_410 rfl ?_
      refine r_castore (pc' := 413) ok rfl PN at_412 V4 z5 (by rw [ePN]; exact hin _ (by omega)) (by rw [ePN]; exact ofN_nat (by omega)) (by rw [List.length_map, hc4]; omega) ?_
      intro h41 W41 V41
      rw [own_nar c84.1 c84.2, ← List.map_set] at V41
      exact J413 h41 _ (by rw [List.length_set]; exact hc4) (lat4.set c84.1 c84.2) V41 (fun q hq => by rw [own_setI, if_neg fun r => hq ⟨hb8.resolve_left hc, r.1.symm⟩]) (fun _ => own_hit (by rw [hc4]; omega))
  intro h5' c5 hc5 lat5 VC hC1 hC2
  refine r_iloadN (pc' := 414) ok rfl at_413 rfl ?_
  refine r_iconstV (pc' := 415) ok rfl (1 : Int32) at_414 rfl ?_
  refine r_iand (pc' := 416) ok rfl at_415 ?_
  suffices J442 : ∀ (vT : Int32) (TO : Nat), vT = Int32.ofNat TO → FR ≤ TO → TO ≤ LN → Run Z K Cln h5' 1 18 442 #[.val (.int p1), .val (.int p2), .val (.int p3), .val (.int p4), .val (.int p5), .val (.int v6), .val (.int v22), .val (.int b7), .val (.int b8), .val (.int v62), .val (.int v73), .val (.int v84), .val (.int v121), .val (.ref b5), .val (.int v241), .val (.int vL), .val (.int v260), .val (.int v290), .val (.int v320), .val (.int v350), .val (.int v370), .val (.int v389), .val (.int v399), .val (.int vT), .unset, .unset, .unset, .unset, .unset, .unset] [] by
    refine r_if_eq (pc' := 419) (pcY := 426) ok rfl at_416 (by decide) (by decide) ?_ ?_
    · intro _
      refine r_iload (pc' := 428) ok rfl at_426 rfl ?_
      refine r_iloadN (pc' := 429) ok rfl at_428 rfl ?_
      refine r_iconstV (pc' := 430) ok rfl (1 : Int32) at_429 rfl ?_
      refine r_iushr (pc' := 431) ok rfl at_430 ?_
      refine r_iload (pc' := 433) ok rfl at_431 rfl ?_
      refine r_iload (pc' := 435) ok rfl at_433 rfl ?_
      refine r_isub (pc' := 436) ok rfl at_435 ?_
      refine r_iconstV (pc' := 437) ok rfl (1 : Int32) at_436 rfl ?_
      refine r_iadd (pc' := 438) ok rfl at_437 ?_
      have y1 := c_isub v389 v241
      have y2 := c_iadd (v389 - v241) 1
      have y3 := rng32 (v389 - v241)
      have y4 := rng32 (v389 - v241 + 1)
      have i241 : v241.toInt = (FR : Int) := by rw [eFR]; exact ofN_toInt (by omega)
      have i1 : (1 : Int32).toInt = 1 := rfl
      have yd : (v389 - v241 + 1).toInt = (LN : Int) - FR + 1 := by omega
      refine r_irem (pc' := 439) ok rfl at_438 (fun q => by rw [q] at yd; have : (0 : Int32).toInt = 0 := rfl; omega) ?_
      have m := (c_iremV ((p4.toUInt32 >>> ((1 : Int32) &&& 31).toUInt32).toInt32) (v389 - v241 + 1)).1 (own_sh1 p4) (by omega)
      obtain ⟨rr, hrr⟩ : ∃ rr : Int32, rr = (p4.toUInt32 >>> ((1 : Int32) &&& 31).toUInt32).toInt32 % (v389 - v241 + 1) := ⟨_, rfl⟩
      rw [← hrr] at m
      rw [← hrr]
      obtain ⟨rN, hrN, erN⟩ : ∃ rN : Nat, FR + rN ≤ LN ∧ rr = Int32.ofNat rN := ⟨rr.toInt.toNat, by omega, ofN_eq (by omega) (by omega)⟩
      refine r_iadd (pc' := 440) ok rfl at_439 ?_
      refine r_istore (pc' := 442) (ls' := fun z => #[.val (.int p1), .val (.int p2), .val (.int p3), .val (.int p4), .val (.int p5), .val (.int v6), .val (.int v22), .val (.int b7), .val (.int b8), .val (.int v62), .val (.int v73), .val (.int v84), .val (.int v121), .val (.ref b5), .val (.int v241), .val (.int vL), .val (.int v260), .val (.int v290), .val (.int v320), .val (.int v350), .val (.int v370), .val (.int v389), .val (.int v399), .val (.int z), .unset, .unset, .unset, .unset, .unset, .unset]) ok rfl at_440 (fun _ => rfl) ?_
      intro v440 ev440
      exact J442 _ (FR + rN) (by rw [ev440, eFR, erN]; exact ofN_add (by omega)) (by omega) hrN
    · intro _
      refine r_iload (pc' := 421) ok rfl at_419 rfl ?_
      refine r_istore (pc' := 423) (ls' := fun z => #[.val (.int p1), .val (.int p2), .val (.int p3), .val (.int p4), .val (.int p5), .val (.int v6), .val (.int v22), .val (.int b7), .val (.int b8), .val (.int v62), .val (.int v73), .val (.int v84), .val (.int v121), .val (.ref b5), .val (.int v241), .val (.int vL), .val (.int v260), .val (.int v290), .val (.int v320), .val (.int v350), .val (.int v370), .val (.int v389), .val (.int v399), .val (.int z), .unset, .unset, .unset, .unset, .unset, .unset]) ok rfl at_421 (fun _ => rfl) ?_
      intro v421 ev421
      refine r_goto (pc' := 442) ok at_423 (by decide) (by decide) ?_
      exact J442 _ LN (ev421.trans e389) (by omega) (Nat.le_refl _)
  intro vT TO eTO hft hTL
  refine r_new (pc' := 445) ok rfl at_442 (hw _ (List.mem_of_getElem? (i := 12) rfl)) (hw _ (List.mem_of_getElem? (i := 13) rfl)) (hw _ (List.mem_of_getElem? (i := 14) rfl)) (by decide) (by decide) ?_
  intro h88 b88 g88 z88 E88 A88 D88
  have Fc := D88 (Or.inr (hw _ (List.mem_of_getElem? (i := 38) rfl))) (ty := .byte) (by decide)
  have Fv := D88 (Or.inr (hw _ (List.mem_of_getElem? (i := 40) rfl))) (ty := (.array .byte)) (by decide)
  refine r_dup (pc' := 446) ok rfl at_445 rfl ?_
  refine r_aload (pc' := 448) ok rfl at_446 rfl rfl ?_
  refine r_special (pc' := 451) ok rfl at_448 rfl (hw _ (List.mem_of_getElem? (i := 15) rfl)) (hw _ (List.mem_of_getElem? (i := 16) rfl)) (hw _ (List.mem_of_getElem? (i := 17) rfl)) (by decide) pd_3 (payStr l Z a0 hw room_1 (W := 1) 18 (by decide +kernel) (hw _ (List.mem_of_getElem? (i := 13) rfl)) z88 A88 Fv Fc (VC.ext E88) S1 P1 (by rw [hc5]; rfl) (by rw [hc5]; decide) (by rw [hc5]; decide) (by decide) (lat_mem lat5) (by decide) (by decide)) (fun q => nomatch q) (Or.inl rfl) rfl (argsL := [(.ref b5)]) (rest := [(.ref b88)]) rfl rfl rfl (Nat.le_of_ble_eq_true rfl) (by decide) (by decide) (cU fun h89 q89 le89 => ?_)
  obtain ⟨K89, A89, Gc, t89, kb89, zt, ht89, hne, Gv, Gb⟩ := q89
  refine r_astore (pc' := 453) (ls' := #[.val (.int p1), .val (.int p2), .val (.int p3), .val (.int p4), .val (.int p5), .val (.int v6), .val (.int v22), .val (.int b7), .val (.int b8), .val (.int v62), .val (.int v73), .val (.int v84), .val (.int v121), .val (.ref b5), .val (.int v241), .val (.int vL), .val (.int v260), .val (.int v290), .val (.int v320), .val (.int v350), .val (.int v370), .val (.int v389), .val (.int v399), .val (.int vT), .val (.ref b88), .unset, .unset, .unset, .unset, .unset]) ok rfl at_451 rfl rfl ?_
  refine r_aload (pc' := 455) ok rfl at_453 rfl rfl ?_
  refine r_iload (pc' := 457) ok rfl at_455 rfl ?_
  refine r_iload (pc' := 459) ok rfl at_457 rfl ?_
  refine r_static (pc' := 462) ok rfl at_459 (hw _ (List.mem_of_getElem? (i := 41) rfl)) (hw _ (List.mem_of_getElem? (i := 42) rfl)) (hw _ (List.mem_of_getElem? (i := 43) rfl)) (hw _ (List.mem_of_getElem? (i := 44) rfl)) (by decide) pd_9 (Con.pay (W := 0) (rmFF l Z a0 hw b88 dg mb km dv v241 vT G1 FR TO c5 FM h89 hc5 lat5 ⟨A89, t89, kb89, Gv, Gc, Gb⟩ S1 P1 S8 hFM SD ED FD MD eFR eTO hft (by omega)) EW.nil (hw _ (List.mem_of_getElem? (i := 44) rfl)) (hw _ (List.mem_of_getElem? (i := 43) rfl)) (by decide) (by decide)) (fun q => nomatch q) (Or.inl rfl) rfl (argsL := [(.ref b88), (.int v241), (.int vT)]) (rest := []) rfl rfl rfl (Nat.le_of_ble_eq_true rfl) (by decide) (by decide) (cV fun x90 h90 q90 le90 => ?_)
  obtain ⟨⟨r90, rfl, e90⟩, rfl⟩ := q90
  refine r_istore (pc' := 464) (ls' := fun z => #[.val (.int p1), .val (.int p2), .val (.int p3), .val (.int p4), .val (.int p5), .val (.int v6), .val (.int v22), .val (.int b7), .val (.int b8), .val (.int v62), .val (.int v73), .val (.int v84), .val (.int v121), .val (.ref b5), .val (.int v241), .val (.int vL), .val (.int v260), .val (.int v290), .val (.int v320), .val (.int v350), .val (.int v370), .val (.int v389), .val (.int v399), .val (.int vT), .val (.ref b88), .val (.int z), .unset, .unset, .unset, .unset]) ok rfl at_462 (fun _ => rfl) ?_
  intro v462 ev462
  refine r_iload (pc' := 466) ok rfl at_464 rfl ?_
  obtain ⟨SK, hSK⟩ : ∃ SK : Nat, SK = sel4 FR Q1 Q2 Q3 kN := ⟨_, rfl⟩
  have bSK : SK ≤ E3 := by
    rw [hSK]
    obtain rfl | rfl | rfl | rfl : kN = 0 ∨ kN = 1 ∨ kN = 2 ∨ kN = 3 := by omega
    · show FR ≤ E3; omega
    · show Q1 ≤ E3; omega
    · show Q2 ≤ E3; omega
    · show Q3 ≤ E3; omega
  suffices J498 : ∀ vS : Int32, vS = Int32.ofNat SK → Run Z K Cln h89 3 40 498 #[.val (.int p1), .val (.int p2), .val (.int p3), .val (.int p4), .val (.int p5), .val (.int v6), .val (.int v22), .val (.int b7), .val (.int b8), .val (.int v62), .val (.int v73), .val (.int v84), .val (.int v121), .val (.ref b5), .val (.int v241), .val (.int vL), .val (.int v260), .val (.int v290), .val (.int v320), .val (.int v350), .val (.int v370), .val (.int v389), .val (.int v399), .val (.int vT), .val (.ref b88), .val (.int v462), .unset, .unset, .unset, .unset] [.int vS] by
    refine r_if_ne (pc' := 469) (pcY := 474) ok rfl at_466 (by decide) (by decide) ?_ ?_
    rotate_left
    · intro hc
      refine r_iload (pc' := 471) ok rfl at_469 rfl ?_
      refine r_goto (pc' := 498) ok at_471 (by decide) (by decide) ?_
      have := t0.mp hc.symm
      exact J498 _ (by rw [hSK, this]; exact e260)
    intro n0'
    refine r_iload (pc' := 476) ok rfl at_474 rfl ?_
    refine r_iconstV (pc' := 477) ok rfl (1 : Int32) at_476 rfl ?_
    refine r_icmp_ne (pc' := 480) (pcY := 485) ok rfl at_477 (by decide) (by decide) ?_ ?_
    rotate_left
    · intro hc
      refine r_iload (pc' := 482) ok rfl at_480 rfl ?_
      refine r_goto (pc' := 498) ok at_482 (by decide) (by decide) ?_
      have := t1.mp hc.symm
      exact J498 _ (by rw [hSK, this]; exact e290)
    intro n1'
    refine r_iload (pc' := 487) ok rfl at_485 rfl ?_
    refine r_iconstV (pc' := 488) ok rfl (2 : Int32) at_487 rfl ?_
    refine r_icmp_ne (pc' := 491) (pcY := 496) ok rfl at_488 (by decide) (by decide) ?_ ?_
    rotate_left
    · intro hc
      refine r_iload (pc' := 493) ok rfl at_491 rfl ?_
      refine r_goto (pc' := 498) ok at_493 (by decide) (by decide) ?_
      have := t2.mp hc.symm
      exact J498 _ (by rw [hSK, this]; exact e320)
    intro n2'
    refine r_iload (pc' := 498) ok rfl at_496 rfl ?_
    have : kN = 3 := by
      have a0' := mt t0.mpr; have a1' := mt t1.mpr; have a2' := mt t2.mpr
      have z0 : kN ≠ 0 := fun q => n0' (t0.mpr q).symm
      have z1 : kN ≠ 1 := fun q => n1' (t1.mpr q).symm
      have z2 : kN ≠ 2 := fun q => n2' (t2.mpr q).symm
      omega
    exact J498 _ (by rw [hSK, this]; exact e350)
  intro vS hvS
  refine r_istore (pc' := 500) (ls' := fun z => #[.val (.int p1), .val (.int p2), .val (.int p3), .val (.int p4), .val (.int p5), .val (.int v6), .val (.int v22), .val (.int b7), .val (.int b8), .val (.int v62), .val (.int v73), .val (.int v84), .val (.int v121), .val (.ref b5), .val (.int v241), .val (.int vL), .val (.int v260), .val (.int v290), .val (.int v320), .val (.int v350), .val (.int v370), .val (.int v389), .val (.int v399), .val (.int vT), .val (.ref b88), .val (.int v462), .val (.int z), .unset, .unset, .unset]) ok rfl at_498 (fun _ => rfl) ?_
  intro v498 ev498
  refine r_ldcI (pc' := 502) ok rfl at_500 (hw _ (List.mem_of_getElem? (i := 11) rfl)) ?_
  refine r_istore (pc' := 504) (ls' := fun z => #[.val (.int p1), .val (.int p2), .val (.int p3), .val (.int p4), .val (.int p5), .val (.int v6), .val (.int v22), .val (.int b7), .val (.int b8), .val (.int v62), .val (.int v73), .val (.int v84), .val (.int v121), .val (.ref b5), .val (.int v241), .val (.int vL), .val (.int v260), .val (.int v290), .val (.int v320), .val (.int v350), .val (.int v370), .val (.int v389), .val (.int v399), .val (.int vT), .val (.ref b88), .val (.int v462), .val (.int v498), .val (.int z), .unset, .unset]) ok rfl at_502 (fun _ => rfl) ?_
  intro v502 ev502
  refine r_iload (pc' := 506) ok rfl at_504 rfl ?_
  refine r_iloadN (pc' := 507) ok rfl at_506 rfl ?_
  refine r_static (pc' := 510) ok rfl at_507 (hw _ (List.mem_of_getElem? (i := 77) rfl)) (hw _ (List.mem_of_getElem? (i := 78) rfl)) (hw _ (List.mem_of_getElem? (i := 2) rfl)) (hw _ (List.mem_of_getElem? (i := 79) rfl)) (by decide) pd_2 (Con.pay (W := 0) (rmSF l Z a0 hw v121 p2 L h89 eL hL) EW.nil (hw _ (List.mem_of_getElem? (i := 79) rfl)) (hw _ (List.mem_of_getElem? (i := 2) rfl)) (by decide) (by decide)) (fun q => nomatch q) (Or.inl rfl) rfl (argsL := [(.int v121), (.int p2)]) (rest := []) rfl rfl rfl (Nat.le_of_ble_eq_true rfl) (by decide) (by decide) (cV fun x91 h91 q91 le91 => ?_)
  obtain ⟨⟨sf, rfl, hsf⟩, rfl⟩ := q91
  refine r_istore (pc' := 512) (ls' := fun z => #[.val (.int p1), .val (.int p2), .val (.int p3), .val (.int p4), .val (.int p5), .val (.int v6), .val (.int v22), .val (.int b7), .val (.int b8), .val (.int v62), .val (.int v73), .val (.int v84), .val (.int v121), .val (.ref b5), .val (.int v241), .val (.int vL), .val (.int v260), .val (.int v290), .val (.int v320), .val (.int v350), .val (.int v370), .val (.int v389), .val (.int v399), .val (.int vT), .val (.ref b88), .val (.int v462), .val (.int v498), .val (.int v502), .val (.int z), .unset]) ok rfl at_510 (fun _ => rfl) ?_
  intro v510 ev510
  refine r_iload (pc' := 514) ok rfl at_512 rfl ?_
  have e498 : v498 = Int32.ofNat SK := ev498.trans hvS
  have e502 : v502 = Int32.ofNat 2147483647 := by rw [ev502]; rfl
  suffices J524 : ∀ (vX : Int32) (X1 f : Nat), vX = Int32.ofNat X1 → X1 < 2 ^ 31 → TokOk (dN p2) L f → (((f < L ∨ L = 0) ∧ X1 = SK + f) ∨ (¬ (f < L ∨ L = 0) ∧ X1 = 2147483647)) → Run Z K Cln h89 3 40 524 #[.val (.int p1), .val (.int p2), .val (.int p3), .val (.int p4), .val (.int p5), .val (.int v6), .val (.int v22), .val (.int b7), .val (.int b8), .val (.int v62), .val (.int v73), .val (.int v84), .val (.int v121), .val (.ref b5), .val (.int v241), .val (.int vL), .val (.int v260), .val (.int v290), .val (.int v320), .val (.int v350), .val (.int v370), .val (.int v389), .val (.int v399), .val (.int vT), .val (.ref b88), .val (.int v462), .val (.int v498), .val (.int vX), .val (.int v510), .unset] [] by
    refine r_if_lt (pc' := 517) (pcY := 524) ok rfl at_514 (by decide) (by decide) ?_ ?_
    · intro hc
      rw [lti, ev510] at hc
      have e0 : (0 : Int32).toInt = 0 := rfl
      rcases hsf with ⟨u1, u2, u3⟩ | ⟨f, u1, u2, u3, u4⟩
      · exact J524 _ 2147483647 L e502 (by omega) u3 (Or.inr ⟨by omega, rfl⟩)
      · omega
    · intro hc
      rw [lti, ev510] at hc
      have e0 : (0 : Int32).toInt = 0 := rfl
      rcases hsf with ⟨u1, u2, u3⟩ | ⟨f, u1, u2, u3, u4⟩
      · omega
      · have ef : v510 = Int32.ofNat f := ev510.trans (ofN_eq (by omega) u1)
        refine r_iload (pc' := 519) ok rfl at_517 rfl ?_
        refine r_iload (pc' := 521) ok rfl at_519 rfl ?_
        refine r_iadd (pc' := 522) ok rfl at_521 ?_
        refine r_istore (pc' := 524) (ls' := fun z => #[.val (.int p1), .val (.int p2), .val (.int p3), .val (.int p4), .val (.int p5), .val (.int v6), .val (.int v22), .val (.int b7), .val (.int b8), .val (.int v62), .val (.int v73), .val (.int v84), .val (.int v121), .val (.ref b5), .val (.int v241), .val (.int vL), .val (.int v260), .val (.int v290), .val (.int v320), .val (.int v350), .val (.int v370), .val (.int v389), .val (.int v399), .val (.int vT), .val (.ref b88), .val (.int v462), .val (.int v498), .val (.int z), .val (.int v510), .unset]) ok rfl at_522 (fun _ => rfl) ?_
        intro v522 ev522
        exact J524 _ (SK + f) f (by rw [ev522, e498, ef]; exact ofN_add (by omega)) (by omega) u3 (Or.inl ⟨u4, rfl⟩)
  intro vX X1 f eX1 bX1 tk hX1
  refine r_iload (pc' := 526) ok rfl at_524 rfl ?_
  suffices J545 : ∀ (vY : Int32) (X2 : Nat), vY = Int32.ofNat X2 → ((b8 = 1 ∧ FR ≤ PN ∧ X2 = min X1 PN) ∨ (¬ (b8 = 1 ∧ FR ≤ PN) ∧ X2 = X1)) → Run Z K Cln h89 3 40 545 #[.val (.int p1), .val (.int p2), .val (.int p3), .val (.int p4), .val (.int p5), .val (.int v6), .val (.int v22), .val (.int b7), .val (.int b8), .val (.int v62), .val (.int v73), .val (.int v84), .val (.int v121), .val (.ref b5), .val (.int v241), .val (.int vL), .val (.int v260), .val (.int v290), .val (.int v320), .val (.int v350), .val (.int v370), .val (.int v389), .val (.int v399), .val (.int vT), .val (.ref b88), .val (.int v462), .val (.int v498), .val (.int vY), .val (.int v510), .unset] [] by
    refine r_if_eq (pc' := 529) (pcY := 545) ok rfl at_526 (by decide) (by decide) ?_ ?_
    · intro hc
      exact J545 _ X1 eX1 (Or.inr ⟨fun q => absurd (hc.symm.trans q.1) (by decide), rfl⟩)
    · intro hc
      refine r_iload (pc' := 531) ok rfl at_529 rfl ?_
      refine r_iload (pc' := 533) ok rfl at_531 rfl ?_
      refine r_icmp_lt (pc' := 536) (pcY := 545) ok rfl at_533 (by decide) (by decide) ?_ ?_
      · intro hd
        rw [ePN, eFR] at hd
        have := (ofN_lt (by omega) (by omega)).mp hd
        exact J545 _ X1 eX1 (Or.inr ⟨fun q => by omega, rfl⟩)
      · intro hd
        rw [ePN, eFR] at hd
        have := mt (ofN_lt (i := PN) (n := FR) (by omega) (by omega)).mpr hd
        refine r_iload (pc' := 538) ok rfl at_536 rfl ?_
        refine r_iload (pc' := 540) ok rfl at_538 rfl ?_
        refine r_static (pc' := 543) ok rfl at_540 (hw _ (List.mem_of_getElem? (i := 80) rfl)) (hw _ (List.mem_of_getElem? (i := 81) rfl)) (hw _ (List.mem_of_getElem? (i := 82) rfl)) (hw _ (List.mem_of_getElem? (i := 83) rfl)) (by decide) pd_2 (Con.pay (W := 0) (rmMin l Z a0 hw vX v399 X1 PN h89 eX1 ePN bX1 (by omega)) EW.nil (hw _ (List.mem_of_getElem? (i := 83) rfl)) (hw _ (List.mem_of_getElem? (i := 82) rfl)) (by decide) (by decide)) (fun q => nomatch q) (Or.inl rfl) rfl (argsL := [(.int vX), (.int v399)]) (rest := []) rfl rfl rfl (Nat.le_of_ble_eq_true rfl) (by decide) (by decide) (cV fun x92 h92 q92 le92 => ?_)
        obtain ⟨rfl, rfl⟩ := q92
        refine r_istore (pc' := 545) (ls' := fun z => #[.val (.int p1), .val (.int p2), .val (.int p3), .val (.int p4), .val (.int p5), .val (.int v6), .val (.int v22), .val (.int b7), .val (.int b8), .val (.int v62), .val (.int v73), .val (.int v84), .val (.int v121), .val (.ref b5), .val (.int v241), .val (.int vL), .val (.int v260), .val (.int v290), .val (.int v320), .val (.int v350), .val (.int v370), .val (.int v389), .val (.int v399), .val (.int vT), .val (.ref b88), .val (.int v462), .val (.int v498), .val (.int z), .val (.int v510), .unset]) ok rfl at_543 (fun _ => rfl) ?_
        intro v543 ev543
        exact J545 _ (min X1 PN) ev543 (Or.inl ⟨hb8.resolve_left hc, by omega, rfl⟩)
  intro vY X2 eX2 hX2
  refine r_iload (pc' := 547) ok rfl at_545 rfl ?_
  suffices J559 : ∀ (vW : Int32) (X3 : Nat), vW = Int32.ofNat X3 → ((b7 = 1 ∧ X3 = min X2 E3) ∨ (b7 = 0 ∧ X3 = X2)) → Run Z K Cln h89 3 40 559 #[.val (.int p1), .val (.int p2), .val (.int p3), .val (.int p4), .val (.int p5), .val (.int v6), .val (.int v22), .val (.int b7), .val (.int b8), .val (.int v62), .val (.int v73), .val (.int v84), .val (.int v121), .val (.ref b5), .val (.int v241), .val (.int vL), .val (.int v260), .val (.int v290), .val (.int v320), .val (.int v350), .val (.int v370), .val (.int v389), .val (.int v399), .val (.int vT), .val (.ref b88), .val (.int v462), .val (.int v498), .val (.int vW), .val (.int v510), .unset] [] by
    refine r_if_eq (pc' := 550) (pcY := 559) ok rfl at_547 (by decide) (by decide) ?_ ?_
    · intro hc
      exact J559 _ X2 eX2 (Or.inr ⟨hc, rfl⟩)
    · intro hc
      refine r_iload (pc' := 552) ok rfl at_550 rfl ?_
      refine r_iload (pc' := 554) ok rfl at_552 rfl ?_
      refine r_static (pc' := 557) ok rfl at_554 (hw _ (List.mem_of_getElem? (i := 80) rfl)) (hw _ (List.mem_of_getElem? (i := 81) rfl)) (hw _ (List.mem_of_getElem? (i := 82) rfl)) (hw _ (List.mem_of_getElem? (i := 83) rfl)) (by decide) pd_2 (Con.pay (W := 0) (rmMin l Z a0 hw vY v370 X2 E3 h89 eX2 e370 (by omega) (by omega)) EW.nil (hw _ (List.mem_of_getElem? (i := 83) rfl)) (hw _ (List.mem_of_getElem? (i := 82) rfl)) (by decide) (by decide)) (fun q => nomatch q) (Or.inl rfl) rfl (argsL := [(.int vY), (.int v370)]) (rest := []) rfl rfl rfl (Nat.le_of_ble_eq_true rfl) (by decide) (by decide) (cV fun x93 h93 q93 le93 => ?_)
      obtain ⟨rfl, rfl⟩ := q93
      refine r_istore (pc' := 559) (ls' := fun z => #[.val (.int p1), .val (.int p2), .val (.int p3), .val (.int p4), .val (.int p5), .val (.int v6), .val (.int v22), .val (.int b7), .val (.int b8), .val (.int v62), .val (.int v73), .val (.int v84), .val (.int v121), .val (.ref b5), .val (.int v241), .val (.int vL), .val (.int v260), .val (.int v290), .val (.int v320), .val (.int v350), .val (.int v370), .val (.int v389), .val (.int v399), .val (.int vT), .val (.ref b88), .val (.int v462), .val (.int v498), .val (.int z), .val (.int v510), .unset]) ok rfl at_557 (fun _ => rfl) ?_
      intro v557 ev557
      exact J559 _ (min X2 E3) ev557 (Or.inl ⟨hb7.resolve_left hc, rfl⟩)
  intro vW X3 eX3 hX3
  -- the plain law
  have hnk : sel4 n0 n1 n2 n3 kN = L ∧ sel4 d0 d1 d2 d3 kN = dN p2 := by
    obtain q | q | q | q : kN = 0 ∨ kN = 1 ∨ kN = 2 ∨ kN = 3 := by omega
    · rw [q]; exact ya0 q
    · rw [q]; exact ya1 q
    · rw [q]; exact ya2 q
    · rw [q]; exact ya3 q
  have hA3 : ∀ q, q < E3 → c4.getD q 0 = c3.getD q 0 := hlow
  have hA2 : ∀ q, q < Q3 → c4.getD q 0 = (c2.set (Q2 + n2) 46).getD q 0 := fun q hq => by rw [hA3 q (by omega)]; exact Wt3.2.1 q (Or.inl hq)
  have hA1 : ∀ q, q < Q2 → c4.getD q 0 = (c1.set (Q1 + n1) 46).getD q 0 := fun q hq => by rw [hA2 q (by omega), own_low (by omega)]; exact Wt2.2.1 q (Or.inl hq)
  have hA0 : ∀ q, q < Q1 → c4.getD q 0 = (c0.set (FR + n0) 46).getD q 0 := fun q hq => by rw [hA1 q (by omega), own_low (by omega)]; exact Wt1.2.1 q (Or.inl hq)
  have Fs := own_Fs hX1 hX2 (hX3.imp id fun q => ⟨by rw [q.1]; decide, q.2⟩) hLN.2
  have main := own_main (C := fun q => (c5.getD q 0).toInt) (T := fun q => (c4.getD q 0).toInt) (d := sel4 d0 d1 d2 d3) (n := sel4 n0 n1 n2 n3) (s := sel4 FR Q1 Q2 Q3) (fr := FR) (to := TO) (len := LN) (k := kN) (f := f) (p := PN) (F := X3) (rc := v84.toInt) (rp := b8 = 1) (ht := b7 = 1) hkN rfl hQ1 hQ2 hQ3
    (fun i hi hne => by
      obtain rfl | rfl | rfl | rfl : i = 0 ∨ i = 1 ∨ i = 2 ∨ i = 3 := by omega
      · have := yb0 (Ne.symm hne); exact ⟨this.2, this.1.1⟩
      · have := yb1 (Ne.symm hne); exact ⟨this.2, this.1.1⟩
      · have := yb2 (Ne.symm hne); exact ⟨this.2, this.1.1⟩
      · have := yb3 (Ne.symm hne); exact ⟨this.2, this.1.1⟩)
    (by rw [hnk.1, hnk.2]; exact tk)
    (fun i hi j hj => by
      obtain rfl | rfl | rfl | rfl : i = 0 ∨ i = 1 ∨ i = 2 ∨ i = 3 := by omega
      · have hj' : j < n0 := hj
        show (c4.getD (FR + j) 0).toInt = 48 + (d0 j : Int)
        rw [hA0 _ (by omega), own_low (by omega)]; exact Wt0.2.2 j hj'
      · have hj' : j < n1 := hj
        show (c4.getD (Q1 + j) 0).toInt = 48 + (d1 j : Int)
        rw [hA1 _ (by omega), own_low (by omega)]; exact Wt1.2.2 j hj'
      · have hj' : j < n2 := hj
        show (c4.getD (Q2 + j) 0).toInt = 48 + (d2 j : Int)
        rw [hA2 _ (by omega), own_low (by omega)]; exact Wt2.2.2 j hj'
      · have hj' : j < n3 := hj
        show (c4.getD (Q3 + j) 0).toInt = 48 + (d3 j : Int)
        rw [hA3 _ (by omega)]; exact Wt3.2.2 j hj')
    (fun i hi => by
      obtain rfl | rfl | rfl : i = 0 ∨ i = 1 ∨ i = 2 := by omega
      · show (c4.getD (FR + n0) 0).toInt = 46
        rw [hA0 _ (by omega), own_hit (by omega)]; rfl
      · show (c4.getD (Q1 + n1) 0).toInt = 46
        rw [hA1 _ (by omega), own_hit (by omega)]; rfl
      · show (c4.getD (Q2 + n2) 0).toInt = 46
        rw [hA2 _ (by omega), own_hit (by omega)]; rfl)
    (by
      show (b7 = 1 ∧ LN = Q3 + n3 + 1 ∧ ¬ (48 ≤ (c4.getD (Q3 + n3) 0).toInt ∧ (c4.getD (Q3 + n3) 0).toInt ≤ 57)) ∨ (¬ b7 = 1 ∧ LN = Q3 + n3)
      rw [← hE3]
      rcases hlen with ⟨u1, u2, u3⟩ | ⟨u1, u2⟩
      · exact Or.inl ⟨u1, u2, by rw [u3]; exact hb7t u1⟩
      · exact Or.inr ⟨by rw [u1]; decide, u2⟩)
    (fun q hq => by show (c5.getD q 0).toInt = (c4.getD q 0).toInt; rw [hC1 q hq])
    (fun q => by show (c5.getD PN 0).toInt = v84.toInt; rw [hC2 q])
    hb8t ⟨hft, hTL⟩
    (by rw [hnk.1, ← hSK]; exact Fs.1)
    Fs.2.1
    (fun q => by show X3 ≤ Q3 + n3; rw [← hE3]; exact Fs.2.2.1 q)
    (by
      rw [hnk.1, ← hSK]
      show X3 ≤ LN → ((f < L ∨ L = 0) ∧ X3 = SK + f) ∨ (b8 = 1 ∧ FR ≤ PN ∧ X3 = PN) ∨ (b7 = 1 ∧ X3 = Q3 + n3)
      rw [← hE3]; exact Fs.2.2.2)
  have e90' : r90.toInt = if X3 < TO then (X3 : Int) else if Q3 < TO then -1 else (TO : Int) := e90.trans main
  have bX2 : X2 < 2 ^ 31 := by omega
  have bX3 : X3 < 2 ^ 31 := by omega
  refine r_iload (pc' := 561) ok rfl at_559 rfl ?_
  refine r_iload (pc' := 563) ok rfl at_561 rfl ?_
  suffices J590 : ∀ vE : Int32, vE.toInt = r90.toInt → Run Z K Cln h89 3 40 590 #[.val (.int p1), .val (.int p2), .val (.int p3), .val (.int p4), .val (.int p5), .val (.int v6), .val (.int v22), .val (.int b7), .val (.int b8), .val (.int v62), .val (.int v73), .val (.int v84), .val (.int v121), .val (.ref b5), .val (.int v241), .val (.int vL), .val (.int v260), .val (.int v290), .val (.int v320), .val (.int v350), .val (.int v370), .val (.int v389), .val (.int v399), .val (.int vT), .val (.ref b88), .val (.int v462), .val (.int v498), .val (.int vW), .val (.int v510), .val (.int vE)] [] by
    refine r_icmp_ge (pc' := 566) (pcY := 573) ok rfl at_563 (by decide) (by decide) ?_ ?_
    rotate_left
    · intro hc
      rw [eX3, eTO] at hc
      have := (ofN_lt (by omega) (by omega)).mp hc
      refine r_iload (pc' := 568) ok rfl at_566 rfl ?_
      refine r_istore (pc' := 570) (ls' := fun z => #[.val (.int p1), .val (.int p2), .val (.int p3), .val (.int p4), .val (.int p5), .val (.int v6), .val (.int v22), .val (.int b7), .val (.int b8), .val (.int v62), .val (.int v73), .val (.int v84), .val (.int v121), .val (.ref b5), .val (.int v241), .val (.int vL), .val (.int v260), .val (.int v290), .val (.int v320), .val (.int v350), .val (.int v370), .val (.int v389), .val (.int v399), .val (.int vT), .val (.ref b88), .val (.int v462), .val (.int v498), .val (.int vW), .val (.int v510), .val (.int z)]) ok rfl at_568 (fun _ => rfl) ?_
      intro v568 ev568
      refine r_goto (pc' := 590) ok at_570 (by decide) (by decide) ?_
      exact J590 _ (by rw [ev568, eX3, ofN_toInt (by omega), e90', if_pos this])
    intro hc
    rw [eX3, eTO] at hc
    have := mt (ofN_lt (i := X3) (n := TO) (by omega) (by omega)).mpr hc
    refine r_iload (pc' := 575) ok rfl at_573 rfl ?_
    refine r_iload (pc' := 577) ok rfl at_575 rfl ?_
    refine r_icmp_le (pc' := 580) (pcY := 586) ok rfl at_577 (by decide) (by decide) ?_ ?_
    · intro hd
      rw [e350, eTO] at hd
      have := mt (ofN_lt (i := Q3) (n := TO) (by omega) (by omega)).mpr hd
      refine r_iload (pc' := 588) ok rfl at_586 rfl ?_
      refine r_istore (pc' := 590) (ls' := fun z => #[.val (.int p1), .val (.int p2), .val (.int p3), .val (.int p4), .val (.int p5), .val (.int v6), .val (.int v22), .val (.int b7), .val (.int b8), .val (.int v62), .val (.int v73), .val (.int v84), .val (.int v121), .val (.ref b5), .val (.int v241), .val (.int vL), .val (.int v260), .val (.int v290), .val (.int v320), .val (.int v350), .val (.int v370), .val (.int v389), .val (.int v399), .val (.int vT), .val (.ref b88), .val (.int v462), .val (.int v498), .val (.int vW), .val (.int v510), .val (.int z)]) ok rfl at_588 (fun _ => rfl) ?_
      intro v588 ev588
      exact J590 _ (by rw [ev588, eTO, ofN_toInt (by omega), e90', if_neg (by omega), if_neg (by omega)])
    · intro hd
      rw [e350, eTO] at hd
      have := (ofN_lt (i := Q3) (n := TO) (by omega) (by omega)).mp hd
      refine r_iconstV (pc' := 581) ok rfl (-1 : Int32) at_580 rfl ?_
      refine r_istore (pc' := 583) (ls' := fun z => #[.val (.int p1), .val (.int p2), .val (.int p3), .val (.int p4), .val (.int p5), .val (.int v6), .val (.int v22), .val (.int b7), .val (.int b8), .val (.int v62), .val (.int v73), .val (.int v84), .val (.int v121), .val (.ref b5), .val (.int v241), .val (.int vL), .val (.int v260), .val (.int v290), .val (.int v320), .val (.int v350), .val (.int v370), .val (.int v389), .val (.int v399), .val (.int vT), .val (.ref b88), .val (.int v462), .val (.int v498), .val (.int vW), .val (.int v510), .val (.int z)]) ok rfl at_581 (fun _ => rfl) ?_
      intro v581 ev581
      refine r_goto (pc' := 590) ok at_583 (by decide) (by decide) ?_
      exact J590 _ (by rw [ev581, e90', if_neg (by omega), if_pos (by omega)]; rfl)
  intro vE hE
  refine r_iload (pc' := 592) ok rfl at_590 rfl ?_
  refine r_iload (pc' := 594) ok rfl at_592 rfl ?_
  refine r_icmp_ne (pc' := 597) (pcY := 601) ok rfl at_594 (by decide) (by decide) ?_ ?_
  · intro hc
    exact absurd (eqi.mpr (by rw [ev462, hE])) hc
  intro _
  refine r_iconstV (pc' := 598) ok rfl (1 : Int32) at_597 rfl ?_
  refine r_goto (pc' := 602) ok at_598 (by decide) (by decide) ?_
  refine r_ireturn ok at_602 rfl (by simp) (by decide) (by decide) ?_
  rfl
end Claim

set_option maxRecDepth 65536 in
set_option maxHeartbeats 4000000 in
theorem comes_1 {Post : Tables → Env → Array Value → State → Outcome → State → Prop} (hpost : ∀ tb e args s v u, (limb_1_1.after args s (.returned v) u = true ∧ limb_1_2.after args s (.returned v) u = true ∧ True) → FrameEnd s (.returned v) u (Jvm.fieldLocs frame_1_writes args s ++ Jvm.arrayLocs frame_1_arrays args s ++ Jvm.staticLocs frame_1_statics s) 16 192 → Post tb e args s (.returned v) u) :
    ArmFor flags0 classFile x code maxLocals ret World_1 tables_1 room_1 Calls_1 rest_1 Pre_1 Post := by
  intro l hfl _ _ p e ha hc hk s m args below hf hA hF happ hP
  obtain ⟨hcalls, hrest, hpre⟩ := hP
  obtain ⟨-, -, -, hnamed, -, -, -, hat⟩ := (Spec.applies_iff hf).mp happ
  obtain ⟨hg, hn⟩ := and_e (Cond.before_iff.mp (show (Jvm.Cond.and given_1 narrow_1).before args s = true from hpre))
  obtain ⟨gc, gr0⟩ := and_e hg
  obtain ⟨ga0, gr1⟩ := and_e gr0
  obtain ⟨ga1, gr2⟩ := and_e gr1
  obtain ⟨ga2, gr3⟩ := and_e gr2
  obtain ⟨ga3, gr4⟩ := and_e gr3
  have ga4 := gr4
  obtain ⟨w0, w1, w2, w3, w4, rfl⟩ : ∃ w0 w1 w2 w3 w4 : Value, args = #[w0, w1, w2, w3, w4] := by
    have hs : args.size = 5 := by simpa [Cond.value, given_1] using gc
    obtain ⟨L⟩ := args
    match L, hs with
    | [w0, w1, w2, w3, w4], _ => exact ⟨w0, w1, w2, w3, w4, rfl⟩
  have hw := fun d (hd : d ∈ tables_1) => atoms_spec (ws := Jvm.Cond.code x code maxLocals ret :: tables_1) hat d (List.mem_cons_of_mem _ hd)
  have hfit : Fit s := fun {y c} hc i hi => by
    obtain ⟨ha, rfl⟩ := Array.getElem?_eq_some_iff.mp hc
    have q := List.all_eq_true.mp ((Array.all_eq_true_iff_forall_mem.mp hF) _ (Array.getElem_mem ha)) i (List.mem_range.mpr hi)
    simpa [Array.getElem?_eq_getElem hi] using q
  obtain ⟨hsets, hown0⟩ := atoms_of _ (rest_1_c_eq ▸ (show rest_1_c.before _ s = true from hrest))
  obtain ⟨i0, ei0⟩ := is_v ga0
  obtain rfl : w0 = (.int i0) := Option.some.inj ei0
  obtain ⟨i1, ei1⟩ := is_v ga1
  obtain rfl : w1 = (.int i1) := Option.some.inj ei1
  obtain ⟨i2, ei2⟩ := is_v ga2
  obtain rfl : w2 = (.int i2) := Option.some.inj ei2
  obtain ⟨i3, ei3⟩ := is_v ga3
  obtain rfl : w3 = (.int i3) := Option.some.inj ei3
  obtain ⟨i4, ei4⟩ := is_v ga4
  obtain rfl : w4 = (.int i4) := Option.some.inj ei4
  have n5 := not_v (Cond.before_iff.mp (hsets _ (List.mem_of_getElem? (i := 2) rfl)))
  obtain ⟨G1, e10⟩ := is_v (Cond.before_iff.mp (hsets _ (List.mem_of_getElem? (i := 1) rfl)))
  have S1 : Sta s s.heap "java/lang/String" "COMPACT_STRINGS" "Z" (.int G1) := Sta.start e10 (Or.inl (hsets _ (List.mem_of_getElem? (i := 0) rfl)))
  have P1 : ¬ (G1 = (0 : Int32)) := gotF (Cond.eq_ints e10 (Term.int_eval (0))) n5
  obtain ⟨FM, eFM, hFM⟩ := isR_v (Cond.before_iff.mp (hsets _ (List.mem_of_getElem? (i := 8) rfl)))
  have S8 : Sta s s.heap "jdk/internal/util/Preconditions" "SIOOBE_FORMATTER" "Ljava/util/function/BiFunction;" FM := Sta.start eFM (Or.inl (hsets _ (List.mem_of_getElem? (i := 7) rfl)))
  obtain ⟨hn1, hr1⟩ := and_e hn
  obtain ⟨hn2, hr2⟩ := and_e hr1
  obtain ⟨hn3, hr3⟩ := and_e hr2
  obtain ⟨hn4, hr4⟩ := and_e hr3
  obtain ⟨hn5, hn6⟩ := and_e hr4
  obtain ⟨dg, edg⟩ := exa_v hn1
  have SD : Sta s s.heap "com/example/fundort/fundort/util/CharClass" "DIGIT" "Lcom/example/fundort/fundort/util/CharClass;" (.ref dg) := Sta.start edg (Or.inr ⟨hw _ (List.mem_of_getElem? (i := 46) rfl), hw _ (List.mem_of_getElem? (i := 47) rfl)⟩)
  have ED := Exa.start edg hn1
  obtain ⟨mb, emb⟩ := arr_v hn2
  have FD : Fld s s.heap dg "com/example/fundort/fundort/util/CharClass" "members" "[Z" (.ref mb) := Fld.start ((fld_at edg).symm.trans emb)
  obtain ⟨km, MD⟩ := own_digit hfit (fun idx => (show _ = _ from emb)) hn2 hn3 hn4 hn5 hn6
  obtain ⟨n, o, h1, h2, h3, _, L, rfl, ⟨⟨xr, rfl, rfl⟩, N, -, -⟩, hq⟩ := (rm0 l s _ hw i0 i1 i2 i3 i4 G1 S1 P1 FM hFM S8 dg mb km (.int 0) SD ED FD MD) ⟨Nat.le_refl _, fun _ _ q => q⟩ p e ha hc hk s m _ below hf ((Spec.applies_iff_loose hf).mp happ).1 ⟨rfl, State.Warmed39.refl s, rfl, chv_nil⟩ trivial
  exact ⟨n, _, h1, h2, h3, hpost _ _ _ _ _ _ ⟨Cond.after_iff.mpr rfl, Cond.after_iff.mpr (eq_i res_at (Term.int_eval (1)) rfl), trivial⟩ ⟨hq.1, hq.2.1, (hq.2.2.sift fun y hy => Or.inr (N y hy)).mono (by decide) (by decide)⟩⟩
theorem main_1_1 : Claimed_1_1 := comes_1 fun _ _ _ _ _ _ h hF => ⟨h.1, hF⟩
theorem main_1_2 : Claimed_1_2 := comes_1 fun _ _ _ _ _ _ h hF => ⟨h.2.1, hF⟩
end Jvm.Pilot.@@N@@
namespace Jvm.Pilot.@@N@@
open Jvm Jvm.ClassFile Sem Op Lib Jvm.Free Jvm.Stand Jvm.Pilot.@@N@@.Jvm.D
/-! MADE BY PROGRAM (witnessworld.py) out of the Statement's table words and the real class files: 25 classes; the members and pool entries that the words name. The judged class is class 1, her method 1. -/
namespace start1
open Jvm.ClassFile
def u (s : String) : CpInfo := .utf8 (stringToUtf16 s)
/-- a pool by its gaps: so many unusable entries, then the entry; so many at the end -/
def gap : Nat → List CpInfo → List CpInfo
  | 0, r => r
  | n + 1, r => .unusable :: gap n r
def poolList (es : List (Nat × CpInfo)) (last : Nat) : List CpInfo := es.foldr (fun e r => gap e.1 (e.2 :: r)) (gap last [])
def pool (es : List (Nat × CpInfo)) (last : Nat) : Array CpInfo := ⟨poolList es last⟩
def fileOf (pool : Array CpInfo) (this : Nat) (attrs : Array Attribute := #[]) (ms : Array MethodInfo := #[]) (fl : Nat := 33) (sup : Nat := 0) (ifs : Array Nat := #[]) (fds : Array FieldInfo := #[]) : ClassFile where
  minorVersion := 0
  majorVersion := 65
  constantPool := pool
  accessFlags := fl
  thisClass := this
  superClass := sup
  interfaces := ifs
  fields := fds
  methods := ms
  attributes := attrs
def plain (name : String) (sup : Option ClassId) : Class where
  name := name
  kind := .ordinary
  loader := none
  accessFlags := 33
  super := sup
  interfaces := #[]
  cf := none
  fields := #[]
  methods := #[]
  instanceTypes := #[]
  staticTypes := #[]
  resolved := #[]
  callSites := []
  init := .initialized
  statics := none
  mirror := none

def pool0 : Array CpInfo := pool [(5, u "<init>"), (0, u "()V"), (1, .class_ 10), (1, u "java/lang/Object")] 113

def k0c0 : Code := { maxStack := 0, maxLocals := 1, code := object_method_1_code, exceptionTable := #[], attributes := #[] }
def k0m0 : Method := { name := "<init>", desc := "()V", sig := { parameters := [], returnType := none }, accessFlags := 1, code := some k0c0 }
/-- java/lang/Object -/
def k0 : Class := { plain "java/lang/Object" none with
  accessFlags := 33
  interfaces := #[]
  cf := some (fileOf pool0 8 #[] #[{ accessFlags := 1, nameIndex := 5, descriptorIndex := 6, attributes := #[] }] 33 0 #[] #[])
  fields := #[]
  methods := #[k0m0]
  instanceTypes := #[]
  staticTypes := #[]
  resolved := Array.replicate 124 none
  statics := none }

def pool1 : Array CpInfo := pool [(2, .class_ 4), (1, u "java/lang/Object"), (0, u "<init>"), (0, u "()V"), (0, .methodref 8 9), (0, .class_ 10), (0, .nameAndType 11 12), (0, u "com/example/fundort/fundort/util/Ipv4AddressFirstFaultPinLaw"), (0, u "isDigit"), (0, u "(C)Z"), (0, .methodref 8 14), (0, .nameAndType 15 16), (0, u "putToken"), (0, u "([CIIIIII)I"), (0, .integer 2147483647), (0, .class_ 19), (0, u "java/lang/String"), (0, .methodref 18 21), (0, .nameAndType 5 22), (0, u "([C)V"), (0, .methodref 24 25), (0, .class_ 26), (0, .nameAndType 27 28), (0, u "com/example/fundort/fundort/util/Ipv4Address"), (0, u "firstFault"), (0, u "(Ljava/lang/String;II)I"), (2, .methodref 8 32), (0, .nameAndType 33 34), (0, u "specialFault"), (0, u "(II)I"), (0, .methodref 36 37), (0, .class_ 38), (0, .nameAndType 39 34), (0, u "java/lang/Math"), (0, u "min"), (0, .methodref 8 41), (0, .nameAndType 42 34), (0, u "digitValue"), (2, u "law"), (0, u "(IIIII)Z")] 5

def k1m0 : Method := { name := "<init>", desc := "()V", sig := { parameters := [], returnType := none }, accessFlags := 2, code := none }
def k1c1 : Code := { maxStack := 7, maxLocals := 30, code := code, exceptionTable := #[], attributes := #[] }
def k1m1 : Method := { name := "law", desc := "(IIIII)Z", sig := { parameters := [.int, .int, .int, .int, .int], returnType := some .boolean }, accessFlags := 9, code := some k1c1 }
def k1c2 : Code := { maxStack := 2, maxLocals := 1, code := method_3_code, exceptionTable := #[], attributes := #[] }
def k1m2 : Method := { name := "isDigit", desc := "(C)Z", sig := { parameters := [.char], returnType := some .boolean }, accessFlags := 10, code := some k1c2 }
def k1c3 : Code := { maxStack := 4, maxLocals := 2, code := method_4_code, exceptionTable := #[], attributes := #[] }
def k1m3 : Method := { name := "digitValue", desc := "(II)I", sig := { parameters := [.int, .int], returnType := some .int }, accessFlags := 10, code := some k1c3 }
def k1c4 : Code := { maxStack := 5, maxLocals := 9, code := method_5_code, exceptionTable := #[], attributes := #[] }
def k1m4 : Method := { name := "putToken", desc := "([CIIIIII)I", sig := { parameters := [(.array .char), .int, .int, .int, .int, .int, .int], returnType := some .int }, accessFlags := 10, code := some k1c4 }
def k1c5 : Code := { maxStack := 3, maxLocals := 5, code := method_6_code, exceptionTable := #[], attributes := #[] }
def k1m5 : Method := { name := "specialFault", desc := "(II)I", sig := { parameters := [.int, .int], returnType := some .int }, accessFlags := 10, code := some k1c5 }
/-- com/example/fundort/fundort/util/Ipv4AddressFirstFaultPinLaw -/
def k1 : Class := { plain "com/example/fundort/fundort/util/Ipv4AddressFirstFaultPinLaw" (some 0) with
  accessFlags := 49
  interfaces := #[]
  cf := some (fileOf pool1 8 #[] #[{ accessFlags := 2, nameIndex := 5, descriptorIndex := 6, attributes := #[] }, { accessFlags := 9, nameIndex := 45, descriptorIndex := 46, attributes := #[] }, { accessFlags := 10, nameIndex := 11, descriptorIndex := 12, attributes := #[] }, { accessFlags := 10, nameIndex := 42, descriptorIndex := 34, attributes := #[] }, { accessFlags := 10, nameIndex := 15, descriptorIndex := 16, attributes := #[] }, { accessFlags := 10, nameIndex := 33, descriptorIndex := 34, attributes := #[] }] 49 2 #[] #[])
  fields := #[]
  methods := #[k1m0, k1m1, k1m2, k1m3, k1m4, k1m5]
  instanceTypes := #[]
  staticTypes := #[]
  resolved := Array.replicate 52 none
  statics := none }

def pool2 : Array CpInfo := pool [(1, .class_ 2), (0, u "java/io/Serializable"), (0, .class_ 4), (0, u "java/lang/Object")] 2

/-- java/io/Serializable -/
def k2 : Class := { plain "java/io/Serializable" (some 0) with
  accessFlags := 1537
  interfaces := #[]
  cf := some (fileOf pool2 1 #[] #[] 1537 3 #[] #[])
  fields := #[]
  methods := #[]
  instanceTypes := #[]
  staticTypes := #[]
  resolved := Array.replicate 7 none
  statics := none }

def pool3 : Array CpInfo := pool [(1, .class_ 2), (0, u "java/lang/Comparable"), (0, .class_ 4), (0, u "java/lang/Object")] 7

/-- java/lang/Comparable -/
def k3 : Class := { plain "java/lang/Comparable" (some 0) with
  accessFlags := 1537
  interfaces := #[]
  cf := some (fileOf pool3 1 #[] #[] 1537 3 #[] #[])
  fields := #[]
  methods := #[]
  instanceTypes := #[]
  staticTypes := #[]
  resolved := Array.replicate 12 none
  statics := none }

def pool4 : Array CpInfo := pool [(2, .class_ 4), (1, u "java/lang/CharSequence"), (42, .class_ 48), (0, u "java/lang/CharSequence$1CodePointIterator"), (10, .class_ 60), (0, u "java/lang/CharSequence$1CharIterator"), (5, .class_ 67), (0, u "java/lang/Object")] 63

/-- java/lang/CharSequence -/
def k4 : Class := { plain "java/lang/CharSequence" (some 0) with
  accessFlags := 1537
  interfaces := #[]
  cf := some (fileOf pool4 2 #[.nestMembers #[47, 59]] #[] 1537 66 #[] #[])
  fields := #[]
  methods := #[]
  instanceTypes := #[]
  staticTypes := #[]
  resolved := Array.replicate 131 none
  statics := none }

def pool5 : Array CpInfo := pool [(1, .class_ 2), (0, u "java/lang/constant/Constable"), (0, .class_ 4), (0, u "java/lang/Object")] 6

/-- java/lang/constant/Constable -/
def k5 : Class := { plain "java/lang/constant/Constable" (some 0) with
  accessFlags := 1537
  interfaces := #[]
  cf := some (fileOf pool5 1 #[] #[] 1537 3 #[] #[])
  fields := #[]
  methods := #[]
  instanceTypes := #[]
  staticTypes := #[]
  resolved := Array.replicate 11 none
  statics := none }

def pool6 : Array CpInfo := pool [(1, .class_ 2), (0, u "java/lang/constant/ConstantDesc"), (0, .class_ 4), (0, u "java/lang/Object")] 32

/-- java/lang/constant/ConstantDesc -/
def k6 : Class := { plain "java/lang/constant/ConstantDesc" (some 0) with
  accessFlags := 1537
  interfaces := #[]
  cf := some (fileOf pool6 1 #[] #[] 1537 3 #[] #[])
  fields := #[]
  methods := #[]
  instanceTypes := #[]
  staticTypes := #[]
  resolved := Array.replicate 37 none
  statics := none }

def pool7 : Array CpInfo := pool [(1, .methodref 2 3), (0, .class_ 4), (0, .nameAndType 5 6), (0, u "java/lang/Object"), (0, u "<init>"), (0, u "()V"), (2, .fieldref 10 11), (0, .class_ 12), (0, .nameAndType 13 14), (0, u "java/lang/String"), (0, u "value"), (0, u "[B"), (0, .fieldref 10 16), (0, .nameAndType 17 18), (0, u "coder"), (0, u "B"), (2, u "hash"), (0, u "I"), (2, u "hashIsZero"), (0, u "Z"), (0, .methodref 10 28), (0, .nameAndType 5 29), (0, u "([CIILjava/lang/Void;)V"), (8, .fieldref 10 39), (0, .nameAndType 40 26), (0, u "COMPACT_STRINGS"), (1, .class_ 44), (1, u "java/lang/StringUTF16"), (0, u "compress"), (1, .methodref 42 48), (0, .nameAndType 49 50), (0, u "coderFromArrayLen"), (0, u "([BI)B"), (56, .class_ 109), (1, u "java/lang/StringLatin1"), (32, u "()Z"), (34, .methodref 42 178), (0, .nameAndType 45 179), (0, u "([CII)[B"), (183, u "([BI)C"), (27, u "(II)V"), (35, u "(I)C"), (64, .methodref 10 493), (0, .nameAndType 494 142), (0, u "isLatin1"), (0, .methodref 107 496), (0, .nameAndType 497 363), (0, u "charAt"), (3, u "checkIndex"), (73, .class_ 576), (0, u "java/lang/CharSequence"), (22, u "CASE_INSENSITIVE_ORDER"), (0, u "Ljava/util/Comparator;"), (409, u "([C)V"), (42, .fieldref 1054 1055), (0, .class_ 1056), (0, .nameAndType 1057 1058), (0, u "jdk/internal/util/Preconditions"), (0, u "SIOOBE_FORMATTER"), (0, u "Ljava/util/function/BiFunction;"), (0, .methodref 1054 1060), (0, .nameAndType 501 1061), (0, u "(IILjava/util/function/BiFunction;)I"), (39, u "serialPersistentFields"), (0, u "[Ljava/io/ObjectStreamField;"), (0, .class_ 1104), (0, u "java/lang/String$CaseInsensitiveComparator"), (1, .class_ 1107), (0, u "java/io/Serializable"), (0, .class_ 1109), (0, u "java/lang/Comparable"), (0, .class_ 1111), (0, u "java/lang/constant/Constable"), (0, .class_ 1113), (0, u "java/lang/constant/ConstantDesc"), (2, u "serialVersionUID"), (0, u "J"), (3, u "REPL"), (0, u "C"), (2, u "LATIN1"), (1, u "UTF16")] 323

def k7m0 : Method := { name := "<init>", desc := "()V", sig := { parameters := [], returnType := none }, accessFlags := 1, code := none }
def k7c1 : Code := { maxStack := 5, maxLocals := 2, code := jdk_42_method_3_code, exceptionTable := #[], attributes := #[] }
def k7m1 : Method := { name := "<init>", desc := "([C)V", sig := { parameters := [(.array .char)], returnType := none }, accessFlags := 1, code := some k7c1 }
def k7c2 : Code := { maxStack := 2, maxLocals := 2, code := jdk_42_method_56_code, exceptionTable := #[], attributes := #[] }
def k7m2 : Method := { name := "charAt", desc := "(I)C", sig := { parameters := [.int], returnType := some .char }, accessFlags := 1, code := some k7c2 }
def k7c3 : Code := { maxStack := 4, maxLocals := 6, code := jdk_42_method_149_code, exceptionTable := #[], attributes := #[] }
def k7m3 : Method := { name := "<init>", desc := "([CIILjava/lang/Void;)V", sig := { parameters := [(.array .char), .int, .int, (.object "java/lang/Void")], returnType := none }, accessFlags := 2, code := some k7c3 }
def k7c4 : Code := { maxStack := 1, maxLocals := 1, code := jdk_42_method_154_code, exceptionTable := #[], attributes := #[] }
def k7m4 : Method := { name := "isLatin1", desc := "()Z", sig := { parameters := [], returnType := some .boolean }, accessFlags := 0, code := some k7c4 }
def k7c5 : Code := { maxStack := 3, maxLocals := 2, code := jdk_42_method_155_code, exceptionTable := #[], attributes := #[] }
def k7m5 : Method := { name := "checkIndex", desc := "(II)V", sig := { parameters := [.int, .int], returnType := none }, accessFlags := 8, code := some k7c5 }
/-- java/lang/String -/
def k7 : Class := { plain "java/lang/String" (some 0) with
  accessFlags := 49
  interfaces := #[2, 3, 4, 5, 6]
  cf := some (fileOf pool7 10 #[.nestMembers #[1103]] #[{ accessFlags := 1, nameIndex := 5, descriptorIndex := 6, attributes := #[] }, { accessFlags := 1, nameIndex := 5, descriptorIndex := 1010, attributes := #[] }, { accessFlags := 1, nameIndex := 497, descriptorIndex := 427, attributes := #[] }, { accessFlags := 2, nameIndex := 5, descriptorIndex := 29, attributes := #[] }, { accessFlags := 0, nameIndex := 494, descriptorIndex := 142, attributes := #[] }, { accessFlags := 8, nameIndex := 501, descriptorIndex := 391, attributes := #[] }] 49 2 #[1106, 1108, 575, 1110, 1112] #[{ accessFlags := 18, nameIndex := 13, descriptorIndex := 14, attributes := #[] }, { accessFlags := 18, nameIndex := 17, descriptorIndex := 18, attributes := #[] }, { accessFlags := 2, nameIndex := 21, descriptorIndex := 22, attributes := #[] }, { accessFlags := 2, nameIndex := 25, descriptorIndex := 26, attributes := #[] }, { accessFlags := 26, nameIndex := 1116, descriptorIndex := 1117, attributes := #[] }, { accessFlags := 24, nameIndex := 40, descriptorIndex := 26, attributes := #[] }, { accessFlags := 26, nameIndex := 1101, descriptorIndex := 1102, attributes := #[] }, { accessFlags := 26, nameIndex := 1121, descriptorIndex := 1122, attributes := #[] }, { accessFlags := 25, nameIndex := 599, descriptorIndex := 600, attributes := #[] }, { accessFlags := 24, nameIndex := 1125, descriptorIndex := 18, attributes := #[] }, { accessFlags := 24, nameIndex := 1127, descriptorIndex := 18, attributes := #[] }])
  fields := #[{ name := "value", type := (.array .byte), accessFlags := 18, slot := 0, constantValue := 0 }, { name := "coder", type := .byte, accessFlags := 18, slot := 1, constantValue := 0 }, { name := "hash", type := .int, accessFlags := 2, slot := 2, constantValue := 0 }, { name := "hashIsZero", type := .boolean, accessFlags := 2, slot := 3, constantValue := 0 }, { name := "serialVersionUID", type := .long, accessFlags := 26, slot := 0, constantValue := 0 }, { name := "COMPACT_STRINGS", type := .boolean, accessFlags := 24, slot := 1, constantValue := 0 }, { name := "serialPersistentFields", type := (.array (.object "java/io/ObjectStreamField")), accessFlags := 26, slot := 2, constantValue := 0 }, { name := "REPL", type := .char, accessFlags := 26, slot := 3, constantValue := 0 }, { name := "CASE_INSENSITIVE_ORDER", type := (.object "java/util/Comparator"), accessFlags := 25, slot := 4, constantValue := 0 }, { name := "LATIN1", type := .byte, accessFlags := 24, slot := 5, constantValue := 0 }, { name := "UTF16", type := .byte, accessFlags := 24, slot := 6, constantValue := 0 }]
  methods := #[k7m0, k7m1, k7m2, k7m3, k7m4, k7m5]
  instanceTypes := #[(.array .byte), .byte, .int, .boolean]
  staticTypes := #[.long, .boolean, (.array (.object "java/io/ObjectStreamField")), .char, (.object "java/util/Comparator"), .byte, .byte]
  resolved := Array.replicate 1451 none
  statics := some 0 }

def pool8 : Array CpInfo := pool [(6, .class_ 8), (1, u "java/lang/Object"), (0, u "<init>"), (0, u "()V"), (1, .class_ 14), (1, u "java/lang/StringUTF16"), (31, u "$assertionsDisabled"), (0, u "Z"), (13, u "HI_BYTE_SHIFT"), (0, u "I"), (2, u "LO_BYTE_SHIFT"), (49, .methodref 12 116), (0, .nameAndType 117 118), (0, u "compress"), (0, u "([CI[BII)I"), (3, u "([CII)[B"), (138, u "coderFromArrayLen"), (0, u "([BI)B"), (106, .class_ 371), (1, u "java/lang/StringUTF16$LinesSpliterator"), (58, u "MAX_LENGTH"), (196, .class_ 628), (0, u "java/lang/StringUTF16$CodePointsSpliterator"), (0, .class_ 630), (0, u "java/lang/StringUTF16$CharsSpliterator")] 4

def k8m0 : Method := { name := "<init>", desc := "()V", sig := { parameters := [], returnType := none }, accessFlags := 0, code := none }
def k8c1 : Code := { maxStack := 2, maxLocals := 2, code := jdk_52_method_15_code, exceptionTable := #[], attributes := #[] }
def k8m1 : Method := { name := "coderFromArrayLen", desc := "([BI)B", sig := { parameters := [(.array .byte), .int], returnType := some .byte }, accessFlags := 8, code := some k8c1 }
def k8c2 : Code := { maxStack := 5, maxLocals := 6, code := jdk_52_method_16_code, exceptionTable := #[], attributes := #[] }
def k8m2 : Method := { name := "compress", desc := "([CII)[B", sig := { parameters := [(.array .char), .int, .int], returnType := some (.array .byte) }, accessFlags := 9, code := some k8c2 }
def k8c3 : Code := { maxStack := 3, maxLocals := 7, code := jdk_52_method_21_code, exceptionTable := #[], attributes := #[] }
def k8m3 : Method := { name := "compress", desc := "([CI[BII)I", sig := { parameters := [(.array .char), .int, (.array .byte), .int, .int], returnType := some .int }, accessFlags := 9, code := some k8c3 }
/-- java/lang/StringUTF16 -/
def k8 : Class := { plain "java/lang/StringUTF16" (some 0) with
  accessFlags := 48
  interfaces := #[]
  cf := some (fileOf pool8 12 #[.nestMembers #[627, 629, 369]] #[{ accessFlags := 0, nameIndex := 9, descriptorIndex := 10, attributes := #[] }, { accessFlags := 8, nameIndex := 261, descriptorIndex := 262, attributes := #[] }, { accessFlags := 9, nameIndex := 117, descriptorIndex := 122, attributes := #[] }, { accessFlags := 9, nameIndex := 117, descriptorIndex := 118, attributes := #[] }] 48 6 #[] #[{ accessFlags := 26, nameIndex := 61, descriptorIndex := 62, attributes := #[] }, { accessFlags := 26, nameIndex := 65, descriptorIndex := 62, attributes := #[] }, { accessFlags := 24, nameIndex := 430, descriptorIndex := 62, attributes := #[] }, { accessFlags := 4120, nameIndex := 46, descriptorIndex := 47, attributes := #[] }])
  fields := #[{ name := "HI_BYTE_SHIFT", type := .int, accessFlags := 26, slot := 0, constantValue := 0 }, { name := "LO_BYTE_SHIFT", type := .int, accessFlags := 26, slot := 1, constantValue := 0 }, { name := "MAX_LENGTH", type := .int, accessFlags := 24, slot := 2, constantValue := 0 }, { name := "$assertionsDisabled", type := .boolean, accessFlags := 4120, slot := 3, constantValue := 0 }]
  methods := #[k8m0, k8m1, k8m2, k8m3]
  instanceTypes := #[]
  staticTypes := #[.int, .int, .int, .boolean]
  resolved := Array.replicate 635 none
  statics := none }

def pool9 : Array CpInfo := pool [(2, .class_ 4), (1, u "java/lang/Object"), (0, u "<init>"), (0, u "()V"), (0, .methodref 8 9), (0, .class_ 10), (0, .nameAndType 11 12), (0, u "java/lang/String"), (0, u "charAt"), (0, u "(I)C"), (0, .fieldref 14 15), (0, .class_ 16), (0, .nameAndType 17 18), (0, u "com/example/fundort/fundort/util/CharClass"), (0, u "DIGIT"), (0, u "Lcom/example/fundort/fundort/util/CharClass;"), (0, .methodref 14 20), (0, .nameAndType 21 22), (0, u "holds"), (0, u "(C)Z"), (0, .class_ 24), (0, u "com/example/fundort/fundort/util/Ipv4Address"), (2, u "firstFault"), (0, u "(Ljava/lang/String;II)I")] 3

def k9m0 : Method := { name := "<init>", desc := "()V", sig := { parameters := [], returnType := none }, accessFlags := 2, code := none }
def k9c1 : Code := { maxStack := 3, maxLocals := 7, code := prog_36_method_2_code, exceptionTable := #[], attributes := #[] }
def k9m1 : Method := { name := "firstFault", desc := "(Ljava/lang/String;II)I", sig := { parameters := [(.object "java/lang/String"), .int, .int], returnType := some .int }, accessFlags := 9, code := some k9c1 }
/-- com/example/fundort/fundort/util/Ipv4Address -/
def k9 : Class := { plain "com/example/fundort/fundort/util/Ipv4Address" (some 0) with
  accessFlags := 33
  interfaces := #[]
  cf := some (fileOf pool9 23 #[] #[{ accessFlags := 2, nameIndex := 5, descriptorIndex := 6, attributes := #[] }, { accessFlags := 9, nameIndex := 27, descriptorIndex := 28, attributes := #[] }] 33 2 #[] #[])
  fields := #[]
  methods := #[k9m0, k9m1]
  instanceTypes := #[]
  staticTypes := #[]
  resolved := Array.replicate 32 none
  statics := none }

def pool10 : Array CpInfo := pool [(2, .class_ 4), (1, u "java/lang/Enum"), (0, u "name"), (0, u "Ljava/lang/String;"), (2, u "ordinal"), (0, u "I"), (1, .class_ 14), (1, u "java/lang/Object"), (4, u "hash"), (86, .class_ 108), (1, u "java/lang/Enum$EnumDesc"), (2, .class_ 112), (0, u "java/lang/constant/Constable"), (0, .class_ 114), (0, u "java/lang/Comparable"), (0, .class_ 116), (0, u "java/io/Serializable")] 87

/-- java/lang/Enum -/
def k10 : Class := { plain "java/lang/Enum" (some 0) with
  accessFlags := 1057
  interfaces := #[5, 3, 2]
  cf := some (fileOf pool10 2 #[.nestMembers #[106]] #[] 1057 12 #[111, 113, 115] #[{ accessFlags := 18, nameIndex := 5, descriptorIndex := 6, attributes := #[] }, { accessFlags := 18, nameIndex := 9, descriptorIndex := 10, attributes := #[] }, { accessFlags := 2, nameIndex := 19, descriptorIndex := 10, attributes := #[] }])
  fields := #[{ name := "name", type := (.object "java/lang/String"), accessFlags := 18, slot := 0, constantValue := 0 }, { name := "ordinal", type := .int, accessFlags := 18, slot := 1, constantValue := 0 }, { name := "hash", type := .int, accessFlags := 2, slot := 2, constantValue := 0 }]
  methods := #[]
  instanceTypes := #[(.object "java/lang/String"), .int, .int]
  staticTypes := #[]
  resolved := Array.replicate 204 none
  statics := none }

def pool11 : Array CpInfo := pool [(1, .class_ 2), (0, u "com/example/fundort/fundort/util/CharClass"), (2, u "ALPHA"), (0, u "Lcom/example/fundort/fundort/util/CharClass;"), (2, u "DIGIT"), (2, u "HEXDIG"), (2, u "UNRESERVED"), (2, u "SCHEME"), (2, u "USERINFO"), (2, u "IPV_FUTURE"), (2, u "REG_NAME"), (2, u "PORT"), (2, u "PATH"), (2, u "QUERY"), (2, u "$VALUES"), (0, u "[Lcom/example/fundort/fundort/util/CharClass;"), (6, .class_ 49), (1, u "java/lang/Enum"), (6, .fieldref 1 57), (0, .nameAndType 58 59), (0, u "members"), (0, u "[Z"), (2, u "percentEncoded"), (0, u "Z"), (12, u "holds"), (0, u "(C)Z"), (7, .class_ 86), (0, u "com/example/fundort/fundort/util/CharClass$Sets")] 55

def k11c0 : Code := { maxStack := 2, maxLocals := 2, code := prog_34_method_4_code, exceptionTable := #[], attributes := #[] }
def k11m0 : Method := { name := "holds", desc := "(C)Z", sig := { parameters := [.char], returnType := some .boolean }, accessFlags := 1, code := some k11c0 }
/-- com/example/fundort/fundort/util/CharClass -/
def k11 : Class := { plain "com/example/fundort/fundort/util/CharClass" (some 10) with
  accessFlags := 16433
  interfaces := #[]
  cf := some (fileOf pool11 1 #[.nestMembers #[85]] #[{ accessFlags := 1, nameIndex := 76, descriptorIndex := 77, attributes := #[] }] 16433 47 #[] #[{ accessFlags := 16409, nameIndex := 5, descriptorIndex := 6, attributes := #[] }, { accessFlags := 16409, nameIndex := 9, descriptorIndex := 6, attributes := #[] }, { accessFlags := 16409, nameIndex := 12, descriptorIndex := 6, attributes := #[] }, { accessFlags := 16409, nameIndex := 15, descriptorIndex := 6, attributes := #[] }, { accessFlags := 16409, nameIndex := 18, descriptorIndex := 6, attributes := #[] }, { accessFlags := 16409, nameIndex := 21, descriptorIndex := 6, attributes := #[] }, { accessFlags := 16409, nameIndex := 24, descriptorIndex := 6, attributes := #[] }, { accessFlags := 16409, nameIndex := 27, descriptorIndex := 6, attributes := #[] }, { accessFlags := 16409, nameIndex := 30, descriptorIndex := 6, attributes := #[] }, { accessFlags := 16409, nameIndex := 33, descriptorIndex := 6, attributes := #[] }, { accessFlags := 16409, nameIndex := 36, descriptorIndex := 6, attributes := #[] }, { accessFlags := 18, nameIndex := 58, descriptorIndex := 59, attributes := #[] }, { accessFlags := 18, nameIndex := 62, descriptorIndex := 63, attributes := #[] }, { accessFlags := 4122, nameIndex := 39, descriptorIndex := 40, attributes := #[] }])
  fields := #[{ name := "ALPHA", type := (.object "com/example/fundort/fundort/util/CharClass"), accessFlags := 16409, slot := 0, constantValue := 0 }, { name := "DIGIT", type := (.object "com/example/fundort/fundort/util/CharClass"), accessFlags := 16409, slot := 1, constantValue := 0 }, { name := "HEXDIG", type := (.object "com/example/fundort/fundort/util/CharClass"), accessFlags := 16409, slot := 2, constantValue := 0 }, { name := "UNRESERVED", type := (.object "com/example/fundort/fundort/util/CharClass"), accessFlags := 16409, slot := 3, constantValue := 0 }, { name := "SCHEME", type := (.object "com/example/fundort/fundort/util/CharClass"), accessFlags := 16409, slot := 4, constantValue := 0 }, { name := "USERINFO", type := (.object "com/example/fundort/fundort/util/CharClass"), accessFlags := 16409, slot := 5, constantValue := 0 }, { name := "IPV_FUTURE", type := (.object "com/example/fundort/fundort/util/CharClass"), accessFlags := 16409, slot := 6, constantValue := 0 }, { name := "REG_NAME", type := (.object "com/example/fundort/fundort/util/CharClass"), accessFlags := 16409, slot := 7, constantValue := 0 }, { name := "PORT", type := (.object "com/example/fundort/fundort/util/CharClass"), accessFlags := 16409, slot := 8, constantValue := 0 }, { name := "PATH", type := (.object "com/example/fundort/fundort/util/CharClass"), accessFlags := 16409, slot := 9, constantValue := 0 }, { name := "QUERY", type := (.object "com/example/fundort/fundort/util/CharClass"), accessFlags := 16409, slot := 10, constantValue := 0 }, { name := "members", type := (.array .boolean), accessFlags := 18, slot := 3, constantValue := 0 }, { name := "percentEncoded", type := .boolean, accessFlags := 18, slot := 4, constantValue := 0 }, { name := "$VALUES", type := (.array (.object "com/example/fundort/fundort/util/CharClass")), accessFlags := 4122, slot := 11, constantValue := 0 }]
  methods := #[k11m0]
  instanceTypes := #[(.object "java/lang/String"), .int, .int, (.array .boolean), .boolean]
  staticTypes := #[(.object "com/example/fundort/fundort/util/CharClass"), (.object "com/example/fundort/fundort/util/CharClass"), (.object "com/example/fundort/fundort/util/CharClass"), (.object "com/example/fundort/fundort/util/CharClass"), (.object "com/example/fundort/fundort/util/CharClass"), (.object "com/example/fundort/fundort/util/CharClass"), (.object "com/example/fundort/fundort/util/CharClass"), (.object "com/example/fundort/fundort/util/CharClass"), (.object "com/example/fundort/fundort/util/CharClass"), (.object "com/example/fundort/fundort/util/CharClass"), (.object "com/example/fundort/fundort/util/CharClass"), (.array (.object "com/example/fundort/fundort/util/CharClass"))]
  resolved := Array.replicate 142 none
  statics := some 1 }

def pool12 : Array CpInfo := pool [(1, .class_ 2), (0, u "java/lang/String"), (1, .class_ 6), (1, u "java/lang/Object"), (0, u "<init>"), (0, u "()V"), (0, .methodref 1 10), (0, .nameAndType 11 12), (0, u "checkIndex"), (0, u "(II)V"), (1, .class_ 16), (1, u "java/lang/StringLatin1"), (36, u "([BI)C"), (67, u "$assertionsDisabled"), (0, u "Z"), (98, .class_ 223), (1, u "java/lang/StringLatin1$LinesSpliterator"), (28, u "charAt"), (137, .class_ 391), (0, u "java/lang/StringLatin1$CharsSpliterator")] 3

def k12m0 : Method := { name := "<init>", desc := "()V", sig := { parameters := [], returnType := none }, accessFlags := 0, code := none }
def k12c1 : Code := { maxStack := 2, maxLocals := 2, code := jdk_43_method_2_code, exceptionTable := #[], attributes := #[] }
def k12m1 : Method := { name := "charAt", desc := "([BI)C", sig := { parameters := [(.array .byte), .int], returnType := some .char }, accessFlags := 9, code := some k12c1 }
/-- java/lang/StringLatin1 -/
def k12 : Class := { plain "java/lang/StringLatin1" (some 0) with
  accessFlags := 48
  interfaces := #[]
  cf := some (fileOf pool12 14 #[.nestMembers #[390, 221]] #[{ accessFlags := 0, nameIndex := 7, descriptorIndex := 8, attributes := #[] }, { accessFlags := 9, nameIndex := 252, descriptorIndex := 53, attributes := #[] }] 48 4 #[] #[{ accessFlags := 4120, nameIndex := 121, descriptorIndex := 122, attributes := #[] }])
  fields := #[{ name := "$assertionsDisabled", type := .boolean, accessFlags := 4120, slot := 0, constantValue := 0 }]
  methods := #[k12m0, k12m1]
  instanceTypes := #[]
  staticTypes := #[.boolean]
  resolved := Array.replicate 395 none
  statics := none }

def pool13 : Array CpInfo := pool [(2, .class_ 4), (1, u "java/lang/Object"), (0, u "<init>"), (0, u "()V"), (17, .class_ 26), (1, u "jdk/internal/util/Preconditions"), (6, u "checkIndex"), (21, .class_ 56), (0, u "jdk/internal/util/Preconditions$4"), (57, .class_ 115), (0, u "jdk/internal/util/Preconditions$1"), (7, u "SIOOBE_FORMATTER"), (0, u "Ljava/util/function/BiFunction;"), (0, .class_ 126), (0, u "jdk/internal/util/Preconditions$2"), (3, u "AIOOBE_FORMATTER"), (0, .class_ 132), (0, u "jdk/internal/util/Preconditions$3"), (3, u "IOOBE_FORMATTER"), (41, u "(IILjava/util/function/BiFunction;)I")] 15

def k13m0 : Method := { name := "<init>", desc := "()V", sig := { parameters := [], returnType := none }, accessFlags := 1, code := none }
def k13c1 : Code := { maxStack := 3, maxLocals := 3, code := jdk_41_method_11_code, exceptionTable := #[], attributes := #[] }
def k13m1 : Method := { name := "checkIndex", desc := "(IILjava/util/function/BiFunction;)I", sig := { parameters := [.int, .int, (.object "java/util/function/BiFunction")], returnType := some .int }, accessFlags := 9, code := some k13c1 }
/-- jdk/internal/util/Preconditions -/
def k13 : Class := { plain "jdk/internal/util/Preconditions" (some 0) with
  accessFlags := 33
  interfaces := #[]
  cf := some (fileOf pool13 24 #[.nestMembers #[55, 131, 125, 114]] #[{ accessFlags := 1, nameIndex := 5, descriptorIndex := 6, attributes := #[] }, { accessFlags := 9, nameIndex := 33, descriptorIndex := 178, attributes := #[] }] 33 2 #[] #[{ accessFlags := 25, nameIndex := 123, descriptorIndex := 124, attributes := #[] }, { accessFlags := 25, nameIndex := 130, descriptorIndex := 124, attributes := #[] }, { accessFlags := 25, nameIndex := 136, descriptorIndex := 124, attributes := #[] }])
  fields := #[{ name := "SIOOBE_FORMATTER", type := (.object "java/util/function/BiFunction"), accessFlags := 25, slot := 0, constantValue := 0 }, { name := "AIOOBE_FORMATTER", type := (.object "java/util/function/BiFunction"), accessFlags := 25, slot := 1, constantValue := 0 }, { name := "IOOBE_FORMATTER", type := (.object "java/util/function/BiFunction"), accessFlags := 25, slot := 2, constantValue := 0 }]
  methods := #[k13m0, k13m1]
  instanceTypes := #[]
  staticTypes := #[(.object "java/util/function/BiFunction"), (.object "java/util/function/BiFunction"), (.object "java/util/function/BiFunction")]
  resolved := Array.replicate 194 none
  statics := some 2 }

def pool14 : Array CpInfo := pool [(1, .class_ 2), (0, u "java/lang/Math"), (1, .class_ 6), (1, u "java/lang/Object"), (0, u "<init>"), (0, u "()V"), (89, .class_ 100), (1, u "java/lang/Math$RandomNumberGeneratorHolder"), (71, u "negativeZeroFloatBits"), (0, u "J"), (2, u "negativeZeroDoubleBits"), (24, u "min"), (43, u "$assertionsDisabled"), (0, u "Z"), (88, u "(II)I"), (2, u "twoToTheDoubleScaleDown"), (0, u "D"), (4, u "twoToTheDoubleScaleUp"), (9, u "E"), (3, u "PI"), (2, u "TAU"), (2, u "DEGREES_TO_RADIANS"), (0, u "RADIANS_TO_DEGREES")] 94

def k14m0 : Method := { name := "<init>", desc := "()V", sig := { parameters := [], returnType := none }, accessFlags := 2, code := none }
def k14c1 : Code := { maxStack := 2, maxLocals := 2, code := jdk_29_method_69_code, exceptionTable := #[], attributes := #[] }
def k14m1 : Method := { name := "min", desc := "(II)I", sig := { parameters := [.int, .int], returnType := some .int }, accessFlags := 9, code := some k14c1 }
/-- java/lang/Math -/
def k14 : Class := { plain "java/lang/Math" (some 0) with
  accessFlags := 49
  interfaces := #[]
  cf := some (fileOf pool14 1 #[.nestMembers #[98]] #[{ accessFlags := 2, nameIndex := 7, descriptorIndex := 8, attributes := #[] }, { accessFlags := 9, nameIndex := 201, descriptorIndex := 335, attributes := #[] }] 49 4 #[] #[{ accessFlags := 25, nameIndex := 354, descriptorIndex := 339, attributes := #[] }, { accessFlags := 25, nameIndex := 358, descriptorIndex := 339, attributes := #[] }, { accessFlags := 25, nameIndex := 361, descriptorIndex := 339, attributes := #[] }, { accessFlags := 26, nameIndex := 364, descriptorIndex := 339, attributes := #[] }, { accessFlags := 26, nameIndex := 365, descriptorIndex := 339, attributes := #[] }, { accessFlags := 26, nameIndex := 172, descriptorIndex := 173, attributes := #[] }, { accessFlags := 26, nameIndex := 176, descriptorIndex := 173, attributes := #[] }, { accessFlags := 8, nameIndex := 344, descriptorIndex := 339, attributes := #[] }, { accessFlags := 8, nameIndex := 338, descriptorIndex := 339, attributes := #[] }, { accessFlags := 4120, nameIndex := 245, descriptorIndex := 246, attributes := #[] }])
  fields := #[{ name := "E", type := .double, accessFlags := 25, slot := 0, constantValue := 0 }, { name := "PI", type := .double, accessFlags := 25, slot := 1, constantValue := 0 }, { name := "TAU", type := .double, accessFlags := 25, slot := 2, constantValue := 0 }, { name := "DEGREES_TO_RADIANS", type := .double, accessFlags := 26, slot := 3, constantValue := 0 }, { name := "RADIANS_TO_DEGREES", type := .double, accessFlags := 26, slot := 4, constantValue := 0 }, { name := "negativeZeroFloatBits", type := .long, accessFlags := 26, slot := 5, constantValue := 0 }, { name := "negativeZeroDoubleBits", type := .long, accessFlags := 26, slot := 6, constantValue := 0 }, { name := "twoToTheDoubleScaleUp", type := .double, accessFlags := 8, slot := 7, constantValue := 0 }, { name := "twoToTheDoubleScaleDown", type := .double, accessFlags := 8, slot := 8, constantValue := 0 }, { name := "$assertionsDisabled", type := .boolean, accessFlags := 4120, slot := 9, constantValue := 0 }]
  methods := #[k14m0, k14m1]
  instanceTypes := #[]
  staticTypes := #[.double, .double, .double, .double, .double, .long, .long, .double, .double, .boolean]
  resolved := Array.replicate 460 none
  statics := none }

def pool15 : Array CpInfo := pool [(9, u "<init>"), (6, .class_ 18), (1, u "java/lang/Object"), (0, u "()V"), (1, .class_ 23), (1, u "jdk/internal/util/ArraysSupport"), (0, u "LOG2_ARRAY_LONG_INDEX_SCALE"), (0, u "I"), (2, u "U"), (0, u "Ljdk/internal/misc/Unsafe;"), (8, u "BIG_ENDIAN"), (0, u "Z"), (8, u "LOG2_BYTE_BIT_SIZE"), (4, u "LOG2_ARRAY_INT_INDEX_SCALE"), (54, u "JLA"), (0, u "Ljdk/internal/access/JavaLangAccess;"), (11, u "LOG2_ARRAY_BOOLEAN_INDEX_SCALE"), (9, u "LOG2_ARRAY_BYTE_INDEX_SCALE"), (5, u "LOG2_ARRAY_CHAR_INDEX_SCALE"), (5, u "LOG2_ARRAY_SHORT_INDEX_SCALE"), (18, u "LOG2_ARRAY_FLOAT_INDEX_SCALE"), (24, u "LOG2_ARRAY_DOUBLE_INDEX_SCALE"), (89, u "T_BOOLEAN"), (2, u "T_CHAR"), (1, u "T_FLOAT"), (1, u "T_DOUBLE"), (1, u "T_BYTE"), (1, u "T_SHORT"), (1, u "T_INT"), (1, u "T_LONG"), (1, u "SOFT_MAX_ARRAY_LENGTH")] 83

def k15m0 : Method := { name := "<init>", desc := "()V", sig := { parameters := [], returnType := none }, accessFlags := 2, code := none }
/-- jdk/internal/util/ArraysSupport -/
def k15 : Class := { plain "jdk/internal/util/ArraysSupport" (some 0) with
  accessFlags := 33
  interfaces := #[]
  cf := some (fileOf pool15 21 #[] #[{ accessFlags := 2, nameIndex := 9, descriptorIndex := 19, attributes := #[] }] 33 16 #[] #[{ accessFlags := 24, nameIndex := 28, descriptorIndex := 29, attributes := #[] }, { accessFlags := 26, nameIndex := 38, descriptorIndex := 39, attributes := #[] }, { accessFlags := 25, nameIndex := 121, descriptorIndex := 25, attributes := #[] }, { accessFlags := 25, nameIndex := 131, descriptorIndex := 25, attributes := #[] }, { accessFlags := 25, nameIndex := 137, descriptorIndex := 25, attributes := #[] }, { accessFlags := 25, nameIndex := 143, descriptorIndex := 25, attributes := #[] }, { accessFlags := 25, nameIndex := 53, descriptorIndex := 25, attributes := #[] }, { accessFlags := 25, nameIndex := 24, descriptorIndex := 25, attributes := #[] }, { accessFlags := 25, nameIndex := 162, descriptorIndex := 25, attributes := #[] }, { accessFlags := 25, nameIndex := 187, descriptorIndex := 25, attributes := #[] }, { accessFlags := 26, nameIndex := 48, descriptorIndex := 25, attributes := #[] }, { accessFlags := 25, nameIndex := 277, descriptorIndex := 25, attributes := #[] }, { accessFlags := 25, nameIndex := 280, descriptorIndex := 25, attributes := #[] }, { accessFlags := 25, nameIndex := 282, descriptorIndex := 25, attributes := #[] }, { accessFlags := 25, nameIndex := 284, descriptorIndex := 25, attributes := #[] }, { accessFlags := 25, nameIndex := 286, descriptorIndex := 25, attributes := #[] }, { accessFlags := 25, nameIndex := 288, descriptorIndex := 25, attributes := #[] }, { accessFlags := 25, nameIndex := 290, descriptorIndex := 25, attributes := #[] }, { accessFlags := 25, nameIndex := 292, descriptorIndex := 25, attributes := #[] }, { accessFlags := 26, nameIndex := 108, descriptorIndex := 109, attributes := #[] }, { accessFlags := 25, nameIndex := 294, descriptorIndex := 25, attributes := #[] }])
  fields := #[{ name := "U", type := (.object "jdk/internal/misc/Unsafe"), accessFlags := 24, slot := 0, constantValue := 0 }, { name := "BIG_ENDIAN", type := .boolean, accessFlags := 26, slot := 1, constantValue := 0 }, { name := "LOG2_ARRAY_BOOLEAN_INDEX_SCALE", type := .int, accessFlags := 25, slot := 2, constantValue := 0 }, { name := "LOG2_ARRAY_BYTE_INDEX_SCALE", type := .int, accessFlags := 25, slot := 3, constantValue := 0 }, { name := "LOG2_ARRAY_CHAR_INDEX_SCALE", type := .int, accessFlags := 25, slot := 4, constantValue := 0 }, { name := "LOG2_ARRAY_SHORT_INDEX_SCALE", type := .int, accessFlags := 25, slot := 5, constantValue := 0 }, { name := "LOG2_ARRAY_INT_INDEX_SCALE", type := .int, accessFlags := 25, slot := 6, constantValue := 0 }, { name := "LOG2_ARRAY_LONG_INDEX_SCALE", type := .int, accessFlags := 25, slot := 7, constantValue := 0 }, { name := "LOG2_ARRAY_FLOAT_INDEX_SCALE", type := .int, accessFlags := 25, slot := 8, constantValue := 0 }, { name := "LOG2_ARRAY_DOUBLE_INDEX_SCALE", type := .int, accessFlags := 25, slot := 9, constantValue := 0 }, { name := "LOG2_BYTE_BIT_SIZE", type := .int, accessFlags := 26, slot := 10, constantValue := 0 }, { name := "T_BOOLEAN", type := .int, accessFlags := 25, slot := 11, constantValue := 0 }, { name := "T_CHAR", type := .int, accessFlags := 25, slot := 12, constantValue := 0 }, { name := "T_FLOAT", type := .int, accessFlags := 25, slot := 13, constantValue := 0 }, { name := "T_DOUBLE", type := .int, accessFlags := 25, slot := 14, constantValue := 0 }, { name := "T_BYTE", type := .int, accessFlags := 25, slot := 15, constantValue := 0 }, { name := "T_SHORT", type := .int, accessFlags := 25, slot := 16, constantValue := 0 }, { name := "T_INT", type := .int, accessFlags := 25, slot := 17, constantValue := 0 }, { name := "T_LONG", type := .int, accessFlags := 25, slot := 18, constantValue := 0 }, { name := "JLA", type := (.object "jdk/internal/access/JavaLangAccess"), accessFlags := 26, slot := 19, constantValue := 0 }, { name := "SOFT_MAX_ARRAY_LENGTH", type := .int, accessFlags := 25, slot := 20, constantValue := 0 }]
  methods := #[k15m0]
  instanceTypes := #[]
  staticTypes := #[(.object "jdk/internal/misc/Unsafe"), .boolean, .int, .int, .int, .int, .int, .int, .int, .int, .int, .int, .int, .int, .int, .int, .int, .int, .int, (.object "jdk/internal/access/JavaLangAccess"), .int]
  resolved := Array.replicate 378 none
  statics := none }

def pool16 : Array CpInfo := pool [(1, u "java/lang/Cloneable"), (0, .class_ 1), (0, u "java/lang/Object"), (0, .class_ 3)] 3

/-- java/lang/Cloneable -/
def k16 : Class := { plain "java/lang/Cloneable" (some 0) with
  accessFlags := 1537
  interfaces := #[]
  cf := some (fileOf pool16 2 #[] #[] 1537 4 #[] #[])
  fields := #[]
  methods := #[]
  instanceTypes := #[]
  staticTypes := #[]
  resolved := Array.replicate 8 none
  statics := none }

/-- the primitive boolean -/
def k17 : Class := { plain "boolean" none with kind := .primitive 'Z', accessFlags := 0x411 }
/-- [Z -/
def k18 : Class := { plain "[Z" (some 0) with kind := .array 17 .boolean, interfaces := #[16, 2], accessFlags := 1041 }

/-- the primitive byte -/
def k19 : Class := { plain "byte" none with kind := .primitive 'B', accessFlags := 0x411 }
/-- [B -/
def k20 : Class := { plain "[B" (some 0) with kind := .array 19 .byte, interfaces := #[16, 2], accessFlags := 1041 }

/-- the primitive char -/
def k21 : Class := { plain "char" none with kind := .primitive 'C', accessFlags := 0x411 }
/-- [C -/
def k22 : Class := { plain "[C" (some 0) with kind := .array 21 .char, interfaces := #[16, 2], accessFlags := 1041 }

/-- the primitive int -/
def k23 : Class := { plain "int" none with kind := .primitive 'I', accessFlags := 0x411 }
/-- [I -/
def k24 : Class := { plain "[I" (some 0) with kind := .array 23 .int, interfaces := #[16, 2], accessFlags := 1041 }

def heap : Heap := #[{ cls := 7, slots := #[.long 0, .int 1, .null, .int 0, .null, .int 0, .int 0], vm := .statics 7 },
  { cls := 11, slots := #[.null, .ref 3, .null, .null, .null, .null, .null, .null, .null, .null, .null, .null], vm := .statics 11 },
  { cls := 13, slots := #[.null, .null, .null], vm := .statics 13 },
  { cls := 11, slots := #[.null, .int 0, .int 0, .ref 4, .int 0], vm := .none },
  { cls := 18, slots := #[.int 0, .int 0, .int 0, .int 0, .int 0, .int 0, .int 0, .int 0, .int 0, .int 0, .int 0, .int 0, .int 0, .int 0, .int 0, .int 0, .int 0, .int 0, .int 0, .int 0, .int 0, .int 0, .int 0, .int 0, .int 0, .int 0, .int 0, .int 0, .int 0, .int 0, .int 0, .int 0, .int 0, .int 0, .int 0, .int 0, .int 0, .int 0, .int 0, .int 0, .int 0, .int 0, .int 0, .int 0, .int 0, .int 0, .int 0, .int 0, .int 1, .int 1, .int 1, .int 1, .int 1, .int 1, .int 1, .int 1, .int 1, .int 1, .int 0, .int 0, .int 0, .int 0, .int 0, .int 0, .int 0, .int 0, .int 0, .int 0, .int 0, .int 0, .int 0, .int 0, .int 0, .int 0, .int 0, .int 0, .int 0, .int 0, .int 0, .int 0, .int 0, .int 0, .int 0, .int 0, .int 0, .int 0, .int 0, .int 0, .int 0, .int 0, .int 0, .int 0, .int 0, .int 0, .int 0, .int 0, .int 0, .int 0, .int 0, .int 0, .int 0, .int 0, .int 0, .int 0, .int 0, .int 0, .int 0, .int 0, .int 0, .int 0, .int 0, .int 0, .int 0, .int 0, .int 0, .int 0, .int 0, .int 0, .int 0, .int 0, .int 0, .int 0, .int 0, .int 0, .int 0, .int 0, .int 0, .int 0], vm := .none }]
def classes : Array Class := #[k0, k1, k2, k3, k4, k5, k6, k7, k8, k9, k10, k11, k12, k13, k14, k15, k16, k17, k18, k19, k20, k21, k22, k23, k24]
def interned : List (Array UInt16 × Addr) := []
def slotsUsed : Nat := 155
def theMethod : MethodId := ⟨1, 1⟩
def args0 : Array Value := #[.int 1, .int 2, .int 3, .int 4, .int 5]
def aboutOver (below : List Frame) : State where
  vm := { classes := classes, interned := interned.toArray }
  heap := heap
  slotsUsed := slotsUsed
  threads := #[{ frames := .invoking theMethod args0 :: below }]
def below0 : List Frame := [.native { method := ⟨0, 0⟩, args := #[] }]
def about1 : State := aboutOver below0
def p0 : Program := .bare "" "" ""
def e0 : Env := launch0.env 0 0 0
theorem w_frames : about1.frames = Frame.invoking theMethod args0 :: below0 := rfl
set_option maxRecDepth 65536 in
theorem w_args : argsFit about1.vm theMethod args0 = true := by decide +kernel
set_option maxRecDepth 65536 in
theorem w_heap : heapFits about1 = true := by decide +kernel
set_option maxRecDepth 65536 in
theorem w_runnable : about1.curStatus? = some .runnable := by decide +kernel
set_option maxRecDepth 65536 in
theorem w_alone : about1.alone = true := by decide +kernel
set_option maxRecDepth 65536 in
theorem w_named : about1.methodNamed? x = some theMethod := by decide +kernel
set_option maxRecDepth 65536 in
theorem w_hears : about1.hears theMethod below0 = true := by decide +kernel
set_option maxRecDepth 65536 in
theorem w_ripe : about1.ripe theMethod args0 below0 = true := by decide +kernel
theorem w_running : about1.status = .running := rfl
set_option maxRecDepth 65536 in
theorem w_room : about1.hasRoom e0.platform room_1 = true :=
  launch0.hasRoom_least _ room_1 (by decide +kernel) (by decide +kernel) (by decide +kernel) (by decide +kernel) (by decide +kernel) (by decide +kernel)
theorem allAtoms_all (ts : List Jvm.Cond) (a : Array Jvm.Value) (st : Jvm.State) : (allAtoms ts).before a st = ts.all (fun c => c.before a st) := by
  induction ts with
  | nil => rfl
  | cons c t ih =>
    show (Jvm.Cond.and c (allAtoms t)).before a st = _
    rw [Jvm.Cond.before_and, ih, List.all_cons]
def words1 : List Jvm.Cond := Jvm.Cond.code x code maxLocals ret :: tables_1
/-- a 'code' word, met by the world's own term for the bytes: nothing is compared byte by byte -/
theorem code_word {y : MethodName} {bytes : ByteArray} {mx : Nat} {rt : Option FieldType} {a : Array Value} {s : State} {m : MethodId} {meth : Method} {c : Code} (h1 : s.methodNamed? y = some m) (h2 : s.vm.method? m = some meth) (h3 : meth.code = some c) (h4 : c.code = bytes)
    (h5 : (c.maxLocals == mx && c.exceptionTable.isEmpty && decide (c.maxStack ≤ mostOperands) && decide (meth.sig.returnType = rt) && !meth.locks && decide (parseMethodDescriptor y.desc = some meth.sig)) = true) : (Jvm.Cond.code y bytes mx rt).before a s = true := by
  simp only [Bool.and_eq_true, beq_iff_eq, Bool.not_eq_true', decide_eq_true_eq] at h5
  obtain ⟨⟨⟨⟨⟨g1, g2⟩, g3⟩, g4⟩, g5⟩, g6⟩ := h5
  simp [Cond.before, Cond.holds, Cond.value, h1, h2, h3, h4, g1, g2, g3, g4, g5, g6]
def isCode : Jvm.Cond → Bool
  | .code _ _ _ _ => true
  | _ => false
theorem all_split {L : List Jvm.Cond} {P : Jvm.Cond → Bool} (h1 : L.all (fun c => isCode c || P c) = true) (h2 : ∀ c ∈ L.filter isCode, P c = true) : L.all P = true := by
  refine List.all_eq_true.mpr fun c hc => ?_
  have h := List.all_eq_true.mp h1 c hc
  rcases Bool.eq_false_or_eq_true (isCode c) with hi | hi
  · exact h2 c (List.mem_filter.mpr ⟨hc, hi⟩)
  · simpa [hi] using h
set_option maxRecDepth 65536 in
theorem w_c0 : (Jvm.Cond.code x code maxLocals ret).before args0 about1 = true := code_word (m := ⟨1, 1⟩) (meth := k1m1) (c := k1c1) (by decide +kernel) rfl rfl rfl (by decide +kernel)
set_option maxRecDepth 65536 in
theorem w_c1 : (Jvm.Cond.code ({ cls := "com/example/fundort/fundort/util/Ipv4AddressFirstFaultPinLaw", name := "isDigit", desc := "(C)Z" } : Jvm.MethodName) method_3_code (1 : Nat) (Option.some Jvm.ClassFile.FieldType.boolean)).before args0 about1 = true := code_word (m := ⟨1, 2⟩) (meth := k1m2) (c := k1c2) (by decide +kernel) rfl rfl rfl (by decide +kernel)
set_option maxRecDepth 65536 in
theorem w_c2 : (Jvm.Cond.code ({ cls := "com/example/fundort/fundort/util/Ipv4AddressFirstFaultPinLaw", name := "putToken", desc := "([CIIIIII)I" } : Jvm.MethodName) method_5_code (9 : Nat) (Option.some Jvm.ClassFile.FieldType.int)).before args0 about1 = true := code_word (m := ⟨1, 4⟩) (meth := k1m4) (c := k1c4) (by decide +kernel) rfl rfl rfl (by decide +kernel)
set_option maxRecDepth 65536 in
theorem w_c3 : (Jvm.Cond.code ({ cls := "com/example/fundort/fundort/util/Ipv4AddressFirstFaultPinLaw", name := "digitValue", desc := "(II)I" } : Jvm.MethodName) method_4_code (2 : Nat) (Option.some Jvm.ClassFile.FieldType.int)).before args0 about1 = true := code_word (m := ⟨1, 3⟩) (meth := k1m3) (c := k1c3) (by decide +kernel) rfl rfl rfl (by decide +kernel)
set_option maxRecDepth 65536 in
theorem w_c4 : (Jvm.Cond.code ({ cls := "java/lang/String", name := "<init>", desc := "([C)V" } : Jvm.MethodName) jdk_42_method_3_code (2 : Nat) (Option.none : Option Jvm.ClassFile.FieldType)).before args0 about1 = true := code_word (m := ⟨7, 1⟩) (meth := k7m1) (c := k7c1) (by decide +kernel) rfl rfl rfl (by decide +kernel)
set_option maxRecDepth 65536 in
theorem w_c5 : (Jvm.Cond.code ({ cls := "java/lang/String", name := "<init>", desc := "([CIILjava/lang/Void;)V" } : Jvm.MethodName) jdk_42_method_149_code (6 : Nat) (Option.none : Option Jvm.ClassFile.FieldType)).before args0 about1 = true := code_word (m := ⟨7, 3⟩) (meth := k7m3) (c := k7c3) (by decide +kernel) rfl rfl rfl (by decide +kernel)
set_option maxRecDepth 65536 in
theorem w_c6 : (Jvm.Cond.code ({ cls := "java/lang/Object", name := "<init>", desc := "()V" } : Jvm.MethodName) object_method_1_code (1 : Nat) (Option.none : Option Jvm.ClassFile.FieldType)).before args0 about1 = true := code_word (m := ⟨0, 0⟩) (meth := k0m0) (c := k0c0) (by decide +kernel) rfl rfl rfl (by decide +kernel)
set_option maxRecDepth 65536 in
theorem w_c7 : (Jvm.Cond.code ({ cls := "java/lang/StringUTF16", name := "compress", desc := "([CII)[B" } : Jvm.MethodName) jdk_52_method_16_code (6 : Nat) (Option.some (Jvm.ClassFile.FieldType.array Jvm.ClassFile.FieldType.byte))).before args0 about1 = true := code_word (m := ⟨8, 2⟩) (meth := k8m2) (c := k8c2) (by decide +kernel) rfl rfl rfl (by decide +kernel)
set_option maxRecDepth 65536 in
theorem w_c8 : (Jvm.Cond.code ({ cls := "java/lang/StringUTF16", name := "compress", desc := "([CI[BII)I" } : Jvm.MethodName) jdk_52_method_21_code (7 : Nat) (Option.some Jvm.ClassFile.FieldType.int)).before args0 about1 = true := code_word (m := ⟨8, 3⟩) (meth := k8m3) (c := k8c3) (by decide +kernel) rfl rfl rfl (by decide +kernel)
set_option maxRecDepth 65536 in
theorem w_c9 : (Jvm.Cond.code ({ cls := "java/lang/StringUTF16", name := "coderFromArrayLen", desc := "([BI)B" } : Jvm.MethodName) jdk_52_method_15_code (2 : Nat) (Option.some Jvm.ClassFile.FieldType.byte)).before args0 about1 = true := code_word (m := ⟨8, 1⟩) (meth := k8m1) (c := k8c1) (by decide +kernel) rfl rfl rfl (by decide +kernel)
set_option maxRecDepth 65536 in
theorem w_c10 : (Jvm.Cond.code ({ cls := "com/example/fundort/fundort/util/Ipv4Address", name := "firstFault", desc := "(Ljava/lang/String;II)I" } : Jvm.MethodName) prog_36_method_2_code (7 : Nat) (Option.some Jvm.ClassFile.FieldType.int)).before args0 about1 = true := code_word (m := ⟨9, 1⟩) (meth := k9m1) (c := k9c1) (by decide +kernel) rfl rfl rfl (by decide +kernel)
set_option maxRecDepth 65536 in
theorem w_c11 : (Jvm.Cond.code ({ cls := "java/lang/String", name := "charAt", desc := "(I)C" } : Jvm.MethodName) jdk_42_method_56_code (2 : Nat) (Option.some Jvm.ClassFile.FieldType.char)).before args0 about1 = true := code_word (m := ⟨7, 2⟩) (meth := k7m2) (c := k7c2) (by decide +kernel) rfl rfl rfl (by decide +kernel)
set_option maxRecDepth 65536 in
theorem w_c12 : (Jvm.Cond.code ({ cls := "java/lang/String", name := "isLatin1", desc := "()Z" } : Jvm.MethodName) jdk_42_method_154_code (1 : Nat) (Option.some Jvm.ClassFile.FieldType.boolean)).before args0 about1 = true := code_word (m := ⟨7, 4⟩) (meth := k7m4) (c := k7c4) (by decide +kernel) rfl rfl rfl (by decide +kernel)
set_option maxRecDepth 65536 in
theorem w_c13 : (Jvm.Cond.code ({ cls := "java/lang/StringLatin1", name := "charAt", desc := "([BI)C" } : Jvm.MethodName) jdk_43_method_2_code (2 : Nat) (Option.some Jvm.ClassFile.FieldType.char)).before args0 about1 = true := code_word (m := ⟨12, 1⟩) (meth := k12m1) (c := k12c1) (by decide +kernel) rfl rfl rfl (by decide +kernel)
set_option maxRecDepth 65536 in
theorem w_c14 : (Jvm.Cond.code ({ cls := "java/lang/String", name := "checkIndex", desc := "(II)V" } : Jvm.MethodName) jdk_42_method_155_code (2 : Nat) (Option.none : Option Jvm.ClassFile.FieldType)).before args0 about1 = true := code_word (m := ⟨7, 5⟩) (meth := k7m5) (c := k7c5) (by decide +kernel) rfl rfl rfl (by decide +kernel)
set_option maxRecDepth 65536 in
theorem w_c15 : (Jvm.Cond.code ({ cls := "jdk/internal/util/Preconditions", name := "checkIndex", desc := "(IILjava/util/function/BiFunction;)I" } : Jvm.MethodName) jdk_41_method_11_code (3 : Nat) (Option.some Jvm.ClassFile.FieldType.int)).before args0 about1 = true := code_word (m := ⟨13, 1⟩) (meth := k13m1) (c := k13c1) (by decide +kernel) rfl rfl rfl (by decide +kernel)
set_option maxRecDepth 65536 in
theorem w_c16 : (Jvm.Cond.code ({ cls := "com/example/fundort/fundort/util/CharClass", name := "holds", desc := "(C)Z" } : Jvm.MethodName) prog_34_method_4_code (2 : Nat) (Option.some Jvm.ClassFile.FieldType.boolean)).before args0 about1 = true := code_word (m := ⟨11, 0⟩) (meth := k11m0) (c := k11c0) (by decide +kernel) rfl rfl rfl (by decide +kernel)
set_option maxRecDepth 65536 in
theorem w_c17 : (Jvm.Cond.code ({ cls := "com/example/fundort/fundort/util/Ipv4AddressFirstFaultPinLaw", name := "specialFault", desc := "(II)I" } : Jvm.MethodName) method_6_code (5 : Nat) (Option.some Jvm.ClassFile.FieldType.int)).before args0 about1 = true := code_word (m := ⟨1, 5⟩) (meth := k1m5) (c := k1c5) (by decide +kernel) rfl rfl rfl (by decide +kernel)
set_option maxRecDepth 65536 in
theorem w_c18 : (Jvm.Cond.code ({ cls := "java/lang/Math", name := "min", desc := "(II)I" } : Jvm.MethodName) jdk_29_method_69_code (2 : Nat) (Option.some Jvm.ClassFile.FieldType.int)).before args0 about1 = true := code_word (m := ⟨14, 1⟩) (meth := k14m1) (c := k14c1) (by decide +kernel) rfl rfl rfl (by decide +kernel)
def codes1 : List Jvm.Cond := [Jvm.Cond.code x code maxLocals ret, Jvm.Cond.code ({ cls := "com/example/fundort/fundort/util/Ipv4AddressFirstFaultPinLaw", name := "isDigit", desc := "(C)Z" } : Jvm.MethodName) method_3_code (1 : Nat) (Option.some Jvm.ClassFile.FieldType.boolean), Jvm.Cond.code ({ cls := "com/example/fundort/fundort/util/Ipv4AddressFirstFaultPinLaw", name := "putToken", desc := "([CIIIIII)I" } : Jvm.MethodName) method_5_code (9 : Nat) (Option.some Jvm.ClassFile.FieldType.int), Jvm.Cond.code ({ cls := "com/example/fundort/fundort/util/Ipv4AddressFirstFaultPinLaw", name := "digitValue", desc := "(II)I" } : Jvm.MethodName) method_4_code (2 : Nat) (Option.some Jvm.ClassFile.FieldType.int), Jvm.Cond.code ({ cls := "java/lang/String", name := "<init>", desc := "([C)V" } : Jvm.MethodName) jdk_42_method_3_code (2 : Nat) (Option.none : Option Jvm.ClassFile.FieldType), Jvm.Cond.code ({ cls := "java/lang/String", name := "<init>", desc := "([CIILjava/lang/Void;)V" } : Jvm.MethodName) jdk_42_method_149_code (6 : Nat) (Option.none : Option Jvm.ClassFile.FieldType), Jvm.Cond.code ({ cls := "java/lang/Object", name := "<init>", desc := "()V" } : Jvm.MethodName) object_method_1_code (1 : Nat) (Option.none : Option Jvm.ClassFile.FieldType), Jvm.Cond.code ({ cls := "java/lang/StringUTF16", name := "compress", desc := "([CII)[B" } : Jvm.MethodName) jdk_52_method_16_code (6 : Nat) (Option.some (Jvm.ClassFile.FieldType.array Jvm.ClassFile.FieldType.byte)), Jvm.Cond.code ({ cls := "java/lang/StringUTF16", name := "compress", desc := "([CI[BII)I" } : Jvm.MethodName) jdk_52_method_21_code (7 : Nat) (Option.some Jvm.ClassFile.FieldType.int), Jvm.Cond.code ({ cls := "java/lang/StringUTF16", name := "coderFromArrayLen", desc := "([BI)B" } : Jvm.MethodName) jdk_52_method_15_code (2 : Nat) (Option.some Jvm.ClassFile.FieldType.byte), Jvm.Cond.code ({ cls := "com/example/fundort/fundort/util/Ipv4Address", name := "firstFault", desc := "(Ljava/lang/String;II)I" } : Jvm.MethodName) prog_36_method_2_code (7 : Nat) (Option.some Jvm.ClassFile.FieldType.int), Jvm.Cond.code ({ cls := "java/lang/String", name := "charAt", desc := "(I)C" } : Jvm.MethodName) jdk_42_method_56_code (2 : Nat) (Option.some Jvm.ClassFile.FieldType.char), Jvm.Cond.code ({ cls := "java/lang/String", name := "isLatin1", desc := "()Z" } : Jvm.MethodName) jdk_42_method_154_code (1 : Nat) (Option.some Jvm.ClassFile.FieldType.boolean), Jvm.Cond.code ({ cls := "java/lang/StringLatin1", name := "charAt", desc := "([BI)C" } : Jvm.MethodName) jdk_43_method_2_code (2 : Nat) (Option.some Jvm.ClassFile.FieldType.char), Jvm.Cond.code ({ cls := "java/lang/String", name := "checkIndex", desc := "(II)V" } : Jvm.MethodName) jdk_42_method_155_code (2 : Nat) (Option.none : Option Jvm.ClassFile.FieldType), Jvm.Cond.code ({ cls := "jdk/internal/util/Preconditions", name := "checkIndex", desc := "(IILjava/util/function/BiFunction;)I" } : Jvm.MethodName) jdk_41_method_11_code (3 : Nat) (Option.some Jvm.ClassFile.FieldType.int), Jvm.Cond.code ({ cls := "com/example/fundort/fundort/util/CharClass", name := "holds", desc := "(C)Z" } : Jvm.MethodName) prog_34_method_4_code (2 : Nat) (Option.some Jvm.ClassFile.FieldType.boolean), Jvm.Cond.code ({ cls := "com/example/fundort/fundort/util/Ipv4AddressFirstFaultPinLaw", name := "specialFault", desc := "(II)I" } : Jvm.MethodName) method_6_code (5 : Nat) (Option.some Jvm.ClassFile.FieldType.int), Jvm.Cond.code ({ cls := "java/lang/Math", name := "min", desc := "(II)I" } : Jvm.MethodName) jdk_29_method_69_code (2 : Nat) (Option.some Jvm.ClassFile.FieldType.int)]
set_option maxRecDepth 65536 in
theorem codes_eq : words1.filter isCode = codes1 := rfl
theorem w_codes : ∀ c ∈ words1.filter isCode, c.before args0 about1 = true := by
  rw [codes_eq]
  intro c hc
  simp only [codes1, List.mem_cons, List.not_mem_nil, or_false] at hc
  rcases hc with rfl | rfl | rfl | rfl | rfl | rfl | rfl | rfl | rfl | rfl | rfl | rfl | rfl | rfl | rfl | rfl | rfl | rfl | rfl
  · exact w_c0
  · exact w_c1
  · exact w_c2
  · exact w_c3
  · exact w_c4
  · exact w_c5
  · exact w_c6
  · exact w_c7
  · exact w_c8
  · exact w_c9
  · exact w_c10
  · exact w_c11
  · exact w_c12
  · exact w_c13
  · exact w_c14
  · exact w_c15
  · exact w_c16
  · exact w_c17
  · exact w_c18
set_option maxRecDepth 65536 in
theorem w_t1 : (words1.take 24).all (fun c => isCode c || c.before args0 about1) = true := by decide +kernel
set_option maxRecDepth 65536 in
theorem w_t2 : ((words1.drop 24).take 24).all (fun c => isCode c || c.before args0 about1) = true := by decide +kernel
set_option maxRecDepth 65536 in
theorem w_t3 : (((words1.drop 24).drop 24).take 24).all (fun c => isCode c || c.before args0 about1) = true := by decide +kernel
set_option maxRecDepth 65536 in
theorem w_t4 : (((words1.drop 24).drop 24).drop 24).all (fun c => isCode c || c.before args0 about1) = true := by decide +kernel
theorem w_tables : (allAtoms (Jvm.Cond.code x code maxLocals ret :: tables_1)).before args0 about1 = true := by
  rw [allAtoms_all]
  show words1.all (fun c => c.before args0 about1) = true
  refine all_split ?_ w_codes
  rw [← List.take_append_drop 24 words1, List.all_append, w_t1, ← List.take_append_drop 24 (words1.drop 24), List.all_append, w_t2, ← List.take_append_drop 24 ((words1.drop 24).drop 24), List.all_append, w_t3, w_t4]
  rfl
set_option maxRecDepth 65536 in
theorem w_rest : rest_1_c.before args0 about1 = true := by decide +kernel
set_option maxRecDepth 65536 in
theorem w_case : (Jvm.Cond.and given_1 narrow_1).before args0 about1 = true := by decide +kernel
theorem w_applies : (headSpec (Jvm.Cond.code x code maxLocals ret :: tables_1) room_1).applies x e0.platform about1 = true :=
  (Spec.applies_iff w_frames).mpr ⟨w_running, w_runnable, w_alone, w_named, w_hears, w_ripe, w_room, w_tables⟩
theorem atStart : AtStart classFile x code maxLocals ret World_1 tables_1 room_1 Calls_1 rest_1 Pre_1 launch0 p0 e0 about1 theMethod args0 below0 :=
  ⟨lists_1, trivial, launch0.admits_env _ _ _, launch0.least_env, fairChoices_fair.cas, fairChoices_fair.clock, w_frames, w_args, w_heap, w_applies, trivial, w_rest, w_case⟩
end start1
theorem witness_1 : WitnessClaimed_1 := ⟨start1.p0, start1.e0, start1.about1, start1.theMethod, start1.args0, start1.below0, start1.atStart⟩
end Jvm.Pilot.@@N@@
