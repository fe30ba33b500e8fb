import JvmDerived
import JvmDerived.Pilot.@@N@@Statement
import JvmDerived.Pilot.@@N@@Code
set_option linter.unusedVariables false
set_option linter.unusedSimpArgs false
/- laws to paste: Road.backV, Road.codOf, Road.lenW, Road.wide_lo, Road.wide_hi, pair_says, shr0, shr1, chr8_lo8 (cut by pick.py; bodies as the Statement names them) -/
namespace Jvm.Pilot.@@N@@
namespace StrChars
open Jvm Sem ClassFile Op Lib Jvm.Stand Jvm.Free.XT Jvm.Free.ALB Jvm.Free.JM Jvm.Free
open Jvm.Lib.Cold (StaticIs)
/-- a char array whose places are chars -/
def Ch (a : Addr) (A : Cell) (U : State) : Prop := Arr .char a A U ∧ Typed .char A
theorem Ch.mv {a : Addr} {A : Cell} {U U' : State} (h : Ch a A U) (hal : U.vm.Alike U'.vm) (hh : U'.heap = U.heap) : Ch a A U' := ⟨h.1.mv hal hh, h.2⟩
theorem Ch.keep {a : Addr} {A : Cell} {U U' : State} (h : Ch a A U) (hal : U.vm.Alike U'.vm) (hk : U'.heap[a]? = some A) : Ch a A U' := ⟨h.1.keep hal hk, h.2⟩
/-- what place i of a char[]'s cell holds -/
def cv (A : Cell) (i : Nat) : Int32 := match A.slots[i]? with | some (.int x) => x | _ => 0
theorem Ch.get {a : Addr} {A : Cell} {U : State} (h : Ch a A U) {i : Nat} (hi : i < A.slots.size) : A.slots[i]? = some (.int (cv A i)) := by
  have e := Array.getElem?_eq_getElem hi
  have f := h.2 i _ e
  unfold cv; rw [e]
  generalize A.slots[i] = v at f
  cases v <;> simp [fits] at f ⊢
/-- the byte that i2b leaves of a char -/
def lo8 (x : Int32) : Int32 := x.toInt8.toInt32
theorem fits_lo8 (y : Int32) : fits .byte (.int (lo8 y)) = true := by
  have h1 := y.toInt8.le_toInt
  have h2 := y.toInt8.toInt_lt
  simp only [lo8, fits, Bool.and_eq_true, decide_eq_true_eq, Int32.le_iff_toInt_le, Int8.toInt_toInt32, show (-128 : Int32).toInt = -128 from by decide, show (127 : Int32).toInt = 127 from by decide]
  omega
/-- A' is A but that each place j of lo .. hi - 1 holds f j -/
def Laid (A A' : Cell) (lo hi : Nat) (f : Nat → Value) : Prop := A'.cls = A.cls ∧ A'.vm = A.vm ∧ A'.slots.size = A.slots.size ∧ ∀ i, A'.slots[i]? = if lo ≤ i ∧ i < hi then some (f i) else A.slots[i]?
theorem Laid.zero (A : Cell) (lo : Nat) (f : Nat → Value) : Laid A A lo (lo + 0) f := ⟨rfl, rfl, rfl, fun i => by rw [if_neg (by omega)]⟩
theorem Laid.step {A Ak : Cell} {lo k : Nat} {f : Nat → Value} {v : Value} (h : Laid A Ak lo k f) (hlo : lo ≤ k) (hk : k < Ak.slots.size) (hv : v = f k) : Laid A (Ak.setSlot k v) lo (k + 1) f := by
  refine ⟨h.1, h.2.1, by simpa [Cell.setSlot] using h.2.2.1, fun i => ?_⟩
  by_cases e : k = i
  · subst e; rw [Cell.slots_setSlot_self v hk, if_pos (by omega), hv]
  · rw [Cell.slots_setSlot_ne v e, h.2.2.2 i]
    by_cases q : lo ≤ i ∧ i < k
    · rw [if_pos q, if_pos (by omega)]
    · rw [if_neg q, if_neg (by omega)]
def U16 : String := "java/lang/StringUTF16"
namespace Cmp5
def yN : MethodName := ⟨"java/lang/StringUTF16", "compress", "([CI[BII)I"⟩
abbrev yB : ByteArray := jdk_52_method_21_code
theorem d0 : decode yB 0 = .ok (.iconst 0, 1) := by decide +kernel
theorem d1 : decode yB 1 = .ok (.istore 5, 2) := by decide +kernel
theorem d3 : decode yB 3 = .ok (.iload 5, 2) := by decide +kernel
theorem d5 : decode yB 5 = .ok (.iload 4, 2) := by decide +kernel
theorem d7 : decode yB 7 = .ok (.if_icmp (.ge) 37, 3) := by decide +kernel
theorem d10 : decode yB 10 = .ok (.aload_n 0, 1) := by decide +kernel
theorem d11 : decode yB 11 = .ok (.iload_n 1, 1) := by decide +kernel
theorem d12 : decode yB 12 = .ok (.caload, 1) := by decide +kernel
theorem d13 : decode yB 13 = .ok (.istore 6, 2) := by decide +kernel
theorem d15 : decode yB 15 = .ok (.iload 6, 2) := by decide +kernel
theorem d17 : decode yB 17 = .ok (.sipush 255, 3) := by decide +kernel
theorem d20 : decode yB 20 = .ok (.if_icmp (.le) 6, 3) := by decide +kernel
theorem d26 : decode yB 26 = .ok (.aload_n 2, 1) := by decide +kernel
theorem d27 : decode yB 27 = .ok (.iload_n 3, 1) := by decide +kernel
theorem d28 : decode yB 28 = .ok (.iload 6, 2) := by decide +kernel
theorem d30 : decode yB 30 = .ok (.i2b, 1) := by decide +kernel
theorem d31 : decode yB 31 = .ok (.bastore, 1) := by decide +kernel
theorem d32 : decode yB 32 = .ok (.iinc 1 1, 3) := by decide +kernel
theorem d35 : decode yB 35 = .ok (.iinc 3 1, 3) := by decide +kernel
theorem d38 : decode yB 38 = .ok (.iinc 5 1, 3) := by decide +kernel
theorem d41 : decode yB 41 = .ok (.goto (-38), 3) := by decide +kernel
theorem d44 : decode yB 44 = .ok (.iload 4, 2) := by decide +kernel
theorem d46 : decode yB 46 = .ok (.ireturn, 1) := by decide +kernel
def site : List Cond := []
def tab : Cond := tabOf yN yB 7 (some .int) site
def P (b : Addr) (A : Cell) (d : Addr) (B : Cell) (o q len : Nat) (args : Array Value) (s : State) : Prop := args = #[.ref b, .int (Int32.ofNat o), .ref d, .int (Int32.ofNat q), .int (Int32.ofNat len)] ∧ Ch b A s ∧ Arr .byte d B s ∧ b ≠ d ∧ o + len ≤ A.slots.size ∧ q + len ≤ B.slots.size ∧ ∀ i, i < len → ¬ 255 < cv A (o + i)
def E (b : Addr) (A : Cell) (d : Addr) (B : Cell) (o q len : Nat) (r : Option Value) (s u : State) : Prop := r = some (.int (Int32.ofNat len)) ∧ ∃ B', Put d B' s u ∧ Laid B B' q (q + len) (fun j => Value.int (lo8 (cv A (o + (j - q)))))
/-- no char of the range above 255: len; the places written hold each char's low byte -/
theorem law (l : Launch) (b : Addr) (A : Cell) (d : Addr) (B : Cell) (o q len : Nat) : Law l yN 5 5 0 0 yB 7 (some .int) site (P b A d B o q len) (E b A d B o q len) (copyLocs d q len) 0 0 := by
  refine Law.of_walk (plainFor_of_name (by decide +kernel)) (by decide +kernel) (by decide +kernel) (by decide) (fun _ _ h => by rw [h.1]; rfl) (fun _ U U' hal hh h => ⟨h.1, h.2.1.mv hal hh, h.2.2.1.mv hal hh, h.2.2.2⟩) (fun r U U' V V' h1 hal h2 h => ⟨h.1, h.2.elim fun B' q => ⟨B', q.1.mv h1 h2, q.2⟩⟩) ?_
  intro p e s m args below meth c s₁ X0 hexec hbytes hml hret hlk hnm hown hh0 W hP
  obtain ⟨rfl, hA, hB, hne, l1, l2, hp⟩ := hP
  have c1 : Steps p.tables e below (s₁.setTop (entryFrame m #[.ref b, .int (Int32.ofNat o), .ref d, .int (Int32.ofNat q), .int (Int32.ofNat len)] 7)) (s₁.setTop (mkF m 0 #[.val (.ref b), .val (.int (Int32.ofNat o)), .val (.ref d), .val (.int (Int32.ofNat q)), .val (.int (Int32.ofNat len)), .unset, .unset] [])) := entry rfl
  have hA0 := hA.1.mv X0.warmed.alike hh0
  have hB0 := hB.mv X0.warmed.alike hh0
  have a31 := hA.1.2.2.2
  have c2 : Steps p.tables e below (s₁.setTop (entryFrame m #[.ref b, .int (Int32.ofNat o), .ref d, .int (Int32.ofNat q), .int (Int32.ofNat len)] 7)) (s₁.setTop (mkF m 3 #[.val (.ref b), .val (.int (Int32.ofNat o)), .val (.ref d), .val (.int (Int32.ofNat q)), .val (.int (Int32.ofNat len)), .val (.int 0), .unset] [])) := c1.trans (by
    refine iconstV X0.here hexec rfl 0 (hb hbytes d0) (by decide) ?_
    refine XS.istore X0.here hexec rfl (hb hbytes d1) rfl rfl ?_
    exact Steps.refl _)
  have loop : ∀ (r i : Nat), i + r = len → ∀ (z : Slot), (z = .unset ∨ ∃ w, z = .val w ∧ w.category = 1) → ∀ (Tl : State) (Bk : Cell), Stand p l e { frames := 0, locals := 0, cells := 0, slots := 0 } s m #[.ref b, .int (Int32.ofNat o), .ref d, .int (Int32.ofNat q), .int (Int32.ofNat len)] below meth c Tl ([] ++ copyLocs d q i) 0 0 → Put d Bk s₁ Tl → Laid B Bk q (q + i) (fun j => Value.int (lo8 (cv A (o + (j - q))))) →
      Steps p.tables e below (s₁.setTop (entryFrame m #[.ref b, .int (Int32.ofNat o), .ref d, .int (Int32.ofNat q), .int (Int32.ofNat len)] 7)) (Tl.setTop (mkF m 3 #[.val (.ref b), .val (.int (Int32.ofNat (o + i))), .val (.ref d), .val (.int (Int32.ofNat (q + i))), .val (.int (Int32.ofNat len)), .val (.int (Int32.ofNat i)), z] [])) → ∃ (T' : State) (B' : Cell) (z' : Slot), Stand p l e { frames := 0, locals := 0, cells := 0, slots := 0 } s m #[.ref b, .int (Int32.ofNat o), .ref d, .int (Int32.ofNat q), .int (Int32.ofNat len)] below meth c T' ([] ++ copyLocs d q len) 0 0 ∧ Put d B' s₁ T' ∧ Laid B B' q (q + len) (fun j => Value.int (lo8 (cv A (o + (j - q))))) ∧
      Steps p.tables e below (s₁.setTop (entryFrame m #[.ref b, .int (Int32.ofNat o), .ref d, .int (Int32.ofNat q), .int (Int32.ofNat len)] 7)) (T'.setTop (mkF m 3 #[.val (.ref b), .val (.int (Int32.ofNat (o + len))), .val (.ref d), .val (.int (Int32.ofNat (q + len))), .val (.int (Int32.ofNat len)), .val (.int (Int32.ofNat len)), z'] [])) := by
    intro r
    induction r with
    | zero =>
      intro i hi z hz Tl Bk Xl pl fl cl
      have hil : i = len := by omega
      rw [hil] at Xl fl cl
      exact ⟨Tl, Bk, z, Xl, pl, fl, cl⟩
    | succ r ih =>
      intro i hi z hz Tl Bk Xl pl fl cl
      have all := X0.warmed.alike.symm.trans Xl.warmed.alike
      have hAl := hA0.keep all (pl.other hne hA0.1)
      have hBk := hB0.like all pl.1 fl.1 fl.2.1 fl.2.2.1
      have hlt : q + i < Bk.slots.size := by rw [fl.2.2.1]; omega
      have c3 : Steps p.tables e below (s₁.setTop (entryFrame m #[.ref b, .int (Int32.ofNat o), .ref d, .int (Int32.ofNat q), .int (Int32.ofNat len)] 7)) (Tl.setTop (mkF m 12 #[.val (.ref b), .val (.int (Int32.ofNat (o + i))), .val (.ref d), .val (.int (Int32.ofNat (q + i))), .val (.int (Int32.ofNat len)), .val (.int (Int32.ofNat i)), z] [.int (Int32.ofNat (o + i)), .ref b])) := cl.trans (by
        refine XS.iload Xl.here hexec rfl (hb hbytes d3) rfl ?_
        refine XS.iload Xl.here hexec rfl (hb hbytes d5) rfl ?_
        refine XS.icmpNo Xl.here hexec rfl (hb hbytes d7) rfl (ii_ge_f (lt32 (by omega) (by omega))) ?_
        refine XS.aloadN Xl.here hexec rfl (hb hbytes d10) rfl rfl ?_
        refine XS.iloadN Xl.here hexec rfl (hb hbytes d11) rfl ?_
        exact Steps.refl _)
      have c4 : Steps p.tables e below (s₁.setTop (entryFrame m #[.ref b, .int (Int32.ofNat o), .ref d, .int (Int32.ofNat q), .int (Int32.ofNat len)] 7)) (Tl.setTop (mkF m 13 #[.val (.ref b), .val (.int (Int32.ofNat (o + i))), .val (.ref d), .val (.int (Int32.ofNat (q + i))), .val (.int (Int32.ofNat len)), .val (.int (Int32.ofNat i)), z] [.int (cv A (o + i))])) := c3.trans (by
        refine Xl.aget hexec hAl rfl (hA.get (i := o + i) (by omega)) rfl rfl (hb hbytes d12) ?_
        exact Steps.refl _)
      have c5 : Steps p.tables e below (s₁.setTop (entryFrame m #[.ref b, .int (Int32.ofNat o), .ref d, .int (Int32.ofNat q), .int (Int32.ofNat len)] 7)) (Tl.setTop (mkF m 15 #[.val (.ref b), .val (.int (Int32.ofNat (o + i))), .val (.ref d), .val (.int (Int32.ofNat (q + i))), .val (.int (Int32.ofNat len)), .val (.int (Int32.ofNat i)), .val (.int (cv A (o + i)))] [])) := c4.trans (by
        refine XS.istoreS Xl.here hexec rfl (hb hbytes d13) rfl rfl hz ?_
        exact Steps.refl _)
      have c6 : Steps p.tables e below (s₁.setTop (entryFrame m #[.ref b, .int (Int32.ofNat o), .ref d, .int (Int32.ofNat q), .int (Int32.ofNat len)] 7)) (Tl.setTop (mkF m 31 #[.val (.ref b), .val (.int (Int32.ofNat (o + i))), .val (.ref d), .val (.int (Int32.ofNat (q + i))), .val (.int (Int32.ofNat len)), .val (.int (Int32.ofNat i)), .val (.int (cv A (o + i)))] [.int (lo8 (cv A (o + i))), .int (Int32.ofNat (q + i)), .ref d])) := c5.trans (by
        refine XS.iload Xl.here hexec rfl (hb hbytes d15) rfl ?_
        refine sipushV Xl.here hexec rfl 255 (hb hbytes d17) (by decide) ?_
        refine XS.icmpYes Xl.here hexec rfl (pc0 := 20) rfl (hb hbytes d20) rfl (ii_le_t (hp i (by omega))) (by decide) rfl ?_
        refine XS.aloadN Xl.here hexec rfl (hb hbytes d26) rfl rfl ?_
        refine XS.iloadN Xl.here hexec rfl (hb hbytes d27) rfl ?_
        refine XS.iload Xl.here hexec rfl (hb hbytes d28) rfl ?_
        refine i2b Xl.here hexec rfl (hb hbytes d30) rfl ?_
        exact Steps.refl _)
      obtain ⟨T7, X7, p7, st7⟩ := Xl.aput hexec hBk rfl hlt rfl (fits_lo8 (cv A (o + i))) (g := (mkF m 31 #[.val (.ref b), .val (.int (Int32.ofNat (o + i))), .val (.ref d), .val (.int (Int32.ofNat (q + i))), .val (.int (Int32.ofNat len)), .val (.int (Int32.ofNat i)), .val (.int (cv A (o + i)))] [.int (lo8 (cv A (o + i))), .int (Int32.ofNat (q + i)), .ref d])) rfl (rest := []) rfl (hb hbytes d31)
      have c8 : Steps p.tables e below (s₁.setTop (entryFrame m #[.ref b, .int (Int32.ofNat o), .ref d, .int (Int32.ofNat q), .int (Int32.ofNat len)] 7)) (T7.setTop (mkF m 32 #[.val (.ref b), .val (.int (Int32.ofNat (o + i))), .val (.ref d), .val (.int (Int32.ofNat (q + i))), .val (.int (Int32.ofNat len)), .val (.int (Int32.ofNat i)), .val (.int (cv A (o + i)))] [])) := c6.trans (st7 _ (Steps.refl _))
      have c9 : Steps p.tables e below (s₁.setTop (entryFrame m #[.ref b, .int (Int32.ofNat o), .ref d, .int (Int32.ofNat q), .int (Int32.ofNat len)] 7)) (T7.setTop (mkF m 3 #[.val (.ref b), .val (.int (Int32.ofNat (o + i) + 1)), .val (.ref d), .val (.int (Int32.ofNat (q + i) + 1)), .val (.int (Int32.ofNat len)), .val (.int (Int32.ofNat i + 1)), .val (.int (cv A (o + i)))] [])) := c8.trans (by
        refine iincV X7.here hexec rfl 1 (hb hbytes d32) (by decide) rfl rfl ?_
        refine iincV X7.here hexec rfl 1 (hb hbytes d35) (by decide) rfl rfl ?_
        refine iincV X7.here hexec rfl 1 (hb hbytes d38) (by decide) rfl rfl ?_
        refine XS.goto X7.here hexec rfl (pc0 := 41) rfl (hb hbytes d41) (by decide) rfl ?_
        exact Steps.refl _)
      have c10 : Steps p.tables e below (s₁.setTop (entryFrame m #[.ref b, .int (Int32.ofNat o), .ref d, .int (Int32.ofNat q), .int (Int32.ofNat len)] 7)) (T7.setTop (mkF m 3 #[.val (.ref b), .val (.int (Int32.ofNat (o + (i + 1)))), .val (.ref d), .val (.int (Int32.ofNat (q + (i + 1)))), .val (.int (Int32.ofNat len)), .val (.int (Int32.ofNat (i + 1))), .val (.int (cv A (o + i)))] [])) := by
        have := c9
        rw [succ32, succ32, succ32] at this
        exact this
      exact ih (i + 1) (by omega) _ (Or.inr ⟨_, rfl, rfl⟩) T7 _ (by rw [copyLocs_step, ← List.append_assoc]; exact X7) (pl.trans p7) (fl.step (by omega) hlt (by simp)) c10
  obtain ⟨T9, B9, z9, X9, p9, f9, g9⟩ := loop len 0 (by omega) .unset (Or.inl rfl) s₁ B (by simpa [copyLocs] using X0) ⟨hB0.1, fun _ _ => rfl, rfl⟩ (Laid.zero _ _ _) c2
  have c11 : Steps p.tables e below (s₁.setTop (entryFrame m #[.ref b, .int (Int32.ofNat o), .ref d, .int (Int32.ofNat q), .int (Int32.ofNat len)] 7)) (T9.setTop (mkF m 46 #[.val (.ref b), .val (.int (Int32.ofNat (o + len))), .val (.ref d), .val (.int (Int32.ofNat (q + len))), .val (.int (Int32.ofNat len)), .val (.int (Int32.ofNat len)), z9] [.int (Int32.ofNat len)])) := g9.trans (by
    refine XS.iload X9.here hexec rfl (hb hbytes d3) rfl ?_
    refine XS.iload X9.here hexec rfl (hb hbytes d5) rfl ?_
    refine XS.icmpYes X9.here hexec rfl (pc0 := 7) rfl (hb hbytes d7) rfl (ii_ge_t (nlt32 (by omega) (Nat.le_refl _))) (by decide) rfl ?_
    refine XS.iload X9.here hexec rfl (hb hbytes d44) rfl ?_
    exact Steps.refl _)
  exact ⟨T9, some (.int (Int32.ofNat len)), _, _, _, X9, by simp, rfl, rfl, (fun h => by cases h), ⟨rfl, B9, p9.from hh0, f9⟩, fun fs hl => c11.trans (X9.ireturnOut hexec hret rfl (Or.inl rfl) (hb hbytes d46) hl)⟩
end Cmp5
namespace Cmp3
def yN : MethodName := ⟨"java/lang/StringUTF16", "compress", "([CII)[B"⟩
abbrev yB : ByteArray := jdk_52_method_16_code
theorem d0 : decode yB 0 = .ok (.iload_n 2, 1) := by decide +kernel
theorem d1 : decode yB 1 = .ok (.newarray .byte, 2) := by decide +kernel
theorem d3 : decode yB 3 = .ok (.astore_n 3, 1) := by decide +kernel
theorem d4 : decode yB 4 = .ok (.aload_n 0, 1) := by decide +kernel
theorem d5 : decode yB 5 = .ok (.iload_n 1, 1) := by decide +kernel
theorem d6 : decode yB 6 = .ok (.aload_n 3, 1) := by decide +kernel
theorem d7 : decode yB 7 = .ok (.iconst 0, 1) := by decide +kernel
theorem d8 : decode yB 8 = .ok (.iload_n 2, 1) := by decide +kernel
theorem d9 : decode yB 9 = .ok (.invokestatic 115, 3) := by decide +kernel
theorem d12 : decode yB 12 = .ok (.istore 4, 2) := by decide +kernel
theorem d14 : decode yB 14 = .ok (.iload 4, 2) := by decide +kernel
theorem d16 : decode yB 16 = .ok (.iload_n 2, 1) := by decide +kernel
theorem d17 : decode yB 17 = .ok (.if_icmp (.eq) 40, 3) := by decide +kernel
theorem d57 : decode yB 57 = .ok (.aload_n 3, 1) := by decide +kernel
theorem d58 : decode yB 58 = .ok (.areturn, 1) := by decide +kernel
def site : List Cond := [.arrayClass .byte, Cmp5.tab] ++ staticW U16 115 Cmp5.yN
def tab : Cond := tabOf yN yB 6 (some (.array .byte)) site
def P (b : Addr) (A : Cell) (o len : Nat) (args : Array Value) (s : State) : Prop := args = #[.ref b, .int (Int32.ofNat o), .int (Int32.ofNat len)] ∧ Ch b A s ∧ o + len ≤ A.slots.size ∧ len ≤ 536870912 ∧ ∀ i, i < len → ¬ 255 < cv A (o + i)
def E (b : Addr) (A : Cell) (o len : Nat) (r : Option Value) (s u : State) : Prop := NewArr .byte "[B" len (fun j => .int (lo8 (cv A (o + j)))) r s u ∧ u.heap.size = s.heap.size + 1
/-- no char of the range above 255: a new byte[] of their low bytes -/
theorem law (l : Launch) (b : Addr) (A : Cell) (o len : Nat) : Law l yN 3 3 1 18 yB 6 (some (.array .byte)) site (P b A o len) (E b A o len) [] 1 len := by
  refine Law.of_walk (plainFor_of_name (by decide +kernel)) (by decide +kernel) (by decide +kernel) (by decide) (fun _ _ h => by rw [h.1]; rfl) (fun _ U U' hal hh h => ⟨h.1, h.2.1.mv hal hh, h.2.2⟩) (fun r U U' V V' h1 hal h2 h => ⟨NewArr.mv r U U' V V' h1 hal h2 h.1, by rw [h1, h2]; exact h.2⟩) ?_
  intro p e s m args below meth c s₁ X0 hexec hbytes hml hret hlk hnm hown hh0 W hP
  obtain ⟨rfl, hA, l1, l2, hp⟩ := hP
  have a31 := hA.1.2.2.2
  have c1 : Steps p.tables e below (s₁.setTop (entryFrame m #[.ref b, .int (Int32.ofNat o), .int (Int32.ofNat len)] 6)) (s₁.setTop (mkF m 0 #[.val (.ref b), .val (.int (Int32.ofNat o)), .val (.int (Int32.ofNat len)), .unset, .unset, .unset] [])) := entry rfl
  have c2 : Steps p.tables e below (s₁.setTop (entryFrame m #[.ref b, .int (Int32.ofNat o), .int (Int32.ofNat len)] 6)) (s₁.setTop (mkF m 1 #[.val (.ref b), .val (.int (Int32.ofNat o)), .val (.int (Int32.ofNat len)), .unset, .unset, .unset] [.int (Int32.ofNat len)])) := c1.trans (by
    refine XS.iloadN X0.here hexec rfl (hb hbytes d0) rfl ?_
    exact Steps.refl _)
  obtain ⟨T3, B3, X3, ba3, bs3, bv3, bh3, bf3, st3⟩ := X0.anew hexec (atype := .byte) (wk W (.arrayClass .byte)) rfl (by show len * 1 ≤ _; omega) (by omega) (g := (mkF m 1 #[.val (.ref b), .val (.int (Int32.ofNat o)), .val (.int (Int32.ofNat len)), .unset, .unset, .unset] [.int (Int32.ofNat len)])) rfl (hb hbytes d1) (rest := []) rfl (Nat.le_refl _) (by show 0 + len ≤ len; omega)
  rw [hh0] at ba3 st3
  have kp3 : XT.Kept s T3 := (XT.Kept.of_eq hh0).push bh3
  have hA3 := hA.keep X3.warmed.alike (kp3 _ _ hA.1.1)
  have hne : b ≠ s.heap.size := hA.1.ne
  have c4 : Steps p.tables e below (s₁.setTop (entryFrame m #[.ref b, .int (Int32.ofNat o), .int (Int32.ofNat len)] 6)) (T3.setTop (mkF m 3 #[.val (.ref b), .val (.int (Int32.ofNat o)), .val (.int (Int32.ofNat len)), .unset, .unset, .unset] [.ref s.heap.size])) := c2.trans (st3 _ (Steps.refl _))
  have c5 : Steps p.tables e below (s₁.setTop (entryFrame m #[.ref b, .int (Int32.ofNat o), .int (Int32.ofNat len)] 6)) (T3.setTop (mkF m 9 #[.val (.ref b), .val (.int (Int32.ofNat o)), .val (.int (Int32.ofNat len)), .val (.ref s.heap.size), .unset, .unset] [.int (Int32.ofNat len), .int 0, .ref s.heap.size, .int (Int32.ofNat o), .ref b])) := c4.trans (by
    refine XS.astoreN X3.here hexec rfl (hb hbytes d3) rfl rfl rfl ?_
    refine XS.aloadN X3.here hexec rfl (hb hbytes d4) rfl rfl ?_
    refine XS.iloadN X3.here hexec rfl (hb hbytes d5) rfl ?_
    refine XS.aloadN X3.here hexec rfl (hb hbytes d6) rfl rfl ?_
    refine iconstV X3.here hexec rfl 0 (hb hbytes d7) (by decide) ?_
    refine XS.iloadN X3.here hexec rfl (hb hbytes d8) rfl ?_
    exact Steps.refl _)
  obtain ⟨v6, T6, X6, E6, g6⟩ := X3.callS hexec (Cmp5.law l b A s.heap.size B3 o 0 len) hown (wks W (staticW U16 115 Cmp5.yN)) (wk W Cmp5.tab) (W := 0) (Nat.le_of_ble_eq_true rfl) (Nat.le_of_ble_eq_true rfl) (Nat.le_refl _) (by show 0 + len + 0 ≤ len; omega) (g := (mkF m 9 #[.val (.ref b), .val (.int (Int32.ofNat o)), .val (.int (Int32.ofNat len)), .val (.ref s.heap.size), .unset, .unset] [.int (Int32.ofNat len), .int (Int32.ofNat 0), .ref s.heap.size, .int (Int32.ofNat o), .ref b])) rfl (by rw [hml]; rfl) c5 (argsL := [.ref b, .int (Int32.ofNat o), .ref s.heap.size, .int (Int32.ofNat 0), .int (Int32.ofNat len)]) (rest := []) rfl rfl (by show 2 * 0 + 0 ≤ _; decide) (hb hbytes d9) (⟨rfl, hA3, ba3, hne, l1, by rw [bs3]; simp, hp⟩)
  obtain ⟨rfl, B6, p6, f6⟩ := E6
  have c7 : Steps p.tables e below (s₁.setTop (entryFrame m #[.ref b, .int (Int32.ofNat o), .int (Int32.ofNat len)] 6)) (T6.setTop (mkF m 12 #[.val (.ref b), .val (.int (Int32.ofNat o)), .val (.int (Int32.ofNat len)), .val (.ref s.heap.size), .unset, .unset] [.int (Int32.ofNat len)])) := g6
  have c8 : Steps p.tables e below (s₁.setTop (entryFrame m #[.ref b, .int (Int32.ofNat o), .int (Int32.ofNat len)] 6)) (T6.setTop (mkF m 58 #[.val (.ref b), .val (.int (Int32.ofNat o)), .val (.int (Int32.ofNat len)), .val (.ref s.heap.size), .val (.int (Int32.ofNat len)), .unset] [.ref s.heap.size])) := c7.trans (by
    refine XS.istore X6.here hexec rfl (hb hbytes d12) rfl rfl ?_
    refine XS.iload X6.here hexec rfl (hb hbytes d14) rfl ?_
    refine XS.iloadN X6.here hexec rfl (hb hbytes d16) rfl ?_
    refine XS.icmpYes X6.here hexec rfl (pc0 := 17) rfl (hb hbytes d17) rfl (ii_eq_t rfl) (by decide) rfl ?_
    refine XS.aloadN X6.here hexec rfl (hb hbytes d57) rfl rfl ?_
    exact Steps.refl _)
  have X8 := X6.wide (L' := []) (cells' := 1) (slots' := len) (fun x hx hlt => by
    simp only [List.nil_append, copyLocs, List.mem_map, List.mem_range] at hx
    obtain ⟨i, -, rfl⟩ := hx
    exact absurd hlt (Nat.lt_irrefl _)) (Nat.le_refl _) (by omega)
  exact ⟨T6, some (.ref s.heap.size), _, _, _, X8, rfl, rfl, rfl, (fun h => by cases h), ⟨⟨rfl, B6, ba3.like (X3.warmed.alike.symm.trans X6.warmed.alike) p6.1 f6.1 f6.2.1 f6.2.2.1, f6.2.1.trans bv3, by rw [X6.warmed.alike.findClass, f6.1]; exact bf3, by rw [f6.2.2.1, bs3]; simp, fun j hj => by rw [f6.2.2.2 j, if_pos (by omega)]; rfl, kp3.put p6 (Nat.le_refl _)⟩, by rw [p6.2.2, bh3, hh0]; simp⟩, fun fs hl => c8.trans (X8.areturnOut hexec rfl hret rfl (hb hbytes d58) hl)⟩
end Cmp3
namespace CodL
def yN : MethodName := ⟨"java/lang/StringUTF16", "coderFromArrayLen", "([BI)B"⟩
abbrev yB : ByteArray := jdk_52_method_15_code
theorem d0 : decode yB 0 = .ok (.iload_n 1, 1) := by decide +kernel
theorem d1 : decode yB 1 = .ok (.aload_n 0, 1) := by decide +kernel
theorem d2 : decode yB 2 = .ok (.arraylength, 1) := by decide +kernel
theorem d3 : decode yB 3 = .ok (.isub, 1) := by decide +kernel
theorem d4 : decode yB 4 = .ok (.bipush 31, 2) := by decide +kernel
theorem d6 : decode yB 6 = .ok (.iushr, 1) := by decide +kernel
theorem d7 : decode yB 7 = .ok (.i2b, 1) := by decide +kernel
theorem d8 : decode yB 8 = .ok (.ireturn, 1) := by decide +kernel
def site : List Cond := []
def tab : Cond := tabOf yN yB 2 (some .byte) site
def P (d : Addr) (B : Cell) (args : Array Value) (s : State) : Prop := args = #[.ref d, .int (Int32.ofNat B.slots.size)] ∧ Arr .byte d B s
def E (r : Option Value) (s u : State) : Prop := XT.PureE (some (.int 0)) r s u
/-- an array as long as the number of chars: LATIN1 -/
theorem law (l : Launch) (d : Addr) (B : Cell) : Law l yN 2 2 0 0 yB 2 (some .byte) site (P d B) E [] 0 0 := by
  refine Law.of_walk (plainFor_of_name (by decide +kernel)) (by decide +kernel) (by decide +kernel) (by decide) (fun _ _ h => by rw [h.1]; rfl) (fun _ U U' hal hh h => ⟨h.1, h.2.mv hal hh⟩) (fun r U U' V V' h1 hal h2 h => XT.PureE.mv r U U' V V' h1 hal h2 h) ?_
  intro p e s m args below meth c s₁ X0 hexec hbytes hml hret hlk hnm hown hh0 W hP
  obtain ⟨rfl, hB⟩ := hP
  have hB0 := hB.mv X0.warmed.alike hh0
  have c1 : Steps p.tables e below (s₁.setTop (entryFrame m #[.ref d, .int (Int32.ofNat B.slots.size)] 2)) (s₁.setTop (mkF m 0 #[.val (.ref d), .val (.int (Int32.ofNat B.slots.size))] [])) := entry rfl
  have c2 : Steps p.tables e below (s₁.setTop (entryFrame m #[.ref d, .int (Int32.ofNat B.slots.size)] 2)) (s₁.setTop (mkF m 2 #[.val (.ref d), .val (.int (Int32.ofNat B.slots.size))] [.ref d, .int (Int32.ofNat B.slots.size)])) := c1.trans (by
    refine XS.iloadN X0.here hexec rfl (hb hbytes d0) rfl ?_
    refine XS.aloadN X0.here hexec rfl (hb hbytes d1) rfl rfl ?_
    exact Steps.refl _)
  have c3 : Steps p.tables e below (s₁.setTop (entryFrame m #[.ref d, .int (Int32.ofNat B.slots.size)] 2)) (s₁.setTop (mkF m 8 #[.val (.ref d), .val (.int (Int32.ofNat B.slots.size))] [.int (lo8 (ushr (Int32.ofNat B.slots.size - Int32.ofNat B.slots.size) 31))])) := c2.trans (by
    refine X0.alen hexec hB0 rfl rfl (hb hbytes d2) ?_
    refine XS.isub X0.here hexec rfl (hb hbytes d3) rfl ?_
    refine bipushV X0.here hexec rfl 31 (hb hbytes d4) (by decide) ?_
    refine iushr X0.here hexec rfl (hb hbytes d6) rfl ?_
    refine i2b X0.here hexec rfl (hb hbytes d7) rfl ?_
    exact Steps.refl _)
  have e0 : lo8 (ushr (Int32.ofNat B.slots.size - Int32.ofNat B.slots.size) 31) = 0 := by rw [Int32.sub_self]; decide
  rw [e0] at c3
  exact ⟨s₁, some (.int 0), _, _, _, X0, rfl, rfl, rfl, (fun h => by cases h), ⟨rfl, hh0⟩, fun fs hl => c3.trans (X0.ireturnOut hexec hret rfl (Or.inr (Or.inr (Or.inl rfl))) (hb hbytes d8) hl)⟩
end CodL
/-- the String at a is Latin-1 over a new byte[] (the heap's one new cell): the low bytes of the len chars of A from o on; every cell but a is kept -/
def Got (a : Addr) (D : Cell) (fV fC : Field) (A : Cell) (o len : Nat) (r : Option Value) (s u : State) : Prop := r = none ∧ ∃ D' V : Cell, Blank "java/lang/String" a D' u ∧ Same D D' [fV.slot, fC.slot] ∧ D'.slots[fV.slot]? = some (.ref s.heap.size) ∧ D'.slots[fC.slot]? = some (.int 0) ∧ Arr .byte s.heap.size V u ∧ V.vm = .none ∧ u.vm.findClass "[B" = some V.cls ∧ V.slots.size = len ∧ (∀ j, j < len → V.slots[j]? = some (.int (lo8 (cv A (o + j))))) ∧ (∀ (y : Addr) (c : Cell), y ≠ a → s.heap[y]? = some c → u.heap[y]? = some c) ∧ u.heap.size = s.heap.size + 1
theorem Got.mv {a : Addr} {D A : Cell} {fV fC : Field} {o len : Nat} : ∀ r (U U' V V' : State), U'.heap = U.heap → V.vm.Alike V'.vm → V'.heap = V.heap → Got a D fV fC A o len r U V → Got a D fV fC A o len r U' V' :=
  fun r U U' V V' h1 hal h2 ⟨e0, D', X, a1, a2, a3, a4, a5, a6, a7, a8, a9, a10, a11⟩ => ⟨e0, D', X, a1.mv hal h2, a2, by rw [h1]; exact a3, a4, by rw [h1]; exact a5.mv hal h2, a6, by rw [hal.findClass]; exact a7, a8, a9, by rw [h1, h2]; exact a10, by rw [h1, h2]; exact a11⟩
namespace New4
def yN : MethodName := ⟨"java/lang/String", "<init>", "([CIILjava/lang/Void;)V"⟩
abbrev yB : ByteArray := jdk_42_method_149_code
theorem d0 : decode yB 0 = .ok (.aload_n 0, 1) := by decide +kernel
theorem d1 : decode yB 1 = .ok (.invokespecial 1, 3) := by decide +kernel
theorem d4 : decode yB 4 = .ok (.iload_n 3, 1) := by decide +kernel
theorem d5 : decode yB 5 = .ok (.ifCond (.ne) 22, 3) := by decide +kernel
theorem d27 : decode yB 27 = .ok (.getstatic 38, 3) := by decide +kernel
theorem d30 : decode yB 30 = .ok (.ifCond (.eq) 28, 3) := by decide +kernel
theorem d33 : decode yB 33 = .ok (.aload_n 1, 1) := by decide +kernel
theorem d34 : decode yB 34 = .ok (.iload_n 2, 1) := by decide +kernel
theorem d35 : decode yB 35 = .ok (.iload_n 3, 1) := by decide +kernel
theorem d36 : decode yB 36 = .ok (.invokestatic 177, 3) := by decide +kernel
theorem d39 : decode yB 39 = .ok (.astore 5, 2) := by decide +kernel
theorem d41 : decode yB 41 = .ok (.aload_n 0, 1) := by decide +kernel
theorem d42 : decode yB 42 = .ok (.aload 5, 2) := by decide +kernel
theorem d44 : decode yB 44 = .ok (.iload_n 3, 1) := by decide +kernel
theorem d45 : decode yB 45 = .ok (.invokestatic 47, 3) := by decide +kernel
theorem d48 : decode yB 48 = .ok (.putfield 15, 3) := by decide +kernel
theorem d51 : decode yB 51 = .ok (.aload_n 0, 1) := by decide +kernel
theorem d52 : decode yB 52 = .ok (.aload 5, 2) := by decide +kernel
theorem d54 : decode yB 54 = .ok (.putfield 9, 3) := by decide +kernel
theorem d57 : decode yB 57 = .ok (.return_, 1) := by decide +kernel
def site : List Cond := [.fieldLink "java/lang/String" 38 "java/lang/String" "COMPACT_STRINGS" "Z", Cmp3.tab, CodL.tab, .laysFinal "java/lang/String" "java/lang/String" "value" "[B", .fieldLink "java/lang/String" 9 "java/lang/String" "value" "[B", .laysFinal "java/lang/String" "java/lang/String" "coder" "B", .fieldLink "java/lang/String" 15 "java/lang/String" "coder" "B"] ++ objW "java/lang/String" 1 ++ staticW "java/lang/String" 177 Cmp3.yN ++ staticW "java/lang/String" 47 CodL.yN
def tab : Cond := tabOf yN yB 6 none site
def P (a : Addr) (D : Cell) (fV fC : Field) (b : Addr) (A : Cell) (z : Int32) (o len : Nat) (args : Array Value) (s : State) : Prop := args = #[.ref a, .ref b, .int (Int32.ofNat o), .int (Int32.ofNat len), .null] ∧ Blank "java/lang/String" a D s ∧ Found "java/lang/String" "value" "[B" fV s ∧ Found "java/lang/String" "coder" "B" fC s ∧ Ch b A s ∧ StaticIs s "java/lang/String" "COMPACT_STRINGS" "Z" (.int z) ∧ ¬ z = 0 ∧ 0 < len ∧ o + len ≤ A.slots.size ∧ len ≤ 536870912 ∧ ∀ i, i < len → ¬ 255 < cv A (o + i)
def E (a : Addr) (D : Cell) (fV fC : Field) (A : Cell) (o len : Nat) (r : Option Value) (s u : State) : Prop := Got a D fV fC A o len r s u
/-- len > 0, no char of the range above 255: a Latin-1 String of their low bytes -/
theorem law (l : Launch) (a : Addr) (D : Cell) (fV fC : Field) (b : Addr) (A : Cell) (z : Int32) (o len : Nat) : Law l yN 5 4 2 35 yB 6 none site (P a D fV fC b A z o len) (E a D fV fC A o len) [⟨a, fC.slot⟩, ⟨a, fV.slot⟩] 1 len := by
  refine Law.of_walk (plainFor_of_name (by decide +kernel)) (by decide +kernel) (by decide +kernel) (by decide) (fun _ _ h => by rw [h.1]; rfl) (fun _ U U' hal hh h => ⟨h.1, h.2.1.mv hal hh, h.2.2.1.al hal, h.2.2.2.1.al hal, h.2.2.2.2.1.mv hal hh, h.2.2.2.2.2.1.there hal hh, h.2.2.2.2.2.2⟩) (fun r U U' V V' h1 hal h2 h => Got.mv r U U' V V' h1 hal h2 h) ?_
  intro p e s m args below meth c s₁ X0 hexec hbytes hml hret hlk hnm hown hh0 W hP
  obtain ⟨rfl, hB, f1, f2, hA, s1, hz, l0, l1, l2, hp⟩ := hP
  have a31 := hA.1.2.2.2
  have c1 : Steps p.tables e below (s₁.setTop (entryFrame m #[.ref a, .ref b, .int (Int32.ofNat o), .int (Int32.ofNat len), .null] 6)) (s₁.setTop (mkF m 0 #[.val (.ref a), .val (.ref b), .val (.int (Int32.ofNat o)), .val (.int (Int32.ofNat len)), .val .null, .unset] [])) := entry rfl
  have c2 : Steps p.tables e below (s₁.setTop (entryFrame m #[.ref a, .ref b, .int (Int32.ofNat o), .int (Int32.ofNat len), .null] 6)) (s₁.setTop (mkF m 1 #[.val (.ref a), .val (.ref b), .val (.int (Int32.ofNat o)), .val (.int (Int32.ofNat len)), .val .null, .unset] [.ref a])) := c1.trans (by
    refine XS.aloadN X0.here hexec rfl (hb hbytes d0) rfl rfl ?_
    exact Steps.refl _)
  obtain ⟨T3, X3, q3, st3⟩ := X0.oinit hexec hown (wks W (objW "java/lang/String" 1)) (g := (mkF m 1 #[.val (.ref a), .val (.ref b), .val (.int (Int32.ofNat o)), .val (.int (Int32.ofNat len)), .val .null, .unset] [.ref a])) rfl (by rw [hml]; rfl) (rest := []) rfl (hb hbytes d1) (W := 0) (by show 2 * 0 + 0 ≤ _; decide) (Nat.le_of_ble_eq_true rfl) (Nat.le_of_ble_eq_true rfl)
  have hh3 := q3.trans hh0
  have c4 : Steps p.tables e below (s₁.setTop (entryFrame m #[.ref a, .ref b, .int (Int32.ofNat o), .int (Int32.ofNat len), .null] 6)) (T3.setTop (mkF m 27 #[.val (.ref a), .val (.ref b), .val (.int (Int32.ofNat o)), .val (.int (Int32.ofNat len)), .val .null, .unset] [])) := (c2.trans (st3 _ (Steps.refl _))).trans (by
    refine XS.iloadN X3.here hexec rfl (hb hbytes d4) rfl ?_
    refine XS.ifYes X3.here hexec rfl (pc0 := 5) rfl (hb hbytes d5) rfl (i0_ne_t (nz32 (by omega) l0)) (by decide) rfl ?_
    exact Steps.refl _)
  obtain ⟨T5, X5, q5, st5⟩ := X3.sget hexec hown (wk W (.fieldLink "java/lang/String" 38 "java/lang/String" "COMPACT_STRINGS" "Z")) s1 (fun _ _ h => by rw [hh3]; exact h) (g := (mkF m 27 #[.val (.ref a), .val (.ref b), .val (.int (Int32.ofNat o)), .val (.int (Int32.ofNat len)), .val .null, .unset] [])) rfl (hb hbytes d27)
  have hh5 := q5.trans hh3
  have c6 : Steps p.tables e below (s₁.setTop (entryFrame m #[.ref a, .ref b, .int (Int32.ofNat o), .int (Int32.ofNat len), .null] 6)) (T5.setTop (mkF m 30 #[.val (.ref a), .val (.ref b), .val (.int (Int32.ofNat o)), .val (.int (Int32.ofNat len)), .val .null, .unset] [.int z])) := c4.trans (st5 _ (Steps.refl _))
  have c7 : Steps p.tables e below (s₁.setTop (entryFrame m #[.ref a, .ref b, .int (Int32.ofNat o), .int (Int32.ofNat len), .null] 6)) (T5.setTop (mkF m 36 #[.val (.ref a), .val (.ref b), .val (.int (Int32.ofNat o)), .val (.int (Int32.ofNat len)), .val .null, .unset] [.int (Int32.ofNat len), .int (Int32.ofNat o), .ref b])) := c6.trans (by
    refine XS.ifNo X5.here hexec rfl (hb hbytes d30) rfl (i0_eq_f hz) ?_
    refine XS.aloadN X5.here hexec rfl (hb hbytes d33) rfl rfl ?_
    refine XS.iloadN X5.here hexec rfl (hb hbytes d34) rfl ?_
    refine XS.iloadN X5.here hexec rfl (hb hbytes d35) rfl ?_
    exact Steps.refl _)
  obtain ⟨v8, T8, X8, E8, g8⟩ := X5.callS hexec (Cmp3.law l b A o len) hown (wks W (staticW "java/lang/String" 177 Cmp3.yN)) (wk W Cmp3.tab) (W := 0) (Nat.le_of_ble_eq_true rfl) (Nat.le_of_ble_eq_true rfl) (Nat.le_refl _) (by show 0 + len ≤ len; omega) (g := (mkF m 36 #[.val (.ref a), .val (.ref b), .val (.int (Int32.ofNat o)), .val (.int (Int32.ofNat len)), .val .null, .unset] [.int (Int32.ofNat len), .int (Int32.ofNat o), .ref b])) rfl (by rw [hml]; rfl) c7 (argsL := [.ref b, .int (Int32.ofNat o), .int (Int32.ofNat len)]) (rest := []) rfl rfl (by show 2 * 0 + 0 ≤ _; decide) (hb hbytes d36) (⟨rfl, hA.mv X5.warmed.alike hh5, l1, l2, hp⟩)
  obtain ⟨e8, z8⟩ := E8
  obtain ⟨rfl, N, n1, n2, n3, n4, n5, n6⟩ := NewArr.mv _ T5 s _ _ hh5.symm (Vm.Alike.refl _) rfl e8
  rw [hh5] at z8
  have hB1 := hB.keep X8.warmed.alike (n6 _ _ hB.1)
  have hne : s.heap.size ≠ a := (Nat.ne_of_lt (Array.getElem?_eq_some_iff.mp hB.1).1).symm
  have c9 : Steps p.tables e below (s₁.setTop (entryFrame m #[.ref a, .ref b, .int (Int32.ofNat o), .int (Int32.ofNat len), .null] 6)) (T8.setTop (mkF m 39 #[.val (.ref a), .val (.ref b), .val (.int (Int32.ofNat o)), .val (.int (Int32.ofNat len)), .val .null, .unset] [.ref s.heap.size])) := g8
  have c10 : Steps p.tables e below (s₁.setTop (entryFrame m #[.ref a, .ref b, .int (Int32.ofNat o), .int (Int32.ofNat len), .null] 6)) (T8.setTop (mkF m 45 #[.val (.ref a), .val (.ref b), .val (.int (Int32.ofNat o)), .val (.int (Int32.ofNat len)), .val .null, .val (.ref s.heap.size)] [.int (Int32.ofNat N.slots.size), .ref s.heap.size, .ref a])) := by
    have hc : Steps p.tables e below (s₁.setTop (entryFrame m #[.ref a, .ref b, .int (Int32.ofNat o), .int (Int32.ofNat len), .null] 6)) (T8.setTop (mkF m 45 #[.val (.ref a), .val (.ref b), .val (.int (Int32.ofNat o)), .val (.int (Int32.ofNat len)), .val .null, .val (.ref s.heap.size)] [.int (Int32.ofNat len), .ref s.heap.size, .ref a])) := c9.trans (by
      refine XS.astore X8.here hexec rfl (hb hbytes d39) rfl rfl rfl ?_
      refine XS.aloadN X8.here hexec rfl (hb hbytes d41) rfl rfl ?_
      refine XS.aload X8.here hexec rfl (hb hbytes d42) rfl rfl ?_
      refine XS.iloadN X8.here hexec rfl (hb hbytes d44) rfl ?_
      exact Steps.refl _)
    rw [n4]; exact hc
  obtain ⟨v11, T11, X11, E11, g11⟩ := X8.callS hexec (CodL.law l s.heap.size N) hown (wks W (staticW "java/lang/String" 47 CodL.yN)) (wk W CodL.tab) (W := 1) (Nat.le_of_ble_eq_true rfl) (Nat.le_of_ble_eq_true rfl) (Nat.le_refl _) (by show 0 + len + 0 ≤ len; omega) (g := (mkF m 45 #[.val (.ref a), .val (.ref b), .val (.int (Int32.ofNat o)), .val (.int (Int32.ofNat len)), .val .null, .val (.ref s.heap.size)] [.int (Int32.ofNat N.slots.size), .ref s.heap.size, .ref a])) rfl (by rw [hml]; rfl) c10 (argsL := [.ref s.heap.size, .int (Int32.ofNat N.slots.size)]) (rest := [.ref a]) rfl rfl (by show 2 * 0 + (1 + 0) ≤ _; decide) (hb hbytes d45) (⟨rfl, n1⟩)
  obtain ⟨rfl, q11⟩ := E11
  have hB11 := hB1.mv (X8.warmed.alike.symm.trans X11.warmed.alike) q11
  have c12 : Steps p.tables e below (s₁.setTop (entryFrame m #[.ref a, .ref b, .int (Int32.ofNat o), .int (Int32.ofNat len), .null] 6)) (T11.setTop (mkF m 48 #[.val (.ref a), .val (.ref b), .val (.int (Int32.ofNat o)), .val (.int (Int32.ofNat len)), .val .null, .val (.ref s.heap.size)] [.int 0, .ref a])) := g11
  obtain ⟨T13, X13, p13, bl13, sl13, st13⟩ := X11.finit hexec hown (wk W (.fieldLink "java/lang/String" 15 "java/lang/String" "coder" "B")) (Or.inr ⟨_, (wk W (.laysFinal "java/lang/String" "java/lang/String" "coder" "B"))⟩) (Or.inl ⟨rfl, hnm⟩) f2 (Or.inl rfl) hB11 (t := .byte) (by decide +kernel) rfl (g := (mkF m 48 #[.val (.ref a), .val (.ref b), .val (.int (Int32.ofNat o)), .val (.int (Int32.ofNat len)), .val .null, .val (.ref s.heap.size)] [.int 0, .ref a])) rfl (rest := []) rfl (hb hbytes d48)
  have c14 : Steps p.tables e below (s₁.setTop (entryFrame m #[.ref a, .ref b, .int (Int32.ofNat o), .int (Int32.ofNat len), .null] 6)) (T13.setTop (mkF m 54 #[.val (.ref a), .val (.ref b), .val (.int (Int32.ofNat o)), .val (.int (Int32.ofNat len)), .val .null, .val (.ref s.heap.size)] [.ref s.heap.size, .ref a])) := (c12.trans (st13 _ (Steps.refl _))).trans (by
    refine XS.aloadN X13.here hexec rfl (hb hbytes d51) rfl rfl ?_
    refine XS.aload X13.here hexec rfl (hb hbytes d52) rfl rfl ?_
    exact Steps.refl _)
  obtain ⟨T15, X15, p15, bl15, sl15, st15⟩ := X13.finit hexec hown (wk W (.fieldLink "java/lang/String" 9 "java/lang/String" "value" "[B")) (Or.inr ⟨_, (wk W (.laysFinal "java/lang/String" "java/lang/String" "value" "[B"))⟩) (Or.inl ⟨rfl, hnm⟩) f1 (Or.inl rfl) bl13 (t := (.array .byte)) (by decide +kernel) rfl (g := (mkF m 54 #[.val (.ref a), .val (.ref b), .val (.int (Int32.ofNat o)), .val (.int (Int32.ofNat len)), .val .null, .val (.ref s.heap.size)] [.ref s.heap.size, .ref a])) rfl (rest := []) rfl (hb hbytes d54)
  have c16 : Steps p.tables e below (s₁.setTop (entryFrame m #[.ref a, .ref b, .int (Int32.ofNat o), .int (Int32.ofNat len), .null] 6)) (T15.setTop (mkF m 57 #[.val (.ref a), .val (.ref b), .val (.int (Int32.ofNat o)), .val (.int (Int32.ofNat len)), .val .null, .val (.ref s.heap.size)] [])) := c14.trans (st15 _ (Steps.refl _))
  have ap := apart (Or.inr ⟨_, (wk W (.laysFinal "java/lang/String" "java/lang/String" "value" "[B"))⟩) (Or.inr ⟨_, (wk W (.laysFinal "java/lang/String" "java/lang/String" "coder" "B"))⟩) f1 f2 (t₁ := .array .byte) (t₂ := .byte) (by decide +kernel) (by decide +kernel) (by decide)
  have al := X8.warmed.alike.symm.trans X15.warmed.alike
  have n7 : T11.heap[s.heap.size]? = some N := by rw [q11]; exact n1.1
  exact ⟨T15, none, _, _, _, X15, by simp, rfl, by omega, (fun _ => rfl), ⟨rfl, _, N, bl15, ((Same.refl D _).set _ (by simp)).set _ (by simp), sl15, (Cell.slots_setSlot_ne _ ap).trans sl13, n1.keep al (p15.other hne (p13.other hne n7)), n2, by rw [al.findClass]; exact n3, n4, n5, fun y c h1 h2 => p15.other h1 (p13.other h1 (by rw [q11]; exact n6 y c h2)), by rw [p15.2.2, p13.2.2, q11]; exact z8⟩, fun fs hl => c16.trans (X15.returnOut hexec hret (hb hbytes d57) hl)⟩
end New4
namespace New1
def yN : MethodName := ⟨"java/lang/String", "<init>", "([C)V"⟩
abbrev yB : ByteArray := jdk_42_method_3_code
theorem d0 : decode yB 0 = .ok (.aload_n 0, 1) := by decide +kernel
theorem d1 : decode yB 1 = .ok (.aload_n 1, 1) := by decide +kernel
theorem d2 : decode yB 2 = .ok (.iconst 0, 1) := by decide +kernel
theorem d3 : decode yB 3 = .ok (.aload_n 1, 1) := by decide +kernel
theorem d4 : decode yB 4 = .ok (.arraylength, 1) := by decide +kernel
theorem d5 : decode yB 5 = .ok (.aconst_null, 1) := by decide +kernel
theorem d6 : decode yB 6 = .ok (.invokespecial 27, 3) := by decide +kernel
theorem d9 : decode yB 9 = .ok (.return_, 1) := by decide +kernel
def site : List Cond := [New4.tab] ++ initW "java/lang/String" 27 New4.yN
def tab : Cond := tabOf yN yB 2 none site
def P (a : Addr) (D : Cell) (fV fC : Field) (b : Addr) (A : Cell) (z : Int32) (args : Array Value) (s : State) : Prop := args = #[.ref a, .ref b] ∧ Blank "java/lang/String" a D s ∧ Found "java/lang/String" "value" "[B" fV s ∧ Found "java/lang/String" "coder" "B" fC s ∧ Ch b A s ∧ StaticIs s "java/lang/String" "COMPACT_STRINGS" "Z" (.int z) ∧ ¬ z = 0 ∧ 0 < A.slots.size ∧ A.slots.size ≤ 536870912 ∧ ∀ i, i < A.slots.size → ¬ 255 < cv A i
def E (a : Addr) (D : Cell) (fV fC : Field) (A : Cell) (r : Option Value) (s u : State) : Prop := Got a D fV fC A 0 A.slots.size r s u
/-- new String(chars), not empty, no char above 255: a Latin-1 String of their low bytes -/
theorem law (l : Launch) (a : Addr) (D : Cell) (fV fC : Field) (b : Addr) (A : Cell) (z : Int32) : Law l yN 2 1 3 52 yB 2 none site (P a D fV fC b A z) (E a D fV fC A) [⟨a, fC.slot⟩, ⟨a, fV.slot⟩] 1 A.slots.size := by
  refine Law.of_walk (plainFor_of_name (by decide +kernel)) (by decide +kernel) (by decide +kernel) (by decide) (fun _ _ h => by rw [h.1]; rfl) (fun _ U U' hal hh h => ⟨h.1, h.2.1.mv hal hh, h.2.2.1.al hal, h.2.2.2.1.al hal, h.2.2.2.2.1.mv hal hh, h.2.2.2.2.2.1.there hal hh, h.2.2.2.2.2.2⟩) (fun r U U' V V' h1 hal h2 h => Got.mv r U U' V V' h1 hal h2 h) ?_
  intro p e s m args below meth c s₁ X0 hexec hbytes hml hret hlk hnm hown hh0 W hP
  obtain ⟨rfl, hB, f1, f2, hA, s1, hz, l0, l2, hp⟩ := hP
  have c1 : Steps p.tables e below (s₁.setTop (entryFrame m #[.ref a, .ref b] 2)) (s₁.setTop (mkF m 0 #[.val (.ref a), .val (.ref b)] [])) := entry rfl
  have c2 : Steps p.tables e below (s₁.setTop (entryFrame m #[.ref a, .ref b] 2)) (s₁.setTop (mkF m 6 #[.val (.ref a), .val (.ref b)] [.null, .int (Int32.ofNat A.slots.size), .int 0, .ref b, .ref a])) := c1.trans (by
    refine XS.aloadN X0.here hexec rfl (hb hbytes d0) rfl rfl ?_
    refine XS.aloadN X0.here hexec rfl (hb hbytes d1) rfl rfl ?_
    refine iconstV X0.here hexec rfl 0 (hb hbytes d2) (by decide) ?_
    refine XS.aloadN X0.here hexec rfl (hb hbytes d3) rfl rfl ?_
    refine X0.alen hexec (hA.1.mv X0.warmed.alike hh0) rfl rfl (hb hbytes d4) ?_
    refine XS.aconstNull X0.here hexec rfl (hb hbytes d5) ?_
    exact Steps.refl _)
  obtain ⟨v3, T3, X3, E3, g3⟩ := X0.callN hexec (New4.law l a D fV fC b A z 0 A.slots.size) rfl hown (wks W (initW "java/lang/String" 27 New4.yN)) (W New4.tab (by simp only [site, List.mem_cons, List.mem_append, true_or, or_true])) (W := 0) (Nat.le_of_ble_eq_true rfl) (Nat.le_of_ble_eq_true rfl) (Nat.le_refl _) (by show 0 + A.slots.size ≤ A.slots.size; omega) (g := (mkF m 6 #[.val (.ref a), .val (.ref b)] [.null, .int (Int32.ofNat A.slots.size), .int (Int32.ofNat 0), .ref b, .ref a])) rfl (by rw [hml]; rfl) c2 (argsL := [.ref b, .int (Int32.ofNat 0), .int (Int32.ofNat A.slots.size), .null]) (rest := []) rfl rfl (by show 2 * 0 + 0 ≤ _; decide) (hb hbytes d6) (⟨rfl, hB.mv X0.warmed.alike hh0, f1.al X0.warmed.alike, f2.al X0.warmed.alike, hA.mv X0.warmed.alike hh0, s1.there X0.warmed.alike hh0, hz, l0, by omega, l2, fun i hi => by rw [Nat.zero_add]; exact hp i hi⟩)
  have e0 := Got.mv _ s₁ s _ _ hh0.symm (Vm.Alike.refl _) rfl E3
  obtain rfl := e0.1
  have c4 : Steps p.tables e below (s₁.setTop (entryFrame m #[.ref a, .ref b] 2)) (T3.setTop (mkF m 9 #[.val (.ref a), .val (.ref b)] [])) := g3
  exact ⟨T3, none, _, _, _, X3, by simp, rfl, by omega, (fun _ => rfl), e0, fun fs hl => c4.trans (X3.returnOut hexec hret (hb hbytes d9) hl)⟩
theorem pays {l : Launch} {R : Room} {p : Program} {e : Env} {below : List Frame} {s : State} {sargs : Array Value} {len W : Nat} (a : Addr) (D : Cell) (fV fC : Field) (b : Addr) (A : Cell) (z : Int32) (htab : tab.before sargs s = true) (hfr : 4 ≤ R.frames) (hlo : W + 65 ≤ R.locals) :
    Back l R p e below s sargs yN len W (fun A₁ a₁ => A₁.cells + 1 ≤ R.cells ∧ A₁.slots + A.slots.size ≤ R.slots ∧ P a D fV fC b A z a₁ A₁.U) (fun A₁ _ v₁ B₁ => E a D fV fC A v₁ A₁.U B₁.U ∧ B₁.locs = A₁.locs ++ [⟨a, fC.slot⟩, ⟨a, fV.slot⟩] ∧ B₁.cells = A₁.cells + 1 ∧ B₁.slots = A₁.slots + A.slots.size) :=
  (law l a D fV fC b A z).pays htab hfr (by omega)
end New1
/-- the byte, read back as charAt reads it, is the char -/
theorem lo8_mask {x : Int32} (h0 : ¬ x < 0) (h1 : ¬ 255 < x) : lo8 x &&& 255 = x := by
  have t : ∀ k : Fin 256, lo8 (Int32.ofNat k.val) &&& 255 = Int32.ofNat k.val := by decide +kernel
  rw [Int32.lt_iff_toInt_lt] at h0 h1
  have e0 : (0 : Int32).toInt = 0 := rfl
  have e1 : (255 : Int32).toInt = 255 := rfl
  obtain ⟨k, hk⟩ : ∃ k : Nat, x.toInt = k := ⟨x.toInt.toNat, by omega⟩
  have hx : x = Int32.ofNat k := Int32.toInt_inj.mp (by rw [hk, Int32.toInt_ofNat_small (by omega)])
  rw [hx]
  exact t ⟨k, by omega⟩
end StrChars
namespace StrChars.Road
open Jvm Sem ClassFile Op Lib Jvm.Stand Jvm.Free Jvm.Free.XT
open Jvm.Lib.Cold (StaticIs)
abbrev ST : String := "java/lang/String"
/-- every table word that New1's law asks, flat -/
abbrev words : List Jvm.Cond := [.code New1.yN New1.yB 2 none, .initialized ST, .methodLink ST 27 New4.yN, .instanceMethod New4.yN,
  .code New4.yN New4.yB 6 none, .fieldLink ST 38 ST "COMPACT_STRINGS" "Z", .laysFinal ST ST "value" "[B", .fieldLink ST 9 ST "value" "[B", .laysFinal ST ST "coder" "B", .fieldLink ST 15 ST "coder" "B",
  .methodLink ST 1 Lib.objectInit, .instanceMethod Lib.objectInit, .code Lib.objectInit ⟨#[0xb1]⟩ 1 none, .methodLink ST 177 Cmp3.yN, .static Cmp3.yN, .methodLink ST 47 CodL.yN, .static CodL.yN,
  .code Cmp3.yN Cmp3.yB 6 (some (.array .byte)), .initialized U16, .arrayClass .byte, .methodLink U16 115 Cmp5.yN, .static Cmp5.yN, .code Cmp5.yN Cmp5.yB 7 (some .int), .code CodL.yN CodL.yB 2 (some .byte)]
theorem tab_of {a : Array Value} {s : State} (h : ∀ w ∈ words, w.before a s = true) : New1.tab.before a s = true := by
  have h5 : Cmp5.tab.before a s = true := unparts (wk h (.code Cmp5.yN Cmp5.yB 7 (some .int))) (wks h (.initialized Cmp5.yN.cls :: Cmp5.site))
  have hc : CodL.tab.before a s = true := unparts (wk h (.code CodL.yN CodL.yB 2 (some .byte))) (wks h (.initialized CodL.yN.cls :: CodL.site))
  have q5 : ∀ w ∈ Cmp5.tab :: words, w.before a s = true := fun w hw => (List.mem_cons.mp hw).elim (fun e => e ▸ h5) (h w)
  have h3 : Cmp3.tab.before a s = true := unparts (wk q5 (.code Cmp3.yN Cmp3.yB 6 (some (.array .byte)))) (wks q5 (.initialized Cmp3.yN.cls :: Cmp3.site))
  have q3 : ∀ w ∈ Cmp3.tab :: CodL.tab :: words, w.before a s = true := fun w hw => (List.mem_cons.mp hw).elim (fun e => e ▸ h3) fun hw => (List.mem_cons.mp hw).elim (fun e => e ▸ hc) (h w)
  have h4 : New4.tab.before a s = true := unparts (wk q3 (.code New4.yN New4.yB 6 none)) (wks q3 (.initialized New4.yN.cls :: New4.site))
  have q4 : ∀ w ∈ New4.tab :: words, w.before a s = true := fun w hw => (List.mem_cons.mp hw).elim (fun e => e ▸ h4) (h w)
  exact unparts (wk q4 (.code New1.yN New1.yB 2 none)) (wks q4 (.initialized New1.yN.cls :: New1.site))
/-- the words ride from the start Z to the walk's own state -/
theorem moved {Z s : State} {a0 args : Array Value} (hZ : Z.Warmed39 s.vm) (hw : ∀ d ∈ words, d.before a0 Z = true) : ∀ d ∈ words, d.before args s = true := fun d hd => by
  have q := hw d hd
  have t : ∀ d ∈ words, d = .arrayClass .byte ∨ (d.onTables && d.keepsFace) = true := by decide +kernel
  rcases t d hd with rfl | t
  · exact RoadKit.mvA hZ q
  · exact RoadKit.mv hZ q t
/-- WHAT COMES BACK, over the tables of the start Z: h the heap at the call, h' behind it -/
def Q (Z : State) (x : Addr) (A : Cell) (h : Heap) (v : Option Value) (h' : Heap) (L : List Loc) : Prop := v = none ∧ (∀ y ∈ L, y.base = x) ∧ RoadKit.Keep h h' [x] ∧ h'.size = h.size + 1 ∧ RoadKit.Exa Z h' x ST ∧ RoadKit.Fld Z h' x ST "value" "[B" (.ref h.size) ∧ RoadKit.Fld Z h' x ST "coder" "B" (.int 0) ∧
  (∃ V : Cell, RoadKit.Arr Z h' h.size V .byte ∧ V.vm = .none ∧ Z.vm.findClass "[B" = some V.cls ∧ V.slots.size = A.slots.size ∧ ∀ j, j < A.slots.size → V.slots[j]? = some (.int (lo8 (cv A j)))) ∧
  ∀ (O n d : String) (w : Value), RoadKit.Fld Z h x O n d w → RoadKit.slotOf Z O n d ≠ RoadKit.slotOf Z ST "value" "[B" → RoadKit.slotOf Z O n d ≠ RoadKit.slotOf Z ST "coder" "B" → RoadKit.Fld Z h' x O n d w
/-- **new String(chars) AT A CALL, IN THE ROAD'S FORM**: for specialBack behind newO: x the fresh String, b the char[] with the cell A -/
theorem back {p : Program} {l : Launch} {e : Env} {R : Room} {s : State} {args : Array Value} {below : List Frame} {len W : Nat} {Z : State} {a0 : Array Value} {h : Heap} (hZ : Z.Warmed39 s.vm) (hw : ∀ d ∈ words, d.before a0 Z = true) {kI : Nat} (wi : (Jvm.Cond.instantiable ST kI).before a0 Z = true)
    {x b : Addr} {A : Cell} {z : Int32} {v0 c0 : Value} (E : RoadKit.Exa Z h x ST) (V : RoadKit.Fld Z h x ST "value" "[B" v0) (C : RoadKit.Fld Z h x ST "coder" "B" c0) (K : RoadKit.Arr Z h b A .char) (hty : Typed .char A) (S : RoadKit.Sta Z h ST "COMPACT_STRINGS" "Z" (.int z)) (hz : ¬ z = 0)
    (l0 : 0 < A.slots.size) (l2 : A.slots.size ≤ 536870912) (hp : ∀ i, i < A.slots.size → ¬ 255 < cv A i) (hfr : 4 ≤ R.frames) (hlo : W + 65 ≤ R.locals) :
    Back l R p e below s args New1.yN len W (fun P a => a = #[.ref x, .ref b] ∧ P.U.heap = h ∧ P.cells + 1 ≤ R.cells ∧ P.slots + A.slots.size ≤ R.slots)
      (fun P _ v B => ∃ L, Q Z x A h v B.U.heap L ∧ B.locs = P.locs ++ L ∧ B.cells = P.cells + 1 ∧ B.slots = P.slots + A.slots.size) := by
  intro m meth c P g ig mk a X hg hsize hdg hW hn hp'
  obtain ⟨rfl, rfl, r1, r2⟩ := hp'
  have al : Z.vm.Alike P.U.vm := hZ.alike.trans X.warmed.alike
  obtain ⟨D, cfV, kV, iV, fV, hD, gV, stV, knV, obV, asV, slV⟩ := id V
  obtain ⟨D', cfC, kC, iC, fC, hD', gC, stC, -, -, asC, slC⟩ := id C
  cases hD.symm.trans hD'
  obtain ⟨D2, kD, e1, e2, e3, e4, e5⟩ := id E
  cases hD.symm.trans e1
  obtain ⟨c2, k2, i1, i2, i3, -⟩ := Cond.instantiable_spec wi
  cases e2.symm.trans i1
  cases e3.symm.trans i2
  obtain ⟨kU, u1, u2⟩ := al.2.2 _ _ e3
  have hB : Blank ST x D P.U := ⟨hD, ⟨knV, fun q hq => by rw [hq] at obV; cases obV⟩, by rw [al.findClass]; exact e2, kU, u1, by rw [u2]; exact i3, by rw [u2]; exact e5 i3⟩
  have F1 : Found ST "value" "[B" fV P.U := ⟨SBG.found_only al ⟨cfV, kV, iV, gV⟩, stV⟩
  have F2 : Found ST "coder" "B" fC P.U := ⟨SBG.found_only al ⟨cfC, kC, iC, gC⟩, stC⟩
  have hA : Ch b A P.U := ⟨⟨K.1, State.isArrayOf_alike al K.2.1, K.2.2, by omega⟩, hty⟩
  have hS : StaticIs P.U ST "COMPACT_STRINGS" "Z" (.int z) := by
    obtain ⟨cfS, iS, kS, fS, st, cS, t1, t2, t3, t4, t5, t6, t7⟩ := S
    exact StaticIs.there (s := { Z with heap := P.U.heap }) ⟨cfS, iS, kS, fS, st, cS, t1, t2, t3, t4, t5, (fun q => by rw [q] at t6; cases t6), t7⟩ al rfl
  obtain ⟨v, B, X', ⟨⟨hv, E', V', q1, q2, q3, q4, q5, q6, q7, q8, q9, q10, q11⟩, hl, hc, hs⟩, st⟩ := New1.pays x D fV fC b A z (tab_of (moved hZ hw)) hfr hlo m meth c P g ig mk _ X hg hsize hdg hW hn ⟨r1, r2, rfl, hB, F1, F2, hA, hS, hz, l0, l2, hp⟩
  have al' : Z.vm.Alike B.U.vm := hZ.alike.trans X'.warmed.alike
  have hsz : E'.slots.size = D.slots.size := by
    obtain ⟨-, -, -, kB, w1, w2, w3⟩ := q1
    obtain ⟨kB', y1, y2⟩ := al'.2.2 _ _ e3
    rw [q2.2.1] at w1
    cases w1.symm.trans y1
    rw [w3, e5 i3, y2]
  refine ⟨v, B, X', ⟨_, ⟨hv, ?_, ⟨by omega, fun y cy hy hn' => q10 y cy (by simpa using hn') hy, fun y cy hy => ?_⟩, q11, ⟨E', _, q1.1, by rw [q2.2.1]; exact e2, by rw [q2.2.1]; exact e3, by rw [q2.1]; exact obV, fun _ => by rw [hsz]; exact e5 i3⟩,
    ⟨E', cfV, kV, iV, fV, q1.1, gV, stV, by rw [q2.1]; exact knV, by rw [q2.1]; exact obV, by rw [q2.2.1]; exact asV, q3⟩, ⟨E', cfC, kC, iC, fC, q1.1, gC, stC, by rw [q2.1]; exact knV, by rw [q2.1]; exact obV, by rw [q2.2.1]; exact asC, q4⟩,
    ⟨V', ⟨q5.1, State.isArrayOf_alike al'.symm q5.2.1, q5.2.2.1⟩, q6, by rw [← al'.findClass]; exact q7, q8, fun j hj => by have := q9 j hj; rwa [Nat.zero_add] at this⟩, fun O n d w F n1 n2 => ?_⟩, hl, hc, hs⟩, st⟩
  · intro y hy
    simp only [List.mem_cons, List.not_mem_nil, or_false] at hy
    rcases hy with rfl | rfl <;> rfl
  · by_cases q : y = x
    · subst q
      cases hD.symm.trans hy
      exact ⟨E', q1.1, q2.2.1, q2.1, hsz⟩
    · exact ⟨cy, q10 y cy q hy, rfl, rfl, rfl⟩
  · obtain ⟨D3, cf, k, i, f, g1, g2, g3, g4, g5, g6, g7⟩ := F
    cases hD.symm.trans g1
    simp only [RoadKit.slotOf, g2, gV, gC, Option.map_some, Option.getD_some] at n1 n2
    exact ⟨E', cf, k, i, f, q1.1, g2, g3, by rw [q2.1]; exact g4, by rw [q2.1]; exact g5, by rw [q2.2.1]; exact g6, by rw [q2.2.2 f.slot (by simp [n1, n2])]; exact g7⟩
end StrChars.Road
namespace StrChars.Road
open Jvm Sem ClassFile Op Lib Jvm.Stand Jvm.Free Jvm.Free.XT
/-- WHAT COMES BACK, the byte[] as a list of values -/
def QA (Z : State) (x : Addr) (zn : Int32) (cs : List Int32) (h : Heap) (v : Option Value) (h' : Heap) (L : List Loc) : Prop := v = none ∧ (∀ y ∈ L, y.base = x) ∧ RoadKit.Keep h h' [x] ∧ h'.size = h.size + 1 ∧ RoadKit.Exa Z h' x ST ∧ RoadKit.Fld Z h' x ST "value" "[B" (.ref h.size) ∧ RoadKit.Fld Z h' x ST "coder" "B" (.int 0) ∧
  (∃ kb, Z.vm.findClass "[B" = some kb ∧ RoadKit.Arv Z h' h.size kb .byte zn (cs.map fun c => .int (lo8 c)) (.int 0)) ∧
  ∀ (O n d : String) (w : Value), RoadKit.Fld Z h x O n d w → RoadKit.slotOf Z O n d ≠ RoadKit.slotOf Z ST "value" "[B" → RoadKit.slotOf Z O n d ≠ RoadKit.slotOf Z ST "coder" "B" → RoadKit.Fld Z h' x O n d w
/-- **new String(chars) AT A CALL, THE ARRAYS AS LISTS**: the char[] at b holds cs, not empty, no char above 255 -/
theorem backArv {p : Program} {l : Launch} {e : Env} {R : Room} {s : State} {args : Array Value} {below : List Frame} {len W : Nat} {Z : State} {a0 : Array Value} {h : Heap} (hZ : Z.Warmed39 s.vm) (hw : ∀ d ∈ words, d.before a0 Z = true) {kI : Nat} (wi : (Jvm.Cond.instantiable ST kI).before a0 Z = true)
    {x b : Addr} {k : ClassId} {zn z : Int32} {cs : List Int32} {dv v0 c0 : Value} (E : RoadKit.Exa Z h x ST) (V : RoadKit.Fld Z h x ST "value" "[B" v0) (C : RoadKit.Fld Z h x ST "coder" "B" c0) (K : RoadKit.Arv Z h b k .char zn (cs.map Value.int) dv) (S : RoadKit.Sta Z h ST "COMPACT_STRINGS" "Z" (.int z)) (hz : ¬ z = 0)
    (hlen : zn.toNatClampNeg = cs.length) (h0 : 0 < cs.length) (hbig : cs.length ≤ 536870912) (hall : ∀ c ∈ cs, ¬ 255 < c) (hfr : 4 ≤ R.frames) (hlo : W + 65 ≤ R.locals) :
    Back l R p e below s args New1.yN len W (fun P a => a = #[.ref x, .ref b] ∧ P.U.heap = h ∧ P.cells + 1 ≤ R.cells ∧ P.slots + cs.length ≤ R.slots)
      (fun P _ v B => ∃ L, QA Z x zn cs h v B.U.heap L ∧ B.locs = P.locs ++ L ∧ B.cells = P.cells + 1 ∧ B.slots = P.slots + cs.length) := by
  obtain ⟨A, K1, K2, K3, K4, K5, K6⟩ := K
  have e : A.slots.size = cs.length := K3.trans hlen
  have hat : ∀ (i : Nat) (hi : i < cs.length), A.slots[i]? = some (.int cs[i]) := fun i hi => by rw [K5 i (by omega)]; simp [List.getD_eq_getElem?_getD, hi]
  have hcv : ∀ (i : Nat) (hi : i < cs.length), cv A i = cs[i] := fun i hi => by unfold cv; rw [hat i hi]
  have hty : Typed .char A := fun i v hv => by
    have hi : i < A.slots.size := (Array.getElem?_eq_some_iff.mp hv).1
    have q := K5 i hi
    rw [hv] at q
    rw [Option.some.inj q]
    exact K6 i hi
  refine Back.mono (back hZ hw wi E V C K1 hty S hz (by omega) (by omega) (fun i hi => by rw [hcv i (by omega)]; exact hall _ (List.getElem_mem _)) hfr hlo) (fun P a hp => ⟨hp.1, hp.2.1, hp.2.2.1, by rw [e]; exact hp.2.2.2⟩) (fun P a v B hp hq => ?_)
  obtain ⟨L, ⟨q1, q2, q3, q4, q5, q6, q7, ⟨V', v1, v2, v3, v4, v5⟩, q9⟩, hl, hc, hs⟩ := hq
  refine ⟨L, ⟨q1, q2, q3, q4, q5, q6, q7, ⟨V'.cls, v3, V', v1, rfl, by rw [v4, e, hlen], K4, fun i hi => ?_, fun i hi => ?_⟩, q9⟩, hl, hc, by rw [hs, e]⟩
  · have hi' : i < cs.length := by omega
    rw [v5 i (by omega), hcv i hi']; simp [List.getD_eq_getElem?_getD, hi']
  · have hi' : i < cs.length := by omega
    simp only [List.getD_eq_getElem?_getD, List.getElem?_map, List.getElem?_eq_getElem hi', Option.map_some, Option.getD_some]
    exact fits_lo8 _
end StrChars.Road
namespace StrChars.Road
open Jvm Sem ClassFile Op Lib Jvm.Stand Jvm.Free Jvm.Free.XT
/-- WHAT COMES BACK, in the writer's own shape -/
def QV (Z : State) (x : Addr) (N : Int32) (bs : List Int32) (h : Heap) (n0 : Nat) (v : Option Value) (h' : Heap) (L : List Loc) : Prop := v = none ∧ RoadKit.Fr n0 L ∧ RoadKit.Keep h h' [x] ∧ RoadKit.Exa Z h' x ST ∧ RoadKit.Fld Z h' x ST "coder" "B" (.int 0) ∧
  ∃ (t : Addr) (kb : ClassId), n0 ≤ t ∧ h.size ≤ t ∧ ¬ t = x ∧ RoadKit.Fld Z h' x ST "value" "[B" (.ref t) ∧ RoadKit.Arv Z h' t kb .byte N (bs.map Value.int) (.int 0)
/-- **new String(chars) AT A CALL, FOR THE WRITER**: a char[] of n known ints, each 0 to 255 -/
theorem backV {p : Program} {l : Launch} {e : Env} {R : Room} {s : State} {args : Array Value} {below : List Frame} {len W : Nat} {Z : State} {a0 : Array Value} {h : Heap} (hZ : Z.Warmed39 s.vm) (hw : ∀ d ∈ words, d.before a0 Z = true) {kI : Nat} (wi : (Jvm.Cond.instantiable ST kI).before a0 Z = true)
    {x b : Addr} {kC : ClassId} {cs bs : List Int32} {d v0 c0 : Value} {z N : Int32} {n n0 : Nat} (hx0 : n0 ≤ x) (hh0 : n0 ≤ h.size) (E : RoadKit.Exa Z h x ST) (V : RoadKit.Fld Z h x ST "value" "[B" v0) (C : RoadKit.Fld Z h x ST "coder" "B" c0) (K : RoadKit.Arv Z h b kC .char N (cs.map Value.int) d) (S : RoadKit.Sta Z h ST "COMPACT_STRINGS" "Z" (.int z)) (hz : ¬ z = 0)
    (hn : cs.length = n) (hN : N = Int32.ofNat n) (l0 : 0 < n) (l2 : n ≤ 4000) (hp : ∀ c ∈ cs, ¬ c < 0 ∧ ¬ (255 : Int32) < c) (hb : bs = cs.map (fun c => c.toInt8.toInt32)) (hfr : 4 ≤ R.frames) (hlo : W + 65 ≤ R.locals) :
    Back l R p e below s args (⟨"java/lang/String", "<init>", "([C)V"⟩ : MethodName) len W (fun P a => a = #[.ref x, .ref b] ∧ P.U.heap = h ∧ P.cells + 1 ≤ R.cells ∧ P.slots + n ≤ R.slots)
      (fun P _ v B => ∃ L, QV Z x N bs h n0 v B.U.heap L ∧ B.locs = P.locs ++ L ∧ B.cells = P.cells + 1 ∧ B.slots = P.slots + n) := by
  subst hn hN hb
  refine Back.mono (backArv hZ hw wi E V C K S hz (n32 (by omega)) l0 (by omega) (fun c hc => (hp c hc).2) hfr hlo) (fun P a hp => hp) (fun P a v B hp hq => ?_)
  obtain ⟨L, ⟨q1, q2, q3, q4, q5, q6, q7, ⟨kb, v1, v2⟩, q9⟩, hl, hc, hs⟩ := hq
  exact ⟨L, ⟨q1, fun y hy => by rw [q2 y hy]; exact hx0, q3, q5, q7, h.size, kb, hh0, Nat.le_refl _, Nat.ne_of_gt E.lt, q6, by rw [List.map_map]; exact v2⟩, hl, hc, hs⟩
end StrChars.Road
namespace StrChars
open Jvm Sem ClassFile Op Lib Jvm.Stand Jvm.Free.XT Jvm.Free.ALB Jvm.Free.JM Jvm.Free
open Jvm.Lib.Cold (StaticIs)
def hi8 (x : Int32) : Int32 := lo8 (x >>> ((8 : Int32) &&& 31))
/-- what StringUTF16.getChar makes of two bytes -/
def pairCh (u v : Int32) : Int32 := (((u &&& 255) <<< ((0 : Int32) &&& 31)) ||| ((v &&& 255) <<< ((8 : Int32) &&& 31))).toUInt32.toUInt16.toUInt32.toInt32
theorem shr0 (c : Int32) : c >>> ((0 : Int32) &&& 31) = c := by
  have e : ((0 : Int32) &&& 31) = 0 := by decide
  rw [e]
  apply Int32.toBitVec_inj.mp
  rw [Int32.toBitVec_shiftRight]
  have e1 : ((0 : Int32).toBitVec.smod 32) = 0#32 := by decide
  rw [e1, BitVec.sshiftRight_eq']
  exact BitVec.sshiftRight_zero
theorem lo8_and (x : Int32) : (lo8 x &&& 255).toBitVec.toNat = x.toBitVec.toNat % 256 := by
  have h : (lo8 x).toBitVec = (x.toBitVec.signExtend 8).signExtend 32 := by rw [lo8, Int8.toBitVec_toInt32, Int32.toBitVec_toInt8]
  rw [Int32.toBitVec_and, BitVec.toNat_and, h]
  have e : ((x.toBitVec.signExtend 8).signExtend 32).toNat % 256 = x.toBitVec.toNat % 256 := by
    rw [BitVec.toNat_signExtend]
    have hlt := x.toBitVec.isLt
    simp only [BitVec.toNat_setWidth, BitVec.toNat_signExtend]
    split <;> split <;> omega
  rw [← e]
  exact Nat.and_two_pow_sub_one_eq_mod _ 8
theorem pair_says {c : Int32} (h0 : ¬ c < 0) (h1 : ¬ 65535 < c) : pairCh (lo8 c) (hi8 c) = c := by
  rw [Int32.lt_iff_toInt_lt] at h0 h1
  have e0 : (0 : Int32).toInt = 0 := rfl
  have e1 : (65535 : Int32).toInt = 65535 := rfl
  have hc : c.toInt = c.toBitVec.toNat := by
    have := c.toBitVec.isLt
    have e : c.toInt = c.toBitVec.toInt := rfl
    rw [e] at h0 h1
    rw [e]
    rw [BitVec.toInt_eq_toNat_cond] at h0 h1 ⊢
    split at h0 <;> split <;> omega
  have hn : c.toBitVec.toNat < 65536 := by omega
  have a1 := lo8_and c
  have a2 : (hi8 c &&& 255).toBitVec.toNat = c.toBitVec.toNat / 256 := by
    rw [hi8, lo8_and]
    have e : ((8 : Int32) &&& 31) = 8 := by decide
    rw [e, Int32.toBitVec_shiftRight]
    have e2 : ((8 : Int32).toBitVec.smod 32) = 8#32 := by decide
    rw [e2, BitVec.sshiftRight_eq', BitVec.toNat_sshiftRight_of_msb_false (by rw [BitVec.msb_eq_false_iff_two_mul_lt]; omega)]
    show c.toBitVec.toNat >>> 8 % 256 = _
    rw [Nat.shiftRight_eq_div_pow]
    omega
  unfold pairCh
  apply Int32.toBitVec_inj.mp
  apply BitVec.eq_of_toNat_eq
  have f0 : ((0 : Int32) &&& 31) = 0 := by decide
  have f8 : ((8 : Int32) &&& 31) = 8 := by decide
  rw [f0, f8]
  have g : (((lo8 c &&& 255) <<< (0 : Int32)) ||| ((hi8 c &&& 255) <<< (8 : Int32))).toBitVec.toNat = c.toBitVec.toNat := by
    rw [Int32.toBitVec_or, Int32.toBitVec_shiftLeft, Int32.toBitVec_shiftLeft]
    have s0 : ((0 : Int32).toBitVec.smod 32) = 0#32 := by decide
    have s8 : ((8 : Int32).toBitVec.smod 32) = 8#32 := by decide
    rw [s0, s8, BitVec.toNat_or]
    simp only [BitVec.shiftLeft_eq', BitVec.toNat_shiftLeft, a1, a2]
    show (c.toBitVec.toNat % 256) <<< 0 % 2 ^ 32 ||| (c.toBitVec.toNat / 256) <<< 8 % 2 ^ 32 = _
    rw [Nat.shiftLeft_zero, Nat.mod_eq_of_lt (show c.toBitVec.toNat % 256 < 2 ^ 32 by omega), Nat.mod_eq_of_lt (show (c.toBitVec.toNat / 256) <<< 8 < 2 ^ 32 by rw [Nat.shiftLeft_eq]; omega), Nat.or_comm, ← Nat.shiftLeft_add_eq_or_of_lt (by omega), Nat.shiftLeft_eq]
    omega
  show BitVec.toNat (((((lo8 c &&& 255) <<< (0 : Int32)) ||| ((hi8 c &&& 255) <<< (8 : Int32))).toBitVec.setWidth 16).setWidth 32) = _
  rw [BitVec.toNat_setWidth, BitVec.toNat_setWidth, g]
  omega
end StrChars
namespace StrChars
open Jvm Sem ClassFile Op Lib Jvm.Stand Jvm.Free.XT Jvm.Free.ALB Jvm.Free.JM Jvm.Free
open Jvm.Lib.Cold (StaticIs)
theorem shr1 {n : Nat} (h : 2 * n < 2 ^ 31) : Int32.ofNat (2 * n) >>> ((1 : Int32) &&& 31) = Int32.ofNat n := by
  have e : ((1 : Int32) &&& 31) = 1 := by decide
  rw [e]
  apply Int32.toBitVec_inj.mp
  rw [Int32.toBitVec_shiftRight]
  have e1 : ((1 : Int32).toBitVec.smod 32) = 1#32 := by decide
  have hm : (BitVec.ofNat 32 (2 * n)).toNat = 2 * n := by rw [BitVec.toNat_ofNat, Nat.mod_eq_of_lt (by omega)]
  rw [e1, BitVec.sshiftRight_eq']
  apply BitVec.eq_of_toNat_eq
  show ((BitVec.ofNat 32 (2 * n)).sshiftRight 1).toNat = (BitVec.ofNat 32 n).toNat
  rw [BitVec.toNat_sshiftRight_of_msb_false (by rw [BitVec.msb_eq_false_iff_two_mul_lt, hm]; omega), hm, BitVec.toNat_ofNat, Nat.shiftRight_eq_div_pow]
  omega
/-- charAt's cast of a byte read back -/
def chr8 (u : Int32) : Int32 := (u &&& 255).toUInt32.toUInt16.toUInt32.toInt32
theorem chr8_lo8 {c : Int32} (h0 : ¬ c < 0) (h1 : ¬ 255 < c) : chr8 (lo8 c) = c := by
  have t : ∀ k : Fin 256, (Int32.ofNat k.val).toUInt32.toUInt16.toUInt32.toInt32 = Int32.ofNat k.val := by decide +kernel
  unfold chr8
  rw [lo8_mask h0 h1]
  rw [Int32.lt_iff_toInt_lt] at h0 h1
  have e0 : (0 : Int32).toInt = 0 := rfl
  have e1 : (255 : Int32).toInt = 255 := rfl
  obtain ⟨k, hk⟩ : ∃ k : Nat, c.toInt = k := ⟨c.toInt.toNat, by omega⟩
  have hx : c = Int32.ofNat k := Int32.toInt_inj.mp (by rw [hk, Int32.toInt_ofNat_small (by omega)])
  rw [hx]
  exact t ⟨k, by omega⟩
/-- the array's cell V codes the n chars f 0 .. f (n - 1) by the coder cd, as the JDK does: coder 1 just where some char is above 255 -/
def Cod (cd : Int32) (n : Nat) (f : Nat → Int32) (V : Cell) : Prop := (cd = 0 ∧ V.slots.size = n ∧ ∀ j, j < n → V.slots[j]? = some (.int (lo8 (f j))) ∧ ¬ 255 < f j) ∨ (cd = 1 ∧ V.slots.size = 2 * n ∧ (∀ j, j < n → V.slots[2 * j]? = some (.int (lo8 (f j))) ∧ V.slots[2 * j + 1]? = some (.int (hi8 (f j)))) ∧ ∃ j, j < n ∧ 255 < f j)
theorem Cod.cd {cd : Int32} {n : Nat} {f : Nat → Int32} {V : Cell} (h : Cod cd n f V) : cd = 0 ∨ cd = 1 := h.imp (fun q => q.1) fun q => q.1
theorem Cod.len {cd : Int32} {n : Nat} {f : Nat → Int32} {V : Cell} (h : Cod cd n f V) (hs : V.slots.size < 2 ^ 31) : Int32.ofNat V.slots.size >>> (cd &&& 31) = Int32.ofNat n := by
  rcases h with ⟨rfl, h, -⟩ | ⟨rfl, h, -⟩
  · rw [shr0, h]
  · rw [h, shr1 (by omega)]
/-- **x is a String of the n chars f 0 .. f (n - 1)**, Latin-1 or UTF-16; its array at t has the cell V -/
def Txt (x t : Addr) (V : Cell) (cd : Int32) (n : Nat) (f : Nat → Int32) (U : State) : Prop := Exact "java/lang/String" x U ∧ Has x "java/lang/String" "value" "[B" (.ref t) U ∧ Has x "java/lang/String" "coder" "B" (.int cd) U ∧ XT.Arr .byte t V U ∧ Cod cd n f V ∧ ∀ j, j < n → ¬ f j < 0 ∧ ¬ 65535 < f j
theorem Txt.mv {x t : Addr} {V : Cell} {cd : Int32} {n : Nat} {f : Nat → Int32} {U U' : State} (h : Txt x t V cd n f U) (hal : U.vm.Alike U'.vm) (hh : U'.heap = U.heap) : Txt x t V cd n f U' := ⟨h.1.mv hal hh, h.2.1.mv hal hh, h.2.2.1.mv hal hh, h.2.2.2.1.mv hal hh, h.2.2.2.2⟩
namespace Cdr
def yN : MethodName := ⟨"java/lang/String", "coder", "()B"⟩
abbrev yB : ByteArray := jdk_42_method_152_code
theorem d0 : decode yB 0 = .ok (.getstatic 38, 3) := by decide +kernel
theorem d3 : decode yB 3 = .ok (.ifCond (.eq) 10, 3) := by decide +kernel
theorem d6 : decode yB 6 = .ok (.aload_n 0, 1) := by decide +kernel
theorem d7 : decode yB 7 = .ok (.getfield 15, 3) := by decide +kernel
theorem d10 : decode yB 10 = .ok (.goto 4, 3) := by decide +kernel
theorem d14 : decode yB 14 = .ok (.ireturn, 1) := by decide +kernel
def site : List Cond := [.fieldLink "java/lang/String" 38 "java/lang/String" "COMPACT_STRINGS" "Z", .fieldLink "java/lang/String" 15 "java/lang/String" "coder" "B"]
def tab : Cond := tabOf yN yB 1 (some .byte) site
def P (x : Addr) (cd z : Int32) (args : Array Value) (s : State) : Prop := args = #[.ref x] ∧ Has x "java/lang/String" "coder" "B" (.int cd) s ∧ (cd = 0 ∨ cd = 1) ∧ StaticIs s "java/lang/String" "COMPACT_STRINGS" "Z" (.int z) ∧ ¬ z = 0
def E (cd : Int32) (r : Option Value) (s u : State) : Prop := XT.PureE (some (.int cd)) r s u
theorem law (l : Launch) (x : Addr) (cd z : Int32) : Law l yN 1 0 0 0 yB 1 (some .byte) site (P x cd z) (E cd) [] 0 0 := by
  refine Law.of_walk (plainFor_of_name (by decide +kernel)) (by decide +kernel) (by decide +kernel) (by decide) (fun _ _ h => by rw [h.1]; rfl) (fun _ U U' hal hh h => ⟨h.1, h.2.1.mv hal hh, h.2.2.1, h.2.2.2.1.there hal hh, h.2.2.2.2⟩) (fun r U U' V V' h1 hal h2 h => XT.PureE.mv r U U' V V' h1 hal h2 h) ?_
  intro p e s m args below meth c s₁ X0 hexec hbytes hml hret hlk hnm hown hh0 W hP
  obtain ⟨rfl, hx, hc, s1, hz⟩ := hP
  have c1 : Steps p.tables e below (s₁.setTop (entryFrame m #[.ref x] 1)) (s₁.setTop (mkF m 0 #[.val (.ref x)] [])) := entry rfl
  obtain ⟨T2, X2, q2, st2⟩ := X0.sget hexec hown (wk W (.fieldLink "java/lang/String" 38 "java/lang/String" "COMPACT_STRINGS" "Z")) s1 (fun _ _ h => by rw [hh0]; exact h) (g := (mkF m 0 #[.val (.ref x)] [])) rfl (hb hbytes d0)
  have hh2 := q2.trans hh0
  have c3 : Steps p.tables e below (s₁.setTop (entryFrame m #[.ref x] 1)) (T2.setTop (mkF m 7 #[.val (.ref x)] [.ref x])) := (c1.trans (st2 _ (Steps.refl _))).trans (by
    refine XS.ifNo X2.here hexec rfl (hb hbytes d3) rfl (i0_eq_f hz) ?_
    refine XS.aloadN X2.here hexec rfl (hb hbytes d6) rfl rfl ?_
    exact Steps.refl _)
  obtain ⟨T4, X4, q4, st4⟩ := X2.hget hexec hown (wk W (.fieldLink "java/lang/String" 15 "java/lang/String" "coder" "B")) (hx.mv X2.warmed.alike hh2) (g := (mkF m 7 #[.val (.ref x)] [.ref x])) rfl (rest := []) rfl (hb hbytes d7)
  have c5 : Steps p.tables e below (s₁.setTop (entryFrame m #[.ref x] 1)) (T4.setTop (mkF m 14 #[.val (.ref x)] [.int cd])) := (c3.trans (st4 _ (Steps.refl _))).trans (by
    refine XS.goto X4.here hexec rfl (pc0 := 10) rfl (hb hbytes d10) (by decide) rfl ?_
    exact Steps.refl _)
  exact ⟨T4, some (.int cd), _, _, _, X4, rfl, rfl, rfl, (fun h => by cases h), ⟨rfl, q4.trans hh2⟩, fun fs hl => c5.trans (X4.ireturnOut hexec hret (by rcases hc with rfl | rfl <;> rfl) (Or.inr (Or.inr (Or.inl rfl))) (hb hbytes d14) hl)⟩
end Cdr
namespace Len
def yN : MethodName := ⟨"java/lang/String", "length", "()I"⟩
abbrev yB : ByteArray := jdk_42_method_54_code
theorem d0 : decode yB 0 = .ok (.aload_n 0, 1) := by decide +kernel
theorem d1 : decode yB 1 = .ok (.getfield 9, 3) := by decide +kernel
theorem d4 : decode yB 4 = .ok (.arraylength, 1) := by decide +kernel
theorem d5 : decode yB 5 = .ok (.aload_n 0, 1) := by decide +kernel
theorem d6 : decode yB 6 = .ok (.invokevirtual 335, 3) := by decide +kernel
theorem d9 : decode yB 9 = .ok (.ishr, 1) := by decide +kernel
theorem d10 : decode yB 10 = .ok (.ireturn, 1) := by decide +kernel
def site : List Cond := [.fieldLink "java/lang/String" 9 "java/lang/String" "value" "[B", Cdr.tab] ++ virtW "java/lang/String" 335 "java/lang/String" Cdr.yN Cdr.yN
def tab : Cond := tabOf yN yB 1 (some .int) site
def P (x t : Addr) (V : Cell) (cd : Int32) (n : Nat) (f : Nat → Int32) (z : Int32) (args : Array Value) (s : State) : Prop := args = #[.ref x] ∧ Txt x t V cd n f s ∧ StaticIs s "java/lang/String" "COMPACT_STRINGS" "Z" (.int z) ∧ ¬ z = 0
def E (n : Nat) (r : Option Value) (s u : State) : Prop := XT.PureE (some (.int (Int32.ofNat n))) r s u
/-- length() of a String of n chars, in either coding -/
theorem law (l : Launch) (x t : Addr) (V : Cell) (cd : Int32) (n : Nat) (f : Nat → Int32) (z : Int32) : Law l yN 1 0 1 13 yB 1 (some .int) site (P x t V cd n f z) (E n) [] 0 0 := by
  refine Law.of_walk (plainFor_of_name (by decide +kernel)) (by decide +kernel) (by decide +kernel) (by decide) (fun _ _ h => by rw [h.1]; rfl) (fun _ U U' hal hh h => ⟨h.1, h.2.1.mv hal hh, h.2.2.1.there hal hh, h.2.2.2⟩) (fun r U U' V V' h1 hal h2 h => XT.PureE.mv r U U' V V' h1 hal h2 h) ?_
  intro p e s m args below meth c s₁ X0 hexec hbytes hml hret hlk hnm hown hh0 W hP
  obtain ⟨rfl, hx, s1, hz⟩ := hP
  have v31 := hx.2.2.2.1.2.2.2
  have c1 : Steps p.tables e below (s₁.setTop (entryFrame m #[.ref x] 1)) (s₁.setTop (mkF m 1 #[.val (.ref x)] [.ref x])) := Steps.trans (entry rfl) (by
    show Steps p.tables e below (s₁.setTop (mkF m 0 #[.val (.ref x)] [])) _
    refine XS.aloadN X0.here hexec rfl (hb hbytes d0) rfl rfl ?_
    exact Steps.refl _)
  obtain ⟨T2, X2, q2, st2⟩ := X0.hget hexec hown (wk W (.fieldLink "java/lang/String" 9 "java/lang/String" "value" "[B")) (hx.mv X0.warmed.alike hh0).2.1 (g := (mkF m 1 #[.val (.ref x)] [.ref x])) rfl (rest := []) rfl (hb hbytes d1)
  have hh2 := q2.trans hh0
  have hx2 := hx.mv X2.warmed.alike hh2
  have c3 : Steps p.tables e below (s₁.setTop (entryFrame m #[.ref x] 1)) (T2.setTop (mkF m 6 #[.val (.ref x)] [.ref x, .int (Int32.ofNat V.slots.size)])) := (c1.trans (st2 _ (Steps.refl _))).trans (by
    refine X2.alen hexec hx2.2.2.2.1 rfl rfl (hb hbytes d4) ?_
    refine XS.aloadN X2.here hexec rfl (hb hbytes d5) rfl rfl ?_
    exact Steps.refl _)
  obtain ⟨v4, T4, X4, E4, g4⟩ := X2.callV hexec (Cdr.law l x cd z) hown (wks W (virtW "java/lang/String" 335 "java/lang/String" Cdr.yN Cdr.yN)) rfl (by decide) (wk W Cdr.tab) (W := 1) (Nat.le_of_ble_eq_true rfl) (Nat.le_of_ble_eq_true rfl) (Nat.le_refl _) (Nat.le_refl _) (hx2.1.fc X2.warmed.alike) hx2.1.is (g := (mkF m 6 #[.val (.ref x)] [.ref x, .int (Int32.ofNat V.slots.size)])) rfl (by rw [hml]; rfl) c3 (argsL := []) (rest := [.int (Int32.ofNat V.slots.size)]) rfl rfl (by show 2 * 0 + (1 + 0) ≤ _; decide) (hb hbytes d6) (⟨rfl, hx2.2.2.1, hx.2.2.2.2.1.cd, s1.there X2.warmed.alike hh2, hz⟩)
  obtain ⟨rfl, q4⟩ := E4
  have c5 : Steps p.tables e below (s₁.setTop (entryFrame m #[.ref x] 1)) (T4.setTop (mkF m 10 #[.val (.ref x)] [.int (Int32.ofNat V.slots.size >>> (cd &&& 31))])) := Steps.trans g4 (by
    refine ishr X4.here hexec rfl (hb hbytes d9) rfl ?_
    exact Steps.refl _)
  rw [hx.2.2.2.2.1.len v31] at c5
  exact ⟨T4, some (.int (Int32.ofNat n)), _, _, _, X4, rfl, rfl, rfl, (fun h => by cases h), ⟨rfl, q4.trans hh2⟩, fun fs hl => c5.trans (X4.ireturnOut hexec hret rfl (Or.inl rfl) (hb hbytes d10) hl)⟩
theorem pays {l : Launch} {R : Room} {p : Program} {e : Env} {below : List Frame} {s : State} {sargs : Array Value} {len W : Nat} (x t : Addr) (V : Cell) (cd : Int32) (n : Nat) (f : Nat → Int32) (z : Int32) (htab : tab.before sargs s = true) (hfr : 2 ≤ R.frames) (hlo : W + 25 ≤ R.locals) :
    Back l R p e below s sargs yN len W (fun A₁ a₁ => A₁.cells + 0 ≤ R.cells ∧ A₁.slots + 0 ≤ R.slots ∧ P x t V cd n f z a₁ A₁.U) (fun A₁ _ v₁ B₁ => E n v₁ A₁.U B₁.U ∧ B₁.locs = A₁.locs ++ [] ∧ B₁.cells = A₁.cells + 0 ∧ B₁.slots = A₁.slots + 0) :=
  (law l x t V cd n f z).pays htab hfr (by omega)
end Len
end StrChars
namespace StrChars.Road
open Jvm Sem ClassFile Op Lib Jvm.Stand Jvm.Free Jvm.Free.XT
open Jvm.Lib.Cold (StaticIs)
theorem consq {a : Array Value} {s : State} {c : Jvm.Cond} {L : List Jvm.Cond} (h0 : c.before a s = true) (h : ∀ w ∈ L, w.before a s = true) : ∀ w ∈ c :: L, w.before a s = true := fun w hw => (List.mem_cons.mp hw).elim (fun e => e ▸ h0) (h w)
/-- the words of String.length(), either coding -/
abbrev wordsLen : List Jvm.Cond := [.code Len.yN Len.yB 1 (some .int), .initialized ST, .fieldLink ST 9 ST "value" "[B", .fieldLink ST 38 ST "COMPACT_STRINGS" "Z", .fieldLink ST 15 ST "coder" "B", .code Cdr.yN Cdr.yB 1 (some .byte), .methodLink ST 335 Cdr.yN, .declares Cdr.yN, .selects ST Cdr.yN Cdr.yN, .instanceMethod Cdr.yN]
theorem tabLen_of {a : Array Value} {s : State} (h : ∀ w ∈ wordsLen, w.before a s = true) : Len.tab.before a s = true := by
  have hc : Cdr.tab.before a s = true := unparts (wk h (.code Cdr.yN Cdr.yB 1 (some .byte))) (wks h (.initialized Cdr.yN.cls :: Cdr.site))
  have q := consq hc h
  exact unparts (wk q (.code Len.yN Len.yB 1 (some .int))) (wks q (.initialized Len.yN.cls :: Len.site))
theorem movedLen {Z s : State} {a0 args : Array Value} (hZ : Z.Warmed39 s.vm) (hw : ∀ d ∈ wordsLen, d.before a0 Z = true) : ∀ d ∈ wordsLen, d.before args s = true := fun d hd => by
  have q := hw d hd
  have t : ∀ d ∈ wordsLen, d = .arrayClass .byte ∨ (d.onTables && d.keepsFace) = true := by decide +kernel
  rcases t d hd with rfl | t
  · exact RoadKit.mvA hZ q
  · exact RoadKit.mv hZ q t
/-- the bytes of the chars cs, low before high -/
def wideBytes : List Int32 → List Value
  | [] => []
  | c :: cs => .int (lo8 c) :: .int (hi8 c) :: wideBytes cs
theorem wide_lo (d : Value) : ∀ (cs : List Int32) (j : Nat), j < cs.length → (wideBytes cs).getD (2 * j) d = .int (lo8 (cs.getD j 0))
  | [], j, h => absurd h (Nat.not_lt_zero j)
  | c :: cs, 0, _ => rfl
  | c :: cs, j + 1, h => by
    have q := wide_lo d cs j (by simpa using h)
    rw [show 2 * (j + 1) = 2 * j + 1 + 1 from by omega]
    simpa [wideBytes] using q
theorem wide_hi (d : Value) : ∀ (cs : List Int32) (j : Nat), j < cs.length → (wideBytes cs).getD (2 * j + 1) d = .int (hi8 (cs.getD j 0))
  | [], j, h => absurd h (Nat.not_lt_zero j)
  | c :: cs, 0, _ => rfl
  | c :: cs, j + 1, h => by
    have q := wide_hi d cs j (by simpa using h)
    rw [show 2 * (j + 1) + 1 = 2 * j + 1 + 1 + 1 from by omega]
    simpa [wideBytes] using q
theorem low_at (d : Value) (cs : List Int32) (j : Nat) (h : j < cs.length) : (cs.map fun c => Value.int (lo8 c)).getD j d = .int (lo8 (cs.getD j 0)) := by
  simp [List.getD_eq_getElem?_getD, h]
/-- an array of N2 bytes vs codes the chars cs by the coder cd -/
def CodA (cs : List Int32) (cd N2 : Int32) (vs : List Value) : Prop := (cd = 0 ∧ N2 = Int32.ofNat cs.length ∧ vs = (cs.map fun c => Value.int (lo8 c)) ∧ ∀ c ∈ cs, ¬ 255 < c) ∨ (cd = 1 ∧ N2 = Int32.ofNat (2 * cs.length) ∧ vs = wideBytes cs ∧ ∃ c ∈ cs, 255 < c)
theorem CodA.cod {cs : List Int32} {cd N2 : Int32} {vs : List Value} {V : Cell} (h : CodA cs cd N2 vs) (hn : 2 * cs.length < 2 ^ 31) (hs : V.slots.size = N2.toNatClampNeg) (hv : RoadKit.Has V vs (.int 0)) : Cod cd cs.length (fun j => cs.getD j 0) V := by
  rcases h with ⟨rfl, rfl, rfl, h⟩ | ⟨rfl, rfl, rfl, c, hc, hw⟩
  · rw [n32 (by omega)] at hs
    exact Or.inl ⟨rfl, hs, fun j hj => ⟨by rw [hv j (by omega), low_at _ _ _ hj], by
      have e : cs.getD j 0 = cs[j] := by simp [List.getD_eq_getElem?_getD, hj]
      show ¬ 255 < cs.getD j 0
      rw [e]; exact h _ (List.getElem_mem _)⟩⟩
  · rw [n32 (by omega)] at hs
    obtain ⟨j, hj, rfl⟩ := List.getElem_of_mem hc
    exact Or.inr ⟨rfl, hs, fun j hj => ⟨by rw [hv _ (by omega), wide_lo _ _ _ hj], by rw [hv _ (by omega), wide_hi _ _ _ hj]⟩, j, hj, by
      have e : cs.getD j 0 = cs[j] := by simp [List.getD_eq_getElem?_getD, hj]
      show 255 < cs.getD j 0
      rw [e]; exact hw⟩
/-- an object of exactly java/lang/String, its two fields found: as the laws ask it -/
theorem strObj {Z U : State} {a0 : Array Value} {kI : Nat} (wi : (Jvm.Cond.instantiable ST kI).before a0 Z = true) (al : Z.vm.Alike U.vm) {x : Addr} {v0 c0 : Value} (E : RoadKit.Exa Z U.heap x ST) (V : RoadKit.Fld Z U.heap x ST "value" "[B" v0) (C : RoadKit.Fld Z U.heap x ST "coder" "B" c0) :
    ∃ (D : Cell) (fV fC : Field), Blank ST x D U ∧ Found ST "value" "[B" fV U ∧ Found ST "coder" "B" fC U ∧ D.slots[fV.slot]? = some v0 ∧ D.slots[fC.slot]? = some c0 ∧ RoadKit.slotOf Z ST "value" "[B" = fV.slot ∧ RoadKit.slotOf Z ST "coder" "B" = fC.slot := by
  obtain ⟨D, cfV, kV, iV, fV, hD, gV, stV, knV, obV, asV, slV⟩ := V
  obtain ⟨D', cfC, kC, iC, fC, hD', gC, stC, -, -, asC, slC⟩ := C
  cases hD.symm.trans hD'
  obtain ⟨D2, kD, e1, e2, e3, e4, e5⟩ := E
  cases hD.symm.trans e1
  obtain ⟨c2, k2, i1, i2, i3, -⟩ := Cond.instantiable_spec wi
  cases e2.symm.trans i1
  cases e3.symm.trans i2
  obtain ⟨kU, u1, u2⟩ := al.2.2 _ _ e3
  exact ⟨D, fV, fC, ⟨hD, ⟨knV, fun q hq => by rw [hq] at obV; cases obV⟩, by rw [al.findClass]; exact e2, kU, u1, by rw [u2]; exact i3, by rw [u2]; exact e5 i3⟩, ⟨SBG.found_only al ⟨cfV, kV, iV, gV⟩, stV⟩, ⟨SBG.found_only al ⟨cfC, kC, iC, gC⟩, stC⟩, slV, slC, by simp [RoadKit.slotOf, gV], by simp [RoadKit.slotOf, gC]⟩
theorem sta_is {Z U : State} (al : Z.vm.Alike U.vm) {C n d : String} {v : Value} (S : RoadKit.Sta Z U.heap C n d v) : StaticIs U C n d v := by
  obtain ⟨cfS, iS, kS, fS, st, cS, t1, t2, t3, t4, t5, t6, t7⟩ := S
  exact StaticIs.there (s := { Z with heap := U.heap }) ⟨cfS, iS, kS, fS, st, cS, t1, t2, t3, t4, t5, (fun q => by rw [q] at t6; cases t6), t7⟩ al rfl
/-- **length() OF SUCH A STRING** -/
theorem lenW {p : Program} {l : Launch} {e : Env} {R : Room} {s : State} {args : Array Value} {below : List Frame} {len W : Nat} {Z : State} {a0 : Array Value} {h : Heap} (hZ : Z.Warmed39 s.vm) (hw : ∀ d ∈ wordsLen, d.before a0 Z = true) {kI : Nat} (wi : (Jvm.Cond.instantiable ST kI).before a0 Z = true)
    {x t : Addr} {kb : ClassId} {cs : List Int32} {cd N2 z : Int32} {vs : List Value} (E : RoadKit.Exa Z h x ST) (V : RoadKit.Fld Z h x ST "value" "[B" (.ref t)) (C : RoadKit.Fld Z h x ST "coder" "B" (.int cd)) (K : RoadKit.Arv Z h t kb .byte N2 vs (.int 0)) (hc : CodA cs cd N2 vs) (hb : ∀ c ∈ cs, ¬ c < 0 ∧ ¬ (65535 : Int32) < c)
    (S : RoadKit.Sta Z h ST "COMPACT_STRINGS" "Z" (.int z)) (hz : ¬ z = 0) (l2 : cs.length ≤ 4000) (hfr : 2 ≤ R.frames) (hlo : W + 25 ≤ R.locals) :
    Back l R p e below s args (⟨"java/lang/String", "length", "()I"⟩ : MethodName) len W (fun P a => a = #[.ref x] ∧ P.U.heap = h ∧ P.cells + 0 ≤ R.cells ∧ P.slots + 0 ≤ R.slots)
      (fun P _ v B => ∃ L, (v = some (.int (Int32.ofNat cs.length)) ∧ L = [] ∧ B.U.heap = h) ∧ B.locs = P.locs ++ L ∧ B.cells = P.cells + 0 ∧ B.slots = P.slots + 0) := by
  obtain ⟨A, K1, K2, K3, K4, K5, K6⟩ := K
  have hcod := hc.cod (by omega) K3 K5
  intro m meth c P g ig mk a X hg hsize hdg hW hn hp'
  obtain ⟨rfl, rfl, r1, r2⟩ := hp'
  have al : Z.vm.Alike P.U.vm := hZ.alike.trans X.warmed.alike
  obtain ⟨D, fV, fC, hB, F1, F2, g1, g2, -, -⟩ := strObj wi al E V C
  have hx : Txt x t A cd cs.length (fun j => cs.getD j 0) P.U := ⟨⟨_, hB.2.2.1, D, hB.1, rfl, by cases q : D.vm <;> first | rfl | exact absurd q (hB.2.1.2 _)⟩, Has.of hB F1 g1, Has.of hB F2 g2, ⟨K1.1, State.isArrayOf_alike al K1.2.1, K1.2.2, by rcases hcod with ⟨-, q, -⟩ | ⟨-, q, -⟩ <;> omega⟩, hcod, fun j hj => by
    have e : cs.getD j 0 = cs[j] := by simp [List.getD_eq_getElem?_getD, hj]
    show ¬ cs.getD j 0 < 0 ∧ ¬ 65535 < cs.getD j 0
    rw [e]; exact hb _ (List.getElem_mem _)⟩
  obtain ⟨v, B, X', ⟨⟨hv, hh⟩, hl, hk, hs⟩, st⟩ := Len.pays x t A cd cs.length (fun j => cs.getD j 0) z (tabLen_of (movedLen hZ hw)) hfr hlo m meth c P g ig mk _ X hg hsize hdg hW hn ⟨r1, r2, rfl, hx, sta_is al S, hz⟩
  exact ⟨v, B, X', ⟨[], ⟨hv, rfl, hh⟩, hl, hk, hs⟩, st⟩
end StrChars.Road
namespace StrChars.Road
open Jvm Sem ClassFile Op Lib Jvm.Stand Jvm.Free Jvm.Free.XT
open Jvm.Lib.Cold (StaticIs)
/-- what backV says of its String, as the contracts of this text ask it: cs's low bytes, coder 0 -/
theorem codOf {cs : List Int32} {n : Nat} (hn : cs.length = n) (hb : ∀ c ∈ cs, ¬ 255 < c) : CodA cs 0 (Int32.ofNat n) ((cs.map lo8).map Value.int) := Or.inl ⟨rfl, by rw [hn], by simp [List.map_map, Function.comp_def], hb⟩
end StrChars.Road
end Jvm.Pilot.@@N@@
namespace Jvm.Pilot.@@N@@
open Jvm Jvm.ClassFile Sem Op Lib Jvm.Free Jvm.Stand Jvm.LawKit Jvm.RoadKit Bundle Jvm.Pilot.@@N@@.Jvm.D
abbrev vr (a : Addr) : Slot := .val (.ref a)
abbrev vi (z : Int32) : Slot := .val (.int z)
abbrev SS (p : Program) (e : Env) (b : List Frame) (S T : State) : Prop := Steps p.tables e b S T
theorem ww {Z : State} {a0 : Array Value} (hw : ∀ d ∈ tables_1, d.before a0 Z = true) (i : Nat) {d : Jvm.Cond} (h : tables_1[i]? = some d) : d.before a0 Z = true := hw d (List.mem_of_getElem? h)
theorem own_nb {v : Int32} (h : v = 0 ∨ v = 1) : narrow .boolean (.int v) = .int v := by rcases h with rfl | rfl <;> rfl
theorem own_i2c {x : Int32} (h0 : ¬ x < 0) (h1 : ¬ 65535 < x) : x.toUInt32.toUInt16.toUInt32.toInt32 = x := by
  have e0 : (0 : Int32).toInt = 0 := rfl
  have e1 : (65535 : Int32).toInt = 65535 := rfl
  rw [Int32.lt_iff_toInt_lt, e0] at h0
  rw [Int32.lt_iff_toInt_lt, e1] at h1
  apply Int32.toBitVec_inj.mp
  apply BitVec.eq_of_toNat_eq
  have e : x.toUInt32.toUInt16.toUInt32.toInt32.toBitVec.toNat = x.toUInt32.toUInt16.toUInt32.toNat := rfl
  rw [e, UInt16.toNat_toUInt32, UInt32.toNat_toUInt16]
  show x.toBitVec.toNat % 2 ^ 16 = _
  have q : x.toInt = x.toBitVec.toInt := rfl
  rw [q, BitVec.toInt_eq_toNat_cond] at h0 h1
  have := x.toBitVec.isLt
  split at h0 <;> omega
theorem own_and255 (x : Int32) : ¬ (x &&& 255) < 0 ∧ ¬ 255 < (x &&& 255) := by
  have h : (x &&& 255).toBitVec.toNat < 256 := by
    simp only [Int32.toBitVec_and, BitVec.toNat_and]
    exact Nat.lt_succ_of_le Nat.and_le_right
  have e0 : (0 : Int32).toInt = 0 := rfl
  have e1 : (255 : Int32).toInt = 255 := rfl
  rw [Int32.lt_iff_toInt_lt, Int32.lt_iff_toInt_lt, e0, e1]
  have q : (x &&& 255).toInt = (x &&& 255).toBitVec.toInt := rfl
  rw [q, BitVec.toInt_eq_toNat_cond]
  split <;> omega
/-- a char below 256 -/
def C8 (x : Int32) : Prop := ¬ x < 0 ∧ ¬ (255 : Int32) < x
theorem own_up1 {x : Int32} (h : C8 x) : ¬ x < 0 ∧ ¬ (65535 : Int32) < x := ⟨h.1, fun q => h.2 (by rw [Int32.lt_iff_toInt_lt] at q ⊢; have e1 : (65535 : Int32).toInt = 65535 := rfl; have e2 : (255 : Int32).toInt = 255 := rfl; omega)⟩
theorem own_nar {x : Int32} (h : C8 x) : nar .char x = x := own_i2c (own_up1 h).1 (own_up1 h).2
theorem own_c8m (x : Int32) : C8 ((x &&& 255).toUInt32.toUInt16.toUInt32.toInt32) := by rw [i2c_mask]; exact own_and255 x
theorem own_c8n {x : Int32} (h : C8 x) : C8 (nar .char x) := by rw [own_nar h]; exact h
theorem own_nc {v : Int32} (h : ¬ v < 0 ∧ ¬ 65535 < v) : narrow .char (.int v) = .int v := by
  show Value.int (v.toUInt32.toUInt16.toUInt32.toInt32) = .int v
  rw [own_i2c h.1 h.2]
theorem own_nref {t : FieldType} {w : Value} (h : w.isRef = true) : narrow t w = w := by rcases ref_cases h with rfl | ⟨a, rfl⟩ <;> cases t <;> rfl
theorem own_al0 {P : Int32 → Prop} : ∀ c ∈ ([] : List Int32), P c := fun _ h => nomatch h
theorem own_alS {P : Int32 → Prop} {a : Int32} {L : List Int32} (h : P a) (r : ∀ c ∈ L, P c) : ∀ c ∈ a :: L, P c := List.forall_mem_cons.mpr ⟨h, r⟩
theorem own_up (cs : List Int32) (h : ∀ c ∈ cs, ¬ c < 0 ∧ ¬ (255 : Int32) < c) : ∀ c ∈ cs, ¬ c < 0 ∧ ¬ (65535 : Int32) < c := fun c hc => own_up1 (h c hc)
/-- a flag r says P -/
abbrev TF (r : Int32) (P : Prop) : Prop := (r = 1 ∧ P) ∨ (r = 0 ∧ ¬ P)
theorem own_y {r : Int32} {P : Prop} (h : TF r P) (q : ¬ r = 0) : P := h.elim (fun z => z.2) (fun z => absurd z.1 q)
theorem own_n {r : Int32} {P : Prop} (h : TF r P) (q : r = 0) : ¬ P := h.elim (fun z => absurd (z.1.symm.trans q) (by decide)) (fun z => z.2)
theorem own_b {r : Int32} {P : Prop} (h : TF r P) : r = 0 ∨ r = 1 := h.elim (fun z => Or.inr z.1) (fun z => Or.inl z.1)
theorem own_is1 {r : Int32} {P : Prop} (h : TF r P) (q : P) : r = 1 := h.elim (fun z => z.1) (fun z => absurd q z.2)
theorem own_is0 {r : Int32} {P : Prop} (h : TF r P) (q : ¬ P) : r = 0 := h.elim (fun z => absurd z.2 q) (fun z => z.1)
theorem own_ofN {a : Nat} (h : a < 2147483648) : (Int32.ofNat a).toInt = a := Int32.toInt_ofNat_small h
theorem own_ofN_lt {a b : Nat} (ha : a < 2147483648) (hb : b < 2147483648) : Int32.ofNat a < Int32.ofNat b ↔ a < b := by
  rw [Int32.lt_iff_toInt_lt, own_ofN ha, own_ofN hb]; omega
theorem own_ofN_inj {a b : Nat} (ha : a < 2147483648) (hb : b < 2147483648) : Int32.ofNat a = Int32.ofNat b ↔ a = b := by
  rw [← Int32.toInt_inj, own_ofN ha, own_ofN hb]; omega
theorem own_mask31 (x : Int32) : ∃ a : Nat, a < 2147483648 ∧ x &&& 2147483647 = Int32.ofNat a := by
  have h : (x &&& 2147483647).toBitVec.toNat < 2147483648 := by
    simp only [Int32.toBitVec_and, BitVec.toNat_and]
    exact Nat.lt_succ_of_le Nat.and_le_right
  refine ⟨_, h, ?_⟩
  apply Int32.toBitVec_inj.mp
  show _ = BitVec.ofNat 32 _
  rw [BitVec.ofNat_toNat]; simp
theorem own_rem31 (x : Int32) {m : Nat} (h0 : 0 < m) (h1 : m < 2147483648) : ∃ a : Nat, a < m ∧ (x &&& 2147483647) % Int32.ofNat m = Int32.ofNat a := by
  obtain ⟨a, ha, e⟩ := own_mask31 x
  refine ⟨a % m, Nat.mod_lt _ h0, ?_⟩
  rw [e]
  apply Int32.toInt_inj.mp
  have q : a % m ≤ a := Nat.mod_le _ _
  rw [Int32.toInt_mod, own_ofN ha, own_ofN h1, own_ofN (by omega)]
  exact (Int.ofNat_tmod a m).symm
theorem own_b8 (x : Int32) : (x.toInt8.toInt32).toInt8.toInt32 = x.toInt8.toInt32 := by simp
/-- a Latin-1 String x of the chars cs, its bytes at t -/
def OStr (Z : State) (h : Heap) (x t : Addr) (kb : ClassId) (cs : List Int32) : Prop :=
  Exa Z h x "java/lang/String" ∧ Fld Z h x "java/lang/String" "value" "[B" (.ref t) ∧ Fld Z h x "java/lang/String" "coder" "B" (.int 0) ∧ Arv Z h t kb .byte (Int32.ofNat cs.length) ((cs.map (fun c => c.toInt8.toInt32)).map Value.int) (.int 0) ∧ (∀ c ∈ cs, ¬ c < 0 ∧ ¬ (255 : Int32) < c) ∧ cs.length ≤ 4000
theorem OStr.cod {Z : State} {h : Heap} {x t : Addr} {kb : ClassId} {cs : List Int32} (S : OStr Z h x t kb cs) : StrChars.Road.CodA cs 0 (Int32.ofNat cs.length) ((cs.map (fun c => c.toInt8.toInt32)).map Value.int) := StrChars.Road.codOf rfl (fun c hc => (S.2.2.2.2.1 c hc).2)
theorem own_tfv {v : Option Value} {P : Prop} (h : (v = some (.int 1) ∧ P) ∨ (v = some (.int 0) ∧ ¬ P)) : ∃ r : Int32, v = some (.int r) ∧ TF r P := h.elim (fun z => ⟨1, z.1, Or.inl ⟨rfl, z.2⟩⟩) (fun z => ⟨0, z.1, Or.inr ⟨rfl, z.2⟩⟩)
theorem own_tfeq {r v : Int32} {P : Prop} (h1 : TF r P) (h2 : TF v P) : r = v := h1.elim (fun z => z.1.trans (own_is1 h2 z.2).symm) (fun z => z.1.trans (own_is0 h2 z.2).symm)
theorem own_tfiff {r : Int32} {P Q : Prop} (h : TF r P) (i : P ↔ Q) : TF r Q := h.imp (fun z => ⟨z.1, i.mp z.2⟩) (fun z => ⟨z.1, fun q => z.2 (i.mpr q)⟩)
theorem own_ushr (x : Int32) {k : Nat} (hk : 0 < k ∧ k < 32) : ∃ a : Nat, a < 2147483648 ∧ (x.toUInt32 >>> (Int32.ofNat k &&& 31).toUInt32).toInt32 = Int32.ofNat a := by
  obtain ⟨h0, h1⟩ := hk
  refine ⟨x.toUInt32.toNat >>> k, ?_, ?_⟩
  · have := x.toUInt32.toNat_lt
    rw [Nat.shiftRight_eq_div_pow]
    have : 2 ^ 1 ≤ 2 ^ k := Nat.pow_le_pow_right (by decide) h0
    apply Nat.div_lt_of_lt_mul
    omega
  · have e : (Int32.ofNat k &&& 31).toUInt32 = UInt32.ofNat k := by
      have : k < 32 := h1
      have q : ∀ j : Fin 32, (Int32.ofNat j.val &&& 31).toUInt32 = UInt32.ofNat j.val := by decide
      exact q ⟨k, h1⟩
    rw [e]
    apply Int32.toBitVec_inj.mp
    apply BitVec.eq_of_toNat_eq
    show (x.toUInt32 >>> UInt32.ofNat k).toNat = (BitVec.ofNat 32 _).toNat
    rw [UInt32.toNat_shiftRight, BitVec.toNat_ofNat]
    have hlt : x.toUInt32.toNat >>> k < 2 ^ 32 := Nat.lt_of_le_of_lt (Nat.shiftRight_le _ _) x.toUInt32.toNat_lt
    rw [Nat.mod_eq_of_lt hlt]
    congr 1
    simp
    omega
theorem own_tfe {v : Option Value} {n : Nat} (h : v = some (.int (if n = 0 then 1 else 0))) : ∃ r : Int32, v = some (.int r) ∧ TF r (n = 0) := by
  by_cases q : n = 0
  · exact ⟨1, by rw [h, if_pos q], Or.inl ⟨rfl, q⟩⟩
  · exact ⟨0, by rw [h, if_neg q], Or.inr ⟨rfl, q⟩⟩
theorem own_m4 (x : Int32) : x &&& 3 = 0 ∨ x &&& 3 = 1 ∨ x &&& 3 = 2 ∨ x &&& 3 = 3 := by
  have h : (x &&& 3).toBitVec.toNat < 4 := by
    simp only [Int32.toBitVec_and, BitVec.toNat_and]
    exact Nat.lt_succ_of_le Nat.and_le_right
  have e : ∀ k : Nat, (x &&& 3).toBitVec.toNat = k → x &&& 3 = Int32.ofNat k := fun k hk => by
    apply Int32.toBitVec_inj.mp
    show _ = BitVec.ofNat 32 _
    rw [← hk, BitVec.ofNat_toNat]; simp
  have q : (x &&& 3).toBitVec.toNat = 0 ∨ (x &&& 3).toBitVec.toNat = 1 ∨ (x &&& 3).toBitVec.toNat = 2 ∨ (x &&& 3).toBitVec.toNat = 3 := by omega
  rcases q with q | q | q | q
  · exact Or.inl (e 0 q)
  · exact Or.inr (Or.inl (e 1 q))
  · exact Or.inr (Or.inr (Or.inl (e 2 q)))
  · exact Or.inr (Or.inr (Or.inr (e 3 q)))
theorem own_m3 (x : Int32) : (x &&& 3) % 3 = 0 ∨ (x &&& 3) % 3 = 1 ∨ (x &&& 3) % 3 = 2 := by
  rcases own_m4 x with q | q | q | q <;> rw [q] <;> decide
theorem own_idx {a m : Nat} (h : a < m) (hm : m < 2147483648) : ¬ Int32.ofNat a < 0 ∧ Int32.ofNat a < Int32.ofNat m := by
  have e0 : (0 : Int32).toInt = 0 := rfl
  rw [Int32.lt_iff_toInt_lt, Int32.lt_iff_toInt_lt, e0, own_ofN (by omega), own_ofN hm]; omega
theorem own_in_words : ∀ d ∈ StrChars.Road.words, d ∈ tables_1 := by decide +kernel
theorem own_in_wordsLen : ∀ d ∈ StrChars.Road.wordsLen, d ∈ tables_1 := by decide +kernel
abbrev EL : List (String × Nat) := [("java/lang/String", 7)]
theorem own_since (s : State) : s.Since s.vm 0 := (State.WarmedH.refl s).since 0
theorem own_safe {Z : State} {vm : Vm} {h : Heap} {x : Addr} (hal : Z.vm.Alike vm) (E : Exa Z h x "java/lang/String") (F : Fld Z h x "java/lang/String" "value" "[B" .null) : Safe Z EL vm h x := fun B => by
  obtain ⟨cl1, k, e1, e2, -⟩ := E
  obtain ⟨cl2, cf, k2, i, f, f1, f2, -, -, -, -, f7⟩ := F
  cases e1.symm.trans f1
  obtain ⟨p, -, u, a, -, q, -, G, rfl | rfl⟩ := B
  · cases (show h[q.sa]? = some q.sC from G.ha).symm.trans e1
    obtain ⟨cS, ⟨⟨-, -, -, ⟨cv, kv, iv, s4, -⟩, -, -, -, s8, -⟩, -⟩, -⟩ := G
    obtain ⟨k3, z⟩ := ff_back (U := Wst Z vm h) hal s4
    cases f2.symm.trans z
    cases f7.symm.trans s8
  · cases (show h[q.sd]? = some q.SA from G.hd).symm.trans e1
    obtain ⟨cS, -, -, g, -⟩ := G
    have g' : vm.findClass "[B" = some q.SA.cls := g
    rw [hal.findClass] at g'
    obtain ⟨k1, q1, q2⟩ := Vm.findClass_spec g'
    obtain ⟨k3, q3, q4⟩ := Vm.findClass_spec e2
    cases q1.symm.trans q3
    exact absurd (q2.symm.trans q4) (by decide)
abbrev EL0 : List (String × Nat) := []
theorem own_safe0 {Z : State} {vm : Vm} {h : Heap} {x : Addr} : Safe Z EL0 vm h x := fun B => by
  obtain ⟨p, hp, -⟩ := B
  cases hp
theorem own_CH0 {Z : State} {vm : Vm} {h : Heap} : CHv Z EL0 vm h := fun p hp => nomatch hp
theorem own_CHr0 {Z : State} {vm vm1 : Vm} {h h1 : Heap} (q : h.size ≤ h1.size) : CHr Z EL0 vm h vm1 h1 := ⟨own_CH0, q, fun y B => absurd B own_safe0⟩
theorem own_EW {Z : State} {a0 : Array Value} (hw : ∀ d ∈ tables_1, d.before a0 Z = true) : EW Z a0 EL := (EW.cons (ww hw 21 rfl) (by decide) EW.nil)
theorem own_strw {Z : State} {a0 : Array Value} (hw : ∀ d ∈ tables_1, d.before a0 Z = true) : ∀ a ∈ Bundle.stringAtoms, a.before a0 Z = true := fun d hd => hw d ((by decide +kernel : ∀ d ∈ Bundle.stringAtoms, d ∈ tables_1) d hd)
theorem own_CH {s : State} {args : Array Value} {tb : Tables} {e : Env} (hw : ∀ d ∈ tables_1, d.before args s = true) (hc : call_1_1 tb e args s) (h2 : (Jvm.Cond.not (Jvm.Cond.eq (Jvm.Term.static "java/lang/String" "COMPACT_STRINGS" "Z") (Jvm.Term.int (0 : Int32)))).before args s = true) : CHv s EL s.vm s.heap := CHv.start (a0 := args) (own_EW hw) hc h2 (ww hw 22 rfl) (ww hw 9 rfl)
def QInt (Z : State) (r : Int32) (h0 : Heap) (n0 : Nat) (v : Option Value) (h : Heap) (L : List Loc) : Prop := v = some (.int r) ∧ Fr n0 L ∧ h = h0
def QNo (Z : State) (h0 : Heap) (n0 : Nat) (v : Option Value) (h : Heap) (L : List Loc) : Prop := v = none ∧ Fr n0 L ∧ h = h0
/-- a char -/
abbrev C16 (x : Int32) : Prop := ¬ x < 0 ∧ ¬ (65535 : Int32) < x
theorem own_nar16 {x : Int32} (h : C16 x) : nar .char x = x := own_i2c h.1 h.2
theorem own_u16 (x : Int32) : C16 (x.toUInt32.toUInt16.toUInt32.toInt32) := by
  have h : (x.toUInt32.toUInt16.toUInt32.toInt32).toBitVec.toNat < 65536 := by
    have e : (x.toUInt32.toUInt16.toUInt32.toInt32).toBitVec.toNat = x.toUInt32.toUInt16.toUInt32.toNat := rfl
    rw [e, UInt16.toNat_toUInt32]
    exact x.toUInt32.toUInt16.toNat_lt
  have e0 : (0 : Int32).toInt = 0 := rfl
  have e1 : (65535 : Int32).toInt = 65535 := rfl
  show ¬ _ < _ ∧ ¬ _ < _
  rw [Int32.lt_iff_toInt_lt, Int32.lt_iff_toInt_lt, e0, e1]
  have q : (x.toUInt32.toUInt16.toUInt32.toInt32).toInt = (x.toUInt32.toUInt16.toUInt32.toInt32).toBitVec.toInt := rfl
  rw [q, BitVec.toInt_eq_toNat_cond]
  split <;> omega
theorem own_shl1 {k : Nat} (h : k < 1073741823) : Int32.ofNat k <<< ((1 : Int32) &&& 31) = Int32.ofNat (2 * k) := by
  apply Int32.toBitVec_inj.mp
  apply BitVec.eq_of_toNat_eq
  show ((Int32.ofNat k) <<< ((1 : Int32) &&& 31)).toBitVec.toNat = (BitVec.ofNat 32 (2 * k)).toNat
  have e : ((Int32.ofNat k) <<< ((1 : Int32) &&& 31)).toBitVec = (Int32.ofNat k).toBitVec <<< 1 := rfl
  rw [e, BitVec.toNat_shiftLeft, BitVec.toNat_ofNat]
  show (BitVec.ofNat 32 k).toNat <<< 1 % 2 ^ 32 = _
  rw [BitVec.toNat_ofNat, Nat.shiftLeft_eq, Nat.mod_eq_of_lt (by omega : k < 2 ^ 32), Nat.mul_comm]
theorem own_inc2 (k : Nat) : Int32.ofNat (2 * k) + (1 : Int32) = Int32.ofNat (2 * k + 1) := (inc_ofNat (2 * k)).symm
theorem own_nat {j : Nat} (h : j < 2147483648) : (Int32.ofNat j).toNatClampNeg = j := clamp_of rfl h
/-- a String of the chars cs, of either coder -/
def OSG (Z : State) (h : Heap) (x t : Addr) (kb : ClassId) (cd N : Int32) (vs : List Value) (cs : List Int32) : Prop :=
  Exa Z h x "java/lang/String" ∧ Fld Z h x "java/lang/String" "value" "[B" (.ref t) ∧ Fld Z h x "java/lang/String" "coder" "B" (.int cd) ∧ Arv Z h t kb .byte N vs (.int 0) ∧ StrChars.Road.CodA cs cd N vs ∧ (∀ ch ∈ cs, C16 ch) ∧ cs.length ≤ 4000
theorem own_g16 {cs : List Int32} {k : Nat} (h : ∀ ch ∈ cs, C16 ch) (hk : k < cs.length) : C16 (cs.getD k 0) := by
  rw [List.getD_eq_getElem?_getD, List.getElem?_eq_getElem hk]; exact h _ (List.getElem_mem hk)
theorem own_gm {P : Int32 → Prop} {cs : List Int32} {k : Nat} (h : ∀ ch ∈ cs, P ch) (hk : k < cs.length) : P (cs.getD k 0) := by
  rw [List.getD_eq_getElem?_getD, List.getElem?_eq_getElem hk]; exact h _ (List.getElem_mem hk)
theorem own_getb {cs : List Int32} {k : Nat} (hk : k < cs.length) (h2 : k < 2147483648) : (cs.map fun ch => Value.int (StrChars.lo8 ch)).getD (Int32.ofNat k).toNatClampNeg (.int 0) = .int (StrChars.lo8 (cs.getD k 0)) := by
  rw [own_nat h2]
  simp [List.getD_eq_getElem?_getD, hk]

theorem D0_0 : decode jdk_41_method_11_code 0 = .ok (.iload_n 0, 1) := by decide +kernel
theorem D0_1 : decode jdk_41_method_11_code 1 = .ok (.ifCond .lt 8, 3) := by decide +kernel
theorem D0_4 : decode jdk_41_method_11_code 4 = .ok (.iload_n 0, 1) := by decide +kernel
theorem D0_5 : decode jdk_41_method_11_code 5 = .ok (.iload_n 1, 1) := by decide +kernel
theorem D0_6 : decode jdk_41_method_11_code 6 = .ok (.if_icmp .lt 10, 3) := by decide +kernel
theorem D0_16 : decode jdk_41_method_11_code 16 = .ok (.iload_n 0, 1) := by decide +kernel
theorem D0_17 : decode jdk_41_method_11_code 17 = .ok (.ireturn, 1) := by decide +kernel
theorem pn_jdk_internal_util_Preconditions : plainName "jdk/internal/util/Preconditions" = true := by first | (simp [plainName, overriddenIn]; done) | decide +kernel
theorem ef_rmPC (m : MethodId) (x0 : Int32) (x1 : Int32) (x2 : Value) (hx2 : x2.isRef = true): entryFrame m #[(.int x0), (.int x1), x2] 3 = mkF m 0 #[.val (.int x0), .val (.int x1), .val x2] [] := by rcases ref_cases hx2 with rfl | ⟨_, rfl⟩ <;> rfl
set_option maxRecDepth 65536 in
set_option maxHeartbeats 40000000 in
theorem rmPC (l : Launch) (Z : State) (a0 : Array Value) (hw : ∀ d ∈ tables_1, d.before a0 Z = true) (ws : List Jvm.Cond) (i n : Int32) (G3 : Value) (h0 : Heap) (n0 : Nat) (Z0 : n0 ≤ h0.size) (rG3 : G3.isRef = true) (hi : ¬ i < 0 ∧ i < n) :
    MetFree l (⟨"jdk/internal/util/Preconditions", "checkIndex", "(IILjava/util/function/BiFunction;)I"⟩ : MethodName) (head1 (Jvm.Cond.code (⟨"jdk/internal/util/Preconditions", "checkIndex", "(IILjava/util/function/BiFunction;)I"⟩ : MethodName) jdk_41_method_11_code 3 (some .int) :: ws) ({ frames := 0, cells := 0, slots := 0, locals := 0 } : Room)) (fun aa U => aa = #[(.int i), (.int n), G3] ∧ Z.Warmed39 U.vm ∧ U.heap = h0) (fun _ _ _ _ _ => True) (fun _ U o U' => ∃ v L, o = .returned v ∧ QInt Z i h0 n0 v U'.heap L ∧ FrameEnd U o U' L ({ frames := 0, cells := 0, slots := 0, locals := 0 } : Room).cells ({ frames := 0, cells := 0, slots := 0, locals := 0 } : Room).slots) := by
  refine MetFree.of_bodySF (plainFor_of_name pn_jdk_internal_util_Preconditions) hisR ?_
  intro p e s m args below meth c s₁ Bd hml0 hP hK
  obtain ⟨rfl, hZ, hh⟩ := hP
  have hx := Bd.exec
  have hby := Bd.bytes
  have hml : c.maxLocals = 3 := hml0
  have hown : s.vm.findClass "jdk/internal/util/Preconditions" = some m.cls := findClass_of_methodNamed Bd.named
  have hnm := (name_of_methodNamed Bd.named Bd.method).1
  have X0 : Stand p l e ({ frames := 0, cells := 0, slots := 0, locals := 0 } : Room) s m #[(.int i), (.int n), G3] below meth c s₁ [] 0 0 := Stand.of_body Bd
  have e0 : s₁.heap = h0 := by rw [← hh, Bd.state]; rfl
  have N0 := Fr.nil n0
  have K0 := Keep.refl h0 []
  obtain ⟨S0, hS0⟩ : ∃ z, z = s₁.setTop (entryFrame m #[(.int i), (.int n), G3] 3) := ⟨_, rfl⟩
  rw [← hS0]
  have c0 : SS p e below S0 (s₁.setTop (mkF m 0 #[vi i, vi n, .val G3] [])) := by
    rw [hS0]; exact castTop (ef_rmPC m i n G3 rG3) (Steps.refl _)
  have c1 : SS p e below S0 (s₁.setTop (mkF m 17 #[vi i, vi n, .val G3] [(.int i)])) := c0.trans (by
    show SS p e below (s₁.setTop (mkF m 0 #[vi i, vi n, .val G3] [])) _
    refine XS.iloadN X0.here hx rfl (hb hby D0_0) rfl ?_
    refine XS.ifNo X0.here hx rfl (hb hby D0_1) rfl ((if0 _ _).trans (flt hi.1).1) ?_
    refine XS.iloadN X0.here hx rfl (hb hby D0_4) rfl ?_
    refine XS.iloadN X0.here hx rfl (hb hby D0_5) rfl ?_
    refine XS.icmpYes X0.here hx rfl (pc0 := 6) (pc' := 16) rfl (hb hby D0_6) rfl (tlt hi.2).1 (by decide) (by decide) ?_
    refine XS.iloadN X0.here hx rfl (hb hby D0_16) rfl ?_
    exact Steps.refl _)
  obtain ⟨fs, hr, hrun, hended, hW, hsame⟩ := X0.leave (v := some (.int i)) (fun h => by rw [Bd.returns] at h; cases h)
  refine ⟨_, _, c1.trans (retOut X0 hx Bd.returns rfl (Or.inl ⟨rfl, by simp, _, rfl⟩) (hb hby D0_17) hr), hrun, hended, _, _, rfl, ?_, ⟨_, rfl⟩, hW, hsame.mono (by first | decide | exact Nat.le_of_ble_eq_true rfl) (by first | decide | exact Nat.le_of_ble_eq_true rfl)⟩
  show QInt Z i h0 n0 _ s₁.heap _
  rw [e0]
  exact ⟨rfl, N0, rfl⟩

theorem D1_0 : decode jdk_42_method_155_code 0 = .ok (.iload_n 0, 1) := by decide +kernel
theorem D1_1 : decode jdk_42_method_155_code 1 = .ok (.iload_n 1, 1) := by decide +kernel
theorem D1_2 : decode jdk_42_method_155_code 2 = .ok (.getstatic 1053, 3) := by decide +kernel
theorem pd_oIILjavasutilsfunctionsBiFunctionecI : parseMethodDescriptor "(IILjava/util/function/BiFunction;)I" = some ⟨[.int, .int, (.object "java/util/function/BiFunction")], some .int⟩ := by decide +kernel
theorem D1_5 : decode jdk_42_method_155_code 5 = .ok (.invokestatic 1059, 3) := by decide +kernel
theorem D1_8 : decode jdk_42_method_155_code 8 = .ok (.pop, 1) := by decide +kernel
theorem D1_9 : decode jdk_42_method_155_code 9 = .ok (.return_, 1) := by decide +kernel
theorem pn_java_lang_String : plainName "java/lang/String" = true := by first | (simp [plainName, overriddenIn]; done) | decide +kernel
theorem ef_rmSC (m : MethodId) (x0 : Int32) (x1 : Int32) : entryFrame m #[(.int x0), (.int x1)] 2 = mkF m 0 #[.val (.int x0), .val (.int x1)] [] := by first | (simp [entryFrame, mkF, argsToLocals, Value.category]; done) | rfl
set_option maxRecDepth 65536 in
set_option maxHeartbeats 40000000 in
theorem rmSC (l : Launch) (Z : State) (a0 : Array Value) (hw : ∀ d ∈ tables_1, d.before a0 Z = true) (ws : List Jvm.Cond) (i n : Int32) (G3 : Value) (h0 : Heap) (n0 : Nat) (Z0 : n0 ≤ h0.size) (hi : ¬ i < 0 ∧ i < n) (O4 : Sta Z Z.heap "jdk/internal/util/Preconditions" "SIOOBE_FORMATTER" "Ljava/util/function/BiFunction;" G3) (rG3 : G3.isRef = true) (X00 : Old Z n0 h0) :
    MetFree l (⟨"java/lang/String", "checkIndex", "(II)V"⟩ : MethodName) (head1 (Jvm.Cond.code (⟨"java/lang/String", "checkIndex", "(II)V"⟩ : MethodName) jdk_42_method_155_code 2 (none) :: ws) ({ frames := 1, cells := 0, slots := 0, locals := 14 } : Room)) (fun aa U => aa = #[(.int i), (.int n)] ∧ Z.Warmed39 U.vm ∧ U.heap = h0) (fun _ _ _ _ _ => True) (fun _ U o U' => ∃ v L, o = .returned v ∧ QNo Z  h0 n0 v U'.heap L ∧ FrameEnd U o U' L ({ frames := 1, cells := 0, slots := 0, locals := 14 } : Room).cells ({ frames := 1, cells := 0, slots := 0, locals := 14 } : Room).slots) := by
  refine MetFree.of_bodySF (plainFor_of_name pn_java_lang_String) hisR ?_
  intro p e s m args below meth c s₁ Bd hml0 hP hK
  obtain ⟨rfl, hZ, hh⟩ := hP
  have hx := Bd.exec
  have hby := Bd.bytes
  have hml : c.maxLocals = 2 := hml0
  have hown : s.vm.findClass "java/lang/String" = some m.cls := findClass_of_methodNamed Bd.named
  have hnm := (name_of_methodNamed Bd.named Bd.method).1
  have X0 : Stand p l e ({ frames := 1, cells := 0, slots := 0, locals := 14 } : Room) s m #[(.int i), (.int n)] below meth c s₁ [] 0 0 := Stand.of_body Bd
  have e0 : s₁.heap = h0 := by rw [← hh, Bd.state]; rfl
  have N0 := Fr.nil n0
  have K0 := Keep.refl h0 []
  obtain ⟨S0, hS0⟩ : ∃ z, z = s₁.setTop (entryFrame m #[(.int i), (.int n)] 2) := ⟨_, rfl⟩
  rw [← hS0]
  have c0 : SS p e below S0 (s₁.setTop (mkF m 0 #[vi i, vi n] [])) := by
    rw [hS0]; exact castTop (ef_rmSC m i n) (Steps.refl _)
  have c1 : SS p e below S0 (s₁.setTop (mkF m 2 #[vi i, vi n] [(.int n), (.int i)])) := c0.trans (by
    show SS p e below (s₁.setTop (mkF m 0 #[vi i, vi n] [])) _
    refine XS.iloadN X0.here hx rfl (hb hby D1_0) rfl ?_
    refine XS.iloadN X0.here hx rfl (hb hby D1_1) rfl ?_
    exact Steps.refl _)
  obtain ⟨T2, X2, e2, st2⟩ := getS2 X0 hx hZ hown (host := "") (Or.inl (ww hw 77 rfl)) Via.refl e0 (O4.ext X00.2) (g := (mkF m 2 #[vi i, vi n] [(.int n), (.int i)])) rfl (hb hby D1_2)
  have c3 : SS p e below S0 (T2.setTop (mkF m 5 #[vi i, vi n] [G3, (.int n), (.int i)])) := c1.trans (st2 _ (Steps.refl _))
  obtain ⟨_, _, ⟨T4, L4, kk4, nn4⟩, -, X4, ⟨Lc4, hQ4, l4, y4, z4⟩, st4⟩ := Jvm.LawKit.callS X2 hx (y := (⟨"jdk/internal/util/Preconditions", "checkIndex", "(IILjava/util/function/BiFunction;)I"⟩ : MethodName)) hown (mvT hZ (ww hw 79 rfl)) (mvT hZ (ww hw 80 rfl)) (mvT hZ (ww hw 78 rfl)) (mvT hZ (ww hw 81 rfl)) (by decide) (backOf (W := 0) (rmPC l Z a0 hw [] i n G3 h0 n0 Z0 rG3 hi) hZ (ww hw 81 rfl) (ww hw 78 rfl) (by decide) (by decide)) (g := (mkF m 5 #[vi i, vi n] [G3, (.int n), (.int i)])) rfl (by rw [hml]; rfl) (argsL := [(.int i), (.int n), G3]) (rest := []) (lenOf pd_oIILjavasutilsfunctionsBiFunctionecI rfl) rfl (by show 2 * 0 + _ ≤ _; exact Nat.le_of_eq rfl) (hb hby D1_5) (fun _ _ => ⟨rfl, e2, (by decide : 0 + 0 ≤ _), (by decide : 0 + 0 ≤ _)⟩)
  dsimp only [Pt.U, Pt.locs, Pt.cells, Pt.slots] at X4 l4 y4 z4 st4 hQ4
  subst l4 y4 z4
  obtain ⟨rfl, Nq4, eq4⟩ := hQ4
  have c5 : SS p e below S0 (T4.setTop (mkF m 8 #[vi i, vi n] [(.int i)])) := c3.trans (st4 _ (Steps.refl _))
  have N4 := Fr.app N0 Nq4
  have c6 : SS p e below S0 (T4.setTop (mkF m 9 #[vi i, vi n] [])) := c5.trans (by
    show SS p e below (T4.setTop (mkF m 8 #[vi i, vi n] [(.int i)])) _
    refine XS.pop X4.here hx rfl (hb hby D1_8) rfl rfl ?_
    exact Steps.refl _)
  obtain ⟨fs, hr, hrun, hended, hW, hsame⟩ := X4.leave (v := none) (fun h => rfl)
  refine ⟨_, _, c6.trans (X4.returnOut hx Bd.returns (hb hby D1_9) hr), hrun, hended, _, _, rfl, ?_, ⟨_, rfl⟩, hW, hsame.mono (by first | decide | exact Nat.le_of_ble_eq_true rfl) (by first | decide | exact Nat.le_of_ble_eq_true rfl)⟩
  show QNo Z  h0 n0 _ T4.heap _
  rw [eq4]
  exact ⟨rfl, N4, rfl⟩

theorem D2_0 : decode jdk_43_method_2_code 0 = .ok (.iload_n 1, 1) := by decide +kernel
theorem D2_1 : decode jdk_43_method_2_code 1 = .ok (.aload_n 0, 1) := by decide +kernel
theorem D2_2 : decode jdk_43_method_2_code 2 = .ok (.arraylength, 1) := by decide +kernel
theorem pd_oIIcV : parseMethodDescriptor "(II)V" = some ⟨[.int, .int], none⟩ := by decide +kernel
theorem D2_3 : decode jdk_43_method_2_code 3 = .ok (.invokestatic 9, 3) := by decide +kernel
theorem D2_6 : decode jdk_43_method_2_code 6 = .ok (.aload_n 0, 1) := by decide +kernel
theorem D2_7 : decode jdk_43_method_2_code 7 = .ok (.iload_n 1, 1) := by decide +kernel
theorem D2_8 : decode jdk_43_method_2_code 8 = .ok (.baload, 1) := by decide +kernel
theorem D2_9 : decode jdk_43_method_2_code 9 = .ok (.sipush 255, 3) := by decide +kernel
theorem D2_12 : decode jdk_43_method_2_code 12 = .ok (.iand, 1) := by decide +kernel
theorem D2_13 : decode jdk_43_method_2_code 13 = .ok (.i2c, 1) := by decide +kernel
theorem D2_14 : decode jdk_43_method_2_code 14 = .ok (.ireturn, 1) := by decide +kernel
theorem pn_java_lang_StringLatin1 : plainName "java/lang/StringLatin1" = true := by first | (simp [plainName, overriddenIn]; done) | decide +kernel
theorem ef_rmL1 (m : MethodId) (x0 : Addr) (x1 : Int32) : entryFrame m #[(.ref x0), (.int x1)] 2 = mkF m 0 #[.val (.ref x0), .val (.int x1)] [] := by first | (simp [entryFrame, mkF, argsToLocals, Value.category]; done) | rfl
set_option maxRecDepth 65536 in
set_option maxHeartbeats 40000000 in
theorem rmL1 (l : Launch) (Z : State) (a0 : Array Value) (hw : ∀ d ∈ tables_1, d.before a0 Z = true) (ws : List Jvm.Cond) (tx : Addr) (kx : ClassId) (cs : List Int32) (k : Nat) (G3 : Value) (h0 : Heap) (n0 : Nat) (Z0 : n0 ≤ h0.size) (Vt : Arv Z h0 tx kx .byte (Int32.ofNat cs.length) (cs.map fun ch => Value.int (StrChars.lo8 ch)) (.int 0)) (h8 : ∀ ch ∈ cs, ¬ (255 : Int32) < ch) (hc : ∀ ch ∈ cs, C16 ch) (hl : cs.length ≤ 4000) (hk : k < cs.length) (O4 : Sta Z Z.heap "jdk/internal/util/Preconditions" "SIOOBE_FORMATTER" "Ljava/util/function/BiFunction;" G3) (rG3 : G3.isRef = true) (X00 : Old Z n0 h0) :
    MetFree l (⟨"java/lang/StringLatin1", "charAt", "([BI)C"⟩ : MethodName) (head1 (Jvm.Cond.code (⟨"java/lang/StringLatin1", "charAt", "([BI)C"⟩ : MethodName) jdk_43_method_2_code 2 (some .char) :: ws) ({ frames := 2, cells := 0, slots := 0, locals := 27 } : Room)) (fun aa U => aa = #[(.ref tx), (.int (Int32.ofNat k))] ∧ Z.Warmed39 U.vm ∧ U.heap = h0) (fun _ _ _ _ _ => True) (fun _ U o U' => ∃ v L, o = .returned v ∧ QInt Z (cs.getD k 0) h0 n0 v U'.heap L ∧ FrameEnd U o U' L ({ frames := 2, cells := 0, slots := 0, locals := 27 } : Room).cells ({ frames := 2, cells := 0, slots := 0, locals := 27 } : Room).slots) := by
  refine MetFree.of_bodySF (plainFor_of_name pn_java_lang_StringLatin1) hisR ?_
  intro p e s m args below meth c s₁ Bd hml0 hP hK
  obtain ⟨rfl, hZ, hh⟩ := hP
  have hx := Bd.exec
  have hby := Bd.bytes
  have hml : c.maxLocals = 2 := hml0
  have hown : s.vm.findClass "java/lang/StringLatin1" = some m.cls := findClass_of_methodNamed Bd.named
  have hnm := (name_of_methodNamed Bd.named Bd.method).1
  have X0 : Stand p l e ({ frames := 2, cells := 0, slots := 0, locals := 27 } : Room) s m #[(.ref tx), (.int (Int32.ofNat k))] below meth c s₁ [] 0 0 := Stand.of_body Bd
  have e0 : s₁.heap = h0 := by rw [← hh, Bd.state]; rfl
  have N0 := Fr.nil n0
  have K0 := Keep.refl h0 []
  obtain ⟨S0, hS0⟩ : ∃ z, z = s₁.setTop (entryFrame m #[(.ref tx), (.int (Int32.ofNat k))] 2) := ⟨_, rfl⟩
  rw [← hS0]
  have c0 : SS p e below S0 (s₁.setTop (mkF m 0 #[vr tx, vi (Int32.ofNat k)] [])) := by
    rw [hS0]; exact castTop (ef_rmL1 m tx (Int32.ofNat k)) (Steps.refl _)
  have c1 : SS p e below S0 (s₁.setTop (mkF m 2 #[vr tx, vi (Int32.ofNat k)] [(.ref tx), (.int (Int32.ofNat k))])) := c0.trans (by
    show SS p e below (s₁.setTop (mkF m 0 #[vr tx, vi (Int32.ofNat k)] [])) _
    refine XS.iloadN X0.here hx rfl (hb hby D2_0) rfl ?_
    refine XS.aloadN X0.here hx rfl (hb hby D2_1) rfl rfl ?_
    exact Steps.refl _)
  obtain ⟨cl2, Ar2, -, S2, Nn2, -, -⟩ := id Vt
  have c3 : SS p e below S0 (s₁.setTop (mkF m 3 #[vr tx, vi (Int32.ofNat k)] [(.int (Int32.ofNat cs.length)), (.int (Int32.ofNat k))])) := c1.trans (by
    show SS p e below (s₁.setTop (mkF m 2 #[vr tx, vi (Int32.ofNat k)] [(.ref tx), (.int (Int32.ofNat k))])) _
    refine X0.arraylength hx (by rw [e0]; exact Ar2.1) (State.isArrayOf_alike hZ.alike Ar2.2.1) (g := (mkF m 2 #[vr tx, vi (Int32.ofNat k)] [(.ref tx), (.int (Int32.ofNat k))])) rfl rfl (hb hby D2_2) _ ?_
    rw [len_of S2 Nn2]
    exact Steps.refl _)
  obtain ⟨_, _, ⟨T4, L4, kk4, nn4⟩, -, X4, ⟨Lc4, hQ4, l4, y4, z4⟩, st4⟩ := Jvm.LawKit.callS X0 hx (y := (⟨"java/lang/String", "checkIndex", "(II)V"⟩ : MethodName)) hown (mvT hZ (ww hw 74 rfl)) (mvT hZ (ww hw 75 rfl)) (mvT hZ (ww hw 10 rfl)) (mvT hZ (ww hw 76 rfl)) (by decide) (backOf (W := 0) (rmSC l Z a0 hw [] (Int32.ofNat k) (Int32.ofNat cs.length) G3 h0 n0 Z0 (own_idx hk (by omega)) O4 rG3 X00) hZ (ww hw 76 rfl) (ww hw 10 rfl) (by decide) (by decide)) (g := (mkF m 3 #[vr tx, vi (Int32.ofNat k)] [(.int (Int32.ofNat cs.length)), (.int (Int32.ofNat k))])) rfl (by rw [hml]; rfl) (argsL := [(.int (Int32.ofNat k)), (.int (Int32.ofNat cs.length))]) (rest := []) (lenOf pd_oIIcV rfl) rfl (by show 2 * 0 + _ ≤ _; exact Nat.le_of_eq rfl) (hb hby D2_3) (fun _ _ => ⟨rfl, e0, (by decide : 0 + 0 ≤ _), (by decide : 0 + 0 ≤ _)⟩)
  dsimp only [Pt.U, Pt.locs, Pt.cells, Pt.slots] at X4 l4 y4 z4 st4 hQ4
  subst l4 y4 z4
  obtain ⟨rfl, Nq4, eq4⟩ := hQ4
  have c5 : SS p e below S0 (T4.setTop (mkF m 6 #[vr tx, vi (Int32.ofNat k)] [])) := c3.trans (st4 _ (Steps.refl _))
  have N4 := Fr.app N0 Nq4
  have c6 : SS p e below S0 (T4.setTop (mkF m 8 #[vr tx, vi (Int32.ofNat k)] [(.int (Int32.ofNat k)), (.ref tx)])) := c5.trans (by
    show SS p e below (T4.setTop (mkF m 6 #[vr tx, vi (Int32.ofNat k)] [])) _
    refine XS.aloadN X4.here hx rfl (hb hby D2_6) rfl rfl ?_
    refine XS.iloadN X4.here hx rfl (hb hby D2_7) rfl ?_
    exact Steps.refl _)
  obtain ⟨cl7, Ar7, -, S7, -, Ha7, -⟩ := id Vt
  have hin7 := inb_of (j := (Int32.ofNat k)) S7 (own_idx hk (by omega))
  have hat7 := Ha7.at hin7 (own_getb hk (by omega))
  have c8 : SS p e below S0 (T4.setTop (mkF m 14 #[vr tx, vi (Int32.ofNat k)] [(.int (((StrChars.lo8 (cs.getD k 0)) &&& (255 : Int32)).toUInt32.toUInt16.toUInt32.toInt32))])) := c6.trans (by
    show SS p e below (T4.setTop (mkF m 8 #[vr tx, vi (Int32.ofNat k)] [(.int (Int32.ofNat k)), (.ref tx)])) _
    refine X4.baloadBytes hx (j := (Int32.ofNat k)) (v := (.int (StrChars.lo8 (cs.getD k 0)))) (by rw [eq4]; exact Ar7.1) (State.isArrayOf_alike hZ.alike Ar7.2.1) Ar7.2.2 hin7 hat7 (g := (mkF m 8 #[vr tx, vi (Int32.ofNat k)] [(.int (Int32.ofNat k)), (.ref tx)])) rfl rfl (hb hby D2_8) _ ?_
    refine XS.sipush X4.here hx rfl (hb hby D2_9) ?_
    refine XS.iand X4.here hx rfl (hb hby D2_12) rfl ?_
    refine XS.i2c X4.here hx rfl (hb hby D2_13) rfl ?_
    exact Steps.refl _)
  have em : (((StrChars.lo8 (cs.getD k 0)) &&& (255 : Int32)).toUInt32.toUInt16.toUInt32.toInt32) = cs.getD k 0 := StrChars.chr8_lo8 (own_gm hc hk).1 (own_gm h8 hk)
  rw [em] at c8
  obtain ⟨fs, hr, hrun, hended, hW, hsame⟩ := X4.leave (v := some (.int (cs.getD k 0))) (fun h => by rw [Bd.returns] at h; cases h)
  refine ⟨_, _, c8.trans (retOut X4 hx Bd.returns (own_nc (own_gm hc hk)) (Or.inl ⟨rfl, by simp, _, rfl⟩) (hb hby D2_14) hr), hrun, hended, _, _, rfl, ?_, ⟨_, rfl⟩, hW, hsame.mono (by first | decide | exact Nat.le_of_ble_eq_true rfl) (by first | decide | exact Nat.le_of_ble_eq_true rfl)⟩
  show QInt Z (cs.getD k 0) h0 n0 _ T4.heap _
  rw [eq4]
  exact ⟨rfl, N4, rfl⟩

theorem D3_0 : decode jdk_52_method_6_code 0 = .ok (.aload_n 0, 1) := by decide +kernel
theorem D3_1 : decode jdk_52_method_6_code 1 = .ok (.arraylength, 1) := by decide +kernel
theorem D3_2 : decode jdk_52_method_6_code 2 = .ok (.iconst 1, 1) := by decide +kernel
theorem D3_3 : decode jdk_52_method_6_code 3 = .ok (.ishr, 1) := by decide +kernel
theorem D3_4 : decode jdk_52_method_6_code 4 = .ok (.ireturn, 1) := by decide +kernel
theorem pn_java_lang_StringUTF16 : plainName "java/lang/StringUTF16" = true := by first | (simp [plainName, overriddenIn]; done) | decide +kernel
theorem ef_rmUL (m : MethodId) (x0 : Addr) : entryFrame m #[(.ref x0)] 1 = mkF m 0 #[.val (.ref x0)] [] := by first | (simp [entryFrame, mkF, argsToLocals, Value.category]; done) | rfl
set_option maxRecDepth 65536 in
set_option maxHeartbeats 40000000 in
theorem rmUL (l : Launch) (Z : State) (a0 : Array Value) (hw : ∀ d ∈ tables_1, d.before a0 Z = true) (ws : List Jvm.Cond) (tx : Addr) (kx : ClassId) (cs : List Int32) (h0 : Heap) (n0 : Nat) (Z0 : n0 ≤ h0.size) (Vt : Arv Z h0 tx kx .byte (Int32.ofNat (2 * cs.length)) (StrChars.Road.wideBytes cs) (.int 0)) (hl : cs.length ≤ 4000) :
    MetFree l (⟨"java/lang/StringUTF16", "length", "([B)I"⟩ : MethodName) (head1 (Jvm.Cond.code (⟨"java/lang/StringUTF16", "length", "([B)I"⟩ : MethodName) jdk_52_method_6_code 1 (some .int) :: ws) ({ frames := 0, cells := 0, slots := 0, locals := 0 } : Room)) (fun aa U => aa = #[(.ref tx)] ∧ Z.Warmed39 U.vm ∧ U.heap = h0) (fun _ _ _ _ _ => True) (fun _ U o U' => ∃ v L, o = .returned v ∧ QInt Z (Int32.ofNat cs.length) h0 n0 v U'.heap L ∧ FrameEnd U o U' L ({ frames := 0, cells := 0, slots := 0, locals := 0 } : Room).cells ({ frames := 0, cells := 0, slots := 0, locals := 0 } : Room).slots) := by
  refine MetFree.of_bodySF (plainFor_of_name pn_java_lang_StringUTF16) hisR ?_
  intro p e s m args below meth c s₁ Bd hml0 hP hK
  obtain ⟨rfl, hZ, hh⟩ := hP
  have hx := Bd.exec
  have hby := Bd.bytes
  have hml : c.maxLocals = 1 := hml0
  have hown : s.vm.findClass "java/lang/StringUTF16" = some m.cls := findClass_of_methodNamed Bd.named
  have hnm := (name_of_methodNamed Bd.named Bd.method).1
  have X0 : Stand p l e ({ frames := 0, cells := 0, slots := 0, locals := 0 } : Room) s m #[(.ref tx)] below meth c s₁ [] 0 0 := Stand.of_body Bd
  have e0 : s₁.heap = h0 := by rw [← hh, Bd.state]; rfl
  have N0 := Fr.nil n0
  have K0 := Keep.refl h0 []
  obtain ⟨S0, hS0⟩ : ∃ z, z = s₁.setTop (entryFrame m #[(.ref tx)] 1) := ⟨_, rfl⟩
  rw [← hS0]
  have c0 : SS p e below S0 (s₁.setTop (mkF m 0 #[vr tx] [])) := by
    rw [hS0]; exact castTop (ef_rmUL m tx) (Steps.refl _)
  have c1 : SS p e below S0 (s₁.setTop (mkF m 1 #[vr tx] [(.ref tx)])) := c0.trans (by
    show SS p e below (s₁.setTop (mkF m 0 #[vr tx] [])) _
    refine XS.aloadN X0.here hx rfl (hb hby D3_0) rfl rfl ?_
    exact Steps.refl _)
  obtain ⟨cl2, Ar2, -, S2, Nn2, -, -⟩ := id Vt
  have c3 : SS p e below S0 (s₁.setTop (mkF m 4 #[vr tx] [(.int ((Int32.ofNat (2 * cs.length)) >>> ((1 : Int32) &&& 31)))])) := c1.trans (by
    show SS p e below (s₁.setTop (mkF m 1 #[vr tx] [(.ref tx)])) _
    refine X0.arraylength hx (by rw [e0]; exact Ar2.1) (State.isArrayOf_alike hZ.alike Ar2.2.1) (g := (mkF m 1 #[vr tx] [(.ref tx)])) rfl rfl (hb hby D3_1) _ ?_
    rw [len_of S2 Nn2]
    refine XS.iconst X0.here hx rfl (hb hby D3_2) ?_
    refine XS.ishr X0.here hx rfl (hb hby D3_3) rfl ?_
    exact Steps.refl _)
  rw [(StrChars.shr1 (n := cs.length) (by omega))] at c3
  obtain ⟨fs, hr, hrun, hended, hW, hsame⟩ := X0.leave (v := some (.int (Int32.ofNat cs.length))) (fun h => by rw [Bd.returns] at h; cases h)
  refine ⟨_, _, c3.trans (retOut X0 hx Bd.returns rfl (Or.inl ⟨rfl, by simp, _, rfl⟩) (hb hby D3_4) hr), hrun, hended, _, _, rfl, ?_, ⟨_, rfl⟩, hW, hsame.mono (by first | decide | exact Nat.le_of_ble_eq_true rfl) (by first | decide | exact Nat.le_of_ble_eq_true rfl)⟩
  show QInt Z (Int32.ofNat cs.length) h0 n0 _ s₁.heap _
  rw [e0]
  exact ⟨rfl, N0, rfl⟩

theorem D4_0 : decode jdk_52_method_91_code 0 = .ok (.iload_n 0, 1) := by decide +kernel
theorem D4_1 : decode jdk_52_method_91_code 1 = .ok (.aload_n 1, 1) := by decide +kernel
theorem pd_oaBcI : parseMethodDescriptor "([B)I" = some ⟨[(.array .byte)], some .int⟩ := by decide +kernel
theorem D4_2 : decode jdk_52_method_91_code 2 = .ok (.invokestatic 48, 3) := by decide +kernel
theorem D4_5 : decode jdk_52_method_91_code 5 = .ok (.invokestatic 414, 3) := by decide +kernel
theorem D4_8 : decode jdk_52_method_91_code 8 = .ok (.return_, 1) := by decide +kernel
theorem ef_rmUC (m : MethodId) (x0 : Int32) (x1 : Addr) : entryFrame m #[(.int x0), (.ref x1)] 2 = mkF m 0 #[.val (.int x0), .val (.ref x1)] [] := by first | (simp [entryFrame, mkF, argsToLocals, Value.category]; done) | rfl
set_option maxRecDepth 65536 in
set_option maxHeartbeats 40000000 in
theorem rmUC (l : Launch) (Z : State) (a0 : Array Value) (hw : ∀ d ∈ tables_1, d.before a0 Z = true) (ws : List Jvm.Cond) (tx : Addr) (kx : ClassId) (cs : List Int32) (k : Nat) (G3 : Value) (h0 : Heap) (n0 : Nat) (Z0 : n0 ≤ h0.size) (Vt : Arv Z h0 tx kx .byte (Int32.ofNat (2 * cs.length)) (StrChars.Road.wideBytes cs) (.int 0)) (hc : ∀ ch ∈ cs, C16 ch) (hl : cs.length ≤ 4000) (hk : k < cs.length) (O4 : Sta Z Z.heap "jdk/internal/util/Preconditions" "SIOOBE_FORMATTER" "Ljava/util/function/BiFunction;" G3) (rG3 : G3.isRef = true) (X00 : Old Z n0 h0) :
    MetFree l (⟨"java/lang/StringUTF16", "checkIndex", "(I[B)V"⟩ : MethodName) (head1 (Jvm.Cond.code (⟨"java/lang/StringUTF16", "checkIndex", "(I[B)V"⟩ : MethodName) jdk_52_method_91_code 2 (none) :: ws) ({ frames := 2, cells := 0, slots := 0, locals := 27 } : Room)) (fun aa U => aa = #[(.int (Int32.ofNat k)), (.ref tx)] ∧ Z.Warmed39 U.vm ∧ U.heap = h0) (fun _ _ _ _ _ => True) (fun _ U o U' => ∃ v L, o = .returned v ∧ QNo Z  h0 n0 v U'.heap L ∧ FrameEnd U o U' L ({ frames := 2, cells := 0, slots := 0, locals := 27 } : Room).cells ({ frames := 2, cells := 0, slots := 0, locals := 27 } : Room).slots) := by
  refine MetFree.of_bodySF (plainFor_of_name pn_java_lang_StringUTF16) hisR ?_
  intro p e s m args below meth c s₁ Bd hml0 hP hK
  obtain ⟨rfl, hZ, hh⟩ := hP
  have hx := Bd.exec
  have hby := Bd.bytes
  have hml : c.maxLocals = 2 := hml0
  have hown : s.vm.findClass "java/lang/StringUTF16" = some m.cls := findClass_of_methodNamed Bd.named
  have hnm := (name_of_methodNamed Bd.named Bd.method).1
  have X0 : Stand p l e ({ frames := 2, cells := 0, slots := 0, locals := 27 } : Room) s m #[(.int (Int32.ofNat k)), (.ref tx)] below meth c s₁ [] 0 0 := Stand.of_body Bd
  have e0 : s₁.heap = h0 := by rw [← hh, Bd.state]; rfl
  have N0 := Fr.nil n0
  have K0 := Keep.refl h0 []
  obtain ⟨S0, hS0⟩ : ∃ z, z = s₁.setTop (entryFrame m #[(.int (Int32.ofNat k)), (.ref tx)] 2) := ⟨_, rfl⟩
  rw [← hS0]
  have c0 : SS p e below S0 (s₁.setTop (mkF m 0 #[vi (Int32.ofNat k), vr tx] [])) := by
    rw [hS0]; exact castTop (ef_rmUC m (Int32.ofNat k) tx) (Steps.refl _)
  have c1 : SS p e below S0 (s₁.setTop (mkF m 2 #[vi (Int32.ofNat k), vr tx] [(.ref tx), (.int (Int32.ofNat k))])) := c0.trans (by
    show SS p e below (s₁.setTop (mkF m 0 #[vi (Int32.ofNat k), vr tx] [])) _
    refine XS.iloadN X0.here hx rfl (hb hby D4_0) rfl ?_
    refine XS.aloadN X0.here hx rfl (hb hby D4_1) rfl rfl ?_
    exact Steps.refl _)
  obtain ⟨_, _, ⟨T2, L2, kk2, nn2⟩, -, X2, ⟨Lc2, hQ2, l2, y2, z2⟩, st2⟩ := Jvm.LawKit.callS X0 hx (y := (⟨"java/lang/StringUTF16", "length", "([B)I"⟩ : MethodName)) hown (mvT hZ (ww hw 132 rfl)) (mvT hZ (ww hw 133 rfl)) (mvT hZ (ww hw 52 rfl)) (mvT hZ (ww hw 134 rfl)) (by decide) (backOf (W := 1) (rmUL l Z a0 hw [] tx kx cs h0 n0 Z0 Vt hl) hZ (ww hw 134 rfl) (ww hw 52 rfl) (by decide) (by decide)) (g := (mkF m 2 #[vi (Int32.ofNat k), vr tx] [(.ref tx), (.int (Int32.ofNat k))])) rfl (by rw [hml]; rfl) (argsL := [(.ref tx)]) (rest := [(.int (Int32.ofNat k))]) (lenOf pd_oaBcI rfl) rfl (by show 2 * 0 + _ ≤ _; exact Nat.le_of_eq rfl) (hb hby D4_2) (fun _ _ => ⟨rfl, e0, (by decide : 0 + 0 ≤ _), (by decide : 0 + 0 ≤ _)⟩)
  dsimp only [Pt.U, Pt.locs, Pt.cells, Pt.slots] at X2 l2 y2 z2 st2 hQ2
  subst l2 y2 z2
  obtain ⟨rfl, Nq2, eq2⟩ := hQ2
  have c3 : SS p e below S0 (T2.setTop (mkF m 5 #[vi (Int32.ofNat k), vr tx] [(.int (Int32.ofNat cs.length)), (.int (Int32.ofNat k))])) := c1.trans (st2 _ (Steps.refl _))
  have N2 := Fr.app N0 Nq2
  obtain ⟨_, _, ⟨T4, L4, kk4, nn4⟩, -, X4, ⟨Lc4, hQ4, l4, y4, z4⟩, st4⟩ := Jvm.LawKit.callS X2 hx (y := (⟨"java/lang/String", "checkIndex", "(II)V"⟩ : MethodName)) hown (mvT hZ (ww hw 135 rfl)) (mvT hZ (ww hw 75 rfl)) (mvT hZ (ww hw 10 rfl)) (mvT hZ (ww hw 76 rfl)) (by decide) (backOf (W := 0) (rmSC l Z a0 hw [] (Int32.ofNat k) (Int32.ofNat cs.length) G3 h0 n0 Z0 (own_idx hk (by omega)) O4 rG3 X00) hZ (ww hw 76 rfl) (ww hw 10 rfl) (by decide) (by decide)) (g := (mkF m 5 #[vi (Int32.ofNat k), vr tx] [(.int (Int32.ofNat cs.length)), (.int (Int32.ofNat k))])) rfl (by rw [hml]; rfl) (argsL := [(.int (Int32.ofNat k)), (.int (Int32.ofNat cs.length))]) (rest := []) (lenOf pd_oIIcV rfl) rfl (by show 2 * 0 + _ ≤ _; exact Nat.le_of_eq rfl) (hb hby D4_5) (fun _ _ => ⟨rfl, eq2, (by decide : 0 + 0 ≤ _), (by decide : 0 + 0 ≤ _)⟩)
  dsimp only [Pt.U, Pt.locs, Pt.cells, Pt.slots] at X4 l4 y4 z4 st4 hQ4
  subst l4 y4 z4
  obtain ⟨rfl, Nq4, eq4⟩ := hQ4
  have c5 : SS p e below S0 (T4.setTop (mkF m 8 #[vi (Int32.ofNat k), vr tx] [])) := c3.trans (st4 _ (Steps.refl _))
  have N4 := Fr.app N2 Nq4
  obtain ⟨fs, hr, hrun, hended, hW, hsame⟩ := X4.leave (v := none) (fun h => rfl)
  refine ⟨_, _, c5.trans (X4.returnOut hx Bd.returns (hb hby D4_8) hr), hrun, hended, _, _, rfl, ?_, ⟨_, rfl⟩, hW, hsame.mono (by first | decide | exact Nat.le_of_ble_eq_true rfl) (by first | decide | exact Nat.le_of_ble_eq_true rfl)⟩
  show QNo Z  h0 n0 _ T4.heap _
  rw [eq4]
  exact ⟨rfl, N4, rfl⟩

theorem D5_0 : decode jdk_52_method_5_code 0 = .ok (.getstatic 44, 3) := by decide +kernel
theorem D5_3 : decode jdk_52_method_5_code 3 = .ok (.ifCond .ne 25, 3) := by decide +kernel
theorem D5_28 : decode jdk_52_method_5_code 28 = .ok (.iload_n 1, 1) := by decide +kernel
theorem D5_29 : decode jdk_52_method_5_code 29 = .ok (.iconst 1, 1) := by decide +kernel
theorem D5_30 : decode jdk_52_method_5_code 30 = .ok (.ishl, 1) := by decide +kernel
theorem D5_31 : decode jdk_52_method_5_code 31 = .ok (.istore_n 1, 1) := by decide +kernel
theorem D5_32 : decode jdk_52_method_5_code 32 = .ok (.aload_n 0, 1) := by decide +kernel
theorem D5_33 : decode jdk_52_method_5_code 33 = .ok (.iload_n 1, 1) := by decide +kernel
theorem D5_34 : decode jdk_52_method_5_code 34 = .ok (.iinc 1 1, 3) := by decide +kernel
theorem D5_37 : decode jdk_52_method_5_code 37 = .ok (.baload, 1) := by decide +kernel
theorem D5_38 : decode jdk_52_method_5_code 38 = .ok (.sipush 255, 3) := by decide +kernel
theorem D5_41 : decode jdk_52_method_5_code 41 = .ok (.iand, 1) := by decide +kernel
theorem D5_42 : decode jdk_52_method_5_code 42 = .ok (.getstatic 59, 3) := by decide +kernel
theorem D5_45 : decode jdk_52_method_5_code 45 = .ok (.ishl, 1) := by decide +kernel
theorem D5_46 : decode jdk_52_method_5_code 46 = .ok (.aload_n 0, 1) := by decide +kernel
theorem D5_47 : decode jdk_52_method_5_code 47 = .ok (.iload_n 1, 1) := by decide +kernel
theorem D5_48 : decode jdk_52_method_5_code 48 = .ok (.baload, 1) := by decide +kernel
theorem D5_49 : decode jdk_52_method_5_code 49 = .ok (.sipush 255, 3) := by decide +kernel
theorem D5_52 : decode jdk_52_method_5_code 52 = .ok (.iand, 1) := by decide +kernel
theorem D5_53 : decode jdk_52_method_5_code 53 = .ok (.getstatic 63, 3) := by decide +kernel
theorem D5_56 : decode jdk_52_method_5_code 56 = .ok (.ishl, 1) := by decide +kernel
theorem D5_57 : decode jdk_52_method_5_code 57 = .ok (.ior, 1) := by decide +kernel
theorem D5_58 : decode jdk_52_method_5_code 58 = .ok (.i2c, 1) := by decide +kernel
theorem D5_59 : decode jdk_52_method_5_code 59 = .ok (.ireturn, 1) := by decide +kernel
theorem ef_rmGC (m : MethodId) (x0 : Addr) (x1 : Int32) : entryFrame m #[(.ref x0), (.int x1)] 2 = mkF m 0 #[.val (.ref x0), .val (.int x1)] [] := by first | (simp [entryFrame, mkF, argsToLocals, Value.category]; done) | rfl
set_option maxRecDepth 65536 in
set_option maxHeartbeats 40000000 in
theorem rmGC (l : Launch) (Z : State) (a0 : Array Value) (hw : ∀ d ∈ tables_1, d.before a0 Z = true) (ws : List Jvm.Cond) (tx : Addr) (kx : ClassId) (cs : List Int32) (k : Nat)  (h0 : Heap) (n0 : Nat) (Z0 : n0 ≤ h0.size) (Vt : Arv Z h0 tx kx .byte (Int32.ofNat (2 * cs.length)) (StrChars.Road.wideBytes cs) (.int 0)) (hc : ∀ ch ∈ cs, C16 ch) (hl : cs.length ≤ 4000) (hk : k < cs.length) (sAD : Sta Z Z.heap "java/lang/StringUTF16" "$assertionsDisabled" "Z" (.int 1)) (sHI : Sta Z Z.heap "java/lang/StringUTF16" "HI_BYTE_SHIFT" "I" (.int 0)) (sLO : Sta Z Z.heap "java/lang/StringUTF16" "LO_BYTE_SHIFT" "I" (.int 8)) (X00 : Old Z n0 h0) :
    MetFree l (⟨"java/lang/StringUTF16", "getChar", "([BI)C"⟩ : MethodName) (head1 (Jvm.Cond.code (⟨"java/lang/StringUTF16", "getChar", "([BI)C"⟩ : MethodName) jdk_52_method_5_code 2 (some .char) :: ws) ({ frames := 0, cells := 0, slots := 0, locals := 0 } : Room)) (fun aa U => aa = #[(.ref tx), (.int (Int32.ofNat k))] ∧ Z.Warmed39 U.vm ∧ U.heap = h0) (fun _ _ _ _ _ => True) (fun _ U o U' => ∃ v L, o = .returned v ∧ QInt Z (cs.getD k 0) h0 n0 v U'.heap L ∧ FrameEnd U o U' L ({ frames := 0, cells := 0, slots := 0, locals := 0 } : Room).cells ({ frames := 0, cells := 0, slots := 0, locals := 0 } : Room).slots) := by
  refine MetFree.of_bodySF (plainFor_of_name pn_java_lang_StringUTF16) hisR ?_
  intro p e s m args below meth c s₁ Bd hml0 hP hK
  obtain ⟨rfl, hZ, hh⟩ := hP
  have hx := Bd.exec
  have hby := Bd.bytes
  have hml : c.maxLocals = 2 := hml0
  have hown : s.vm.findClass "java/lang/StringUTF16" = some m.cls := findClass_of_methodNamed Bd.named
  have hnm := (name_of_methodNamed Bd.named Bd.method).1
  have X0 : Stand p l e ({ frames := 0, cells := 0, slots := 0, locals := 0 } : Room) s m #[(.ref tx), (.int (Int32.ofNat k))] below meth c s₁ [] 0 0 := Stand.of_body Bd
  have e0 : s₁.heap = h0 := by rw [← hh, Bd.state]; rfl
  have N0 := Fr.nil n0
  have K0 := Keep.refl h0 []
  obtain ⟨S0, hS0⟩ : ∃ z, z = s₁.setTop (entryFrame m #[(.ref tx), (.int (Int32.ofNat k))] 2) := ⟨_, rfl⟩
  rw [← hS0]
  have c0 : SS p e below S0 (s₁.setTop (mkF m 0 #[vr tx, vi (Int32.ofNat k)] [])) := by
    rw [hS0]; exact castTop (ef_rmGC m tx (Int32.ofNat k)) (Steps.refl _)
  obtain ⟨T1, X1, e1, st1⟩ := getS2 X0 hx hZ hown (host := "") (Or.inl (ww hw 120 rfl)) Via.refl e0 (sAD.ext X00.2) (g := (mkF m 0 #[vr tx, vi (Int32.ofNat k)] [])) rfl (hb hby D5_0)
  have c2 : SS p e below S0 (T1.setTop (mkF m 3 #[vr tx, vi (Int32.ofNat k)] [(.int 1)])) := c0.trans (st1 _ (Steps.refl _))
  have c3 : SS p e below S0 (T1.setTop (mkF m 31 #[vr tx, vi (Int32.ofNat k)] [(.int ((Int32.ofNat k) <<< ((1 : Int32) &&& 31)))])) := c2.trans (by
    show SS p e below (T1.setTop (mkF m 3 #[vr tx, vi (Int32.ofNat k)] [(.int 1)])) _
    refine XS.ifYes X1.here hx rfl (pc0 := 3) (pc' := 28) rfl (hb hby D5_3) rfl ((if0 _ _).trans (feq (by decide : ¬ ((1 : Int32) = (0 : Int32)))).2) (by decide) (by decide) ?_
    refine XS.iloadN X1.here hx rfl (hb hby D5_28) rfl ?_
    refine XS.iconst X1.here hx rfl (hb hby D5_29) ?_
    refine XS.ishl X1.here hx rfl (hb hby D5_30) rfl ?_
    exact Steps.refl _)
  rw [(own_shl1 (by omega : k < 1073741823))] at c3
  have c4 : SS p e below S0 (T1.setTop (mkF m 37 #[vr tx, vi ((Int32.ofNat (2 * k)) + (1 : Int32))] [(.int (Int32.ofNat (2 * k))), (.ref tx)])) := c3.trans (by
    show SS p e below (T1.setTop (mkF m 31 #[vr tx, vi (Int32.ofNat k)] [(.int (Int32.ofNat (2 * k)))])) _
    refine XS.istoreN X1.here hx rfl (hb hby D5_31) rfl (l' := #[vr tx, vi (Int32.ofNat (2 * k))]) rfl ?_
    refine XS.aloadN X1.here hx rfl (hb hby D5_32) rfl rfl ?_
    refine XS.iloadN X1.here hx rfl (hb hby D5_33) rfl ?_
    refine XS.iinc X1.here hx rfl (hb hby D5_34) rfl (l' := #[vr tx, vi ((Int32.ofNat (2 * k)) + (1 : Int32))]) rfl ?_
    exact Steps.refl _)
  rw [(own_inc2 k)] at c4
  obtain ⟨cl5, Ar5, -, S5, -, Ha5, -⟩ := id Vt
  have hin5 := inb_of (j := (Int32.ofNat (2 * k))) S5 (own_idx (a := 2 * k) (m := 2 * cs.length) (by omega) (by omega))
  have hat5 := Ha5.at hin5 (show (StrChars.Road.wideBytes cs).getD (Int32.ofNat (2 * k)).toNatClampNeg (.int 0) = .int (StrChars.lo8 (cs.getD k 0)) by rw [own_nat (by omega)]; exact StrChars.Road.wide_lo _ cs k hk)
  have c6 : SS p e below S0 (T1.setTop (mkF m 42 #[vr tx, vi (Int32.ofNat (2 * k + 1))] [(.int ((StrChars.lo8 (cs.getD k 0)) &&& (255 : Int32)))])) := c4.trans (by
    show SS p e below (T1.setTop (mkF m 37 #[vr tx, vi (Int32.ofNat (2 * k + 1))] [(.int (Int32.ofNat (2 * k))), (.ref tx)])) _
    refine X1.baloadBytes hx (j := (Int32.ofNat (2 * k))) (v := (.int (StrChars.lo8 (cs.getD k 0)))) (by rw [e1]; exact Ar5.1) (State.isArrayOf_alike hZ.alike Ar5.2.1) Ar5.2.2 hin5 hat5 (g := (mkF m 37 #[vr tx, vi (Int32.ofNat (2 * k + 1))] [(.int (Int32.ofNat (2 * k))), (.ref tx)])) rfl rfl (hb hby D5_37) _ ?_
    refine XS.sipush X1.here hx rfl (hb hby D5_38) ?_
    refine XS.iand X1.here hx rfl (hb hby D5_41) rfl ?_
    exact Steps.refl _)
  obtain ⟨T7, X7, e7, st7⟩ := getS2 X1 hx hZ hown (host := "") (Or.inl (ww hw 121 rfl)) Via.refl e1 (sHI.ext X00.2) (g := (mkF m 42 #[vr tx, vi (Int32.ofNat (2 * k + 1))] [(.int ((StrChars.lo8 (cs.getD k 0)) &&& (255 : Int32)))])) rfl (hb hby D5_42)
  have c8 : SS p e below S0 (T7.setTop (mkF m 45 #[vr tx, vi (Int32.ofNat (2 * k + 1))] [(.int 0), (.int ((StrChars.lo8 (cs.getD k 0)) &&& (255 : Int32)))])) := c6.trans (st7 _ (Steps.refl _))
  have c9 : SS p e below S0 (T7.setTop (mkF m 48 #[vr tx, vi (Int32.ofNat (2 * k + 1))] [(.int (Int32.ofNat (2 * k + 1))), (.ref tx), (.int (((StrChars.lo8 (cs.getD k 0)) &&& (255 : Int32)) <<< ((0 : Int32) &&& 31)))])) := c8.trans (by
    show SS p e below (T7.setTop (mkF m 45 #[vr tx, vi (Int32.ofNat (2 * k + 1))] [(.int 0), (.int ((StrChars.lo8 (cs.getD k 0)) &&& (255 : Int32)))])) _
    refine XS.ishl X7.here hx rfl (hb hby D5_45) rfl ?_
    refine XS.aloadN X7.here hx rfl (hb hby D5_46) rfl rfl ?_
    refine XS.iloadN X7.here hx rfl (hb hby D5_47) rfl ?_
    exact Steps.refl _)
  obtain ⟨cl10, Ar10, -, S10, -, Ha10, -⟩ := id Vt
  have hin10 := inb_of (j := (Int32.ofNat (2 * k + 1))) S10 (own_idx (a := 2 * k + 1) (m := 2 * cs.length) (by omega) (by omega))
  have hat10 := Ha10.at hin10 (show (StrChars.Road.wideBytes cs).getD (Int32.ofNat (2 * k + 1)).toNatClampNeg (.int 0) = .int (StrChars.hi8 (cs.getD k 0)) by rw [own_nat (by omega)]; exact StrChars.Road.wide_hi _ cs k hk)
  have c11 : SS p e below S0 (T7.setTop (mkF m 53 #[vr tx, vi (Int32.ofNat (2 * k + 1))] [(.int ((StrChars.hi8 (cs.getD k 0)) &&& (255 : Int32))), (.int (((StrChars.lo8 (cs.getD k 0)) &&& (255 : Int32)) <<< ((0 : Int32) &&& 31)))])) := c9.trans (by
    show SS p e below (T7.setTop (mkF m 48 #[vr tx, vi (Int32.ofNat (2 * k + 1))] [(.int (Int32.ofNat (2 * k + 1))), (.ref tx), (.int (((StrChars.lo8 (cs.getD k 0)) &&& (255 : Int32)) <<< ((0 : Int32) &&& 31)))])) _
    refine X7.baloadBytes hx (j := (Int32.ofNat (2 * k + 1))) (v := (.int (StrChars.hi8 (cs.getD k 0)))) (by rw [e7]; exact Ar10.1) (State.isArrayOf_alike hZ.alike Ar10.2.1) Ar10.2.2 hin10 hat10 (g := (mkF m 48 #[vr tx, vi (Int32.ofNat (2 * k + 1))] [(.int (Int32.ofNat (2 * k + 1))), (.ref tx), (.int (((StrChars.lo8 (cs.getD k 0)) &&& (255 : Int32)) <<< ((0 : Int32) &&& 31)))])) rfl rfl (hb hby D5_48) _ ?_
    refine XS.sipush X7.here hx rfl (hb hby D5_49) ?_
    refine XS.iand X7.here hx rfl (hb hby D5_52) rfl ?_
    exact Steps.refl _)
  obtain ⟨T12, X12, e12, st12⟩ := getS2 X7 hx hZ hown (host := "") (Or.inl (ww hw 122 rfl)) Via.refl e7 (sLO.ext X00.2) (g := (mkF m 53 #[vr tx, vi (Int32.ofNat (2 * k + 1))] [(.int ((StrChars.hi8 (cs.getD k 0)) &&& (255 : Int32))), (.int (((StrChars.lo8 (cs.getD k 0)) &&& (255 : Int32)) <<< ((0 : Int32) &&& 31)))])) rfl (hb hby D5_53)
  have c13 : SS p e below S0 (T12.setTop (mkF m 56 #[vr tx, vi (Int32.ofNat (2 * k + 1))] [(.int 8), (.int ((StrChars.hi8 (cs.getD k 0)) &&& (255 : Int32))), (.int (((StrChars.lo8 (cs.getD k 0)) &&& (255 : Int32)) <<< ((0 : Int32) &&& 31)))])) := c11.trans (st12 _ (Steps.refl _))
  have c14 : SS p e below S0 (T12.setTop (mkF m 59 #[vr tx, vi (Int32.ofNat (2 * k + 1))] [(.int (((((StrChars.lo8 (cs.getD k 0)) &&& (255 : Int32)) <<< ((0 : Int32) &&& 31)) ||| (((StrChars.hi8 (cs.getD k 0)) &&& (255 : Int32)) <<< ((8 : Int32) &&& 31))).toUInt32.toUInt16.toUInt32.toInt32))])) := c13.trans (by
    show SS p e below (T12.setTop (mkF m 56 #[vr tx, vi (Int32.ofNat (2 * k + 1))] [(.int 8), (.int ((StrChars.hi8 (cs.getD k 0)) &&& (255 : Int32))), (.int (((StrChars.lo8 (cs.getD k 0)) &&& (255 : Int32)) <<< ((0 : Int32) &&& 31)))])) _
    refine XS.ishl X12.here hx rfl (hb hby D5_56) rfl ?_
    refine XS.ior X12.here hx rfl (hb hby D5_57) rfl ?_
    refine XS.i2c X12.here hx rfl (hb hby D5_58) rfl ?_
    exact Steps.refl _)
  have em : (((((StrChars.lo8 (cs.getD k 0)) &&& (255 : Int32)) <<< ((0 : Int32) &&& 31)) ||| (((StrChars.hi8 (cs.getD k 0)) &&& (255 : Int32)) <<< ((8 : Int32) &&& 31))).toUInt32.toUInt16.toUInt32.toInt32) = cs.getD k 0 := StrChars.pair_says (own_gm hc hk).1 (own_gm hc hk).2
  rw [em] at c14
  obtain ⟨fs, hr, hrun, hended, hW, hsame⟩ := X12.leave (v := some (.int (cs.getD k 0))) (fun h => by rw [Bd.returns] at h; cases h)
  refine ⟨_, _, c14.trans (retOut X12 hx Bd.returns (own_nc (own_gm hc hk)) (Or.inl ⟨rfl, by simp, _, rfl⟩) (hb hby D5_59) hr), hrun, hended, _, _, rfl, ?_, ⟨_, rfl⟩, hW, hsame.mono (by first | decide | exact Nat.le_of_ble_eq_true rfl) (by first | decide | exact Nat.le_of_ble_eq_true rfl)⟩
  show QInt Z (cs.getD k 0) h0 n0 _ T12.heap _
  rw [e12]
  exact ⟨rfl, N0, rfl⟩

theorem D6_0 : decode jdk_52_method_83_code 0 = .ok (.iload_n 1, 1) := by decide +kernel
theorem D6_1 : decode jdk_52_method_83_code 1 = .ok (.aload_n 0, 1) := by decide +kernel
theorem pd_oIaBcV : parseMethodDescriptor "(I[B)V" = some ⟨[.int, (.array .byte)], none⟩ := by decide +kernel
theorem D6_2 : decode jdk_52_method_83_code 2 = .ok (.invokestatic 67, 3) := by decide +kernel
theorem D6_5 : decode jdk_52_method_83_code 5 = .ok (.aload_n 0, 1) := by decide +kernel
theorem D6_6 : decode jdk_52_method_83_code 6 = .ok (.iload_n 1, 1) := by decide +kernel
theorem pd_oaBIcC : parseMethodDescriptor "([BI)C" = some ⟨[(.array .byte), .int], some .char⟩ := by decide +kernel
theorem D6_7 : decode jdk_52_method_83_code 7 = .ok (.invokestatic 71, 3) := by decide +kernel
theorem D6_10 : decode jdk_52_method_83_code 10 = .ok (.ireturn, 1) := by decide +kernel
theorem ef_rmUA (m : MethodId) (x0 : Addr) (x1 : Int32) : entryFrame m #[(.ref x0), (.int x1)] 2 = mkF m 0 #[.val (.ref x0), .val (.int x1)] [] := by first | (simp [entryFrame, mkF, argsToLocals, Value.category]; done) | rfl
set_option maxRecDepth 65536 in
set_option maxHeartbeats 40000000 in
theorem rmUA (l : Launch) (Z : State) (a0 : Array Value) (hw : ∀ d ∈ tables_1, d.before a0 Z = true) (ws : List Jvm.Cond) (tx : Addr) (kx : ClassId) (cs : List Int32) (k : Nat) (G3 : Value) (h0 : Heap) (n0 : Nat) (Z0 : n0 ≤ h0.size) (Vt : Arv Z h0 tx kx .byte (Int32.ofNat (2 * cs.length)) (StrChars.Road.wideBytes cs) (.int 0)) (hc : ∀ ch ∈ cs, C16 ch) (hl : cs.length ≤ 4000) (hk : k < cs.length) (sAD : Sta Z Z.heap "java/lang/StringUTF16" "$assertionsDisabled" "Z" (.int 1)) (sHI : Sta Z Z.heap "java/lang/StringUTF16" "HI_BYTE_SHIFT" "I" (.int 0)) (sLO : Sta Z Z.heap "java/lang/StringUTF16" "LO_BYTE_SHIFT" "I" (.int 8)) (O4 : Sta Z Z.heap "jdk/internal/util/Preconditions" "SIOOBE_FORMATTER" "Ljava/util/function/BiFunction;" G3) (rG3 : G3.isRef = true) (X00 : Old Z n0 h0) :
    MetFree l (⟨"java/lang/StringUTF16", "charAt", "([BI)C"⟩ : MethodName) (head1 (Jvm.Cond.code (⟨"java/lang/StringUTF16", "charAt", "([BI)C"⟩ : MethodName) jdk_52_method_83_code 2 (some .char) :: ws) ({ frames := 3, cells := 0, slots := 0, locals := 40 } : Room)) (fun aa U => aa = #[(.ref tx), (.int (Int32.ofNat k))] ∧ Z.Warmed39 U.vm ∧ U.heap = h0) (fun _ _ _ _ _ => True) (fun _ U o U' => ∃ v L, o = .returned v ∧ QInt Z (cs.getD k 0) h0 n0 v U'.heap L ∧ FrameEnd U o U' L ({ frames := 3, cells := 0, slots := 0, locals := 40 } : Room).cells ({ frames := 3, cells := 0, slots := 0, locals := 40 } : Room).slots) := by
  refine MetFree.of_bodySF (plainFor_of_name pn_java_lang_StringUTF16) hisR ?_
  intro p e s m args below meth c s₁ Bd hml0 hP hK
  obtain ⟨rfl, hZ, hh⟩ := hP
  have hx := Bd.exec
  have hby := Bd.bytes
  have hml : c.maxLocals = 2 := hml0
  have hown : s.vm.findClass "java/lang/StringUTF16" = some m.cls := findClass_of_methodNamed Bd.named
  have hnm := (name_of_methodNamed Bd.named Bd.method).1
  have X0 : Stand p l e ({ frames := 3, cells := 0, slots := 0, locals := 40 } : Room) s m #[(.ref tx), (.int (Int32.ofNat k))] below meth c s₁ [] 0 0 := Stand.of_body Bd
  have e0 : s₁.heap = h0 := by rw [← hh, Bd.state]; rfl
  have N0 := Fr.nil n0
  have K0 := Keep.refl h0 []
  obtain ⟨S0, hS0⟩ : ∃ z, z = s₁.setTop (entryFrame m #[(.ref tx), (.int (Int32.ofNat k))] 2) := ⟨_, rfl⟩
  rw [← hS0]
  have c0 : SS p e below S0 (s₁.setTop (mkF m 0 #[vr tx, vi (Int32.ofNat k)] [])) := by
    rw [hS0]; exact castTop (ef_rmUA m tx (Int32.ofNat k)) (Steps.refl _)
  have c1 : SS p e below S0 (s₁.setTop (mkF m 2 #[vr tx, vi (Int32.ofNat k)] [(.ref tx), (.int (Int32.ofNat k))])) := c0.trans (by
    show SS p e below (s₁.setTop (mkF m 0 #[vr tx, vi (Int32.ofNat k)] [])) _
    refine XS.iloadN X0.here hx rfl (hb hby D6_0) rfl ?_
    refine XS.aloadN X0.here hx rfl (hb hby D6_1) rfl rfl ?_
    exact Steps.refl _)
  obtain ⟨_, _, ⟨T2, L2, kk2, nn2⟩, -, X2, ⟨Lc2, hQ2, l2, y2, z2⟩, st2⟩ := Jvm.LawKit.callS X0 hx (y := (⟨"java/lang/StringUTF16", "checkIndex", "(I[B)V"⟩ : MethodName)) hown (mvT hZ (ww hw 129 rfl)) (mvT hZ (ww hw 130 rfl)) (mvT hZ (ww hw 52 rfl)) (mvT hZ (ww hw 131 rfl)) (by decide) (backOf (W := 0) (rmUC l Z a0 hw [] tx kx cs k G3 h0 n0 Z0 Vt hc hl hk O4 rG3 X00) hZ (ww hw 131 rfl) (ww hw 52 rfl) (by decide) (by decide)) (g := (mkF m 2 #[vr tx, vi (Int32.ofNat k)] [(.ref tx), (.int (Int32.ofNat k))])) rfl (by rw [hml]; rfl) (argsL := [(.int (Int32.ofNat k)), (.ref tx)]) (rest := []) (lenOf pd_oIaBcV rfl) rfl (by show 2 * 0 + _ ≤ _; exact Nat.le_of_eq rfl) (hb hby D6_2) (fun _ _ => ⟨rfl, e0, (by decide : 0 + 0 ≤ _), (by decide : 0 + 0 ≤ _)⟩)
  dsimp only [Pt.U, Pt.locs, Pt.cells, Pt.slots] at X2 l2 y2 z2 st2 hQ2
  subst l2 y2 z2
  obtain ⟨rfl, Nq2, eq2⟩ := hQ2
  have c3 : SS p e below S0 (T2.setTop (mkF m 5 #[vr tx, vi (Int32.ofNat k)] [])) := c1.trans (st2 _ (Steps.refl _))
  have N2 := Fr.app N0 Nq2
  have c4 : SS p e below S0 (T2.setTop (mkF m 7 #[vr tx, vi (Int32.ofNat k)] [(.int (Int32.ofNat k)), (.ref tx)])) := c3.trans (by
    show SS p e below (T2.setTop (mkF m 5 #[vr tx, vi (Int32.ofNat k)] [])) _
    refine XS.aloadN X2.here hx rfl (hb hby D6_5) rfl rfl ?_
    refine XS.iloadN X2.here hx rfl (hb hby D6_6) rfl ?_
    exact Steps.refl _)
  obtain ⟨_, _, ⟨T5, L5, kk5, nn5⟩, -, X5, ⟨Lc5, hQ5, l5, y5, z5⟩, st5⟩ := Jvm.LawKit.callS X2 hx (y := (⟨"java/lang/StringUTF16", "getChar", "([BI)C"⟩ : MethodName)) hown (mvT hZ (ww hw 123 rfl)) (mvT hZ (ww hw 124 rfl)) (mvT hZ (ww hw 52 rfl)) (mvT hZ (ww hw 125 rfl)) (by decide) (backOf (W := 0) (rmGC l Z a0 hw [] tx kx cs k h0 n0 Z0 Vt hc hl hk sAD sHI sLO X00) hZ (ww hw 125 rfl) (ww hw 52 rfl) (by decide) (by decide)) (g := (mkF m 7 #[vr tx, vi (Int32.ofNat k)] [(.int (Int32.ofNat k)), (.ref tx)])) rfl (by rw [hml]; rfl) (argsL := [(.ref tx), (.int (Int32.ofNat k))]) (rest := []) (lenOf pd_oaBIcC rfl) rfl (by show 2 * 0 + _ ≤ _; exact Nat.le_of_eq rfl) (hb hby D6_7) (fun _ _ => ⟨rfl, eq2, (by decide : 0 + 0 ≤ _), (by decide : 0 + 0 ≤ _)⟩)
  dsimp only [Pt.U, Pt.locs, Pt.cells, Pt.slots] at X5 l5 y5 z5 st5 hQ5
  subst l5 y5 z5
  obtain ⟨rfl, Nq5, eq5⟩ := hQ5
  have c6 : SS p e below S0 (T5.setTop (mkF m 10 #[vr tx, vi (Int32.ofNat k)] [(.int (cs.getD k 0))])) := c4.trans (st5 _ (Steps.refl _))
  have N5 := Fr.app N2 Nq5
  obtain ⟨fs, hr, hrun, hended, hW, hsame⟩ := X5.leave (v := some (.int (cs.getD k 0))) (fun h => by rw [Bd.returns] at h; cases h)
  refine ⟨_, _, c6.trans (retOut X5 hx Bd.returns (own_nc (own_gm hc hk)) (Or.inl ⟨rfl, by simp, _, rfl⟩) (hb hby D6_10) hr), hrun, hended, _, _, rfl, ?_, ⟨_, rfl⟩, hW, hsame.mono (by first | decide | exact Nat.le_of_ble_eq_true rfl) (by first | decide | exact Nat.le_of_ble_eq_true rfl)⟩
  show QInt Z (cs.getD k 0) h0 n0 _ T5.heap _
  rw [eq5]
  exact ⟨rfl, N5, rfl⟩

theorem D7_0 : decode jdk_42_method_154_code 0 = .ok (.getstatic 38, 3) := by decide +kernel
theorem D7_3 : decode jdk_42_method_154_code 3 = .ok (.ifCond .eq 14, 3) := by decide +kernel
theorem D7_6 : decode jdk_42_method_154_code 6 = .ok (.aload_n 0, 1) := by decide +kernel
theorem D7_7 : decode jdk_42_method_154_code 7 = .ok (.getfield 15, 3) := by decide +kernel
theorem D7_10 : decode jdk_42_method_154_code 10 = .ok (.ifCond .ne 7, 3) := by decide +kernel
theorem D7_13 : decode jdk_42_method_154_code 13 = .ok (.iconst 1, 1) := by decide +kernel
theorem D7_14 : decode jdk_42_method_154_code 14 = .ok (.goto 4, 3) := by decide +kernel
theorem D7_18 : decode jdk_42_method_154_code 18 = .ok (.ireturn, 1) := by decide +kernel
theorem D7_17 : decode jdk_42_method_154_code 17 = .ok (.iconst 0, 1) := by decide +kernel
theorem ef_rmIL (m : MethodId) (x0 : Addr) : entryFrame m #[(.ref x0)] 1 = mkF m 0 #[.val (.ref x0)] [] := by first | (simp [entryFrame, mkF, argsToLocals, Value.category]; done) | rfl
set_option maxRecDepth 65536 in
set_option maxHeartbeats 40000000 in
theorem rmIL (l : Launch) (Z : State) (a0 : Array Value) (hw : ∀ d ∈ tables_1, d.before a0 Z = true) (ws : List Jvm.Cond) (sx : Addr) (cd : Int32) (G1 : Int32) (h0 : Heap) (n0 : Nat) (Z0 : n0 ≤ h0.size) (Fc : Fld Z h0 sx "java/lang/String" "coder" "B" (.int cd)) (O2 : Sta Z Z.heap "java/lang/String" "COMPACT_STRINGS" "Z" (.int G1)) (P5 : ¬ G1 = 0) (X00 : Old Z n0 h0) :
    MetFree l (⟨"java/lang/String", "isLatin1", "()Z"⟩ : MethodName) (head1 (Jvm.Cond.code (⟨"java/lang/String", "isLatin1", "()Z"⟩ : MethodName) jdk_42_method_154_code 1 (some .boolean) :: ws) ({ frames := 0, cells := 0, slots := 0, locals := 0 } : Room)) (fun aa U => aa = #[(.ref sx)] ∧ Z.Warmed39 U.vm ∧ U.heap = h0) (fun _ _ _ _ _ => True) (fun _ U o U' => ∃ v L, o = .returned v ∧ QInt Z (if cd = 0 then 1 else 0) h0 n0 v U'.heap L ∧ FrameEnd U o U' L ({ frames := 0, cells := 0, slots := 0, locals := 0 } : Room).cells ({ frames := 0, cells := 0, slots := 0, locals := 0 } : Room).slots) := by
  refine MetFree.of_bodySF (plainFor_of_name pn_java_lang_String) hisR ?_
  intro p e s m args below meth c s₁ Bd hml0 hP hK
  obtain ⟨rfl, hZ, hh⟩ := hP
  have hx := Bd.exec
  have hby := Bd.bytes
  have hml : c.maxLocals = 1 := hml0
  have hown : s.vm.findClass "java/lang/String" = some m.cls := findClass_of_methodNamed Bd.named
  have hnm := (name_of_methodNamed Bd.named Bd.method).1
  have X0 : Stand p l e ({ frames := 0, cells := 0, slots := 0, locals := 0 } : Room) s m #[(.ref sx)] below meth c s₁ [] 0 0 := Stand.of_body Bd
  have e0 : s₁.heap = h0 := by rw [← hh, Bd.state]; rfl
  have N0 := Fr.nil n0
  have K0 := Keep.refl h0 []
  obtain ⟨S0, hS0⟩ : ∃ z, z = s₁.setTop (entryFrame m #[(.ref sx)] 1) := ⟨_, rfl⟩
  rw [← hS0]
  have c0 : SS p e below S0 (s₁.setTop (mkF m 0 #[vr sx] [])) := by
    rw [hS0]; exact castTop (ef_rmIL m sx) (Steps.refl _)
  obtain ⟨T1, X1, e1, st1⟩ := getS2 X0 hx hZ hown (host := "") (Or.inl (ww hw 49 rfl)) Via.refl e0 (O2.ext X00.2) (g := (mkF m 0 #[vr sx] [])) rfl (hb hby D7_0)
  have c2 : SS p e below S0 (T1.setTop (mkF m 3 #[vr sx] [(.int G1)])) := c0.trans (st1 _ (Steps.refl _))
  have c3 : SS p e below S0 (T1.setTop (mkF m 7 #[vr sx] [(.ref sx)])) := c2.trans (by
    show SS p e below (T1.setTop (mkF m 3 #[vr sx] [(.int G1)])) _
    refine XS.ifNo X1.here hx rfl (hb hby D7_3) rfl ((if0 _ _).trans (feq P5).1) ?_
    refine XS.aloadN X1.here hx rfl (hb hby D7_6) rfl rfl ?_
    exact Steps.refl _)
  obtain ⟨T4, X4, e4, st4⟩ := getF X1 hx hZ hown (host := "") (Or.inl (ww hw 28 rfl)) Via.refl e1 Fc (g := (mkF m 7 #[vr sx] [(.ref sx)])) rfl rfl (hb hby D7_7)
  have c5 : SS p e below S0 (T4.setTop (mkF m 10 #[vr sx] [(.int cd)])) := c3.trans (st4 _ (Steps.refl _))
  by_cases hq6 : cd = (0 : Int32)
  · have c7 : SS p e below S0 (T4.setTop (mkF m 18 #[vr sx] [(.int 1)])) := c5.trans (by
      show SS p e below (T4.setTop (mkF m 10 #[vr sx] [(.int cd)])) _
      refine XS.ifNo X4.here hx rfl (hb hby D7_10) rfl ((if0 _ _).trans (teq hq6).2) ?_
      refine XS.iconst X4.here hx rfl (hb hby D7_13) ?_
      refine XS.goto X4.here hx rfl (pc0 := 14) (pc' := 18) rfl (hb hby D7_14) (by decide) (by decide) ?_
      exact Steps.refl _)
    obtain ⟨fs, hr, hrun, hended, hW, hsame⟩ := X4.leave (v := some (.int 1)) (fun h => by rw [Bd.returns] at h; cases h)
    refine ⟨_, _, c7.trans (retOut X4 hx Bd.returns rfl (Or.inl ⟨rfl, by simp, _, rfl⟩) (hb hby D7_18) hr), hrun, hended, _, _, rfl, ?_, ⟨_, rfl⟩, hW, hsame.mono (by first | decide | exact Nat.le_of_ble_eq_true rfl) (by first | decide | exact Nat.le_of_ble_eq_true rfl)⟩
    show QInt Z (if cd = 0 then 1 else 0) h0 n0 _ T4.heap _
    rw [e4]
    exact ⟨by rw [if_pos hq6], N0, rfl⟩
  · have c8 : SS p e below S0 (T4.setTop (mkF m 18 #[vr sx] [(.int 0)])) := c5.trans (by
      show SS p e below (T4.setTop (mkF m 10 #[vr sx] [(.int cd)])) _
      refine XS.ifYes X4.here hx rfl (pc0 := 10) (pc' := 17) rfl (hb hby D7_10) rfl ((if0 _ _).trans (feq hq6).2) (by decide) (by decide) ?_
      refine XS.iconst X4.here hx rfl (hb hby D7_17) ?_
      exact Steps.refl _)
    obtain ⟨fs, hr, hrun, hended, hW, hsame⟩ := X4.leave (v := some (.int 0)) (fun h => by rw [Bd.returns] at h; cases h)
    refine ⟨_, _, c8.trans (retOut X4 hx Bd.returns rfl (Or.inl ⟨rfl, by simp, _, rfl⟩) (hb hby D7_18) hr), hrun, hended, _, _, rfl, ?_, ⟨_, rfl⟩, hW, hsame.mono (by first | decide | exact Nat.le_of_ble_eq_true rfl) (by first | decide | exact Nat.le_of_ble_eq_true rfl)⟩
    show QInt Z (if cd = 0 then 1 else 0) h0 n0 _ T4.heap _
    rw [e4]
    exact ⟨by rw [if_neg hq6], N0, rfl⟩

theorem D8_0 : decode jdk_42_method_56_code 0 = .ok (.aload_n 0, 1) := by decide +kernel
theorem pd_ocZ : parseMethodDescriptor "()Z" = some ⟨[], some .boolean⟩ := by decide +kernel
theorem D8_1 : decode jdk_42_method_56_code 1 = .ok (.invokevirtual 492, 3) := by decide +kernel
theorem D8_4 : decode jdk_42_method_56_code 4 = .ok (.ifCond .eq 12, 3) := by decide +kernel
theorem D8_7 : decode jdk_42_method_56_code 7 = .ok (.aload_n 0, 1) := by decide +kernel
theorem D8_8 : decode jdk_42_method_56_code 8 = .ok (.getfield 9, 3) := by decide +kernel
theorem D8_11 : decode jdk_42_method_56_code 11 = .ok (.iload_n 1, 1) := by decide +kernel
theorem D8_12 : decode jdk_42_method_56_code 12 = .ok (.invokestatic 495, 3) := by decide +kernel
theorem D8_15 : decode jdk_42_method_56_code 15 = .ok (.ireturn, 1) := by decide +kernel
theorem D8_16 : decode jdk_42_method_56_code 16 = .ok (.aload_n 0, 1) := by decide +kernel
theorem D8_17 : decode jdk_42_method_56_code 17 = .ok (.getfield 9, 3) := by decide +kernel
theorem D8_20 : decode jdk_42_method_56_code 20 = .ok (.iload_n 1, 1) := by decide +kernel
theorem D8_21 : decode jdk_42_method_56_code 21 = .ok (.invokestatic 498, 3) := by decide +kernel
theorem D8_24 : decode jdk_42_method_56_code 24 = .ok (.ireturn, 1) := by decide +kernel
theorem ef_rmCA (m : MethodId) (x0 : Addr) (x1 : Int32) : entryFrame m #[(.ref x0), (.int x1)] 2 = mkF m 0 #[.val (.ref x0), .val (.int x1)] [] := by first | (simp [entryFrame, mkF, argsToLocals, Value.category]; done) | rfl
set_option maxRecDepth 65536 in
set_option maxHeartbeats 40000000 in
theorem rmCA (l : Launch) (Z : State) (a0 : Array Value) (hw : ∀ d ∈ tables_1, d.before a0 Z = true) (ws : List Jvm.Cond) (sx tx : Addr) (kx : ClassId) (cd N : Int32) (vs : List Value) (cs : List Int32) (k : Nat) (G1 : Int32) (G3 : Value) (h0 : Heap) (n0 : Nat) (Z0 : n0 ≤ h0.size) (Sg : OSG Z h0 sx tx kx cd N vs cs) (hk : k < cs.length) (sAD : Sta Z Z.heap "java/lang/StringUTF16" "$assertionsDisabled" "Z" (.int 1)) (sHI : Sta Z Z.heap "java/lang/StringUTF16" "HI_BYTE_SHIFT" "I" (.int 0)) (sLO : Sta Z Z.heap "java/lang/StringUTF16" "LO_BYTE_SHIFT" "I" (.int 8)) (O2 : Sta Z Z.heap "java/lang/String" "COMPACT_STRINGS" "Z" (.int G1)) (P5 : ¬ G1 = 0) (X00 : Old Z n0 h0) (O4 : Sta Z Z.heap "jdk/internal/util/Preconditions" "SIOOBE_FORMATTER" "Ljava/util/function/BiFunction;" G3) (rG3 : G3.isRef = true) :
    MetFree l (⟨"java/lang/String", "charAt", "(I)C"⟩ : MethodName) (head1 (Jvm.Cond.code (⟨"java/lang/String", "charAt", "(I)C"⟩ : MethodName) jdk_42_method_56_code 2 (some .char) :: ws) ({ frames := 4, cells := 0, slots := 0, locals := 53 } : Room)) (fun aa U => aa = #[(.ref sx), (.int (Int32.ofNat k))] ∧ Z.Warmed39 U.vm ∧ U.heap = h0) (fun _ _ _ _ _ => True) (fun _ U o U' => ∃ v L, o = .returned v ∧ QInt Z (cs.getD k 0) h0 n0 v U'.heap L ∧ FrameEnd U o U' L ({ frames := 4, cells := 0, slots := 0, locals := 53 } : Room).cells ({ frames := 4, cells := 0, slots := 0, locals := 53 } : Room).slots) := by
  refine MetFree.of_bodySF (plainFor_of_name pn_java_lang_String) hisR ?_
  intro p e s m args below meth c s₁ Bd hml0 hP hK
  obtain ⟨rfl, hZ, hh⟩ := hP
  have hx := Bd.exec
  have hby := Bd.bytes
  have hml : c.maxLocals = 2 := hml0
  have hown : s.vm.findClass "java/lang/String" = some m.cls := findClass_of_methodNamed Bd.named
  have hnm := (name_of_methodNamed Bd.named Bd.method).1
  have X0 : Stand p l e ({ frames := 4, cells := 0, slots := 0, locals := 53 } : Room) s m #[(.ref sx), (.int (Int32.ofNat k))] below meth c s₁ [] 0 0 := Stand.of_body Bd
  have e0 : s₁.heap = h0 := by rw [← hh, Bd.state]; rfl
  have N0 := Fr.nil n0
  have K0 := Keep.refl h0 []
  obtain ⟨S0, hS0⟩ : ∃ z, z = s₁.setTop (entryFrame m #[(.ref sx), (.int (Int32.ofNat k))] 2) := ⟨_, rfl⟩
  rw [← hS0]
  have c0 : SS p e below S0 (s₁.setTop (mkF m 0 #[vr sx, vi (Int32.ofNat k)] [])) := by
    rw [hS0]; exact castTop (ef_rmCA m sx (Int32.ofNat k)) (Steps.refl _)
  have c1 : SS p e below S0 (s₁.setTop (mkF m 1 #[vr sx, vi (Int32.ofNat k)] [(.ref sx)])) := c0.trans (by
    show SS p e below (s₁.setTop (mkF m 0 #[vr sx, vi (Int32.ofNat k)] [])) _
    refine XS.aloadN X0.here hx rfl (hb hby D8_0) rfl rfl ?_
    exact Steps.refl _)
  obtain ⟨cq2, kq2, q2a, q2b, q2c⟩ := isOf hZ e0 Sg.1
  obtain ⟨_, _, ⟨T2, L2, kk2, nn2⟩, -, X2, ⟨Lc2, hQ2, l2, y2, z2⟩, st2⟩ := X0.virtualBack hx (y := (⟨"java/lang/String", "isLatin1", "()Z"⟩ : MethodName)) (z := (⟨"java/lang/String", "isLatin1", "()Z"⟩ : MethodName)) hown (mvT hZ (ww hw 65 rfl)) (mvT hZ (ww hw 66 rfl)) (notFace_of_selects (args := #[]) (mvT hZ (ww hw 68 rfl))) (mvT hZ (ww hw 68 rfl)) (mvT hZ (ww hw 67 rfl)) (by decide) (backOf (W := 0) (rmIL l Z a0 hw [] sx cd G1 h0 n0 Z0 Sg.2.2.1 O2 P5 X00) hZ (ww hw 69 rfl) (ww hw 10 rfl) (by decide) (by decide)) q2a q2c (g := (mkF m 1 #[vr sx, vi (Int32.ofNat k)] [(.ref sx)])) rfl (by rw [hml]; rfl) (Steps.refl _) (argsL := []) (rest := []) (lenOf pd_ocZ rfl) rfl (by show 2 * 0 + _ ≤ _; exact Nat.le_of_eq rfl) (hb hby D8_1) (fun _ _ => ⟨rfl, e0, (by decide : 0 + 0 ≤ _), (by decide : 0 + 0 ≤ _)⟩)
  dsimp only [Pt.U, Pt.locs, Pt.cells, Pt.slots] at X2 l2 y2 z2 st2 hQ2
  subst l2 y2 z2
  obtain ⟨rfl, Nq2, eq2⟩ := hQ2
  have c3 : SS p e below S0 (T2.setTop (mkF m 4 #[vr sx, vi (Int32.ofNat k)] [(.int (if cd = (0 : Int32) then (1 : Int32) else (0 : Int32)))])) := c1.trans (st2)
  have N2 := Fr.app N0 Nq2
  rcases id Sg.2.2.2.2.1 with ⟨e1, e2, e3, e4⟩ | ⟨e1, e2, e3, -⟩
  · have ei : (if cd = (0 : Int32) then (1 : Int32) else (0 : Int32)) = 1 := by rw [e1]; rfl
    have Vt := Sg.2.2.2.1
    rw [e2, e3] at Vt
    rw [ei] at c3
    have c4 : SS p e below S0 (T2.setTop (mkF m 8 #[vr sx, vi (Int32.ofNat k)] [(.ref sx)])) := c3.trans (by
      show SS p e below (T2.setTop (mkF m 4 #[vr sx, vi (Int32.ofNat k)] [(.int 1)])) _
      refine XS.ifNo X2.here hx rfl (hb hby D8_4) rfl ((if0 _ _).trans (feq (by decide : ¬ ((1 : Int32) = (0 : Int32)))).1) ?_
      refine XS.aloadN X2.here hx rfl (hb hby D8_7) rfl rfl ?_
      exact Steps.refl _)
    obtain ⟨T5, X5, e5, st5⟩ := getF X2 hx hZ hown (host := "") (Or.inl (ww hw 27 rfl)) Via.refl eq2 Sg.2.1 (g := (mkF m 8 #[vr sx, vi (Int32.ofNat k)] [(.ref sx)])) rfl rfl (hb hby D8_8)
    have c6 : SS p e below S0 (T5.setTop (mkF m 11 #[vr sx, vi (Int32.ofNat k)] [(.ref tx)])) := c4.trans (st5 _ (Steps.refl _))
    have c7 : SS p e below S0 (T5.setTop (mkF m 12 #[vr sx, vi (Int32.ofNat k)] [(.int (Int32.ofNat k)), (.ref tx)])) := c6.trans (by
      show SS p e below (T5.setTop (mkF m 11 #[vr sx, vi (Int32.ofNat k)] [(.ref tx)])) _
      refine XS.iloadN X5.here hx rfl (hb hby D8_11) rfl ?_
      exact Steps.refl _)
    obtain ⟨_, _, ⟨T8, L8, kk8, nn8⟩, -, X8, ⟨Lc8, hQ8, l8, y8, z8⟩, st8⟩ := Jvm.LawKit.callS X5 hx (y := (⟨"java/lang/StringLatin1", "charAt", "([BI)C"⟩ : MethodName)) hown (mvT hZ (ww hw 70 rfl)) (mvT hZ (ww hw 71 rfl)) (mvT hZ (ww hw 72 rfl)) (mvT hZ (ww hw 73 rfl)) (by decide) (backOf (W := 0) (rmL1 l Z a0 hw [] tx kx cs k G3 h0 n0 Z0 Vt e4 Sg.2.2.2.2.2.1 Sg.2.2.2.2.2.2 hk O4 rG3 X00) hZ (ww hw 73 rfl) (ww hw 72 rfl) (by decide) (by decide)) (g := (mkF m 12 #[vr sx, vi (Int32.ofNat k)] [(.int (Int32.ofNat k)), (.ref tx)])) rfl (by rw [hml]; rfl) (argsL := [(.ref tx), (.int (Int32.ofNat k))]) (rest := []) (lenOf pd_oaBIcC rfl) rfl (by show 2 * 0 + _ ≤ _; exact Nat.le_of_eq rfl) (hb hby D8_12) (fun _ _ => ⟨rfl, e5, (by decide : 0 + 0 ≤ _), (by decide : 0 + 0 ≤ _)⟩)
    dsimp only [Pt.U, Pt.locs, Pt.cells, Pt.slots] at X8 l8 y8 z8 st8 hQ8
    subst l8 y8 z8
    obtain ⟨rfl, Nq8, eq8⟩ := hQ8
    have c9 : SS p e below S0 (T8.setTop (mkF m 15 #[vr sx, vi (Int32.ofNat k)] [(.int (cs.getD k 0))])) := c7.trans (st8 _ (Steps.refl _))
    have N8 := Fr.app N2 Nq8
    obtain ⟨fs, hr, hrun, hended, hW, hsame⟩ := X8.leave (v := some (.int (cs.getD k 0))) (fun h => by rw [Bd.returns] at h; cases h)
    refine ⟨_, _, c9.trans (retOut X8 hx Bd.returns (own_nc (own_gm Sg.2.2.2.2.2.1 hk)) (Or.inl ⟨rfl, by simp, _, rfl⟩) (hb hby D8_15) hr), hrun, hended, _, _, rfl, ?_, ⟨_, rfl⟩, hW, hsame.mono (by first | decide | exact Nat.le_of_ble_eq_true rfl) (by first | decide | exact Nat.le_of_ble_eq_true rfl)⟩
    show QInt Z (cs.getD k 0) h0 n0 _ T8.heap _
    rw [eq8]
    exact ⟨rfl, N8, rfl⟩
  · have ei : (if cd = (0 : Int32) then (1 : Int32) else (0 : Int32)) = 0 := by rw [e1]; rfl
    have Vt := Sg.2.2.2.1
    rw [e2, e3] at Vt
    rw [ei] at c3
    have c10 : SS p e below S0 (T2.setTop (mkF m 17 #[vr sx, vi (Int32.ofNat k)] [(.ref sx)])) := c3.trans (by
      show SS p e below (T2.setTop (mkF m 4 #[vr sx, vi (Int32.ofNat k)] [(.int 0)])) _
      refine XS.ifYes X2.here hx rfl (pc0 := 4) (pc' := 16) rfl (hb hby D8_4) rfl ((if0 _ _).trans (teq (by decide : ((0 : Int32) = (0 : Int32)))).1) (by decide) (by decide) ?_
      refine XS.aloadN X2.here hx rfl (hb hby D8_16) rfl rfl ?_
      exact Steps.refl _)
    obtain ⟨T11, X11, e11, st11⟩ := getF X2 hx hZ hown (host := "") (Or.inl (ww hw 27 rfl)) Via.refl eq2 Sg.2.1 (g := (mkF m 17 #[vr sx, vi (Int32.ofNat k)] [(.ref sx)])) rfl rfl (hb hby D8_17)
    have c12 : SS p e below S0 (T11.setTop (mkF m 20 #[vr sx, vi (Int32.ofNat k)] [(.ref tx)])) := c10.trans (st11 _ (Steps.refl _))
    have c13 : SS p e below S0 (T11.setTop (mkF m 21 #[vr sx, vi (Int32.ofNat k)] [(.int (Int32.ofNat k)), (.ref tx)])) := c12.trans (by
      show SS p e below (T11.setTop (mkF m 20 #[vr sx, vi (Int32.ofNat k)] [(.ref tx)])) _
      refine XS.iloadN X11.here hx rfl (hb hby D8_20) rfl ?_
      exact Steps.refl _)
    obtain ⟨_, _, ⟨T14, L14, kk14, nn14⟩, -, X14, ⟨Lc14, hQ14, l14, y14, z14⟩, st14⟩ := Jvm.LawKit.callS X11 hx (y := (⟨"java/lang/StringUTF16", "charAt", "([BI)C"⟩ : MethodName)) hown (mvT hZ (ww hw 126 rfl)) (mvT hZ (ww hw 127 rfl)) (mvT hZ (ww hw 52 rfl)) (mvT hZ (ww hw 128 rfl)) (by decide) (backOf (W := 0) (rmUA l Z a0 hw [] tx kx cs k G3 h0 n0 Z0 Vt Sg.2.2.2.2.2.1 Sg.2.2.2.2.2.2 hk sAD sHI sLO O4 rG3 X00) hZ (ww hw 128 rfl) (ww hw 52 rfl) (by decide) (by decide)) (g := (mkF m 21 #[vr sx, vi (Int32.ofNat k)] [(.int (Int32.ofNat k)), (.ref tx)])) rfl (by rw [hml]; rfl) (argsL := [(.ref tx), (.int (Int32.ofNat k))]) (rest := []) (lenOf pd_oaBIcC rfl) rfl (by show 2 * 0 + _ ≤ _; exact Nat.le_of_eq rfl) (hb hby D8_21) (fun _ _ => ⟨rfl, e11, (by decide : 0 + 0 ≤ _), (by decide : 0 + 0 ≤ _)⟩)
    dsimp only [Pt.U, Pt.locs, Pt.cells, Pt.slots] at X14 l14 y14 z14 st14 hQ14
    subst l14 y14 z14
    obtain ⟨rfl, Nq14, eq14⟩ := hQ14
    have c15 : SS p e below S0 (T14.setTop (mkF m 24 #[vr sx, vi (Int32.ofNat k)] [(.int (cs.getD k 0))])) := c13.trans (st14 _ (Steps.refl _))
    have N14 := Fr.app N2 Nq14
    obtain ⟨fs, hr, hrun, hended, hW, hsame⟩ := X14.leave (v := some (.int (cs.getD k 0))) (fun h => by rw [Bd.returns] at h; cases h)
    refine ⟨_, _, c15.trans (retOut X14 hx Bd.returns (own_nc (own_gm Sg.2.2.2.2.2.1 hk)) (Or.inl ⟨rfl, by simp, _, rfl⟩) (hb hby D8_24) hr), hrun, hended, _, _, rfl, ?_, ⟨_, rfl⟩, hW, hsame.mono (by first | decide | exact Nat.le_of_ble_eq_true rfl) (by first | decide | exact Nat.le_of_ble_eq_true rfl)⟩
    show QInt Z (cs.getD k 0) h0 n0 _ T14.heap _
    rw [eq14]
    exact ⟨rfl, N14, rfl⟩

def Q5 (Z : State) (cs : List Int32) (d : Addr) (kd : ClassId) (h0 : Heap) (n0 : Nat) (v : Option Value) (h : Heap) (L : List Loc) : Prop := ∃ r : Int32, v = some (.int r) ∧ Fr n0 L ∧ Keep h0 h [d] ∧ ((r = Int32.ofNat cs.length ∧ (∀ ch ∈ cs, ¬ (255 : Int32) < ch) ∧ Arv Z h d kd .byte (Int32.ofNat cs.length) (cs.map fun ch => Value.int (StrChars.lo8 ch)) (.int 0)) ∨ ∃ i : Nat, i < cs.length ∧ r = Int32.ofNat i ∧ (255 : Int32) < cs.getD i 0)
def QArr (Z : State) (z : Int32) (vs : List Value) (h0 : Heap) (n0 : Nat) (v : Option Value) (h : Heap) (L : List Loc) : Prop := ∃ (t : Addr) (kb : ClassId), v = some (.ref t) ∧ Fr n0 L ∧ Keep h0 h [] ∧ h0.size ≤ t ∧ Arv Z h t kb .byte z vs (.int 0)
def QC3 (Z : State) (cs : List Int32) (h0 : Heap) (n0 : Nat) (v : Option Value) (h : Heap) (L : List Loc) : Prop := ∃ (t : Addr) (kb : ClassId) (cd N : Int32) (vs : List Value), v = some (.ref t) ∧ Fr n0 L ∧ Keep h0 h [] ∧ h0.size ≤ t ∧ Arv Z h t kb .byte N vs (.int 0) ∧ StrChars.Road.CodA cs cd N vs
def QNw (Z : State) (x : Addr) (cs : List Int32) (h0 : Heap) (n0 : Nat) (v : Option Value) (h : Heap) (L : List Loc) : Prop := ∃ (t : Addr) (kb : ClassId) (cd N : Int32) (vs : List Value), v = none ∧ Fr n0 L ∧ Keep h0 h [x] ∧ OSG Z h x t kb cd N vs cs
def QPu (Z : State) (t : Addr) (k : ClassId) (z : Int32) (vs : List Value) (h0 : Heap) (n0 : Nat) (v : Option Value) (h : Heap) (L : List Loc) : Prop := v = none ∧ Fr n0 L ∧ Keep h0 h [t] ∧ Arv Z h t k .byte z vs (.int 0)

theorem own_lo1 (x : Int32) : (x >>> ((0 : Int32) &&& 31)).toInt8.toInt32.toInt8.toInt32 = StrChars.lo8 x := by
  rw [StrChars.shr0]; exact own_b8 x
theorem own_hi1 (x : Int32) : (x >>> ((8 : Int32) &&& 31)).toInt8.toInt32.toInt8.toInt32 = StrChars.hi8 x := own_b8 _
theorem own_lo2 (x : Int32) : (x.toInt8.toInt32).toInt8.toInt32 = StrChars.lo8 x := own_b8 x

theorem D9_0 : decode jdk_52_method_4_code 0 = .ok (.getstatic 44, 3) := by decide +kernel
theorem D9_3 : decode jdk_52_method_4_code 3 = .ok (.ifCond .ne 25, 3) := by decide +kernel
theorem D9_28 : decode jdk_52_method_4_code 28 = .ok (.iload_n 1, 1) := by decide +kernel
theorem D9_29 : decode jdk_52_method_4_code 29 = .ok (.iconst 1, 1) := by decide +kernel
theorem D9_30 : decode jdk_52_method_4_code 30 = .ok (.ishl, 1) := by decide +kernel
theorem D9_31 : decode jdk_52_method_4_code 31 = .ok (.istore_n 1, 1) := by decide +kernel
theorem D9_32 : decode jdk_52_method_4_code 32 = .ok (.aload_n 0, 1) := by decide +kernel
theorem D9_33 : decode jdk_52_method_4_code 33 = .ok (.iload_n 1, 1) := by decide +kernel
theorem D9_34 : decode jdk_52_method_4_code 34 = .ok (.iinc 1 1, 3) := by decide +kernel
theorem D9_37 : decode jdk_52_method_4_code 37 = .ok (.iload_n 2, 1) := by decide +kernel
theorem D9_38 : decode jdk_52_method_4_code 38 = .ok (.getstatic 59, 3) := by decide +kernel
theorem D9_41 : decode jdk_52_method_4_code 41 = .ok (.ishr, 1) := by decide +kernel
theorem D9_42 : decode jdk_52_method_4_code 42 = .ok (.i2b, 1) := by decide +kernel
theorem D9_43 : decode jdk_52_method_4_code 43 = .ok (.bastore, 1) := by decide +kernel
theorem D9_44 : decode jdk_52_method_4_code 44 = .ok (.aload_n 0, 1) := by decide +kernel
theorem D9_45 : decode jdk_52_method_4_code 45 = .ok (.iload_n 1, 1) := by decide +kernel
theorem D9_46 : decode jdk_52_method_4_code 46 = .ok (.iload_n 2, 1) := by decide +kernel
theorem D9_47 : decode jdk_52_method_4_code 47 = .ok (.getstatic 63, 3) := by decide +kernel
theorem D9_50 : decode jdk_52_method_4_code 50 = .ok (.ishr, 1) := by decide +kernel
theorem D9_51 : decode jdk_52_method_4_code 51 = .ok (.i2b, 1) := by decide +kernel
theorem D9_52 : decode jdk_52_method_4_code 52 = .ok (.bastore, 1) := by decide +kernel
theorem D9_53 : decode jdk_52_method_4_code 53 = .ok (.return_, 1) := by decide +kernel
theorem ef_rmPu (m : MethodId) (x0 : Addr) (x1 : Int32) (x2 : Int32) : entryFrame m #[(.ref x0), (.int x1), (.int x2)] 3 = mkF m 0 #[.val (.ref x0), .val (.int x1), .val (.int x2)] [] := by first | (simp [entryFrame, mkF, argsToLocals, Value.category]; done) | rfl
set_option maxRecDepth 65536 in
set_option maxHeartbeats 40000000 in
theorem rmPu (l : Launch) (Z : State) (a0 : Array Value) (hw : ∀ d ∈ tables_1, d.before a0 Z = true) (ws : List Jvm.Cond) (t : Addr) (k : ClassId) (z j j1 ch : Int32) (vs : List Value) (i : Nat) (h0 : Heap) (n0 : Nat) (Z0 : n0 ≤ h0.size) (g_t : n0 ≤ t) (Vt : Arv Z h0 t k .byte z vs (.int 0)) (hj : j <<< ((1 : Int32) &&& 31) = j1) (ha : j1.toNatClampNeg = i) (hb1 : (j1 + 1).toNatClampNeg = i + 1) (in1 : ¬ j1 < 0 ∧ j1 < z) (in2 : ¬ j1 + 1 < 0 ∧ j1 + 1 < z) (li : i + 1 < vs.length) (sAD : Sta Z Z.heap "java/lang/StringUTF16" "$assertionsDisabled" "Z" (.int 1)) (sHI : Sta Z Z.heap "java/lang/StringUTF16" "HI_BYTE_SHIFT" "I" (.int 0)) (sLO : Sta Z Z.heap "java/lang/StringUTF16" "LO_BYTE_SHIFT" "I" (.int 8)) (X00 : Old Z n0 h0) :
    MetFree l (⟨"java/lang/StringUTF16", "putChar", "([BII)V"⟩ : MethodName) (head1 (Jvm.Cond.code (⟨"java/lang/StringUTF16", "putChar", "([BII)V"⟩ : MethodName) jdk_52_method_4_code 3 (none) :: ws) ({ frames := 0, cells := 0, slots := 0, locals := 0 } : Room)) (fun aa U => aa = #[(.ref t), (.int j), (.int ch)] ∧ Z.Warmed39 U.vm ∧ U.heap = h0) (fun _ _ _ _ _ => True) (fun _ U o U' => ∃ v L, o = .returned v ∧ QPu Z t k z ((vs.set i (.int (StrChars.lo8 ch))).set (i + 1) (.int (StrChars.hi8 ch))) h0 n0 v U'.heap L ∧ FrameEnd U o U' L ({ frames := 0, cells := 0, slots := 0, locals := 0 } : Room).cells ({ frames := 0, cells := 0, slots := 0, locals := 0 } : Room).slots) := by
  refine MetFree.of_bodySF (plainFor_of_name pn_java_lang_StringUTF16) hisR ?_
  intro p e s m args below meth c s₁ Bd hml0 hP hK
  obtain ⟨rfl, hZ, hh⟩ := hP
  have hx := Bd.exec
  have hby := Bd.bytes
  have hml : c.maxLocals = 3 := hml0
  have hown : s.vm.findClass "java/lang/StringUTF16" = some m.cls := findClass_of_methodNamed Bd.named
  have hnm := (name_of_methodNamed Bd.named Bd.method).1
  have X0 : Stand p l e ({ frames := 0, cells := 0, slots := 0, locals := 0 } : Room) s m #[(.ref t), (.int j), (.int ch)] below meth c s₁ [] 0 0 := Stand.of_body Bd
  have e0 : s₁.heap = h0 := by rw [← hh, Bd.state]; rfl
  have N0 := Fr.nil n0
  have K0 := Keep.refl h0 [t]
  obtain ⟨S0, hS0⟩ : ∃ z, z = s₁.setTop (entryFrame m #[(.ref t), (.int j), (.int ch)] 3) := ⟨_, rfl⟩
  rw [← hS0]
  have c0 : SS p e below S0 (s₁.setTop (mkF m 0 #[vr t, vi j, vi ch] [])) := by
    rw [hS0]; exact castTop (ef_rmPu m t j ch) (Steps.refl _)
  obtain ⟨T1, X1, e1, st1⟩ := getS2 X0 hx hZ hown (host := "") (Or.inl (ww hw 120 rfl)) Via.refl e0 (sAD.ext X00.2) (g := (mkF m 0 #[vr t, vi j, vi ch] [])) rfl (hb hby D9_0)
  have c2 : SS p e below S0 (T1.setTop (mkF m 3 #[vr t, vi j, vi ch] [(.int 1)])) := c0.trans (st1 _ (Steps.refl _))
  have c3 : SS p e below S0 (T1.setTop (mkF m 31 #[vr t, vi j, vi ch] [(.int (j <<< ((1 : Int32) &&& 31)))])) := c2.trans (by
    show SS p e below (T1.setTop (mkF m 3 #[vr t, vi j, vi ch] [(.int 1)])) _
    refine XS.ifYes X1.here hx rfl (pc0 := 3) (pc' := 28) rfl (hb hby D9_3) rfl ((if0 _ _).trans (feq (by decide : ¬ ((1 : Int32) = (0 : Int32)))).2) (by decide) (by decide) ?_
    refine XS.iloadN X1.here hx rfl (hb hby D9_28) rfl ?_
    refine XS.iconst X1.here hx rfl (hb hby D9_29) ?_
    refine XS.ishl X1.here hx rfl (hb hby D9_30) rfl ?_
    exact Steps.refl _)
  rw [hj] at c3
  have c4 : SS p e below S0 (T1.setTop (mkF m 38 #[vr t, vi (j1 + (1 : Int32)), vi ch] [(.int ch), (.int j1), (.ref t)])) := c3.trans (by
    show SS p e below (T1.setTop (mkF m 31 #[vr t, vi j, vi ch] [(.int j1)])) _
    refine XS.istoreN X1.here hx rfl (hb hby D9_31) rfl (l' := #[vr t, vi j1, vi ch]) rfl ?_
    refine XS.aloadN X1.here hx rfl (hb hby D9_32) rfl rfl ?_
    refine XS.iloadN X1.here hx rfl (hb hby D9_33) rfl ?_
    refine XS.iinc X1.here hx rfl (hb hby D9_34) rfl (l' := #[vr t, vi (j1 + (1 : Int32)), vi ch]) rfl ?_
    refine XS.iloadN X1.here hx rfl (hb hby D9_37) rfl ?_
    exact Steps.refl _)
  obtain ⟨T5, X5, e5, st5⟩ := getS2 X1 hx hZ hown (host := "") (Or.inl (ww hw 121 rfl)) Via.refl e1 (sHI.ext X00.2) (g := (mkF m 38 #[vr t, vi (j1 + (1 : Int32)), vi ch] [(.int ch), (.int j1), (.ref t)])) rfl (hb hby D9_38)
  have c6 : SS p e below S0 (T5.setTop (mkF m 41 #[vr t, vi (j1 + (1 : Int32)), vi ch] [(.int 0), (.int ch), (.int j1), (.ref t)])) := c4.trans (st5 _ (Steps.refl _))
  have c7 : SS p e below S0 (T5.setTop (mkF m 43 #[vr t, vi (j1 + (1 : Int32)), vi ch] [(.int ((ch >>> ((0 : Int32) &&& 31)).toInt8.toInt32)), (.int j1), (.ref t)])) := c6.trans (by
    show SS p e below (T5.setTop (mkF m 41 #[vr t, vi (j1 + (1 : Int32)), vi ch] [(.int 0), (.int ch), (.int j1), (.ref t)])) _
    refine XS.ishr X5.here hx rfl (hb hby D9_41) rfl ?_
    refine XS.i2b X5.here hx rfl (hb hby D9_42) rfl ?_
    exact Steps.refl _)
  obtain ⟨cl8, Ar8, q8, S8, Nn8, Ha8, G8⟩ := id Vt
  obtain ⟨T8, h8, X8, e8, W8, st8⟩ := stB X5 hx hZ e5 Ar8 (j := j1) (inb_of S8 in1) (g := (mkF m 43 #[vr t, vi (j1 + (1 : Int32)), vi ch] [(.int ((ch >>> ((0 : Int32) &&& 31)).toInt8.toInt32)), (.int j1), (.ref t)])) rfl rfl (hb hby D9_43)
  have V8 := Arv.set Ar8 q8 S8 Nn8 Ha8 G8 (fits_nar_byte _) W8 i ha (by omega)
  have c9 : SS p e below S0 (T8.setTop (mkF m 44 #[vr t, vi (j1 + (1 : Int32)), vi ch] [])) := c7.trans (st8 _ (Steps.refl _))
  have N8 := Fr.snoc X8 N0 g_t
  have z8 : n0 ≤ h8.size := Nat.le_trans Z0 (Keep.of_wr W8).1
  have K8 := K0.wr W8 (Or.inl (by simp))
  have c10 : SS p e below S0 (T8.setTop (mkF m 47 #[vr t, vi (j1 + (1 : Int32)), vi ch] [(.int ch), (.int (j1 + (1 : Int32))), (.ref t)])) := c9.trans (by
    show SS p e below (T8.setTop (mkF m 44 #[vr t, vi (j1 + (1 : Int32)), vi ch] [])) _
    refine XS.aloadN X8.here hx rfl (hb hby D9_44) rfl rfl ?_
    refine XS.iloadN X8.here hx rfl (hb hby D9_45) rfl ?_
    refine XS.iloadN X8.here hx rfl (hb hby D9_46) rfl ?_
    exact Steps.refl _)
  obtain ⟨T11, X11, e11, st11⟩ := getS2 X8 hx hZ hown (host := "") (Or.inl (ww hw 122 rfl)) Via.refl e8 (sLO.ext (X00.wr W8 g_t).2) (g := (mkF m 47 #[vr t, vi (j1 + (1 : Int32)), vi ch] [(.int ch), (.int (j1 + (1 : Int32))), (.ref t)])) rfl (hb hby D9_47)
  have c12 : SS p e below S0 (T11.setTop (mkF m 50 #[vr t, vi (j1 + (1 : Int32)), vi ch] [(.int 8), (.int ch), (.int (j1 + (1 : Int32))), (.ref t)])) := c10.trans (st11 _ (Steps.refl _))
  have c13 : SS p e below S0 (T11.setTop (mkF m 52 #[vr t, vi (j1 + (1 : Int32)), vi ch] [(.int ((ch >>> ((8 : Int32) &&& 31)).toInt8.toInt32)), (.int (j1 + (1 : Int32))), (.ref t)])) := c12.trans (by
    show SS p e below (T11.setTop (mkF m 50 #[vr t, vi (j1 + (1 : Int32)), vi ch] [(.int 8), (.int ch), (.int (j1 + (1 : Int32))), (.ref t)])) _
    refine XS.ishr X11.here hx rfl (hb hby D9_50) rfl ?_
    refine XS.i2b X11.here hx rfl (hb hby D9_51) rfl ?_
    exact Steps.refl _)
  obtain ⟨cl14, Ar14, q14, S14, Nn14, Ha14, G14⟩ := id V8
  obtain ⟨T14, h14, X14, e14, W14, st14⟩ := stB X11 hx hZ e11 Ar14 (j := (j1 + (1 : Int32))) (inb_of S14 in2) (g := (mkF m 52 #[vr t, vi (j1 + (1 : Int32)), vi ch] [(.int ((ch >>> ((8 : Int32) &&& 31)).toInt8.toInt32)), (.int (j1 + (1 : Int32))), (.ref t)])) rfl rfl (hb hby D9_52)
  have V14 := Arv.set Ar14 q14 S14 Nn14 Ha14 G14 (fits_nar_byte _) W14 (i + 1) hb1 (by rw [List.length_set]; exact li)
  have c15 : SS p e below S0 (T14.setTop (mkF m 53 #[vr t, vi (j1 + (1 : Int32)), vi ch] [])) := c13.trans (st14 _ (Steps.refl _))
  have N14 := Fr.snoc X14 N8 g_t
  have z14 : n0 ≤ h14.size := Nat.le_trans z8 (Keep.of_wr W14).1
  have K14 := K8.wr W14 (Or.inl (by simp))
  obtain ⟨fs, hr, hrun, hended, hW, hsame⟩ := X14.leave (v := none) (fun h => rfl)
  refine ⟨_, _, c15.trans (X14.returnOut hx Bd.returns (hb hby D9_53) hr), hrun, hended, _, _, rfl, ?_, ⟨_, rfl⟩, hW, hsame.mono (by first | decide | exact Nat.le_of_ble_eq_true rfl) (by first | decide | exact Nat.le_of_ble_eq_true rfl)⟩
  show QPu Z t k z ((vs.set i (.int (StrChars.lo8 ch))).set (i + 1) (.int (StrChars.hi8 ch))) h0 n0 _ T14.heap _
  rw [e14]
  have Vz := V14
  rw [own_lo1, own_hi1] at Vz
  exact ⟨rfl, N14, K14, Vz⟩

theorem D10_0 : decode jdk_52_method_3_code 0 = .ok (.iload_n 0, 1) := by decide +kernel
theorem D10_1 : decode jdk_52_method_3_code 1 = .ok (.ifCond .ge 11, 3) := by decide +kernel
theorem D10_12 : decode jdk_52_method_3_code 12 = .ok (.iload_n 0, 1) := by decide +kernel
theorem D10_13 : decode jdk_52_method_3_code 13 = .ok (.ldc 20, 2) := by decide +kernel
theorem D10_15 : decode jdk_52_method_3_code 15 = .ok (.if_icmp .lt 40, 3) := by decide +kernel
theorem D10_55 : decode jdk_52_method_3_code 55 = .ok (.iload_n 0, 1) := by decide +kernel
theorem D10_56 : decode jdk_52_method_3_code 56 = .ok (.iconst 1, 1) := by decide +kernel
theorem D10_57 : decode jdk_52_method_3_code 57 = .ok (.ishl, 1) := by decide +kernel
theorem D10_58 : decode jdk_52_method_3_code 58 = .ok (.ireturn, 1) := by decide +kernel
theorem ef_rmNL (m : MethodId) (x0 : Int32) : entryFrame m #[(.int x0)] 1 = mkF m 0 #[.val (.int x0)] [] := by first | (simp [entryFrame, mkF, argsToLocals, Value.category]; done) | rfl
set_option maxRecDepth 65536 in
set_option maxHeartbeats 40000000 in
theorem rmNL (l : Launch) (Z : State) (a0 : Array Value) (hw : ∀ d ∈ tables_1, d.before a0 Z = true) (ws : List Jvm.Cond) (n m2 : Int32) (h0 : Heap) (n0 : Nat) (Z0 : n0 ≤ h0.size) (hn : ¬ n < 0) (hn2 : n < (1073741823 : Int32)) (hm : n <<< ((1 : Int32) &&& 31) = m2) :
    MetFree l (⟨"java/lang/StringUTF16", "newBytesLength", "(I)I"⟩ : MethodName) (head1 (Jvm.Cond.code (⟨"java/lang/StringUTF16", "newBytesLength", "(I)I"⟩ : MethodName) jdk_52_method_3_code 1 (some .int) :: ws) ({ frames := 0, cells := 0, slots := 0, locals := 0 } : Room)) (fun aa U => aa = #[(.int n)] ∧ Z.Warmed39 U.vm ∧ U.heap = h0) (fun _ _ _ _ _ => True) (fun _ U o U' => ∃ v L, o = .returned v ∧ QInt Z m2 h0 n0 v U'.heap L ∧ FrameEnd U o U' L ({ frames := 0, cells := 0, slots := 0, locals := 0 } : Room).cells ({ frames := 0, cells := 0, slots := 0, locals := 0 } : Room).slots) := by
  refine MetFree.of_bodySF (plainFor_of_name pn_java_lang_StringUTF16) hisR ?_
  intro p e s m args below meth c s₁ Bd hml0 hP hK
  obtain ⟨rfl, hZ, hh⟩ := hP
  have hx := Bd.exec
  have hby := Bd.bytes
  have hml : c.maxLocals = 1 := hml0
  have hown : s.vm.findClass "java/lang/StringUTF16" = some m.cls := findClass_of_methodNamed Bd.named
  have hnm := (name_of_methodNamed Bd.named Bd.method).1
  have X0 : Stand p l e ({ frames := 0, cells := 0, slots := 0, locals := 0 } : Room) s m #[(.int n)] below meth c s₁ [] 0 0 := Stand.of_body Bd
  have e0 : s₁.heap = h0 := by rw [← hh, Bd.state]; rfl
  have N0 := Fr.nil n0
  have K0 := Keep.refl h0 []
  obtain ⟨S0, hS0⟩ : ∃ z, z = s₁.setTop (entryFrame m #[(.int n)] 1) := ⟨_, rfl⟩
  rw [← hS0]
  have c0 : SS p e below S0 (s₁.setTop (mkF m 0 #[vi n] [])) := by
    rw [hS0]; exact castTop (ef_rmNL m n) (Steps.refl _)
  have c1 : SS p e below S0 (s₁.setTop (mkF m 58 #[vi n] [(.int (n <<< ((1 : Int32) &&& 31)))])) := c0.trans (by
    show SS p e below (s₁.setTop (mkF m 0 #[vi n] [])) _
    refine XS.iloadN X0.here hx rfl (hb hby D10_0) rfl ?_
    refine XS.ifYes X0.here hx rfl (pc0 := 1) (pc' := 12) rfl (hb hby D10_1) rfl ((if0 _ _).trans (flt hn).2.1) (by decide) (by decide) ?_
    refine XS.iloadN X0.here hx rfl (hb hby D10_12) rfl ?_
    show SS p e below (s₁.setTop (mkF m 13 #[vi n] [(.int n)])) _
    refine X0.ldcInt hx hown (mvT hZ (ww hw 116 rfl)) (g := (mkF m 13 #[vi n] [(.int n)])) rfl (hb hby D10_13) _ ?_
    refine XS.icmpYes X0.here hx rfl (pc0 := 15) (pc' := 55) rfl (hb hby D10_15) rfl (tlt hn2).1 (by decide) (by decide) ?_
    refine XS.iloadN X0.here hx rfl (hb hby D10_55) rfl ?_
    refine XS.iconst X0.here hx rfl (hb hby D10_56) ?_
    refine XS.ishl X0.here hx rfl (hb hby D10_57) rfl ?_
    exact Steps.refl _)
  rw [hm] at c1
  obtain ⟨fs, hr, hrun, hended, hW, hsame⟩ := X0.leave (v := some (.int m2)) (fun h => by rw [Bd.returns] at h; cases h)
  refine ⟨_, _, c1.trans (retOut X0 hx Bd.returns rfl (Or.inl ⟨rfl, by simp, _, rfl⟩) (hb hby D10_58) hr), hrun, hended, _, _, rfl, ?_, ⟨_, rfl⟩, hW, hsame.mono (by first | decide | exact Nat.le_of_ble_eq_true rfl) (by first | decide | exact Nat.le_of_ble_eq_true rfl)⟩
  show QInt Z m2 h0 n0 _ s₁.heap _
  rw [e0]
  exact ⟨rfl, N0, rfl⟩

theorem D11_0 : decode jdk_52_method_15_code 0 = .ok (.iload_n 1, 1) := by decide +kernel
theorem D11_1 : decode jdk_52_method_15_code 1 = .ok (.aload_n 0, 1) := by decide +kernel
theorem D11_2 : decode jdk_52_method_15_code 2 = .ok (.arraylength, 1) := by decide +kernel
theorem D11_3 : decode jdk_52_method_15_code 3 = .ok (.isub, 1) := by decide +kernel
theorem D11_4 : decode jdk_52_method_15_code 4 = .ok (.bipush 31, 2) := by decide +kernel
theorem D11_6 : decode jdk_52_method_15_code 6 = .ok (.iushr, 1) := by decide +kernel
theorem D11_7 : decode jdk_52_method_15_code 7 = .ok (.i2b, 1) := by decide +kernel
theorem D11_8 : decode jdk_52_method_15_code 8 = .ok (.ireturn, 1) := by decide +kernel
theorem ef_rmCo (m : MethodId) (x0 : Addr) (x1 : Int32) : entryFrame m #[(.ref x0), (.int x1)] 2 = mkF m 0 #[.val (.ref x0), .val (.int x1)] [] := by first | (simp [entryFrame, mkF, argsToLocals, Value.category]; done) | rfl
set_option maxRecDepth 65536 in
set_option maxHeartbeats 40000000 in
theorem rmCo (l : Launch) (Z : State) (a0 : Array Value) (hw : ∀ d ∈ tables_1, d.before a0 Z = true) (ws : List Jvm.Cond) (t : Addr) (k : ClassId) (n z r : Int32) (vs : List Value) (h0 : Heap) (n0 : Nat) (Z0 : n0 ≤ h0.size) (Vt : Arv Z h0 t k .byte z vs (.int 0)) (hr : (((n - z).toUInt32 >>> ((31 : Int32) &&& 31).toUInt32).toInt32).toInt8.toInt32 = r) (hb1 : narrow .byte (.int r) = .int r) :
    MetFree l (⟨"java/lang/StringUTF16", "coderFromArrayLen", "([BI)B"⟩ : MethodName) (head1 (Jvm.Cond.code (⟨"java/lang/StringUTF16", "coderFromArrayLen", "([BI)B"⟩ : MethodName) jdk_52_method_15_code 2 (some .byte) :: ws) ({ frames := 0, cells := 0, slots := 0, locals := 0 } : Room)) (fun aa U => aa = #[(.ref t), (.int n)] ∧ Z.Warmed39 U.vm ∧ U.heap = h0) (fun _ _ _ _ _ => True) (fun _ U o U' => ∃ v L, o = .returned v ∧ QInt Z r h0 n0 v U'.heap L ∧ FrameEnd U o U' L ({ frames := 0, cells := 0, slots := 0, locals := 0 } : Room).cells ({ frames := 0, cells := 0, slots := 0, locals := 0 } : Room).slots) := by
  refine MetFree.of_bodySF (plainFor_of_name pn_java_lang_StringUTF16) hisR ?_
  intro p e s m args below meth c s₁ Bd hml0 hP hK
  obtain ⟨rfl, hZ, hh⟩ := hP
  have hx := Bd.exec
  have hby := Bd.bytes
  have hml : c.maxLocals = 2 := hml0
  have hown : s.vm.findClass "java/lang/StringUTF16" = some m.cls := findClass_of_methodNamed Bd.named
  have hnm := (name_of_methodNamed Bd.named Bd.method).1
  have X0 : Stand p l e ({ frames := 0, cells := 0, slots := 0, locals := 0 } : Room) s m #[(.ref t), (.int n)] below meth c s₁ [] 0 0 := Stand.of_body Bd
  have e0 : s₁.heap = h0 := by rw [← hh, Bd.state]; rfl
  have N0 := Fr.nil n0
  have K0 := Keep.refl h0 []
  obtain ⟨S0, hS0⟩ : ∃ z, z = s₁.setTop (entryFrame m #[(.ref t), (.int n)] 2) := ⟨_, rfl⟩
  rw [← hS0]
  have c0 : SS p e below S0 (s₁.setTop (mkF m 0 #[vr t, vi n] [])) := by
    rw [hS0]; exact castTop (ef_rmCo m t n) (Steps.refl _)
  have c1 : SS p e below S0 (s₁.setTop (mkF m 2 #[vr t, vi n] [(.ref t), (.int n)])) := c0.trans (by
    show SS p e below (s₁.setTop (mkF m 0 #[vr t, vi n] [])) _
    refine XS.iloadN X0.here hx rfl (hb hby D11_0) rfl ?_
    refine XS.aloadN X0.here hx rfl (hb hby D11_1) rfl rfl ?_
    exact Steps.refl _)
  obtain ⟨cl2, Ar2, -, S2, Nn2, -, -⟩ := id Vt
  have c3 : SS p e below S0 (s₁.setTop (mkF m 8 #[vr t, vi n] [(.int ((((n - z).toUInt32 >>> ((31 : Int32) &&& 31).toUInt32).toInt32).toInt8.toInt32))])) := c1.trans (by
    show SS p e below (s₁.setTop (mkF m 2 #[vr t, vi n] [(.ref t), (.int n)])) _
    refine X0.arraylength hx (by rw [e0]; exact Ar2.1) (State.isArrayOf_alike hZ.alike Ar2.2.1) (g := (mkF m 2 #[vr t, vi n] [(.ref t), (.int n)])) rfl rfl (hb hby D11_2) _ ?_
    rw [len_of S2 Nn2]
    refine XS.isub X0.here hx rfl (hb hby D11_3) rfl ?_
    refine XS.bipush X0.here hx rfl (hb hby D11_4) ?_
    refine XS.iushr X0.here hx rfl (hb hby D11_6) rfl ?_
    refine XS.i2b X0.here hx rfl (hb hby D11_7) rfl ?_
    exact Steps.refl _)
  rw [hr] at c3
  obtain ⟨fs, hr, hrun, hended, hW, hsame⟩ := X0.leave (v := some (.int r)) (fun h => by rw [Bd.returns] at h; cases h)
  refine ⟨_, _, c3.trans (retOut X0 hx Bd.returns hb1 (Or.inl ⟨rfl, by simp, _, rfl⟩) (hb hby D11_8) hr), hrun, hended, _, _, rfl, ?_, ⟨_, rfl⟩, hW, hsame.mono (by first | decide | exact Nat.le_of_ble_eq_true rfl) (by first | decide | exact Nat.le_of_ble_eq_true rfl)⟩
  show QInt Z r h0 n0 _ s₁.heap _
  rw [e0]
  exact ⟨rfl, N0, rfl⟩

theorem D12_0 : decode jdk_52_method_21_code 0 = .ok (.iconst 0, 1) := by decide +kernel
theorem D12_1 : decode jdk_52_method_21_code 1 = .ok (.istore 5, 2) := by decide +kernel
theorem D12_3 : decode jdk_52_method_21_code 3 = .ok (.iload 5, 2) := by decide +kernel
theorem D12_5 : decode jdk_52_method_21_code 5 = .ok (.iload 4, 2) := by decide +kernel
theorem D12_7 : decode jdk_52_method_21_code 7 = .ok (.if_icmp .ge 37, 3) := by decide +kernel
theorem D12_10 : decode jdk_52_method_21_code 10 = .ok (.aload_n 0, 1) := by decide +kernel
theorem D12_11 : decode jdk_52_method_21_code 11 = .ok (.iload_n 1, 1) := by decide +kernel
theorem D12_12 : decode jdk_52_method_21_code 12 = .ok (.caload, 1) := by decide +kernel
theorem D12_13 : decode jdk_52_method_21_code 13 = .ok (.istore 6, 2) := by decide +kernel
theorem D12_15 : decode jdk_52_method_21_code 15 = .ok (.iload 6, 2) := by decide +kernel
theorem D12_17 : decode jdk_52_method_21_code 17 = .ok (.sipush 255, 3) := by decide +kernel
theorem D12_20 : decode jdk_52_method_21_code 20 = .ok (.if_icmp .le 6, 3) := by decide +kernel
theorem D12_23 : decode jdk_52_method_21_code 23 = .ok (.iload 5, 2) := by decide +kernel
theorem D12_25 : decode jdk_52_method_21_code 25 = .ok (.ireturn, 1) := by decide +kernel
theorem D12_26 : decode jdk_52_method_21_code 26 = .ok (.aload_n 2, 1) := by decide +kernel
theorem D12_27 : decode jdk_52_method_21_code 27 = .ok (.iload_n 3, 1) := by decide +kernel
theorem D12_28 : decode jdk_52_method_21_code 28 = .ok (.iload 6, 2) := by decide +kernel
theorem D12_30 : decode jdk_52_method_21_code 30 = .ok (.i2b, 1) := by decide +kernel
theorem D12_31 : decode jdk_52_method_21_code 31 = .ok (.bastore, 1) := by decide +kernel
theorem D12_32 : decode jdk_52_method_21_code 32 = .ok (.iinc 1 1, 3) := by decide +kernel
theorem D12_35 : decode jdk_52_method_21_code 35 = .ok (.iinc 3 1, 3) := by decide +kernel
theorem D12_38 : decode jdk_52_method_21_code 38 = .ok (.iinc 5 1, 3) := by decide +kernel
theorem D12_41 : decode jdk_52_method_21_code 41 = .ok (.goto (-38), 3) := by decide +kernel
theorem D12_44 : decode jdk_52_method_21_code 44 = .ok (.iload 4, 2) := by decide +kernel
theorem D12_46 : decode jdk_52_method_21_code 46 = .ok (.ireturn, 1) := by decide +kernel
theorem ef_rmC5_1 (m : MethodId) (x0 : Addr) (x1 : Int32) (x2 : Addr) (x3 : Int32) (x4 : Int32) : entryFrame m #[(.ref x0), (.int x1), (.ref x2), (.int x3), (.int x4)] 7 = mkF m 0 #[.val (.ref x0), .val (.int x1), .val (.ref x2), .val (.int x3), .val (.int x4), .unset, .unset] [] := by first | (simp [entryFrame, mkF, argsToLocals, Value.category]; done) | rfl
set_option maxRecDepth 65536 in
set_option maxHeartbeats 40000000 in
theorem rmC5_1 (l : Launch) (Z : State) (a0 : Array Value) (hw : ∀ d ∈ tables_1, d.before a0 Z = true) (ws : List Jvm.Cond) (d : Addr) (kd : ClassId) (b : Addr) (kc : ClassId) (ch0 : Int32)  (h0 : Heap) (n0 : Nat) (Z0 : n0 ≤ h0.size) (g_d : n0 ≤ d) (hbd : b ≠ d) (Vd : Arv Z h0 d kd .byte (1 : Int32) [.int (0 : Int32)] (.int 0)) (Vb : Arv Z h0 b kc .char (1 : Int32) [.int ch0] (.int 0)) (hc0 : C16 ch0)  :
    MetFree l (⟨"java/lang/StringUTF16", "compress", "([CI[BII)I"⟩ : MethodName) (head1 (Jvm.Cond.code (⟨"java/lang/StringUTF16", "compress", "([CI[BII)I"⟩ : MethodName) jdk_52_method_21_code 7 (some .int) :: ws) ({ frames := 0, cells := 0, slots := 0, locals := 0 } : Room)) (fun aa U => aa = #[(.ref b), (.int 0), (.ref d), (.int 0), (.int 1)] ∧ Z.Warmed39 U.vm ∧ U.heap = h0) (fun _ _ _ _ _ => True) (fun _ U o U' => ∃ v L, o = .returned v ∧ Q5 Z ([ch0] : List Int32) d kd h0 n0 v U'.heap L ∧ FrameEnd U o U' L ({ frames := 0, cells := 0, slots := 0, locals := 0 } : Room).cells ({ frames := 0, cells := 0, slots := 0, locals := 0 } : Room).slots) := by
  refine MetFree.of_bodySF (plainFor_of_name pn_java_lang_StringUTF16) hisR ?_
  intro p e s m args below meth c s₁ Bd hml0 hP hK
  obtain ⟨rfl, hZ, hh⟩ := hP
  have hx := Bd.exec
  have hby := Bd.bytes
  have hml : c.maxLocals = 7 := hml0
  have hown : s.vm.findClass "java/lang/StringUTF16" = some m.cls := findClass_of_methodNamed Bd.named
  have hnm := (name_of_methodNamed Bd.named Bd.method).1
  have X0 : Stand p l e ({ frames := 0, cells := 0, slots := 0, locals := 0 } : Room) s m #[(.ref b), (.int 0), (.ref d), (.int 0), (.int 1)] below meth c s₁ [] 0 0 := Stand.of_body Bd
  have e0 : s₁.heap = h0 := by rw [← hh, Bd.state]; rfl
  have N0 := Fr.nil n0
  have K0 := Keep.refl h0 [d]
  obtain ⟨S0, hS0⟩ : ∃ z, z = s₁.setTop (entryFrame m #[(.ref b), (.int 0), (.ref d), (.int 0), (.int 1)] 7) := ⟨_, rfl⟩
  rw [← hS0]
  have c0 : SS p e below S0 (s₁.setTop (mkF m 0 #[vr b, vi 0, vr d, vi 0, vi 1, .unset, .unset] [])) := by
    rw [hS0]; exact castTop (ef_rmC5_1 m b (0 : Int32) d (0 : Int32) (1 : Int32)) (Steps.refl _)
  have c1 : SS p e below S0 (s₁.setTop (mkF m 12 #[vr b, vi 0, vr d, vi 0, vi 1, vi 0, .unset] [(.int 0), (.ref b)])) := c0.trans (by
    show SS p e below (s₁.setTop (mkF m 0 #[vr b, vi 0, vr d, vi 0, vi 1, .unset, .unset] [])) _
    refine XS.iconst X0.here hx rfl (hb hby D12_0) ?_
    refine XS.istore X0.here hx rfl (hb hby D12_1) rfl (l' := #[vr b, vi 0, vr d, vi 0, vi 1, vi 0, .unset]) rfl ?_
    refine XS.iload X0.here hx rfl (hb hby D12_3) rfl ?_
    refine XS.iload X0.here hx rfl (hb hby D12_5) rfl ?_
    refine XS.icmpNo X0.here hx rfl (hb hby D12_7) rfl (tlt (by decide : ((0 : Int32) < (1 : Int32)))).2.1 ?_
    refine XS.aloadN X0.here hx rfl (hb hby D12_10) rfl rfl ?_
    refine XS.iloadN X0.here hx rfl (hb hby D12_11) rfl ?_
    exact Steps.refl _)
  obtain ⟨cl2, Ar2, -, S2, -, Ha2, -⟩ := id Vb
  have c3 : SS p e below S0 (s₁.setTop (mkF m 20 #[vr b, vi 0, vr d, vi 0, vi 1, vi 0, vi ch0] [(.int 255), (.int ch0)])) := c1.trans (by
    show SS p e below (s₁.setTop (mkF m 12 #[vr b, vi 0, vr d, vi 0, vi 1, vi 0, .unset] [(.int 0), (.ref b)])) _
    refine X0.caload hx (j := (0 : Int32)) (v := (.int ch0)) (by rw [e0]; exact Ar2.1) (State.isArrayOf_alike hZ.alike Ar2.2.1) Ar2.2.2 (inb_of S2 ⟨by decide, by decide⟩) (Ha2.at (inb_of S2 ⟨by decide, by decide⟩) rfl) (g := (mkF m 12 #[vr b, vi 0, vr d, vi 0, vi 1, vi 0, .unset] [(.int 0), (.ref b)])) rfl rfl (hb hby D12_12) _ ?_
    refine XS.istore X0.here hx rfl (hb hby D12_13) rfl (l' := #[vr b, vi 0, vr d, vi 0, vi 1, vi 0, vi ch0]) rfl ?_
    refine XS.iload X0.here hx rfl (hb hby D12_15) rfl ?_
    refine XS.sipush X0.here hx rfl (hb hby D12_17) ?_
    exact Steps.refl _)
  by_cases hq4 : (255 : Int32) < ch0
  · have c5 : SS p e below S0 (s₁.setTop (mkF m 25 #[vr b, vi 0, vr d, vi 0, vi 1, vi 0, vi ch0] [(.int 0)])) := c3.trans (by
      show SS p e below (s₁.setTop (mkF m 20 #[vr b, vi 0, vr d, vi 0, vi 1, vi 0, vi ch0] [(.int 255), (.int ch0)])) _
      refine XS.icmpNo X0.here hx rfl (hb hby D12_20) rfl (tlt hq4).2.2.2 ?_
      refine XS.iload X0.here hx rfl (hb hby D12_23) rfl ?_
      exact Steps.refl _)
    obtain ⟨fs, hr, hrun, hended, hW, hsame⟩ := X0.leave (v := some (.int 0)) (fun h => by rw [Bd.returns] at h; cases h)
    refine ⟨_, _, c5.trans (retOut X0 hx Bd.returns rfl (Or.inl ⟨rfl, by simp, _, rfl⟩) (hb hby D12_25) hr), hrun, hended, _, _, rfl, ?_, ⟨_, rfl⟩, hW, hsame.mono (by first | decide | exact Nat.le_of_ble_eq_true rfl) (by first | decide | exact Nat.le_of_ble_eq_true rfl)⟩
    show Q5 Z ([ch0] : List Int32) d kd h0 n0 _ s₁.heap _
    rw [e0]
    exact ⟨_, rfl, N0, K0, Or.inr ⟨0, Nat.le_of_ble_eq_true rfl, rfl, hq4⟩⟩
  · have c6 : SS p e below S0 (s₁.setTop (mkF m 31 #[vr b, vi 0, vr d, vi 0, vi 1, vi 0, vi ch0] [(.int (ch0.toInt8.toInt32)), (.int 0), (.ref d)])) := c3.trans (by
      show SS p e below (s₁.setTop (mkF m 20 #[vr b, vi 0, vr d, vi 0, vi 1, vi 0, vi ch0] [(.int 255), (.int ch0)])) _
      refine XS.icmpYes X0.here hx rfl (pc0 := 20) (pc' := 26) rfl (hb hby D12_20) rfl (flt hq4).2.2.2 (by decide) (by decide) ?_
      refine XS.aloadN X0.here hx rfl (hb hby D12_26) rfl rfl ?_
      refine XS.iloadN X0.here hx rfl (hb hby D12_27) rfl ?_
      refine XS.iload X0.here hx rfl (hb hby D12_28) rfl ?_
      refine XS.i2b X0.here hx rfl (hb hby D12_30) rfl ?_
      exact Steps.refl _)
    obtain ⟨cl7, Ar7, q7, S7, Nn7, Ha7, G7⟩ := id Vd
    obtain ⟨T7, h7, X7, e7, W7, st7⟩ := stB X0 hx hZ e0 Ar7 (j := (0 : Int32)) (inb_of S7 ⟨by decide, by decide⟩) (g := (mkF m 31 #[vr b, vi 0, vr d, vi 0, vi 1, vi 0, vi ch0] [(.int (ch0.toInt8.toInt32)), (.int 0), (.ref d)])) rfl rfl (hb hby D12_31)
    have V7 : Arv Z h7 d kd .byte (1 : Int32) [(.int ((ch0.toInt8.toInt32).toInt8.toInt32))] (.int 0) := Arv.set Ar7 q7 S7 Nn7 Ha7 G7 (fits_nar_byte _) W7 0 rfl (Nat.le_of_ble_eq_true rfl)
    have c8 : SS p e below S0 (T7.setTop (mkF m 32 #[vr b, vi 0, vr d, vi 0, vi 1, vi 0, vi ch0] [])) := c6.trans (st7 _ (Steps.refl _))
    have N7 := Fr.snoc X7 N0 g_d
    have z7 : n0 ≤ h7.size := Nat.le_trans Z0 (Keep.of_wr W7).1
    have K7 := K0.wr W7 (Or.inl (by simp))
    have c9 : SS p e below S0 (T7.setTop (mkF m 46 #[vr b, vi 1, vr d, vi 1, vi 1, vi 1, vi ch0] [(.int 1)])) := c8.trans (by
      show SS p e below (T7.setTop (mkF m 32 #[vr b, vi 0, vr d, vi 0, vi 1, vi 0, vi ch0] [])) _
      refine XS.iinc X7.here hx rfl (hb hby D12_32) rfl (l' := #[vr b, vi 1, vr d, vi 0, vi 1, vi 0, vi ch0]) rfl ?_
      refine XS.iinc X7.here hx rfl (hb hby D12_35) rfl (l' := #[vr b, vi 1, vr d, vi 1, vi 1, vi 0, vi ch0]) rfl ?_
      refine XS.iinc X7.here hx rfl (hb hby D12_38) rfl (l' := #[vr b, vi 1, vr d, vi 1, vi 1, vi 1, vi ch0]) rfl ?_
      refine XS.goto X7.here hx rfl (pc0 := 41) (pc' := 3) rfl (hb hby D12_41) (by decide) (by decide) ?_
      refine XS.iload X7.here hx rfl (hb hby D12_3) rfl ?_
      refine XS.iload X7.here hx rfl (hb hby D12_5) rfl ?_
      refine XS.icmpYes X7.here hx rfl (pc0 := 7) (pc' := 44) rfl (hb hby D12_7) rfl (flt (by decide : ¬ ((1 : Int32) < (1 : Int32)))).2.1 (by decide) (by decide) ?_
      refine XS.iload X7.here hx rfl (hb hby D12_44) rfl ?_
      exact Steps.refl _)
    obtain ⟨fs, hr, hrun, hended, hW, hsame⟩ := X7.leave (v := some (.int 1)) (fun h => by rw [Bd.returns] at h; cases h)
    refine ⟨_, _, c9.trans (retOut X7 hx Bd.returns rfl (Or.inl ⟨rfl, by simp, _, rfl⟩) (hb hby D12_46) hr), hrun, hended, _, _, rfl, ?_, ⟨_, rfl⟩, hW, hsame.mono (by first | decide | exact Nat.le_of_ble_eq_true rfl) (by first | decide | exact Nat.le_of_ble_eq_true rfl)⟩
    show Q5 Z ([ch0] : List Int32) d kd h0 n0 _ T7.heap _
    rw [e7]
    have Vz := V7
    simp only [own_lo2] at Vz
    exact ⟨_, rfl, N7, K7, Or.inl ⟨rfl, (own_alS hq4 own_al0), Vz⟩⟩

theorem D13_0 : decode jdk_52_method_2_code 0 = .ok (.iload_n 0, 1) := by decide +kernel
theorem pd_oIcI : parseMethodDescriptor "(I)I" = some ⟨[.int], some .int⟩ := by decide +kernel
theorem D13_1 : decode jdk_52_method_2_code 1 = .ok (.invokestatic 11, 3) := by decide +kernel
theorem D13_4 : decode jdk_52_method_2_code 4 = .ok (.newarray .byte, 2) := by decide +kernel
theorem D13_6 : decode jdk_52_method_2_code 6 = .ok (.areturn, 1) := by decide +kernel
theorem ef_rmNF_1 (m : MethodId) (x0 : Int32) : entryFrame m #[(.int x0)] 1 = mkF m 0 #[.val (.int x0)] [] := by first | (simp [entryFrame, mkF, argsToLocals, Value.category]; done) | rfl
set_option maxRecDepth 65536 in
set_option maxHeartbeats 40000000 in
theorem rmNF_1 (l : Launch) (Z : State) (a0 : Array Value) (hw : ∀ d ∈ tables_1, d.before a0 Z = true) (ws : List Jvm.Cond)  (h0 : Heap) (n0 : Nat) (Z0 : n0 ≤ h0.size)  :
    MetFree l (⟨"java/lang/StringUTF16", "newBytesFor", "(I)[B"⟩ : MethodName) (head1 (Jvm.Cond.code (⟨"java/lang/StringUTF16", "newBytesFor", "(I)[B"⟩ : MethodName) jdk_52_method_2_code 1 (some (.array .byte)) :: ws) ({ frames := 1, cells := 1, slots := 2, locals := 12 } : Room)) (fun aa U => aa = #[(.int 1)] ∧ Z.Warmed39 U.vm ∧ U.heap = h0) (fun _ _ _ _ _ => True) (fun _ U o U' => ∃ v L, o = .returned v ∧ QArr Z (2 : Int32) [.int (0 : Int32), .int (0 : Int32)] h0 n0 v U'.heap L ∧ FrameEnd U o U' L ({ frames := 1, cells := 1, slots := 2, locals := 12 } : Room).cells ({ frames := 1, cells := 1, slots := 2, locals := 12 } : Room).slots) := by
  refine MetFree.of_bodySF (plainFor_of_name pn_java_lang_StringUTF16) hisR ?_
  intro p e s m args below meth c s₁ Bd hml0 hP hK
  obtain ⟨rfl, hZ, hh⟩ := hP
  have hx := Bd.exec
  have hby := Bd.bytes
  have hml : c.maxLocals = 1 := hml0
  have hown : s.vm.findClass "java/lang/StringUTF16" = some m.cls := findClass_of_methodNamed Bd.named
  have hnm := (name_of_methodNamed Bd.named Bd.method).1
  have X0 : Stand p l e ({ frames := 1, cells := 1, slots := 2, locals := 12 } : Room) s m #[(.int 1)] below meth c s₁ [] 0 0 := Stand.of_body Bd
  have e0 : s₁.heap = h0 := by rw [← hh, Bd.state]; rfl
  have N0 := Fr.nil n0
  have K0 := Keep.refl h0 []
  obtain ⟨S0, hS0⟩ : ∃ z, z = s₁.setTop (entryFrame m #[(.int 1)] 1) := ⟨_, rfl⟩
  rw [← hS0]
  have c0 : SS p e below S0 (s₁.setTop (mkF m 0 #[vi 1] [])) := by
    rw [hS0]; exact castTop (ef_rmNF_1 m (1 : Int32)) (Steps.refl _)
  have c1 : SS p e below S0 (s₁.setTop (mkF m 1 #[vi 1] [(.int 1)])) := c0.trans (by
    show SS p e below (s₁.setTop (mkF m 0 #[vi 1] [])) _
    refine XS.iloadN X0.here hx rfl (hb hby D13_0) rfl ?_
    exact Steps.refl _)
  obtain ⟨_, _, ⟨T2, L2, kk2, nn2⟩, -, X2, ⟨Lc2, hQ2, l2, y2, z2⟩, st2⟩ := Jvm.LawKit.callS X0 hx (y := (⟨"java/lang/StringUTF16", "newBytesLength", "(I)I"⟩ : MethodName)) hown (mvT hZ (ww hw 113 rfl)) (mvT hZ (ww hw 114 rfl)) (mvT hZ (ww hw 52 rfl)) (mvT hZ (ww hw 115 rfl)) (by decide) (backOf (W := 0) (rmNL l Z a0 hw [] (1 : Int32) (2 : Int32) h0 n0 Z0 (by decide) (by decide) (by decide)) hZ (ww hw 115 rfl) (ww hw 52 rfl) (by decide) (by decide)) (g := (mkF m 1 #[vi 1] [(.int 1)])) rfl (by rw [hml]; rfl) (argsL := [(.int 1)]) (rest := []) (lenOf pd_oIcI rfl) rfl (by show 2 * 0 + _ ≤ _; exact Nat.le_of_eq rfl) (hb hby D13_1) (fun _ _ => ⟨rfl, e0, (by decide : 0 + 0 ≤ _), (by decide : 0 + 0 ≤ _)⟩)
  dsimp only [Pt.U, Pt.locs, Pt.cells, Pt.slots] at X2 l2 y2 z2 st2 hQ2
  subst l2 y2 z2
  obtain ⟨rfl, Nq2, eq2⟩ := hQ2
  have c3 : SS p e below S0 (T2.setTop (mkF m 4 #[vi 1] [(.int 2)])) := c1.trans (st2 _ (Steps.refl _))
  have N2 := Fr.app N0 Nq2
  obtain ⟨T4, h4, k4, X4, e4, E4, A4, st4⟩ := newP X2 hx hZ (ww hw 22 rfl) eq2 (g := (mkF m 4 #[vi 1] [(.int 2)])) rfl (hb hby D13_4) rfl (by decide) (cap := 2) (by decide) (by decide) (by decide) (by decide)
  obtain ⟨b4, g4⟩ : ∃ z, z = h0.size := ⟨_, rfl⟩
  rw [← g4] at A4 st4
  have c5 : SS p e below S0 (T4.setTop (mkF m 6 #[vi 1] [(.ref b4)])) := c3.trans (st4 _ (Steps.refl _))
  have z4 : n0 ≤ h4.size := Nat.le_trans Z0 E4.1
  have K4 := K0.ext E4
  have V4 : Arv Z h4 b4 k4 .byte (2 : Int32) [(.int 0), (.int 0)] (.int 0) := (Arv.new A4 (by decide)).pad (pad_rep [] (.int 0) 2)
  have lt_b4 : b4 < h4.size := V4.lt
  obtain ⟨fs, hr, hrun, hended, hW, hsame⟩ := X4.leave (v := some (.ref b4)) (fun h => by rw [Bd.returns] at h; cases h)
  refine ⟨_, _, c5.trans (retOut X4 hx Bd.returns rfl (Or.inr (Or.inr (Or.inr (Or.inr ⟨rfl, rfl, rfl⟩)))) (hb hby D13_6) hr), hrun, hended, _, _, rfl, ?_, ⟨_, rfl⟩, hW, hsame.mono (by first | decide | exact Nat.le_of_ble_eq_true rfl) (by first | decide | exact Nat.le_of_ble_eq_true rfl)⟩
  show QArr Z (2 : Int32) [.int (0 : Int32), .int (0 : Int32)] h0 n0 _ T4.heap _
  rw [e4]
  exact ⟨_, _, rfl, N2, K4, (Nat.le_trans K0.1 (Nat.le_of_eq g4.symm)), V4⟩

theorem D14_0 : decode jdk_52_method_14_code 0 = .ok (.iload_n 2, 1) := by decide +kernel
theorem pd_oIcaB : parseMethodDescriptor "(I)[B" = some ⟨[.int], some (.array .byte)⟩ := by decide +kernel
theorem D14_1 : decode jdk_52_method_14_code 1 = .ok (.invokestatic 107, 3) := by decide +kernel
theorem D14_4 : decode jdk_52_method_14_code 4 = .ok (.astore_n 3, 1) := by decide +kernel
theorem D14_5 : decode jdk_52_method_14_code 5 = .ok (.iconst 0, 1) := by decide +kernel
theorem D14_6 : decode jdk_52_method_14_code 6 = .ok (.istore 4, 2) := by decide +kernel
theorem D14_8 : decode jdk_52_method_14_code 8 = .ok (.iload 4, 2) := by decide +kernel
theorem D14_10 : decode jdk_52_method_14_code 10 = .ok (.iload_n 2, 1) := by decide +kernel
theorem D14_11 : decode jdk_52_method_14_code 11 = .ok (.if_icmp .ge 21, 3) := by decide +kernel
theorem D14_14 : decode jdk_52_method_14_code 14 = .ok (.aload_n 3, 1) := by decide +kernel
theorem D14_15 : decode jdk_52_method_14_code 15 = .ok (.iload 4, 2) := by decide +kernel
theorem D14_17 : decode jdk_52_method_14_code 17 = .ok (.aload_n 0, 1) := by decide +kernel
theorem D14_18 : decode jdk_52_method_14_code 18 = .ok (.iload_n 1, 1) := by decide +kernel
theorem D14_19 : decode jdk_52_method_14_code 19 = .ok (.caload, 1) := by decide +kernel
theorem pd_oaBIIcV : parseMethodDescriptor "([BII)V" = some ⟨[(.array .byte), .int, .int], none⟩ := by decide +kernel
theorem D14_20 : decode jdk_52_method_14_code 20 = .ok (.invokestatic 111, 3) := by decide +kernel
theorem D14_23 : decode jdk_52_method_14_code 23 = .ok (.iinc 1 1, 3) := by decide +kernel
theorem D14_26 : decode jdk_52_method_14_code 26 = .ok (.iinc 4 1, 3) := by decide +kernel
theorem D14_29 : decode jdk_52_method_14_code 29 = .ok (.goto (-21), 3) := by decide +kernel
theorem D14_32 : decode jdk_52_method_14_code 32 = .ok (.aload_n 3, 1) := by decide +kernel
theorem D14_33 : decode jdk_52_method_14_code 33 = .ok (.areturn, 1) := by decide +kernel
theorem ef_rmTB_1 (m : MethodId) (x0 : Addr) (x1 : Int32) (x2 : Int32) : entryFrame m #[(.ref x0), (.int x1), (.int x2)] 5 = mkF m 0 #[.val (.ref x0), .val (.int x1), .val (.int x2), .unset, .unset] [] := by first | (simp [entryFrame, mkF, argsToLocals, Value.category]; done) | rfl
set_option maxRecDepth 65536 in
set_option maxHeartbeats 40000000 in
theorem rmTB_1 (l : Launch) (Z : State) (a0 : Array Value) (hw : ∀ d ∈ tables_1, d.before a0 Z = true) (ws : List Jvm.Cond) (b : Addr) (kc : ClassId) (ch0 : Int32)  (h0 : Heap) (n0 : Nat) (Z0 : n0 ≤ h0.size) (Vb : Arv Z h0 b kc .char (1 : Int32) [.int ch0] (.int 0)) (sAD : Sta Z Z.heap "java/lang/StringUTF16" "$assertionsDisabled" "Z" (.int 1)) (sHI : Sta Z Z.heap "java/lang/StringUTF16" "HI_BYTE_SHIFT" "I" (.int 0)) (sLO : Sta Z Z.heap "java/lang/StringUTF16" "LO_BYTE_SHIFT" "I" (.int 8)) (X00 : Old Z n0 h0) :
    MetFree l (⟨"java/lang/StringUTF16", "toBytes", "([CII)[B"⟩ : MethodName) (head1 (Jvm.Cond.code (⟨"java/lang/StringUTF16", "toBytes", "([CII)[B"⟩ : MethodName) jdk_52_method_14_code 5 (some (.array .byte)) :: ws) ({ frames := 2, cells := 1, slots := 2, locals := 24 } : Room)) (fun aa U => aa = #[(.ref b), (.int 0), (.int 1)] ∧ Z.Warmed39 U.vm ∧ U.heap = h0) (fun _ _ _ _ _ => True) (fun _ U o U' => ∃ v L, o = .returned v ∧ QArr Z (2 : Int32) (StrChars.Road.wideBytes ([ch0] : List Int32)) h0 n0 v U'.heap L ∧ FrameEnd U o U' L ({ frames := 2, cells := 1, slots := 2, locals := 24 } : Room).cells ({ frames := 2, cells := 1, slots := 2, locals := 24 } : Room).slots) := by
  refine MetFree.of_bodySF (plainFor_of_name pn_java_lang_StringUTF16) hisR ?_
  intro p e s m args below meth c s₁ Bd hml0 hP hK
  obtain ⟨rfl, hZ, hh⟩ := hP
  have hx := Bd.exec
  have hby := Bd.bytes
  have hml : c.maxLocals = 5 := hml0
  have hown : s.vm.findClass "java/lang/StringUTF16" = some m.cls := findClass_of_methodNamed Bd.named
  have hnm := (name_of_methodNamed Bd.named Bd.method).1
  have X0 : Stand p l e ({ frames := 2, cells := 1, slots := 2, locals := 24 } : Room) s m #[(.ref b), (.int 0), (.int 1)] below meth c s₁ [] 0 0 := Stand.of_body Bd
  have e0 : s₁.heap = h0 := by rw [← hh, Bd.state]; rfl
  have N0 := Fr.nil n0
  have K0 := Keep.refl h0 []
  obtain ⟨S0, hS0⟩ : ∃ z, z = s₁.setTop (entryFrame m #[(.ref b), (.int 0), (.int 1)] 5) := ⟨_, rfl⟩
  rw [← hS0]
  have c0 : SS p e below S0 (s₁.setTop (mkF m 0 #[vr b, vi 0, vi 1, .unset, .unset] [])) := by
    rw [hS0]; exact castTop (ef_rmTB_1 m b (0 : Int32) (1 : Int32)) (Steps.refl _)
  have c1 : SS p e below S0 (s₁.setTop (mkF m 1 #[vr b, vi 0, vi 1, .unset, .unset] [(.int 1)])) := c0.trans (by
    show SS p e below (s₁.setTop (mkF m 0 #[vr b, vi 0, vi 1, .unset, .unset] [])) _
    refine XS.iloadN X0.here hx rfl (hb hby D14_0) rfl ?_
    exact Steps.refl _)
  obtain ⟨_, _, ⟨T2, L2, kk2, nn2⟩, -, X2, ⟨Lc2, hQ2, l2, y2, z2⟩, st2⟩ := Jvm.LawKit.callS X0 hx (y := (⟨"java/lang/StringUTF16", "newBytesFor", "(I)[B"⟩ : MethodName)) hown (mvT hZ (ww hw 110 rfl)) (mvT hZ (ww hw 111 rfl)) (mvT hZ (ww hw 52 rfl)) (mvT hZ (ww hw 112 rfl)) (by decide) (backOf (W := 0) (rmNF_1 l Z a0 hw [] h0 n0 Z0) hZ (ww hw 112 rfl) (ww hw 52 rfl) (by decide) (by decide)) (g := (mkF m 1 #[vr b, vi 0, vi 1, .unset, .unset] [(.int 1)])) rfl (by rw [hml]; rfl) (argsL := [(.int 1)]) (rest := []) (lenOf pd_oIcaB rfl) rfl (by show 2 * 0 + _ ≤ _; exact Nat.le_of_eq rfl) (hb hby D14_1) (fun _ _ => ⟨rfl, e0, (by decide : 0 + 1 ≤ _), (by decide : 0 + 2 ≤ _)⟩)
  dsimp only [Pt.U, Pt.locs, Pt.cells, Pt.slots] at X2 l2 y2 z2 st2 hQ2
  subst l2 y2 z2
  obtain ⟨t2, kb2, rfl, Nq2, Kq2, gt2, Vt2⟩ := hQ2
  have c3 : SS p e below S0 (T2.setTop (mkF m 4 #[vr b, vi 0, vi 1, .unset, .unset] [(.ref t2)])) := c1.trans (st2 _ (Steps.refl _))
  have N2 := Fr.app N0 Nq2
  have z2 : n0 ≤ T2.heap.size := Nat.le_trans Z0 Kq2.1
  have K2 := K0.trans Kq2 all0
  have lt_t2 := Vt2.lt
  have c4 : SS p e below S0 (T2.setTop (mkF m 19 #[vr b, vi 0, vi 1, vr t2, vi 0] [(.int 0), (.ref b), (.int 0), (.ref t2)])) := c3.trans (by
    show SS p e below (T2.setTop (mkF m 4 #[vr b, vi 0, vi 1, .unset, .unset] [(.ref t2)])) _
    refine XS.astoreN X2.here hx rfl (hb hby D14_4) rfl rfl (l' := #[vr b, vi 0, vi 1, vr t2, .unset]) rfl ?_
    refine XS.iconst X2.here hx rfl (hb hby D14_5) ?_
    refine XS.istore X2.here hx rfl (hb hby D14_6) rfl (l' := #[vr b, vi 0, vi 1, vr t2, vi 0]) rfl ?_
    refine XS.iload X2.here hx rfl (hb hby D14_8) rfl ?_
    refine XS.iloadN X2.here hx rfl (hb hby D14_10) rfl ?_
    refine XS.icmpNo X2.here hx rfl (hb hby D14_11) rfl (tlt (by decide : ((0 : Int32) < (1 : Int32)))).2.1 ?_
    refine XS.aloadN X2.here hx rfl (hb hby D14_14) rfl rfl ?_
    refine XS.iload X2.here hx rfl (hb hby D14_15) rfl ?_
    refine XS.aloadN X2.here hx rfl (hb hby D14_17) rfl rfl ?_
    refine XS.iloadN X2.here hx rfl (hb hby D14_18) rfl ?_
    exact Steps.refl _)
  obtain ⟨cl5, Ar5, -, S5, -, Ha5, -⟩ := id (Vb.keep Kq2 nin0)
  have c6 : SS p e below S0 (T2.setTop (mkF m 20 #[vr b, vi 0, vi 1, vr t2, vi 0] [(.int ch0), (.int 0), (.ref t2)])) := c4.trans (by
    show SS p e below (T2.setTop (mkF m 19 #[vr b, vi 0, vi 1, vr t2, vi 0] [(.int 0), (.ref b), (.int 0), (.ref t2)])) _
    refine X2.caload hx (j := (0 : Int32)) (v := (.int ch0)) Ar5.1 (State.isArrayOf_alike hZ.alike Ar5.2.1) Ar5.2.2 (inb_of S5 ⟨by decide, by decide⟩) (Ha5.at (inb_of S5 ⟨by decide, by decide⟩) rfl) (g := (mkF m 19 #[vr b, vi 0, vi 1, vr t2, vi 0] [(.int 0), (.ref b), (.int 0), (.ref t2)])) rfl rfl (hb hby D14_19) _ ?_
    exact Steps.refl _)
  obtain ⟨_, _, ⟨T7, L7, kk7, nn7⟩, -, X7, ⟨Lc7, hQ7, l7, y7, z7⟩, st7⟩ := Jvm.LawKit.callS X2 hx (y := (⟨"java/lang/StringUTF16", "putChar", "([BII)V"⟩ : MethodName)) hown (mvT hZ (ww hw 117 rfl)) (mvT hZ (ww hw 118 rfl)) (mvT hZ (ww hw 52 rfl)) (mvT hZ (ww hw 119 rfl)) (by decide) (backOf (W := 0) (rmPu l Z a0 hw [] t2 kb2 (2 : Int32) (0 : Int32) (0 : Int32) ch0 [(.int 0), (.int 0)] 0 T2.heap n0 z2 (Nat.le_trans Z0 (Nat.le_trans K0.1 gt2)) Vt2 (by decide) (by decide) (by decide) ⟨by decide, by decide⟩ ⟨by decide, by decide⟩ (Nat.le_of_ble_eq_true rfl) sAD sHI sLO (X00.keep Kq2 all0)) hZ (ww hw 119 rfl) (ww hw 52 rfl) (by decide) (by decide)) (g := (mkF m 20 #[vr b, vi 0, vi 1, vr t2, vi 0] [(.int ch0), (.int 0), (.ref t2)])) rfl (by rw [hml]; rfl) (argsL := [(.ref t2), (.int 0), (.int ch0)]) (rest := []) (lenOf pd_oaBIIcV rfl) rfl (by show 2 * 0 + _ ≤ _; exact Nat.le_of_eq rfl) (hb hby D14_20) (fun _ _ => ⟨rfl, rfl, (by decide : 1 + 0 ≤ _), (by decide : 2 + 0 ≤ _)⟩)
  dsimp only [Pt.U, Pt.locs, Pt.cells, Pt.slots] at X7 l7 y7 z7 st7 hQ7
  subst l7 y7 z7
  obtain ⟨rfl, Nq7, Kq7, Vq7⟩ := hQ7
  have c8 : SS p e below S0 (T7.setTop (mkF m 23 #[vr b, vi 0, vi 1, vr t2, vi 0] [])) := c6.trans (st7 _ (Steps.refl _))
  have N7 := Fr.app N2 Nq7
  have z7 : n0 ≤ T7.heap.size := Nat.le_trans z2 Kq7.1
  have K7 := K2.trans Kq7 (allS (Or.inr (Nat.le_trans K0.1 gt2)) all0)
  have Vq7 : Arv Z T7.heap t2 kb2 .byte (2 : Int32) [(.int (StrChars.lo8 ch0)), (.int (StrChars.hi8 ch0))] (.int 0) := Vq7
  have c9 : SS p e below S0 (T7.setTop (mkF m 33 #[vr b, vi 1, vi 1, vr t2, vi 1] [(.ref t2)])) := c8.trans (by
    show SS p e below (T7.setTop (mkF m 23 #[vr b, vi 0, vi 1, vr t2, vi 0] [])) _
    refine XS.iinc X7.here hx rfl (hb hby D14_23) rfl (l' := #[vr b, vi 1, vi 1, vr t2, vi 0]) rfl ?_
    refine XS.iinc X7.here hx rfl (hb hby D14_26) rfl (l' := #[vr b, vi 1, vi 1, vr t2, vi 1]) rfl ?_
    refine XS.goto X7.here hx rfl (pc0 := 29) (pc' := 8) rfl (hb hby D14_29) (by decide) (by decide) ?_
    refine XS.iload X7.here hx rfl (hb hby D14_8) rfl ?_
    refine XS.iloadN X7.here hx rfl (hb hby D14_10) rfl ?_
    refine XS.icmpYes X7.here hx rfl (pc0 := 11) (pc' := 32) rfl (hb hby D14_11) rfl (flt (by decide : ¬ ((1 : Int32) < (1 : Int32)))).2.1 (by decide) (by decide) ?_
    refine XS.aloadN X7.here hx rfl (hb hby D14_32) rfl rfl ?_
    exact Steps.refl _)
  obtain ⟨fs, hr, hrun, hended, hW, hsame⟩ := X7.leave (v := some (.ref t2)) (fun h => by rw [Bd.returns] at h; cases h)
  refine ⟨_, _, c9.trans (retOut X7 hx Bd.returns rfl (Or.inr (Or.inr (Or.inr (Or.inr ⟨rfl, rfl, rfl⟩)))) (hb hby D14_33) hr), hrun, hended, _, _, rfl, ?_, ⟨_, rfl⟩, hW, hsame.mono (by first | decide | exact Nat.le_of_ble_eq_true rfl) (by first | decide | exact Nat.le_of_ble_eq_true rfl)⟩
  show QArr Z (2 : Int32) (StrChars.Road.wideBytes ([ch0] : List Int32)) h0 n0 _ T7.heap _
  exact ⟨_, _, rfl, N7, K7, (Nat.le_trans K0.1 gt2), Vq7⟩

theorem own_gmem {cs : List Int32} {k : Nat} (h : k < cs.length) : cs.getD k 0 ∈ cs := by
  rw [List.getD_eq_getElem?_getD, List.getElem?_eq_getElem h]; exact List.getElem_mem h
theorem D15_0 : decode jdk_52_method_16_code 0 = .ok (.iload_n 2, 1) := by decide +kernel
theorem D15_1 : decode jdk_52_method_16_code 1 = .ok (.newarray .byte, 2) := by decide +kernel
theorem D15_3 : decode jdk_52_method_16_code 3 = .ok (.astore_n 3, 1) := by decide +kernel
theorem D15_4 : decode jdk_52_method_16_code 4 = .ok (.aload_n 0, 1) := by decide +kernel
theorem D15_5 : decode jdk_52_method_16_code 5 = .ok (.iload_n 1, 1) := by decide +kernel
theorem D15_6 : decode jdk_52_method_16_code 6 = .ok (.aload_n 3, 1) := by decide +kernel
theorem D15_7 : decode jdk_52_method_16_code 7 = .ok (.iconst 0, 1) := by decide +kernel
theorem D15_8 : decode jdk_52_method_16_code 8 = .ok (.iload_n 2, 1) := by decide +kernel
theorem pd_oaCIaBIIcI : parseMethodDescriptor "([CI[BII)I" = some ⟨[(.array .char), .int, (.array .byte), .int, .int], some .int⟩ := by decide +kernel
theorem D15_9 : decode jdk_52_method_16_code 9 = .ok (.invokestatic 115, 3) := by decide +kernel
theorem D15_12 : decode jdk_52_method_16_code 12 = .ok (.istore 4, 2) := by decide +kernel
theorem D15_14 : decode jdk_52_method_16_code 14 = .ok (.iload 4, 2) := by decide +kernel
theorem D15_16 : decode jdk_52_method_16_code 16 = .ok (.iload_n 2, 1) := by decide +kernel
theorem D15_17 : decode jdk_52_method_16_code 17 = .ok (.if_icmp .eq 40, 3) := by decide +kernel
theorem D15_57 : decode jdk_52_method_16_code 57 = .ok (.aload_n 3, 1) := by decide +kernel
theorem D15_58 : decode jdk_52_method_16_code 58 = .ok (.areturn, 1) := by decide +kernel
theorem D15_20 : decode jdk_52_method_16_code 20 = .ok (.aload_n 0, 1) := by decide +kernel
theorem D15_21 : decode jdk_52_method_16_code 21 = .ok (.iload_n 1, 1) := by decide +kernel
theorem D15_22 : decode jdk_52_method_16_code 22 = .ok (.iload_n 2, 1) := by decide +kernel
theorem pd_oaCIIcaB : parseMethodDescriptor "([CII)[B" = some ⟨[(.array .char), .int, .int], some (.array .byte)⟩ := by decide +kernel
theorem D15_23 : decode jdk_52_method_16_code 23 = .ok (.invokestatic 119, 3) := by decide +kernel
theorem D15_26 : decode jdk_52_method_16_code 26 = .ok (.astore 5, 2) := by decide +kernel
theorem D15_28 : decode jdk_52_method_16_code 28 = .ok (.aload 5, 2) := by decide +kernel
theorem D15_30 : decode jdk_52_method_16_code 30 = .ok (.iload 4, 2) := by decide +kernel
theorem D15_32 : decode jdk_52_method_16_code 32 = .ok (.invokestatic 71, 3) := by decide +kernel
theorem D15_35 : decode jdk_52_method_16_code 35 = .ok (.sipush 255, 3) := by decide +kernel
theorem D15_38 : decode jdk_52_method_16_code 38 = .ok (.if_icmp .gt 16, 3) := by decide +kernel
theorem D15_54 : decode jdk_52_method_16_code 54 = .ok (.aload 5, 2) := by decide +kernel
theorem D15_56 : decode jdk_52_method_16_code 56 = .ok (.areturn, 1) := by decide +kernel
theorem ef_rmC3_1 (m : MethodId) (x0 : Addr) (x1 : Int32) (x2 : Int32) : entryFrame m #[(.ref x0), (.int x1), (.int x2)] 6 = mkF m 0 #[.val (.ref x0), .val (.int x1), .val (.int x2), .unset, .unset, .unset] [] := by first | (simp [entryFrame, mkF, argsToLocals, Value.category]; done) | rfl
set_option maxRecDepth 65536 in
set_option maxHeartbeats 40000000 in
theorem rmC3_1 (l : Launch) (Z : State) (a0 : Array Value) (hw : ∀ d ∈ tables_1, d.before a0 Z = true) (ws : List Jvm.Cond) (b : Addr) (kc : ClassId) (ch0 : Int32)  (h0 : Heap) (n0 : Nat) (Z0 : n0 ≤ h0.size) (Vb : Arv Z h0 b kc .char (1 : Int32) [.int ch0] (.int 0)) (hc0 : C16 ch0) (sAD : Sta Z Z.heap "java/lang/StringUTF16" "$assertionsDisabled" "Z" (.int 1)) (sHI : Sta Z Z.heap "java/lang/StringUTF16" "HI_BYTE_SHIFT" "I" (.int 0)) (sLO : Sta Z Z.heap "java/lang/StringUTF16" "LO_BYTE_SHIFT" "I" (.int 8)) (X00 : Old Z n0 h0) :
    MetFree l (⟨"java/lang/StringUTF16", "compress", "([CII)[B"⟩ : MethodName) (head1 (Jvm.Cond.code (⟨"java/lang/StringUTF16", "compress", "([CII)[B"⟩ : MethodName) jdk_52_method_16_code 6 (some (.array .byte)) :: ws) ({ frames := 3, cells := 2, slots := 3, locals := 40 } : Room)) (fun aa U => aa = #[(.ref b), (.int 0), (.int 1)] ∧ Z.Warmed39 U.vm ∧ U.heap = h0) (fun _ _ _ _ _ => True) (fun _ U o U' => ∃ v L, o = .returned v ∧ QC3 Z ([ch0] : List Int32) h0 n0 v U'.heap L ∧ FrameEnd U o U' L ({ frames := 3, cells := 2, slots := 3, locals := 40 } : Room).cells ({ frames := 3, cells := 2, slots := 3, locals := 40 } : Room).slots) := by
  refine MetFree.of_bodySF (plainFor_of_name pn_java_lang_StringUTF16) hisR ?_
  intro p e s m args below meth c s₁ Bd hml0 hP hK
  obtain ⟨rfl, hZ, hh⟩ := hP
  have hx := Bd.exec
  have hby := Bd.bytes
  have hml : c.maxLocals = 6 := hml0
  have hown : s.vm.findClass "java/lang/StringUTF16" = some m.cls := findClass_of_methodNamed Bd.named
  have hnm := (name_of_methodNamed Bd.named Bd.method).1
  have X0 : Stand p l e ({ frames := 3, cells := 2, slots := 3, locals := 40 } : Room) s m #[(.ref b), (.int 0), (.int 1)] below meth c s₁ [] 0 0 := Stand.of_body Bd
  have e0 : s₁.heap = h0 := by rw [← hh, Bd.state]; rfl
  have N0 := Fr.nil n0
  have K0 := Keep.refl h0 []
  obtain ⟨S0, hS0⟩ : ∃ z, z = s₁.setTop (entryFrame m #[(.ref b), (.int 0), (.int 1)] 6) := ⟨_, rfl⟩
  rw [← hS0]
  have c0 : SS p e below S0 (s₁.setTop (mkF m 0 #[vr b, vi 0, vi 1, .unset, .unset, .unset] [])) := by
    rw [hS0]; exact castTop (ef_rmC3_1 m b (0 : Int32) (1 : Int32)) (Steps.refl _)
  have c1 : SS p e below S0 (s₁.setTop (mkF m 1 #[vr b, vi 0, vi 1, .unset, .unset, .unset] [(.int 1)])) := c0.trans (by
    show SS p e below (s₁.setTop (mkF m 0 #[vr b, vi 0, vi 1, .unset, .unset, .unset] [])) _
    refine XS.iloadN X0.here hx rfl (hb hby D15_0) rfl ?_
    exact Steps.refl _)
  obtain ⟨T2, h2, k2, X2, e2, E2, A2, st2⟩ := newP X0 hx hZ (ww hw 22 rfl) e0 (g := (mkF m 1 #[vr b, vi 0, vi 1, .unset, .unset, .unset] [(.int 1)])) rfl (hb hby D15_1) rfl (by decide) (cap := 1) (by decide) (by decide) (by decide) (by decide)
  obtain ⟨b2, g2⟩ : ∃ z, z = h0.size := ⟨_, rfl⟩
  rw [← g2] at A2 st2
  have c3 : SS p e below S0 (T2.setTop (mkF m 3 #[vr b, vi 0, vi 1, .unset, .unset, .unset] [(.ref b2)])) := c1.trans (st2 _ (Steps.refl _))
  have z2 : n0 ≤ h2.size := Nat.le_trans Z0 E2.1
  have K2 := K0.ext E2
  have V2 : Arv Z h2 b2 k2 .byte (1 : Int32) [(.int 0)] (.int 0) := (Arv.new A2 (by decide)).pad (pad_rep [] (.int 0) 1)
  have lt_b2 : b2 < h2.size := V2.lt
  have c4 : SS p e below S0 (T2.setTop (mkF m 9 #[vr b, vi 0, vi 1, vr b2, .unset, .unset] [(.int 1), (.int 0), (.ref b2), (.int 0), (.ref b)])) := c3.trans (by
    show SS p e below (T2.setTop (mkF m 3 #[vr b, vi 0, vi 1, .unset, .unset, .unset] [(.ref b2)])) _
    refine XS.astoreN X2.here hx rfl (hb hby D15_3) rfl rfl (l' := #[vr b, vi 0, vi 1, vr b2, .unset, .unset]) rfl ?_
    refine XS.aloadN X2.here hx rfl (hb hby D15_4) rfl rfl ?_
    refine XS.iloadN X2.here hx rfl (hb hby D15_5) rfl ?_
    refine XS.aloadN X2.here hx rfl (hb hby D15_6) rfl rfl ?_
    refine XS.iconst X2.here hx rfl (hb hby D15_7) ?_
    refine XS.iloadN X2.here hx rfl (hb hby D15_8) rfl ?_
    exact Steps.refl _)
  obtain ⟨_, _, ⟨T5, L5, kk5, nn5⟩, -, X5, ⟨Lc5, hQ5, l5, y5, z5⟩, st5⟩ := Jvm.LawKit.callS X2 hx (y := (⟨"java/lang/StringUTF16", "compress", "([CI[BII)I"⟩ : MethodName)) hown (mvT hZ (ww hw 54 rfl)) (mvT hZ (ww hw 55 rfl)) (mvT hZ (ww hw 52 rfl)) (mvT hZ (ww hw 56 rfl)) (by decide) (backOf (W := 0) (rmC5_1 l Z a0 hw [] b2 k2 b kc ch0  h2 n0 z2 (Nat.le_trans Z0 (Nat.le_trans K0.1 (Nat.le_of_eq g2.symm))) (Nat.ne_of_lt (Nat.lt_of_lt_of_le Vb.lt (Nat.le_of_eq g2.symm))) V2 (Vb.ext E2) hc0 ) hZ (ww hw 56 rfl) (ww hw 52 rfl) (by decide) (by decide)) (g := (mkF m 9 #[vr b, vi 0, vi 1, vr b2, .unset, .unset] [(.int 1), (.int 0), (.ref b2), (.int 0), (.ref b)])) rfl (by rw [hml]; rfl) (argsL := [(.ref b), (.int 0), (.ref b2), (.int 0), (.int 1)]) (rest := []) (lenOf pd_oaCIaBIIcI rfl) rfl (by show 2 * 0 + _ ≤ _; exact Nat.le_of_eq rfl) (hb hby D15_9) (fun _ _ => ⟨rfl, e2, (by decide : 1 + 0 ≤ _), (by decide : 1 + 0 ≤ _)⟩)
  dsimp only [Pt.U, Pt.locs, Pt.cells, Pt.slots] at X5 l5 y5 z5 st5 hQ5
  subst l5 y5 z5
  obtain ⟨r5, rfl, Nq5, Kq5, hr5⟩ := hQ5
  have c6 : SS p e below S0 (T5.setTop (mkF m 12 #[vr b, vi 0, vi 1, vr b2, .unset, .unset] [(.int r5)])) := c4.trans (st5 _ (Steps.refl _))
  have N5 := Fr.app N0 Nq5
  have z5 : n0 ≤ T5.heap.size := Nat.le_trans z2 Kq5.1
  have K5 := K2.trans Kq5 (allS (Or.inr (Nat.le_trans K0.1 (Nat.le_of_eq g2.symm))) all0)
  rcases hr5 with ⟨e1, e2, Vd5⟩ | ⟨i, hi, e1, hw1⟩
  · rw [(e1.trans rfl : r5 = (1 : Int32))] at c6
    have c7 : SS p e below S0 (T5.setTop (mkF m 58 #[vr b, vi 0, vi 1, vr b2, vi 1, .unset] [(.ref b2)])) := c6.trans (by
      show SS p e below (T5.setTop (mkF m 12 #[vr b, vi 0, vi 1, vr b2, .unset, .unset] [(.int 1)])) _
      refine XS.istore X5.here hx rfl (hb hby D15_12) rfl (l' := #[vr b, vi 0, vi 1, vr b2, vi 1, .unset]) rfl ?_
      refine XS.iload X5.here hx rfl (hb hby D15_14) rfl ?_
      refine XS.iloadN X5.here hx rfl (hb hby D15_16) rfl ?_
      refine XS.icmpYes X5.here hx rfl (pc0 := 17) (pc' := 57) rfl (hb hby D15_17) rfl (teq (by decide : ((1 : Int32) = (1 : Int32)))).1 (by decide) (by decide) ?_
      refine XS.aloadN X5.here hx rfl (hb hby D15_57) rfl rfl ?_
      exact Steps.refl _)
    obtain ⟨fs, hr, hrun, hended, hW, hsame⟩ := X5.leave (v := some (.ref b2)) (fun h => by rw [Bd.returns] at h; cases h)
    refine ⟨_, _, c7.trans (retOut X5 hx Bd.returns rfl (Or.inr (Or.inr (Or.inr (Or.inr ⟨rfl, rfl, rfl⟩)))) (hb hby D15_58) hr), hrun, hended, _, _, rfl, ?_, ⟨_, rfl⟩, hW, hsame.mono (by first | decide | exact Nat.le_of_ble_eq_true rfl) (by first | decide | exact Nat.le_of_ble_eq_true rfl)⟩
    show QC3 Z ([ch0] : List Int32) h0 n0 _ T5.heap _
    exact ⟨_, _, _, _, _, rfl, N5, K5, (Nat.le_trans K0.1 (Nat.le_of_eq g2.symm)), Vd5, Or.inl ⟨rfl, rfl, rfl, e2⟩⟩
  · have hi5 : i < 1 := hi
    rw [e1] at c6
    have c8 : SS p e below S0 (T5.setTop (mkF m 23 #[vr b, vi 0, vi 1, vr b2, vi (Int32.ofNat i), .unset] [(.int 1), (.int 0), (.ref b)])) := c6.trans (by
      show SS p e below (T5.setTop (mkF m 12 #[vr b, vi 0, vi 1, vr b2, .unset, .unset] [(.int (Int32.ofNat i))])) _
      refine XS.istore X5.here hx rfl (hb hby D15_12) rfl (l' := #[vr b, vi 0, vi 1, vr b2, vi (Int32.ofNat i), .unset]) rfl ?_
      refine XS.iload X5.here hx rfl (hb hby D15_14) rfl ?_
      refine XS.iloadN X5.here hx rfl (hb hby D15_16) rfl ?_
      refine XS.icmpNo X5.here hx rfl (hb hby D15_17) rfl (feq (fun q => absurd ((own_ofN_inj (a := i) (b := 1) (by omega) (by omega)).mp q) (by omega) : ¬ (Int32.ofNat i) = (1 : Int32))).1 ?_
      refine XS.aloadN X5.here hx rfl (hb hby D15_20) rfl rfl ?_
      refine XS.iloadN X5.here hx rfl (hb hby D15_21) rfl ?_
      refine XS.iloadN X5.here hx rfl (hb hby D15_22) rfl ?_
      exact Steps.refl _)
    obtain ⟨_, _, ⟨T9, L9, kk9, nn9⟩, -, X9, ⟨Lc9, hQ9, l9, y9, z9⟩, st9⟩ := Jvm.LawKit.callS X5 hx (y := (⟨"java/lang/StringUTF16", "toBytes", "([CII)[B"⟩ : MethodName)) hown (mvT hZ (ww hw 107 rfl)) (mvT hZ (ww hw 108 rfl)) (mvT hZ (ww hw 52 rfl)) (mvT hZ (ww hw 109 rfl)) (by decide) (backOf (W := 0) (rmTB_1 l Z a0 hw [] b kc ch0  T5.heap n0 z5 ((Vb.ext E2).keep Kq5 (ninS (Nat.ne_of_lt (Nat.lt_of_lt_of_le Vb.lt (Nat.le_of_eq g2.symm))) nin0)) sAD sHI sLO ((X00.ext E2).keep Kq5 (allS (Nat.le_trans Z0 (Nat.le_trans K0.1 (Nat.le_of_eq g2.symm))) all0))) hZ (ww hw 109 rfl) (ww hw 52 rfl) (by decide) (by decide)) (g := (mkF m 23 #[vr b, vi 0, vi 1, vr b2, vi (Int32.ofNat i), .unset] [(.int 1), (.int 0), (.ref b)])) rfl (by rw [hml]; rfl) (argsL := [(.ref b), (.int 0), (.int 1)]) (rest := []) (lenOf pd_oaCIIcaB rfl) rfl (by show 2 * 0 + _ ≤ _; exact Nat.le_of_eq rfl) (hb hby D15_23) (fun _ _ => ⟨rfl, rfl, (by decide : 1 + 1 ≤ _), (by decide : 1 + 2 ≤ _)⟩)
    dsimp only [Pt.U, Pt.locs, Pt.cells, Pt.slots] at X9 l9 y9 z9 st9 hQ9
    subst l9 y9 z9
    obtain ⟨t9, kb9, rfl, Nq9, Kq9, gt9, Vt9⟩ := hQ9
    have c10 : SS p e below S0 (T9.setTop (mkF m 26 #[vr b, vi 0, vi 1, vr b2, vi (Int32.ofNat i), .unset] [(.ref t9)])) := c8.trans (st9 _ (Steps.refl _))
    have N9 := Fr.app N5 Nq9
    have z9 : n0 ≤ T9.heap.size := Nat.le_trans z5 Kq9.1
    have K9 := K5.trans Kq9 all0
    have c11 : SS p e below S0 (T9.setTop (mkF m 32 #[vr b, vi 0, vi 1, vr b2, vi (Int32.ofNat i), vr t9] [(.int (Int32.ofNat i)), (.ref t9)])) := c10.trans (by
      show SS p e below (T9.setTop (mkF m 26 #[vr b, vi 0, vi 1, vr b2, vi (Int32.ofNat i), .unset] [(.ref t9)])) _
      refine XS.astore X9.here hx rfl (hb hby D15_26) rfl rfl (l' := #[vr b, vi 0, vi 1, vr b2, vi (Int32.ofNat i), vr t9]) rfl ?_
      refine XS.aload X9.here hx rfl (hb hby D15_28) rfl rfl ?_
      refine XS.iload X9.here hx rfl (hb hby D15_30) rfl ?_
      exact Steps.refl _)
    obtain ⟨_, _, ⟨T12, L12, kk12, nn12⟩, -, X12, ⟨Lc12, hQ12, l12, y12, z12⟩, st12⟩ := Jvm.LawKit.callS X9 hx (y := (⟨"java/lang/StringUTF16", "getChar", "([BI)C"⟩ : MethodName)) hown (mvT hZ (ww hw 123 rfl)) (mvT hZ (ww hw 124 rfl)) (mvT hZ (ww hw 52 rfl)) (mvT hZ (ww hw 125 rfl)) (by decide) (backOf (W := 0) (rmGC l Z a0 hw [] t9 kb9 ([ch0] : List Int32) i T9.heap n0 z9 Vt9 (own_alS hc0 own_al0) (Nat.le_of_ble_eq_true rfl) hi sAD sHI sLO (((X00.ext E2).keep Kq5 (allS (Nat.le_trans Z0 (Nat.le_trans K0.1 (Nat.le_of_eq g2.symm))) all0)).keep Kq9 all0)) hZ (ww hw 125 rfl) (ww hw 52 rfl) (by decide) (by decide)) (g := (mkF m 32 #[vr b, vi 0, vi 1, vr b2, vi (Int32.ofNat i), vr t9] [(.int (Int32.ofNat i)), (.ref t9)])) rfl (by rw [hml]; rfl) (argsL := [(.ref t9), (.int (Int32.ofNat i))]) (rest := []) (lenOf pd_oaBIcC rfl) rfl (by show 2 * 0 + _ ≤ _; exact Nat.le_of_eq rfl) (hb hby D15_32) (fun _ _ => ⟨rfl, rfl, (by decide : 2 + 0 ≤ _), (by decide : 3 + 0 ≤ _)⟩)
    dsimp only [Pt.U, Pt.locs, Pt.cells, Pt.slots] at X12 l12 y12 z12 st12 hQ12
    subst l12 y12 z12
    obtain ⟨rfl, Nq12, eq12⟩ := hQ12
    have c13 : SS p e below S0 (T12.setTop (mkF m 35 #[vr b, vi 0, vi 1, vr b2, vi (Int32.ofNat i), vr t9] [(.int (([ch0] : List Int32).getD i 0))])) := c11.trans (st12 _ (Steps.refl _))
    have N12 := Fr.app N9 Nq12
    have c14 : SS p e below S0 (T12.setTop (mkF m 56 #[vr b, vi 0, vi 1, vr b2, vi (Int32.ofNat i), vr t9] [(.ref t9)])) := c13.trans (by
      show SS p e below (T12.setTop (mkF m 35 #[vr b, vi 0, vi 1, vr b2, vi (Int32.ofNat i), vr t9] [(.int (([ch0] : List Int32).getD i 0))])) _
      refine XS.sipush X12.here hx rfl (hb hby D15_35) ?_
      refine XS.icmpYes X12.here hx rfl (pc0 := 38) (pc' := 54) rfl (hb hby D15_38) rfl (tlt hw1).2.2.1 (by decide) (by decide) ?_
      refine XS.aload X12.here hx rfl (hb hby D15_54) rfl rfl ?_
      exact Steps.refl _)
    obtain ⟨fs, hr, hrun, hended, hW, hsame⟩ := X12.leave (v := some (.ref t9)) (fun h => by rw [Bd.returns] at h; cases h)
    refine ⟨_, _, c14.trans (retOut X12 hx Bd.returns rfl (Or.inr (Or.inr (Or.inr (Or.inr ⟨rfl, rfl, rfl⟩)))) (hb hby D15_56) hr), hrun, hended, _, _, rfl, ?_, ⟨_, rfl⟩, hW, hsame.mono (by first | decide | exact Nat.le_of_ble_eq_true rfl) (by first | decide | exact Nat.le_of_ble_eq_true rfl)⟩
    show QC3 Z ([ch0] : List Int32) h0 n0 _ T12.heap _
    rw [eq12]
    exact ⟨_, _, _, _, _, rfl, N12, K9, (Nat.le_trans K5.1 gt9), Vt9, Or.inr ⟨rfl, rfl, rfl, _, own_gmem hi, hw1⟩⟩

theorem D16_0 : decode jdk_42_method_149_code 0 = .ok (.aload_n 0, 1) := by decide +kernel
theorem D16_1 : decode jdk_42_method_149_code 1 = .ok (.invokespecial 1, 3) := by decide +kernel
theorem D16_4 : decode jdk_42_method_149_code 4 = .ok (.iload_n 3, 1) := by decide +kernel
theorem D16_5 : decode jdk_42_method_149_code 5 = .ok (.ifCond .ne 22, 3) := by decide +kernel
theorem D16_27 : decode jdk_42_method_149_code 27 = .ok (.getstatic 38, 3) := by decide +kernel
theorem D16_30 : decode jdk_42_method_149_code 30 = .ok (.ifCond .eq 28, 3) := by decide +kernel
theorem D16_33 : decode jdk_42_method_149_code 33 = .ok (.aload_n 1, 1) := by decide +kernel
theorem D16_34 : decode jdk_42_method_149_code 34 = .ok (.iload_n 2, 1) := by decide +kernel
theorem D16_35 : decode jdk_42_method_149_code 35 = .ok (.iload_n 3, 1) := by decide +kernel
theorem D16_36 : decode jdk_42_method_149_code 36 = .ok (.invokestatic 177, 3) := by decide +kernel
theorem D16_39 : decode jdk_42_method_149_code 39 = .ok (.astore 5, 2) := by decide +kernel
theorem D16_41 : decode jdk_42_method_149_code 41 = .ok (.aload_n 0, 1) := by decide +kernel
theorem D16_42 : decode jdk_42_method_149_code 42 = .ok (.aload 5, 2) := by decide +kernel
theorem D16_44 : decode jdk_42_method_149_code 44 = .ok (.iload_n 3, 1) := by decide +kernel
theorem pd_oaBIcB : parseMethodDescriptor "([BI)B" = some ⟨[(.array .byte), .int], some .byte⟩ := by decide +kernel
theorem D16_45 : decode jdk_42_method_149_code 45 = .ok (.invokestatic 47, 3) := by decide +kernel
theorem D16_48 : decode jdk_42_method_149_code 48 = .ok (.putfield 15, 3) := by decide +kernel
theorem D16_51 : decode jdk_42_method_149_code 51 = .ok (.aload_n 0, 1) := by decide +kernel
theorem D16_52 : decode jdk_42_method_149_code 52 = .ok (.aload 5, 2) := by decide +kernel
theorem D16_54 : decode jdk_42_method_149_code 54 = .ok (.putfield 9, 3) := by decide +kernel
theorem D16_57 : decode jdk_42_method_149_code 57 = .ok (.return_, 1) := by decide +kernel
theorem ef_rmN4_1 (m : MethodId) (x0 : Addr) (x1 : Addr) (x2 : Int32) (x3 : Int32) : entryFrame m #[(.ref x0), (.ref x1), (.int x2), (.int x3), .null] 6 = mkF m 0 #[.val (.ref x0), .val (.ref x1), .val (.int x2), .val (.int x3), .val .null, .unset] [] := by first | (simp [entryFrame, mkF, argsToLocals, Value.category]; done) | rfl
set_option maxRecDepth 65536 in
set_option maxHeartbeats 40000000 in
theorem rmN4_1 (l : Launch) (Z : State) (a0 : Array Value) (hw : ∀ d ∈ tables_1, d.before a0 Z = true) (ws : List Jvm.Cond) (x : Addr) (b : Addr) (kc : ClassId) (ch0 : Int32) (G1 : Int32) (h0 : Heap) (n0 : Nat) (Z0 : n0 ≤ h0.size) (g_x : n0 ≤ x) (Ex : Exa Z h0 x "java/lang/String") (Fv : Fld Z h0 x "java/lang/String" "value" "[B" .null) (Fc : Fld Z h0 x "java/lang/String" "coder" "B" (.int 0)) (Vb : Arv Z h0 b kc .char (1 : Int32) [.int ch0] (.int 0)) (hc0 : C16 ch0) (sAD : Sta Z Z.heap "java/lang/StringUTF16" "$assertionsDisabled" "Z" (.int 1)) (sHI : Sta Z Z.heap "java/lang/StringUTF16" "HI_BYTE_SHIFT" "I" (.int 0)) (sLO : Sta Z Z.heap "java/lang/StringUTF16" "LO_BYTE_SHIFT" "I" (.int 8)) (O2 : Sta Z Z.heap "java/lang/String" "COMPACT_STRINGS" "Z" (.int G1)) (P5 : ¬ G1 = 0) (X00 : Old Z n0 h0) :
    MetFree l (⟨"java/lang/String", "<init>", "([CIILjava/lang/Void;)V"⟩ : MethodName) (head1 (Jvm.Cond.code (⟨"java/lang/String", "<init>", "([CIILjava/lang/Void;)V"⟩ : MethodName) jdk_42_method_149_code 6 (none) :: ws) ({ frames := 4, cells := 2, slots := 3, locals := 57 } : Room)) (fun aa U => aa = #[(.ref x), (.ref b), (.int 0), (.int 1), .null] ∧ Z.Warmed39 U.vm ∧ U.heap = h0) (fun _ _ _ _ _ => True) (fun _ U o U' => ∃ v L, o = .returned v ∧ QNw Z x ([ch0] : List Int32) h0 n0 v U'.heap L ∧ FrameEnd U o U' L ({ frames := 4, cells := 2, slots := 3, locals := 57 } : Room).cells ({ frames := 4, cells := 2, slots := 3, locals := 57 } : Room).slots) := by
  refine MetFree.of_bodySF (plainFor_of_name pn_java_lang_String) hisR ?_
  intro p e s m args below meth c s₁ Bd hml0 hP hK
  obtain ⟨rfl, hZ, hh⟩ := hP
  have hx := Bd.exec
  have hby := Bd.bytes
  have hml : c.maxLocals = 6 := hml0
  have hown : s.vm.findClass "java/lang/String" = some m.cls := findClass_of_methodNamed Bd.named
  have hnm := (name_of_methodNamed Bd.named Bd.method).1
  have X0 : Stand p l e ({ frames := 4, cells := 2, slots := 3, locals := 57 } : Room) s m #[(.ref x), (.ref b), (.int 0), (.int 1), .null] below meth c s₁ [] 0 0 := Stand.of_body Bd
  have e0 : s₁.heap = h0 := by rw [← hh, Bd.state]; rfl
  have N0 := Fr.nil n0
  have K0 := Keep.refl h0 [x]
  obtain ⟨S0, hS0⟩ : ∃ z, z = s₁.setTop (entryFrame m #[(.ref x), (.ref b), (.int 0), (.int 1), .null] 6) := ⟨_, rfl⟩
  rw [← hS0]
  have c0 : SS p e below S0 (s₁.setTop (mkF m 0 #[vr x, vr b, vi 0, vi 1, .val .null, .unset] [])) := by
    rw [hS0]; exact castTop (ef_rmN4_1 m x b (0 : Int32) (1 : Int32)) (Steps.refl _)
  have c1 : SS p e below S0 (s₁.setTop (mkF m 1 #[vr x, vr b, vi 0, vi 1, .val .null, .unset] [(.ref x)])) := c0.trans (by
    show SS p e below (s₁.setTop (mkF m 0 #[vr x, vr b, vi 0, vi 1, .val .null, .unset] [])) _
    refine XS.aloadN X0.here hx rfl (hb hby D16_0) rfl rfl ?_
    exact Steps.refl _)
  obtain ⟨T2, X2, e2, st2⟩ := initO X0 hx hZ hown (ww hw 18 rfl) (ww hw 19 rfl) (ww hw 20 rfl) e0 (g := (mkF m 1 #[vr x, vr b, vi 0, vi 1, .val .null, .unset] [(.ref x)])) rfl (by rw [hml]; rfl) rfl (hb hby D16_1) (by decide) (W := 0) (by show 2 * 0 + _ ≤ _; exact Nat.le_of_eq rfl) (by decide)
  have c3 : SS p e below S0 (T2.setTop (mkF m 4 #[vr x, vr b, vi 0, vi 1, .val .null, .unset] [])) := c1.trans (st2 _ (Steps.refl _))
  have c4 : SS p e below S0 (T2.setTop (mkF m 27 #[vr x, vr b, vi 0, vi 1, .val .null, .unset] [])) := c3.trans (by
    show SS p e below (T2.setTop (mkF m 4 #[vr x, vr b, vi 0, vi 1, .val .null, .unset] [])) _
    refine XS.iloadN X2.here hx rfl (hb hby D16_4) rfl ?_
    refine XS.ifYes X2.here hx rfl (pc0 := 5) (pc' := 27) rfl (hb hby D16_5) rfl ((if0 _ _).trans (feq (by decide : ¬ ((1 : Int32) = (0 : Int32)))).2) (by decide) (by decide) ?_
    exact Steps.refl _)
  obtain ⟨T5, X5, e5, st5⟩ := getS2 X2 hx hZ hown (host := "") (Or.inl (ww hw 49 rfl)) Via.refl e2 (O2.ext X00.2) (g := (mkF m 27 #[vr x, vr b, vi 0, vi 1, .val .null, .unset] [])) rfl (hb hby D16_27)
  have c6 : SS p e below S0 (T5.setTop (mkF m 30 #[vr x, vr b, vi 0, vi 1, .val .null, .unset] [(.int G1)])) := c4.trans (st5 _ (Steps.refl _))
  have c7 : SS p e below S0 (T5.setTop (mkF m 36 #[vr x, vr b, vi 0, vi 1, .val .null, .unset] [(.int 1), (.int 0), (.ref b)])) := c6.trans (by
    show SS p e below (T5.setTop (mkF m 30 #[vr x, vr b, vi 0, vi 1, .val .null, .unset] [(.int G1)])) _
    refine XS.ifNo X5.here hx rfl (hb hby D16_30) rfl ((if0 _ _).trans (feq P5).1) ?_
    refine XS.aloadN X5.here hx rfl (hb hby D16_33) rfl rfl ?_
    refine XS.iloadN X5.here hx rfl (hb hby D16_34) rfl ?_
    refine XS.iloadN X5.here hx rfl (hb hby D16_35) rfl ?_
    exact Steps.refl _)
  obtain ⟨_, _, ⟨T8, L8, kk8, nn8⟩, -, X8, ⟨Lc8, hQ8, l8, y8, z8⟩, st8⟩ := Jvm.LawKit.callS X5 hx (y := (⟨"java/lang/StringUTF16", "compress", "([CII)[B"⟩ : MethodName)) hown (mvT hZ (ww hw 50 rfl)) (mvT hZ (ww hw 51 rfl)) (mvT hZ (ww hw 52 rfl)) (mvT hZ (ww hw 53 rfl)) (by decide) (backOf (W := 0) (rmC3_1 l Z a0 hw [] b kc ch0  h0 n0 Z0 Vb hc0  sAD sHI sLO X00) hZ (ww hw 53 rfl) (ww hw 52 rfl) (by decide) (by decide)) (g := (mkF m 36 #[vr x, vr b, vi 0, vi 1, .val .null, .unset] [(.int 1), (.int 0), (.ref b)])) rfl (by rw [hml]; rfl) (argsL := [(.ref b), (.int 0), (.int 1)]) (rest := []) (lenOf pd_oaCIIcaB rfl) rfl (by show 2 * 0 + _ ≤ _; exact Nat.le_of_eq rfl) (hb hby D16_36) (fun _ _ => ⟨rfl, e5, (by decide : 0 + 2 ≤ _), (by decide : 0 + 3 ≤ _)⟩)
  dsimp only [Pt.U, Pt.locs, Pt.cells, Pt.slots] at X8 l8 y8 z8 st8 hQ8
  subst l8 y8 z8
  obtain ⟨t8, kb8, cd8, N28, vs8, rfl, Nq8, Kq8, gt8, Vt8, hcd8⟩ := hQ8
  have c9 : SS p e below S0 (T8.setTop (mkF m 39 #[vr x, vr b, vi 0, vi 1, .val .null, .unset] [(.ref t8)])) := c7.trans (st8 _ (Steps.refl _))
  have N8 := Fr.app N0 Nq8
  have z8 : n0 ≤ T8.heap.size := Nat.le_trans Z0 Kq8.1
  have K8 := K0.trans Kq8 all0
  have lt_t8 := Vt8.lt
  have hcd := hcd8
  rcases id hcd8 with ⟨e1, e2, e3, e4⟩ | ⟨e1, e2, e3, e4⟩
  · have e5 : N28 = (1 : Int32) := e2
    have Vy8 := Vt8
    rw [e5] at Vy8
    rw [e5, e1] at hcd
    have c10 : SS p e below S0 (T8.setTop (mkF m 45 #[vr x, vr b, vi 0, vi 1, .val .null, vr t8] [(.int 1), (.ref t8), (.ref x)])) := c9.trans (by
      show SS p e below (T8.setTop (mkF m 39 #[vr x, vr b, vi 0, vi 1, .val .null, .unset] [(.ref t8)])) _
      refine XS.astore X8.here hx rfl (hb hby D16_39) rfl rfl (l' := #[vr x, vr b, vi 0, vi 1, .val .null, vr t8]) rfl ?_
      refine XS.aloadN X8.here hx rfl (hb hby D16_41) rfl rfl ?_
      refine XS.aload X8.here hx rfl (hb hby D16_42) rfl rfl ?_
      refine XS.iloadN X8.here hx rfl (hb hby D16_44) rfl ?_
      exact Steps.refl _)
    obtain ⟨_, _, ⟨T11, L11, kk11, nn11⟩, -, X11, ⟨Lc11, hQ11, l11, y11, z11⟩, st11⟩ := Jvm.LawKit.callS X8 hx (y := (⟨"java/lang/StringUTF16", "coderFromArrayLen", "([BI)B"⟩ : MethodName)) hown (mvT hZ (ww hw 57 rfl)) (mvT hZ (ww hw 58 rfl)) (mvT hZ (ww hw 52 rfl)) (mvT hZ (ww hw 59 rfl)) (by decide) (backOf (W := 1) (rmCo l Z a0 hw [] t8 kb8 (1 : Int32) (1 : Int32) (0 : Int32) vs8 T8.heap n0 z8 Vy8 (by decide) rfl) hZ (ww hw 59 rfl) (ww hw 52 rfl) (by decide) (by decide)) (g := (mkF m 45 #[vr x, vr b, vi 0, vi 1, .val .null, vr t8] [(.int 1), (.ref t8), (.ref x)])) rfl (by rw [hml]; rfl) (argsL := [(.ref t8), (.int 1)]) (rest := [(.ref x)]) (lenOf pd_oaBIcB rfl) rfl (by show 2 * 0 + _ ≤ _; exact Nat.le_of_eq rfl) (hb hby D16_45) (fun _ _ => ⟨rfl, rfl, (by decide : 2 + 0 ≤ _), (by decide : 3 + 0 ≤ _)⟩)
    dsimp only [Pt.U, Pt.locs, Pt.cells, Pt.slots] at X11 l11 y11 z11 st11 hQ11
    subst l11 y11 z11
    obtain ⟨rfl, Nq11, eq11⟩ := hQ11
    have c12 : SS p e below S0 (T11.setTop (mkF m 48 #[vr x, vr b, vi 0, vi 1, .val .null, vr t8] [(.int 0), (.ref x)])) := c10.trans (st11 _ (Steps.refl _))
    have N11 := Fr.app N8 Nq11
    obtain ⟨T13, h13, X13, e13, W13, st13⟩ := putFN X11 hx hZ hown (ww hw 28 rfl) Via.refl eq11 (Fc.keep Kq8 nin0) (Ex.keep Kq8) (Or.inr ⟨(ww hw 24 rfl), rfl, hnm⟩) (ww hw 9 rfl) (ty := .byte) (v' := (.int 0)) (by decide) rfl rfl (g := (mkF m 48 #[vr x, vr b, vi 0, vi 1, .val .null, vr t8] [(.int 0), (.ref x)])) rfl rfl (hb hby D16_48)
    have c14 : SS p e below S0 (T13.setTop (mkF m 51 #[vr x, vr b, vi 0, vi 1, .val .null, vr t8] [])) := c12.trans (st13 _ (Steps.refl _))
    have N13 := Fr.snoc X13 N11 g_x
    have Fw13 := (Fc.keep Kq8 nin0).same W13
    have z13 : n0 ≤ h13.size := Nat.le_trans z8 (Keep.of_wr W13).1
    have K13 := K8.wr W13 (Or.inl (by simp))
    have c15 : SS p e below S0 (T13.setTop (mkF m 54 #[vr x, vr b, vi 0, vi 1, .val .null, vr t8] [(.ref t8), (.ref x)])) := c14.trans (by
      show SS p e below (T13.setTop (mkF m 51 #[vr x, vr b, vi 0, vi 1, .val .null, vr t8] [])) _
      refine XS.aloadN X13.here hx rfl (hb hby D16_51) rfl rfl ?_
      refine XS.aload X13.here hx rfl (hb hby D16_52) rfl rfl ?_
      exact Steps.refl _)
    obtain ⟨T16, h16, X16, e16, W16, st16⟩ := putF X13 hx hZ hown (host := "") (Or.inl (ww hw 27 rfl)) Via.refl e13 ((Fv.keep Kq8 nin0).other W13 (Or.inr (slot_ne (Or.inr (ww hw 23 rfl)) (Or.inr (ww hw 24 rfl)) (by decide) (t := (.array .byte)) (t' := .byte) (by decide) (by decide)))) ((Ex.keep Kq8).wr W13) (Or.inr ⟨(ww hw 23 rfl), rfl, hnm⟩) (ww hw 9 rfl) (ty := (.array .byte)) (by decide) rfl rfl (g := (mkF m 54 #[vr x, vr b, vi 0, vi 1, .val .null, vr t8] [(.ref t8), (.ref x)])) rfl rfl (hb hby D16_54)
    have c17 : SS p e below S0 (T16.setTop (mkF m 57 #[vr x, vr b, vi 0, vi 1, .val .null, vr t8] [])) := c15.trans (st16 _ (Steps.refl _))
    have N16 := Fr.snoc X16 N13 g_x
    have Fw16 := ((Fv.keep Kq8 nin0).other W13 (Or.inr (slot_ne (Or.inr (ww hw 23 rfl)) (Or.inr (ww hw 24 rfl)) (by decide) (t := (.array .byte)) (t' := .byte) (by decide) (by decide)))).same W16
    have z16 : n0 ≤ h16.size := Nat.le_trans z13 (Keep.of_wr W16).1
    have K16 := K13.wr W16 (Or.inl (by simp))
    obtain ⟨fs, hr, hrun, hended, hW, hsame⟩ := X16.leave (v := none) (fun h => rfl)
    refine ⟨_, _, c17.trans (X16.returnOut hx Bd.returns (hb hby D16_57) hr), hrun, hended, _, _, rfl, ?_, ⟨_, rfl⟩, hW, hsame.mono (by first | decide | exact Nat.le_of_ble_eq_true rfl) (by first | decide | exact Nat.le_of_ble_eq_true rfl)⟩
    show QNw Z x ([ch0] : List Int32) h0 n0 _ T16.heap _
    rw [e16]
    exact ⟨_, _, _, _, _, rfl, N16, K16, (((Ex.keep Kq8).wr W13).wr W16), Fw16, (Fw13.other W16 (Or.inr (slot_ne (Or.inr (ww hw 24 rfl)) (Or.inr (ww hw 23 rfl)) (by decide) (t := .byte) (t' := (.array .byte)) (by decide) (by decide)))), ((Vy8.other W13 (Ne.symm (Nat.ne_of_lt (Nat.lt_of_lt_of_le Ex.lt gt8)))).other W16 (Ne.symm (Nat.ne_of_lt (Nat.lt_of_lt_of_le Ex.lt gt8)))), hcd, (own_alS hc0 own_al0), Nat.le_of_ble_eq_true rfl⟩
  · have e5 : N28 = (2 : Int32) := e2
    have Vy8 := Vt8
    rw [e5] at Vy8
    rw [e5, e1] at hcd
    have c18 : SS p e below S0 (T8.setTop (mkF m 45 #[vr x, vr b, vi 0, vi 1, .val .null, vr t8] [(.int 1), (.ref t8), (.ref x)])) := c9.trans (by
      show SS p e below (T8.setTop (mkF m 39 #[vr x, vr b, vi 0, vi 1, .val .null, .unset] [(.ref t8)])) _
      refine XS.astore X8.here hx rfl (hb hby D16_39) rfl rfl (l' := #[vr x, vr b, vi 0, vi 1, .val .null, vr t8]) rfl ?_
      refine XS.aloadN X8.here hx rfl (hb hby D16_41) rfl rfl ?_
      refine XS.aload X8.here hx rfl (hb hby D16_42) rfl rfl ?_
      refine XS.iloadN X8.here hx rfl (hb hby D16_44) rfl ?_
      exact Steps.refl _)
    obtain ⟨_, _, ⟨T19, L19, kk19, nn19⟩, -, X19, ⟨Lc19, hQ19, l19, y19, z19⟩, st19⟩ := Jvm.LawKit.callS X8 hx (y := (⟨"java/lang/StringUTF16", "coderFromArrayLen", "([BI)B"⟩ : MethodName)) hown (mvT hZ (ww hw 57 rfl)) (mvT hZ (ww hw 58 rfl)) (mvT hZ (ww hw 52 rfl)) (mvT hZ (ww hw 59 rfl)) (by decide) (backOf (W := 1) (rmCo l Z a0 hw [] t8 kb8 (1 : Int32) (2 : Int32) (1 : Int32) vs8 T8.heap n0 z8 Vy8 (by decide) rfl) hZ (ww hw 59 rfl) (ww hw 52 rfl) (by decide) (by decide)) (g := (mkF m 45 #[vr x, vr b, vi 0, vi 1, .val .null, vr t8] [(.int 1), (.ref t8), (.ref x)])) rfl (by rw [hml]; rfl) (argsL := [(.ref t8), (.int 1)]) (rest := [(.ref x)]) (lenOf pd_oaBIcB rfl) rfl (by show 2 * 0 + _ ≤ _; exact Nat.le_of_eq rfl) (hb hby D16_45) (fun _ _ => ⟨rfl, rfl, (by decide : 2 + 0 ≤ _), (by decide : 3 + 0 ≤ _)⟩)
    dsimp only [Pt.U, Pt.locs, Pt.cells, Pt.slots] at X19 l19 y19 z19 st19 hQ19
    subst l19 y19 z19
    obtain ⟨rfl, Nq19, eq19⟩ := hQ19
    have c20 : SS p e below S0 (T19.setTop (mkF m 48 #[vr x, vr b, vi 0, vi 1, .val .null, vr t8] [(.int 1), (.ref x)])) := c18.trans (st19 _ (Steps.refl _))
    have N19 := Fr.app N8 Nq19
    obtain ⟨T21, h21, X21, e21, W21, st21⟩ := putFN X19 hx hZ hown (ww hw 28 rfl) Via.refl eq19 (Fc.keep Kq8 nin0) (Ex.keep Kq8) (Or.inr ⟨(ww hw 24 rfl), rfl, hnm⟩) (ww hw 9 rfl) (ty := .byte) (v' := (.int 1)) (by decide) rfl rfl (g := (mkF m 48 #[vr x, vr b, vi 0, vi 1, .val .null, vr t8] [(.int 1), (.ref x)])) rfl rfl (hb hby D16_48)
    have c22 : SS p e below S0 (T21.setTop (mkF m 51 #[vr x, vr b, vi 0, vi 1, .val .null, vr t8] [])) := c20.trans (st21 _ (Steps.refl _))
    have N21 := Fr.snoc X21 N19 g_x
    have Fw21 := (Fc.keep Kq8 nin0).same W21
    have z21 : n0 ≤ h21.size := Nat.le_trans z8 (Keep.of_wr W21).1
    have K21 := K8.wr W21 (Or.inl (by simp))
    have c23 : SS p e below S0 (T21.setTop (mkF m 54 #[vr x, vr b, vi 0, vi 1, .val .null, vr t8] [(.ref t8), (.ref x)])) := c22.trans (by
      show SS p e below (T21.setTop (mkF m 51 #[vr x, vr b, vi 0, vi 1, .val .null, vr t8] [])) _
      refine XS.aloadN X21.here hx rfl (hb hby D16_51) rfl rfl ?_
      refine XS.aload X21.here hx rfl (hb hby D16_52) rfl rfl ?_
      exact Steps.refl _)
    obtain ⟨T24, h24, X24, e24, W24, st24⟩ := putF X21 hx hZ hown (host := "") (Or.inl (ww hw 27 rfl)) Via.refl e21 ((Fv.keep Kq8 nin0).other W21 (Or.inr (slot_ne (Or.inr (ww hw 23 rfl)) (Or.inr (ww hw 24 rfl)) (by decide) (t := (.array .byte)) (t' := .byte) (by decide) (by decide)))) ((Ex.keep Kq8).wr W21) (Or.inr ⟨(ww hw 23 rfl), rfl, hnm⟩) (ww hw 9 rfl) (ty := (.array .byte)) (by decide) rfl rfl (g := (mkF m 54 #[vr x, vr b, vi 0, vi 1, .val .null, vr t8] [(.ref t8), (.ref x)])) rfl rfl (hb hby D16_54)
    have c25 : SS p e below S0 (T24.setTop (mkF m 57 #[vr x, vr b, vi 0, vi 1, .val .null, vr t8] [])) := c23.trans (st24 _ (Steps.refl _))
    have N24 := Fr.snoc X24 N21 g_x
    have Fw24 := ((Fv.keep Kq8 nin0).other W21 (Or.inr (slot_ne (Or.inr (ww hw 23 rfl)) (Or.inr (ww hw 24 rfl)) (by decide) (t := (.array .byte)) (t' := .byte) (by decide) (by decide)))).same W24
    have z24 : n0 ≤ h24.size := Nat.le_trans z21 (Keep.of_wr W24).1
    have K24 := K21.wr W24 (Or.inl (by simp))
    obtain ⟨fs, hr, hrun, hended, hW, hsame⟩ := X24.leave (v := none) (fun h => rfl)
    refine ⟨_, _, c25.trans (X24.returnOut hx Bd.returns (hb hby D16_57) hr), hrun, hended, _, _, rfl, ?_, ⟨_, rfl⟩, hW, hsame.mono (by first | decide | exact Nat.le_of_ble_eq_true rfl) (by first | decide | exact Nat.le_of_ble_eq_true rfl)⟩
    show QNw Z x ([ch0] : List Int32) h0 n0 _ T24.heap _
    rw [e24]
    exact ⟨_, _, _, _, _, rfl, N24, K24, (((Ex.keep Kq8).wr W21).wr W24), Fw24, (Fw21.other W24 (Or.inr (slot_ne (Or.inr (ww hw 24 rfl)) (Or.inr (ww hw 23 rfl)) (by decide) (t := .byte) (t' := (.array .byte)) (by decide) (by decide)))), ((Vy8.other W21 (Ne.symm (Nat.ne_of_lt (Nat.lt_of_lt_of_le Ex.lt gt8)))).other W24 (Ne.symm (Nat.ne_of_lt (Nat.lt_of_lt_of_le Ex.lt gt8)))), hcd, (own_alS hc0 own_al0), Nat.le_of_ble_eq_true rfl⟩

theorem D17_0 : decode jdk_42_method_3_code 0 = .ok (.aload_n 0, 1) := by decide +kernel
theorem D17_1 : decode jdk_42_method_3_code 1 = .ok (.aload_n 1, 1) := by decide +kernel
theorem D17_2 : decode jdk_42_method_3_code 2 = .ok (.iconst 0, 1) := by decide +kernel
theorem D17_3 : decode jdk_42_method_3_code 3 = .ok (.aload_n 1, 1) := by decide +kernel
theorem D17_4 : decode jdk_42_method_3_code 4 = .ok (.arraylength, 1) := by decide +kernel
theorem D17_5 : decode jdk_42_method_3_code 5 = .ok (.aconst_null, 1) := by decide +kernel
theorem pd_oaCIILjavaslangsVoidecV : parseMethodDescriptor "([CIILjava/lang/Void;)V" = some ⟨[(.array .char), .int, .int, (.object "java/lang/Void")], none⟩ := by decide +kernel
theorem D17_6 : decode jdk_42_method_3_code 6 = .ok (.invokespecial 27, 3) := by decide +kernel
theorem D17_9 : decode jdk_42_method_3_code 9 = .ok (.return_, 1) := by decide +kernel
theorem ef_rmN1_1 (m : MethodId) (x0 : Addr) (x1 : Addr) : entryFrame m #[(.ref x0), (.ref x1)] 2 = mkF m 0 #[.val (.ref x0), .val (.ref x1)] [] := by first | (simp [entryFrame, mkF, argsToLocals, Value.category]; done) | rfl
set_option maxRecDepth 65536 in
set_option maxHeartbeats 40000000 in
theorem rmN1_1 (l : Launch) (Z : State) (a0 : Array Value) (hw : ∀ d ∈ tables_1, d.before a0 Z = true) (ws : List Jvm.Cond) (x : Addr) (b : Addr) (kc : ClassId) (ch0 : Int32) (G1 : Int32) (h0 : Heap) (n0 : Nat) (Z0 : n0 ≤ h0.size) (g_x : n0 ≤ x) (Ex : Exa Z h0 x "java/lang/String") (Fv : Fld Z h0 x "java/lang/String" "value" "[B" .null) (Fc : Fld Z h0 x "java/lang/String" "coder" "B" (.int 0)) (Vb : Arv Z h0 b kc .char (1 : Int32) [.int ch0] (.int 0)) (hc0 : C16 ch0) (sAD : Sta Z Z.heap "java/lang/StringUTF16" "$assertionsDisabled" "Z" (.int 1)) (sHI : Sta Z Z.heap "java/lang/StringUTF16" "HI_BYTE_SHIFT" "I" (.int 0)) (sLO : Sta Z Z.heap "java/lang/StringUTF16" "LO_BYTE_SHIFT" "I" (.int 8)) (O2 : Sta Z Z.heap "java/lang/String" "COMPACT_STRINGS" "Z" (.int G1)) (P5 : ¬ G1 = 0) (X00 : Old Z n0 h0) :
    MetFree l (⟨"java/lang/String", "<init>", "([C)V"⟩ : MethodName) (head1 (Jvm.Cond.code (⟨"java/lang/String", "<init>", "([C)V"⟩ : MethodName) jdk_42_method_3_code 2 (none) :: ws) ({ frames := 5, cells := 2, slots := 3, locals := 74 } : Room)) (fun aa U => aa = #[(.ref x), (.ref b)] ∧ Z.Warmed39 U.vm ∧ U.heap = h0) (fun _ _ _ _ _ => True) (fun _ U o U' => ∃ v L, o = .returned v ∧ QNw Z x ([ch0] : List Int32) h0 n0 v U'.heap L ∧ FrameEnd U o U' L ({ frames := 5, cells := 2, slots := 3, locals := 74 } : Room).cells ({ frames := 5, cells := 2, slots := 3, locals := 74 } : Room).slots) := by
  refine MetFree.of_bodySF (plainFor_of_name pn_java_lang_String) hisR ?_
  intro p e s m args below meth c s₁ Bd hml0 hP hK
  obtain ⟨rfl, hZ, hh⟩ := hP
  have hx := Bd.exec
  have hby := Bd.bytes
  have hml : c.maxLocals = 2 := hml0
  have hown : s.vm.findClass "java/lang/String" = some m.cls := findClass_of_methodNamed Bd.named
  have hnm := (name_of_methodNamed Bd.named Bd.method).1
  have X0 : Stand p l e ({ frames := 5, cells := 2, slots := 3, locals := 74 } : Room) s m #[(.ref x), (.ref b)] below meth c s₁ [] 0 0 := Stand.of_body Bd
  have e0 : s₁.heap = h0 := by rw [← hh, Bd.state]; rfl
  have N0 := Fr.nil n0
  have K0 := Keep.refl h0 [x]
  obtain ⟨S0, hS0⟩ : ∃ z, z = s₁.setTop (entryFrame m #[(.ref x), (.ref b)] 2) := ⟨_, rfl⟩
  rw [← hS0]
  have c0 : SS p e below S0 (s₁.setTop (mkF m 0 #[vr x, vr b] [])) := by
    rw [hS0]; exact castTop (ef_rmN1_1 m x b) (Steps.refl _)
  have c1 : SS p e below S0 (s₁.setTop (mkF m 4 #[vr x, vr b] [(.ref b), (.int 0), (.ref b), (.ref x)])) := c0.trans (by
    show SS p e below (s₁.setTop (mkF m 0 #[vr x, vr b] [])) _
    refine XS.aloadN X0.here hx rfl (hb hby D17_0) rfl rfl ?_
    refine XS.aloadN X0.here hx rfl (hb hby D17_1) rfl rfl ?_
    refine XS.iconst X0.here hx rfl (hb hby D17_2) ?_
    refine XS.aloadN X0.here hx rfl (hb hby D17_3) rfl rfl ?_
    exact Steps.refl _)
  obtain ⟨cl2, Ar2, -, S2, Nn2, -, -⟩ := id Vb
  have c3 : SS p e below S0 (s₁.setTop (mkF m 6 #[vr x, vr b] [.null, (.int 1), (.int 0), (.ref b), (.ref x)])) := c1.trans (by
    show SS p e below (s₁.setTop (mkF m 4 #[vr x, vr b] [(.ref b), (.int 0), (.ref b), (.ref x)])) _
    refine X0.arraylength hx (by rw [e0]; exact Ar2.1) (State.isArrayOf_alike hZ.alike Ar2.2.1) (g := (mkF m 4 #[vr x, vr b] [(.ref b), (.int 0), (.ref b), (.ref x)])) rfl rfl (hb hby D17_4) _ ?_
    rw [len_of S2 Nn2]
    refine XS.aconstNull X0.here hx rfl (hb hby D17_5) ?_
    exact Steps.refl _)
  obtain ⟨_, _, ⟨T4, L4, kk4, nn4⟩, -, X4, ⟨Lc4, hQ4, l4, y4, z4⟩, st4⟩ := X0.specialBack hx (y := (⟨"java/lang/String", "<init>", "([CIILjava/lang/Void;)V"⟩ : MethodName)) rfl hown (mvT hZ (ww hw 14 rfl)) (mvT hZ (ww hw 15 rfl)) (mvT hZ (ww hw 17 rfl)) (by decide) (backOf (W := 0) (rmN4_1 l Z a0 hw [] x b kc ch0  G1 h0 n0 Z0 g_x Ex Fv Fc Vb hc0  sAD sHI sLO O2 P5 X00) hZ (ww hw 17 rfl) (ww hw 10 rfl) (by decide) (by decide)) (g := (mkF m 6 #[vr x, vr b] [.null, (.int 1), (.int 0), (.ref b), (.ref x)])) rfl (by rw [hml]; rfl) (Steps.refl _) (a := x) (argsL := [(.ref b), (.int 0), (.int 1), .null]) (rest := []) (lenOf pd_oaCIILjavaslangsVoidecV rfl) rfl (by show 2 * 0 + _ ≤ _; exact Nat.le_of_eq rfl) (hb hby D17_6) (fun _ _ => ⟨rfl, e0, (by decide : 0 + 2 ≤ _), (by decide : 0 + 3 ≤ _)⟩)
  dsimp only [Pt.U, Pt.locs, Pt.cells, Pt.slots] at X4 l4 y4 z4 st4 hQ4
  subst l4 y4 z4
  obtain ⟨t4, kb4, cd4, N24, vs4, rfl, Nq4, Kq4, Sg4⟩ := hQ4
  have c5 : SS p e below S0 (T4.setTop (mkF m 9 #[vr x, vr b] [])) := c3.trans (st4)
  have N4 := Fr.app N0 Nq4
  have z4 : n0 ≤ T4.heap.size := Nat.le_trans Z0 Kq4.1
  have K4 := K0.trans Kq4 (allS (Or.inl (by simp)) all0)
  obtain ⟨fs, hr, hrun, hended, hW, hsame⟩ := X4.leave (v := none) (fun h => rfl)
  refine ⟨_, _, c5.trans (X4.returnOut hx Bd.returns (hb hby D17_9) hr), hrun, hended, _, _, rfl, ?_, ⟨_, rfl⟩, hW, hsame.mono (by first | decide | exact Nat.le_of_ble_eq_true rfl) (by first | decide | exact Nat.le_of_ble_eq_true rfl)⟩
  show QNw Z x ([ch0] : List Int32) h0 n0 _ T4.heap _
  exact ⟨_, _, _, _, _, rfl, N4, K4, Sg4⟩

theorem ef_rmC5_2 (m : MethodId) (x0 : Addr) (x1 : Int32) (x2 : Addr) (x3 : Int32) (x4 : Int32) : entryFrame m #[(.ref x0), (.int x1), (.ref x2), (.int x3), (.int x4)] 7 = mkF m 0 #[.val (.ref x0), .val (.int x1), .val (.ref x2), .val (.int x3), .val (.int x4), .unset, .unset] [] := by first | (simp [entryFrame, mkF, argsToLocals, Value.category]; done) | rfl
set_option maxRecDepth 65536 in
set_option maxHeartbeats 40000000 in
theorem rmC5_2 (l : Launch) (Z : State) (a0 : Array Value) (hw : ∀ d ∈ tables_1, d.before a0 Z = true) (ws : List Jvm.Cond) (d : Addr) (kd : ClassId) (b : Addr) (kc : ClassId) (ch0 ch1 : Int32)  (h0 : Heap) (n0 : Nat) (Z0 : n0 ≤ h0.size) (g_d : n0 ≤ d) (hbd : b ≠ d) (Vd : Arv Z h0 d kd .byte (2 : Int32) [.int (0 : Int32), .int (0 : Int32)] (.int 0)) (Vb : Arv Z h0 b kc .char (2 : Int32) [.int ch0, .int ch1] (.int 0)) (hc0 : C16 ch0) (hc1 : C16 ch1)  :
    MetFree l (⟨"java/lang/StringUTF16", "compress", "([CI[BII)I"⟩ : MethodName) (head1 (Jvm.Cond.code (⟨"java/lang/StringUTF16", "compress", "([CI[BII)I"⟩ : MethodName) jdk_52_method_21_code 7 (some .int) :: ws) ({ frames := 0, cells := 0, slots := 0, locals := 0 } : Room)) (fun aa U => aa = #[(.ref b), (.int 0), (.ref d), (.int 0), (.int 2)] ∧ Z.Warmed39 U.vm ∧ U.heap = h0) (fun _ _ _ _ _ => True) (fun _ U o U' => ∃ v L, o = .returned v ∧ Q5 Z ([ch0, ch1] : List Int32) d kd h0 n0 v U'.heap L ∧ FrameEnd U o U' L ({ frames := 0, cells := 0, slots := 0, locals := 0 } : Room).cells ({ frames := 0, cells := 0, slots := 0, locals := 0 } : Room).slots) := by
  refine MetFree.of_bodySF (plainFor_of_name pn_java_lang_StringUTF16) hisR ?_
  intro p e s m args below meth c s₁ Bd hml0 hP hK
  obtain ⟨rfl, hZ, hh⟩ := hP
  have hx := Bd.exec
  have hby := Bd.bytes
  have hml : c.maxLocals = 7 := hml0
  have hown : s.vm.findClass "java/lang/StringUTF16" = some m.cls := findClass_of_methodNamed Bd.named
  have hnm := (name_of_methodNamed Bd.named Bd.method).1
  have X0 : Stand p l e ({ frames := 0, cells := 0, slots := 0, locals := 0 } : Room) s m #[(.ref b), (.int 0), (.ref d), (.int 0), (.int 2)] below meth c s₁ [] 0 0 := Stand.of_body Bd
  have e0 : s₁.heap = h0 := by rw [← hh, Bd.state]; rfl
  have N0 := Fr.nil n0
  have K0 := Keep.refl h0 [d]
  obtain ⟨S0, hS0⟩ : ∃ z, z = s₁.setTop (entryFrame m #[(.ref b), (.int 0), (.ref d), (.int 0), (.int 2)] 7) := ⟨_, rfl⟩
  rw [← hS0]
  have c0 : SS p e below S0 (s₁.setTop (mkF m 0 #[vr b, vi 0, vr d, vi 0, vi 2, .unset, .unset] [])) := by
    rw [hS0]; exact castTop (ef_rmC5_2 m b (0 : Int32) d (0 : Int32) (2 : Int32)) (Steps.refl _)
  have c1 : SS p e below S0 (s₁.setTop (mkF m 12 #[vr b, vi 0, vr d, vi 0, vi 2, vi 0, .unset] [(.int 0), (.ref b)])) := c0.trans (by
    show SS p e below (s₁.setTop (mkF m 0 #[vr b, vi 0, vr d, vi 0, vi 2, .unset, .unset] [])) _
    refine XS.iconst X0.here hx rfl (hb hby D12_0) ?_
    refine XS.istore X0.here hx rfl (hb hby D12_1) rfl (l' := #[vr b, vi 0, vr d, vi 0, vi 2, vi 0, .unset]) rfl ?_
    refine XS.iload X0.here hx rfl (hb hby D12_3) rfl ?_
    refine XS.iload X0.here hx rfl (hb hby D12_5) rfl ?_
    refine XS.icmpNo X0.here hx rfl (hb hby D12_7) rfl (tlt (by decide : ((0 : Int32) < (2 : Int32)))).2.1 ?_
    refine XS.aloadN X0.here hx rfl (hb hby D12_10) rfl rfl ?_
    refine XS.iloadN X0.here hx rfl (hb hby D12_11) rfl ?_
    exact Steps.refl _)
  obtain ⟨cl2, Ar2, -, S2, -, Ha2, -⟩ := id Vb
  have c3 : SS p e below S0 (s₁.setTop (mkF m 20 #[vr b, vi 0, vr d, vi 0, vi 2, vi 0, vi ch0] [(.int 255), (.int ch0)])) := c1.trans (by
    show SS p e below (s₁.setTop (mkF m 12 #[vr b, vi 0, vr d, vi 0, vi 2, vi 0, .unset] [(.int 0), (.ref b)])) _
    refine X0.caload hx (j := (0 : Int32)) (v := (.int ch0)) (by rw [e0]; exact Ar2.1) (State.isArrayOf_alike hZ.alike Ar2.2.1) Ar2.2.2 (inb_of S2 ⟨by decide, by decide⟩) (Ha2.at (inb_of S2 ⟨by decide, by decide⟩) rfl) (g := (mkF m 12 #[vr b, vi 0, vr d, vi 0, vi 2, vi 0, .unset] [(.int 0), (.ref b)])) rfl rfl (hb hby D12_12) _ ?_
    refine XS.istore X0.here hx rfl (hb hby D12_13) rfl (l' := #[vr b, vi 0, vr d, vi 0, vi 2, vi 0, vi ch0]) rfl ?_
    refine XS.iload X0.here hx rfl (hb hby D12_15) rfl ?_
    refine XS.sipush X0.here hx rfl (hb hby D12_17) ?_
    exact Steps.refl _)
  by_cases hq4 : (255 : Int32) < ch0
  · have c5 : SS p e below S0 (s₁.setTop (mkF m 25 #[vr b, vi 0, vr d, vi 0, vi 2, vi 0, vi ch0] [(.int 0)])) := c3.trans (by
      show SS p e below (s₁.setTop (mkF m 20 #[vr b, vi 0, vr d, vi 0, vi 2, vi 0, vi ch0] [(.int 255), (.int ch0)])) _
      refine XS.icmpNo X0.here hx rfl (hb hby D12_20) rfl (tlt hq4).2.2.2 ?_
      refine XS.iload X0.here hx rfl (hb hby D12_23) rfl ?_
      exact Steps.refl _)
    obtain ⟨fs, hr, hrun, hended, hW, hsame⟩ := X0.leave (v := some (.int 0)) (fun h => by rw [Bd.returns] at h; cases h)
    refine ⟨_, _, c5.trans (retOut X0 hx Bd.returns rfl (Or.inl ⟨rfl, by simp, _, rfl⟩) (hb hby D12_25) hr), hrun, hended, _, _, rfl, ?_, ⟨_, rfl⟩, hW, hsame.mono (by first | decide | exact Nat.le_of_ble_eq_true rfl) (by first | decide | exact Nat.le_of_ble_eq_true rfl)⟩
    show Q5 Z ([ch0, ch1] : List Int32) d kd h0 n0 _ s₁.heap _
    rw [e0]
    exact ⟨_, rfl, N0, K0, Or.inr ⟨0, Nat.le_of_ble_eq_true rfl, rfl, hq4⟩⟩
  · have c6 : SS p e below S0 (s₁.setTop (mkF m 31 #[vr b, vi 0, vr d, vi 0, vi 2, vi 0, vi ch0] [(.int (ch0.toInt8.toInt32)), (.int 0), (.ref d)])) := c3.trans (by
      show SS p e below (s₁.setTop (mkF m 20 #[vr b, vi 0, vr d, vi 0, vi 2, vi 0, vi ch0] [(.int 255), (.int ch0)])) _
      refine XS.icmpYes X0.here hx rfl (pc0 := 20) (pc' := 26) rfl (hb hby D12_20) rfl (flt hq4).2.2.2 (by decide) (by decide) ?_
      refine XS.aloadN X0.here hx rfl (hb hby D12_26) rfl rfl ?_
      refine XS.iloadN X0.here hx rfl (hb hby D12_27) rfl ?_
      refine XS.iload X0.here hx rfl (hb hby D12_28) rfl ?_
      refine XS.i2b X0.here hx rfl (hb hby D12_30) rfl ?_
      exact Steps.refl _)
    obtain ⟨cl7, Ar7, q7, S7, Nn7, Ha7, G7⟩ := id Vd
    obtain ⟨T7, h7, X7, e7, W7, st7⟩ := stB X0 hx hZ e0 Ar7 (j := (0 : Int32)) (inb_of S7 ⟨by decide, by decide⟩) (g := (mkF m 31 #[vr b, vi 0, vr d, vi 0, vi 2, vi 0, vi ch0] [(.int (ch0.toInt8.toInt32)), (.int 0), (.ref d)])) rfl rfl (hb hby D12_31)
    have V7 : Arv Z h7 d kd .byte (2 : Int32) [(.int ((ch0.toInt8.toInt32).toInt8.toInt32)), (.int 0)] (.int 0) := Arv.set Ar7 q7 S7 Nn7 Ha7 G7 (fits_nar_byte _) W7 0 rfl (Nat.le_of_ble_eq_true rfl)
    have c8 : SS p e below S0 (T7.setTop (mkF m 32 #[vr b, vi 0, vr d, vi 0, vi 2, vi 0, vi ch0] [])) := c6.trans (st7 _ (Steps.refl _))
    have N7 := Fr.snoc X7 N0 g_d
    have z7 : n0 ≤ h7.size := Nat.le_trans Z0 (Keep.of_wr W7).1
    have K7 := K0.wr W7 (Or.inl (by simp))
    have c9 : SS p e below S0 (T7.setTop (mkF m 12 #[vr b, vi 1, vr d, vi 1, vi 2, vi 1, vi ch0] [(.int 1), (.ref b)])) := c8.trans (by
      show SS p e below (T7.setTop (mkF m 32 #[vr b, vi 0, vr d, vi 0, vi 2, vi 0, vi ch0] [])) _
      refine XS.iinc X7.here hx rfl (hb hby D12_32) rfl (l' := #[vr b, vi 1, vr d, vi 0, vi 2, vi 0, vi ch0]) rfl ?_
      refine XS.iinc X7.here hx rfl (hb hby D12_35) rfl (l' := #[vr b, vi 1, vr d, vi 1, vi 2, vi 0, vi ch0]) rfl ?_
      refine XS.iinc X7.here hx rfl (hb hby D12_38) rfl (l' := #[vr b, vi 1, vr d, vi 1, vi 2, vi 1, vi ch0]) rfl ?_
      refine XS.goto X7.here hx rfl (pc0 := 41) (pc' := 3) rfl (hb hby D12_41) (by decide) (by decide) ?_
      refine XS.iload X7.here hx rfl (hb hby D12_3) rfl ?_
      refine XS.iload X7.here hx rfl (hb hby D12_5) rfl ?_
      refine XS.icmpNo X7.here hx rfl (hb hby D12_7) rfl (tlt (by decide : ((1 : Int32) < (2 : Int32)))).2.1 ?_
      refine XS.aloadN X7.here hx rfl (hb hby D12_10) rfl rfl ?_
      refine XS.iloadN X7.here hx rfl (hb hby D12_11) rfl ?_
      exact Steps.refl _)
    obtain ⟨cl10, Ar10, -, S10, -, Ha10, -⟩ := id (Vb.other W7 hbd)
    have c11 : SS p e below S0 (T7.setTop (mkF m 20 #[vr b, vi 1, vr d, vi 1, vi 2, vi 1, vi ch1] [(.int 255), (.int ch1)])) := c9.trans (by
      show SS p e below (T7.setTop (mkF m 12 #[vr b, vi 1, vr d, vi 1, vi 2, vi 1, vi ch0] [(.int 1), (.ref b)])) _
      refine X7.caload hx (j := (1 : Int32)) (v := (.int ch1)) (by rw [e7]; exact Ar10.1) (State.isArrayOf_alike hZ.alike Ar10.2.1) Ar10.2.2 (inb_of S10 ⟨by decide, by decide⟩) (Ha10.at (inb_of S10 ⟨by decide, by decide⟩) rfl) (g := (mkF m 12 #[vr b, vi 1, vr d, vi 1, vi 2, vi 1, vi ch0] [(.int 1), (.ref b)])) rfl rfl (hb hby D12_12) _ ?_
      refine XS.istore X7.here hx rfl (hb hby D12_13) rfl (l' := #[vr b, vi 1, vr d, vi 1, vi 2, vi 1, vi ch1]) rfl ?_
      refine XS.iload X7.here hx rfl (hb hby D12_15) rfl ?_
      refine XS.sipush X7.here hx rfl (hb hby D12_17) ?_
      exact Steps.refl _)
    by_cases hq12 : (255 : Int32) < ch1
    · have c13 : SS p e below S0 (T7.setTop (mkF m 25 #[vr b, vi 1, vr d, vi 1, vi 2, vi 1, vi ch1] [(.int 1)])) := c11.trans (by
        show SS p e below (T7.setTop (mkF m 20 #[vr b, vi 1, vr d, vi 1, vi 2, vi 1, vi ch1] [(.int 255), (.int ch1)])) _
        refine XS.icmpNo X7.here hx rfl (hb hby D12_20) rfl (tlt hq12).2.2.2 ?_
        refine XS.iload X7.here hx rfl (hb hby D12_23) rfl ?_
        exact Steps.refl _)
      obtain ⟨fs, hr, hrun, hended, hW, hsame⟩ := X7.leave (v := some (.int 1)) (fun h => by rw [Bd.returns] at h; cases h)
      refine ⟨_, _, c13.trans (retOut X7 hx Bd.returns rfl (Or.inl ⟨rfl, by simp, _, rfl⟩) (hb hby D12_25) hr), hrun, hended, _, _, rfl, ?_, ⟨_, rfl⟩, hW, hsame.mono (by first | decide | exact Nat.le_of_ble_eq_true rfl) (by first | decide | exact Nat.le_of_ble_eq_true rfl)⟩
      show Q5 Z ([ch0, ch1] : List Int32) d kd h0 n0 _ T7.heap _
      rw [e7]
      exact ⟨_, rfl, N7, K7, Or.inr ⟨1, Nat.le_of_ble_eq_true rfl, rfl, hq12⟩⟩
    · have c14 : SS p e below S0 (T7.setTop (mkF m 31 #[vr b, vi 1, vr d, vi 1, vi 2, vi 1, vi ch1] [(.int (ch1.toInt8.toInt32)), (.int 1), (.ref d)])) := c11.trans (by
        show SS p e below (T7.setTop (mkF m 20 #[vr b, vi 1, vr d, vi 1, vi 2, vi 1, vi ch1] [(.int 255), (.int ch1)])) _
        refine XS.icmpYes X7.here hx rfl (pc0 := 20) (pc' := 26) rfl (hb hby D12_20) rfl (flt hq12).2.2.2 (by decide) (by decide) ?_
        refine XS.aloadN X7.here hx rfl (hb hby D12_26) rfl rfl ?_
        refine XS.iloadN X7.here hx rfl (hb hby D12_27) rfl ?_
        refine XS.iload X7.here hx rfl (hb hby D12_28) rfl ?_
        refine XS.i2b X7.here hx rfl (hb hby D12_30) rfl ?_
        exact Steps.refl _)
      obtain ⟨cl15, Ar15, q15, S15, Nn15, Ha15, G15⟩ := id V7
      obtain ⟨T15, h15, X15, e15, W15, st15⟩ := stB X7 hx hZ e7 Ar15 (j := (1 : Int32)) (inb_of S15 ⟨by decide, by decide⟩) (g := (mkF m 31 #[vr b, vi 1, vr d, vi 1, vi 2, vi 1, vi ch1] [(.int (ch1.toInt8.toInt32)), (.int 1), (.ref d)])) rfl rfl (hb hby D12_31)
      have V15 : Arv Z h15 d kd .byte (2 : Int32) [(.int ((ch0.toInt8.toInt32).toInt8.toInt32)), (.int ((ch1.toInt8.toInt32).toInt8.toInt32))] (.int 0) := Arv.set Ar15 q15 S15 Nn15 Ha15 G15 (fits_nar_byte _) W15 1 rfl (Nat.le_of_ble_eq_true rfl)
      have c16 : SS p e below S0 (T15.setTop (mkF m 32 #[vr b, vi 1, vr d, vi 1, vi 2, vi 1, vi ch1] [])) := c14.trans (st15 _ (Steps.refl _))
      have N15 := Fr.snoc X15 N7 g_d
      have z15 : n0 ≤ h15.size := Nat.le_trans z7 (Keep.of_wr W15).1
      have K15 := K7.wr W15 (Or.inl (by simp))
      have c17 : SS p e below S0 (T15.setTop (mkF m 46 #[vr b, vi 2, vr d, vi 2, vi 2, vi 2, vi ch1] [(.int 2)])) := c16.trans (by
        show SS p e below (T15.setTop (mkF m 32 #[vr b, vi 1, vr d, vi 1, vi 2, vi 1, vi ch1] [])) _
        refine XS.iinc X15.here hx rfl (hb hby D12_32) rfl (l' := #[vr b, vi 2, vr d, vi 1, vi 2, vi 1, vi ch1]) rfl ?_
        refine XS.iinc X15.here hx rfl (hb hby D12_35) rfl (l' := #[vr b, vi 2, vr d, vi 2, vi 2, vi 1, vi ch1]) rfl ?_
        refine XS.iinc X15.here hx rfl (hb hby D12_38) rfl (l' := #[vr b, vi 2, vr d, vi 2, vi 2, vi 2, vi ch1]) rfl ?_
        refine XS.goto X15.here hx rfl (pc0 := 41) (pc' := 3) rfl (hb hby D12_41) (by decide) (by decide) ?_
        refine XS.iload X15.here hx rfl (hb hby D12_3) rfl ?_
        refine XS.iload X15.here hx rfl (hb hby D12_5) rfl ?_
        refine XS.icmpYes X15.here hx rfl (pc0 := 7) (pc' := 44) rfl (hb hby D12_7) rfl (flt (by decide : ¬ ((2 : Int32) < (2 : Int32)))).2.1 (by decide) (by decide) ?_
        refine XS.iload X15.here hx rfl (hb hby D12_44) rfl ?_
        exact Steps.refl _)
      obtain ⟨fs, hr, hrun, hended, hW, hsame⟩ := X15.leave (v := some (.int 2)) (fun h => by rw [Bd.returns] at h; cases h)
      refine ⟨_, _, c17.trans (retOut X15 hx Bd.returns rfl (Or.inl ⟨rfl, by simp, _, rfl⟩) (hb hby D12_46) hr), hrun, hended, _, _, rfl, ?_, ⟨_, rfl⟩, hW, hsame.mono (by first | decide | exact Nat.le_of_ble_eq_true rfl) (by first | decide | exact Nat.le_of_ble_eq_true rfl)⟩
      show Q5 Z ([ch0, ch1] : List Int32) d kd h0 n0 _ T15.heap _
      rw [e15]
      have Vz := V15
      simp only [own_lo2] at Vz
      exact ⟨_, rfl, N15, K15, Or.inl ⟨rfl, (own_alS hq4 (own_alS hq12 own_al0)), Vz⟩⟩

theorem ef_rmNF_2 (m : MethodId) (x0 : Int32) : entryFrame m #[(.int x0)] 1 = mkF m 0 #[.val (.int x0)] [] := by first | (simp [entryFrame, mkF, argsToLocals, Value.category]; done) | rfl
set_option maxRecDepth 65536 in
set_option maxHeartbeats 40000000 in
theorem rmNF_2 (l : Launch) (Z : State) (a0 : Array Value) (hw : ∀ d ∈ tables_1, d.before a0 Z = true) (ws : List Jvm.Cond)  (h0 : Heap) (n0 : Nat) (Z0 : n0 ≤ h0.size)  :
    MetFree l (⟨"java/lang/StringUTF16", "newBytesFor", "(I)[B"⟩ : MethodName) (head1 (Jvm.Cond.code (⟨"java/lang/StringUTF16", "newBytesFor", "(I)[B"⟩ : MethodName) jdk_52_method_2_code 1 (some (.array .byte)) :: ws) ({ frames := 1, cells := 1, slots := 4, locals := 12 } : Room)) (fun aa U => aa = #[(.int 2)] ∧ Z.Warmed39 U.vm ∧ U.heap = h0) (fun _ _ _ _ _ => True) (fun _ U o U' => ∃ v L, o = .returned v ∧ QArr Z (4 : Int32) [.int (0 : Int32), .int (0 : Int32), .int (0 : Int32), .int (0 : Int32)] h0 n0 v U'.heap L ∧ FrameEnd U o U' L ({ frames := 1, cells := 1, slots := 4, locals := 12 } : Room).cells ({ frames := 1, cells := 1, slots := 4, locals := 12 } : Room).slots) := by
  refine MetFree.of_bodySF (plainFor_of_name pn_java_lang_StringUTF16) hisR ?_
  intro p e s m args below meth c s₁ Bd hml0 hP hK
  obtain ⟨rfl, hZ, hh⟩ := hP
  have hx := Bd.exec
  have hby := Bd.bytes
  have hml : c.maxLocals = 1 := hml0
  have hown : s.vm.findClass "java/lang/StringUTF16" = some m.cls := findClass_of_methodNamed Bd.named
  have hnm := (name_of_methodNamed Bd.named Bd.method).1
  have X0 : Stand p l e ({ frames := 1, cells := 1, slots := 4, locals := 12 } : Room) s m #[(.int 2)] below meth c s₁ [] 0 0 := Stand.of_body Bd
  have e0 : s₁.heap = h0 := by rw [← hh, Bd.state]; rfl
  have N0 := Fr.nil n0
  have K0 := Keep.refl h0 []
  obtain ⟨S0, hS0⟩ : ∃ z, z = s₁.setTop (entryFrame m #[(.int 2)] 1) := ⟨_, rfl⟩
  rw [← hS0]
  have c0 : SS p e below S0 (s₁.setTop (mkF m 0 #[vi 2] [])) := by
    rw [hS0]; exact castTop (ef_rmNF_2 m (2 : Int32)) (Steps.refl _)
  have c1 : SS p e below S0 (s₁.setTop (mkF m 1 #[vi 2] [(.int 2)])) := c0.trans (by
    show SS p e below (s₁.setTop (mkF m 0 #[vi 2] [])) _
    refine XS.iloadN X0.here hx rfl (hb hby D13_0) rfl ?_
    exact Steps.refl _)
  obtain ⟨_, _, ⟨T2, L2, kk2, nn2⟩, -, X2, ⟨Lc2, hQ2, l2, y2, z2⟩, st2⟩ := Jvm.LawKit.callS X0 hx (y := (⟨"java/lang/StringUTF16", "newBytesLength", "(I)I"⟩ : MethodName)) hown (mvT hZ (ww hw 113 rfl)) (mvT hZ (ww hw 114 rfl)) (mvT hZ (ww hw 52 rfl)) (mvT hZ (ww hw 115 rfl)) (by decide) (backOf (W := 0) (rmNL l Z a0 hw [] (2 : Int32) (4 : Int32) h0 n0 Z0 (by decide) (by decide) (by decide)) hZ (ww hw 115 rfl) (ww hw 52 rfl) (by decide) (by decide)) (g := (mkF m 1 #[vi 2] [(.int 2)])) rfl (by rw [hml]; rfl) (argsL := [(.int 2)]) (rest := []) (lenOf pd_oIcI rfl) rfl (by show 2 * 0 + _ ≤ _; exact Nat.le_of_eq rfl) (hb hby D13_1) (fun _ _ => ⟨rfl, e0, (by decide : 0 + 0 ≤ _), (by decide : 0 + 0 ≤ _)⟩)
  dsimp only [Pt.U, Pt.locs, Pt.cells, Pt.slots] at X2 l2 y2 z2 st2 hQ2
  subst l2 y2 z2
  obtain ⟨rfl, Nq2, eq2⟩ := hQ2
  have c3 : SS p e below S0 (T2.setTop (mkF m 4 #[vi 2] [(.int 4)])) := c1.trans (st2 _ (Steps.refl _))
  have N2 := Fr.app N0 Nq2
  obtain ⟨T4, h4, k4, X4, e4, E4, A4, st4⟩ := newP X2 hx hZ (ww hw 22 rfl) eq2 (g := (mkF m 4 #[vi 2] [(.int 4)])) rfl (hb hby D13_4) rfl (by decide) (cap := 4) (by decide) (by decide) (by decide) (by decide)
  obtain ⟨b4, g4⟩ : ∃ z, z = h0.size := ⟨_, rfl⟩
  rw [← g4] at A4 st4
  have c5 : SS p e below S0 (T4.setTop (mkF m 6 #[vi 2] [(.ref b4)])) := c3.trans (st4 _ (Steps.refl _))
  have z4 : n0 ≤ h4.size := Nat.le_trans Z0 E4.1
  have K4 := K0.ext E4
  have V4 : Arv Z h4 b4 k4 .byte (4 : Int32) [(.int 0), (.int 0), (.int 0), (.int 0)] (.int 0) := (Arv.new A4 (by decide)).pad (pad_rep [] (.int 0) 4)
  have lt_b4 : b4 < h4.size := V4.lt
  obtain ⟨fs, hr, hrun, hended, hW, hsame⟩ := X4.leave (v := some (.ref b4)) (fun h => by rw [Bd.returns] at h; cases h)
  refine ⟨_, _, c5.trans (retOut X4 hx Bd.returns rfl (Or.inr (Or.inr (Or.inr (Or.inr ⟨rfl, rfl, rfl⟩)))) (hb hby D13_6) hr), hrun, hended, _, _, rfl, ?_, ⟨_, rfl⟩, hW, hsame.mono (by first | decide | exact Nat.le_of_ble_eq_true rfl) (by first | decide | exact Nat.le_of_ble_eq_true rfl)⟩
  show QArr Z (4 : Int32) [.int (0 : Int32), .int (0 : Int32), .int (0 : Int32), .int (0 : Int32)] h0 n0 _ T4.heap _
  rw [e4]
  exact ⟨_, _, rfl, N2, K4, (Nat.le_trans K0.1 (Nat.le_of_eq g4.symm)), V4⟩

theorem ef_rmTB_2 (m : MethodId) (x0 : Addr) (x1 : Int32) (x2 : Int32) : entryFrame m #[(.ref x0), (.int x1), (.int x2)] 5 = mkF m 0 #[.val (.ref x0), .val (.int x1), .val (.int x2), .unset, .unset] [] := by first | (simp [entryFrame, mkF, argsToLocals, Value.category]; done) | rfl
set_option maxRecDepth 65536 in
set_option maxHeartbeats 40000000 in
theorem rmTB_2 (l : Launch) (Z : State) (a0 : Array Value) (hw : ∀ d ∈ tables_1, d.before a0 Z = true) (ws : List Jvm.Cond) (b : Addr) (kc : ClassId) (ch0 ch1 : Int32)  (h0 : Heap) (n0 : Nat) (Z0 : n0 ≤ h0.size) (Vb : Arv Z h0 b kc .char (2 : Int32) [.int ch0, .int ch1] (.int 0)) (sAD : Sta Z Z.heap "java/lang/StringUTF16" "$assertionsDisabled" "Z" (.int 1)) (sHI : Sta Z Z.heap "java/lang/StringUTF16" "HI_BYTE_SHIFT" "I" (.int 0)) (sLO : Sta Z Z.heap "java/lang/StringUTF16" "LO_BYTE_SHIFT" "I" (.int 8)) (X00 : Old Z n0 h0) :
    MetFree l (⟨"java/lang/StringUTF16", "toBytes", "([CII)[B"⟩ : MethodName) (head1 (Jvm.Cond.code (⟨"java/lang/StringUTF16", "toBytes", "([CII)[B"⟩ : MethodName) jdk_52_method_14_code 5 (some (.array .byte)) :: ws) ({ frames := 2, cells := 1, slots := 4, locals := 24 } : Room)) (fun aa U => aa = #[(.ref b), (.int 0), (.int 2)] ∧ Z.Warmed39 U.vm ∧ U.heap = h0) (fun _ _ _ _ _ => True) (fun _ U o U' => ∃ v L, o = .returned v ∧ QArr Z (4 : Int32) (StrChars.Road.wideBytes ([ch0, ch1] : List Int32)) h0 n0 v U'.heap L ∧ FrameEnd U o U' L ({ frames := 2, cells := 1, slots := 4, locals := 24 } : Room).cells ({ frames := 2, cells := 1, slots := 4, locals := 24 } : Room).slots) := by
  refine MetFree.of_bodySF (plainFor_of_name pn_java_lang_StringUTF16) hisR ?_
  intro p e s m args below meth c s₁ Bd hml0 hP hK
  obtain ⟨rfl, hZ, hh⟩ := hP
  have hx := Bd.exec
  have hby := Bd.bytes
  have hml : c.maxLocals = 5 := hml0
  have hown : s.vm.findClass "java/lang/StringUTF16" = some m.cls := findClass_of_methodNamed Bd.named
  have hnm := (name_of_methodNamed Bd.named Bd.method).1
  have X0 : Stand p l e ({ frames := 2, cells := 1, slots := 4, locals := 24 } : Room) s m #[(.ref b), (.int 0), (.int 2)] below meth c s₁ [] 0 0 := Stand.of_body Bd
  have e0 : s₁.heap = h0 := by rw [← hh, Bd.state]; rfl
  have N0 := Fr.nil n0
  have K0 := Keep.refl h0 []
  obtain ⟨S0, hS0⟩ : ∃ z, z = s₁.setTop (entryFrame m #[(.ref b), (.int 0), (.int 2)] 5) := ⟨_, rfl⟩
  rw [← hS0]
  have c0 : SS p e below S0 (s₁.setTop (mkF m 0 #[vr b, vi 0, vi 2, .unset, .unset] [])) := by
    rw [hS0]; exact castTop (ef_rmTB_2 m b (0 : Int32) (2 : Int32)) (Steps.refl _)
  have c1 : SS p e below S0 (s₁.setTop (mkF m 1 #[vr b, vi 0, vi 2, .unset, .unset] [(.int 2)])) := c0.trans (by
    show SS p e below (s₁.setTop (mkF m 0 #[vr b, vi 0, vi 2, .unset, .unset] [])) _
    refine XS.iloadN X0.here hx rfl (hb hby D14_0) rfl ?_
    exact Steps.refl _)
  obtain ⟨_, _, ⟨T2, L2, kk2, nn2⟩, -, X2, ⟨Lc2, hQ2, l2, y2, z2⟩, st2⟩ := Jvm.LawKit.callS X0 hx (y := (⟨"java/lang/StringUTF16", "newBytesFor", "(I)[B"⟩ : MethodName)) hown (mvT hZ (ww hw 110 rfl)) (mvT hZ (ww hw 111 rfl)) (mvT hZ (ww hw 52 rfl)) (mvT hZ (ww hw 112 rfl)) (by decide) (backOf (W := 0) (rmNF_2 l Z a0 hw [] h0 n0 Z0) hZ (ww hw 112 rfl) (ww hw 52 rfl) (by decide) (by decide)) (g := (mkF m 1 #[vr b, vi 0, vi 2, .unset, .unset] [(.int 2)])) rfl (by rw [hml]; rfl) (argsL := [(.int 2)]) (rest := []) (lenOf pd_oIcaB rfl) rfl (by show 2 * 0 + _ ≤ _; exact Nat.le_of_eq rfl) (hb hby D14_1) (fun _ _ => ⟨rfl, e0, (by decide : 0 + 1 ≤ _), (by decide : 0 + 4 ≤ _)⟩)
  dsimp only [Pt.U, Pt.locs, Pt.cells, Pt.slots] at X2 l2 y2 z2 st2 hQ2
  subst l2 y2 z2
  obtain ⟨t2, kb2, rfl, Nq2, Kq2, gt2, Vt2⟩ := hQ2
  have c3 : SS p e below S0 (T2.setTop (mkF m 4 #[vr b, vi 0, vi 2, .unset, .unset] [(.ref t2)])) := c1.trans (st2 _ (Steps.refl _))
  have N2 := Fr.app N0 Nq2
  have z2 : n0 ≤ T2.heap.size := Nat.le_trans Z0 Kq2.1
  have K2 := K0.trans Kq2 all0
  have lt_t2 := Vt2.lt
  have c4 : SS p e below S0 (T2.setTop (mkF m 19 #[vr b, vi 0, vi 2, vr t2, vi 0] [(.int 0), (.ref b), (.int 0), (.ref t2)])) := c3.trans (by
    show SS p e below (T2.setTop (mkF m 4 #[vr b, vi 0, vi 2, .unset, .unset] [(.ref t2)])) _
    refine XS.astoreN X2.here hx rfl (hb hby D14_4) rfl rfl (l' := #[vr b, vi 0, vi 2, vr t2, .unset]) rfl ?_
    refine XS.iconst X2.here hx rfl (hb hby D14_5) ?_
    refine XS.istore X2.here hx rfl (hb hby D14_6) rfl (l' := #[vr b, vi 0, vi 2, vr t2, vi 0]) rfl ?_
    refine XS.iload X2.here hx rfl (hb hby D14_8) rfl ?_
    refine XS.iloadN X2.here hx rfl (hb hby D14_10) rfl ?_
    refine XS.icmpNo X2.here hx rfl (hb hby D14_11) rfl (tlt (by decide : ((0 : Int32) < (2 : Int32)))).2.1 ?_
    refine XS.aloadN X2.here hx rfl (hb hby D14_14) rfl rfl ?_
    refine XS.iload X2.here hx rfl (hb hby D14_15) rfl ?_
    refine XS.aloadN X2.here hx rfl (hb hby D14_17) rfl rfl ?_
    refine XS.iloadN X2.here hx rfl (hb hby D14_18) rfl ?_
    exact Steps.refl _)
  obtain ⟨cl5, Ar5, -, S5, -, Ha5, -⟩ := id (Vb.keep Kq2 nin0)
  have c6 : SS p e below S0 (T2.setTop (mkF m 20 #[vr b, vi 0, vi 2, vr t2, vi 0] [(.int ch0), (.int 0), (.ref t2)])) := c4.trans (by
    show SS p e below (T2.setTop (mkF m 19 #[vr b, vi 0, vi 2, vr t2, vi 0] [(.int 0), (.ref b), (.int 0), (.ref t2)])) _
    refine X2.caload hx (j := (0 : Int32)) (v := (.int ch0)) Ar5.1 (State.isArrayOf_alike hZ.alike Ar5.2.1) Ar5.2.2 (inb_of S5 ⟨by decide, by decide⟩) (Ha5.at (inb_of S5 ⟨by decide, by decide⟩) rfl) (g := (mkF m 19 #[vr b, vi 0, vi 2, vr t2, vi 0] [(.int 0), (.ref b), (.int 0), (.ref t2)])) rfl rfl (hb hby D14_19) _ ?_
    exact Steps.refl _)
  obtain ⟨_, _, ⟨T7, L7, kk7, nn7⟩, -, X7, ⟨Lc7, hQ7, l7, y7, z7⟩, st7⟩ := Jvm.LawKit.callS X2 hx (y := (⟨"java/lang/StringUTF16", "putChar", "([BII)V"⟩ : MethodName)) hown (mvT hZ (ww hw 117 rfl)) (mvT hZ (ww hw 118 rfl)) (mvT hZ (ww hw 52 rfl)) (mvT hZ (ww hw 119 rfl)) (by decide) (backOf (W := 0) (rmPu l Z a0 hw [] t2 kb2 (4 : Int32) (0 : Int32) (0 : Int32) ch0 [(.int 0), (.int 0), (.int 0), (.int 0)] 0 T2.heap n0 z2 (Nat.le_trans Z0 (Nat.le_trans K0.1 gt2)) Vt2 (by decide) (by decide) (by decide) ⟨by decide, by decide⟩ ⟨by decide, by decide⟩ (Nat.le_of_ble_eq_true rfl) sAD sHI sLO (X00.keep Kq2 all0)) hZ (ww hw 119 rfl) (ww hw 52 rfl) (by decide) (by decide)) (g := (mkF m 20 #[vr b, vi 0, vi 2, vr t2, vi 0] [(.int ch0), (.int 0), (.ref t2)])) rfl (by rw [hml]; rfl) (argsL := [(.ref t2), (.int 0), (.int ch0)]) (rest := []) (lenOf pd_oaBIIcV rfl) rfl (by show 2 * 0 + _ ≤ _; exact Nat.le_of_eq rfl) (hb hby D14_20) (fun _ _ => ⟨rfl, rfl, (by decide : 1 + 0 ≤ _), (by decide : 4 + 0 ≤ _)⟩)
  dsimp only [Pt.U, Pt.locs, Pt.cells, Pt.slots] at X7 l7 y7 z7 st7 hQ7
  subst l7 y7 z7
  obtain ⟨rfl, Nq7, Kq7, Vq7⟩ := hQ7
  have c8 : SS p e below S0 (T7.setTop (mkF m 23 #[vr b, vi 0, vi 2, vr t2, vi 0] [])) := c6.trans (st7 _ (Steps.refl _))
  have N7 := Fr.app N2 Nq7
  have z7 : n0 ≤ T7.heap.size := Nat.le_trans z2 Kq7.1
  have K7 := K2.trans Kq7 (allS (Or.inr (Nat.le_trans K0.1 gt2)) all0)
  have Vq7 : Arv Z T7.heap t2 kb2 .byte (4 : Int32) [(.int (StrChars.lo8 ch0)), (.int (StrChars.hi8 ch0)), (.int 0), (.int 0)] (.int 0) := Vq7
  have c9 : SS p e below S0 (T7.setTop (mkF m 19 #[vr b, vi 1, vi 2, vr t2, vi 1] [(.int 1), (.ref b), (.int 1), (.ref t2)])) := c8.trans (by
    show SS p e below (T7.setTop (mkF m 23 #[vr b, vi 0, vi 2, vr t2, vi 0] [])) _
    refine XS.iinc X7.here hx rfl (hb hby D14_23) rfl (l' := #[vr b, vi 1, vi 2, vr t2, vi 0]) rfl ?_
    refine XS.iinc X7.here hx rfl (hb hby D14_26) rfl (l' := #[vr b, vi 1, vi 2, vr t2, vi 1]) rfl ?_
    refine XS.goto X7.here hx rfl (pc0 := 29) (pc' := 8) rfl (hb hby D14_29) (by decide) (by decide) ?_
    refine XS.iload X7.here hx rfl (hb hby D14_8) rfl ?_
    refine XS.iloadN X7.here hx rfl (hb hby D14_10) rfl ?_
    refine XS.icmpNo X7.here hx rfl (hb hby D14_11) rfl (tlt (by decide : ((1 : Int32) < (2 : Int32)))).2.1 ?_
    refine XS.aloadN X7.here hx rfl (hb hby D14_14) rfl rfl ?_
    refine XS.iload X7.here hx rfl (hb hby D14_15) rfl ?_
    refine XS.aloadN X7.here hx rfl (hb hby D14_17) rfl rfl ?_
    refine XS.iloadN X7.here hx rfl (hb hby D14_18) rfl ?_
    exact Steps.refl _)
  obtain ⟨cl10, Ar10, -, S10, -, Ha10, -⟩ := id ((Vb.keep Kq2 nin0).keep Kq7 (ninS (Nat.ne_of_lt (Nat.lt_of_lt_of_le Vb.lt gt2)) nin0))
  have c11 : SS p e below S0 (T7.setTop (mkF m 20 #[vr b, vi 1, vi 2, vr t2, vi 1] [(.int ch1), (.int 1), (.ref t2)])) := c9.trans (by
    show SS p e below (T7.setTop (mkF m 19 #[vr b, vi 1, vi 2, vr t2, vi 1] [(.int 1), (.ref b), (.int 1), (.ref t2)])) _
    refine X7.caload hx (j := (1 : Int32)) (v := (.int ch1)) Ar10.1 (State.isArrayOf_alike hZ.alike Ar10.2.1) Ar10.2.2 (inb_of S10 ⟨by decide, by decide⟩) (Ha10.at (inb_of S10 ⟨by decide, by decide⟩) rfl) (g := (mkF m 19 #[vr b, vi 1, vi 2, vr t2, vi 1] [(.int 1), (.ref b), (.int 1), (.ref t2)])) rfl rfl (hb hby D14_19) _ ?_
    exact Steps.refl _)
  obtain ⟨_, _, ⟨T12, L12, kk12, nn12⟩, -, X12, ⟨Lc12, hQ12, l12, y12, z12⟩, st12⟩ := Jvm.LawKit.callS X7 hx (y := (⟨"java/lang/StringUTF16", "putChar", "([BII)V"⟩ : MethodName)) hown (mvT hZ (ww hw 117 rfl)) (mvT hZ (ww hw 118 rfl)) (mvT hZ (ww hw 52 rfl)) (mvT hZ (ww hw 119 rfl)) (by decide) (backOf (W := 0) (rmPu l Z a0 hw [] t2 kb2 (4 : Int32) (1 : Int32) (2 : Int32) ch1 [(.int (StrChars.lo8 ch0)), (.int (StrChars.hi8 ch0)), (.int 0), (.int 0)] 2 T7.heap n0 z7 (Nat.le_trans Z0 (Nat.le_trans K0.1 gt2)) Vq7 (by decide) (by decide) (by decide) ⟨by decide, by decide⟩ ⟨by decide, by decide⟩ (Nat.le_of_ble_eq_true rfl) sAD sHI sLO ((X00.keep Kq2 all0).keep Kq7 (allS (Nat.le_trans Z0 (Nat.le_trans K0.1 gt2)) all0))) hZ (ww hw 119 rfl) (ww hw 52 rfl) (by decide) (by decide)) (g := (mkF m 20 #[vr b, vi 1, vi 2, vr t2, vi 1] [(.int ch1), (.int 1), (.ref t2)])) rfl (by rw [hml]; rfl) (argsL := [(.ref t2), (.int 1), (.int ch1)]) (rest := []) (lenOf pd_oaBIIcV rfl) rfl (by show 2 * 0 + _ ≤ _; exact Nat.le_of_eq rfl) (hb hby D14_20) (fun _ _ => ⟨rfl, rfl, (by decide : 1 + 0 ≤ _), (by decide : 4 + 0 ≤ _)⟩)
  dsimp only [Pt.U, Pt.locs, Pt.cells, Pt.slots] at X12 l12 y12 z12 st12 hQ12
  subst l12 y12 z12
  obtain ⟨rfl, Nq12, Kq12, Vq12⟩ := hQ12
  have c13 : SS p e below S0 (T12.setTop (mkF m 23 #[vr b, vi 1, vi 2, vr t2, vi 1] [])) := c11.trans (st12 _ (Steps.refl _))
  have N12 := Fr.app N7 Nq12
  have z12 : n0 ≤ T12.heap.size := Nat.le_trans z7 Kq12.1
  have K12 := K7.trans Kq12 (allS (Or.inr (Nat.le_trans K0.1 gt2)) all0)
  have Vq12 : Arv Z T12.heap t2 kb2 .byte (4 : Int32) [(.int (StrChars.lo8 ch0)), (.int (StrChars.hi8 ch0)), (.int (StrChars.lo8 ch1)), (.int (StrChars.hi8 ch1))] (.int 0) := Vq12
  have c14 : SS p e below S0 (T12.setTop (mkF m 33 #[vr b, vi 2, vi 2, vr t2, vi 2] [(.ref t2)])) := c13.trans (by
    show SS p e below (T12.setTop (mkF m 23 #[vr b, vi 1, vi 2, vr t2, vi 1] [])) _
    refine XS.iinc X12.here hx rfl (hb hby D14_23) rfl (l' := #[vr b, vi 2, vi 2, vr t2, vi 1]) rfl ?_
    refine XS.iinc X12.here hx rfl (hb hby D14_26) rfl (l' := #[vr b, vi 2, vi 2, vr t2, vi 2]) rfl ?_
    refine XS.goto X12.here hx rfl (pc0 := 29) (pc' := 8) rfl (hb hby D14_29) (by decide) (by decide) ?_
    refine XS.iload X12.here hx rfl (hb hby D14_8) rfl ?_
    refine XS.iloadN X12.here hx rfl (hb hby D14_10) rfl ?_
    refine XS.icmpYes X12.here hx rfl (pc0 := 11) (pc' := 32) rfl (hb hby D14_11) rfl (flt (by decide : ¬ ((2 : Int32) < (2 : Int32)))).2.1 (by decide) (by decide) ?_
    refine XS.aloadN X12.here hx rfl (hb hby D14_32) rfl rfl ?_
    exact Steps.refl _)
  obtain ⟨fs, hr, hrun, hended, hW, hsame⟩ := X12.leave (v := some (.ref t2)) (fun h => by rw [Bd.returns] at h; cases h)
  refine ⟨_, _, c14.trans (retOut X12 hx Bd.returns rfl (Or.inr (Or.inr (Or.inr (Or.inr ⟨rfl, rfl, rfl⟩)))) (hb hby D14_33) hr), hrun, hended, _, _, rfl, ?_, ⟨_, rfl⟩, hW, hsame.mono (by first | decide | exact Nat.le_of_ble_eq_true rfl) (by first | decide | exact Nat.le_of_ble_eq_true rfl)⟩
  show QArr Z (4 : Int32) (StrChars.Road.wideBytes ([ch0, ch1] : List Int32)) h0 n0 _ T12.heap _
  exact ⟨_, _, rfl, N12, K12, (Nat.le_trans K0.1 gt2), Vq12⟩

theorem ef_rmC3_2 (m : MethodId) (x0 : Addr) (x1 : Int32) (x2 : Int32) : entryFrame m #[(.ref x0), (.int x1), (.int x2)] 6 = mkF m 0 #[.val (.ref x0), .val (.int x1), .val (.int x2), .unset, .unset, .unset] [] := by first | (simp [entryFrame, mkF, argsToLocals, Value.category]; done) | rfl
set_option maxRecDepth 65536 in
set_option maxHeartbeats 40000000 in
theorem rmC3_2 (l : Launch) (Z : State) (a0 : Array Value) (hw : ∀ d ∈ tables_1, d.before a0 Z = true) (ws : List Jvm.Cond) (b : Addr) (kc : ClassId) (ch0 ch1 : Int32)  (h0 : Heap) (n0 : Nat) (Z0 : n0 ≤ h0.size) (Vb : Arv Z h0 b kc .char (2 : Int32) [.int ch0, .int ch1] (.int 0)) (hc0 : C16 ch0) (hc1 : C16 ch1) (sAD : Sta Z Z.heap "java/lang/StringUTF16" "$assertionsDisabled" "Z" (.int 1)) (sHI : Sta Z Z.heap "java/lang/StringUTF16" "HI_BYTE_SHIFT" "I" (.int 0)) (sLO : Sta Z Z.heap "java/lang/StringUTF16" "LO_BYTE_SHIFT" "I" (.int 8)) (X00 : Old Z n0 h0) :
    MetFree l (⟨"java/lang/StringUTF16", "compress", "([CII)[B"⟩ : MethodName) (head1 (Jvm.Cond.code (⟨"java/lang/StringUTF16", "compress", "([CII)[B"⟩ : MethodName) jdk_52_method_16_code 6 (some (.array .byte)) :: ws) ({ frames := 3, cells := 2, slots := 6, locals := 40 } : Room)) (fun aa U => aa = #[(.ref b), (.int 0), (.int 2)] ∧ Z.Warmed39 U.vm ∧ U.heap = h0) (fun _ _ _ _ _ => True) (fun _ U o U' => ∃ v L, o = .returned v ∧ QC3 Z ([ch0, ch1] : List Int32) h0 n0 v U'.heap L ∧ FrameEnd U o U' L ({ frames := 3, cells := 2, slots := 6, locals := 40 } : Room).cells ({ frames := 3, cells := 2, slots := 6, locals := 40 } : Room).slots) := by
  refine MetFree.of_bodySF (plainFor_of_name pn_java_lang_StringUTF16) hisR ?_
  intro p e s m args below meth c s₁ Bd hml0 hP hK
  obtain ⟨rfl, hZ, hh⟩ := hP
  have hx := Bd.exec
  have hby := Bd.bytes
  have hml : c.maxLocals = 6 := hml0
  have hown : s.vm.findClass "java/lang/StringUTF16" = some m.cls := findClass_of_methodNamed Bd.named
  have hnm := (name_of_methodNamed Bd.named Bd.method).1
  have X0 : Stand p l e ({ frames := 3, cells := 2, slots := 6, locals := 40 } : Room) s m #[(.ref b), (.int 0), (.int 2)] below meth c s₁ [] 0 0 := Stand.of_body Bd
  have e0 : s₁.heap = h0 := by rw [← hh, Bd.state]; rfl
  have N0 := Fr.nil n0
  have K0 := Keep.refl h0 []
  obtain ⟨S0, hS0⟩ : ∃ z, z = s₁.setTop (entryFrame m #[(.ref b), (.int 0), (.int 2)] 6) := ⟨_, rfl⟩
  rw [← hS0]
  have c0 : SS p e below S0 (s₁.setTop (mkF m 0 #[vr b, vi 0, vi 2, .unset, .unset, .unset] [])) := by
    rw [hS0]; exact castTop (ef_rmC3_2 m b (0 : Int32) (2 : Int32)) (Steps.refl _)
  have c1 : SS p e below S0 (s₁.setTop (mkF m 1 #[vr b, vi 0, vi 2, .unset, .unset, .unset] [(.int 2)])) := c0.trans (by
    show SS p e below (s₁.setTop (mkF m 0 #[vr b, vi 0, vi 2, .unset, .unset, .unset] [])) _
    refine XS.iloadN X0.here hx rfl (hb hby D15_0) rfl ?_
    exact Steps.refl _)
  obtain ⟨T2, h2, k2, X2, e2, E2, A2, st2⟩ := newP X0 hx hZ (ww hw 22 rfl) e0 (g := (mkF m 1 #[vr b, vi 0, vi 2, .unset, .unset, .unset] [(.int 2)])) rfl (hb hby D15_1) rfl (by decide) (cap := 2) (by decide) (by decide) (by decide) (by decide)
  obtain ⟨b2, g2⟩ : ∃ z, z = h0.size := ⟨_, rfl⟩
  rw [← g2] at A2 st2
  have c3 : SS p e below S0 (T2.setTop (mkF m 3 #[vr b, vi 0, vi 2, .unset, .unset, .unset] [(.ref b2)])) := c1.trans (st2 _ (Steps.refl _))
  have z2 : n0 ≤ h2.size := Nat.le_trans Z0 E2.1
  have K2 := K0.ext E2
  have V2 : Arv Z h2 b2 k2 .byte (2 : Int32) [(.int 0), (.int 0)] (.int 0) := (Arv.new A2 (by decide)).pad (pad_rep [] (.int 0) 2)
  have lt_b2 : b2 < h2.size := V2.lt
  have c4 : SS p e below S0 (T2.setTop (mkF m 9 #[vr b, vi 0, vi 2, vr b2, .unset, .unset] [(.int 2), (.int 0), (.ref b2), (.int 0), (.ref b)])) := c3.trans (by
    show SS p e below (T2.setTop (mkF m 3 #[vr b, vi 0, vi 2, .unset, .unset, .unset] [(.ref b2)])) _
    refine XS.astoreN X2.here hx rfl (hb hby D15_3) rfl rfl (l' := #[vr b, vi 0, vi 2, vr b2, .unset, .unset]) rfl ?_
    refine XS.aloadN X2.here hx rfl (hb hby D15_4) rfl rfl ?_
    refine XS.iloadN X2.here hx rfl (hb hby D15_5) rfl ?_
    refine XS.aloadN X2.here hx rfl (hb hby D15_6) rfl rfl ?_
    refine XS.iconst X2.here hx rfl (hb hby D15_7) ?_
    refine XS.iloadN X2.here hx rfl (hb hby D15_8) rfl ?_
    exact Steps.refl _)
  obtain ⟨_, _, ⟨T5, L5, kk5, nn5⟩, -, X5, ⟨Lc5, hQ5, l5, y5, z5⟩, st5⟩ := Jvm.LawKit.callS X2 hx (y := (⟨"java/lang/StringUTF16", "compress", "([CI[BII)I"⟩ : MethodName)) hown (mvT hZ (ww hw 54 rfl)) (mvT hZ (ww hw 55 rfl)) (mvT hZ (ww hw 52 rfl)) (mvT hZ (ww hw 56 rfl)) (by decide) (backOf (W := 0) (rmC5_2 l Z a0 hw [] b2 k2 b kc ch0 ch1  h2 n0 z2 (Nat.le_trans Z0 (Nat.le_trans K0.1 (Nat.le_of_eq g2.symm))) (Nat.ne_of_lt (Nat.lt_of_lt_of_le Vb.lt (Nat.le_of_eq g2.symm))) V2 (Vb.ext E2) hc0 hc1 ) hZ (ww hw 56 rfl) (ww hw 52 rfl) (by decide) (by decide)) (g := (mkF m 9 #[vr b, vi 0, vi 2, vr b2, .unset, .unset] [(.int 2), (.int 0), (.ref b2), (.int 0), (.ref b)])) rfl (by rw [hml]; rfl) (argsL := [(.ref b), (.int 0), (.ref b2), (.int 0), (.int 2)]) (rest := []) (lenOf pd_oaCIaBIIcI rfl) rfl (by show 2 * 0 + _ ≤ _; exact Nat.le_of_eq rfl) (hb hby D15_9) (fun _ _ => ⟨rfl, e2, (by decide : 1 + 0 ≤ _), (by decide : 2 + 0 ≤ _)⟩)
  dsimp only [Pt.U, Pt.locs, Pt.cells, Pt.slots] at X5 l5 y5 z5 st5 hQ5
  subst l5 y5 z5
  obtain ⟨r5, rfl, Nq5, Kq5, hr5⟩ := hQ5
  have c6 : SS p e below S0 (T5.setTop (mkF m 12 #[vr b, vi 0, vi 2, vr b2, .unset, .unset] [(.int r5)])) := c4.trans (st5 _ (Steps.refl _))
  have N5 := Fr.app N0 Nq5
  have z5 : n0 ≤ T5.heap.size := Nat.le_trans z2 Kq5.1
  have K5 := K2.trans Kq5 (allS (Or.inr (Nat.le_trans K0.1 (Nat.le_of_eq g2.symm))) all0)
  rcases hr5 with ⟨e1, e2, Vd5⟩ | ⟨i, hi, e1, hw1⟩
  · rw [(e1.trans rfl : r5 = (2 : Int32))] at c6
    have c7 : SS p e below S0 (T5.setTop (mkF m 58 #[vr b, vi 0, vi 2, vr b2, vi 2, .unset] [(.ref b2)])) := c6.trans (by
      show SS p e below (T5.setTop (mkF m 12 #[vr b, vi 0, vi 2, vr b2, .unset, .unset] [(.int 2)])) _
      refine XS.istore X5.here hx rfl (hb hby D15_12) rfl (l' := #[vr b, vi 0, vi 2, vr b2, vi 2, .unset]) rfl ?_
      refine XS.iload X5.here hx rfl (hb hby D15_14) rfl ?_
      refine XS.iloadN X5.here hx rfl (hb hby D15_16) rfl ?_
      refine XS.icmpYes X5.here hx rfl (pc0 := 17) (pc' := 57) rfl (hb hby D15_17) rfl (teq (by decide : ((2 : Int32) = (2 : Int32)))).1 (by decide) (by decide) ?_
      refine XS.aloadN X5.here hx rfl (hb hby D15_57) rfl rfl ?_
      exact Steps.refl _)
    obtain ⟨fs, hr, hrun, hended, hW, hsame⟩ := X5.leave (v := some (.ref b2)) (fun h => by rw [Bd.returns] at h; cases h)
    refine ⟨_, _, c7.trans (retOut X5 hx Bd.returns rfl (Or.inr (Or.inr (Or.inr (Or.inr ⟨rfl, rfl, rfl⟩)))) (hb hby D15_58) hr), hrun, hended, _, _, rfl, ?_, ⟨_, rfl⟩, hW, hsame.mono (by first | decide | exact Nat.le_of_ble_eq_true rfl) (by first | decide | exact Nat.le_of_ble_eq_true rfl)⟩
    show QC3 Z ([ch0, ch1] : List Int32) h0 n0 _ T5.heap _
    exact ⟨_, _, _, _, _, rfl, N5, K5, (Nat.le_trans K0.1 (Nat.le_of_eq g2.symm)), Vd5, Or.inl ⟨rfl, rfl, rfl, e2⟩⟩
  · have hi5 : i < 2 := hi
    rw [e1] at c6
    have c8 : SS p e below S0 (T5.setTop (mkF m 23 #[vr b, vi 0, vi 2, vr b2, vi (Int32.ofNat i), .unset] [(.int 2), (.int 0), (.ref b)])) := c6.trans (by
      show SS p e below (T5.setTop (mkF m 12 #[vr b, vi 0, vi 2, vr b2, .unset, .unset] [(.int (Int32.ofNat i))])) _
      refine XS.istore X5.here hx rfl (hb hby D15_12) rfl (l' := #[vr b, vi 0, vi 2, vr b2, vi (Int32.ofNat i), .unset]) rfl ?_
      refine XS.iload X5.here hx rfl (hb hby D15_14) rfl ?_
      refine XS.iloadN X5.here hx rfl (hb hby D15_16) rfl ?_
      refine XS.icmpNo X5.here hx rfl (hb hby D15_17) rfl (feq (fun q => absurd ((own_ofN_inj (a := i) (b := 2) (by omega) (by omega)).mp q) (by omega) : ¬ (Int32.ofNat i) = (2 : Int32))).1 ?_
      refine XS.aloadN X5.here hx rfl (hb hby D15_20) rfl rfl ?_
      refine XS.iloadN X5.here hx rfl (hb hby D15_21) rfl ?_
      refine XS.iloadN X5.here hx rfl (hb hby D15_22) rfl ?_
      exact Steps.refl _)
    obtain ⟨_, _, ⟨T9, L9, kk9, nn9⟩, -, X9, ⟨Lc9, hQ9, l9, y9, z9⟩, st9⟩ := Jvm.LawKit.callS X5 hx (y := (⟨"java/lang/StringUTF16", "toBytes", "([CII)[B"⟩ : MethodName)) hown (mvT hZ (ww hw 107 rfl)) (mvT hZ (ww hw 108 rfl)) (mvT hZ (ww hw 52 rfl)) (mvT hZ (ww hw 109 rfl)) (by decide) (backOf (W := 0) (rmTB_2 l Z a0 hw [] b kc ch0 ch1  T5.heap n0 z5 ((Vb.ext E2).keep Kq5 (ninS (Nat.ne_of_lt (Nat.lt_of_lt_of_le Vb.lt (Nat.le_of_eq g2.symm))) nin0)) sAD sHI sLO ((X00.ext E2).keep Kq5 (allS (Nat.le_trans Z0 (Nat.le_trans K0.1 (Nat.le_of_eq g2.symm))) all0))) hZ (ww hw 109 rfl) (ww hw 52 rfl) (by decide) (by decide)) (g := (mkF m 23 #[vr b, vi 0, vi 2, vr b2, vi (Int32.ofNat i), .unset] [(.int 2), (.int 0), (.ref b)])) rfl (by rw [hml]; rfl) (argsL := [(.ref b), (.int 0), (.int 2)]) (rest := []) (lenOf pd_oaCIIcaB rfl) rfl (by show 2 * 0 + _ ≤ _; exact Nat.le_of_eq rfl) (hb hby D15_23) (fun _ _ => ⟨rfl, rfl, (by decide : 1 + 1 ≤ _), (by decide : 2 + 4 ≤ _)⟩)
    dsimp only [Pt.U, Pt.locs, Pt.cells, Pt.slots] at X9 l9 y9 z9 st9 hQ9
    subst l9 y9 z9
    obtain ⟨t9, kb9, rfl, Nq9, Kq9, gt9, Vt9⟩ := hQ9
    have c10 : SS p e below S0 (T9.setTop (mkF m 26 #[vr b, vi 0, vi 2, vr b2, vi (Int32.ofNat i), .unset] [(.ref t9)])) := c8.trans (st9 _ (Steps.refl _))
    have N9 := Fr.app N5 Nq9
    have z9 : n0 ≤ T9.heap.size := Nat.le_trans z5 Kq9.1
    have K9 := K5.trans Kq9 all0
    have c11 : SS p e below S0 (T9.setTop (mkF m 32 #[vr b, vi 0, vi 2, vr b2, vi (Int32.ofNat i), vr t9] [(.int (Int32.ofNat i)), (.ref t9)])) := c10.trans (by
      show SS p e below (T9.setTop (mkF m 26 #[vr b, vi 0, vi 2, vr b2, vi (Int32.ofNat i), .unset] [(.ref t9)])) _
      refine XS.astore X9.here hx rfl (hb hby D15_26) rfl rfl (l' := #[vr b, vi 0, vi 2, vr b2, vi (Int32.ofNat i), vr t9]) rfl ?_
      refine XS.aload X9.here hx rfl (hb hby D15_28) rfl rfl ?_
      refine XS.iload X9.here hx rfl (hb hby D15_30) rfl ?_
      exact Steps.refl _)
    obtain ⟨_, _, ⟨T12, L12, kk12, nn12⟩, -, X12, ⟨Lc12, hQ12, l12, y12, z12⟩, st12⟩ := Jvm.LawKit.callS X9 hx (y := (⟨"java/lang/StringUTF16", "getChar", "([BI)C"⟩ : MethodName)) hown (mvT hZ (ww hw 123 rfl)) (mvT hZ (ww hw 124 rfl)) (mvT hZ (ww hw 52 rfl)) (mvT hZ (ww hw 125 rfl)) (by decide) (backOf (W := 0) (rmGC l Z a0 hw [] t9 kb9 ([ch0, ch1] : List Int32) i T9.heap n0 z9 Vt9 (own_alS hc0 (own_alS hc1 own_al0)) (Nat.le_of_ble_eq_true rfl) hi sAD sHI sLO (((X00.ext E2).keep Kq5 (allS (Nat.le_trans Z0 (Nat.le_trans K0.1 (Nat.le_of_eq g2.symm))) all0)).keep Kq9 all0)) hZ (ww hw 125 rfl) (ww hw 52 rfl) (by decide) (by decide)) (g := (mkF m 32 #[vr b, vi 0, vi 2, vr b2, vi (Int32.ofNat i), vr t9] [(.int (Int32.ofNat i)), (.ref t9)])) rfl (by rw [hml]; rfl) (argsL := [(.ref t9), (.int (Int32.ofNat i))]) (rest := []) (lenOf pd_oaBIcC rfl) rfl (by show 2 * 0 + _ ≤ _; exact Nat.le_of_eq rfl) (hb hby D15_32) (fun _ _ => ⟨rfl, rfl, (by decide : 2 + 0 ≤ _), (by decide : 6 + 0 ≤ _)⟩)
    dsimp only [Pt.U, Pt.locs, Pt.cells, Pt.slots] at X12 l12 y12 z12 st12 hQ12
    subst l12 y12 z12
    obtain ⟨rfl, Nq12, eq12⟩ := hQ12
    have c13 : SS p e below S0 (T12.setTop (mkF m 35 #[vr b, vi 0, vi 2, vr b2, vi (Int32.ofNat i), vr t9] [(.int (([ch0, ch1] : List Int32).getD i 0))])) := c11.trans (st12 _ (Steps.refl _))
    have N12 := Fr.app N9 Nq12
    have c14 : SS p e below S0 (T12.setTop (mkF m 56 #[vr b, vi 0, vi 2, vr b2, vi (Int32.ofNat i), vr t9] [(.ref t9)])) := c13.trans (by
      show SS p e below (T12.setTop (mkF m 35 #[vr b, vi 0, vi 2, vr b2, vi (Int32.ofNat i), vr t9] [(.int (([ch0, ch1] : List Int32).getD i 0))])) _
      refine XS.sipush X12.here hx rfl (hb hby D15_35) ?_
      refine XS.icmpYes X12.here hx rfl (pc0 := 38) (pc' := 54) rfl (hb hby D15_38) rfl (tlt hw1).2.2.1 (by decide) (by decide) ?_
      refine XS.aload X12.here hx rfl (hb hby D15_54) rfl rfl ?_
      exact Steps.refl _)
    obtain ⟨fs, hr, hrun, hended, hW, hsame⟩ := X12.leave (v := some (.ref t9)) (fun h => by rw [Bd.returns] at h; cases h)
    refine ⟨_, _, c14.trans (retOut X12 hx Bd.returns rfl (Or.inr (Or.inr (Or.inr (Or.inr ⟨rfl, rfl, rfl⟩)))) (hb hby D15_56) hr), hrun, hended, _, _, rfl, ?_, ⟨_, rfl⟩, hW, hsame.mono (by first | decide | exact Nat.le_of_ble_eq_true rfl) (by first | decide | exact Nat.le_of_ble_eq_true rfl)⟩
    show QC3 Z ([ch0, ch1] : List Int32) h0 n0 _ T12.heap _
    rw [eq12]
    exact ⟨_, _, _, _, _, rfl, N12, K9, (Nat.le_trans K5.1 gt9), Vt9, Or.inr ⟨rfl, rfl, rfl, _, own_gmem hi, hw1⟩⟩

theorem ef_rmN4_2 (m : MethodId) (x0 : Addr) (x1 : Addr) (x2 : Int32) (x3 : Int32) : entryFrame m #[(.ref x0), (.ref x1), (.int x2), (.int x3), .null] 6 = mkF m 0 #[.val (.ref x0), .val (.ref x1), .val (.int x2), .val (.int x3), .val .null, .unset] [] := by first | (simp [entryFrame, mkF, argsToLocals, Value.category]; done) | rfl
set_option maxRecDepth 65536 in
set_option maxHeartbeats 40000000 in
theorem rmN4_2 (l : Launch) (Z : State) (a0 : Array Value) (hw : ∀ d ∈ tables_1, d.before a0 Z = true) (ws : List Jvm.Cond) (x : Addr) (b : Addr) (kc : ClassId) (ch0 ch1 : Int32) (G1 : Int32) (h0 : Heap) (n0 : Nat) (Z0 : n0 ≤ h0.size) (g_x : n0 ≤ x) (Ex : Exa Z h0 x "java/lang/String") (Fv : Fld Z h0 x "java/lang/String" "value" "[B" .null) (Fc : Fld Z h0 x "java/lang/String" "coder" "B" (.int 0)) (Vb : Arv Z h0 b kc .char (2 : Int32) [.int ch0, .int ch1] (.int 0)) (hc0 : C16 ch0) (hc1 : C16 ch1) (sAD : Sta Z Z.heap "java/lang/StringUTF16" "$assertionsDisabled" "Z" (.int 1)) (sHI : Sta Z Z.heap "java/lang/StringUTF16" "HI_BYTE_SHIFT" "I" (.int 0)) (sLO : Sta Z Z.heap "java/lang/StringUTF16" "LO_BYTE_SHIFT" "I" (.int 8)) (O2 : Sta Z Z.heap "java/lang/String" "COMPACT_STRINGS" "Z" (.int G1)) (P5 : ¬ G1 = 0) (X00 : Old Z n0 h0) :
    MetFree l (⟨"java/lang/String", "<init>", "([CIILjava/lang/Void;)V"⟩ : MethodName) (head1 (Jvm.Cond.code (⟨"java/lang/String", "<init>", "([CIILjava/lang/Void;)V"⟩ : MethodName) jdk_42_method_149_code 6 (none) :: ws) ({ frames := 4, cells := 2, slots := 6, locals := 57 } : Room)) (fun aa U => aa = #[(.ref x), (.ref b), (.int 0), (.int 2), .null] ∧ Z.Warmed39 U.vm ∧ U.heap = h0) (fun _ _ _ _ _ => True) (fun _ U o U' => ∃ v L, o = .returned v ∧ QNw Z x ([ch0, ch1] : List Int32) h0 n0 v U'.heap L ∧ FrameEnd U o U' L ({ frames := 4, cells := 2, slots := 6, locals := 57 } : Room).cells ({ frames := 4, cells := 2, slots := 6, locals := 57 } : Room).slots) := by
  refine MetFree.of_bodySF (plainFor_of_name pn_java_lang_String) hisR ?_
  intro p e s m args below meth c s₁ Bd hml0 hP hK
  obtain ⟨rfl, hZ, hh⟩ := hP
  have hx := Bd.exec
  have hby := Bd.bytes
  have hml : c.maxLocals = 6 := hml0
  have hown : s.vm.findClass "java/lang/String" = some m.cls := findClass_of_methodNamed Bd.named
  have hnm := (name_of_methodNamed Bd.named Bd.method).1
  have X0 : Stand p l e ({ frames := 4, cells := 2, slots := 6, locals := 57 } : Room) s m #[(.ref x), (.ref b), (.int 0), (.int 2), .null] below meth c s₁ [] 0 0 := Stand.of_body Bd
  have e0 : s₁.heap = h0 := by rw [← hh, Bd.state]; rfl
  have N0 := Fr.nil n0
  have K0 := Keep.refl h0 [x]
  obtain ⟨S0, hS0⟩ : ∃ z, z = s₁.setTop (entryFrame m #[(.ref x), (.ref b), (.int 0), (.int 2), .null] 6) := ⟨_, rfl⟩
  rw [← hS0]
  have c0 : SS p e below S0 (s₁.setTop (mkF m 0 #[vr x, vr b, vi 0, vi 2, .val .null, .unset] [])) := by
    rw [hS0]; exact castTop (ef_rmN4_2 m x b (0 : Int32) (2 : Int32)) (Steps.refl _)
  have c1 : SS p e below S0 (s₁.setTop (mkF m 1 #[vr x, vr b, vi 0, vi 2, .val .null, .unset] [(.ref x)])) := c0.trans (by
    show SS p e below (s₁.setTop (mkF m 0 #[vr x, vr b, vi 0, vi 2, .val .null, .unset] [])) _
    refine XS.aloadN X0.here hx rfl (hb hby D16_0) rfl rfl ?_
    exact Steps.refl _)
  obtain ⟨T2, X2, e2, st2⟩ := initO X0 hx hZ hown (ww hw 18 rfl) (ww hw 19 rfl) (ww hw 20 rfl) e0 (g := (mkF m 1 #[vr x, vr b, vi 0, vi 2, .val .null, .unset] [(.ref x)])) rfl (by rw [hml]; rfl) rfl (hb hby D16_1) (by decide) (W := 0) (by show 2 * 0 + _ ≤ _; exact Nat.le_of_eq rfl) (by decide)
  have c3 : SS p e below S0 (T2.setTop (mkF m 4 #[vr x, vr b, vi 0, vi 2, .val .null, .unset] [])) := c1.trans (st2 _ (Steps.refl _))
  have c4 : SS p e below S0 (T2.setTop (mkF m 27 #[vr x, vr b, vi 0, vi 2, .val .null, .unset] [])) := c3.trans (by
    show SS p e below (T2.setTop (mkF m 4 #[vr x, vr b, vi 0, vi 2, .val .null, .unset] [])) _
    refine XS.iloadN X2.here hx rfl (hb hby D16_4) rfl ?_
    refine XS.ifYes X2.here hx rfl (pc0 := 5) (pc' := 27) rfl (hb hby D16_5) rfl ((if0 _ _).trans (feq (by decide : ¬ ((2 : Int32) = (0 : Int32)))).2) (by decide) (by decide) ?_
    exact Steps.refl _)
  obtain ⟨T5, X5, e5, st5⟩ := getS2 X2 hx hZ hown (host := "") (Or.inl (ww hw 49 rfl)) Via.refl e2 (O2.ext X00.2) (g := (mkF m 27 #[vr x, vr b, vi 0, vi 2, .val .null, .unset] [])) rfl (hb hby D16_27)
  have c6 : SS p e below S0 (T5.setTop (mkF m 30 #[vr x, vr b, vi 0, vi 2, .val .null, .unset] [(.int G1)])) := c4.trans (st5 _ (Steps.refl _))
  have c7 : SS p e below S0 (T5.setTop (mkF m 36 #[vr x, vr b, vi 0, vi 2, .val .null, .unset] [(.int 2), (.int 0), (.ref b)])) := c6.trans (by
    show SS p e below (T5.setTop (mkF m 30 #[vr x, vr b, vi 0, vi 2, .val .null, .unset] [(.int G1)])) _
    refine XS.ifNo X5.here hx rfl (hb hby D16_30) rfl ((if0 _ _).trans (feq P5).1) ?_
    refine XS.aloadN X5.here hx rfl (hb hby D16_33) rfl rfl ?_
    refine XS.iloadN X5.here hx rfl (hb hby D16_34) rfl ?_
    refine XS.iloadN X5.here hx rfl (hb hby D16_35) rfl ?_
    exact Steps.refl _)
  obtain ⟨_, _, ⟨T8, L8, kk8, nn8⟩, -, X8, ⟨Lc8, hQ8, l8, y8, z8⟩, st8⟩ := Jvm.LawKit.callS X5 hx (y := (⟨"java/lang/StringUTF16", "compress", "([CII)[B"⟩ : MethodName)) hown (mvT hZ (ww hw 50 rfl)) (mvT hZ (ww hw 51 rfl)) (mvT hZ (ww hw 52 rfl)) (mvT hZ (ww hw 53 rfl)) (by decide) (backOf (W := 0) (rmC3_2 l Z a0 hw [] b kc ch0 ch1  h0 n0 Z0 Vb hc0 hc1  sAD sHI sLO X00) hZ (ww hw 53 rfl) (ww hw 52 rfl) (by decide) (by decide)) (g := (mkF m 36 #[vr x, vr b, vi 0, vi 2, .val .null, .unset] [(.int 2), (.int 0), (.ref b)])) rfl (by rw [hml]; rfl) (argsL := [(.ref b), (.int 0), (.int 2)]) (rest := []) (lenOf pd_oaCIIcaB rfl) rfl (by show 2 * 0 + _ ≤ _; exact Nat.le_of_eq rfl) (hb hby D16_36) (fun _ _ => ⟨rfl, e5, (by decide : 0 + 2 ≤ _), (by decide : 0 + 6 ≤ _)⟩)
  dsimp only [Pt.U, Pt.locs, Pt.cells, Pt.slots] at X8 l8 y8 z8 st8 hQ8
  subst l8 y8 z8
  obtain ⟨t8, kb8, cd8, N28, vs8, rfl, Nq8, Kq8, gt8, Vt8, hcd8⟩ := hQ8
  have c9 : SS p e below S0 (T8.setTop (mkF m 39 #[vr x, vr b, vi 0, vi 2, .val .null, .unset] [(.ref t8)])) := c7.trans (st8 _ (Steps.refl _))
  have N8 := Fr.app N0 Nq8
  have z8 : n0 ≤ T8.heap.size := Nat.le_trans Z0 Kq8.1
  have K8 := K0.trans Kq8 all0
  have lt_t8 := Vt8.lt
  have hcd := hcd8
  rcases id hcd8 with ⟨e1, e2, e3, e4⟩ | ⟨e1, e2, e3, e4⟩
  · have e5 : N28 = (2 : Int32) := e2
    have Vy8 := Vt8
    rw [e5] at Vy8
    rw [e5, e1] at hcd
    have c10 : SS p e below S0 (T8.setTop (mkF m 45 #[vr x, vr b, vi 0, vi 2, .val .null, vr t8] [(.int 2), (.ref t8), (.ref x)])) := c9.trans (by
      show SS p e below (T8.setTop (mkF m 39 #[vr x, vr b, vi 0, vi 2, .val .null, .unset] [(.ref t8)])) _
      refine XS.astore X8.here hx rfl (hb hby D16_39) rfl rfl (l' := #[vr x, vr b, vi 0, vi 2, .val .null, vr t8]) rfl ?_
      refine XS.aloadN X8.here hx rfl (hb hby D16_41) rfl rfl ?_
      refine XS.aload X8.here hx rfl (hb hby D16_42) rfl rfl ?_
      refine XS.iloadN X8.here hx rfl (hb hby D16_44) rfl ?_
      exact Steps.refl _)
    obtain ⟨_, _, ⟨T11, L11, kk11, nn11⟩, -, X11, ⟨Lc11, hQ11, l11, y11, z11⟩, st11⟩ := Jvm.LawKit.callS X8 hx (y := (⟨"java/lang/StringUTF16", "coderFromArrayLen", "([BI)B"⟩ : MethodName)) hown (mvT hZ (ww hw 57 rfl)) (mvT hZ (ww hw 58 rfl)) (mvT hZ (ww hw 52 rfl)) (mvT hZ (ww hw 59 rfl)) (by decide) (backOf (W := 1) (rmCo l Z a0 hw [] t8 kb8 (2 : Int32) (2 : Int32) (0 : Int32) vs8 T8.heap n0 z8 Vy8 (by decide) rfl) hZ (ww hw 59 rfl) (ww hw 52 rfl) (by decide) (by decide)) (g := (mkF m 45 #[vr x, vr b, vi 0, vi 2, .val .null, vr t8] [(.int 2), (.ref t8), (.ref x)])) rfl (by rw [hml]; rfl) (argsL := [(.ref t8), (.int 2)]) (rest := [(.ref x)]) (lenOf pd_oaBIcB rfl) rfl (by show 2 * 0 + _ ≤ _; exact Nat.le_of_eq rfl) (hb hby D16_45) (fun _ _ => ⟨rfl, rfl, (by decide : 2 + 0 ≤ _), (by decide : 6 + 0 ≤ _)⟩)
    dsimp only [Pt.U, Pt.locs, Pt.cells, Pt.slots] at X11 l11 y11 z11 st11 hQ11
    subst l11 y11 z11
    obtain ⟨rfl, Nq11, eq11⟩ := hQ11
    have c12 : SS p e below S0 (T11.setTop (mkF m 48 #[vr x, vr b, vi 0, vi 2, .val .null, vr t8] [(.int 0), (.ref x)])) := c10.trans (st11 _ (Steps.refl _))
    have N11 := Fr.app N8 Nq11
    obtain ⟨T13, h13, X13, e13, W13, st13⟩ := putFN X11 hx hZ hown (ww hw 28 rfl) Via.refl eq11 (Fc.keep Kq8 nin0) (Ex.keep Kq8) (Or.inr ⟨(ww hw 24 rfl), rfl, hnm⟩) (ww hw 9 rfl) (ty := .byte) (v' := (.int 0)) (by decide) rfl rfl (g := (mkF m 48 #[vr x, vr b, vi 0, vi 2, .val .null, vr t8] [(.int 0), (.ref x)])) rfl rfl (hb hby D16_48)
    have c14 : SS p e below S0 (T13.setTop (mkF m 51 #[vr x, vr b, vi 0, vi 2, .val .null, vr t8] [])) := c12.trans (st13 _ (Steps.refl _))
    have N13 := Fr.snoc X13 N11 g_x
    have Fw13 := (Fc.keep Kq8 nin0).same W13
    have z13 : n0 ≤ h13.size := Nat.le_trans z8 (Keep.of_wr W13).1
    have K13 := K8.wr W13 (Or.inl (by simp))
    have c15 : SS p e below S0 (T13.setTop (mkF m 54 #[vr x, vr b, vi 0, vi 2, .val .null, vr t8] [(.ref t8), (.ref x)])) := c14.trans (by
      show SS p e below (T13.setTop (mkF m 51 #[vr x, vr b, vi 0, vi 2, .val .null, vr t8] [])) _
      refine XS.aloadN X13.here hx rfl (hb hby D16_51) rfl rfl ?_
      refine XS.aload X13.here hx rfl (hb hby D16_52) rfl rfl ?_
      exact Steps.refl _)
    obtain ⟨T16, h16, X16, e16, W16, st16⟩ := putF X13 hx hZ hown (host := "") (Or.inl (ww hw 27 rfl)) Via.refl e13 ((Fv.keep Kq8 nin0).other W13 (Or.inr (slot_ne (Or.inr (ww hw 23 rfl)) (Or.inr (ww hw 24 rfl)) (by decide) (t := (.array .byte)) (t' := .byte) (by decide) (by decide)))) ((Ex.keep Kq8).wr W13) (Or.inr ⟨(ww hw 23 rfl), rfl, hnm⟩) (ww hw 9 rfl) (ty := (.array .byte)) (by decide) rfl rfl (g := (mkF m 54 #[vr x, vr b, vi 0, vi 2, .val .null, vr t8] [(.ref t8), (.ref x)])) rfl rfl (hb hby D16_54)
    have c17 : SS p e below S0 (T16.setTop (mkF m 57 #[vr x, vr b, vi 0, vi 2, .val .null, vr t8] [])) := c15.trans (st16 _ (Steps.refl _))
    have N16 := Fr.snoc X16 N13 g_x
    have Fw16 := ((Fv.keep Kq8 nin0).other W13 (Or.inr (slot_ne (Or.inr (ww hw 23 rfl)) (Or.inr (ww hw 24 rfl)) (by decide) (t := (.array .byte)) (t' := .byte) (by decide) (by decide)))).same W16
    have z16 : n0 ≤ h16.size := Nat.le_trans z13 (Keep.of_wr W16).1
    have K16 := K13.wr W16 (Or.inl (by simp))
    obtain ⟨fs, hr, hrun, hended, hW, hsame⟩ := X16.leave (v := none) (fun h => rfl)
    refine ⟨_, _, c17.trans (X16.returnOut hx Bd.returns (hb hby D16_57) hr), hrun, hended, _, _, rfl, ?_, ⟨_, rfl⟩, hW, hsame.mono (by first | decide | exact Nat.le_of_ble_eq_true rfl) (by first | decide | exact Nat.le_of_ble_eq_true rfl)⟩
    show QNw Z x ([ch0, ch1] : List Int32) h0 n0 _ T16.heap _
    rw [e16]
    exact ⟨_, _, _, _, _, rfl, N16, K16, (((Ex.keep Kq8).wr W13).wr W16), Fw16, (Fw13.other W16 (Or.inr (slot_ne (Or.inr (ww hw 24 rfl)) (Or.inr (ww hw 23 rfl)) (by decide) (t := .byte) (t' := (.array .byte)) (by decide) (by decide)))), ((Vy8.other W13 (Ne.symm (Nat.ne_of_lt (Nat.lt_of_lt_of_le Ex.lt gt8)))).other W16 (Ne.symm (Nat.ne_of_lt (Nat.lt_of_lt_of_le Ex.lt gt8)))), hcd, (own_alS hc0 (own_alS hc1 own_al0)), Nat.le_of_ble_eq_true rfl⟩
  · have e5 : N28 = (4 : Int32) := e2
    have Vy8 := Vt8
    rw [e5] at Vy8
    rw [e5, e1] at hcd
    have c18 : SS p e below S0 (T8.setTop (mkF m 45 #[vr x, vr b, vi 0, vi 2, .val .null, vr t8] [(.int 2), (.ref t8), (.ref x)])) := c9.trans (by
      show SS p e below (T8.setTop (mkF m 39 #[vr x, vr b, vi 0, vi 2, .val .null, .unset] [(.ref t8)])) _
      refine XS.astore X8.here hx rfl (hb hby D16_39) rfl rfl (l' := #[vr x, vr b, vi 0, vi 2, .val .null, vr t8]) rfl ?_
      refine XS.aloadN X8.here hx rfl (hb hby D16_41) rfl rfl ?_
      refine XS.aload X8.here hx rfl (hb hby D16_42) rfl rfl ?_
      refine XS.iloadN X8.here hx rfl (hb hby D16_44) rfl ?_
      exact Steps.refl _)
    obtain ⟨_, _, ⟨T19, L19, kk19, nn19⟩, -, X19, ⟨Lc19, hQ19, l19, y19, z19⟩, st19⟩ := Jvm.LawKit.callS X8 hx (y := (⟨"java/lang/StringUTF16", "coderFromArrayLen", "([BI)B"⟩ : MethodName)) hown (mvT hZ (ww hw 57 rfl)) (mvT hZ (ww hw 58 rfl)) (mvT hZ (ww hw 52 rfl)) (mvT hZ (ww hw 59 rfl)) (by decide) (backOf (W := 1) (rmCo l Z a0 hw [] t8 kb8 (2 : Int32) (4 : Int32) (1 : Int32) vs8 T8.heap n0 z8 Vy8 (by decide) rfl) hZ (ww hw 59 rfl) (ww hw 52 rfl) (by decide) (by decide)) (g := (mkF m 45 #[vr x, vr b, vi 0, vi 2, .val .null, vr t8] [(.int 2), (.ref t8), (.ref x)])) rfl (by rw [hml]; rfl) (argsL := [(.ref t8), (.int 2)]) (rest := [(.ref x)]) (lenOf pd_oaBIcB rfl) rfl (by show 2 * 0 + _ ≤ _; exact Nat.le_of_eq rfl) (hb hby D16_45) (fun _ _ => ⟨rfl, rfl, (by decide : 2 + 0 ≤ _), (by decide : 6 + 0 ≤ _)⟩)
    dsimp only [Pt.U, Pt.locs, Pt.cells, Pt.slots] at X19 l19 y19 z19 st19 hQ19
    subst l19 y19 z19
    obtain ⟨rfl, Nq19, eq19⟩ := hQ19
    have c20 : SS p e below S0 (T19.setTop (mkF m 48 #[vr x, vr b, vi 0, vi 2, .val .null, vr t8] [(.int 1), (.ref x)])) := c18.trans (st19 _ (Steps.refl _))
    have N19 := Fr.app N8 Nq19
    obtain ⟨T21, h21, X21, e21, W21, st21⟩ := putFN X19 hx hZ hown (ww hw 28 rfl) Via.refl eq19 (Fc.keep Kq8 nin0) (Ex.keep Kq8) (Or.inr ⟨(ww hw 24 rfl), rfl, hnm⟩) (ww hw 9 rfl) (ty := .byte) (v' := (.int 1)) (by decide) rfl rfl (g := (mkF m 48 #[vr x, vr b, vi 0, vi 2, .val .null, vr t8] [(.int 1), (.ref x)])) rfl rfl (hb hby D16_48)
    have c22 : SS p e below S0 (T21.setTop (mkF m 51 #[vr x, vr b, vi 0, vi 2, .val .null, vr t8] [])) := c20.trans (st21 _ (Steps.refl _))
    have N21 := Fr.snoc X21 N19 g_x
    have Fw21 := (Fc.keep Kq8 nin0).same W21
    have z21 : n0 ≤ h21.size := Nat.le_trans z8 (Keep.of_wr W21).1
    have K21 := K8.wr W21 (Or.inl (by simp))
    have c23 : SS p e below S0 (T21.setTop (mkF m 54 #[vr x, vr b, vi 0, vi 2, .val .null, vr t8] [(.ref t8), (.ref x)])) := c22.trans (by
      show SS p e below (T21.setTop (mkF m 51 #[vr x, vr b, vi 0, vi 2, .val .null, vr t8] [])) _
      refine XS.aloadN X21.here hx rfl (hb hby D16_51) rfl rfl ?_
      refine XS.aload X21.here hx rfl (hb hby D16_52) rfl rfl ?_
      exact Steps.refl _)
    obtain ⟨T24, h24, X24, e24, W24, st24⟩ := putF X21 hx hZ hown (host := "") (Or.inl (ww hw 27 rfl)) Via.refl e21 ((Fv.keep Kq8 nin0).other W21 (Or.inr (slot_ne (Or.inr (ww hw 23 rfl)) (Or.inr (ww hw 24 rfl)) (by decide) (t := (.array .byte)) (t' := .byte) (by decide) (by decide)))) ((Ex.keep Kq8).wr W21) (Or.inr ⟨(ww hw 23 rfl), rfl, hnm⟩) (ww hw 9 rfl) (ty := (.array .byte)) (by decide) rfl rfl (g := (mkF m 54 #[vr x, vr b, vi 0, vi 2, .val .null, vr t8] [(.ref t8), (.ref x)])) rfl rfl (hb hby D16_54)
    have c25 : SS p e below S0 (T24.setTop (mkF m 57 #[vr x, vr b, vi 0, vi 2, .val .null, vr t8] [])) := c23.trans (st24 _ (Steps.refl _))
    have N24 := Fr.snoc X24 N21 g_x
    have Fw24 := ((Fv.keep Kq8 nin0).other W21 (Or.inr (slot_ne (Or.inr (ww hw 23 rfl)) (Or.inr (ww hw 24 rfl)) (by decide) (t := (.array .byte)) (t' := .byte) (by decide) (by decide)))).same W24
    have z24 : n0 ≤ h24.size := Nat.le_trans z21 (Keep.of_wr W24).1
    have K24 := K21.wr W24 (Or.inl (by simp))
    obtain ⟨fs, hr, hrun, hended, hW, hsame⟩ := X24.leave (v := none) (fun h => rfl)
    refine ⟨_, _, c25.trans (X24.returnOut hx Bd.returns (hb hby D16_57) hr), hrun, hended, _, _, rfl, ?_, ⟨_, rfl⟩, hW, hsame.mono (by first | decide | exact Nat.le_of_ble_eq_true rfl) (by first | decide | exact Nat.le_of_ble_eq_true rfl)⟩
    show QNw Z x ([ch0, ch1] : List Int32) h0 n0 _ T24.heap _
    rw [e24]
    exact ⟨_, _, _, _, _, rfl, N24, K24, (((Ex.keep Kq8).wr W21).wr W24), Fw24, (Fw21.other W24 (Or.inr (slot_ne (Or.inr (ww hw 24 rfl)) (Or.inr (ww hw 23 rfl)) (by decide) (t := .byte) (t' := (.array .byte)) (by decide) (by decide)))), ((Vy8.other W21 (Ne.symm (Nat.ne_of_lt (Nat.lt_of_lt_of_le Ex.lt gt8)))).other W24 (Ne.symm (Nat.ne_of_lt (Nat.lt_of_lt_of_le Ex.lt gt8)))), hcd, (own_alS hc0 (own_alS hc1 own_al0)), Nat.le_of_ble_eq_true rfl⟩

theorem ef_rmN1_2 (m : MethodId) (x0 : Addr) (x1 : Addr) : entryFrame m #[(.ref x0), (.ref x1)] 2 = mkF m 0 #[.val (.ref x0), .val (.ref x1)] [] := by first | (simp [entryFrame, mkF, argsToLocals, Value.category]; done) | rfl
set_option maxRecDepth 65536 in
set_option maxHeartbeats 40000000 in
theorem rmN1_2 (l : Launch) (Z : State) (a0 : Array Value) (hw : ∀ d ∈ tables_1, d.before a0 Z = true) (ws : List Jvm.Cond) (x : Addr) (b : Addr) (kc : ClassId) (ch0 ch1 : Int32) (G1 : Int32) (h0 : Heap) (n0 : Nat) (Z0 : n0 ≤ h0.size) (g_x : n0 ≤ x) (Ex : Exa Z h0 x "java/lang/String") (Fv : Fld Z h0 x "java/lang/String" "value" "[B" .null) (Fc : Fld Z h0 x "java/lang/String" "coder" "B" (.int 0)) (Vb : Arv Z h0 b kc .char (2 : Int32) [.int ch0, .int ch1] (.int 0)) (hc0 : C16 ch0) (hc1 : C16 ch1) (sAD : Sta Z Z.heap "java/lang/StringUTF16" "$assertionsDisabled" "Z" (.int 1)) (sHI : Sta Z Z.heap "java/lang/StringUTF16" "HI_BYTE_SHIFT" "I" (.int 0)) (sLO : Sta Z Z.heap "java/lang/StringUTF16" "LO_BYTE_SHIFT" "I" (.int 8)) (O2 : Sta Z Z.heap "java/lang/String" "COMPACT_STRINGS" "Z" (.int G1)) (P5 : ¬ G1 = 0) (X00 : Old Z n0 h0) :
    MetFree l (⟨"java/lang/String", "<init>", "([C)V"⟩ : MethodName) (head1 (Jvm.Cond.code (⟨"java/lang/String", "<init>", "([C)V"⟩ : MethodName) jdk_42_method_3_code 2 (none) :: ws) ({ frames := 5, cells := 2, slots := 6, locals := 74 } : Room)) (fun aa U => aa = #[(.ref x), (.ref b)] ∧ Z.Warmed39 U.vm ∧ U.heap = h0) (fun _ _ _ _ _ => True) (fun _ U o U' => ∃ v L, o = .returned v ∧ QNw Z x ([ch0, ch1] : List Int32) h0 n0 v U'.heap L ∧ FrameEnd U o U' L ({ frames := 5, cells := 2, slots := 6, locals := 74 } : Room).cells ({ frames := 5, cells := 2, slots := 6, locals := 74 } : Room).slots) := by
  refine MetFree.of_bodySF (plainFor_of_name pn_java_lang_String) hisR ?_
  intro p e s m args below meth c s₁ Bd hml0 hP hK
  obtain ⟨rfl, hZ, hh⟩ := hP
  have hx := Bd.exec
  have hby := Bd.bytes
  have hml : c.maxLocals = 2 := hml0
  have hown : s.vm.findClass "java/lang/String" = some m.cls := findClass_of_methodNamed Bd.named
  have hnm := (name_of_methodNamed Bd.named Bd.method).1
  have X0 : Stand p l e ({ frames := 5, cells := 2, slots := 6, locals := 74 } : Room) s m #[(.ref x), (.ref b)] below meth c s₁ [] 0 0 := Stand.of_body Bd
  have e0 : s₁.heap = h0 := by rw [← hh, Bd.state]; rfl
  have N0 := Fr.nil n0
  have K0 := Keep.refl h0 [x]
  obtain ⟨S0, hS0⟩ : ∃ z, z = s₁.setTop (entryFrame m #[(.ref x), (.ref b)] 2) := ⟨_, rfl⟩
  rw [← hS0]
  have c0 : SS p e below S0 (s₁.setTop (mkF m 0 #[vr x, vr b] [])) := by
    rw [hS0]; exact castTop (ef_rmN1_2 m x b) (Steps.refl _)
  have c1 : SS p e below S0 (s₁.setTop (mkF m 4 #[vr x, vr b] [(.ref b), (.int 0), (.ref b), (.ref x)])) := c0.trans (by
    show SS p e below (s₁.setTop (mkF m 0 #[vr x, vr b] [])) _
    refine XS.aloadN X0.here hx rfl (hb hby D17_0) rfl rfl ?_
    refine XS.aloadN X0.here hx rfl (hb hby D17_1) rfl rfl ?_
    refine XS.iconst X0.here hx rfl (hb hby D17_2) ?_
    refine XS.aloadN X0.here hx rfl (hb hby D17_3) rfl rfl ?_
    exact Steps.refl _)
  obtain ⟨cl2, Ar2, -, S2, Nn2, -, -⟩ := id Vb
  have c3 : SS p e below S0 (s₁.setTop (mkF m 6 #[vr x, vr b] [.null, (.int 2), (.int 0), (.ref b), (.ref x)])) := c1.trans (by
    show SS p e below (s₁.setTop (mkF m 4 #[vr x, vr b] [(.ref b), (.int 0), (.ref b), (.ref x)])) _
    refine X0.arraylength hx (by rw [e0]; exact Ar2.1) (State.isArrayOf_alike hZ.alike Ar2.2.1) (g := (mkF m 4 #[vr x, vr b] [(.ref b), (.int 0), (.ref b), (.ref x)])) rfl rfl (hb hby D17_4) _ ?_
    rw [len_of S2 Nn2]
    refine XS.aconstNull X0.here hx rfl (hb hby D17_5) ?_
    exact Steps.refl _)
  obtain ⟨_, _, ⟨T4, L4, kk4, nn4⟩, -, X4, ⟨Lc4, hQ4, l4, y4, z4⟩, st4⟩ := X0.specialBack hx (y := (⟨"java/lang/String", "<init>", "([CIILjava/lang/Void;)V"⟩ : MethodName)) rfl hown (mvT hZ (ww hw 14 rfl)) (mvT hZ (ww hw 15 rfl)) (mvT hZ (ww hw 17 rfl)) (by decide) (backOf (W := 0) (rmN4_2 l Z a0 hw [] x b kc ch0 ch1  G1 h0 n0 Z0 g_x Ex Fv Fc Vb hc0 hc1  sAD sHI sLO O2 P5 X00) hZ (ww hw 17 rfl) (ww hw 10 rfl) (by decide) (by decide)) (g := (mkF m 6 #[vr x, vr b] [.null, (.int 2), (.int 0), (.ref b), (.ref x)])) rfl (by rw [hml]; rfl) (Steps.refl _) (a := x) (argsL := [(.ref b), (.int 0), (.int 2), .null]) (rest := []) (lenOf pd_oaCIILjavaslangsVoidecV rfl) rfl (by show 2 * 0 + _ ≤ _; exact Nat.le_of_eq rfl) (hb hby D17_6) (fun _ _ => ⟨rfl, e0, (by decide : 0 + 2 ≤ _), (by decide : 0 + 6 ≤ _)⟩)
  dsimp only [Pt.U, Pt.locs, Pt.cells, Pt.slots] at X4 l4 y4 z4 st4 hQ4
  subst l4 y4 z4
  obtain ⟨t4, kb4, cd4, N24, vs4, rfl, Nq4, Kq4, Sg4⟩ := hQ4
  have c5 : SS p e below S0 (T4.setTop (mkF m 9 #[vr x, vr b] [])) := c3.trans (st4)
  have N4 := Fr.app N0 Nq4
  have z4 : n0 ≤ T4.heap.size := Nat.le_trans Z0 Kq4.1
  have K4 := K0.trans Kq4 (allS (Or.inl (by simp)) all0)
  obtain ⟨fs, hr, hrun, hended, hW, hsame⟩ := X4.leave (v := none) (fun h => rfl)
  refine ⟨_, _, c5.trans (X4.returnOut hx Bd.returns (hb hby D17_9) hr), hrun, hended, _, _, rfl, ?_, ⟨_, rfl⟩, hW, hsame.mono (by first | decide | exact Nat.le_of_ble_eq_true rfl) (by first | decide | exact Nat.le_of_ble_eq_true rfl)⟩
  show QNw Z x ([ch0, ch1] : List Int32) h0 n0 _ T4.heap _
  exact ⟨_, _, _, _, _, rfl, N4, K4, Sg4⟩

theorem ef_rmC5_3 (m : MethodId) (x0 : Addr) (x1 : Int32) (x2 : Addr) (x3 : Int32) (x4 : Int32) : entryFrame m #[(.ref x0), (.int x1), (.ref x2), (.int x3), (.int x4)] 7 = mkF m 0 #[.val (.ref x0), .val (.int x1), .val (.ref x2), .val (.int x3), .val (.int x4), .unset, .unset] [] := by first | (simp [entryFrame, mkF, argsToLocals, Value.category]; done) | rfl
set_option maxRecDepth 65536 in
set_option maxHeartbeats 40000000 in
theorem rmC5_3 (l : Launch) (Z : State) (a0 : Array Value) (hw : ∀ d ∈ tables_1, d.before a0 Z = true) (ws : List Jvm.Cond) (d : Addr) (kd : ClassId) (b : Addr) (kc : ClassId) (ch0 ch1 ch2 : Int32)  (h0 : Heap) (n0 : Nat) (Z0 : n0 ≤ h0.size) (g_d : n0 ≤ d) (hbd : b ≠ d) (Vd : Arv Z h0 d kd .byte (3 : Int32) [.int (0 : Int32), .int (0 : Int32), .int (0 : Int32)] (.int 0)) (Vb : Arv Z h0 b kc .char (3 : Int32) [.int ch0, .int ch1, .int ch2] (.int 0)) (hc0 : C16 ch0) (hc1 : C16 ch1) (hc2 : C16 ch2)  :
    MetFree l (⟨"java/lang/StringUTF16", "compress", "([CI[BII)I"⟩ : MethodName) (head1 (Jvm.Cond.code (⟨"java/lang/StringUTF16", "compress", "([CI[BII)I"⟩ : MethodName) jdk_52_method_21_code 7 (some .int) :: ws) ({ frames := 0, cells := 0, slots := 0, locals := 0 } : Room)) (fun aa U => aa = #[(.ref b), (.int 0), (.ref d), (.int 0), (.int 3)] ∧ Z.Warmed39 U.vm ∧ U.heap = h0) (fun _ _ _ _ _ => True) (fun _ U o U' => ∃ v L, o = .returned v ∧ Q5 Z ([ch0, ch1, ch2] : List Int32) d kd h0 n0 v U'.heap L ∧ FrameEnd U o U' L ({ frames := 0, cells := 0, slots := 0, locals := 0 } : Room).cells ({ frames := 0, cells := 0, slots := 0, locals := 0 } : Room).slots) := by
  refine MetFree.of_bodySF (plainFor_of_name pn_java_lang_StringUTF16) hisR ?_
  intro p e s m args below meth c s₁ Bd hml0 hP hK
  obtain ⟨rfl, hZ, hh⟩ := hP
  have hx := Bd.exec
  have hby := Bd.bytes
  have hml : c.maxLocals = 7 := hml0
  have hown : s.vm.findClass "java/lang/StringUTF16" = some m.cls := findClass_of_methodNamed Bd.named
  have hnm := (name_of_methodNamed Bd.named Bd.method).1
  have X0 : Stand p l e ({ frames := 0, cells := 0, slots := 0, locals := 0 } : Room) s m #[(.ref b), (.int 0), (.ref d), (.int 0), (.int 3)] below meth c s₁ [] 0 0 := Stand.of_body Bd
  have e0 : s₁.heap = h0 := by rw [← hh, Bd.state]; rfl
  have N0 := Fr.nil n0
  have K0 := Keep.refl h0 [d]
  obtain ⟨S0, hS0⟩ : ∃ z, z = s₁.setTop (entryFrame m #[(.ref b), (.int 0), (.ref d), (.int 0), (.int 3)] 7) := ⟨_, rfl⟩
  rw [← hS0]
  have c0 : SS p e below S0 (s₁.setTop (mkF m 0 #[vr b, vi 0, vr d, vi 0, vi 3, .unset, .unset] [])) := by
    rw [hS0]; exact castTop (ef_rmC5_3 m b (0 : Int32) d (0 : Int32) (3 : Int32)) (Steps.refl _)
  have c1 : SS p e below S0 (s₁.setTop (mkF m 12 #[vr b, vi 0, vr d, vi 0, vi 3, vi 0, .unset] [(.int 0), (.ref b)])) := c0.trans (by
    show SS p e below (s₁.setTop (mkF m 0 #[vr b, vi 0, vr d, vi 0, vi 3, .unset, .unset] [])) _
    refine XS.iconst X0.here hx rfl (hb hby D12_0) ?_
    refine XS.istore X0.here hx rfl (hb hby D12_1) rfl (l' := #[vr b, vi 0, vr d, vi 0, vi 3, vi 0, .unset]) rfl ?_
    refine XS.iload X0.here hx rfl (hb hby D12_3) rfl ?_
    refine XS.iload X0.here hx rfl (hb hby D12_5) rfl ?_
    refine XS.icmpNo X0.here hx rfl (hb hby D12_7) rfl (tlt (by decide : ((0 : Int32) < (3 : Int32)))).2.1 ?_
    refine XS.aloadN X0.here hx rfl (hb hby D12_10) rfl rfl ?_
    refine XS.iloadN X0.here hx rfl (hb hby D12_11) rfl ?_
    exact Steps.refl _)
  obtain ⟨cl2, Ar2, -, S2, -, Ha2, -⟩ := id Vb
  have c3 : SS p e below S0 (s₁.setTop (mkF m 20 #[vr b, vi 0, vr d, vi 0, vi 3, vi 0, vi ch0] [(.int 255), (.int ch0)])) := c1.trans (by
    show SS p e below (s₁.setTop (mkF m 12 #[vr b, vi 0, vr d, vi 0, vi 3, vi 0, .unset] [(.int 0), (.ref b)])) _
    refine X0.caload hx (j := (0 : Int32)) (v := (.int ch0)) (by rw [e0]; exact Ar2.1) (State.isArrayOf_alike hZ.alike Ar2.2.1) Ar2.2.2 (inb_of S2 ⟨by decide, by decide⟩) (Ha2.at (inb_of S2 ⟨by decide, by decide⟩) rfl) (g := (mkF m 12 #[vr b, vi 0, vr d, vi 0, vi 3, vi 0, .unset] [(.int 0), (.ref b)])) rfl rfl (hb hby D12_12) _ ?_
    refine XS.istore X0.here hx rfl (hb hby D12_13) rfl (l' := #[vr b, vi 0, vr d, vi 0, vi 3, vi 0, vi ch0]) rfl ?_
    refine XS.iload X0.here hx rfl (hb hby D12_15) rfl ?_
    refine XS.sipush X0.here hx rfl (hb hby D12_17) ?_
    exact Steps.refl _)
  by_cases hq4 : (255 : Int32) < ch0
  · have c5 : SS p e below S0 (s₁.setTop (mkF m 25 #[vr b, vi 0, vr d, vi 0, vi 3, vi 0, vi ch0] [(.int 0)])) := c3.trans (by
      show SS p e below (s₁.setTop (mkF m 20 #[vr b, vi 0, vr d, vi 0, vi 3, vi 0, vi ch0] [(.int 255), (.int ch0)])) _
      refine XS.icmpNo X0.here hx rfl (hb hby D12_20) rfl (tlt hq4).2.2.2 ?_
      refine XS.iload X0.here hx rfl (hb hby D12_23) rfl ?_
      exact Steps.refl _)
    obtain ⟨fs, hr, hrun, hended, hW, hsame⟩ := X0.leave (v := some (.int 0)) (fun h => by rw [Bd.returns] at h; cases h)
    refine ⟨_, _, c5.trans (retOut X0 hx Bd.returns rfl (Or.inl ⟨rfl, by simp, _, rfl⟩) (hb hby D12_25) hr), hrun, hended, _, _, rfl, ?_, ⟨_, rfl⟩, hW, hsame.mono (by first | decide | exact Nat.le_of_ble_eq_true rfl) (by first | decide | exact Nat.le_of_ble_eq_true rfl)⟩
    show Q5 Z ([ch0, ch1, ch2] : List Int32) d kd h0 n0 _ s₁.heap _
    rw [e0]
    exact ⟨_, rfl, N0, K0, Or.inr ⟨0, Nat.le_of_ble_eq_true rfl, rfl, hq4⟩⟩
  · have c6 : SS p e below S0 (s₁.setTop (mkF m 31 #[vr b, vi 0, vr d, vi 0, vi 3, vi 0, vi ch0] [(.int (ch0.toInt8.toInt32)), (.int 0), (.ref d)])) := c3.trans (by
      show SS p e below (s₁.setTop (mkF m 20 #[vr b, vi 0, vr d, vi 0, vi 3, vi 0, vi ch0] [(.int 255), (.int ch0)])) _
      refine XS.icmpYes X0.here hx rfl (pc0 := 20) (pc' := 26) rfl (hb hby D12_20) rfl (flt hq4).2.2.2 (by decide) (by decide) ?_
      refine XS.aloadN X0.here hx rfl (hb hby D12_26) rfl rfl ?_
      refine XS.iloadN X0.here hx rfl (hb hby D12_27) rfl ?_
      refine XS.iload X0.here hx rfl (hb hby D12_28) rfl ?_
      refine XS.i2b X0.here hx rfl (hb hby D12_30) rfl ?_
      exact Steps.refl _)
    obtain ⟨cl7, Ar7, q7, S7, Nn7, Ha7, G7⟩ := id Vd
    obtain ⟨T7, h7, X7, e7, W7, st7⟩ := stB X0 hx hZ e0 Ar7 (j := (0 : Int32)) (inb_of S7 ⟨by decide, by decide⟩) (g := (mkF m 31 #[vr b, vi 0, vr d, vi 0, vi 3, vi 0, vi ch0] [(.int (ch0.toInt8.toInt32)), (.int 0), (.ref d)])) rfl rfl (hb hby D12_31)
    have V7 : Arv Z h7 d kd .byte (3 : Int32) [(.int ((ch0.toInt8.toInt32).toInt8.toInt32)), (.int 0), (.int 0)] (.int 0) := Arv.set Ar7 q7 S7 Nn7 Ha7 G7 (fits_nar_byte _) W7 0 rfl (Nat.le_of_ble_eq_true rfl)
    have c8 : SS p e below S0 (T7.setTop (mkF m 32 #[vr b, vi 0, vr d, vi 0, vi 3, vi 0, vi ch0] [])) := c6.trans (st7 _ (Steps.refl _))
    have N7 := Fr.snoc X7 N0 g_d
    have z7 : n0 ≤ h7.size := Nat.le_trans Z0 (Keep.of_wr W7).1
    have K7 := K0.wr W7 (Or.inl (by simp))
    have c9 : SS p e below S0 (T7.setTop (mkF m 12 #[vr b, vi 1, vr d, vi 1, vi 3, vi 1, vi ch0] [(.int 1), (.ref b)])) := c8.trans (by
      show SS p e below (T7.setTop (mkF m 32 #[vr b, vi 0, vr d, vi 0, vi 3, vi 0, vi ch0] [])) _
      refine XS.iinc X7.here hx rfl (hb hby D12_32) rfl (l' := #[vr b, vi 1, vr d, vi 0, vi 3, vi 0, vi ch0]) rfl ?_
      refine XS.iinc X7.here hx rfl (hb hby D12_35) rfl (l' := #[vr b, vi 1, vr d, vi 1, vi 3, vi 0, vi ch0]) rfl ?_
      refine XS.iinc X7.here hx rfl (hb hby D12_38) rfl (l' := #[vr b, vi 1, vr d, vi 1, vi 3, vi 1, vi ch0]) rfl ?_
      refine XS.goto X7.here hx rfl (pc0 := 41) (pc' := 3) rfl (hb hby D12_41) (by decide) (by decide) ?_
      refine XS.iload X7.here hx rfl (hb hby D12_3) rfl ?_
      refine XS.iload X7.here hx rfl (hb hby D12_5) rfl ?_
      refine XS.icmpNo X7.here hx rfl (hb hby D12_7) rfl (tlt (by decide : ((1 : Int32) < (3 : Int32)))).2.1 ?_
      refine XS.aloadN X7.here hx rfl (hb hby D12_10) rfl rfl ?_
      refine XS.iloadN X7.here hx rfl (hb hby D12_11) rfl ?_
      exact Steps.refl _)
    obtain ⟨cl10, Ar10, -, S10, -, Ha10, -⟩ := id (Vb.other W7 hbd)
    have c11 : SS p e below S0 (T7.setTop (mkF m 20 #[vr b, vi 1, vr d, vi 1, vi 3, vi 1, vi ch1] [(.int 255), (.int ch1)])) := c9.trans (by
      show SS p e below (T7.setTop (mkF m 12 #[vr b, vi 1, vr d, vi 1, vi 3, vi 1, vi ch0] [(.int 1), (.ref b)])) _
      refine X7.caload hx (j := (1 : Int32)) (v := (.int ch1)) (by rw [e7]; exact Ar10.1) (State.isArrayOf_alike hZ.alike Ar10.2.1) Ar10.2.2 (inb_of S10 ⟨by decide, by decide⟩) (Ha10.at (inb_of S10 ⟨by decide, by decide⟩) rfl) (g := (mkF m 12 #[vr b, vi 1, vr d, vi 1, vi 3, vi 1, vi ch0] [(.int 1), (.ref b)])) rfl rfl (hb hby D12_12) _ ?_
      refine XS.istore X7.here hx rfl (hb hby D12_13) rfl (l' := #[vr b, vi 1, vr d, vi 1, vi 3, vi 1, vi ch1]) rfl ?_
      refine XS.iload X7.here hx rfl (hb hby D12_15) rfl ?_
      refine XS.sipush X7.here hx rfl (hb hby D12_17) ?_
      exact Steps.refl _)
    by_cases hq12 : (255 : Int32) < ch1
    · have c13 : SS p e below S0 (T7.setTop (mkF m 25 #[vr b, vi 1, vr d, vi 1, vi 3, vi 1, vi ch1] [(.int 1)])) := c11.trans (by
        show SS p e below (T7.setTop (mkF m 20 #[vr b, vi 1, vr d, vi 1, vi 3, vi 1, vi ch1] [(.int 255), (.int ch1)])) _
        refine XS.icmpNo X7.here hx rfl (hb hby D12_20) rfl (tlt hq12).2.2.2 ?_
        refine XS.iload X7.here hx rfl (hb hby D12_23) rfl ?_
        exact Steps.refl _)
      obtain ⟨fs, hr, hrun, hended, hW, hsame⟩ := X7.leave (v := some (.int 1)) (fun h => by rw [Bd.returns] at h; cases h)
      refine ⟨_, _, c13.trans (retOut X7 hx Bd.returns rfl (Or.inl ⟨rfl, by simp, _, rfl⟩) (hb hby D12_25) hr), hrun, hended, _, _, rfl, ?_, ⟨_, rfl⟩, hW, hsame.mono (by first | decide | exact Nat.le_of_ble_eq_true rfl) (by first | decide | exact Nat.le_of_ble_eq_true rfl)⟩
      show Q5 Z ([ch0, ch1, ch2] : List Int32) d kd h0 n0 _ T7.heap _
      rw [e7]
      exact ⟨_, rfl, N7, K7, Or.inr ⟨1, Nat.le_of_ble_eq_true rfl, rfl, hq12⟩⟩
    · have c14 : SS p e below S0 (T7.setTop (mkF m 31 #[vr b, vi 1, vr d, vi 1, vi 3, vi 1, vi ch1] [(.int (ch1.toInt8.toInt32)), (.int 1), (.ref d)])) := c11.trans (by
        show SS p e below (T7.setTop (mkF m 20 #[vr b, vi 1, vr d, vi 1, vi 3, vi 1, vi ch1] [(.int 255), (.int ch1)])) _
        refine XS.icmpYes X7.here hx rfl (pc0 := 20) (pc' := 26) rfl (hb hby D12_20) rfl (flt hq12).2.2.2 (by decide) (by decide) ?_
        refine XS.aloadN X7.here hx rfl (hb hby D12_26) rfl rfl ?_
        refine XS.iloadN X7.here hx rfl (hb hby D12_27) rfl ?_
        refine XS.iload X7.here hx rfl (hb hby D12_28) rfl ?_
        refine XS.i2b X7.here hx rfl (hb hby D12_30) rfl ?_
        exact Steps.refl _)
      obtain ⟨cl15, Ar15, q15, S15, Nn15, Ha15, G15⟩ := id V7
      obtain ⟨T15, h15, X15, e15, W15, st15⟩ := stB X7 hx hZ e7 Ar15 (j := (1 : Int32)) (inb_of S15 ⟨by decide, by decide⟩) (g := (mkF m 31 #[vr b, vi 1, vr d, vi 1, vi 3, vi 1, vi ch1] [(.int (ch1.toInt8.toInt32)), (.int 1), (.ref d)])) rfl rfl (hb hby D12_31)
      have V15 : Arv Z h15 d kd .byte (3 : Int32) [(.int ((ch0.toInt8.toInt32).toInt8.toInt32)), (.int ((ch1.toInt8.toInt32).toInt8.toInt32)), (.int 0)] (.int 0) := Arv.set Ar15 q15 S15 Nn15 Ha15 G15 (fits_nar_byte _) W15 1 rfl (Nat.le_of_ble_eq_true rfl)
      have c16 : SS p e below S0 (T15.setTop (mkF m 32 #[vr b, vi 1, vr d, vi 1, vi 3, vi 1, vi ch1] [])) := c14.trans (st15 _ (Steps.refl _))
      have N15 := Fr.snoc X15 N7 g_d
      have z15 : n0 ≤ h15.size := Nat.le_trans z7 (Keep.of_wr W15).1
      have K15 := K7.wr W15 (Or.inl (by simp))
      have c17 : SS p e below S0 (T15.setTop (mkF m 12 #[vr b, vi 2, vr d, vi 2, vi 3, vi 2, vi ch1] [(.int 2), (.ref b)])) := c16.trans (by
        show SS p e below (T15.setTop (mkF m 32 #[vr b, vi 1, vr d, vi 1, vi 3, vi 1, vi ch1] [])) _
        refine XS.iinc X15.here hx rfl (hb hby D12_32) rfl (l' := #[vr b, vi 2, vr d, vi 1, vi 3, vi 1, vi ch1]) rfl ?_
        refine XS.iinc X15.here hx rfl (hb hby D12_35) rfl (l' := #[vr b, vi 2, vr d, vi 2, vi 3, vi 1, vi ch1]) rfl ?_
        refine XS.iinc X15.here hx rfl (hb hby D12_38) rfl (l' := #[vr b, vi 2, vr d, vi 2, vi 3, vi 2, vi ch1]) rfl ?_
        refine XS.goto X15.here hx rfl (pc0 := 41) (pc' := 3) rfl (hb hby D12_41) (by decide) (by decide) ?_
        refine XS.iload X15.here hx rfl (hb hby D12_3) rfl ?_
        refine XS.iload X15.here hx rfl (hb hby D12_5) rfl ?_
        refine XS.icmpNo X15.here hx rfl (hb hby D12_7) rfl (tlt (by decide : ((2 : Int32) < (3 : Int32)))).2.1 ?_
        refine XS.aloadN X15.here hx rfl (hb hby D12_10) rfl rfl ?_
        refine XS.iloadN X15.here hx rfl (hb hby D12_11) rfl ?_
        exact Steps.refl _)
      obtain ⟨cl18, Ar18, -, S18, -, Ha18, -⟩ := id ((Vb.other W7 hbd).other W15 hbd)
      have c19 : SS p e below S0 (T15.setTop (mkF m 20 #[vr b, vi 2, vr d, vi 2, vi 3, vi 2, vi ch2] [(.int 255), (.int ch2)])) := c17.trans (by
        show SS p e below (T15.setTop (mkF m 12 #[vr b, vi 2, vr d, vi 2, vi 3, vi 2, vi ch1] [(.int 2), (.ref b)])) _
        refine X15.caload hx (j := (2 : Int32)) (v := (.int ch2)) (by rw [e15]; exact Ar18.1) (State.isArrayOf_alike hZ.alike Ar18.2.1) Ar18.2.2 (inb_of S18 ⟨by decide, by decide⟩) (Ha18.at (inb_of S18 ⟨by decide, by decide⟩) rfl) (g := (mkF m 12 #[vr b, vi 2, vr d, vi 2, vi 3, vi 2, vi ch1] [(.int 2), (.ref b)])) rfl rfl (hb hby D12_12) _ ?_
        refine XS.istore X15.here hx rfl (hb hby D12_13) rfl (l' := #[vr b, vi 2, vr d, vi 2, vi 3, vi 2, vi ch2]) rfl ?_
        refine XS.iload X15.here hx rfl (hb hby D12_15) rfl ?_
        refine XS.sipush X15.here hx rfl (hb hby D12_17) ?_
        exact Steps.refl _)
      by_cases hq20 : (255 : Int32) < ch2
      · have c21 : SS p e below S0 (T15.setTop (mkF m 25 #[vr b, vi 2, vr d, vi 2, vi 3, vi 2, vi ch2] [(.int 2)])) := c19.trans (by
          show SS p e below (T15.setTop (mkF m 20 #[vr b, vi 2, vr d, vi 2, vi 3, vi 2, vi ch2] [(.int 255), (.int ch2)])) _
          refine XS.icmpNo X15.here hx rfl (hb hby D12_20) rfl (tlt hq20).2.2.2 ?_
          refine XS.iload X15.here hx rfl (hb hby D12_23) rfl ?_
          exact Steps.refl _)
        obtain ⟨fs, hr, hrun, hended, hW, hsame⟩ := X15.leave (v := some (.int 2)) (fun h => by rw [Bd.returns] at h; cases h)
        refine ⟨_, _, c21.trans (retOut X15 hx Bd.returns rfl (Or.inl ⟨rfl, by simp, _, rfl⟩) (hb hby D12_25) hr), hrun, hended, _, _, rfl, ?_, ⟨_, rfl⟩, hW, hsame.mono (by first | decide | exact Nat.le_of_ble_eq_true rfl) (by first | decide | exact Nat.le_of_ble_eq_true rfl)⟩
        show Q5 Z ([ch0, ch1, ch2] : List Int32) d kd h0 n0 _ T15.heap _
        rw [e15]
        exact ⟨_, rfl, N15, K15, Or.inr ⟨2, Nat.le_of_ble_eq_true rfl, rfl, hq20⟩⟩
      · have c22 : SS p e below S0 (T15.setTop (mkF m 31 #[vr b, vi 2, vr d, vi 2, vi 3, vi 2, vi ch2] [(.int (ch2.toInt8.toInt32)), (.int 2), (.ref d)])) := c19.trans (by
          show SS p e below (T15.setTop (mkF m 20 #[vr b, vi 2, vr d, vi 2, vi 3, vi 2, vi ch2] [(.int 255), (.int ch2)])) _
          refine XS.icmpYes X15.here hx rfl (pc0 := 20) (pc' := 26) rfl (hb hby D12_20) rfl (flt hq20).2.2.2 (by decide) (by decide) ?_
          refine XS.aloadN X15.here hx rfl (hb hby D12_26) rfl rfl ?_
          refine XS.iloadN X15.here hx rfl (hb hby D12_27) rfl ?_
          refine XS.iload X15.here hx rfl (hb hby D12_28) rfl ?_
          refine XS.i2b X15.here hx rfl (hb hby D12_30) rfl ?_
          exact Steps.refl _)
        obtain ⟨cl23, Ar23, q23, S23, Nn23, Ha23, G23⟩ := id V15
        obtain ⟨T23, h23, X23, e23, W23, st23⟩ := stB X15 hx hZ e15 Ar23 (j := (2 : Int32)) (inb_of S23 ⟨by decide, by decide⟩) (g := (mkF m 31 #[vr b, vi 2, vr d, vi 2, vi 3, vi 2, vi ch2] [(.int (ch2.toInt8.toInt32)), (.int 2), (.ref d)])) rfl rfl (hb hby D12_31)
        have V23 : Arv Z h23 d kd .byte (3 : Int32) [(.int ((ch0.toInt8.toInt32).toInt8.toInt32)), (.int ((ch1.toInt8.toInt32).toInt8.toInt32)), (.int ((ch2.toInt8.toInt32).toInt8.toInt32))] (.int 0) := Arv.set Ar23 q23 S23 Nn23 Ha23 G23 (fits_nar_byte _) W23 2 rfl (Nat.le_of_ble_eq_true rfl)
        have c24 : SS p e below S0 (T23.setTop (mkF m 32 #[vr b, vi 2, vr d, vi 2, vi 3, vi 2, vi ch2] [])) := c22.trans (st23 _ (Steps.refl _))
        have N23 := Fr.snoc X23 N15 g_d
        have z23 : n0 ≤ h23.size := Nat.le_trans z15 (Keep.of_wr W23).1
        have K23 := K15.wr W23 (Or.inl (by simp))
        have c25 : SS p e below S0 (T23.setTop (mkF m 46 #[vr b, vi 3, vr d, vi 3, vi 3, vi 3, vi ch2] [(.int 3)])) := c24.trans (by
          show SS p e below (T23.setTop (mkF m 32 #[vr b, vi 2, vr d, vi 2, vi 3, vi 2, vi ch2] [])) _
          refine XS.iinc X23.here hx rfl (hb hby D12_32) rfl (l' := #[vr b, vi 3, vr d, vi 2, vi 3, vi 2, vi ch2]) rfl ?_
          refine XS.iinc X23.here hx rfl (hb hby D12_35) rfl (l' := #[vr b, vi 3, vr d, vi 3, vi 3, vi 2, vi ch2]) rfl ?_
          refine XS.iinc X23.here hx rfl (hb hby D12_38) rfl (l' := #[vr b, vi 3, vr d, vi 3, vi 3, vi 3, vi ch2]) rfl ?_
          refine XS.goto X23.here hx rfl (pc0 := 41) (pc' := 3) rfl (hb hby D12_41) (by decide) (by decide) ?_
          refine XS.iload X23.here hx rfl (hb hby D12_3) rfl ?_
          refine XS.iload X23.here hx rfl (hb hby D12_5) rfl ?_
          refine XS.icmpYes X23.here hx rfl (pc0 := 7) (pc' := 44) rfl (hb hby D12_7) rfl (flt (by decide : ¬ ((3 : Int32) < (3 : Int32)))).2.1 (by decide) (by decide) ?_
          refine XS.iload X23.here hx rfl (hb hby D12_44) rfl ?_
          exact Steps.refl _)
        obtain ⟨fs, hr, hrun, hended, hW, hsame⟩ := X23.leave (v := some (.int 3)) (fun h => by rw [Bd.returns] at h; cases h)
        refine ⟨_, _, c25.trans (retOut X23 hx Bd.returns rfl (Or.inl ⟨rfl, by simp, _, rfl⟩) (hb hby D12_46) hr), hrun, hended, _, _, rfl, ?_, ⟨_, rfl⟩, hW, hsame.mono (by first | decide | exact Nat.le_of_ble_eq_true rfl) (by first | decide | exact Nat.le_of_ble_eq_true rfl)⟩
        show Q5 Z ([ch0, ch1, ch2] : List Int32) d kd h0 n0 _ T23.heap _
        rw [e23]
        have Vz := V23
        simp only [own_lo2] at Vz
        exact ⟨_, rfl, N23, K23, Or.inl ⟨rfl, (own_alS hq4 (own_alS hq12 (own_alS hq20 own_al0))), Vz⟩⟩

theorem ef_rmNF_3 (m : MethodId) (x0 : Int32) : entryFrame m #[(.int x0)] 1 = mkF m 0 #[.val (.int x0)] [] := by first | (simp [entryFrame, mkF, argsToLocals, Value.category]; done) | rfl
set_option maxRecDepth 65536 in
set_option maxHeartbeats 40000000 in
theorem rmNF_3 (l : Launch) (Z : State) (a0 : Array Value) (hw : ∀ d ∈ tables_1, d.before a0 Z = true) (ws : List Jvm.Cond)  (h0 : Heap) (n0 : Nat) (Z0 : n0 ≤ h0.size)  :
    MetFree l (⟨"java/lang/StringUTF16", "newBytesFor", "(I)[B"⟩ : MethodName) (head1 (Jvm.Cond.code (⟨"java/lang/StringUTF16", "newBytesFor", "(I)[B"⟩ : MethodName) jdk_52_method_2_code 1 (some (.array .byte)) :: ws) ({ frames := 1, cells := 1, slots := 6, locals := 12 } : Room)) (fun aa U => aa = #[(.int 3)] ∧ Z.Warmed39 U.vm ∧ U.heap = h0) (fun _ _ _ _ _ => True) (fun _ U o U' => ∃ v L, o = .returned v ∧ QArr Z (6 : Int32) [.int (0 : Int32), .int (0 : Int32), .int (0 : Int32), .int (0 : Int32), .int (0 : Int32), .int (0 : Int32)] h0 n0 v U'.heap L ∧ FrameEnd U o U' L ({ frames := 1, cells := 1, slots := 6, locals := 12 } : Room).cells ({ frames := 1, cells := 1, slots := 6, locals := 12 } : Room).slots) := by
  refine MetFree.of_bodySF (plainFor_of_name pn_java_lang_StringUTF16) hisR ?_
  intro p e s m args below meth c s₁ Bd hml0 hP hK
  obtain ⟨rfl, hZ, hh⟩ := hP
  have hx := Bd.exec
  have hby := Bd.bytes
  have hml : c.maxLocals = 1 := hml0
  have hown : s.vm.findClass "java/lang/StringUTF16" = some m.cls := findClass_of_methodNamed Bd.named
  have hnm := (name_of_methodNamed Bd.named Bd.method).1
  have X0 : Stand p l e ({ frames := 1, cells := 1, slots := 6, locals := 12 } : Room) s m #[(.int 3)] below meth c s₁ [] 0 0 := Stand.of_body Bd
  have e0 : s₁.heap = h0 := by rw [← hh, Bd.state]; rfl
  have N0 := Fr.nil n0
  have K0 := Keep.refl h0 []
  obtain ⟨S0, hS0⟩ : ∃ z, z = s₁.setTop (entryFrame m #[(.int 3)] 1) := ⟨_, rfl⟩
  rw [← hS0]
  have c0 : SS p e below S0 (s₁.setTop (mkF m 0 #[vi 3] [])) := by
    rw [hS0]; exact castTop (ef_rmNF_3 m (3 : Int32)) (Steps.refl _)
  have c1 : SS p e below S0 (s₁.setTop (mkF m 1 #[vi 3] [(.int 3)])) := c0.trans (by
    show SS p e below (s₁.setTop (mkF m 0 #[vi 3] [])) _
    refine XS.iloadN X0.here hx rfl (hb hby D13_0) rfl ?_
    exact Steps.refl _)
  obtain ⟨_, _, ⟨T2, L2, kk2, nn2⟩, -, X2, ⟨Lc2, hQ2, l2, y2, z2⟩, st2⟩ := Jvm.LawKit.callS X0 hx (y := (⟨"java/lang/StringUTF16", "newBytesLength", "(I)I"⟩ : MethodName)) hown (mvT hZ (ww hw 113 rfl)) (mvT hZ (ww hw 114 rfl)) (mvT hZ (ww hw 52 rfl)) (mvT hZ (ww hw 115 rfl)) (by decide) (backOf (W := 0) (rmNL l Z a0 hw [] (3 : Int32) (6 : Int32) h0 n0 Z0 (by decide) (by decide) (by decide)) hZ (ww hw 115 rfl) (ww hw 52 rfl) (by decide) (by decide)) (g := (mkF m 1 #[vi 3] [(.int 3)])) rfl (by rw [hml]; rfl) (argsL := [(.int 3)]) (rest := []) (lenOf pd_oIcI rfl) rfl (by show 2 * 0 + _ ≤ _; exact Nat.le_of_eq rfl) (hb hby D13_1) (fun _ _ => ⟨rfl, e0, (by decide : 0 + 0 ≤ _), (by decide : 0 + 0 ≤ _)⟩)
  dsimp only [Pt.U, Pt.locs, Pt.cells, Pt.slots] at X2 l2 y2 z2 st2 hQ2
  subst l2 y2 z2
  obtain ⟨rfl, Nq2, eq2⟩ := hQ2
  have c3 : SS p e below S0 (T2.setTop (mkF m 4 #[vi 3] [(.int 6)])) := c1.trans (st2 _ (Steps.refl _))
  have N2 := Fr.app N0 Nq2
  obtain ⟨T4, h4, k4, X4, e4, E4, A4, st4⟩ := newP X2 hx hZ (ww hw 22 rfl) eq2 (g := (mkF m 4 #[vi 3] [(.int 6)])) rfl (hb hby D13_4) rfl (by decide) (cap := 6) (by decide) (by decide) (by decide) (by decide)
  obtain ⟨b4, g4⟩ : ∃ z, z = h0.size := ⟨_, rfl⟩
  rw [← g4] at A4 st4
  have c5 : SS p e below S0 (T4.setTop (mkF m 6 #[vi 3] [(.ref b4)])) := c3.trans (st4 _ (Steps.refl _))
  have z4 : n0 ≤ h4.size := Nat.le_trans Z0 E4.1
  have K4 := K0.ext E4
  have V4 : Arv Z h4 b4 k4 .byte (6 : Int32) [(.int 0), (.int 0), (.int 0), (.int 0), (.int 0), (.int 0)] (.int 0) := (Arv.new A4 (by decide)).pad (pad_rep [] (.int 0) 6)
  have lt_b4 : b4 < h4.size := V4.lt
  obtain ⟨fs, hr, hrun, hended, hW, hsame⟩ := X4.leave (v := some (.ref b4)) (fun h => by rw [Bd.returns] at h; cases h)
  refine ⟨_, _, c5.trans (retOut X4 hx Bd.returns rfl (Or.inr (Or.inr (Or.inr (Or.inr ⟨rfl, rfl, rfl⟩)))) (hb hby D13_6) hr), hrun, hended, _, _, rfl, ?_, ⟨_, rfl⟩, hW, hsame.mono (by first | decide | exact Nat.le_of_ble_eq_true rfl) (by first | decide | exact Nat.le_of_ble_eq_true rfl)⟩
  show QArr Z (6 : Int32) [.int (0 : Int32), .int (0 : Int32), .int (0 : Int32), .int (0 : Int32), .int (0 : Int32), .int (0 : Int32)] h0 n0 _ T4.heap _
  rw [e4]
  exact ⟨_, _, rfl, N2, K4, (Nat.le_trans K0.1 (Nat.le_of_eq g4.symm)), V4⟩

theorem ef_rmTB_3 (m : MethodId) (x0 : Addr) (x1 : Int32) (x2 : Int32) : entryFrame m #[(.ref x0), (.int x1), (.int x2)] 5 = mkF m 0 #[.val (.ref x0), .val (.int x1), .val (.int x2), .unset, .unset] [] := by first | (simp [entryFrame, mkF, argsToLocals, Value.category]; done) | rfl
set_option maxRecDepth 65536 in
set_option maxHeartbeats 40000000 in
theorem rmTB_3 (l : Launch) (Z : State) (a0 : Array Value) (hw : ∀ d ∈ tables_1, d.before a0 Z = true) (ws : List Jvm.Cond) (b : Addr) (kc : ClassId) (ch0 ch1 ch2 : Int32)  (h0 : Heap) (n0 : Nat) (Z0 : n0 ≤ h0.size) (Vb : Arv Z h0 b kc .char (3 : Int32) [.int ch0, .int ch1, .int ch2] (.int 0)) (sAD : Sta Z Z.heap "java/lang/StringUTF16" "$assertionsDisabled" "Z" (.int 1)) (sHI : Sta Z Z.heap "java/lang/StringUTF16" "HI_BYTE_SHIFT" "I" (.int 0)) (sLO : Sta Z Z.heap "java/lang/StringUTF16" "LO_BYTE_SHIFT" "I" (.int 8)) (X00 : Old Z n0 h0) :
    MetFree l (⟨"java/lang/StringUTF16", "toBytes", "([CII)[B"⟩ : MethodName) (head1 (Jvm.Cond.code (⟨"java/lang/StringUTF16", "toBytes", "([CII)[B"⟩ : MethodName) jdk_52_method_14_code 5 (some (.array .byte)) :: ws) ({ frames := 2, cells := 1, slots := 6, locals := 24 } : Room)) (fun aa U => aa = #[(.ref b), (.int 0), (.int 3)] ∧ Z.Warmed39 U.vm ∧ U.heap = h0) (fun _ _ _ _ _ => True) (fun _ U o U' => ∃ v L, o = .returned v ∧ QArr Z (6 : Int32) (StrChars.Road.wideBytes ([ch0, ch1, ch2] : List Int32)) h0 n0 v U'.heap L ∧ FrameEnd U o U' L ({ frames := 2, cells := 1, slots := 6, locals := 24 } : Room).cells ({ frames := 2, cells := 1, slots := 6, locals := 24 } : Room).slots) := by
  refine MetFree.of_bodySF (plainFor_of_name pn_java_lang_StringUTF16) hisR ?_
  intro p e s m args below meth c s₁ Bd hml0 hP hK
  obtain ⟨rfl, hZ, hh⟩ := hP
  have hx := Bd.exec
  have hby := Bd.bytes
  have hml : c.maxLocals = 5 := hml0
  have hown : s.vm.findClass "java/lang/StringUTF16" = some m.cls := findClass_of_methodNamed Bd.named
  have hnm := (name_of_methodNamed Bd.named Bd.method).1
  have X0 : Stand p l e ({ frames := 2, cells := 1, slots := 6, locals := 24 } : Room) s m #[(.ref b), (.int 0), (.int 3)] below meth c s₁ [] 0 0 := Stand.of_body Bd
  have e0 : s₁.heap = h0 := by rw [← hh, Bd.state]; rfl
  have N0 := Fr.nil n0
  have K0 := Keep.refl h0 []
  obtain ⟨S0, hS0⟩ : ∃ z, z = s₁.setTop (entryFrame m #[(.ref b), (.int 0), (.int 3)] 5) := ⟨_, rfl⟩
  rw [← hS0]
  have c0 : SS p e below S0 (s₁.setTop (mkF m 0 #[vr b, vi 0, vi 3, .unset, .unset] [])) := by
    rw [hS0]; exact castTop (ef_rmTB_3 m b (0 : Int32) (3 : Int32)) (Steps.refl _)
  have c1 : SS p e below S0 (s₁.setTop (mkF m 1 #[vr b, vi 0, vi 3, .unset, .unset] [(.int 3)])) := c0.trans (by
    show SS p e below (s₁.setTop (mkF m 0 #[vr b, vi 0, vi 3, .unset, .unset] [])) _
    refine XS.iloadN X0.here hx rfl (hb hby D14_0) rfl ?_
    exact Steps.refl _)
  obtain ⟨_, _, ⟨T2, L2, kk2, nn2⟩, -, X2, ⟨Lc2, hQ2, l2, y2, z2⟩, st2⟩ := Jvm.LawKit.callS X0 hx (y := (⟨"java/lang/StringUTF16", "newBytesFor", "(I)[B"⟩ : MethodName)) hown (mvT hZ (ww hw 110 rfl)) (mvT hZ (ww hw 111 rfl)) (mvT hZ (ww hw 52 rfl)) (mvT hZ (ww hw 112 rfl)) (by decide) (backOf (W := 0) (rmNF_3 l Z a0 hw [] h0 n0 Z0) hZ (ww hw 112 rfl) (ww hw 52 rfl) (by decide) (by decide)) (g := (mkF m 1 #[vr b, vi 0, vi 3, .unset, .unset] [(.int 3)])) rfl (by rw [hml]; rfl) (argsL := [(.int 3)]) (rest := []) (lenOf pd_oIcaB rfl) rfl (by show 2 * 0 + _ ≤ _; exact Nat.le_of_eq rfl) (hb hby D14_1) (fun _ _ => ⟨rfl, e0, (by decide : 0 + 1 ≤ _), (by decide : 0 + 6 ≤ _)⟩)
  dsimp only [Pt.U, Pt.locs, Pt.cells, Pt.slots] at X2 l2 y2 z2 st2 hQ2
  subst l2 y2 z2
  obtain ⟨t2, kb2, rfl, Nq2, Kq2, gt2, Vt2⟩ := hQ2
  have c3 : SS p e below S0 (T2.setTop (mkF m 4 #[vr b, vi 0, vi 3, .unset, .unset] [(.ref t2)])) := c1.trans (st2 _ (Steps.refl _))
  have N2 := Fr.app N0 Nq2
  have z2 : n0 ≤ T2.heap.size := Nat.le_trans Z0 Kq2.1
  have K2 := K0.trans Kq2 all0
  have lt_t2 := Vt2.lt
  have c4 : SS p e below S0 (T2.setTop (mkF m 19 #[vr b, vi 0, vi 3, vr t2, vi 0] [(.int 0), (.ref b), (.int 0), (.ref t2)])) := c3.trans (by
    show SS p e below (T2.setTop (mkF m 4 #[vr b, vi 0, vi 3, .unset, .unset] [(.ref t2)])) _
    refine XS.astoreN X2.here hx rfl (hb hby D14_4) rfl rfl (l' := #[vr b, vi 0, vi 3, vr t2, .unset]) rfl ?_
    refine XS.iconst X2.here hx rfl (hb hby D14_5) ?_
    refine XS.istore X2.here hx rfl (hb hby D14_6) rfl (l' := #[vr b, vi 0, vi 3, vr t2, vi 0]) rfl ?_
    refine XS.iload X2.here hx rfl (hb hby D14_8) rfl ?_
    refine XS.iloadN X2.here hx rfl (hb hby D14_10) rfl ?_
    refine XS.icmpNo X2.here hx rfl (hb hby D14_11) rfl (tlt (by decide : ((0 : Int32) < (3 : Int32)))).2.1 ?_
    refine XS.aloadN X2.here hx rfl (hb hby D14_14) rfl rfl ?_
    refine XS.iload X2.here hx rfl (hb hby D14_15) rfl ?_
    refine XS.aloadN X2.here hx rfl (hb hby D14_17) rfl rfl ?_
    refine XS.iloadN X2.here hx rfl (hb hby D14_18) rfl ?_
    exact Steps.refl _)
  obtain ⟨cl5, Ar5, -, S5, -, Ha5, -⟩ := id (Vb.keep Kq2 nin0)
  have c6 : SS p e below S0 (T2.setTop (mkF m 20 #[vr b, vi 0, vi 3, vr t2, vi 0] [(.int ch0), (.int 0), (.ref t2)])) := c4.trans (by
    show SS p e below (T2.setTop (mkF m 19 #[vr b, vi 0, vi 3, vr t2, vi 0] [(.int 0), (.ref b), (.int 0), (.ref t2)])) _
    refine X2.caload hx (j := (0 : Int32)) (v := (.int ch0)) Ar5.1 (State.isArrayOf_alike hZ.alike Ar5.2.1) Ar5.2.2 (inb_of S5 ⟨by decide, by decide⟩) (Ha5.at (inb_of S5 ⟨by decide, by decide⟩) rfl) (g := (mkF m 19 #[vr b, vi 0, vi 3, vr t2, vi 0] [(.int 0), (.ref b), (.int 0), (.ref t2)])) rfl rfl (hb hby D14_19) _ ?_
    exact Steps.refl _)
  obtain ⟨_, _, ⟨T7, L7, kk7, nn7⟩, -, X7, ⟨Lc7, hQ7, l7, y7, z7⟩, st7⟩ := Jvm.LawKit.callS X2 hx (y := (⟨"java/lang/StringUTF16", "putChar", "([BII)V"⟩ : MethodName)) hown (mvT hZ (ww hw 117 rfl)) (mvT hZ (ww hw 118 rfl)) (mvT hZ (ww hw 52 rfl)) (mvT hZ (ww hw 119 rfl)) (by decide) (backOf (W := 0) (rmPu l Z a0 hw [] t2 kb2 (6 : Int32) (0 : Int32) (0 : Int32) ch0 [(.int 0), (.int 0), (.int 0), (.int 0), (.int 0), (.int 0)] 0 T2.heap n0 z2 (Nat.le_trans Z0 (Nat.le_trans K0.1 gt2)) Vt2 (by decide) (by decide) (by decide) ⟨by decide, by decide⟩ ⟨by decide, by decide⟩ (Nat.le_of_ble_eq_true rfl) sAD sHI sLO (X00.keep Kq2 all0)) hZ (ww hw 119 rfl) (ww hw 52 rfl) (by decide) (by decide)) (g := (mkF m 20 #[vr b, vi 0, vi 3, vr t2, vi 0] [(.int ch0), (.int 0), (.ref t2)])) rfl (by rw [hml]; rfl) (argsL := [(.ref t2), (.int 0), (.int ch0)]) (rest := []) (lenOf pd_oaBIIcV rfl) rfl (by show 2 * 0 + _ ≤ _; exact Nat.le_of_eq rfl) (hb hby D14_20) (fun _ _ => ⟨rfl, rfl, (by decide : 1 + 0 ≤ _), (by decide : 6 + 0 ≤ _)⟩)
  dsimp only [Pt.U, Pt.locs, Pt.cells, Pt.slots] at X7 l7 y7 z7 st7 hQ7
  subst l7 y7 z7
  obtain ⟨rfl, Nq7, Kq7, Vq7⟩ := hQ7
  have c8 : SS p e below S0 (T7.setTop (mkF m 23 #[vr b, vi 0, vi 3, vr t2, vi 0] [])) := c6.trans (st7 _ (Steps.refl _))
  have N7 := Fr.app N2 Nq7
  have z7 : n0 ≤ T7.heap.size := Nat.le_trans z2 Kq7.1
  have K7 := K2.trans Kq7 (allS (Or.inr (Nat.le_trans K0.1 gt2)) all0)
  have Vq7 : Arv Z T7.heap t2 kb2 .byte (6 : Int32) [(.int (StrChars.lo8 ch0)), (.int (StrChars.hi8 ch0)), (.int 0), (.int 0), (.int 0), (.int 0)] (.int 0) := Vq7
  have c9 : SS p e below S0 (T7.setTop (mkF m 19 #[vr b, vi 1, vi 3, vr t2, vi 1] [(.int 1), (.ref b), (.int 1), (.ref t2)])) := c8.trans (by
    show SS p e below (T7.setTop (mkF m 23 #[vr b, vi 0, vi 3, vr t2, vi 0] [])) _
    refine XS.iinc X7.here hx rfl (hb hby D14_23) rfl (l' := #[vr b, vi 1, vi 3, vr t2, vi 0]) rfl ?_
    refine XS.iinc X7.here hx rfl (hb hby D14_26) rfl (l' := #[vr b, vi 1, vi 3, vr t2, vi 1]) rfl ?_
    refine XS.goto X7.here hx rfl (pc0 := 29) (pc' := 8) rfl (hb hby D14_29) (by decide) (by decide) ?_
    refine XS.iload X7.here hx rfl (hb hby D14_8) rfl ?_
    refine XS.iloadN X7.here hx rfl (hb hby D14_10) rfl ?_
    refine XS.icmpNo X7.here hx rfl (hb hby D14_11) rfl (tlt (by decide : ((1 : Int32) < (3 : Int32)))).2.1 ?_
    refine XS.aloadN X7.here hx rfl (hb hby D14_14) rfl rfl ?_
    refine XS.iload X7.here hx rfl (hb hby D14_15) rfl ?_
    refine XS.aloadN X7.here hx rfl (hb hby D14_17) rfl rfl ?_
    refine XS.iloadN X7.here hx rfl (hb hby D14_18) rfl ?_
    exact Steps.refl _)
  obtain ⟨cl10, Ar10, -, S10, -, Ha10, -⟩ := id ((Vb.keep Kq2 nin0).keep Kq7 (ninS (Nat.ne_of_lt (Nat.lt_of_lt_of_le Vb.lt gt2)) nin0))
  have c11 : SS p e below S0 (T7.setTop (mkF m 20 #[vr b, vi 1, vi 3, vr t2, vi 1] [(.int ch1), (.int 1), (.ref t2)])) := c9.trans (by
    show SS p e below (T7.setTop (mkF m 19 #[vr b, vi 1, vi 3, vr t2, vi 1] [(.int 1), (.ref b), (.int 1), (.ref t2)])) _
    refine X7.caload hx (j := (1 : Int32)) (v := (.int ch1)) Ar10.1 (State.isArrayOf_alike hZ.alike Ar10.2.1) Ar10.2.2 (inb_of S10 ⟨by decide, by decide⟩) (Ha10.at (inb_of S10 ⟨by decide, by decide⟩) rfl) (g := (mkF m 19 #[vr b, vi 1, vi 3, vr t2, vi 1] [(.int 1), (.ref b), (.int 1), (.ref t2)])) rfl rfl (hb hby D14_19) _ ?_
    exact Steps.refl _)
  obtain ⟨_, _, ⟨T12, L12, kk12, nn12⟩, -, X12, ⟨Lc12, hQ12, l12, y12, z12⟩, st12⟩ := Jvm.LawKit.callS X7 hx (y := (⟨"java/lang/StringUTF16", "putChar", "([BII)V"⟩ : MethodName)) hown (mvT hZ (ww hw 117 rfl)) (mvT hZ (ww hw 118 rfl)) (mvT hZ (ww hw 52 rfl)) (mvT hZ (ww hw 119 rfl)) (by decide) (backOf (W := 0) (rmPu l Z a0 hw [] t2 kb2 (6 : Int32) (1 : Int32) (2 : Int32) ch1 [(.int (StrChars.lo8 ch0)), (.int (StrChars.hi8 ch0)), (.int 0), (.int 0), (.int 0), (.int 0)] 2 T7.heap n0 z7 (Nat.le_trans Z0 (Nat.le_trans K0.1 gt2)) Vq7 (by decide) (by decide) (by decide) ⟨by decide, by decide⟩ ⟨by decide, by decide⟩ (Nat.le_of_ble_eq_true rfl) sAD sHI sLO ((X00.keep Kq2 all0).keep Kq7 (allS (Nat.le_trans Z0 (Nat.le_trans K0.1 gt2)) all0))) hZ (ww hw 119 rfl) (ww hw 52 rfl) (by decide) (by decide)) (g := (mkF m 20 #[vr b, vi 1, vi 3, vr t2, vi 1] [(.int ch1), (.int 1), (.ref t2)])) rfl (by rw [hml]; rfl) (argsL := [(.ref t2), (.int 1), (.int ch1)]) (rest := []) (lenOf pd_oaBIIcV rfl) rfl (by show 2 * 0 + _ ≤ _; exact Nat.le_of_eq rfl) (hb hby D14_20) (fun _ _ => ⟨rfl, rfl, (by decide : 1 + 0 ≤ _), (by decide : 6 + 0 ≤ _)⟩)
  dsimp only [Pt.U, Pt.locs, Pt.cells, Pt.slots] at X12 l12 y12 z12 st12 hQ12
  subst l12 y12 z12
  obtain ⟨rfl, Nq12, Kq12, Vq12⟩ := hQ12
  have c13 : SS p e below S0 (T12.setTop (mkF m 23 #[vr b, vi 1, vi 3, vr t2, vi 1] [])) := c11.trans (st12 _ (Steps.refl _))
  have N12 := Fr.app N7 Nq12
  have z12 : n0 ≤ T12.heap.size := Nat.le_trans z7 Kq12.1
  have K12 := K7.trans Kq12 (allS (Or.inr (Nat.le_trans K0.1 gt2)) all0)
  have Vq12 : Arv Z T12.heap t2 kb2 .byte (6 : Int32) [(.int (StrChars.lo8 ch0)), (.int (StrChars.hi8 ch0)), (.int (StrChars.lo8 ch1)), (.int (StrChars.hi8 ch1)), (.int 0), (.int 0)] (.int 0) := Vq12
  have c14 : SS p e below S0 (T12.setTop (mkF m 19 #[vr b, vi 2, vi 3, vr t2, vi 2] [(.int 2), (.ref b), (.int 2), (.ref t2)])) := c13.trans (by
    show SS p e below (T12.setTop (mkF m 23 #[vr b, vi 1, vi 3, vr t2, vi 1] [])) _
    refine XS.iinc X12.here hx rfl (hb hby D14_23) rfl (l' := #[vr b, vi 2, vi 3, vr t2, vi 1]) rfl ?_
    refine XS.iinc X12.here hx rfl (hb hby D14_26) rfl (l' := #[vr b, vi 2, vi 3, vr t2, vi 2]) rfl ?_
    refine XS.goto X12.here hx rfl (pc0 := 29) (pc' := 8) rfl (hb hby D14_29) (by decide) (by decide) ?_
    refine XS.iload X12.here hx rfl (hb hby D14_8) rfl ?_
    refine XS.iloadN X12.here hx rfl (hb hby D14_10) rfl ?_
    refine XS.icmpNo X12.here hx rfl (hb hby D14_11) rfl (tlt (by decide : ((2 : Int32) < (3 : Int32)))).2.1 ?_
    refine XS.aloadN X12.here hx rfl (hb hby D14_14) rfl rfl ?_
    refine XS.iload X12.here hx rfl (hb hby D14_15) rfl ?_
    refine XS.aloadN X12.here hx rfl (hb hby D14_17) rfl rfl ?_
    refine XS.iloadN X12.here hx rfl (hb hby D14_18) rfl ?_
    exact Steps.refl _)
  obtain ⟨cl15, Ar15, -, S15, -, Ha15, -⟩ := id (((Vb.keep Kq2 nin0).keep Kq7 (ninS (Nat.ne_of_lt (Nat.lt_of_lt_of_le Vb.lt gt2)) nin0)).keep Kq12 (ninS (Nat.ne_of_lt (Nat.lt_of_lt_of_le Vb.lt gt2)) nin0))
  have c16 : SS p e below S0 (T12.setTop (mkF m 20 #[vr b, vi 2, vi 3, vr t2, vi 2] [(.int ch2), (.int 2), (.ref t2)])) := c14.trans (by
    show SS p e below (T12.setTop (mkF m 19 #[vr b, vi 2, vi 3, vr t2, vi 2] [(.int 2), (.ref b), (.int 2), (.ref t2)])) _
    refine X12.caload hx (j := (2 : Int32)) (v := (.int ch2)) Ar15.1 (State.isArrayOf_alike hZ.alike Ar15.2.1) Ar15.2.2 (inb_of S15 ⟨by decide, by decide⟩) (Ha15.at (inb_of S15 ⟨by decide, by decide⟩) rfl) (g := (mkF m 19 #[vr b, vi 2, vi 3, vr t2, vi 2] [(.int 2), (.ref b), (.int 2), (.ref t2)])) rfl rfl (hb hby D14_19) _ ?_
    exact Steps.refl _)
  obtain ⟨_, _, ⟨T17, L17, kk17, nn17⟩, -, X17, ⟨Lc17, hQ17, l17, y17, z17⟩, st17⟩ := Jvm.LawKit.callS X12 hx (y := (⟨"java/lang/StringUTF16", "putChar", "([BII)V"⟩ : MethodName)) hown (mvT hZ (ww hw 117 rfl)) (mvT hZ (ww hw 118 rfl)) (mvT hZ (ww hw 52 rfl)) (mvT hZ (ww hw 119 rfl)) (by decide) (backOf (W := 0) (rmPu l Z a0 hw [] t2 kb2 (6 : Int32) (2 : Int32) (4 : Int32) ch2 [(.int (StrChars.lo8 ch0)), (.int (StrChars.hi8 ch0)), (.int (StrChars.lo8 ch1)), (.int (StrChars.hi8 ch1)), (.int 0), (.int 0)] 4 T12.heap n0 z12 (Nat.le_trans Z0 (Nat.le_trans K0.1 gt2)) Vq12 (by decide) (by decide) (by decide) ⟨by decide, by decide⟩ ⟨by decide, by decide⟩ (Nat.le_of_ble_eq_true rfl) sAD sHI sLO (((X00.keep Kq2 all0).keep Kq7 (allS (Nat.le_trans Z0 (Nat.le_trans K0.1 gt2)) all0)).keep Kq12 (allS (Nat.le_trans Z0 (Nat.le_trans K0.1 gt2)) all0))) hZ (ww hw 119 rfl) (ww hw 52 rfl) (by decide) (by decide)) (g := (mkF m 20 #[vr b, vi 2, vi 3, vr t2, vi 2] [(.int ch2), (.int 2), (.ref t2)])) rfl (by rw [hml]; rfl) (argsL := [(.ref t2), (.int 2), (.int ch2)]) (rest := []) (lenOf pd_oaBIIcV rfl) rfl (by show 2 * 0 + _ ≤ _; exact Nat.le_of_eq rfl) (hb hby D14_20) (fun _ _ => ⟨rfl, rfl, (by decide : 1 + 0 ≤ _), (by decide : 6 + 0 ≤ _)⟩)
  dsimp only [Pt.U, Pt.locs, Pt.cells, Pt.slots] at X17 l17 y17 z17 st17 hQ17
  subst l17 y17 z17
  obtain ⟨rfl, Nq17, Kq17, Vq17⟩ := hQ17
  have c18 : SS p e below S0 (T17.setTop (mkF m 23 #[vr b, vi 2, vi 3, vr t2, vi 2] [])) := c16.trans (st17 _ (Steps.refl _))
  have N17 := Fr.app N12 Nq17
  have z17 : n0 ≤ T17.heap.size := Nat.le_trans z12 Kq17.1
  have K17 := K12.trans Kq17 (allS (Or.inr (Nat.le_trans K0.1 gt2)) all0)
  have Vq17 : Arv Z T17.heap t2 kb2 .byte (6 : Int32) [(.int (StrChars.lo8 ch0)), (.int (StrChars.hi8 ch0)), (.int (StrChars.lo8 ch1)), (.int (StrChars.hi8 ch1)), (.int (StrChars.lo8 ch2)), (.int (StrChars.hi8 ch2))] (.int 0) := Vq17
  have c19 : SS p e below S0 (T17.setTop (mkF m 33 #[vr b, vi 3, vi 3, vr t2, vi 3] [(.ref t2)])) := c18.trans (by
    show SS p e below (T17.setTop (mkF m 23 #[vr b, vi 2, vi 3, vr t2, vi 2] [])) _
    refine XS.iinc X17.here hx rfl (hb hby D14_23) rfl (l' := #[vr b, vi 3, vi 3, vr t2, vi 2]) rfl ?_
    refine XS.iinc X17.here hx rfl (hb hby D14_26) rfl (l' := #[vr b, vi 3, vi 3, vr t2, vi 3]) rfl ?_
    refine XS.goto X17.here hx rfl (pc0 := 29) (pc' := 8) rfl (hb hby D14_29) (by decide) (by decide) ?_
    refine XS.iload X17.here hx rfl (hb hby D14_8) rfl ?_
    refine XS.iloadN X17.here hx rfl (hb hby D14_10) rfl ?_
    refine XS.icmpYes X17.here hx rfl (pc0 := 11) (pc' := 32) rfl (hb hby D14_11) rfl (flt (by decide : ¬ ((3 : Int32) < (3 : Int32)))).2.1 (by decide) (by decide) ?_
    refine XS.aloadN X17.here hx rfl (hb hby D14_32) rfl rfl ?_
    exact Steps.refl _)
  obtain ⟨fs, hr, hrun, hended, hW, hsame⟩ := X17.leave (v := some (.ref t2)) (fun h => by rw [Bd.returns] at h; cases h)
  refine ⟨_, _, c19.trans (retOut X17 hx Bd.returns rfl (Or.inr (Or.inr (Or.inr (Or.inr ⟨rfl, rfl, rfl⟩)))) (hb hby D14_33) hr), hrun, hended, _, _, rfl, ?_, ⟨_, rfl⟩, hW, hsame.mono (by first | decide | exact Nat.le_of_ble_eq_true rfl) (by first | decide | exact Nat.le_of_ble_eq_true rfl)⟩
  show QArr Z (6 : Int32) (StrChars.Road.wideBytes ([ch0, ch1, ch2] : List Int32)) h0 n0 _ T17.heap _
  exact ⟨_, _, rfl, N17, K17, (Nat.le_trans K0.1 gt2), Vq17⟩

theorem ef_rmC3_3 (m : MethodId) (x0 : Addr) (x1 : Int32) (x2 : Int32) : entryFrame m #[(.ref x0), (.int x1), (.int x2)] 6 = mkF m 0 #[.val (.ref x0), .val (.int x1), .val (.int x2), .unset, .unset, .unset] [] := by first | (simp [entryFrame, mkF, argsToLocals, Value.category]; done) | rfl
set_option maxRecDepth 65536 in
set_option maxHeartbeats 40000000 in
theorem rmC3_3 (l : Launch) (Z : State) (a0 : Array Value) (hw : ∀ d ∈ tables_1, d.before a0 Z = true) (ws : List Jvm.Cond) (b : Addr) (kc : ClassId) (ch0 ch1 ch2 : Int32)  (h0 : Heap) (n0 : Nat) (Z0 : n0 ≤ h0.size) (Vb : Arv Z h0 b kc .char (3 : Int32) [.int ch0, .int ch1, .int ch2] (.int 0)) (hc0 : C16 ch0) (hc1 : C16 ch1) (hc2 : C16 ch2) (sAD : Sta Z Z.heap "java/lang/StringUTF16" "$assertionsDisabled" "Z" (.int 1)) (sHI : Sta Z Z.heap "java/lang/StringUTF16" "HI_BYTE_SHIFT" "I" (.int 0)) (sLO : Sta Z Z.heap "java/lang/StringUTF16" "LO_BYTE_SHIFT" "I" (.int 8)) (X00 : Old Z n0 h0) :
    MetFree l (⟨"java/lang/StringUTF16", "compress", "([CII)[B"⟩ : MethodName) (head1 (Jvm.Cond.code (⟨"java/lang/StringUTF16", "compress", "([CII)[B"⟩ : MethodName) jdk_52_method_16_code 6 (some (.array .byte)) :: ws) ({ frames := 3, cells := 2, slots := 9, locals := 40 } : Room)) (fun aa U => aa = #[(.ref b), (.int 0), (.int 3)] ∧ Z.Warmed39 U.vm ∧ U.heap = h0) (fun _ _ _ _ _ => True) (fun _ U o U' => ∃ v L, o = .returned v ∧ QC3 Z ([ch0, ch1, ch2] : List Int32) h0 n0 v U'.heap L ∧ FrameEnd U o U' L ({ frames := 3, cells := 2, slots := 9, locals := 40 } : Room).cells ({ frames := 3, cells := 2, slots := 9, locals := 40 } : Room).slots) := by
  refine MetFree.of_bodySF (plainFor_of_name pn_java_lang_StringUTF16) hisR ?_
  intro p e s m args below meth c s₁ Bd hml0 hP hK
  obtain ⟨rfl, hZ, hh⟩ := hP
  have hx := Bd.exec
  have hby := Bd.bytes
  have hml : c.maxLocals = 6 := hml0
  have hown : s.vm.findClass "java/lang/StringUTF16" = some m.cls := findClass_of_methodNamed Bd.named
  have hnm := (name_of_methodNamed Bd.named Bd.method).1
  have X0 : Stand p l e ({ frames := 3, cells := 2, slots := 9, locals := 40 } : Room) s m #[(.ref b), (.int 0), (.int 3)] below meth c s₁ [] 0 0 := Stand.of_body Bd
  have e0 : s₁.heap = h0 := by rw [← hh, Bd.state]; rfl
  have N0 := Fr.nil n0
  have K0 := Keep.refl h0 []
  obtain ⟨S0, hS0⟩ : ∃ z, z = s₁.setTop (entryFrame m #[(.ref b), (.int 0), (.int 3)] 6) := ⟨_, rfl⟩
  rw [← hS0]
  have c0 : SS p e below S0 (s₁.setTop (mkF m 0 #[vr b, vi 0, vi 3, .unset, .unset, .unset] [])) := by
    rw [hS0]; exact castTop (ef_rmC3_3 m b (0 : Int32) (3 : Int32)) (Steps.refl _)
  have c1 : SS p e below S0 (s₁.setTop (mkF m 1 #[vr b, vi 0, vi 3, .unset, .unset, .unset] [(.int 3)])) := c0.trans (by
    show SS p e below (s₁.setTop (mkF m 0 #[vr b, vi 0, vi 3, .unset, .unset, .unset] [])) _
    refine XS.iloadN X0.here hx rfl (hb hby D15_0) rfl ?_
    exact Steps.refl _)
  obtain ⟨T2, h2, k2, X2, e2, E2, A2, st2⟩ := newP X0 hx hZ (ww hw 22 rfl) e0 (g := (mkF m 1 #[vr b, vi 0, vi 3, .unset, .unset, .unset] [(.int 3)])) rfl (hb hby D15_1) rfl (by decide) (cap := 3) (by decide) (by decide) (by decide) (by decide)
  obtain ⟨b2, g2⟩ : ∃ z, z = h0.size := ⟨_, rfl⟩
  rw [← g2] at A2 st2
  have c3 : SS p e below S0 (T2.setTop (mkF m 3 #[vr b, vi 0, vi 3, .unset, .unset, .unset] [(.ref b2)])) := c1.trans (st2 _ (Steps.refl _))
  have z2 : n0 ≤ h2.size := Nat.le_trans Z0 E2.1
  have K2 := K0.ext E2
  have V2 : Arv Z h2 b2 k2 .byte (3 : Int32) [(.int 0), (.int 0), (.int 0)] (.int 0) := (Arv.new A2 (by decide)).pad (pad_rep [] (.int 0) 3)
  have lt_b2 : b2 < h2.size := V2.lt
  have c4 : SS p e below S0 (T2.setTop (mkF m 9 #[vr b, vi 0, vi 3, vr b2, .unset, .unset] [(.int 3), (.int 0), (.ref b2), (.int 0), (.ref b)])) := c3.trans (by
    show SS p e below (T2.setTop (mkF m 3 #[vr b, vi 0, vi 3, .unset, .unset, .unset] [(.ref b2)])) _
    refine XS.astoreN X2.here hx rfl (hb hby D15_3) rfl rfl (l' := #[vr b, vi 0, vi 3, vr b2, .unset, .unset]) rfl ?_
    refine XS.aloadN X2.here hx rfl (hb hby D15_4) rfl rfl ?_
    refine XS.iloadN X2.here hx rfl (hb hby D15_5) rfl ?_
    refine XS.aloadN X2.here hx rfl (hb hby D15_6) rfl rfl ?_
    refine XS.iconst X2.here hx rfl (hb hby D15_7) ?_
    refine XS.iloadN X2.here hx rfl (hb hby D15_8) rfl ?_
    exact Steps.refl _)
  obtain ⟨_, _, ⟨T5, L5, kk5, nn5⟩, -, X5, ⟨Lc5, hQ5, l5, y5, z5⟩, st5⟩ := Jvm.LawKit.callS X2 hx (y := (⟨"java/lang/StringUTF16", "compress", "([CI[BII)I"⟩ : MethodName)) hown (mvT hZ (ww hw 54 rfl)) (mvT hZ (ww hw 55 rfl)) (mvT hZ (ww hw 52 rfl)) (mvT hZ (ww hw 56 rfl)) (by decide) (backOf (W := 0) (rmC5_3 l Z a0 hw [] b2 k2 b kc ch0 ch1 ch2  h2 n0 z2 (Nat.le_trans Z0 (Nat.le_trans K0.1 (Nat.le_of_eq g2.symm))) (Nat.ne_of_lt (Nat.lt_of_lt_of_le Vb.lt (Nat.le_of_eq g2.symm))) V2 (Vb.ext E2) hc0 hc1 hc2 ) hZ (ww hw 56 rfl) (ww hw 52 rfl) (by decide) (by decide)) (g := (mkF m 9 #[vr b, vi 0, vi 3, vr b2, .unset, .unset] [(.int 3), (.int 0), (.ref b2), (.int 0), (.ref b)])) rfl (by rw [hml]; rfl) (argsL := [(.ref b), (.int 0), (.ref b2), (.int 0), (.int 3)]) (rest := []) (lenOf pd_oaCIaBIIcI rfl) rfl (by show 2 * 0 + _ ≤ _; exact Nat.le_of_eq rfl) (hb hby D15_9) (fun _ _ => ⟨rfl, e2, (by decide : 1 + 0 ≤ _), (by decide : 3 + 0 ≤ _)⟩)
  dsimp only [Pt.U, Pt.locs, Pt.cells, Pt.slots] at X5 l5 y5 z5 st5 hQ5
  subst l5 y5 z5
  obtain ⟨r5, rfl, Nq5, Kq5, hr5⟩ := hQ5
  have c6 : SS p e below S0 (T5.setTop (mkF m 12 #[vr b, vi 0, vi 3, vr b2, .unset, .unset] [(.int r5)])) := c4.trans (st5 _ (Steps.refl _))
  have N5 := Fr.app N0 Nq5
  have z5 : n0 ≤ T5.heap.size := Nat.le_trans z2 Kq5.1
  have K5 := K2.trans Kq5 (allS (Or.inr (Nat.le_trans K0.1 (Nat.le_of_eq g2.symm))) all0)
  rcases hr5 with ⟨e1, e2, Vd5⟩ | ⟨i, hi, e1, hw1⟩
  · rw [(e1.trans rfl : r5 = (3 : Int32))] at c6
    have c7 : SS p e below S0 (T5.setTop (mkF m 58 #[vr b, vi 0, vi 3, vr b2, vi 3, .unset] [(.ref b2)])) := c6.trans (by
      show SS p e below (T5.setTop (mkF m 12 #[vr b, vi 0, vi 3, vr b2, .unset, .unset] [(.int 3)])) _
      refine XS.istore X5.here hx rfl (hb hby D15_12) rfl (l' := #[vr b, vi 0, vi 3, vr b2, vi 3, .unset]) rfl ?_
      refine XS.iload X5.here hx rfl (hb hby D15_14) rfl ?_
      refine XS.iloadN X5.here hx rfl (hb hby D15_16) rfl ?_
      refine XS.icmpYes X5.here hx rfl (pc0 := 17) (pc' := 57) rfl (hb hby D15_17) rfl (teq (by decide : ((3 : Int32) = (3 : Int32)))).1 (by decide) (by decide) ?_
      refine XS.aloadN X5.here hx rfl (hb hby D15_57) rfl rfl ?_
      exact Steps.refl _)
    obtain ⟨fs, hr, hrun, hended, hW, hsame⟩ := X5.leave (v := some (.ref b2)) (fun h => by rw [Bd.returns] at h; cases h)
    refine ⟨_, _, c7.trans (retOut X5 hx Bd.returns rfl (Or.inr (Or.inr (Or.inr (Or.inr ⟨rfl, rfl, rfl⟩)))) (hb hby D15_58) hr), hrun, hended, _, _, rfl, ?_, ⟨_, rfl⟩, hW, hsame.mono (by first | decide | exact Nat.le_of_ble_eq_true rfl) (by first | decide | exact Nat.le_of_ble_eq_true rfl)⟩
    show QC3 Z ([ch0, ch1, ch2] : List Int32) h0 n0 _ T5.heap _
    exact ⟨_, _, _, _, _, rfl, N5, K5, (Nat.le_trans K0.1 (Nat.le_of_eq g2.symm)), Vd5, Or.inl ⟨rfl, rfl, rfl, e2⟩⟩
  · have hi5 : i < 3 := hi
    rw [e1] at c6
    have c8 : SS p e below S0 (T5.setTop (mkF m 23 #[vr b, vi 0, vi 3, vr b2, vi (Int32.ofNat i), .unset] [(.int 3), (.int 0), (.ref b)])) := c6.trans (by
      show SS p e below (T5.setTop (mkF m 12 #[vr b, vi 0, vi 3, vr b2, .unset, .unset] [(.int (Int32.ofNat i))])) _
      refine XS.istore X5.here hx rfl (hb hby D15_12) rfl (l' := #[vr b, vi 0, vi 3, vr b2, vi (Int32.ofNat i), .unset]) rfl ?_
      refine XS.iload X5.here hx rfl (hb hby D15_14) rfl ?_
      refine XS.iloadN X5.here hx rfl (hb hby D15_16) rfl ?_
      refine XS.icmpNo X5.here hx rfl (hb hby D15_17) rfl (feq (fun q => absurd ((own_ofN_inj (a := i) (b := 3) (by omega) (by omega)).mp q) (by omega) : ¬ (Int32.ofNat i) = (3 : Int32))).1 ?_
      refine XS.aloadN X5.here hx rfl (hb hby D15_20) rfl rfl ?_
      refine XS.iloadN X5.here hx rfl (hb hby D15_21) rfl ?_
      refine XS.iloadN X5.here hx rfl (hb hby D15_22) rfl ?_
      exact Steps.refl _)
    obtain ⟨_, _, ⟨T9, L9, kk9, nn9⟩, -, X9, ⟨Lc9, hQ9, l9, y9, z9⟩, st9⟩ := Jvm.LawKit.callS X5 hx (y := (⟨"java/lang/StringUTF16", "toBytes", "([CII)[B"⟩ : MethodName)) hown (mvT hZ (ww hw 107 rfl)) (mvT hZ (ww hw 108 rfl)) (mvT hZ (ww hw 52 rfl)) (mvT hZ (ww hw 109 rfl)) (by decide) (backOf (W := 0) (rmTB_3 l Z a0 hw [] b kc ch0 ch1 ch2  T5.heap n0 z5 ((Vb.ext E2).keep Kq5 (ninS (Nat.ne_of_lt (Nat.lt_of_lt_of_le Vb.lt (Nat.le_of_eq g2.symm))) nin0)) sAD sHI sLO ((X00.ext E2).keep Kq5 (allS (Nat.le_trans Z0 (Nat.le_trans K0.1 (Nat.le_of_eq g2.symm))) all0))) hZ (ww hw 109 rfl) (ww hw 52 rfl) (by decide) (by decide)) (g := (mkF m 23 #[vr b, vi 0, vi 3, vr b2, vi (Int32.ofNat i), .unset] [(.int 3), (.int 0), (.ref b)])) rfl (by rw [hml]; rfl) (argsL := [(.ref b), (.int 0), (.int 3)]) (rest := []) (lenOf pd_oaCIIcaB rfl) rfl (by show 2 * 0 + _ ≤ _; exact Nat.le_of_eq rfl) (hb hby D15_23) (fun _ _ => ⟨rfl, rfl, (by decide : 1 + 1 ≤ _), (by decide : 3 + 6 ≤ _)⟩)
    dsimp only [Pt.U, Pt.locs, Pt.cells, Pt.slots] at X9 l9 y9 z9 st9 hQ9
    subst l9 y9 z9
    obtain ⟨t9, kb9, rfl, Nq9, Kq9, gt9, Vt9⟩ := hQ9
    have c10 : SS p e below S0 (T9.setTop (mkF m 26 #[vr b, vi 0, vi 3, vr b2, vi (Int32.ofNat i), .unset] [(.ref t9)])) := c8.trans (st9 _ (Steps.refl _))
    have N9 := Fr.app N5 Nq9
    have z9 : n0 ≤ T9.heap.size := Nat.le_trans z5 Kq9.1
    have K9 := K5.trans Kq9 all0
    have c11 : SS p e below S0 (T9.setTop (mkF m 32 #[vr b, vi 0, vi 3, vr b2, vi (Int32.ofNat i), vr t9] [(.int (Int32.ofNat i)), (.ref t9)])) := c10.trans (by
      show SS p e below (T9.setTop (mkF m 26 #[vr b, vi 0, vi 3, vr b2, vi (Int32.ofNat i), .unset] [(.ref t9)])) _
      refine XS.astore X9.here hx rfl (hb hby D15_26) rfl rfl (l' := #[vr b, vi 0, vi 3, vr b2, vi (Int32.ofNat i), vr t9]) rfl ?_
      refine XS.aload X9.here hx rfl (hb hby D15_28) rfl rfl ?_
      refine XS.iload X9.here hx rfl (hb hby D15_30) rfl ?_
      exact Steps.refl _)
    obtain ⟨_, _, ⟨T12, L12, kk12, nn12⟩, -, X12, ⟨Lc12, hQ12, l12, y12, z12⟩, st12⟩ := Jvm.LawKit.callS X9 hx (y := (⟨"java/lang/StringUTF16", "getChar", "([BI)C"⟩ : MethodName)) hown (mvT hZ (ww hw 123 rfl)) (mvT hZ (ww hw 124 rfl)) (mvT hZ (ww hw 52 rfl)) (mvT hZ (ww hw 125 rfl)) (by decide) (backOf (W := 0) (rmGC l Z a0 hw [] t9 kb9 ([ch0, ch1, ch2] : List Int32) i T9.heap n0 z9 Vt9 (own_alS hc0 (own_alS hc1 (own_alS hc2 own_al0))) (Nat.le_of_ble_eq_true rfl) hi sAD sHI sLO (((X00.ext E2).keep Kq5 (allS (Nat.le_trans Z0 (Nat.le_trans K0.1 (Nat.le_of_eq g2.symm))) all0)).keep Kq9 all0)) hZ (ww hw 125 rfl) (ww hw 52 rfl) (by decide) (by decide)) (g := (mkF m 32 #[vr b, vi 0, vi 3, vr b2, vi (Int32.ofNat i), vr t9] [(.int (Int32.ofNat i)), (.ref t9)])) rfl (by rw [hml]; rfl) (argsL := [(.ref t9), (.int (Int32.ofNat i))]) (rest := []) (lenOf pd_oaBIcC rfl) rfl (by show 2 * 0 + _ ≤ _; exact Nat.le_of_eq rfl) (hb hby D15_32) (fun _ _ => ⟨rfl, rfl, (by decide : 2 + 0 ≤ _), (by decide : 9 + 0 ≤ _)⟩)
    dsimp only [Pt.U, Pt.locs, Pt.cells, Pt.slots] at X12 l12 y12 z12 st12 hQ12
    subst l12 y12 z12
    obtain ⟨rfl, Nq12, eq12⟩ := hQ12
    have c13 : SS p e below S0 (T12.setTop (mkF m 35 #[vr b, vi 0, vi 3, vr b2, vi (Int32.ofNat i), vr t9] [(.int (([ch0, ch1, ch2] : List Int32).getD i 0))])) := c11.trans (st12 _ (Steps.refl _))
    have N12 := Fr.app N9 Nq12
    have c14 : SS p e below S0 (T12.setTop (mkF m 56 #[vr b, vi 0, vi 3, vr b2, vi (Int32.ofNat i), vr t9] [(.ref t9)])) := c13.trans (by
      show SS p e below (T12.setTop (mkF m 35 #[vr b, vi 0, vi 3, vr b2, vi (Int32.ofNat i), vr t9] [(.int (([ch0, ch1, ch2] : List Int32).getD i 0))])) _
      refine XS.sipush X12.here hx rfl (hb hby D15_35) ?_
      refine XS.icmpYes X12.here hx rfl (pc0 := 38) (pc' := 54) rfl (hb hby D15_38) rfl (tlt hw1).2.2.1 (by decide) (by decide) ?_
      refine XS.aload X12.here hx rfl (hb hby D15_54) rfl rfl ?_
      exact Steps.refl _)
    obtain ⟨fs, hr, hrun, hended, hW, hsame⟩ := X12.leave (v := some (.ref t9)) (fun h => by rw [Bd.returns] at h; cases h)
    refine ⟨_, _, c14.trans (retOut X12 hx Bd.returns rfl (Or.inr (Or.inr (Or.inr (Or.inr ⟨rfl, rfl, rfl⟩)))) (hb hby D15_56) hr), hrun, hended, _, _, rfl, ?_, ⟨_, rfl⟩, hW, hsame.mono (by first | decide | exact Nat.le_of_ble_eq_true rfl) (by first | decide | exact Nat.le_of_ble_eq_true rfl)⟩
    show QC3 Z ([ch0, ch1, ch2] : List Int32) h0 n0 _ T12.heap _
    rw [eq12]
    exact ⟨_, _, _, _, _, rfl, N12, K9, (Nat.le_trans K5.1 gt9), Vt9, Or.inr ⟨rfl, rfl, rfl, _, own_gmem hi, hw1⟩⟩

theorem ef_rmN4_3 (m : MethodId) (x0 : Addr) (x1 : Addr) (x2 : Int32) (x3 : Int32) : entryFrame m #[(.ref x0), (.ref x1), (.int x2), (.int x3), .null] 6 = mkF m 0 #[.val (.ref x0), .val (.ref x1), .val (.int x2), .val (.int x3), .val .null, .unset] [] := by first | (simp [entryFrame, mkF, argsToLocals, Value.category]; done) | rfl
set_option maxRecDepth 65536 in
set_option maxHeartbeats 40000000 in
theorem rmN4_3 (l : Launch) (Z : State) (a0 : Array Value) (hw : ∀ d ∈ tables_1, d.before a0 Z = true) (ws : List Jvm.Cond) (x : Addr) (b : Addr) (kc : ClassId) (ch0 ch1 ch2 : Int32) (G1 : Int32) (h0 : Heap) (n0 : Nat) (Z0 : n0 ≤ h0.size) (g_x : n0 ≤ x) (Ex : Exa Z h0 x "java/lang/String") (Fv : Fld Z h0 x "java/lang/String" "value" "[B" .null) (Fc : Fld Z h0 x "java/lang/String" "coder" "B" (.int 0)) (Vb : Arv Z h0 b kc .char (3 : Int32) [.int ch0, .int ch1, .int ch2] (.int 0)) (hc0 : C16 ch0) (hc1 : C16 ch1) (hc2 : C16 ch2) (sAD : Sta Z Z.heap "java/lang/StringUTF16" "$assertionsDisabled" "Z" (.int 1)) (sHI : Sta Z Z.heap "java/lang/StringUTF16" "HI_BYTE_SHIFT" "I" (.int 0)) (sLO : Sta Z Z.heap "java/lang/StringUTF16" "LO_BYTE_SHIFT" "I" (.int 8)) (O2 : Sta Z Z.heap "java/lang/String" "COMPACT_STRINGS" "Z" (.int G1)) (P5 : ¬ G1 = 0) (X00 : Old Z n0 h0) :
    MetFree l (⟨"java/lang/String", "<init>", "([CIILjava/lang/Void;)V"⟩ : MethodName) (head1 (Jvm.Cond.code (⟨"java/lang/String", "<init>", "([CIILjava/lang/Void;)V"⟩ : MethodName) jdk_42_method_149_code 6 (none) :: ws) ({ frames := 4, cells := 2, slots := 9, locals := 57 } : Room)) (fun aa U => aa = #[(.ref x), (.ref b), (.int 0), (.int 3), .null] ∧ Z.Warmed39 U.vm ∧ U.heap = h0) (fun _ _ _ _ _ => True) (fun _ U o U' => ∃ v L, o = .returned v ∧ QNw Z x ([ch0, ch1, ch2] : List Int32) h0 n0 v U'.heap L ∧ FrameEnd U o U' L ({ frames := 4, cells := 2, slots := 9, locals := 57 } : Room).cells ({ frames := 4, cells := 2, slots := 9, locals := 57 } : Room).slots) := by
  refine MetFree.of_bodySF (plainFor_of_name pn_java_lang_String) hisR ?_
  intro p e s m args below meth c s₁ Bd hml0 hP hK
  obtain ⟨rfl, hZ, hh⟩ := hP
  have hx := Bd.exec
  have hby := Bd.bytes
  have hml : c.maxLocals = 6 := hml0
  have hown : s.vm.findClass "java/lang/String" = some m.cls := findClass_of_methodNamed Bd.named
  have hnm := (name_of_methodNamed Bd.named Bd.method).1
  have X0 : Stand p l e ({ frames := 4, cells := 2, slots := 9, locals := 57 } : Room) s m #[(.ref x), (.ref b), (.int 0), (.int 3), .null] below meth c s₁ [] 0 0 := Stand.of_body Bd
  have e0 : s₁.heap = h0 := by rw [← hh, Bd.state]; rfl
  have N0 := Fr.nil n0
  have K0 := Keep.refl h0 [x]
  obtain ⟨S0, hS0⟩ : ∃ z, z = s₁.setTop (entryFrame m #[(.ref x), (.ref b), (.int 0), (.int 3), .null] 6) := ⟨_, rfl⟩
  rw [← hS0]
  have c0 : SS p e below S0 (s₁.setTop (mkF m 0 #[vr x, vr b, vi 0, vi 3, .val .null, .unset] [])) := by
    rw [hS0]; exact castTop (ef_rmN4_3 m x b (0 : Int32) (3 : Int32)) (Steps.refl _)
  have c1 : SS p e below S0 (s₁.setTop (mkF m 1 #[vr x, vr b, vi 0, vi 3, .val .null, .unset] [(.ref x)])) := c0.trans (by
    show SS p e below (s₁.setTop (mkF m 0 #[vr x, vr b, vi 0, vi 3, .val .null, .unset] [])) _
    refine XS.aloadN X0.here hx rfl (hb hby D16_0) rfl rfl ?_
    exact Steps.refl _)
  obtain ⟨T2, X2, e2, st2⟩ := initO X0 hx hZ hown (ww hw 18 rfl) (ww hw 19 rfl) (ww hw 20 rfl) e0 (g := (mkF m 1 #[vr x, vr b, vi 0, vi 3, .val .null, .unset] [(.ref x)])) rfl (by rw [hml]; rfl) rfl (hb hby D16_1) (by decide) (W := 0) (by show 2 * 0 + _ ≤ _; exact Nat.le_of_eq rfl) (by decide)
  have c3 : SS p e below S0 (T2.setTop (mkF m 4 #[vr x, vr b, vi 0, vi 3, .val .null, .unset] [])) := c1.trans (st2 _ (Steps.refl _))
  have c4 : SS p e below S0 (T2.setTop (mkF m 27 #[vr x, vr b, vi 0, vi 3, .val .null, .unset] [])) := c3.trans (by
    show SS p e below (T2.setTop (mkF m 4 #[vr x, vr b, vi 0, vi 3, .val .null, .unset] [])) _
    refine XS.iloadN X2.here hx rfl (hb hby D16_4) rfl ?_
    refine XS.ifYes X2.here hx rfl (pc0 := 5) (pc' := 27) rfl (hb hby D16_5) rfl ((if0 _ _).trans (feq (by decide : ¬ ((3 : Int32) = (0 : Int32)))).2) (by decide) (by decide) ?_
    exact Steps.refl _)
  obtain ⟨T5, X5, e5, st5⟩ := getS2 X2 hx hZ hown (host := "") (Or.inl (ww hw 49 rfl)) Via.refl e2 (O2.ext X00.2) (g := (mkF m 27 #[vr x, vr b, vi 0, vi 3, .val .null, .unset] [])) rfl (hb hby D16_27)
  have c6 : SS p e below S0 (T5.setTop (mkF m 30 #[vr x, vr b, vi 0, vi 3, .val .null, .unset] [(.int G1)])) := c4.trans (st5 _ (Steps.refl _))
  have c7 : SS p e below S0 (T5.setTop (mkF m 36 #[vr x, vr b, vi 0, vi 3, .val .null, .unset] [(.int 3), (.int 0), (.ref b)])) := c6.trans (by
    show SS p e below (T5.setTop (mkF m 30 #[vr x, vr b, vi 0, vi 3, .val .null, .unset] [(.int G1)])) _
    refine XS.ifNo X5.here hx rfl (hb hby D16_30) rfl ((if0 _ _).trans (feq P5).1) ?_
    refine XS.aloadN X5.here hx rfl (hb hby D16_33) rfl rfl ?_
    refine XS.iloadN X5.here hx rfl (hb hby D16_34) rfl ?_
    refine XS.iloadN X5.here hx rfl (hb hby D16_35) rfl ?_
    exact Steps.refl _)
  obtain ⟨_, _, ⟨T8, L8, kk8, nn8⟩, -, X8, ⟨Lc8, hQ8, l8, y8, z8⟩, st8⟩ := Jvm.LawKit.callS X5 hx (y := (⟨"java/lang/StringUTF16", "compress", "([CII)[B"⟩ : MethodName)) hown (mvT hZ (ww hw 50 rfl)) (mvT hZ (ww hw 51 rfl)) (mvT hZ (ww hw 52 rfl)) (mvT hZ (ww hw 53 rfl)) (by decide) (backOf (W := 0) (rmC3_3 l Z a0 hw [] b kc ch0 ch1 ch2  h0 n0 Z0 Vb hc0 hc1 hc2  sAD sHI sLO X00) hZ (ww hw 53 rfl) (ww hw 52 rfl) (by decide) (by decide)) (g := (mkF m 36 #[vr x, vr b, vi 0, vi 3, .val .null, .unset] [(.int 3), (.int 0), (.ref b)])) rfl (by rw [hml]; rfl) (argsL := [(.ref b), (.int 0), (.int 3)]) (rest := []) (lenOf pd_oaCIIcaB rfl) rfl (by show 2 * 0 + _ ≤ _; exact Nat.le_of_eq rfl) (hb hby D16_36) (fun _ _ => ⟨rfl, e5, (by decide : 0 + 2 ≤ _), (by decide : 0 + 9 ≤ _)⟩)
  dsimp only [Pt.U, Pt.locs, Pt.cells, Pt.slots] at X8 l8 y8 z8 st8 hQ8
  subst l8 y8 z8
  obtain ⟨t8, kb8, cd8, N28, vs8, rfl, Nq8, Kq8, gt8, Vt8, hcd8⟩ := hQ8
  have c9 : SS p e below S0 (T8.setTop (mkF m 39 #[vr x, vr b, vi 0, vi 3, .val .null, .unset] [(.ref t8)])) := c7.trans (st8 _ (Steps.refl _))
  have N8 := Fr.app N0 Nq8
  have z8 : n0 ≤ T8.heap.size := Nat.le_trans Z0 Kq8.1
  have K8 := K0.trans Kq8 all0
  have lt_t8 := Vt8.lt
  have hcd := hcd8
  rcases id hcd8 with ⟨e1, e2, e3, e4⟩ | ⟨e1, e2, e3, e4⟩
  · have e5 : N28 = (3 : Int32) := e2
    have Vy8 := Vt8
    rw [e5] at Vy8
    rw [e5, e1] at hcd
    have c10 : SS p e below S0 (T8.setTop (mkF m 45 #[vr x, vr b, vi 0, vi 3, .val .null, vr t8] [(.int 3), (.ref t8), (.ref x)])) := c9.trans (by
      show SS p e below (T8.setTop (mkF m 39 #[vr x, vr b, vi 0, vi 3, .val .null, .unset] [(.ref t8)])) _
      refine XS.astore X8.here hx rfl (hb hby D16_39) rfl rfl (l' := #[vr x, vr b, vi 0, vi 3, .val .null, vr t8]) rfl ?_
      refine XS.aloadN X8.here hx rfl (hb hby D16_41) rfl rfl ?_
      refine XS.aload X8.here hx rfl (hb hby D16_42) rfl rfl ?_
      refine XS.iloadN X8.here hx rfl (hb hby D16_44) rfl ?_
      exact Steps.refl _)
    obtain ⟨_, _, ⟨T11, L11, kk11, nn11⟩, -, X11, ⟨Lc11, hQ11, l11, y11, z11⟩, st11⟩ := Jvm.LawKit.callS X8 hx (y := (⟨"java/lang/StringUTF16", "coderFromArrayLen", "([BI)B"⟩ : MethodName)) hown (mvT hZ (ww hw 57 rfl)) (mvT hZ (ww hw 58 rfl)) (mvT hZ (ww hw 52 rfl)) (mvT hZ (ww hw 59 rfl)) (by decide) (backOf (W := 1) (rmCo l Z a0 hw [] t8 kb8 (3 : Int32) (3 : Int32) (0 : Int32) vs8 T8.heap n0 z8 Vy8 (by decide) rfl) hZ (ww hw 59 rfl) (ww hw 52 rfl) (by decide) (by decide)) (g := (mkF m 45 #[vr x, vr b, vi 0, vi 3, .val .null, vr t8] [(.int 3), (.ref t8), (.ref x)])) rfl (by rw [hml]; rfl) (argsL := [(.ref t8), (.int 3)]) (rest := [(.ref x)]) (lenOf pd_oaBIcB rfl) rfl (by show 2 * 0 + _ ≤ _; exact Nat.le_of_eq rfl) (hb hby D16_45) (fun _ _ => ⟨rfl, rfl, (by decide : 2 + 0 ≤ _), (by decide : 9 + 0 ≤ _)⟩)
    dsimp only [Pt.U, Pt.locs, Pt.cells, Pt.slots] at X11 l11 y11 z11 st11 hQ11
    subst l11 y11 z11
    obtain ⟨rfl, Nq11, eq11⟩ := hQ11
    have c12 : SS p e below S0 (T11.setTop (mkF m 48 #[vr x, vr b, vi 0, vi 3, .val .null, vr t8] [(.int 0), (.ref x)])) := c10.trans (st11 _ (Steps.refl _))
    have N11 := Fr.app N8 Nq11
    obtain ⟨T13, h13, X13, e13, W13, st13⟩ := putFN X11 hx hZ hown (ww hw 28 rfl) Via.refl eq11 (Fc.keep Kq8 nin0) (Ex.keep Kq8) (Or.inr ⟨(ww hw 24 rfl), rfl, hnm⟩) (ww hw 9 rfl) (ty := .byte) (v' := (.int 0)) (by decide) rfl rfl (g := (mkF m 48 #[vr x, vr b, vi 0, vi 3, .val .null, vr t8] [(.int 0), (.ref x)])) rfl rfl (hb hby D16_48)
    have c14 : SS p e below S0 (T13.setTop (mkF m 51 #[vr x, vr b, vi 0, vi 3, .val .null, vr t8] [])) := c12.trans (st13 _ (Steps.refl _))
    have N13 := Fr.snoc X13 N11 g_x
    have Fw13 := (Fc.keep Kq8 nin0).same W13
    have z13 : n0 ≤ h13.size := Nat.le_trans z8 (Keep.of_wr W13).1
    have K13 := K8.wr W13 (Or.inl (by simp))
    have c15 : SS p e below S0 (T13.setTop (mkF m 54 #[vr x, vr b, vi 0, vi 3, .val .null, vr t8] [(.ref t8), (.ref x)])) := c14.trans (by
      show SS p e below (T13.setTop (mkF m 51 #[vr x, vr b, vi 0, vi 3, .val .null, vr t8] [])) _
      refine XS.aloadN X13.here hx rfl (hb hby D16_51) rfl rfl ?_
      refine XS.aload X13.here hx rfl (hb hby D16_52) rfl rfl ?_
      exact Steps.refl _)
    obtain ⟨T16, h16, X16, e16, W16, st16⟩ := putF X13 hx hZ hown (host := "") (Or.inl (ww hw 27 rfl)) Via.refl e13 ((Fv.keep Kq8 nin0).other W13 (Or.inr (slot_ne (Or.inr (ww hw 23 rfl)) (Or.inr (ww hw 24 rfl)) (by decide) (t := (.array .byte)) (t' := .byte) (by decide) (by decide)))) ((Ex.keep Kq8).wr W13) (Or.inr ⟨(ww hw 23 rfl), rfl, hnm⟩) (ww hw 9 rfl) (ty := (.array .byte)) (by decide) rfl rfl (g := (mkF m 54 #[vr x, vr b, vi 0, vi 3, .val .null, vr t8] [(.ref t8), (.ref x)])) rfl rfl (hb hby D16_54)
    have c17 : SS p e below S0 (T16.setTop (mkF m 57 #[vr x, vr b, vi 0, vi 3, .val .null, vr t8] [])) := c15.trans (st16 _ (Steps.refl _))
    have N16 := Fr.snoc X16 N13 g_x
    have Fw16 := ((Fv.keep Kq8 nin0).other W13 (Or.inr (slot_ne (Or.inr (ww hw 23 rfl)) (Or.inr (ww hw 24 rfl)) (by decide) (t := (.array .byte)) (t' := .byte) (by decide) (by decide)))).same W16
    have z16 : n0 ≤ h16.size := Nat.le_trans z13 (Keep.of_wr W16).1
    have K16 := K13.wr W16 (Or.inl (by simp))
    obtain ⟨fs, hr, hrun, hended, hW, hsame⟩ := X16.leave (v := none) (fun h => rfl)
    refine ⟨_, _, c17.trans (X16.returnOut hx Bd.returns (hb hby D16_57) hr), hrun, hended, _, _, rfl, ?_, ⟨_, rfl⟩, hW, hsame.mono (by first | decide | exact Nat.le_of_ble_eq_true rfl) (by first | decide | exact Nat.le_of_ble_eq_true rfl)⟩
    show QNw Z x ([ch0, ch1, ch2] : List Int32) h0 n0 _ T16.heap _
    rw [e16]
    exact ⟨_, _, _, _, _, rfl, N16, K16, (((Ex.keep Kq8).wr W13).wr W16), Fw16, (Fw13.other W16 (Or.inr (slot_ne (Or.inr (ww hw 24 rfl)) (Or.inr (ww hw 23 rfl)) (by decide) (t := .byte) (t' := (.array .byte)) (by decide) (by decide)))), ((Vy8.other W13 (Ne.symm (Nat.ne_of_lt (Nat.lt_of_lt_of_le Ex.lt gt8)))).other W16 (Ne.symm (Nat.ne_of_lt (Nat.lt_of_lt_of_le Ex.lt gt8)))), hcd, (own_alS hc0 (own_alS hc1 (own_alS hc2 own_al0))), Nat.le_of_ble_eq_true rfl⟩
  · have e5 : N28 = (6 : Int32) := e2
    have Vy8 := Vt8
    rw [e5] at Vy8
    rw [e5, e1] at hcd
    have c18 : SS p e below S0 (T8.setTop (mkF m 45 #[vr x, vr b, vi 0, vi 3, .val .null, vr t8] [(.int 3), (.ref t8), (.ref x)])) := c9.trans (by
      show SS p e below (T8.setTop (mkF m 39 #[vr x, vr b, vi 0, vi 3, .val .null, .unset] [(.ref t8)])) _
      refine XS.astore X8.here hx rfl (hb hby D16_39) rfl rfl (l' := #[vr x, vr b, vi 0, vi 3, .val .null, vr t8]) rfl ?_
      refine XS.aloadN X8.here hx rfl (hb hby D16_41) rfl rfl ?_
      refine XS.aload X8.here hx rfl (hb hby D16_42) rfl rfl ?_
      refine XS.iloadN X8.here hx rfl (hb hby D16_44) rfl ?_
      exact Steps.refl _)
    obtain ⟨_, _, ⟨T19, L19, kk19, nn19⟩, -, X19, ⟨Lc19, hQ19, l19, y19, z19⟩, st19⟩ := Jvm.LawKit.callS X8 hx (y := (⟨"java/lang/StringUTF16", "coderFromArrayLen", "([BI)B"⟩ : MethodName)) hown (mvT hZ (ww hw 57 rfl)) (mvT hZ (ww hw 58 rfl)) (mvT hZ (ww hw 52 rfl)) (mvT hZ (ww hw 59 rfl)) (by decide) (backOf (W := 1) (rmCo l Z a0 hw [] t8 kb8 (3 : Int32) (6 : Int32) (1 : Int32) vs8 T8.heap n0 z8 Vy8 (by decide) rfl) hZ (ww hw 59 rfl) (ww hw 52 rfl) (by decide) (by decide)) (g := (mkF m 45 #[vr x, vr b, vi 0, vi 3, .val .null, vr t8] [(.int 3), (.ref t8), (.ref x)])) rfl (by rw [hml]; rfl) (argsL := [(.ref t8), (.int 3)]) (rest := [(.ref x)]) (lenOf pd_oaBIcB rfl) rfl (by show 2 * 0 + _ ≤ _; exact Nat.le_of_eq rfl) (hb hby D16_45) (fun _ _ => ⟨rfl, rfl, (by decide : 2 + 0 ≤ _), (by decide : 9 + 0 ≤ _)⟩)
    dsimp only [Pt.U, Pt.locs, Pt.cells, Pt.slots] at X19 l19 y19 z19 st19 hQ19
    subst l19 y19 z19
    obtain ⟨rfl, Nq19, eq19⟩ := hQ19
    have c20 : SS p e below S0 (T19.setTop (mkF m 48 #[vr x, vr b, vi 0, vi 3, .val .null, vr t8] [(.int 1), (.ref x)])) := c18.trans (st19 _ (Steps.refl _))
    have N19 := Fr.app N8 Nq19
    obtain ⟨T21, h21, X21, e21, W21, st21⟩ := putFN X19 hx hZ hown (ww hw 28 rfl) Via.refl eq19 (Fc.keep Kq8 nin0) (Ex.keep Kq8) (Or.inr ⟨(ww hw 24 rfl), rfl, hnm⟩) (ww hw 9 rfl) (ty := .byte) (v' := (.int 1)) (by decide) rfl rfl (g := (mkF m 48 #[vr x, vr b, vi 0, vi 3, .val .null, vr t8] [(.int 1), (.ref x)])) rfl rfl (hb hby D16_48)
    have c22 : SS p e below S0 (T21.setTop (mkF m 51 #[vr x, vr b, vi 0, vi 3, .val .null, vr t8] [])) := c20.trans (st21 _ (Steps.refl _))
    have N21 := Fr.snoc X21 N19 g_x
    have Fw21 := (Fc.keep Kq8 nin0).same W21
    have z21 : n0 ≤ h21.size := Nat.le_trans z8 (Keep.of_wr W21).1
    have K21 := K8.wr W21 (Or.inl (by simp))
    have c23 : SS p e below S0 (T21.setTop (mkF m 54 #[vr x, vr b, vi 0, vi 3, .val .null, vr t8] [(.ref t8), (.ref x)])) := c22.trans (by
      show SS p e below (T21.setTop (mkF m 51 #[vr x, vr b, vi 0, vi 3, .val .null, vr t8] [])) _
      refine XS.aloadN X21.here hx rfl (hb hby D16_51) rfl rfl ?_
      refine XS.aload X21.here hx rfl (hb hby D16_52) rfl rfl ?_
      exact Steps.refl _)
    obtain ⟨T24, h24, X24, e24, W24, st24⟩ := putF X21 hx hZ hown (host := "") (Or.inl (ww hw 27 rfl)) Via.refl e21 ((Fv.keep Kq8 nin0).other W21 (Or.inr (slot_ne (Or.inr (ww hw 23 rfl)) (Or.inr (ww hw 24 rfl)) (by decide) (t := (.array .byte)) (t' := .byte) (by decide) (by decide)))) ((Ex.keep Kq8).wr W21) (Or.inr ⟨(ww hw 23 rfl), rfl, hnm⟩) (ww hw 9 rfl) (ty := (.array .byte)) (by decide) rfl rfl (g := (mkF m 54 #[vr x, vr b, vi 0, vi 3, .val .null, vr t8] [(.ref t8), (.ref x)])) rfl rfl (hb hby D16_54)
    have c25 : SS p e below S0 (T24.setTop (mkF m 57 #[vr x, vr b, vi 0, vi 3, .val .null, vr t8] [])) := c23.trans (st24 _ (Steps.refl _))
    have N24 := Fr.snoc X24 N21 g_x
    have Fw24 := ((Fv.keep Kq8 nin0).other W21 (Or.inr (slot_ne (Or.inr (ww hw 23 rfl)) (Or.inr (ww hw 24 rfl)) (by decide) (t := (.array .byte)) (t' := .byte) (by decide) (by decide)))).same W24
    have z24 : n0 ≤ h24.size := Nat.le_trans z21 (Keep.of_wr W24).1
    have K24 := K21.wr W24 (Or.inl (by simp))
    obtain ⟨fs, hr, hrun, hended, hW, hsame⟩ := X24.leave (v := none) (fun h => rfl)
    refine ⟨_, _, c25.trans (X24.returnOut hx Bd.returns (hb hby D16_57) hr), hrun, hended, _, _, rfl, ?_, ⟨_, rfl⟩, hW, hsame.mono (by first | decide | exact Nat.le_of_ble_eq_true rfl) (by first | decide | exact Nat.le_of_ble_eq_true rfl)⟩
    show QNw Z x ([ch0, ch1, ch2] : List Int32) h0 n0 _ T24.heap _
    rw [e24]
    exact ⟨_, _, _, _, _, rfl, N24, K24, (((Ex.keep Kq8).wr W21).wr W24), Fw24, (Fw21.other W24 (Or.inr (slot_ne (Or.inr (ww hw 24 rfl)) (Or.inr (ww hw 23 rfl)) (by decide) (t := .byte) (t' := (.array .byte)) (by decide) (by decide)))), ((Vy8.other W21 (Ne.symm (Nat.ne_of_lt (Nat.lt_of_lt_of_le Ex.lt gt8)))).other W24 (Ne.symm (Nat.ne_of_lt (Nat.lt_of_lt_of_le Ex.lt gt8)))), hcd, (own_alS hc0 (own_alS hc1 (own_alS hc2 own_al0))), Nat.le_of_ble_eq_true rfl⟩

theorem ef_rmN1_3 (m : MethodId) (x0 : Addr) (x1 : Addr) : entryFrame m #[(.ref x0), (.ref x1)] 2 = mkF m 0 #[.val (.ref x0), .val (.ref x1)] [] := by first | (simp [entryFrame, mkF, argsToLocals, Value.category]; done) | rfl
set_option maxRecDepth 65536 in
set_option maxHeartbeats 40000000 in
theorem rmN1_3 (l : Launch) (Z : State) (a0 : Array Value) (hw : ∀ d ∈ tables_1, d.before a0 Z = true) (ws : List Jvm.Cond) (x : Addr) (b : Addr) (kc : ClassId) (ch0 ch1 ch2 : Int32) (G1 : Int32) (h0 : Heap) (n0 : Nat) (Z0 : n0 ≤ h0.size) (g_x : n0 ≤ x) (Ex : Exa Z h0 x "java/lang/String") (Fv : Fld Z h0 x "java/lang/String" "value" "[B" .null) (Fc : Fld Z h0 x "java/lang/String" "coder" "B" (.int 0)) (Vb : Arv Z h0 b kc .char (3 : Int32) [.int ch0, .int ch1, .int ch2] (.int 0)) (hc0 : C16 ch0) (hc1 : C16 ch1) (hc2 : C16 ch2) (sAD : Sta Z Z.heap "java/lang/StringUTF16" "$assertionsDisabled" "Z" (.int 1)) (sHI : Sta Z Z.heap "java/lang/StringUTF16" "HI_BYTE_SHIFT" "I" (.int 0)) (sLO : Sta Z Z.heap "java/lang/StringUTF16" "LO_BYTE_SHIFT" "I" (.int 8)) (O2 : Sta Z Z.heap "java/lang/String" "COMPACT_STRINGS" "Z" (.int G1)) (P5 : ¬ G1 = 0) (X00 : Old Z n0 h0) :
    MetFree l (⟨"java/lang/String", "<init>", "([C)V"⟩ : MethodName) (head1 (Jvm.Cond.code (⟨"java/lang/String", "<init>", "([C)V"⟩ : MethodName) jdk_42_method_3_code 2 (none) :: ws) ({ frames := 5, cells := 2, slots := 9, locals := 74 } : Room)) (fun aa U => aa = #[(.ref x), (.ref b)] ∧ Z.Warmed39 U.vm ∧ U.heap = h0) (fun _ _ _ _ _ => True) (fun _ U o U' => ∃ v L, o = .returned v ∧ QNw Z x ([ch0, ch1, ch2] : List Int32) h0 n0 v U'.heap L ∧ FrameEnd U o U' L ({ frames := 5, cells := 2, slots := 9, locals := 74 } : Room).cells ({ frames := 5, cells := 2, slots := 9, locals := 74 } : Room).slots) := by
  refine MetFree.of_bodySF (plainFor_of_name pn_java_lang_String) hisR ?_
  intro p e s m args below meth c s₁ Bd hml0 hP hK
  obtain ⟨rfl, hZ, hh⟩ := hP
  have hx := Bd.exec
  have hby := Bd.bytes
  have hml : c.maxLocals = 2 := hml0
  have hown : s.vm.findClass "java/lang/String" = some m.cls := findClass_of_methodNamed Bd.named
  have hnm := (name_of_methodNamed Bd.named Bd.method).1
  have X0 : Stand p l e ({ frames := 5, cells := 2, slots := 9, locals := 74 } : Room) s m #[(.ref x), (.ref b)] below meth c s₁ [] 0 0 := Stand.of_body Bd
  have e0 : s₁.heap = h0 := by rw [← hh, Bd.state]; rfl
  have N0 := Fr.nil n0
  have K0 := Keep.refl h0 [x]
  obtain ⟨S0, hS0⟩ : ∃ z, z = s₁.setTop (entryFrame m #[(.ref x), (.ref b)] 2) := ⟨_, rfl⟩
  rw [← hS0]
  have c0 : SS p e below S0 (s₁.setTop (mkF m 0 #[vr x, vr b] [])) := by
    rw [hS0]; exact castTop (ef_rmN1_3 m x b) (Steps.refl _)
  have c1 : SS p e below S0 (s₁.setTop (mkF m 4 #[vr x, vr b] [(.ref b), (.int 0), (.ref b), (.ref x)])) := c0.trans (by
    show SS p e below (s₁.setTop (mkF m 0 #[vr x, vr b] [])) _
    refine XS.aloadN X0.here hx rfl (hb hby D17_0) rfl rfl ?_
    refine XS.aloadN X0.here hx rfl (hb hby D17_1) rfl rfl ?_
    refine XS.iconst X0.here hx rfl (hb hby D17_2) ?_
    refine XS.aloadN X0.here hx rfl (hb hby D17_3) rfl rfl ?_
    exact Steps.refl _)
  obtain ⟨cl2, Ar2, -, S2, Nn2, -, -⟩ := id Vb
  have c3 : SS p e below S0 (s₁.setTop (mkF m 6 #[vr x, vr b] [.null, (.int 3), (.int 0), (.ref b), (.ref x)])) := c1.trans (by
    show SS p e below (s₁.setTop (mkF m 4 #[vr x, vr b] [(.ref b), (.int 0), (.ref b), (.ref x)])) _
    refine X0.arraylength hx (by rw [e0]; exact Ar2.1) (State.isArrayOf_alike hZ.alike Ar2.2.1) (g := (mkF m 4 #[vr x, vr b] [(.ref b), (.int 0), (.ref b), (.ref x)])) rfl rfl (hb hby D17_4) _ ?_
    rw [len_of S2 Nn2]
    refine XS.aconstNull X0.here hx rfl (hb hby D17_5) ?_
    exact Steps.refl _)
  obtain ⟨_, _, ⟨T4, L4, kk4, nn4⟩, -, X4, ⟨Lc4, hQ4, l4, y4, z4⟩, st4⟩ := X0.specialBack hx (y := (⟨"java/lang/String", "<init>", "([CIILjava/lang/Void;)V"⟩ : MethodName)) rfl hown (mvT hZ (ww hw 14 rfl)) (mvT hZ (ww hw 15 rfl)) (mvT hZ (ww hw 17 rfl)) (by decide) (backOf (W := 0) (rmN4_3 l Z a0 hw [] x b kc ch0 ch1 ch2  G1 h0 n0 Z0 g_x Ex Fv Fc Vb hc0 hc1 hc2  sAD sHI sLO O2 P5 X00) hZ (ww hw 17 rfl) (ww hw 10 rfl) (by decide) (by decide)) (g := (mkF m 6 #[vr x, vr b] [.null, (.int 3), (.int 0), (.ref b), (.ref x)])) rfl (by rw [hml]; rfl) (Steps.refl _) (a := x) (argsL := [(.ref b), (.int 0), (.int 3), .null]) (rest := []) (lenOf pd_oaCIILjavaslangsVoidecV rfl) rfl (by show 2 * 0 + _ ≤ _; exact Nat.le_of_eq rfl) (hb hby D17_6) (fun _ _ => ⟨rfl, e0, (by decide : 0 + 2 ≤ _), (by decide : 0 + 9 ≤ _)⟩)
  dsimp only [Pt.U, Pt.locs, Pt.cells, Pt.slots] at X4 l4 y4 z4 st4 hQ4
  subst l4 y4 z4
  obtain ⟨t4, kb4, cd4, N24, vs4, rfl, Nq4, Kq4, Sg4⟩ := hQ4
  have c5 : SS p e below S0 (T4.setTop (mkF m 9 #[vr x, vr b] [])) := c3.trans (st4)
  have N4 := Fr.app N0 Nq4
  have z4 : n0 ≤ T4.heap.size := Nat.le_trans Z0 Kq4.1
  have K4 := K0.trans Kq4 (allS (Or.inl (by simp)) all0)
  obtain ⟨fs, hr, hrun, hended, hW, hsame⟩ := X4.leave (v := none) (fun h => rfl)
  refine ⟨_, _, c5.trans (X4.returnOut hx Bd.returns (hb hby D17_9) hr), hrun, hended, _, _, rfl, ?_, ⟨_, rfl⟩, hW, hsame.mono (by first | decide | exact Nat.le_of_ble_eq_true rfl) (by first | decide | exact Nat.le_of_ble_eq_true rfl)⟩
  show QNw Z x ([ch0, ch1, ch2] : List Int32) h0 n0 _ T4.heap _
  exact ⟨_, _, _, _, _, rfl, N4, K4, Sg4⟩

theorem ef_rmC5_4 (m : MethodId) (x0 : Addr) (x1 : Int32) (x2 : Addr) (x3 : Int32) (x4 : Int32) : entryFrame m #[(.ref x0), (.int x1), (.ref x2), (.int x3), (.int x4)] 7 = mkF m 0 #[.val (.ref x0), .val (.int x1), .val (.ref x2), .val (.int x3), .val (.int x4), .unset, .unset] [] := by first | (simp [entryFrame, mkF, argsToLocals, Value.category]; done) | rfl
set_option maxRecDepth 65536 in
set_option maxHeartbeats 40000000 in
theorem rmC5_4 (l : Launch) (Z : State) (a0 : Array Value) (hw : ∀ d ∈ tables_1, d.before a0 Z = true) (ws : List Jvm.Cond) (d : Addr) (kd : ClassId) (b : Addr) (kc : ClassId) (ch0 ch1 ch2 ch3 : Int32)  (h0 : Heap) (n0 : Nat) (Z0 : n0 ≤ h0.size) (g_d : n0 ≤ d) (hbd : b ≠ d) (Vd : Arv Z h0 d kd .byte (4 : Int32) [.int (0 : Int32), .int (0 : Int32), .int (0 : Int32), .int (0 : Int32)] (.int 0)) (Vb : Arv Z h0 b kc .char (4 : Int32) [.int ch0, .int ch1, .int ch2, .int ch3] (.int 0)) (hc0 : C16 ch0) (hc1 : C16 ch1) (hc2 : C16 ch2) (hc3 : C16 ch3)  :
    MetFree l (⟨"java/lang/StringUTF16", "compress", "([CI[BII)I"⟩ : MethodName) (head1 (Jvm.Cond.code (⟨"java/lang/StringUTF16", "compress", "([CI[BII)I"⟩ : MethodName) jdk_52_method_21_code 7 (some .int) :: ws) ({ frames := 0, cells := 0, slots := 0, locals := 0 } : Room)) (fun aa U => aa = #[(.ref b), (.int 0), (.ref d), (.int 0), (.int 4)] ∧ Z.Warmed39 U.vm ∧ U.heap = h0) (fun _ _ _ _ _ => True) (fun _ U o U' => ∃ v L, o = .returned v ∧ Q5 Z ([ch0, ch1, ch2, ch3] : List Int32) d kd h0 n0 v U'.heap L ∧ FrameEnd U o U' L ({ frames := 0, cells := 0, slots := 0, locals := 0 } : Room).cells ({ frames := 0, cells := 0, slots := 0, locals := 0 } : Room).slots) := by
  refine MetFree.of_bodySF (plainFor_of_name pn_java_lang_StringUTF16) hisR ?_
  intro p e s m args below meth c s₁ Bd hml0 hP hK
  obtain ⟨rfl, hZ, hh⟩ := hP
  have hx := Bd.exec
  have hby := Bd.bytes
  have hml : c.maxLocals = 7 := hml0
  have hown : s.vm.findClass "java/lang/StringUTF16" = some m.cls := findClass_of_methodNamed Bd.named
  have hnm := (name_of_methodNamed Bd.named Bd.method).1
  have X0 : Stand p l e ({ frames := 0, cells := 0, slots := 0, locals := 0 } : Room) s m #[(.ref b), (.int 0), (.ref d), (.int 0), (.int 4)] below meth c s₁ [] 0 0 := Stand.of_body Bd
  have e0 : s₁.heap = h0 := by rw [← hh, Bd.state]; rfl
  have N0 := Fr.nil n0
  have K0 := Keep.refl h0 [d]
  obtain ⟨S0, hS0⟩ : ∃ z, z = s₁.setTop (entryFrame m #[(.ref b), (.int 0), (.ref d), (.int 0), (.int 4)] 7) := ⟨_, rfl⟩
  rw [← hS0]
  have c0 : SS p e below S0 (s₁.setTop (mkF m 0 #[vr b, vi 0, vr d, vi 0, vi 4, .unset, .unset] [])) := by
    rw [hS0]; exact castTop (ef_rmC5_4 m b (0 : Int32) d (0 : Int32) (4 : Int32)) (Steps.refl _)
  have c1 : SS p e below S0 (s₁.setTop (mkF m 12 #[vr b, vi 0, vr d, vi 0, vi 4, vi 0, .unset] [(.int 0), (.ref b)])) := c0.trans (by
    show SS p e below (s₁.setTop (mkF m 0 #[vr b, vi 0, vr d, vi 0, vi 4, .unset, .unset] [])) _
    refine XS.iconst X0.here hx rfl (hb hby D12_0) ?_
    refine XS.istore X0.here hx rfl (hb hby D12_1) rfl (l' := #[vr b, vi 0, vr d, vi 0, vi 4, vi 0, .unset]) rfl ?_
    refine XS.iload X0.here hx rfl (hb hby D12_3) rfl ?_
    refine XS.iload X0.here hx rfl (hb hby D12_5) rfl ?_
    refine XS.icmpNo X0.here hx rfl (hb hby D12_7) rfl (tlt (by decide : ((0 : Int32) < (4 : Int32)))).2.1 ?_
    refine XS.aloadN X0.here hx rfl (hb hby D12_10) rfl rfl ?_
    refine XS.iloadN X0.here hx rfl (hb hby D12_11) rfl ?_
    exact Steps.refl _)
  obtain ⟨cl2, Ar2, -, S2, -, Ha2, -⟩ := id Vb
  have c3 : SS p e below S0 (s₁.setTop (mkF m 20 #[vr b, vi 0, vr d, vi 0, vi 4, vi 0, vi ch0] [(.int 255), (.int ch0)])) := c1.trans (by
    show SS p e below (s₁.setTop (mkF m 12 #[vr b, vi 0, vr d, vi 0, vi 4, vi 0, .unset] [(.int 0), (.ref b)])) _
    refine X0.caload hx (j := (0 : Int32)) (v := (.int ch0)) (by rw [e0]; exact Ar2.1) (State.isArrayOf_alike hZ.alike Ar2.2.1) Ar2.2.2 (inb_of S2 ⟨by decide, by decide⟩) (Ha2.at (inb_of S2 ⟨by decide, by decide⟩) rfl) (g := (mkF m 12 #[vr b, vi 0, vr d, vi 0, vi 4, vi 0, .unset] [(.int 0), (.ref b)])) rfl rfl (hb hby D12_12) _ ?_
    refine XS.istore X0.here hx rfl (hb hby D12_13) rfl (l' := #[vr b, vi 0, vr d, vi 0, vi 4, vi 0, vi ch0]) rfl ?_
    refine XS.iload X0.here hx rfl (hb hby D12_15) rfl ?_
    refine XS.sipush X0.here hx rfl (hb hby D12_17) ?_
    exact Steps.refl _)
  by_cases hq4 : (255 : Int32) < ch0
  · have c5 : SS p e below S0 (s₁.setTop (mkF m 25 #[vr b, vi 0, vr d, vi 0, vi 4, vi 0, vi ch0] [(.int 0)])) := c3.trans (by
      show SS p e below (s₁.setTop (mkF m 20 #[vr b, vi 0, vr d, vi 0, vi 4, vi 0, vi ch0] [(.int 255), (.int ch0)])) _
      refine XS.icmpNo X0.here hx rfl (hb hby D12_20) rfl (tlt hq4).2.2.2 ?_
      refine XS.iload X0.here hx rfl (hb hby D12_23) rfl ?_
      exact Steps.refl _)
    obtain ⟨fs, hr, hrun, hended, hW, hsame⟩ := X0.leave (v := some (.int 0)) (fun h => by rw [Bd.returns] at h; cases h)
    refine ⟨_, _, c5.trans (retOut X0 hx Bd.returns rfl (Or.inl ⟨rfl, by simp, _, rfl⟩) (hb hby D12_25) hr), hrun, hended, _, _, rfl, ?_, ⟨_, rfl⟩, hW, hsame.mono (by first | decide | exact Nat.le_of_ble_eq_true rfl) (by first | decide | exact Nat.le_of_ble_eq_true rfl)⟩
    show Q5 Z ([ch0, ch1, ch2, ch3] : List Int32) d kd h0 n0 _ s₁.heap _
    rw [e0]
    exact ⟨_, rfl, N0, K0, Or.inr ⟨0, Nat.le_of_ble_eq_true rfl, rfl, hq4⟩⟩
  · have c6 : SS p e below S0 (s₁.setTop (mkF m 31 #[vr b, vi 0, vr d, vi 0, vi 4, vi 0, vi ch0] [(.int (ch0.toInt8.toInt32)), (.int 0), (.ref d)])) := c3.trans (by
      show SS p e below (s₁.setTop (mkF m 20 #[vr b, vi 0, vr d, vi 0, vi 4, vi 0, vi ch0] [(.int 255), (.int ch0)])) _
      refine XS.icmpYes X0.here hx rfl (pc0 := 20) (pc' := 26) rfl (hb hby D12_20) rfl (flt hq4).2.2.2 (by decide) (by decide) ?_
      refine XS.aloadN X0.here hx rfl (hb hby D12_26) rfl rfl ?_
      refine XS.iloadN X0.here hx rfl (hb hby D12_27) rfl ?_
      refine XS.iload X0.here hx rfl (hb hby D12_28) rfl ?_
      refine XS.i2b X0.here hx rfl (hb hby D12_30) rfl ?_
      exact Steps.refl _)
    obtain ⟨cl7, Ar7, q7, S7, Nn7, Ha7, G7⟩ := id Vd
    obtain ⟨T7, h7, X7, e7, W7, st7⟩ := stB X0 hx hZ e0 Ar7 (j := (0 : Int32)) (inb_of S7 ⟨by decide, by decide⟩) (g := (mkF m 31 #[vr b, vi 0, vr d, vi 0, vi 4, vi 0, vi ch0] [(.int (ch0.toInt8.toInt32)), (.int 0), (.ref d)])) rfl rfl (hb hby D12_31)
    have V7 : Arv Z h7 d kd .byte (4 : Int32) [(.int ((ch0.toInt8.toInt32).toInt8.toInt32)), (.int 0), (.int 0), (.int 0)] (.int 0) := Arv.set Ar7 q7 S7 Nn7 Ha7 G7 (fits_nar_byte _) W7 0 rfl (Nat.le_of_ble_eq_true rfl)
    have c8 : SS p e below S0 (T7.setTop (mkF m 32 #[vr b, vi 0, vr d, vi 0, vi 4, vi 0, vi ch0] [])) := c6.trans (st7 _ (Steps.refl _))
    have N7 := Fr.snoc X7 N0 g_d
    have z7 : n0 ≤ h7.size := Nat.le_trans Z0 (Keep.of_wr W7).1
    have K7 := K0.wr W7 (Or.inl (by simp))
    have c9 : SS p e below S0 (T7.setTop (mkF m 12 #[vr b, vi 1, vr d, vi 1, vi 4, vi 1, vi ch0] [(.int 1), (.ref b)])) := c8.trans (by
      show SS p e below (T7.setTop (mkF m 32 #[vr b, vi 0, vr d, vi 0, vi 4, vi 0, vi ch0] [])) _
      refine XS.iinc X7.here hx rfl (hb hby D12_32) rfl (l' := #[vr b, vi 1, vr d, vi 0, vi 4, vi 0, vi ch0]) rfl ?_
      refine XS.iinc X7.here hx rfl (hb hby D12_35) rfl (l' := #[vr b, vi 1, vr d, vi 1, vi 4, vi 0, vi ch0]) rfl ?_
      refine XS.iinc X7.here hx rfl (hb hby D12_38) rfl (l' := #[vr b, vi 1, vr d, vi 1, vi 4, vi 1, vi ch0]) rfl ?_
      refine XS.goto X7.here hx rfl (pc0 := 41) (pc' := 3) rfl (hb hby D12_41) (by decide) (by decide) ?_
      refine XS.iload X7.here hx rfl (hb hby D12_3) rfl ?_
      refine XS.iload X7.here hx rfl (hb hby D12_5) rfl ?_
      refine XS.icmpNo X7.here hx rfl (hb hby D12_7) rfl (tlt (by decide : ((1 : Int32) < (4 : Int32)))).2.1 ?_
      refine XS.aloadN X7.here hx rfl (hb hby D12_10) rfl rfl ?_
      refine XS.iloadN X7.here hx rfl (hb hby D12_11) rfl ?_
      exact Steps.refl _)
    obtain ⟨cl10, Ar10, -, S10, -, Ha10, -⟩ := id (Vb.other W7 hbd)
    have c11 : SS p e below S0 (T7.setTop (mkF m 20 #[vr b, vi 1, vr d, vi 1, vi 4, vi 1, vi ch1] [(.int 255), (.int ch1)])) := c9.trans (by
      show SS p e below (T7.setTop (mkF m 12 #[vr b, vi 1, vr d, vi 1, vi 4, vi 1, vi ch0] [(.int 1), (.ref b)])) _
      refine X7.caload hx (j := (1 : Int32)) (v := (.int ch1)) (by rw [e7]; exact Ar10.1) (State.isArrayOf_alike hZ.alike Ar10.2.1) Ar10.2.2 (inb_of S10 ⟨by decide, by decide⟩) (Ha10.at (inb_of S10 ⟨by decide, by decide⟩) rfl) (g := (mkF m 12 #[vr b, vi 1, vr d, vi 1, vi 4, vi 1, vi ch0] [(.int 1), (.ref b)])) rfl rfl (hb hby D12_12) _ ?_
      refine XS.istore X7.here hx rfl (hb hby D12_13) rfl (l' := #[vr b, vi 1, vr d, vi 1, vi 4, vi 1, vi ch1]) rfl ?_
      refine XS.iload X7.here hx rfl (hb hby D12_15) rfl ?_
      refine XS.sipush X7.here hx rfl (hb hby D12_17) ?_
      exact Steps.refl _)
    by_cases hq12 : (255 : Int32) < ch1
    · have c13 : SS p e below S0 (T7.setTop (mkF m 25 #[vr b, vi 1, vr d, vi 1, vi 4, vi 1, vi ch1] [(.int 1)])) := c11.trans (by
        show SS p e below (T7.setTop (mkF m 20 #[vr b, vi 1, vr d, vi 1, vi 4, vi 1, vi ch1] [(.int 255), (.int ch1)])) _
        refine XS.icmpNo X7.here hx rfl (hb hby D12_20) rfl (tlt hq12).2.2.2 ?_
        refine XS.iload X7.here hx rfl (hb hby D12_23) rfl ?_
        exact Steps.refl _)
      obtain ⟨fs, hr, hrun, hended, hW, hsame⟩ := X7.leave (v := some (.int 1)) (fun h => by rw [Bd.returns] at h; cases h)
      refine ⟨_, _, c13.trans (retOut X7 hx Bd.returns rfl (Or.inl ⟨rfl, by simp, _, rfl⟩) (hb hby D12_25) hr), hrun, hended, _, _, rfl, ?_, ⟨_, rfl⟩, hW, hsame.mono (by first | decide | exact Nat.le_of_ble_eq_true rfl) (by first | decide | exact Nat.le_of_ble_eq_true rfl)⟩
      show Q5 Z ([ch0, ch1, ch2, ch3] : List Int32) d kd h0 n0 _ T7.heap _
      rw [e7]
      exact ⟨_, rfl, N7, K7, Or.inr ⟨1, Nat.le_of_ble_eq_true rfl, rfl, hq12⟩⟩
    · have c14 : SS p e below S0 (T7.setTop (mkF m 31 #[vr b, vi 1, vr d, vi 1, vi 4, vi 1, vi ch1] [(.int (ch1.toInt8.toInt32)), (.int 1), (.ref d)])) := c11.trans (by
        show SS p e below (T7.setTop (mkF m 20 #[vr b, vi 1, vr d, vi 1, vi 4, vi 1, vi ch1] [(.int 255), (.int ch1)])) _
        refine XS.icmpYes X7.here hx rfl (pc0 := 20) (pc' := 26) rfl (hb hby D12_20) rfl (flt hq12).2.2.2 (by decide) (by decide) ?_
        refine XS.aloadN X7.here hx rfl (hb hby D12_26) rfl rfl ?_
        refine XS.iloadN X7.here hx rfl (hb hby D12_27) rfl ?_
        refine XS.iload X7.here hx rfl (hb hby D12_28) rfl ?_
        refine XS.i2b X7.here hx rfl (hb hby D12_30) rfl ?_
        exact Steps.refl _)
      obtain ⟨cl15, Ar15, q15, S15, Nn15, Ha15, G15⟩ := id V7
      obtain ⟨T15, h15, X15, e15, W15, st15⟩ := stB X7 hx hZ e7 Ar15 (j := (1 : Int32)) (inb_of S15 ⟨by decide, by decide⟩) (g := (mkF m 31 #[vr b, vi 1, vr d, vi 1, vi 4, vi 1, vi ch1] [(.int (ch1.toInt8.toInt32)), (.int 1), (.ref d)])) rfl rfl (hb hby D12_31)
      have V15 : Arv Z h15 d kd .byte (4 : Int32) [(.int ((ch0.toInt8.toInt32).toInt8.toInt32)), (.int ((ch1.toInt8.toInt32).toInt8.toInt32)), (.int 0), (.int 0)] (.int 0) := Arv.set Ar15 q15 S15 Nn15 Ha15 G15 (fits_nar_byte _) W15 1 rfl (Nat.le_of_ble_eq_true rfl)
      have c16 : SS p e below S0 (T15.setTop (mkF m 32 #[vr b, vi 1, vr d, vi 1, vi 4, vi 1, vi ch1] [])) := c14.trans (st15 _ (Steps.refl _))
      have N15 := Fr.snoc X15 N7 g_d
      have z15 : n0 ≤ h15.size := Nat.le_trans z7 (Keep.of_wr W15).1
      have K15 := K7.wr W15 (Or.inl (by simp))
      have c17 : SS p e below S0 (T15.setTop (mkF m 12 #[vr b, vi 2, vr d, vi 2, vi 4, vi 2, vi ch1] [(.int 2), (.ref b)])) := c16.trans (by
        show SS p e below (T15.setTop (mkF m 32 #[vr b, vi 1, vr d, vi 1, vi 4, vi 1, vi ch1] [])) _
        refine XS.iinc X15.here hx rfl (hb hby D12_32) rfl (l' := #[vr b, vi 2, vr d, vi 1, vi 4, vi 1, vi ch1]) rfl ?_
        refine XS.iinc X15.here hx rfl (hb hby D12_35) rfl (l' := #[vr b, vi 2, vr d, vi 2, vi 4, vi 1, vi ch1]) rfl ?_
        refine XS.iinc X15.here hx rfl (hb hby D12_38) rfl (l' := #[vr b, vi 2, vr d, vi 2, vi 4, vi 2, vi ch1]) rfl ?_
        refine XS.goto X15.here hx rfl (pc0 := 41) (pc' := 3) rfl (hb hby D12_41) (by decide) (by decide) ?_
        refine XS.iload X15.here hx rfl (hb hby D12_3) rfl ?_
        refine XS.iload X15.here hx rfl (hb hby D12_5) rfl ?_
        refine XS.icmpNo X15.here hx rfl (hb hby D12_7) rfl (tlt (by decide : ((2 : Int32) < (4 : Int32)))).2.1 ?_
        refine XS.aloadN X15.here hx rfl (hb hby D12_10) rfl rfl ?_
        refine XS.iloadN X15.here hx rfl (hb hby D12_11) rfl ?_
        exact Steps.refl _)
      obtain ⟨cl18, Ar18, -, S18, -, Ha18, -⟩ := id ((Vb.other W7 hbd).other W15 hbd)
      have c19 : SS p e below S0 (T15.setTop (mkF m 20 #[vr b, vi 2, vr d, vi 2, vi 4, vi 2, vi ch2] [(.int 255), (.int ch2)])) := c17.trans (by
        show SS p e below (T15.setTop (mkF m 12 #[vr b, vi 2, vr d, vi 2, vi 4, vi 2, vi ch1] [(.int 2), (.ref b)])) _
        refine X15.caload hx (j := (2 : Int32)) (v := (.int ch2)) (by rw [e15]; exact Ar18.1) (State.isArrayOf_alike hZ.alike Ar18.2.1) Ar18.2.2 (inb_of S18 ⟨by decide, by decide⟩) (Ha18.at (inb_of S18 ⟨by decide, by decide⟩) rfl) (g := (mkF m 12 #[vr b, vi 2, vr d, vi 2, vi 4, vi 2, vi ch1] [(.int 2), (.ref b)])) rfl rfl (hb hby D12_12) _ ?_
        refine XS.istore X15.here hx rfl (hb hby D12_13) rfl (l' := #[vr b, vi 2, vr d, vi 2, vi 4, vi 2, vi ch2]) rfl ?_
        refine XS.iload X15.here hx rfl (hb hby D12_15) rfl ?_
        refine XS.sipush X15.here hx rfl (hb hby D12_17) ?_
        exact Steps.refl _)
      by_cases hq20 : (255 : Int32) < ch2
      · have c21 : SS p e below S0 (T15.setTop (mkF m 25 #[vr b, vi 2, vr d, vi 2, vi 4, vi 2, vi ch2] [(.int 2)])) := c19.trans (by
          show SS p e below (T15.setTop (mkF m 20 #[vr b, vi 2, vr d, vi 2, vi 4, vi 2, vi ch2] [(.int 255), (.int ch2)])) _
          refine XS.icmpNo X15.here hx rfl (hb hby D12_20) rfl (tlt hq20).2.2.2 ?_
          refine XS.iload X15.here hx rfl (hb hby D12_23) rfl ?_
          exact Steps.refl _)
        obtain ⟨fs, hr, hrun, hended, hW, hsame⟩ := X15.leave (v := some (.int 2)) (fun h => by rw [Bd.returns] at h; cases h)
        refine ⟨_, _, c21.trans (retOut X15 hx Bd.returns rfl (Or.inl ⟨rfl, by simp, _, rfl⟩) (hb hby D12_25) hr), hrun, hended, _, _, rfl, ?_, ⟨_, rfl⟩, hW, hsame.mono (by first | decide | exact Nat.le_of_ble_eq_true rfl) (by first | decide | exact Nat.le_of_ble_eq_true rfl)⟩
        show Q5 Z ([ch0, ch1, ch2, ch3] : List Int32) d kd h0 n0 _ T15.heap _
        rw [e15]
        exact ⟨_, rfl, N15, K15, Or.inr ⟨2, Nat.le_of_ble_eq_true rfl, rfl, hq20⟩⟩
      · have c22 : SS p e below S0 (T15.setTop (mkF m 31 #[vr b, vi 2, vr d, vi 2, vi 4, vi 2, vi ch2] [(.int (ch2.toInt8.toInt32)), (.int 2), (.ref d)])) := c19.trans (by
          show SS p e below (T15.setTop (mkF m 20 #[vr b, vi 2, vr d, vi 2, vi 4, vi 2, vi ch2] [(.int 255), (.int ch2)])) _
          refine XS.icmpYes X15.here hx rfl (pc0 := 20) (pc' := 26) rfl (hb hby D12_20) rfl (flt hq20).2.2.2 (by decide) (by decide) ?_
          refine XS.aloadN X15.here hx rfl (hb hby D12_26) rfl rfl ?_
          refine XS.iloadN X15.here hx rfl (hb hby D12_27) rfl ?_
          refine XS.iload X15.here hx rfl (hb hby D12_28) rfl ?_
          refine XS.i2b X15.here hx rfl (hb hby D12_30) rfl ?_
          exact Steps.refl _)
        obtain ⟨cl23, Ar23, q23, S23, Nn23, Ha23, G23⟩ := id V15
        obtain ⟨T23, h23, X23, e23, W23, st23⟩ := stB X15 hx hZ e15 Ar23 (j := (2 : Int32)) (inb_of S23 ⟨by decide, by decide⟩) (g := (mkF m 31 #[vr b, vi 2, vr d, vi 2, vi 4, vi 2, vi ch2] [(.int (ch2.toInt8.toInt32)), (.int 2), (.ref d)])) rfl rfl (hb hby D12_31)
        have V23 : Arv Z h23 d kd .byte (4 : Int32) [(.int ((ch0.toInt8.toInt32).toInt8.toInt32)), (.int ((ch1.toInt8.toInt32).toInt8.toInt32)), (.int ((ch2.toInt8.toInt32).toInt8.toInt32)), (.int 0)] (.int 0) := Arv.set Ar23 q23 S23 Nn23 Ha23 G23 (fits_nar_byte _) W23 2 rfl (Nat.le_of_ble_eq_true rfl)
        have c24 : SS p e below S0 (T23.setTop (mkF m 32 #[vr b, vi 2, vr d, vi 2, vi 4, vi 2, vi ch2] [])) := c22.trans (st23 _ (Steps.refl _))
        have N23 := Fr.snoc X23 N15 g_d
        have z23 : n0 ≤ h23.size := Nat.le_trans z15 (Keep.of_wr W23).1
        have K23 := K15.wr W23 (Or.inl (by simp))
        have c25 : SS p e below S0 (T23.setTop (mkF m 12 #[vr b, vi 3, vr d, vi 3, vi 4, vi 3, vi ch2] [(.int 3), (.ref b)])) := c24.trans (by
          show SS p e below (T23.setTop (mkF m 32 #[vr b, vi 2, vr d, vi 2, vi 4, vi 2, vi ch2] [])) _
          refine XS.iinc X23.here hx rfl (hb hby D12_32) rfl (l' := #[vr b, vi 3, vr d, vi 2, vi 4, vi 2, vi ch2]) rfl ?_
          refine XS.iinc X23.here hx rfl (hb hby D12_35) rfl (l' := #[vr b, vi 3, vr d, vi 3, vi 4, vi 2, vi ch2]) rfl ?_
          refine XS.iinc X23.here hx rfl (hb hby D12_38) rfl (l' := #[vr b, vi 3, vr d, vi 3, vi 4, vi 3, vi ch2]) rfl ?_
          refine XS.goto X23.here hx rfl (pc0 := 41) (pc' := 3) rfl (hb hby D12_41) (by decide) (by decide) ?_
          refine XS.iload X23.here hx rfl (hb hby D12_3) rfl ?_
          refine XS.iload X23.here hx rfl (hb hby D12_5) rfl ?_
          refine XS.icmpNo X23.here hx rfl (hb hby D12_7) rfl (tlt (by decide : ((3 : Int32) < (4 : Int32)))).2.1 ?_
          refine XS.aloadN X23.here hx rfl (hb hby D12_10) rfl rfl ?_
          refine XS.iloadN X23.here hx rfl (hb hby D12_11) rfl ?_
          exact Steps.refl _)
        obtain ⟨cl26, Ar26, -, S26, -, Ha26, -⟩ := id (((Vb.other W7 hbd).other W15 hbd).other W23 hbd)
        have c27 : SS p e below S0 (T23.setTop (mkF m 20 #[vr b, vi 3, vr d, vi 3, vi 4, vi 3, vi ch3] [(.int 255), (.int ch3)])) := c25.trans (by
          show SS p e below (T23.setTop (mkF m 12 #[vr b, vi 3, vr d, vi 3, vi 4, vi 3, vi ch2] [(.int 3), (.ref b)])) _
          refine X23.caload hx (j := (3 : Int32)) (v := (.int ch3)) (by rw [e23]; exact Ar26.1) (State.isArrayOf_alike hZ.alike Ar26.2.1) Ar26.2.2 (inb_of S26 ⟨by decide, by decide⟩) (Ha26.at (inb_of S26 ⟨by decide, by decide⟩) rfl) (g := (mkF m 12 #[vr b, vi 3, vr d, vi 3, vi 4, vi 3, vi ch2] [(.int 3), (.ref b)])) rfl rfl (hb hby D12_12) _ ?_
          refine XS.istore X23.here hx rfl (hb hby D12_13) rfl (l' := #[vr b, vi 3, vr d, vi 3, vi 4, vi 3, vi ch3]) rfl ?_
          refine XS.iload X23.here hx rfl (hb hby D12_15) rfl ?_
          refine XS.sipush X23.here hx rfl (hb hby D12_17) ?_
          exact Steps.refl _)
        by_cases hq28 : (255 : Int32) < ch3
        · have c29 : SS p e below S0 (T23.setTop (mkF m 25 #[vr b, vi 3, vr d, vi 3, vi 4, vi 3, vi ch3] [(.int 3)])) := c27.trans (by
            show SS p e below (T23.setTop (mkF m 20 #[vr b, vi 3, vr d, vi 3, vi 4, vi 3, vi ch3] [(.int 255), (.int ch3)])) _
            refine XS.icmpNo X23.here hx rfl (hb hby D12_20) rfl (tlt hq28).2.2.2 ?_
            refine XS.iload X23.here hx rfl (hb hby D12_23) rfl ?_
            exact Steps.refl _)
          obtain ⟨fs, hr, hrun, hended, hW, hsame⟩ := X23.leave (v := some (.int 3)) (fun h => by rw [Bd.returns] at h; cases h)
          refine ⟨_, _, c29.trans (retOut X23 hx Bd.returns rfl (Or.inl ⟨rfl, by simp, _, rfl⟩) (hb hby D12_25) hr), hrun, hended, _, _, rfl, ?_, ⟨_, rfl⟩, hW, hsame.mono (by first | decide | exact Nat.le_of_ble_eq_true rfl) (by first | decide | exact Nat.le_of_ble_eq_true rfl)⟩
          show Q5 Z ([ch0, ch1, ch2, ch3] : List Int32) d kd h0 n0 _ T23.heap _
          rw [e23]
          exact ⟨_, rfl, N23, K23, Or.inr ⟨3, Nat.le_of_ble_eq_true rfl, rfl, hq28⟩⟩
        · have c30 : SS p e below S0 (T23.setTop (mkF m 31 #[vr b, vi 3, vr d, vi 3, vi 4, vi 3, vi ch3] [(.int (ch3.toInt8.toInt32)), (.int 3), (.ref d)])) := c27.trans (by
            show SS p e below (T23.setTop (mkF m 20 #[vr b, vi 3, vr d, vi 3, vi 4, vi 3, vi ch3] [(.int 255), (.int ch3)])) _
            refine XS.icmpYes X23.here hx rfl (pc0 := 20) (pc' := 26) rfl (hb hby D12_20) rfl (flt hq28).2.2.2 (by decide) (by decide) ?_
            refine XS.aloadN X23.here hx rfl (hb hby D12_26) rfl rfl ?_
            refine XS.iloadN X23.here hx rfl (hb hby D12_27) rfl ?_
            refine XS.iload X23.here hx rfl (hb hby D12_28) rfl ?_
            refine XS.i2b X23.here hx rfl (hb hby D12_30) rfl ?_
            exact Steps.refl _)
          obtain ⟨cl31, Ar31, q31, S31, Nn31, Ha31, G31⟩ := id V23
          obtain ⟨T31, h31, X31, e31, W31, st31⟩ := stB X23 hx hZ e23 Ar31 (j := (3 : Int32)) (inb_of S31 ⟨by decide, by decide⟩) (g := (mkF m 31 #[vr b, vi 3, vr d, vi 3, vi 4, vi 3, vi ch3] [(.int (ch3.toInt8.toInt32)), (.int 3), (.ref d)])) rfl rfl (hb hby D12_31)
          have V31 : Arv Z h31 d kd .byte (4 : Int32) [(.int ((ch0.toInt8.toInt32).toInt8.toInt32)), (.int ((ch1.toInt8.toInt32).toInt8.toInt32)), (.int ((ch2.toInt8.toInt32).toInt8.toInt32)), (.int ((ch3.toInt8.toInt32).toInt8.toInt32))] (.int 0) := Arv.set Ar31 q31 S31 Nn31 Ha31 G31 (fits_nar_byte _) W31 3 rfl (Nat.le_of_ble_eq_true rfl)
          have c32 : SS p e below S0 (T31.setTop (mkF m 32 #[vr b, vi 3, vr d, vi 3, vi 4, vi 3, vi ch3] [])) := c30.trans (st31 _ (Steps.refl _))
          have N31 := Fr.snoc X31 N23 g_d
          have z31 : n0 ≤ h31.size := Nat.le_trans z23 (Keep.of_wr W31).1
          have K31 := K23.wr W31 (Or.inl (by simp))
          have c33 : SS p e below S0 (T31.setTop (mkF m 46 #[vr b, vi 4, vr d, vi 4, vi 4, vi 4, vi ch3] [(.int 4)])) := c32.trans (by
            show SS p e below (T31.setTop (mkF m 32 #[vr b, vi 3, vr d, vi 3, vi 4, vi 3, vi ch3] [])) _
            refine XS.iinc X31.here hx rfl (hb hby D12_32) rfl (l' := #[vr b, vi 4, vr d, vi 3, vi 4, vi 3, vi ch3]) rfl ?_
            refine XS.iinc X31.here hx rfl (hb hby D12_35) rfl (l' := #[vr b, vi 4, vr d, vi 4, vi 4, vi 3, vi ch3]) rfl ?_
            refine XS.iinc X31.here hx rfl (hb hby D12_38) rfl (l' := #[vr b, vi 4, vr d, vi 4, vi 4, vi 4, vi ch3]) rfl ?_
            refine XS.goto X31.here hx rfl (pc0 := 41) (pc' := 3) rfl (hb hby D12_41) (by decide) (by decide) ?_
            refine XS.iload X31.here hx rfl (hb hby D12_3) rfl ?_
            refine XS.iload X31.here hx rfl (hb hby D12_5) rfl ?_
            refine XS.icmpYes X31.here hx rfl (pc0 := 7) (pc' := 44) rfl (hb hby D12_7) rfl (flt (by decide : ¬ ((4 : Int32) < (4 : Int32)))).2.1 (by decide) (by decide) ?_
            refine XS.iload X31.here hx rfl (hb hby D12_44) rfl ?_
            exact Steps.refl _)
          obtain ⟨fs, hr, hrun, hended, hW, hsame⟩ := X31.leave (v := some (.int 4)) (fun h => by rw [Bd.returns] at h; cases h)
          refine ⟨_, _, c33.trans (retOut X31 hx Bd.returns rfl (Or.inl ⟨rfl, by simp, _, rfl⟩) (hb hby D12_46) hr), hrun, hended, _, _, rfl, ?_, ⟨_, rfl⟩, hW, hsame.mono (by first | decide | exact Nat.le_of_ble_eq_true rfl) (by first | decide | exact Nat.le_of_ble_eq_true rfl)⟩
          show Q5 Z ([ch0, ch1, ch2, ch3] : List Int32) d kd h0 n0 _ T31.heap _
          rw [e31]
          have Vz := V31
          simp only [own_lo2] at Vz
          exact ⟨_, rfl, N31, K31, Or.inl ⟨rfl, (own_alS hq4 (own_alS hq12 (own_alS hq20 (own_alS hq28 own_al0)))), Vz⟩⟩

theorem ef_rmNF_4 (m : MethodId) (x0 : Int32) : entryFrame m #[(.int x0)] 1 = mkF m 0 #[.val (.int x0)] [] := by first | (simp [entryFrame, mkF, argsToLocals, Value.category]; done) | rfl
set_option maxRecDepth 65536 in
set_option maxHeartbeats 40000000 in
theorem rmNF_4 (l : Launch) (Z : State) (a0 : Array Value) (hw : ∀ d ∈ tables_1, d.before a0 Z = true) (ws : List Jvm.Cond)  (h0 : Heap) (n0 : Nat) (Z0 : n0 ≤ h0.size)  :
    MetFree l (⟨"java/lang/StringUTF16", "newBytesFor", "(I)[B"⟩ : MethodName) (head1 (Jvm.Cond.code (⟨"java/lang/StringUTF16", "newBytesFor", "(I)[B"⟩ : MethodName) jdk_52_method_2_code 1 (some (.array .byte)) :: ws) ({ frames := 1, cells := 1, slots := 8, locals := 12 } : Room)) (fun aa U => aa = #[(.int 4)] ∧ Z.Warmed39 U.vm ∧ U.heap = h0) (fun _ _ _ _ _ => True) (fun _ U o U' => ∃ v L, o = .returned v ∧ QArr Z (8 : Int32) [.int (0 : Int32), .int (0 : Int32), .int (0 : Int32), .int (0 : Int32), .int (0 : Int32), .int (0 : Int32), .int (0 : Int32), .int (0 : Int32)] h0 n0 v U'.heap L ∧ FrameEnd U o U' L ({ frames := 1, cells := 1, slots := 8, locals := 12 } : Room).cells ({ frames := 1, cells := 1, slots := 8, locals := 12 } : Room).slots) := by
  refine MetFree.of_bodySF (plainFor_of_name pn_java_lang_StringUTF16) hisR ?_
  intro p e s m args below meth c s₁ Bd hml0 hP hK
  obtain ⟨rfl, hZ, hh⟩ := hP
  have hx := Bd.exec
  have hby := Bd.bytes
  have hml : c.maxLocals = 1 := hml0
  have hown : s.vm.findClass "java/lang/StringUTF16" = some m.cls := findClass_of_methodNamed Bd.named
  have hnm := (name_of_methodNamed Bd.named Bd.method).1
  have X0 : Stand p l e ({ frames := 1, cells := 1, slots := 8, locals := 12 } : Room) s m #[(.int 4)] below meth c s₁ [] 0 0 := Stand.of_body Bd
  have e0 : s₁.heap = h0 := by rw [← hh, Bd.state]; rfl
  have N0 := Fr.nil n0
  have K0 := Keep.refl h0 []
  obtain ⟨S0, hS0⟩ : ∃ z, z = s₁.setTop (entryFrame m #[(.int 4)] 1) := ⟨_, rfl⟩
  rw [← hS0]
  have c0 : SS p e below S0 (s₁.setTop (mkF m 0 #[vi 4] [])) := by
    rw [hS0]; exact castTop (ef_rmNF_4 m (4 : Int32)) (Steps.refl _)
  have c1 : SS p e below S0 (s₁.setTop (mkF m 1 #[vi 4] [(.int 4)])) := c0.trans (by
    show SS p e below (s₁.setTop (mkF m 0 #[vi 4] [])) _
    refine XS.iloadN X0.here hx rfl (hb hby D13_0) rfl ?_
    exact Steps.refl _)
  obtain ⟨_, _, ⟨T2, L2, kk2, nn2⟩, -, X2, ⟨Lc2, hQ2, l2, y2, z2⟩, st2⟩ := Jvm.LawKit.callS X0 hx (y := (⟨"java/lang/StringUTF16", "newBytesLength", "(I)I"⟩ : MethodName)) hown (mvT hZ (ww hw 113 rfl)) (mvT hZ (ww hw 114 rfl)) (mvT hZ (ww hw 52 rfl)) (mvT hZ (ww hw 115 rfl)) (by decide) (backOf (W := 0) (rmNL l Z a0 hw [] (4 : Int32) (8 : Int32) h0 n0 Z0 (by decide) (by decide) (by decide)) hZ (ww hw 115 rfl) (ww hw 52 rfl) (by decide) (by decide)) (g := (mkF m 1 #[vi 4] [(.int 4)])) rfl (by rw [hml]; rfl) (argsL := [(.int 4)]) (rest := []) (lenOf pd_oIcI rfl) rfl (by show 2 * 0 + _ ≤ _; exact Nat.le_of_eq rfl) (hb hby D13_1) (fun _ _ => ⟨rfl, e0, (by decide : 0 + 0 ≤ _), (by decide : 0 + 0 ≤ _)⟩)
  dsimp only [Pt.U, Pt.locs, Pt.cells, Pt.slots] at X2 l2 y2 z2 st2 hQ2
  subst l2 y2 z2
  obtain ⟨rfl, Nq2, eq2⟩ := hQ2
  have c3 : SS p e below S0 (T2.setTop (mkF m 4 #[vi 4] [(.int 8)])) := c1.trans (st2 _ (Steps.refl _))
  have N2 := Fr.app N0 Nq2
  obtain ⟨T4, h4, k4, X4, e4, E4, A4, st4⟩ := newP X2 hx hZ (ww hw 22 rfl) eq2 (g := (mkF m 4 #[vi 4] [(.int 8)])) rfl (hb hby D13_4) rfl (by decide) (cap := 8) (by decide) (by decide) (by decide) (by decide)
  obtain ⟨b4, g4⟩ : ∃ z, z = h0.size := ⟨_, rfl⟩
  rw [← g4] at A4 st4
  have c5 : SS p e below S0 (T4.setTop (mkF m 6 #[vi 4] [(.ref b4)])) := c3.trans (st4 _ (Steps.refl _))
  have z4 : n0 ≤ h4.size := Nat.le_trans Z0 E4.1
  have K4 := K0.ext E4
  have V4 : Arv Z h4 b4 k4 .byte (8 : Int32) [(.int 0), (.int 0), (.int 0), (.int 0), (.int 0), (.int 0), (.int 0), (.int 0)] (.int 0) := (Arv.new A4 (by decide)).pad (pad_rep [] (.int 0) 8)
  have lt_b4 : b4 < h4.size := V4.lt
  obtain ⟨fs, hr, hrun, hended, hW, hsame⟩ := X4.leave (v := some (.ref b4)) (fun h => by rw [Bd.returns] at h; cases h)
  refine ⟨_, _, c5.trans (retOut X4 hx Bd.returns rfl (Or.inr (Or.inr (Or.inr (Or.inr ⟨rfl, rfl, rfl⟩)))) (hb hby D13_6) hr), hrun, hended, _, _, rfl, ?_, ⟨_, rfl⟩, hW, hsame.mono (by first | decide | exact Nat.le_of_ble_eq_true rfl) (by first | decide | exact Nat.le_of_ble_eq_true rfl)⟩
  show QArr Z (8 : Int32) [.int (0 : Int32), .int (0 : Int32), .int (0 : Int32), .int (0 : Int32), .int (0 : Int32), .int (0 : Int32), .int (0 : Int32), .int (0 : Int32)] h0 n0 _ T4.heap _
  rw [e4]
  exact ⟨_, _, rfl, N2, K4, (Nat.le_trans K0.1 (Nat.le_of_eq g4.symm)), V4⟩

theorem ef_rmTB_4 (m : MethodId) (x0 : Addr) (x1 : Int32) (x2 : Int32) : entryFrame m #[(.ref x0), (.int x1), (.int x2)] 5 = mkF m 0 #[.val (.ref x0), .val (.int x1), .val (.int x2), .unset, .unset] [] := by first | (simp [entryFrame, mkF, argsToLocals, Value.category]; done) | rfl
set_option maxRecDepth 65536 in
set_option maxHeartbeats 40000000 in
theorem rmTB_4 (l : Launch) (Z : State) (a0 : Array Value) (hw : ∀ d ∈ tables_1, d.before a0 Z = true) (ws : List Jvm.Cond) (b : Addr) (kc : ClassId) (ch0 ch1 ch2 ch3 : Int32)  (h0 : Heap) (n0 : Nat) (Z0 : n0 ≤ h0.size) (Vb : Arv Z h0 b kc .char (4 : Int32) [.int ch0, .int ch1, .int ch2, .int ch3] (.int 0)) (sAD : Sta Z Z.heap "java/lang/StringUTF16" "$assertionsDisabled" "Z" (.int 1)) (sHI : Sta Z Z.heap "java/lang/StringUTF16" "HI_BYTE_SHIFT" "I" (.int 0)) (sLO : Sta Z Z.heap "java/lang/StringUTF16" "LO_BYTE_SHIFT" "I" (.int 8)) (X00 : Old Z n0 h0) :
    MetFree l (⟨"java/lang/StringUTF16", "toBytes", "([CII)[B"⟩ : MethodName) (head1 (Jvm.Cond.code (⟨"java/lang/StringUTF16", "toBytes", "([CII)[B"⟩ : MethodName) jdk_52_method_14_code 5 (some (.array .byte)) :: ws) ({ frames := 2, cells := 1, slots := 8, locals := 24 } : Room)) (fun aa U => aa = #[(.ref b), (.int 0), (.int 4)] ∧ Z.Warmed39 U.vm ∧ U.heap = h0) (fun _ _ _ _ _ => True) (fun _ U o U' => ∃ v L, o = .returned v ∧ QArr Z (8 : Int32) (StrChars.Road.wideBytes ([ch0, ch1, ch2, ch3] : List Int32)) h0 n0 v U'.heap L ∧ FrameEnd U o U' L ({ frames := 2, cells := 1, slots := 8, locals := 24 } : Room).cells ({ frames := 2, cells := 1, slots := 8, locals := 24 } : Room).slots) := by
  refine MetFree.of_bodySF (plainFor_of_name pn_java_lang_StringUTF16) hisR ?_
  intro p e s m args below meth c s₁ Bd hml0 hP hK
  obtain ⟨rfl, hZ, hh⟩ := hP
  have hx := Bd.exec
  have hby := Bd.bytes
  have hml : c.maxLocals = 5 := hml0
  have hown : s.vm.findClass "java/lang/StringUTF16" = some m.cls := findClass_of_methodNamed Bd.named
  have hnm := (name_of_methodNamed Bd.named Bd.method).1
  have X0 : Stand p l e ({ frames := 2, cells := 1, slots := 8, locals := 24 } : Room) s m #[(.ref b), (.int 0), (.int 4)] below meth c s₁ [] 0 0 := Stand.of_body Bd
  have e0 : s₁.heap = h0 := by rw [← hh, Bd.state]; rfl
  have N0 := Fr.nil n0
  have K0 := Keep.refl h0 []
  obtain ⟨S0, hS0⟩ : ∃ z, z = s₁.setTop (entryFrame m #[(.ref b), (.int 0), (.int 4)] 5) := ⟨_, rfl⟩
  rw [← hS0]
  have c0 : SS p e below S0 (s₁.setTop (mkF m 0 #[vr b, vi 0, vi 4, .unset, .unset] [])) := by
    rw [hS0]; exact castTop (ef_rmTB_4 m b (0 : Int32) (4 : Int32)) (Steps.refl _)
  have c1 : SS p e below S0 (s₁.setTop (mkF m 1 #[vr b, vi 0, vi 4, .unset, .unset] [(.int 4)])) := c0.trans (by
    show SS p e below (s₁.setTop (mkF m 0 #[vr b, vi 0, vi 4, .unset, .unset] [])) _
    refine XS.iloadN X0.here hx rfl (hb hby D14_0) rfl ?_
    exact Steps.refl _)
  obtain ⟨_, _, ⟨T2, L2, kk2, nn2⟩, -, X2, ⟨Lc2, hQ2, l2, y2, z2⟩, st2⟩ := Jvm.LawKit.callS X0 hx (y := (⟨"java/lang/StringUTF16", "newBytesFor", "(I)[B"⟩ : MethodName)) hown (mvT hZ (ww hw 110 rfl)) (mvT hZ (ww hw 111 rfl)) (mvT hZ (ww hw 52 rfl)) (mvT hZ (ww hw 112 rfl)) (by decide) (backOf (W := 0) (rmNF_4 l Z a0 hw [] h0 n0 Z0) hZ (ww hw 112 rfl) (ww hw 52 rfl) (by decide) (by decide)) (g := (mkF m 1 #[vr b, vi 0, vi 4, .unset, .unset] [(.int 4)])) rfl (by rw [hml]; rfl) (argsL := [(.int 4)]) (rest := []) (lenOf pd_oIcaB rfl) rfl (by show 2 * 0 + _ ≤ _; exact Nat.le_of_eq rfl) (hb hby D14_1) (fun _ _ => ⟨rfl, e0, (by decide : 0 + 1 ≤ _), (by decide : 0 + 8 ≤ _)⟩)
  dsimp only [Pt.U, Pt.locs, Pt.cells, Pt.slots] at X2 l2 y2 z2 st2 hQ2
  subst l2 y2 z2
  obtain ⟨t2, kb2, rfl, Nq2, Kq2, gt2, Vt2⟩ := hQ2
  have c3 : SS p e below S0 (T2.setTop (mkF m 4 #[vr b, vi 0, vi 4, .unset, .unset] [(.ref t2)])) := c1.trans (st2 _ (Steps.refl _))
  have N2 := Fr.app N0 Nq2
  have z2 : n0 ≤ T2.heap.size := Nat.le_trans Z0 Kq2.1
  have K2 := K0.trans Kq2 all0
  have lt_t2 := Vt2.lt
  have c4 : SS p e below S0 (T2.setTop (mkF m 19 #[vr b, vi 0, vi 4, vr t2, vi 0] [(.int 0), (.ref b), (.int 0), (.ref t2)])) := c3.trans (by
    show SS p e below (T2.setTop (mkF m 4 #[vr b, vi 0, vi 4, .unset, .unset] [(.ref t2)])) _
    refine XS.astoreN X2.here hx rfl (hb hby D14_4) rfl rfl (l' := #[vr b, vi 0, vi 4, vr t2, .unset]) rfl ?_
    refine XS.iconst X2.here hx rfl (hb hby D14_5) ?_
    refine XS.istore X2.here hx rfl (hb hby D14_6) rfl (l' := #[vr b, vi 0, vi 4, vr t2, vi 0]) rfl ?_
    refine XS.iload X2.here hx rfl (hb hby D14_8) rfl ?_
    refine XS.iloadN X2.here hx rfl (hb hby D14_10) rfl ?_
    refine XS.icmpNo X2.here hx rfl (hb hby D14_11) rfl (tlt (by decide : ((0 : Int32) < (4 : Int32)))).2.1 ?_
    refine XS.aloadN X2.here hx rfl (hb hby D14_14) rfl rfl ?_
    refine XS.iload X2.here hx rfl (hb hby D14_15) rfl ?_
    refine XS.aloadN X2.here hx rfl (hb hby D14_17) rfl rfl ?_
    refine XS.iloadN X2.here hx rfl (hb hby D14_18) rfl ?_
    exact Steps.refl _)
  obtain ⟨cl5, Ar5, -, S5, -, Ha5, -⟩ := id (Vb.keep Kq2 nin0)
  have c6 : SS p e below S0 (T2.setTop (mkF m 20 #[vr b, vi 0, vi 4, vr t2, vi 0] [(.int ch0), (.int 0), (.ref t2)])) := c4.trans (by
    show SS p e below (T2.setTop (mkF m 19 #[vr b, vi 0, vi 4, vr t2, vi 0] [(.int 0), (.ref b), (.int 0), (.ref t2)])) _
    refine X2.caload hx (j := (0 : Int32)) (v := (.int ch0)) Ar5.1 (State.isArrayOf_alike hZ.alike Ar5.2.1) Ar5.2.2 (inb_of S5 ⟨by decide, by decide⟩) (Ha5.at (inb_of S5 ⟨by decide, by decide⟩) rfl) (g := (mkF m 19 #[vr b, vi 0, vi 4, vr t2, vi 0] [(.int 0), (.ref b), (.int 0), (.ref t2)])) rfl rfl (hb hby D14_19) _ ?_
    exact Steps.refl _)
  obtain ⟨_, _, ⟨T7, L7, kk7, nn7⟩, -, X7, ⟨Lc7, hQ7, l7, y7, z7⟩, st7⟩ := Jvm.LawKit.callS X2 hx (y := (⟨"java/lang/StringUTF16", "putChar", "([BII)V"⟩ : MethodName)) hown (mvT hZ (ww hw 117 rfl)) (mvT hZ (ww hw 118 rfl)) (mvT hZ (ww hw 52 rfl)) (mvT hZ (ww hw 119 rfl)) (by decide) (backOf (W := 0) (rmPu l Z a0 hw [] t2 kb2 (8 : Int32) (0 : Int32) (0 : Int32) ch0 [(.int 0), (.int 0), (.int 0), (.int 0), (.int 0), (.int 0), (.int 0), (.int 0)] 0 T2.heap n0 z2 (Nat.le_trans Z0 (Nat.le_trans K0.1 gt2)) Vt2 (by decide) (by decide) (by decide) ⟨by decide, by decide⟩ ⟨by decide, by decide⟩ (Nat.le_of_ble_eq_true rfl) sAD sHI sLO (X00.keep Kq2 all0)) hZ (ww hw 119 rfl) (ww hw 52 rfl) (by decide) (by decide)) (g := (mkF m 20 #[vr b, vi 0, vi 4, vr t2, vi 0] [(.int ch0), (.int 0), (.ref t2)])) rfl (by rw [hml]; rfl) (argsL := [(.ref t2), (.int 0), (.int ch0)]) (rest := []) (lenOf pd_oaBIIcV rfl) rfl (by show 2 * 0 + _ ≤ _; exact Nat.le_of_eq rfl) (hb hby D14_20) (fun _ _ => ⟨rfl, rfl, (by decide : 1 + 0 ≤ _), (by decide : 8 + 0 ≤ _)⟩)
  dsimp only [Pt.U, Pt.locs, Pt.cells, Pt.slots] at X7 l7 y7 z7 st7 hQ7
  subst l7 y7 z7
  obtain ⟨rfl, Nq7, Kq7, Vq7⟩ := hQ7
  have c8 : SS p e below S0 (T7.setTop (mkF m 23 #[vr b, vi 0, vi 4, vr t2, vi 0] [])) := c6.trans (st7 _ (Steps.refl _))
  have N7 := Fr.app N2 Nq7
  have z7 : n0 ≤ T7.heap.size := Nat.le_trans z2 Kq7.1
  have K7 := K2.trans Kq7 (allS (Or.inr (Nat.le_trans K0.1 gt2)) all0)
  have Vq7 : Arv Z T7.heap t2 kb2 .byte (8 : Int32) [(.int (StrChars.lo8 ch0)), (.int (StrChars.hi8 ch0)), (.int 0), (.int 0), (.int 0), (.int 0), (.int 0), (.int 0)] (.int 0) := Vq7
  have c9 : SS p e below S0 (T7.setTop (mkF m 19 #[vr b, vi 1, vi 4, vr t2, vi 1] [(.int 1), (.ref b), (.int 1), (.ref t2)])) := c8.trans (by
    show SS p e below (T7.setTop (mkF m 23 #[vr b, vi 0, vi 4, vr t2, vi 0] [])) _
    refine XS.iinc X7.here hx rfl (hb hby D14_23) rfl (l' := #[vr b, vi 1, vi 4, vr t2, vi 0]) rfl ?_
    refine XS.iinc X7.here hx rfl (hb hby D14_26) rfl (l' := #[vr b, vi 1, vi 4, vr t2, vi 1]) rfl ?_
    refine XS.goto X7.here hx rfl (pc0 := 29) (pc' := 8) rfl (hb hby D14_29) (by decide) (by decide) ?_
    refine XS.iload X7.here hx rfl (hb hby D14_8) rfl ?_
    refine XS.iloadN X7.here hx rfl (hb hby D14_10) rfl ?_
    refine XS.icmpNo X7.here hx rfl (hb hby D14_11) rfl (tlt (by decide : ((1 : Int32) < (4 : Int32)))).2.1 ?_
    refine XS.aloadN X7.here hx rfl (hb hby D14_14) rfl rfl ?_
    refine XS.iload X7.here hx rfl (hb hby D14_15) rfl ?_
    refine XS.aloadN X7.here hx rfl (hb hby D14_17) rfl rfl ?_
    refine XS.iloadN X7.here hx rfl (hb hby D14_18) rfl ?_
    exact Steps.refl _)
  obtain ⟨cl10, Ar10, -, S10, -, Ha10, -⟩ := id ((Vb.keep Kq2 nin0).keep Kq7 (ninS (Nat.ne_of_lt (Nat.lt_of_lt_of_le Vb.lt gt2)) nin0))
  have c11 : SS p e below S0 (T7.setTop (mkF m 20 #[vr b, vi 1, vi 4, vr t2, vi 1] [(.int ch1), (.int 1), (.ref t2)])) := c9.trans (by
    show SS p e below (T7.setTop (mkF m 19 #[vr b, vi 1, vi 4, vr t2, vi 1] [(.int 1), (.ref b), (.int 1), (.ref t2)])) _
    refine X7.caload hx (j := (1 : Int32)) (v := (.int ch1)) Ar10.1 (State.isArrayOf_alike hZ.alike Ar10.2.1) Ar10.2.2 (inb_of S10 ⟨by decide, by decide⟩) (Ha10.at (inb_of S10 ⟨by decide, by decide⟩) rfl) (g := (mkF m 19 #[vr b, vi 1, vi 4, vr t2, vi 1] [(.int 1), (.ref b), (.int 1), (.ref t2)])) rfl rfl (hb hby D14_19) _ ?_
    exact Steps.refl _)
  obtain ⟨_, _, ⟨T12, L12, kk12, nn12⟩, -, X12, ⟨Lc12, hQ12, l12, y12, z12⟩, st12⟩ := Jvm.LawKit.callS X7 hx (y := (⟨"java/lang/StringUTF16", "putChar", "([BII)V"⟩ : MethodName)) hown (mvT hZ (ww hw 117 rfl)) (mvT hZ (ww hw 118 rfl)) (mvT hZ (ww hw 52 rfl)) (mvT hZ (ww hw 119 rfl)) (by decide) (backOf (W := 0) (rmPu l Z a0 hw [] t2 kb2 (8 : Int32) (1 : Int32) (2 : Int32) ch1 [(.int (StrChars.lo8 ch0)), (.int (StrChars.hi8 ch0)), (.int 0), (.int 0), (.int 0), (.int 0), (.int 0), (.int 0)] 2 T7.heap n0 z7 (Nat.le_trans Z0 (Nat.le_trans K0.1 gt2)) Vq7 (by decide) (by decide) (by decide) ⟨by decide, by decide⟩ ⟨by decide, by decide⟩ (Nat.le_of_ble_eq_true rfl) sAD sHI sLO ((X00.keep Kq2 all0).keep Kq7 (allS (Nat.le_trans Z0 (Nat.le_trans K0.1 gt2)) all0))) hZ (ww hw 119 rfl) (ww hw 52 rfl) (by decide) (by decide)) (g := (mkF m 20 #[vr b, vi 1, vi 4, vr t2, vi 1] [(.int ch1), (.int 1), (.ref t2)])) rfl (by rw [hml]; rfl) (argsL := [(.ref t2), (.int 1), (.int ch1)]) (rest := []) (lenOf pd_oaBIIcV rfl) rfl (by show 2 * 0 + _ ≤ _; exact Nat.le_of_eq rfl) (hb hby D14_20) (fun _ _ => ⟨rfl, rfl, (by decide : 1 + 0 ≤ _), (by decide : 8 + 0 ≤ _)⟩)
  dsimp only [Pt.U, Pt.locs, Pt.cells, Pt.slots] at X12 l12 y12 z12 st12 hQ12
  subst l12 y12 z12
  obtain ⟨rfl, Nq12, Kq12, Vq12⟩ := hQ12
  have c13 : SS p e below S0 (T12.setTop (mkF m 23 #[vr b, vi 1, vi 4, vr t2, vi 1] [])) := c11.trans (st12 _ (Steps.refl _))
  have N12 := Fr.app N7 Nq12
  have z12 : n0 ≤ T12.heap.size := Nat.le_trans z7 Kq12.1
  have K12 := K7.trans Kq12 (allS (Or.inr (Nat.le_trans K0.1 gt2)) all0)
  have Vq12 : Arv Z T12.heap t2 kb2 .byte (8 : Int32) [(.int (StrChars.lo8 ch0)), (.int (StrChars.hi8 ch0)), (.int (StrChars.lo8 ch1)), (.int (StrChars.hi8 ch1)), (.int 0), (.int 0), (.int 0), (.int 0)] (.int 0) := Vq12
  have c14 : SS p e below S0 (T12.setTop (mkF m 19 #[vr b, vi 2, vi 4, vr t2, vi 2] [(.int 2), (.ref b), (.int 2), (.ref t2)])) := c13.trans (by
    show SS p e below (T12.setTop (mkF m 23 #[vr b, vi 1, vi 4, vr t2, vi 1] [])) _
    refine XS.iinc X12.here hx rfl (hb hby D14_23) rfl (l' := #[vr b, vi 2, vi 4, vr t2, vi 1]) rfl ?_
    refine XS.iinc X12.here hx rfl (hb hby D14_26) rfl (l' := #[vr b, vi 2, vi 4, vr t2, vi 2]) rfl ?_
    refine XS.goto X12.here hx rfl (pc0 := 29) (pc' := 8) rfl (hb hby D14_29) (by decide) (by decide) ?_
    refine XS.iload X12.here hx rfl (hb hby D14_8) rfl ?_
    refine XS.iloadN X12.here hx rfl (hb hby D14_10) rfl ?_
    refine XS.icmpNo X12.here hx rfl (hb hby D14_11) rfl (tlt (by decide : ((2 : Int32) < (4 : Int32)))).2.1 ?_
    refine XS.aloadN X12.here hx rfl (hb hby D14_14) rfl rfl ?_
    refine XS.iload X12.here hx rfl (hb hby D14_15) rfl ?_
    refine XS.aloadN X12.here hx rfl (hb hby D14_17) rfl rfl ?_
    refine XS.iloadN X12.here hx rfl (hb hby D14_18) rfl ?_
    exact Steps.refl _)
  obtain ⟨cl15, Ar15, -, S15, -, Ha15, -⟩ := id (((Vb.keep Kq2 nin0).keep Kq7 (ninS (Nat.ne_of_lt (Nat.lt_of_lt_of_le Vb.lt gt2)) nin0)).keep Kq12 (ninS (Nat.ne_of_lt (Nat.lt_of_lt_of_le Vb.lt gt2)) nin0))
  have c16 : SS p e below S0 (T12.setTop (mkF m 20 #[vr b, vi 2, vi 4, vr t2, vi 2] [(.int ch2), (.int 2), (.ref t2)])) := c14.trans (by
    show SS p e below (T12.setTop (mkF m 19 #[vr b, vi 2, vi 4, vr t2, vi 2] [(.int 2), (.ref b), (.int 2), (.ref t2)])) _
    refine X12.caload hx (j := (2 : Int32)) (v := (.int ch2)) Ar15.1 (State.isArrayOf_alike hZ.alike Ar15.2.1) Ar15.2.2 (inb_of S15 ⟨by decide, by decide⟩) (Ha15.at (inb_of S15 ⟨by decide, by decide⟩) rfl) (g := (mkF m 19 #[vr b, vi 2, vi 4, vr t2, vi 2] [(.int 2), (.ref b), (.int 2), (.ref t2)])) rfl rfl (hb hby D14_19) _ ?_
    exact Steps.refl _)
  obtain ⟨_, _, ⟨T17, L17, kk17, nn17⟩, -, X17, ⟨Lc17, hQ17, l17, y17, z17⟩, st17⟩ := Jvm.LawKit.callS X12 hx (y := (⟨"java/lang/StringUTF16", "putChar", "([BII)V"⟩ : MethodName)) hown (mvT hZ (ww hw 117 rfl)) (mvT hZ (ww hw 118 rfl)) (mvT hZ (ww hw 52 rfl)) (mvT hZ (ww hw 119 rfl)) (by decide) (backOf (W := 0) (rmPu l Z a0 hw [] t2 kb2 (8 : Int32) (2 : Int32) (4 : Int32) ch2 [(.int (StrChars.lo8 ch0)), (.int (StrChars.hi8 ch0)), (.int (StrChars.lo8 ch1)), (.int (StrChars.hi8 ch1)), (.int 0), (.int 0), (.int 0), (.int 0)] 4 T12.heap n0 z12 (Nat.le_trans Z0 (Nat.le_trans K0.1 gt2)) Vq12 (by decide) (by decide) (by decide) ⟨by decide, by decide⟩ ⟨by decide, by decide⟩ (Nat.le_of_ble_eq_true rfl) sAD sHI sLO (((X00.keep Kq2 all0).keep Kq7 (allS (Nat.le_trans Z0 (Nat.le_trans K0.1 gt2)) all0)).keep Kq12 (allS (Nat.le_trans Z0 (Nat.le_trans K0.1 gt2)) all0))) hZ (ww hw 119 rfl) (ww hw 52 rfl) (by decide) (by decide)) (g := (mkF m 20 #[vr b, vi 2, vi 4, vr t2, vi 2] [(.int ch2), (.int 2), (.ref t2)])) rfl (by rw [hml]; rfl) (argsL := [(.ref t2), (.int 2), (.int ch2)]) (rest := []) (lenOf pd_oaBIIcV rfl) rfl (by show 2 * 0 + _ ≤ _; exact Nat.le_of_eq rfl) (hb hby D14_20) (fun _ _ => ⟨rfl, rfl, (by decide : 1 + 0 ≤ _), (by decide : 8 + 0 ≤ _)⟩)
  dsimp only [Pt.U, Pt.locs, Pt.cells, Pt.slots] at X17 l17 y17 z17 st17 hQ17
  subst l17 y17 z17
  obtain ⟨rfl, Nq17, Kq17, Vq17⟩ := hQ17
  have c18 : SS p e below S0 (T17.setTop (mkF m 23 #[vr b, vi 2, vi 4, vr t2, vi 2] [])) := c16.trans (st17 _ (Steps.refl _))
  have N17 := Fr.app N12 Nq17
  have z17 : n0 ≤ T17.heap.size := Nat.le_trans z12 Kq17.1
  have K17 := K12.trans Kq17 (allS (Or.inr (Nat.le_trans K0.1 gt2)) all0)
  have Vq17 : Arv Z T17.heap t2 kb2 .byte (8 : Int32) [(.int (StrChars.lo8 ch0)), (.int (StrChars.hi8 ch0)), (.int (StrChars.lo8 ch1)), (.int (StrChars.hi8 ch1)), (.int (StrChars.lo8 ch2)), (.int (StrChars.hi8 ch2)), (.int 0), (.int 0)] (.int 0) := Vq17
  have c19 : SS p e below S0 (T17.setTop (mkF m 19 #[vr b, vi 3, vi 4, vr t2, vi 3] [(.int 3), (.ref b), (.int 3), (.ref t2)])) := c18.trans (by
    show SS p e below (T17.setTop (mkF m 23 #[vr b, vi 2, vi 4, vr t2, vi 2] [])) _
    refine XS.iinc X17.here hx rfl (hb hby D14_23) rfl (l' := #[vr b, vi 3, vi 4, vr t2, vi 2]) rfl ?_
    refine XS.iinc X17.here hx rfl (hb hby D14_26) rfl (l' := #[vr b, vi 3, vi 4, vr t2, vi 3]) rfl ?_
    refine XS.goto X17.here hx rfl (pc0 := 29) (pc' := 8) rfl (hb hby D14_29) (by decide) (by decide) ?_
    refine XS.iload X17.here hx rfl (hb hby D14_8) rfl ?_
    refine XS.iloadN X17.here hx rfl (hb hby D14_10) rfl ?_
    refine XS.icmpNo X17.here hx rfl (hb hby D14_11) rfl (tlt (by decide : ((3 : Int32) < (4 : Int32)))).2.1 ?_
    refine XS.aloadN X17.here hx rfl (hb hby D14_14) rfl rfl ?_
    refine XS.iload X17.here hx rfl (hb hby D14_15) rfl ?_
    refine XS.aloadN X17.here hx rfl (hb hby D14_17) rfl rfl ?_
    refine XS.iloadN X17.here hx rfl (hb hby D14_18) rfl ?_
    exact Steps.refl _)
  obtain ⟨cl20, Ar20, -, S20, -, Ha20, -⟩ := id ((((Vb.keep Kq2 nin0).keep Kq7 (ninS (Nat.ne_of_lt (Nat.lt_of_lt_of_le Vb.lt gt2)) nin0)).keep Kq12 (ninS (Nat.ne_of_lt (Nat.lt_of_lt_of_le Vb.lt gt2)) nin0)).keep Kq17 (ninS (Nat.ne_of_lt (Nat.lt_of_lt_of_le Vb.lt gt2)) nin0))
  have c21 : SS p e below S0 (T17.setTop (mkF m 20 #[vr b, vi 3, vi 4, vr t2, vi 3] [(.int ch3), (.int 3), (.ref t2)])) := c19.trans (by
    show SS p e below (T17.setTop (mkF m 19 #[vr b, vi 3, vi 4, vr t2, vi 3] [(.int 3), (.ref b), (.int 3), (.ref t2)])) _
    refine X17.caload hx (j := (3 : Int32)) (v := (.int ch3)) Ar20.1 (State.isArrayOf_alike hZ.alike Ar20.2.1) Ar20.2.2 (inb_of S20 ⟨by decide, by decide⟩) (Ha20.at (inb_of S20 ⟨by decide, by decide⟩) rfl) (g := (mkF m 19 #[vr b, vi 3, vi 4, vr t2, vi 3] [(.int 3), (.ref b), (.int 3), (.ref t2)])) rfl rfl (hb hby D14_19) _ ?_
    exact Steps.refl _)
  obtain ⟨_, _, ⟨T22, L22, kk22, nn22⟩, -, X22, ⟨Lc22, hQ22, l22, y22, z22⟩, st22⟩ := Jvm.LawKit.callS X17 hx (y := (⟨"java/lang/StringUTF16", "putChar", "([BII)V"⟩ : MethodName)) hown (mvT hZ (ww hw 117 rfl)) (mvT hZ (ww hw 118 rfl)) (mvT hZ (ww hw 52 rfl)) (mvT hZ (ww hw 119 rfl)) (by decide) (backOf (W := 0) (rmPu l Z a0 hw [] t2 kb2 (8 : Int32) (3 : Int32) (6 : Int32) ch3 [(.int (StrChars.lo8 ch0)), (.int (StrChars.hi8 ch0)), (.int (StrChars.lo8 ch1)), (.int (StrChars.hi8 ch1)), (.int (StrChars.lo8 ch2)), (.int (StrChars.hi8 ch2)), (.int 0), (.int 0)] 6 T17.heap n0 z17 (Nat.le_trans Z0 (Nat.le_trans K0.1 gt2)) Vq17 (by decide) (by decide) (by decide) ⟨by decide, by decide⟩ ⟨by decide, by decide⟩ (Nat.le_of_ble_eq_true rfl) sAD sHI sLO ((((X00.keep Kq2 all0).keep Kq7 (allS (Nat.le_trans Z0 (Nat.le_trans K0.1 gt2)) all0)).keep Kq12 (allS (Nat.le_trans Z0 (Nat.le_trans K0.1 gt2)) all0)).keep Kq17 (allS (Nat.le_trans Z0 (Nat.le_trans K0.1 gt2)) all0))) hZ (ww hw 119 rfl) (ww hw 52 rfl) (by decide) (by decide)) (g := (mkF m 20 #[vr b, vi 3, vi 4, vr t2, vi 3] [(.int ch3), (.int 3), (.ref t2)])) rfl (by rw [hml]; rfl) (argsL := [(.ref t2), (.int 3), (.int ch3)]) (rest := []) (lenOf pd_oaBIIcV rfl) rfl (by show 2 * 0 + _ ≤ _; exact Nat.le_of_eq rfl) (hb hby D14_20) (fun _ _ => ⟨rfl, rfl, (by decide : 1 + 0 ≤ _), (by decide : 8 + 0 ≤ _)⟩)
  dsimp only [Pt.U, Pt.locs, Pt.cells, Pt.slots] at X22 l22 y22 z22 st22 hQ22
  subst l22 y22 z22
  obtain ⟨rfl, Nq22, Kq22, Vq22⟩ := hQ22
  have c23 : SS p e below S0 (T22.setTop (mkF m 23 #[vr b, vi 3, vi 4, vr t2, vi 3] [])) := c21.trans (st22 _ (Steps.refl _))
  have N22 := Fr.app N17 Nq22
  have z22 : n0 ≤ T22.heap.size := Nat.le_trans z17 Kq22.1
  have K22 := K17.trans Kq22 (allS (Or.inr (Nat.le_trans K0.1 gt2)) all0)
  have Vq22 : Arv Z T22.heap t2 kb2 .byte (8 : Int32) [(.int (StrChars.lo8 ch0)), (.int (StrChars.hi8 ch0)), (.int (StrChars.lo8 ch1)), (.int (StrChars.hi8 ch1)), (.int (StrChars.lo8 ch2)), (.int (StrChars.hi8 ch2)), (.int (StrChars.lo8 ch3)), (.int (StrChars.hi8 ch3))] (.int 0) := Vq22
  have c24 : SS p e below S0 (T22.setTop (mkF m 33 #[vr b, vi 4, vi 4, vr t2, vi 4] [(.ref t2)])) := c23.trans (by
    show SS p e below (T22.setTop (mkF m 23 #[vr b, vi 3, vi 4, vr t2, vi 3] [])) _
    refine XS.iinc X22.here hx rfl (hb hby D14_23) rfl (l' := #[vr b, vi 4, vi 4, vr t2, vi 3]) rfl ?_
    refine XS.iinc X22.here hx rfl (hb hby D14_26) rfl (l' := #[vr b, vi 4, vi 4, vr t2, vi 4]) rfl ?_
    refine XS.goto X22.here hx rfl (pc0 := 29) (pc' := 8) rfl (hb hby D14_29) (by decide) (by decide) ?_
    refine XS.iload X22.here hx rfl (hb hby D14_8) rfl ?_
    refine XS.iloadN X22.here hx rfl (hb hby D14_10) rfl ?_
    refine XS.icmpYes X22.here hx rfl (pc0 := 11) (pc' := 32) rfl (hb hby D14_11) rfl (flt (by decide : ¬ ((4 : Int32) < (4 : Int32)))).2.1 (by decide) (by decide) ?_
    refine XS.aloadN X22.here hx rfl (hb hby D14_32) rfl rfl ?_
    exact Steps.refl _)
  obtain ⟨fs, hr, hrun, hended, hW, hsame⟩ := X22.leave (v := some (.ref t2)) (fun h => by rw [Bd.returns] at h; cases h)
  refine ⟨_, _, c24.trans (retOut X22 hx Bd.returns rfl (Or.inr (Or.inr (Or.inr (Or.inr ⟨rfl, rfl, rfl⟩)))) (hb hby D14_33) hr), hrun, hended, _, _, rfl, ?_, ⟨_, rfl⟩, hW, hsame.mono (by first | decide | exact Nat.le_of_ble_eq_true rfl) (by first | decide | exact Nat.le_of_ble_eq_true rfl)⟩
  show QArr Z (8 : Int32) (StrChars.Road.wideBytes ([ch0, ch1, ch2, ch3] : List Int32)) h0 n0 _ T22.heap _
  exact ⟨_, _, rfl, N22, K22, (Nat.le_trans K0.1 gt2), Vq22⟩

theorem ef_rmC3_4 (m : MethodId) (x0 : Addr) (x1 : Int32) (x2 : Int32) : entryFrame m #[(.ref x0), (.int x1), (.int x2)] 6 = mkF m 0 #[.val (.ref x0), .val (.int x1), .val (.int x2), .unset, .unset, .unset] [] := by first | (simp [entryFrame, mkF, argsToLocals, Value.category]; done) | rfl
set_option maxRecDepth 65536 in
set_option maxHeartbeats 40000000 in
theorem rmC3_4 (l : Launch) (Z : State) (a0 : Array Value) (hw : ∀ d ∈ tables_1, d.before a0 Z = true) (ws : List Jvm.Cond) (b : Addr) (kc : ClassId) (ch0 ch1 ch2 ch3 : Int32)  (h0 : Heap) (n0 : Nat) (Z0 : n0 ≤ h0.size) (Vb : Arv Z h0 b kc .char (4 : Int32) [.int ch0, .int ch1, .int ch2, .int ch3] (.int 0)) (hc0 : C16 ch0) (hc1 : C16 ch1) (hc2 : C16 ch2) (hc3 : C16 ch3) (sAD : Sta Z Z.heap "java/lang/StringUTF16" "$assertionsDisabled" "Z" (.int 1)) (sHI : Sta Z Z.heap "java/lang/StringUTF16" "HI_BYTE_SHIFT" "I" (.int 0)) (sLO : Sta Z Z.heap "java/lang/StringUTF16" "LO_BYTE_SHIFT" "I" (.int 8)) (X00 : Old Z n0 h0) :
    MetFree l (⟨"java/lang/StringUTF16", "compress", "([CII)[B"⟩ : MethodName) (head1 (Jvm.Cond.code (⟨"java/lang/StringUTF16", "compress", "([CII)[B"⟩ : MethodName) jdk_52_method_16_code 6 (some (.array .byte)) :: ws) ({ frames := 3, cells := 2, slots := 12, locals := 40 } : Room)) (fun aa U => aa = #[(.ref b), (.int 0), (.int 4)] ∧ Z.Warmed39 U.vm ∧ U.heap = h0) (fun _ _ _ _ _ => True) (fun _ U o U' => ∃ v L, o = .returned v ∧ QC3 Z ([ch0, ch1, ch2, ch3] : List Int32) h0 n0 v U'.heap L ∧ FrameEnd U o U' L ({ frames := 3, cells := 2, slots := 12, locals := 40 } : Room).cells ({ frames := 3, cells := 2, slots := 12, locals := 40 } : Room).slots) := by
  refine MetFree.of_bodySF (plainFor_of_name pn_java_lang_StringUTF16) hisR ?_
  intro p e s m args below meth c s₁ Bd hml0 hP hK
  obtain ⟨rfl, hZ, hh⟩ := hP
  have hx := Bd.exec
  have hby := Bd.bytes
  have hml : c.maxLocals = 6 := hml0
  have hown : s.vm.findClass "java/lang/StringUTF16" = some m.cls := findClass_of_methodNamed Bd.named
  have hnm := (name_of_methodNamed Bd.named Bd.method).1
  have X0 : Stand p l e ({ frames := 3, cells := 2, slots := 12, locals := 40 } : Room) s m #[(.ref b), (.int 0), (.int 4)] below meth c s₁ [] 0 0 := Stand.of_body Bd
  have e0 : s₁.heap = h0 := by rw [← hh, Bd.state]; rfl
  have N0 := Fr.nil n0
  have K0 := Keep.refl h0 []
  obtain ⟨S0, hS0⟩ : ∃ z, z = s₁.setTop (entryFrame m #[(.ref b), (.int 0), (.int 4)] 6) := ⟨_, rfl⟩
  rw [← hS0]
  have c0 : SS p e below S0 (s₁.setTop (mkF m 0 #[vr b, vi 0, vi 4, .unset, .unset, .unset] [])) := by
    rw [hS0]; exact castTop (ef_rmC3_4 m b (0 : Int32) (4 : Int32)) (Steps.refl _)
  have c1 : SS p e below S0 (s₁.setTop (mkF m 1 #[vr b, vi 0, vi 4, .unset, .unset, .unset] [(.int 4)])) := c0.trans (by
    show SS p e below (s₁.setTop (mkF m 0 #[vr b, vi 0, vi 4, .unset, .unset, .unset] [])) _
    refine XS.iloadN X0.here hx rfl (hb hby D15_0) rfl ?_
    exact Steps.refl _)
  obtain ⟨T2, h2, k2, X2, e2, E2, A2, st2⟩ := newP X0 hx hZ (ww hw 22 rfl) e0 (g := (mkF m 1 #[vr b, vi 0, vi 4, .unset, .unset, .unset] [(.int 4)])) rfl (hb hby D15_1) rfl (by decide) (cap := 4) (by decide) (by decide) (by decide) (by decide)
  obtain ⟨b2, g2⟩ : ∃ z, z = h0.size := ⟨_, rfl⟩
  rw [← g2] at A2 st2
  have c3 : SS p e below S0 (T2.setTop (mkF m 3 #[vr b, vi 0, vi 4, .unset, .unset, .unset] [(.ref b2)])) := c1.trans (st2 _ (Steps.refl _))
  have z2 : n0 ≤ h2.size := Nat.le_trans Z0 E2.1
  have K2 := K0.ext E2
  have V2 : Arv Z h2 b2 k2 .byte (4 : Int32) [(.int 0), (.int 0), (.int 0), (.int 0)] (.int 0) := (Arv.new A2 (by decide)).pad (pad_rep [] (.int 0) 4)
  have lt_b2 : b2 < h2.size := V2.lt
  have c4 : SS p e below S0 (T2.setTop (mkF m 9 #[vr b, vi 0, vi 4, vr b2, .unset, .unset] [(.int 4), (.int 0), (.ref b2), (.int 0), (.ref b)])) := c3.trans (by
    show SS p e below (T2.setTop (mkF m 3 #[vr b, vi 0, vi 4, .unset, .unset, .unset] [(.ref b2)])) _
    refine XS.astoreN X2.here hx rfl (hb hby D15_3) rfl rfl (l' := #[vr b, vi 0, vi 4, vr b2, .unset, .unset]) rfl ?_
    refine XS.aloadN X2.here hx rfl (hb hby D15_4) rfl rfl ?_
    refine XS.iloadN X2.here hx rfl (hb hby D15_5) rfl ?_
    refine XS.aloadN X2.here hx rfl (hb hby D15_6) rfl rfl ?_
    refine XS.iconst X2.here hx rfl (hb hby D15_7) ?_
    refine XS.iloadN X2.here hx rfl (hb hby D15_8) rfl ?_
    exact Steps.refl _)
  obtain ⟨_, _, ⟨T5, L5, kk5, nn5⟩, -, X5, ⟨Lc5, hQ5, l5, y5, z5⟩, st5⟩ := Jvm.LawKit.callS X2 hx (y := (⟨"java/lang/StringUTF16", "compress", "([CI[BII)I"⟩ : MethodName)) hown (mvT hZ (ww hw 54 rfl)) (mvT hZ (ww hw 55 rfl)) (mvT hZ (ww hw 52 rfl)) (mvT hZ (ww hw 56 rfl)) (by decide) (backOf (W := 0) (rmC5_4 l Z a0 hw [] b2 k2 b kc ch0 ch1 ch2 ch3  h2 n0 z2 (Nat.le_trans Z0 (Nat.le_trans K0.1 (Nat.le_of_eq g2.symm))) (Nat.ne_of_lt (Nat.lt_of_lt_of_le Vb.lt (Nat.le_of_eq g2.symm))) V2 (Vb.ext E2) hc0 hc1 hc2 hc3 ) hZ (ww hw 56 rfl) (ww hw 52 rfl) (by decide) (by decide)) (g := (mkF m 9 #[vr b, vi 0, vi 4, vr b2, .unset, .unset] [(.int 4), (.int 0), (.ref b2), (.int 0), (.ref b)])) rfl (by rw [hml]; rfl) (argsL := [(.ref b), (.int 0), (.ref b2), (.int 0), (.int 4)]) (rest := []) (lenOf pd_oaCIaBIIcI rfl) rfl (by show 2 * 0 + _ ≤ _; exact Nat.le_of_eq rfl) (hb hby D15_9) (fun _ _ => ⟨rfl, e2, (by decide : 1 + 0 ≤ _), (by decide : 4 + 0 ≤ _)⟩)
  dsimp only [Pt.U, Pt.locs, Pt.cells, Pt.slots] at X5 l5 y5 z5 st5 hQ5
  subst l5 y5 z5
  obtain ⟨r5, rfl, Nq5, Kq5, hr5⟩ := hQ5
  have c6 : SS p e below S0 (T5.setTop (mkF m 12 #[vr b, vi 0, vi 4, vr b2, .unset, .unset] [(.int r5)])) := c4.trans (st5 _ (Steps.refl _))
  have N5 := Fr.app N0 Nq5
  have z5 : n0 ≤ T5.heap.size := Nat.le_trans z2 Kq5.1
  have K5 := K2.trans Kq5 (allS (Or.inr (Nat.le_trans K0.1 (Nat.le_of_eq g2.symm))) all0)
  rcases hr5 with ⟨e1, e2, Vd5⟩ | ⟨i, hi, e1, hw1⟩
  · rw [(e1.trans rfl : r5 = (4 : Int32))] at c6
    have c7 : SS p e below S0 (T5.setTop (mkF m 58 #[vr b, vi 0, vi 4, vr b2, vi 4, .unset] [(.ref b2)])) := c6.trans (by
      show SS p e below (T5.setTop (mkF m 12 #[vr b, vi 0, vi 4, vr b2, .unset, .unset] [(.int 4)])) _
      refine XS.istore X5.here hx rfl (hb hby D15_12) rfl (l' := #[vr b, vi 0, vi 4, vr b2, vi 4, .unset]) rfl ?_
      refine XS.iload X5.here hx rfl (hb hby D15_14) rfl ?_
      refine XS.iloadN X5.here hx rfl (hb hby D15_16) rfl ?_
      refine XS.icmpYes X5.here hx rfl (pc0 := 17) (pc' := 57) rfl (hb hby D15_17) rfl (teq (by decide : ((4 : Int32) = (4 : Int32)))).1 (by decide) (by decide) ?_
      refine XS.aloadN X5.here hx rfl (hb hby D15_57) rfl rfl ?_
      exact Steps.refl _)
    obtain ⟨fs, hr, hrun, hended, hW, hsame⟩ := X5.leave (v := some (.ref b2)) (fun h => by rw [Bd.returns] at h; cases h)
    refine ⟨_, _, c7.trans (retOut X5 hx Bd.returns rfl (Or.inr (Or.inr (Or.inr (Or.inr ⟨rfl, rfl, rfl⟩)))) (hb hby D15_58) hr), hrun, hended, _, _, rfl, ?_, ⟨_, rfl⟩, hW, hsame.mono (by first | decide | exact Nat.le_of_ble_eq_true rfl) (by first | decide | exact Nat.le_of_ble_eq_true rfl)⟩
    show QC3 Z ([ch0, ch1, ch2, ch3] : List Int32) h0 n0 _ T5.heap _
    exact ⟨_, _, _, _, _, rfl, N5, K5, (Nat.le_trans K0.1 (Nat.le_of_eq g2.symm)), Vd5, Or.inl ⟨rfl, rfl, rfl, e2⟩⟩
  · have hi5 : i < 4 := hi
    rw [e1] at c6
    have c8 : SS p e below S0 (T5.setTop (mkF m 23 #[vr b, vi 0, vi 4, vr b2, vi (Int32.ofNat i), .unset] [(.int 4), (.int 0), (.ref b)])) := c6.trans (by
      show SS p e below (T5.setTop (mkF m 12 #[vr b, vi 0, vi 4, vr b2, .unset, .unset] [(.int (Int32.ofNat i))])) _
      refine XS.istore X5.here hx rfl (hb hby D15_12) rfl (l' := #[vr b, vi 0, vi 4, vr b2, vi (Int32.ofNat i), .unset]) rfl ?_
      refine XS.iload X5.here hx rfl (hb hby D15_14) rfl ?_
      refine XS.iloadN X5.here hx rfl (hb hby D15_16) rfl ?_
      refine XS.icmpNo X5.here hx rfl (hb hby D15_17) rfl (feq (fun q => absurd ((own_ofN_inj (a := i) (b := 4) (by omega) (by omega)).mp q) (by omega) : ¬ (Int32.ofNat i) = (4 : Int32))).1 ?_
      refine XS.aloadN X5.here hx rfl (hb hby D15_20) rfl rfl ?_
      refine XS.iloadN X5.here hx rfl (hb hby D15_21) rfl ?_
      refine XS.iloadN X5.here hx rfl (hb hby D15_22) rfl ?_
      exact Steps.refl _)
    obtain ⟨_, _, ⟨T9, L9, kk9, nn9⟩, -, X9, ⟨Lc9, hQ9, l9, y9, z9⟩, st9⟩ := Jvm.LawKit.callS X5 hx (y := (⟨"java/lang/StringUTF16", "toBytes", "([CII)[B"⟩ : MethodName)) hown (mvT hZ (ww hw 107 rfl)) (mvT hZ (ww hw 108 rfl)) (mvT hZ (ww hw 52 rfl)) (mvT hZ (ww hw 109 rfl)) (by decide) (backOf (W := 0) (rmTB_4 l Z a0 hw [] b kc ch0 ch1 ch2 ch3  T5.heap n0 z5 ((Vb.ext E2).keep Kq5 (ninS (Nat.ne_of_lt (Nat.lt_of_lt_of_le Vb.lt (Nat.le_of_eq g2.symm))) nin0)) sAD sHI sLO ((X00.ext E2).keep Kq5 (allS (Nat.le_trans Z0 (Nat.le_trans K0.1 (Nat.le_of_eq g2.symm))) all0))) hZ (ww hw 109 rfl) (ww hw 52 rfl) (by decide) (by decide)) (g := (mkF m 23 #[vr b, vi 0, vi 4, vr b2, vi (Int32.ofNat i), .unset] [(.int 4), (.int 0), (.ref b)])) rfl (by rw [hml]; rfl) (argsL := [(.ref b), (.int 0), (.int 4)]) (rest := []) (lenOf pd_oaCIIcaB rfl) rfl (by show 2 * 0 + _ ≤ _; exact Nat.le_of_eq rfl) (hb hby D15_23) (fun _ _ => ⟨rfl, rfl, (by decide : 1 + 1 ≤ _), (by decide : 4 + 8 ≤ _)⟩)
    dsimp only [Pt.U, Pt.locs, Pt.cells, Pt.slots] at X9 l9 y9 z9 st9 hQ9
    subst l9 y9 z9
    obtain ⟨t9, kb9, rfl, Nq9, Kq9, gt9, Vt9⟩ := hQ9
    have c10 : SS p e below S0 (T9.setTop (mkF m 26 #[vr b, vi 0, vi 4, vr b2, vi (Int32.ofNat i), .unset] [(.ref t9)])) := c8.trans (st9 _ (Steps.refl _))
    have N9 := Fr.app N5 Nq9
    have z9 : n0 ≤ T9.heap.size := Nat.le_trans z5 Kq9.1
    have K9 := K5.trans Kq9 all0
    have c11 : SS p e below S0 (T9.setTop (mkF m 32 #[vr b, vi 0, vi 4, vr b2, vi (Int32.ofNat i), vr t9] [(.int (Int32.ofNat i)), (.ref t9)])) := c10.trans (by
      show SS p e below (T9.setTop (mkF m 26 #[vr b, vi 0, vi 4, vr b2, vi (Int32.ofNat i), .unset] [(.ref t9)])) _
      refine XS.astore X9.here hx rfl (hb hby D15_26) rfl rfl (l' := #[vr b, vi 0, vi 4, vr b2, vi (Int32.ofNat i), vr t9]) rfl ?_
      refine XS.aload X9.here hx rfl (hb hby D15_28) rfl rfl ?_
      refine XS.iload X9.here hx rfl (hb hby D15_30) rfl ?_
      exact Steps.refl _)
    obtain ⟨_, _, ⟨T12, L12, kk12, nn12⟩, -, X12, ⟨Lc12, hQ12, l12, y12, z12⟩, st12⟩ := Jvm.LawKit.callS X9 hx (y := (⟨"java/lang/StringUTF16", "getChar", "([BI)C"⟩ : MethodName)) hown (mvT hZ (ww hw 123 rfl)) (mvT hZ (ww hw 124 rfl)) (mvT hZ (ww hw 52 rfl)) (mvT hZ (ww hw 125 rfl)) (by decide) (backOf (W := 0) (rmGC l Z a0 hw [] t9 kb9 ([ch0, ch1, ch2, ch3] : List Int32) i T9.heap n0 z9 Vt9 (own_alS hc0 (own_alS hc1 (own_alS hc2 (own_alS hc3 own_al0)))) (Nat.le_of_ble_eq_true rfl) hi sAD sHI sLO (((X00.ext E2).keep Kq5 (allS (Nat.le_trans Z0 (Nat.le_trans K0.1 (Nat.le_of_eq g2.symm))) all0)).keep Kq9 all0)) hZ (ww hw 125 rfl) (ww hw 52 rfl) (by decide) (by decide)) (g := (mkF m 32 #[vr b, vi 0, vi 4, vr b2, vi (Int32.ofNat i), vr t9] [(.int (Int32.ofNat i)), (.ref t9)])) rfl (by rw [hml]; rfl) (argsL := [(.ref t9), (.int (Int32.ofNat i))]) (rest := []) (lenOf pd_oaBIcC rfl) rfl (by show 2 * 0 + _ ≤ _; exact Nat.le_of_eq rfl) (hb hby D15_32) (fun _ _ => ⟨rfl, rfl, (by decide : 2 + 0 ≤ _), (by decide : 12 + 0 ≤ _)⟩)
    dsimp only [Pt.U, Pt.locs, Pt.cells, Pt.slots] at X12 l12 y12 z12 st12 hQ12
    subst l12 y12 z12
    obtain ⟨rfl, Nq12, eq12⟩ := hQ12
    have c13 : SS p e below S0 (T12.setTop (mkF m 35 #[vr b, vi 0, vi 4, vr b2, vi (Int32.ofNat i), vr t9] [(.int (([ch0, ch1, ch2, ch3] : List Int32).getD i 0))])) := c11.trans (st12 _ (Steps.refl _))
    have N12 := Fr.app N9 Nq12
    have c14 : SS p e below S0 (T12.setTop (mkF m 56 #[vr b, vi 0, vi 4, vr b2, vi (Int32.ofNat i), vr t9] [(.ref t9)])) := c13.trans (by
      show SS p e below (T12.setTop (mkF m 35 #[vr b, vi 0, vi 4, vr b2, vi (Int32.ofNat i), vr t9] [(.int (([ch0, ch1, ch2, ch3] : List Int32).getD i 0))])) _
      refine XS.sipush X12.here hx rfl (hb hby D15_35) ?_
      refine XS.icmpYes X12.here hx rfl (pc0 := 38) (pc' := 54) rfl (hb hby D15_38) rfl (tlt hw1).2.2.1 (by decide) (by decide) ?_
      refine XS.aload X12.here hx rfl (hb hby D15_54) rfl rfl ?_
      exact Steps.refl _)
    obtain ⟨fs, hr, hrun, hended, hW, hsame⟩ := X12.leave (v := some (.ref t9)) (fun h => by rw [Bd.returns] at h; cases h)
    refine ⟨_, _, c14.trans (retOut X12 hx Bd.returns rfl (Or.inr (Or.inr (Or.inr (Or.inr ⟨rfl, rfl, rfl⟩)))) (hb hby D15_56) hr), hrun, hended, _, _, rfl, ?_, ⟨_, rfl⟩, hW, hsame.mono (by first | decide | exact Nat.le_of_ble_eq_true rfl) (by first | decide | exact Nat.le_of_ble_eq_true rfl)⟩
    show QC3 Z ([ch0, ch1, ch2, ch3] : List Int32) h0 n0 _ T12.heap _
    rw [eq12]
    exact ⟨_, _, _, _, _, rfl, N12, K9, (Nat.le_trans K5.1 gt9), Vt9, Or.inr ⟨rfl, rfl, rfl, _, own_gmem hi, hw1⟩⟩

theorem ef_rmN4_4 (m : MethodId) (x0 : Addr) (x1 : Addr) (x2 : Int32) (x3 : Int32) : entryFrame m #[(.ref x0), (.ref x1), (.int x2), (.int x3), .null] 6 = mkF m 0 #[.val (.ref x0), .val (.ref x1), .val (.int x2), .val (.int x3), .val .null, .unset] [] := by first | (simp [entryFrame, mkF, argsToLocals, Value.category]; done) | rfl
set_option maxRecDepth 65536 in
set_option maxHeartbeats 40000000 in
theorem rmN4_4 (l : Launch) (Z : State) (a0 : Array Value) (hw : ∀ d ∈ tables_1, d.before a0 Z = true) (ws : List Jvm.Cond) (x : Addr) (b : Addr) (kc : ClassId) (ch0 ch1 ch2 ch3 : Int32) (G1 : Int32) (h0 : Heap) (n0 : Nat) (Z0 : n0 ≤ h0.size) (g_x : n0 ≤ x) (Ex : Exa Z h0 x "java/lang/String") (Fv : Fld Z h0 x "java/lang/String" "value" "[B" .null) (Fc : Fld Z h0 x "java/lang/String" "coder" "B" (.int 0)) (Vb : Arv Z h0 b kc .char (4 : Int32) [.int ch0, .int ch1, .int ch2, .int ch3] (.int 0)) (hc0 : C16 ch0) (hc1 : C16 ch1) (hc2 : C16 ch2) (hc3 : C16 ch3) (sAD : Sta Z Z.heap "java/lang/StringUTF16" "$assertionsDisabled" "Z" (.int 1)) (sHI : Sta Z Z.heap "java/lang/StringUTF16" "HI_BYTE_SHIFT" "I" (.int 0)) (sLO : Sta Z Z.heap "java/lang/StringUTF16" "LO_BYTE_SHIFT" "I" (.int 8)) (O2 : Sta Z Z.heap "java/lang/String" "COMPACT_STRINGS" "Z" (.int G1)) (P5 : ¬ G1 = 0) (X00 : Old Z n0 h0) :
    MetFree l (⟨"java/lang/String", "<init>", "([CIILjava/lang/Void;)V"⟩ : MethodName) (head1 (Jvm.Cond.code (⟨"java/lang/String", "<init>", "([CIILjava/lang/Void;)V"⟩ : MethodName) jdk_42_method_149_code 6 (none) :: ws) ({ frames := 4, cells := 2, slots := 12, locals := 57 } : Room)) (fun aa U => aa = #[(.ref x), (.ref b), (.int 0), (.int 4), .null] ∧ Z.Warmed39 U.vm ∧ U.heap = h0) (fun _ _ _ _ _ => True) (fun _ U o U' => ∃ v L, o = .returned v ∧ QNw Z x ([ch0, ch1, ch2, ch3] : List Int32) h0 n0 v U'.heap L ∧ FrameEnd U o U' L ({ frames := 4, cells := 2, slots := 12, locals := 57 } : Room).cells ({ frames := 4, cells := 2, slots := 12, locals := 57 } : Room).slots) := by
  refine MetFree.of_bodySF (plainFor_of_name pn_java_lang_String) hisR ?_
  intro p e s m args below meth c s₁ Bd hml0 hP hK
  obtain ⟨rfl, hZ, hh⟩ := hP
  have hx := Bd.exec
  have hby := Bd.bytes
  have hml : c.maxLocals = 6 := hml0
  have hown : s.vm.findClass "java/lang/String" = some m.cls := findClass_of_methodNamed Bd.named
  have hnm := (name_of_methodNamed Bd.named Bd.method).1
  have X0 : Stand p l e ({ frames := 4, cells := 2, slots := 12, locals := 57 } : Room) s m #[(.ref x), (.ref b), (.int 0), (.int 4), .null] below meth c s₁ [] 0 0 := Stand.of_body Bd
  have e0 : s₁.heap = h0 := by rw [← hh, Bd.state]; rfl
  have N0 := Fr.nil n0
  have K0 := Keep.refl h0 [x]
  obtain ⟨S0, hS0⟩ : ∃ z, z = s₁.setTop (entryFrame m #[(.ref x), (.ref b), (.int 0), (.int 4), .null] 6) := ⟨_, rfl⟩
  rw [← hS0]
  have c0 : SS p e below S0 (s₁.setTop (mkF m 0 #[vr x, vr b, vi 0, vi 4, .val .null, .unset] [])) := by
    rw [hS0]; exact castTop (ef_rmN4_4 m x b (0 : Int32) (4 : Int32)) (Steps.refl _)
  have c1 : SS p e below S0 (s₁.setTop (mkF m 1 #[vr x, vr b, vi 0, vi 4, .val .null, .unset] [(.ref x)])) := c0.trans (by
    show SS p e below (s₁.setTop (mkF m 0 #[vr x, vr b, vi 0, vi 4, .val .null, .unset] [])) _
    refine XS.aloadN X0.here hx rfl (hb hby D16_0) rfl rfl ?_
    exact Steps.refl _)
  obtain ⟨T2, X2, e2, st2⟩ := initO X0 hx hZ hown (ww hw 18 rfl) (ww hw 19 rfl) (ww hw 20 rfl) e0 (g := (mkF m 1 #[vr x, vr b, vi 0, vi 4, .val .null, .unset] [(.ref x)])) rfl (by rw [hml]; rfl) rfl (hb hby D16_1) (by decide) (W := 0) (by show 2 * 0 + _ ≤ _; exact Nat.le_of_eq rfl) (by decide)
  have c3 : SS p e below S0 (T2.setTop (mkF m 4 #[vr x, vr b, vi 0, vi 4, .val .null, .unset] [])) := c1.trans (st2 _ (Steps.refl _))
  have c4 : SS p e below S0 (T2.setTop (mkF m 27 #[vr x, vr b, vi 0, vi 4, .val .null, .unset] [])) := c3.trans (by
    show SS p e below (T2.setTop (mkF m 4 #[vr x, vr b, vi 0, vi 4, .val .null, .unset] [])) _
    refine XS.iloadN X2.here hx rfl (hb hby D16_4) rfl ?_
    refine XS.ifYes X2.here hx rfl (pc0 := 5) (pc' := 27) rfl (hb hby D16_5) rfl ((if0 _ _).trans (feq (by decide : ¬ ((4 : Int32) = (0 : Int32)))).2) (by decide) (by decide) ?_
    exact Steps.refl _)
  obtain ⟨T5, X5, e5, st5⟩ := getS2 X2 hx hZ hown (host := "") (Or.inl (ww hw 49 rfl)) Via.refl e2 (O2.ext X00.2) (g := (mkF m 27 #[vr x, vr b, vi 0, vi 4, .val .null, .unset] [])) rfl (hb hby D16_27)
  have c6 : SS p e below S0 (T5.setTop (mkF m 30 #[vr x, vr b, vi 0, vi 4, .val .null, .unset] [(.int G1)])) := c4.trans (st5 _ (Steps.refl _))
  have c7 : SS p e below S0 (T5.setTop (mkF m 36 #[vr x, vr b, vi 0, vi 4, .val .null, .unset] [(.int 4), (.int 0), (.ref b)])) := c6.trans (by
    show SS p e below (T5.setTop (mkF m 30 #[vr x, vr b, vi 0, vi 4, .val .null, .unset] [(.int G1)])) _
    refine XS.ifNo X5.here hx rfl (hb hby D16_30) rfl ((if0 _ _).trans (feq P5).1) ?_
    refine XS.aloadN X5.here hx rfl (hb hby D16_33) rfl rfl ?_
    refine XS.iloadN X5.here hx rfl (hb hby D16_34) rfl ?_
    refine XS.iloadN X5.here hx rfl (hb hby D16_35) rfl ?_
    exact Steps.refl _)
  obtain ⟨_, _, ⟨T8, L8, kk8, nn8⟩, -, X8, ⟨Lc8, hQ8, l8, y8, z8⟩, st8⟩ := Jvm.LawKit.callS X5 hx (y := (⟨"java/lang/StringUTF16", "compress", "([CII)[B"⟩ : MethodName)) hown (mvT hZ (ww hw 50 rfl)) (mvT hZ (ww hw 51 rfl)) (mvT hZ (ww hw 52 rfl)) (mvT hZ (ww hw 53 rfl)) (by decide) (backOf (W := 0) (rmC3_4 l Z a0 hw [] b kc ch0 ch1 ch2 ch3  h0 n0 Z0 Vb hc0 hc1 hc2 hc3  sAD sHI sLO X00) hZ (ww hw 53 rfl) (ww hw 52 rfl) (by decide) (by decide)) (g := (mkF m 36 #[vr x, vr b, vi 0, vi 4, .val .null, .unset] [(.int 4), (.int 0), (.ref b)])) rfl (by rw [hml]; rfl) (argsL := [(.ref b), (.int 0), (.int 4)]) (rest := []) (lenOf pd_oaCIIcaB rfl) rfl (by show 2 * 0 + _ ≤ _; exact Nat.le_of_eq rfl) (hb hby D16_36) (fun _ _ => ⟨rfl, e5, (by decide : 0 + 2 ≤ _), (by decide : 0 + 12 ≤ _)⟩)
  dsimp only [Pt.U, Pt.locs, Pt.cells, Pt.slots] at X8 l8 y8 z8 st8 hQ8
  subst l8 y8 z8
  obtain ⟨t8, kb8, cd8, N28, vs8, rfl, Nq8, Kq8, gt8, Vt8, hcd8⟩ := hQ8
  have c9 : SS p e below S0 (T8.setTop (mkF m 39 #[vr x, vr b, vi 0, vi 4, .val .null, .unset] [(.ref t8)])) := c7.trans (st8 _ (Steps.refl _))
  have N8 := Fr.app N0 Nq8
  have z8 : n0 ≤ T8.heap.size := Nat.le_trans Z0 Kq8.1
  have K8 := K0.trans Kq8 all0
  have lt_t8 := Vt8.lt
  have hcd := hcd8
  rcases id hcd8 with ⟨e1, e2, e3, e4⟩ | ⟨e1, e2, e3, e4⟩
  · have e5 : N28 = (4 : Int32) := e2
    have Vy8 := Vt8
    rw [e5] at Vy8
    rw [e5, e1] at hcd
    have c10 : SS p e below S0 (T8.setTop (mkF m 45 #[vr x, vr b, vi 0, vi 4, .val .null, vr t8] [(.int 4), (.ref t8), (.ref x)])) := c9.trans (by
      show SS p e below (T8.setTop (mkF m 39 #[vr x, vr b, vi 0, vi 4, .val .null, .unset] [(.ref t8)])) _
      refine XS.astore X8.here hx rfl (hb hby D16_39) rfl rfl (l' := #[vr x, vr b, vi 0, vi 4, .val .null, vr t8]) rfl ?_
      refine XS.aloadN X8.here hx rfl (hb hby D16_41) rfl rfl ?_
      refine XS.aload X8.here hx rfl (hb hby D16_42) rfl rfl ?_
      refine XS.iloadN X8.here hx rfl (hb hby D16_44) rfl ?_
      exact Steps.refl _)
    obtain ⟨_, _, ⟨T11, L11, kk11, nn11⟩, -, X11, ⟨Lc11, hQ11, l11, y11, z11⟩, st11⟩ := Jvm.LawKit.callS X8 hx (y := (⟨"java/lang/StringUTF16", "coderFromArrayLen", "([BI)B"⟩ : MethodName)) hown (mvT hZ (ww hw 57 rfl)) (mvT hZ (ww hw 58 rfl)) (mvT hZ (ww hw 52 rfl)) (mvT hZ (ww hw 59 rfl)) (by decide) (backOf (W := 1) (rmCo l Z a0 hw [] t8 kb8 (4 : Int32) (4 : Int32) (0 : Int32) vs8 T8.heap n0 z8 Vy8 (by decide) rfl) hZ (ww hw 59 rfl) (ww hw 52 rfl) (by decide) (by decide)) (g := (mkF m 45 #[vr x, vr b, vi 0, vi 4, .val .null, vr t8] [(.int 4), (.ref t8), (.ref x)])) rfl (by rw [hml]; rfl) (argsL := [(.ref t8), (.int 4)]) (rest := [(.ref x)]) (lenOf pd_oaBIcB rfl) rfl (by show 2 * 0 + _ ≤ _; exact Nat.le_of_eq rfl) (hb hby D16_45) (fun _ _ => ⟨rfl, rfl, (by decide : 2 + 0 ≤ _), (by decide : 12 + 0 ≤ _)⟩)
    dsimp only [Pt.U, Pt.locs, Pt.cells, Pt.slots] at X11 l11 y11 z11 st11 hQ11
    subst l11 y11 z11
    obtain ⟨rfl, Nq11, eq11⟩ := hQ11
    have c12 : SS p e below S0 (T11.setTop (mkF m 48 #[vr x, vr b, vi 0, vi 4, .val .null, vr t8] [(.int 0), (.ref x)])) := c10.trans (st11 _ (Steps.refl _))
    have N11 := Fr.app N8 Nq11
    obtain ⟨T13, h13, X13, e13, W13, st13⟩ := putFN X11 hx hZ hown (ww hw 28 rfl) Via.refl eq11 (Fc.keep Kq8 nin0) (Ex.keep Kq8) (Or.inr ⟨(ww hw 24 rfl), rfl, hnm⟩) (ww hw 9 rfl) (ty := .byte) (v' := (.int 0)) (by decide) rfl rfl (g := (mkF m 48 #[vr x, vr b, vi 0, vi 4, .val .null, vr t8] [(.int 0), (.ref x)])) rfl rfl (hb hby D16_48)
    have c14 : SS p e below S0 (T13.setTop (mkF m 51 #[vr x, vr b, vi 0, vi 4, .val .null, vr t8] [])) := c12.trans (st13 _ (Steps.refl _))
    have N13 := Fr.snoc X13 N11 g_x
    have Fw13 := (Fc.keep Kq8 nin0).same W13
    have z13 : n0 ≤ h13.size := Nat.le_trans z8 (Keep.of_wr W13).1
    have K13 := K8.wr W13 (Or.inl (by simp))
    have c15 : SS p e below S0 (T13.setTop (mkF m 54 #[vr x, vr b, vi 0, vi 4, .val .null, vr t8] [(.ref t8), (.ref x)])) := c14.trans (by
      show SS p e below (T13.setTop (mkF m 51 #[vr x, vr b, vi 0, vi 4, .val .null, vr t8] [])) _
      refine XS.aloadN X13.here hx rfl (hb hby D16_51) rfl rfl ?_
      refine XS.aload X13.here hx rfl (hb hby D16_52) rfl rfl ?_
      exact Steps.refl _)
    obtain ⟨T16, h16, X16, e16, W16, st16⟩ := putF X13 hx hZ hown (host := "") (Or.inl (ww hw 27 rfl)) Via.refl e13 ((Fv.keep Kq8 nin0).other W13 (Or.inr (slot_ne (Or.inr (ww hw 23 rfl)) (Or.inr (ww hw 24 rfl)) (by decide) (t := (.array .byte)) (t' := .byte) (by decide) (by decide)))) ((Ex.keep Kq8).wr W13) (Or.inr ⟨(ww hw 23 rfl), rfl, hnm⟩) (ww hw 9 rfl) (ty := (.array .byte)) (by decide) rfl rfl (g := (mkF m 54 #[vr x, vr b, vi 0, vi 4, .val .null, vr t8] [(.ref t8), (.ref x)])) rfl rfl (hb hby D16_54)
    have c17 : SS p e below S0 (T16.setTop (mkF m 57 #[vr x, vr b, vi 0, vi 4, .val .null, vr t8] [])) := c15.trans (st16 _ (Steps.refl _))
    have N16 := Fr.snoc X16 N13 g_x
    have Fw16 := ((Fv.keep Kq8 nin0).other W13 (Or.inr (slot_ne (Or.inr (ww hw 23 rfl)) (Or.inr (ww hw 24 rfl)) (by decide) (t := (.array .byte)) (t' := .byte) (by decide) (by decide)))).same W16
    have z16 : n0 ≤ h16.size := Nat.le_trans z13 (Keep.of_wr W16).1
    have K16 := K13.wr W16 (Or.inl (by simp))
    obtain ⟨fs, hr, hrun, hended, hW, hsame⟩ := X16.leave (v := none) (fun h => rfl)
    refine ⟨_, _, c17.trans (X16.returnOut hx Bd.returns (hb hby D16_57) hr), hrun, hended, _, _, rfl, ?_, ⟨_, rfl⟩, hW, hsame.mono (by first | decide | exact Nat.le_of_ble_eq_true rfl) (by first | decide | exact Nat.le_of_ble_eq_true rfl)⟩
    show QNw Z x ([ch0, ch1, ch2, ch3] : List Int32) h0 n0 _ T16.heap _
    rw [e16]
    exact ⟨_, _, _, _, _, rfl, N16, K16, (((Ex.keep Kq8).wr W13).wr W16), Fw16, (Fw13.other W16 (Or.inr (slot_ne (Or.inr (ww hw 24 rfl)) (Or.inr (ww hw 23 rfl)) (by decide) (t := .byte) (t' := (.array .byte)) (by decide) (by decide)))), ((Vy8.other W13 (Ne.symm (Nat.ne_of_lt (Nat.lt_of_lt_of_le Ex.lt gt8)))).other W16 (Ne.symm (Nat.ne_of_lt (Nat.lt_of_lt_of_le Ex.lt gt8)))), hcd, (own_alS hc0 (own_alS hc1 (own_alS hc2 (own_alS hc3 own_al0)))), Nat.le_of_ble_eq_true rfl⟩
  · have e5 : N28 = (8 : Int32) := e2
    have Vy8 := Vt8
    rw [e5] at Vy8
    rw [e5, e1] at hcd
    have c18 : SS p e below S0 (T8.setTop (mkF m 45 #[vr x, vr b, vi 0, vi 4, .val .null, vr t8] [(.int 4), (.ref t8), (.ref x)])) := c9.trans (by
      show SS p e below (T8.setTop (mkF m 39 #[vr x, vr b, vi 0, vi 4, .val .null, .unset] [(.ref t8)])) _
      refine XS.astore X8.here hx rfl (hb hby D16_39) rfl rfl (l' := #[vr x, vr b, vi 0, vi 4, .val .null, vr t8]) rfl ?_
      refine XS.aloadN X8.here hx rfl (hb hby D16_41) rfl rfl ?_
      refine XS.aload X8.here hx rfl (hb hby D16_42) rfl rfl ?_
      refine XS.iloadN X8.here hx rfl (hb hby D16_44) rfl ?_
      exact Steps.refl _)
    obtain ⟨_, _, ⟨T19, L19, kk19, nn19⟩, -, X19, ⟨Lc19, hQ19, l19, y19, z19⟩, st19⟩ := Jvm.LawKit.callS X8 hx (y := (⟨"java/lang/StringUTF16", "coderFromArrayLen", "([BI)B"⟩ : MethodName)) hown (mvT hZ (ww hw 57 rfl)) (mvT hZ (ww hw 58 rfl)) (mvT hZ (ww hw 52 rfl)) (mvT hZ (ww hw 59 rfl)) (by decide) (backOf (W := 1) (rmCo l Z a0 hw [] t8 kb8 (4 : Int32) (8 : Int32) (1 : Int32) vs8 T8.heap n0 z8 Vy8 (by decide) rfl) hZ (ww hw 59 rfl) (ww hw 52 rfl) (by decide) (by decide)) (g := (mkF m 45 #[vr x, vr b, vi 0, vi 4, .val .null, vr t8] [(.int 4), (.ref t8), (.ref x)])) rfl (by rw [hml]; rfl) (argsL := [(.ref t8), (.int 4)]) (rest := [(.ref x)]) (lenOf pd_oaBIcB rfl) rfl (by show 2 * 0 + _ ≤ _; exact Nat.le_of_eq rfl) (hb hby D16_45) (fun _ _ => ⟨rfl, rfl, (by decide : 2 + 0 ≤ _), (by decide : 12 + 0 ≤ _)⟩)
    dsimp only [Pt.U, Pt.locs, Pt.cells, Pt.slots] at X19 l19 y19 z19 st19 hQ19
    subst l19 y19 z19
    obtain ⟨rfl, Nq19, eq19⟩ := hQ19
    have c20 : SS p e below S0 (T19.setTop (mkF m 48 #[vr x, vr b, vi 0, vi 4, .val .null, vr t8] [(.int 1), (.ref x)])) := c18.trans (st19 _ (Steps.refl _))
    have N19 := Fr.app N8 Nq19
    obtain ⟨T21, h21, X21, e21, W21, st21⟩ := putFN X19 hx hZ hown (ww hw 28 rfl) Via.refl eq19 (Fc.keep Kq8 nin0) (Ex.keep Kq8) (Or.inr ⟨(ww hw 24 rfl), rfl, hnm⟩) (ww hw 9 rfl) (ty := .byte) (v' := (.int 1)) (by decide) rfl rfl (g := (mkF m 48 #[vr x, vr b, vi 0, vi 4, .val .null, vr t8] [(.int 1), (.ref x)])) rfl rfl (hb hby D16_48)
    have c22 : SS p e below S0 (T21.setTop (mkF m 51 #[vr x, vr b, vi 0, vi 4, .val .null, vr t8] [])) := c20.trans (st21 _ (Steps.refl _))
    have N21 := Fr.snoc X21 N19 g_x
    have Fw21 := (Fc.keep Kq8 nin0).same W21
    have z21 : n0 ≤ h21.size := Nat.le_trans z8 (Keep.of_wr W21).1
    have K21 := K8.wr W21 (Or.inl (by simp))
    have c23 : SS p e below S0 (T21.setTop (mkF m 54 #[vr x, vr b, vi 0, vi 4, .val .null, vr t8] [(.ref t8), (.ref x)])) := c22.trans (by
      show SS p e below (T21.setTop (mkF m 51 #[vr x, vr b, vi 0, vi 4, .val .null, vr t8] [])) _
      refine XS.aloadN X21.here hx rfl (hb hby D16_51) rfl rfl ?_
      refine XS.aload X21.here hx rfl (hb hby D16_52) rfl rfl ?_
      exact Steps.refl _)
    obtain ⟨T24, h24, X24, e24, W24, st24⟩ := putF X21 hx hZ hown (host := "") (Or.inl (ww hw 27 rfl)) Via.refl e21 ((Fv.keep Kq8 nin0).other W21 (Or.inr (slot_ne (Or.inr (ww hw 23 rfl)) (Or.inr (ww hw 24 rfl)) (by decide) (t := (.array .byte)) (t' := .byte) (by decide) (by decide)))) ((Ex.keep Kq8).wr W21) (Or.inr ⟨(ww hw 23 rfl), rfl, hnm⟩) (ww hw 9 rfl) (ty := (.array .byte)) (by decide) rfl rfl (g := (mkF m 54 #[vr x, vr b, vi 0, vi 4, .val .null, vr t8] [(.ref t8), (.ref x)])) rfl rfl (hb hby D16_54)
    have c25 : SS p e below S0 (T24.setTop (mkF m 57 #[vr x, vr b, vi 0, vi 4, .val .null, vr t8] [])) := c23.trans (st24 _ (Steps.refl _))
    have N24 := Fr.snoc X24 N21 g_x
    have Fw24 := ((Fv.keep Kq8 nin0).other W21 (Or.inr (slot_ne (Or.inr (ww hw 23 rfl)) (Or.inr (ww hw 24 rfl)) (by decide) (t := (.array .byte)) (t' := .byte) (by decide) (by decide)))).same W24
    have z24 : n0 ≤ h24.size := Nat.le_trans z21 (Keep.of_wr W24).1
    have K24 := K21.wr W24 (Or.inl (by simp))
    obtain ⟨fs, hr, hrun, hended, hW, hsame⟩ := X24.leave (v := none) (fun h => rfl)
    refine ⟨_, _, c25.trans (X24.returnOut hx Bd.returns (hb hby D16_57) hr), hrun, hended, _, _, rfl, ?_, ⟨_, rfl⟩, hW, hsame.mono (by first | decide | exact Nat.le_of_ble_eq_true rfl) (by first | decide | exact Nat.le_of_ble_eq_true rfl)⟩
    show QNw Z x ([ch0, ch1, ch2, ch3] : List Int32) h0 n0 _ T24.heap _
    rw [e24]
    exact ⟨_, _, _, _, _, rfl, N24, K24, (((Ex.keep Kq8).wr W21).wr W24), Fw24, (Fw21.other W24 (Or.inr (slot_ne (Or.inr (ww hw 24 rfl)) (Or.inr (ww hw 23 rfl)) (by decide) (t := .byte) (t' := (.array .byte)) (by decide) (by decide)))), ((Vy8.other W21 (Ne.symm (Nat.ne_of_lt (Nat.lt_of_lt_of_le Ex.lt gt8)))).other W24 (Ne.symm (Nat.ne_of_lt (Nat.lt_of_lt_of_le Ex.lt gt8)))), hcd, (own_alS hc0 (own_alS hc1 (own_alS hc2 (own_alS hc3 own_al0)))), Nat.le_of_ble_eq_true rfl⟩

theorem ef_rmN1_4 (m : MethodId) (x0 : Addr) (x1 : Addr) : entryFrame m #[(.ref x0), (.ref x1)] 2 = mkF m 0 #[.val (.ref x0), .val (.ref x1)] [] := by first | (simp [entryFrame, mkF, argsToLocals, Value.category]; done) | rfl
set_option maxRecDepth 65536 in
set_option maxHeartbeats 40000000 in
theorem rmN1_4 (l : Launch) (Z : State) (a0 : Array Value) (hw : ∀ d ∈ tables_1, d.before a0 Z = true) (ws : List Jvm.Cond) (x : Addr) (b : Addr) (kc : ClassId) (ch0 ch1 ch2 ch3 : Int32) (G1 : Int32) (h0 : Heap) (n0 : Nat) (Z0 : n0 ≤ h0.size) (g_x : n0 ≤ x) (Ex : Exa Z h0 x "java/lang/String") (Fv : Fld Z h0 x "java/lang/String" "value" "[B" .null) (Fc : Fld Z h0 x "java/lang/String" "coder" "B" (.int 0)) (Vb : Arv Z h0 b kc .char (4 : Int32) [.int ch0, .int ch1, .int ch2, .int ch3] (.int 0)) (hc0 : C16 ch0) (hc1 : C16 ch1) (hc2 : C16 ch2) (hc3 : C16 ch3) (sAD : Sta Z Z.heap "java/lang/StringUTF16" "$assertionsDisabled" "Z" (.int 1)) (sHI : Sta Z Z.heap "java/lang/StringUTF16" "HI_BYTE_SHIFT" "I" (.int 0)) (sLO : Sta Z Z.heap "java/lang/StringUTF16" "LO_BYTE_SHIFT" "I" (.int 8)) (O2 : Sta Z Z.heap "java/lang/String" "COMPACT_STRINGS" "Z" (.int G1)) (P5 : ¬ G1 = 0) (X00 : Old Z n0 h0) :
    MetFree l (⟨"java/lang/String", "<init>", "([C)V"⟩ : MethodName) (head1 (Jvm.Cond.code (⟨"java/lang/String", "<init>", "([C)V"⟩ : MethodName) jdk_42_method_3_code 2 (none) :: ws) ({ frames := 5, cells := 2, slots := 12, locals := 74 } : Room)) (fun aa U => aa = #[(.ref x), (.ref b)] ∧ Z.Warmed39 U.vm ∧ U.heap = h0) (fun _ _ _ _ _ => True) (fun _ U o U' => ∃ v L, o = .returned v ∧ QNw Z x ([ch0, ch1, ch2, ch3] : List Int32) h0 n0 v U'.heap L ∧ FrameEnd U o U' L ({ frames := 5, cells := 2, slots := 12, locals := 74 } : Room).cells ({ frames := 5, cells := 2, slots := 12, locals := 74 } : Room).slots) := by
  refine MetFree.of_bodySF (plainFor_of_name pn_java_lang_String) hisR ?_
  intro p e s m args below meth c s₁ Bd hml0 hP hK
  obtain ⟨rfl, hZ, hh⟩ := hP
  have hx := Bd.exec
  have hby := Bd.bytes
  have hml : c.maxLocals = 2 := hml0
  have hown : s.vm.findClass "java/lang/String" = some m.cls := findClass_of_methodNamed Bd.named
  have hnm := (name_of_methodNamed Bd.named Bd.method).1
  have X0 : Stand p l e ({ frames := 5, cells := 2, slots := 12, locals := 74 } : Room) s m #[(.ref x), (.ref b)] below meth c s₁ [] 0 0 := Stand.of_body Bd
  have e0 : s₁.heap = h0 := by rw [← hh, Bd.state]; rfl
  have N0 := Fr.nil n0
  have K0 := Keep.refl h0 [x]
  obtain ⟨S0, hS0⟩ : ∃ z, z = s₁.setTop (entryFrame m #[(.ref x), (.ref b)] 2) := ⟨_, rfl⟩
  rw [← hS0]
  have c0 : SS p e below S0 (s₁.setTop (mkF m 0 #[vr x, vr b] [])) := by
    rw [hS0]; exact castTop (ef_rmN1_4 m x b) (Steps.refl _)
  have c1 : SS p e below S0 (s₁.setTop (mkF m 4 #[vr x, vr b] [(.ref b), (.int 0), (.ref b), (.ref x)])) := c0.trans (by
    show SS p e below (s₁.setTop (mkF m 0 #[vr x, vr b] [])) _
    refine XS.aloadN X0.here hx rfl (hb hby D17_0) rfl rfl ?_
    refine XS.aloadN X0.here hx rfl (hb hby D17_1) rfl rfl ?_
    refine XS.iconst X0.here hx rfl (hb hby D17_2) ?_
    refine XS.aloadN X0.here hx rfl (hb hby D17_3) rfl rfl ?_
    exact Steps.refl _)
  obtain ⟨cl2, Ar2, -, S2, Nn2, -, -⟩ := id Vb
  have c3 : SS p e below S0 (s₁.setTop (mkF m 6 #[vr x, vr b] [.null, (.int 4), (.int 0), (.ref b), (.ref x)])) := c1.trans (by
    show SS p e below (s₁.setTop (mkF m 4 #[vr x, vr b] [(.ref b), (.int 0), (.ref b), (.ref x)])) _
    refine X0.arraylength hx (by rw [e0]; exact Ar2.1) (State.isArrayOf_alike hZ.alike Ar2.2.1) (g := (mkF m 4 #[vr x, vr b] [(.ref b), (.int 0), (.ref b), (.ref x)])) rfl rfl (hb hby D17_4) _ ?_
    rw [len_of S2 Nn2]
    refine XS.aconstNull X0.here hx rfl (hb hby D17_5) ?_
    exact Steps.refl _)
  obtain ⟨_, _, ⟨T4, L4, kk4, nn4⟩, -, X4, ⟨Lc4, hQ4, l4, y4, z4⟩, st4⟩ := X0.specialBack hx (y := (⟨"java/lang/String", "<init>", "([CIILjava/lang/Void;)V"⟩ : MethodName)) rfl hown (mvT hZ (ww hw 14 rfl)) (mvT hZ (ww hw 15 rfl)) (mvT hZ (ww hw 17 rfl)) (by decide) (backOf (W := 0) (rmN4_4 l Z a0 hw [] x b kc ch0 ch1 ch2 ch3  G1 h0 n0 Z0 g_x Ex Fv Fc Vb hc0 hc1 hc2 hc3  sAD sHI sLO O2 P5 X00) hZ (ww hw 17 rfl) (ww hw 10 rfl) (by decide) (by decide)) (g := (mkF m 6 #[vr x, vr b] [.null, (.int 4), (.int 0), (.ref b), (.ref x)])) rfl (by rw [hml]; rfl) (Steps.refl _) (a := x) (argsL := [(.ref b), (.int 0), (.int 4), .null]) (rest := []) (lenOf pd_oaCIILjavaslangsVoidecV rfl) rfl (by show 2 * 0 + _ ≤ _; exact Nat.le_of_eq rfl) (hb hby D17_6) (fun _ _ => ⟨rfl, e0, (by decide : 0 + 2 ≤ _), (by decide : 0 + 12 ≤ _)⟩)
  dsimp only [Pt.U, Pt.locs, Pt.cells, Pt.slots] at X4 l4 y4 z4 st4 hQ4
  subst l4 y4 z4
  obtain ⟨t4, kb4, cd4, N24, vs4, rfl, Nq4, Kq4, Sg4⟩ := hQ4
  have c5 : SS p e below S0 (T4.setTop (mkF m 9 #[vr x, vr b] [])) := c3.trans (st4)
  have N4 := Fr.app N0 Nq4
  have z4 : n0 ≤ T4.heap.size := Nat.le_trans Z0 Kq4.1
  have K4 := K0.trans Kq4 (allS (Or.inl (by simp)) all0)
  obtain ⟨fs, hr, hrun, hended, hW, hsame⟩ := X4.leave (v := none) (fun h => rfl)
  refine ⟨_, _, c5.trans (X4.returnOut hx Bd.returns (hb hby D17_9) hr), hrun, hended, _, _, rfl, ?_, ⟨_, rfl⟩, hW, hsame.mono (by first | decide | exact Nat.le_of_ble_eq_true rfl) (by first | decide | exact Nat.le_of_ble_eq_true rfl)⟩
  show QNw Z x ([ch0, ch1, ch2, ch3] : List Int32) h0 n0 _ T4.heap _
  exact ⟨_, _, _, _, _, rfl, N4, K4, Sg4⟩

theorem ef_rmC5_5 (m : MethodId) (x0 : Addr) (x1 : Int32) (x2 : Addr) (x3 : Int32) (x4 : Int32) : entryFrame m #[(.ref x0), (.int x1), (.ref x2), (.int x3), (.int x4)] 7 = mkF m 0 #[.val (.ref x0), .val (.int x1), .val (.ref x2), .val (.int x3), .val (.int x4), .unset, .unset] [] := by first | (simp [entryFrame, mkF, argsToLocals, Value.category]; done) | rfl
set_option maxRecDepth 65536 in
set_option maxHeartbeats 40000000 in
theorem rmC5_5 (l : Launch) (Z : State) (a0 : Array Value) (hw : ∀ d ∈ tables_1, d.before a0 Z = true) (ws : List Jvm.Cond) (d : Addr) (kd : ClassId) (b : Addr) (kc : ClassId) (ch0 ch1 ch2 ch3 ch4 : Int32)  (h0 : Heap) (n0 : Nat) (Z0 : n0 ≤ h0.size) (g_d : n0 ≤ d) (hbd : b ≠ d) (Vd : Arv Z h0 d kd .byte (5 : Int32) [.int (0 : Int32), .int (0 : Int32), .int (0 : Int32), .int (0 : Int32), .int (0 : Int32)] (.int 0)) (Vb : Arv Z h0 b kc .char (5 : Int32) [.int ch0, .int ch1, .int ch2, .int ch3, .int ch4] (.int 0)) (hc0 : C16 ch0) (hc1 : C16 ch1) (hc2 : C16 ch2) (hc3 : C16 ch3) (hc4 : C16 ch4)  :
    MetFree l (⟨"java/lang/StringUTF16", "compress", "([CI[BII)I"⟩ : MethodName) (head1 (Jvm.Cond.code (⟨"java/lang/StringUTF16", "compress", "([CI[BII)I"⟩ : MethodName) jdk_52_method_21_code 7 (some .int) :: ws) ({ frames := 0, cells := 0, slots := 0, locals := 0 } : Room)) (fun aa U => aa = #[(.ref b), (.int 0), (.ref d), (.int 0), (.int 5)] ∧ Z.Warmed39 U.vm ∧ U.heap = h0) (fun _ _ _ _ _ => True) (fun _ U o U' => ∃ v L, o = .returned v ∧ Q5 Z ([ch0, ch1, ch2, ch3, ch4] : List Int32) d kd h0 n0 v U'.heap L ∧ FrameEnd U o U' L ({ frames := 0, cells := 0, slots := 0, locals := 0 } : Room).cells ({ frames := 0, cells := 0, slots := 0, locals := 0 } : Room).slots) := by
  refine MetFree.of_bodySF (plainFor_of_name pn_java_lang_StringUTF16) hisR ?_
  intro p e s m args below meth c s₁ Bd hml0 hP hK
  obtain ⟨rfl, hZ, hh⟩ := hP
  have hx := Bd.exec
  have hby := Bd.bytes
  have hml : c.maxLocals = 7 := hml0
  have hown : s.vm.findClass "java/lang/StringUTF16" = some m.cls := findClass_of_methodNamed Bd.named
  have hnm := (name_of_methodNamed Bd.named Bd.method).1
  have X0 : Stand p l e ({ frames := 0, cells := 0, slots := 0, locals := 0 } : Room) s m #[(.ref b), (.int 0), (.ref d), (.int 0), (.int 5)] below meth c s₁ [] 0 0 := Stand.of_body Bd
  have e0 : s₁.heap = h0 := by rw [← hh, Bd.state]; rfl
  have N0 := Fr.nil n0
  have K0 := Keep.refl h0 [d]
  obtain ⟨S0, hS0⟩ : ∃ z, z = s₁.setTop (entryFrame m #[(.ref b), (.int 0), (.ref d), (.int 0), (.int 5)] 7) := ⟨_, rfl⟩
  rw [← hS0]
  have c0 : SS p e below S0 (s₁.setTop (mkF m 0 #[vr b, vi 0, vr d, vi 0, vi 5, .unset, .unset] [])) := by
    rw [hS0]; exact castTop (ef_rmC5_5 m b (0 : Int32) d (0 : Int32) (5 : Int32)) (Steps.refl _)
  have c1 : SS p e below S0 (s₁.setTop (mkF m 12 #[vr b, vi 0, vr d, vi 0, vi 5, vi 0, .unset] [(.int 0), (.ref b)])) := c0.trans (by
    show SS p e below (s₁.setTop (mkF m 0 #[vr b, vi 0, vr d, vi 0, vi 5, .unset, .unset] [])) _
    refine XS.iconst X0.here hx rfl (hb hby D12_0) ?_
    refine XS.istore X0.here hx rfl (hb hby D12_1) rfl (l' := #[vr b, vi 0, vr d, vi 0, vi 5, vi 0, .unset]) rfl ?_
    refine XS.iload X0.here hx rfl (hb hby D12_3) rfl ?_
    refine XS.iload X0.here hx rfl (hb hby D12_5) rfl ?_
    refine XS.icmpNo X0.here hx rfl (hb hby D12_7) rfl (tlt (by decide : ((0 : Int32) < (5 : Int32)))).2.1 ?_
    refine XS.aloadN X0.here hx rfl (hb hby D12_10) rfl rfl ?_
    refine XS.iloadN X0.here hx rfl (hb hby D12_11) rfl ?_
    exact Steps.refl _)
  obtain ⟨cl2, Ar2, -, S2, -, Ha2, -⟩ := id Vb
  have c3 : SS p e below S0 (s₁.setTop (mkF m 20 #[vr b, vi 0, vr d, vi 0, vi 5, vi 0, vi ch0] [(.int 255), (.int ch0)])) := c1.trans (by
    show SS p e below (s₁.setTop (mkF m 12 #[vr b, vi 0, vr d, vi 0, vi 5, vi 0, .unset] [(.int 0), (.ref b)])) _
    refine X0.caload hx (j := (0 : Int32)) (v := (.int ch0)) (by rw [e0]; exact Ar2.1) (State.isArrayOf_alike hZ.alike Ar2.2.1) Ar2.2.2 (inb_of S2 ⟨by decide, by decide⟩) (Ha2.at (inb_of S2 ⟨by decide, by decide⟩) rfl) (g := (mkF m 12 #[vr b, vi 0, vr d, vi 0, vi 5, vi 0, .unset] [(.int 0), (.ref b)])) rfl rfl (hb hby D12_12) _ ?_
    refine XS.istore X0.here hx rfl (hb hby D12_13) rfl (l' := #[vr b, vi 0, vr d, vi 0, vi 5, vi 0, vi ch0]) rfl ?_
    refine XS.iload X0.here hx rfl (hb hby D12_15) rfl ?_
    refine XS.sipush X0.here hx rfl (hb hby D12_17) ?_
    exact Steps.refl _)
  by_cases hq4 : (255 : Int32) < ch0
  · have c5 : SS p e below S0 (s₁.setTop (mkF m 25 #[vr b, vi 0, vr d, vi 0, vi 5, vi 0, vi ch0] [(.int 0)])) := c3.trans (by
      show SS p e below (s₁.setTop (mkF m 20 #[vr b, vi 0, vr d, vi 0, vi 5, vi 0, vi ch0] [(.int 255), (.int ch0)])) _
      refine XS.icmpNo X0.here hx rfl (hb hby D12_20) rfl (tlt hq4).2.2.2 ?_
      refine XS.iload X0.here hx rfl (hb hby D12_23) rfl ?_
      exact Steps.refl _)
    obtain ⟨fs, hr, hrun, hended, hW, hsame⟩ := X0.leave (v := some (.int 0)) (fun h => by rw [Bd.returns] at h; cases h)
    refine ⟨_, _, c5.trans (retOut X0 hx Bd.returns rfl (Or.inl ⟨rfl, by simp, _, rfl⟩) (hb hby D12_25) hr), hrun, hended, _, _, rfl, ?_, ⟨_, rfl⟩, hW, hsame.mono (by first | decide | exact Nat.le_of_ble_eq_true rfl) (by first | decide | exact Nat.le_of_ble_eq_true rfl)⟩
    show Q5 Z ([ch0, ch1, ch2, ch3, ch4] : List Int32) d kd h0 n0 _ s₁.heap _
    rw [e0]
    exact ⟨_, rfl, N0, K0, Or.inr ⟨0, Nat.le_of_ble_eq_true rfl, rfl, hq4⟩⟩
  · have c6 : SS p e below S0 (s₁.setTop (mkF m 31 #[vr b, vi 0, vr d, vi 0, vi 5, vi 0, vi ch0] [(.int (ch0.toInt8.toInt32)), (.int 0), (.ref d)])) := c3.trans (by
      show SS p e below (s₁.setTop (mkF m 20 #[vr b, vi 0, vr d, vi 0, vi 5, vi 0, vi ch0] [(.int 255), (.int ch0)])) _
      refine XS.icmpYes X0.here hx rfl (pc0 := 20) (pc' := 26) rfl (hb hby D12_20) rfl (flt hq4).2.2.2 (by decide) (by decide) ?_
      refine XS.aloadN X0.here hx rfl (hb hby D12_26) rfl rfl ?_
      refine XS.iloadN X0.here hx rfl (hb hby D12_27) rfl ?_
      refine XS.iload X0.here hx rfl (hb hby D12_28) rfl ?_
      refine XS.i2b X0.here hx rfl (hb hby D12_30) rfl ?_
      exact Steps.refl _)
    obtain ⟨cl7, Ar7, q7, S7, Nn7, Ha7, G7⟩ := id Vd
    obtain ⟨T7, h7, X7, e7, W7, st7⟩ := stB X0 hx hZ e0 Ar7 (j := (0 : Int32)) (inb_of S7 ⟨by decide, by decide⟩) (g := (mkF m 31 #[vr b, vi 0, vr d, vi 0, vi 5, vi 0, vi ch0] [(.int (ch0.toInt8.toInt32)), (.int 0), (.ref d)])) rfl rfl (hb hby D12_31)
    have V7 : Arv Z h7 d kd .byte (5 : Int32) [(.int ((ch0.toInt8.toInt32).toInt8.toInt32)), (.int 0), (.int 0), (.int 0), (.int 0)] (.int 0) := Arv.set Ar7 q7 S7 Nn7 Ha7 G7 (fits_nar_byte _) W7 0 rfl (Nat.le_of_ble_eq_true rfl)
    have c8 : SS p e below S0 (T7.setTop (mkF m 32 #[vr b, vi 0, vr d, vi 0, vi 5, vi 0, vi ch0] [])) := c6.trans (st7 _ (Steps.refl _))
    have N7 := Fr.snoc X7 N0 g_d
    have z7 : n0 ≤ h7.size := Nat.le_trans Z0 (Keep.of_wr W7).1
    have K7 := K0.wr W7 (Or.inl (by simp))
    have c9 : SS p e below S0 (T7.setTop (mkF m 12 #[vr b, vi 1, vr d, vi 1, vi 5, vi 1, vi ch0] [(.int 1), (.ref b)])) := c8.trans (by
      show SS p e below (T7.setTop (mkF m 32 #[vr b, vi 0, vr d, vi 0, vi 5, vi 0, vi ch0] [])) _
      refine XS.iinc X7.here hx rfl (hb hby D12_32) rfl (l' := #[vr b, vi 1, vr d, vi 0, vi 5, vi 0, vi ch0]) rfl ?_
      refine XS.iinc X7.here hx rfl (hb hby D12_35) rfl (l' := #[vr b, vi 1, vr d, vi 1, vi 5, vi 0, vi ch0]) rfl ?_
      refine XS.iinc X7.here hx rfl (hb hby D12_38) rfl (l' := #[vr b, vi 1, vr d, vi 1, vi 5, vi 1, vi ch0]) rfl ?_
      refine XS.goto X7.here hx rfl (pc0 := 41) (pc' := 3) rfl (hb hby D12_41) (by decide) (by decide) ?_
      refine XS.iload X7.here hx rfl (hb hby D12_3) rfl ?_
      refine XS.iload X7.here hx rfl (hb hby D12_5) rfl ?_
      refine XS.icmpNo X7.here hx rfl (hb hby D12_7) rfl (tlt (by decide : ((1 : Int32) < (5 : Int32)))).2.1 ?_
      refine XS.aloadN X7.here hx rfl (hb hby D12_10) rfl rfl ?_
      refine XS.iloadN X7.here hx rfl (hb hby D12_11) rfl ?_
      exact Steps.refl _)
    obtain ⟨cl10, Ar10, -, S10, -, Ha10, -⟩ := id (Vb.other W7 hbd)
    have c11 : SS p e below S0 (T7.setTop (mkF m 20 #[vr b, vi 1, vr d, vi 1, vi 5, vi 1, vi ch1] [(.int 255), (.int ch1)])) := c9.trans (by
      show SS p e below (T7.setTop (mkF m 12 #[vr b, vi 1, vr d, vi 1, vi 5, vi 1, vi ch0] [(.int 1), (.ref b)])) _
      refine X7.caload hx (j := (1 : Int32)) (v := (.int ch1)) (by rw [e7]; exact Ar10.1) (State.isArrayOf_alike hZ.alike Ar10.2.1) Ar10.2.2 (inb_of S10 ⟨by decide, by decide⟩) (Ha10.at (inb_of S10 ⟨by decide, by decide⟩) rfl) (g := (mkF m 12 #[vr b, vi 1, vr d, vi 1, vi 5, vi 1, vi ch0] [(.int 1), (.ref b)])) rfl rfl (hb hby D12_12) _ ?_
      refine XS.istore X7.here hx rfl (hb hby D12_13) rfl (l' := #[vr b, vi 1, vr d, vi 1, vi 5, vi 1, vi ch1]) rfl ?_
      refine XS.iload X7.here hx rfl (hb hby D12_15) rfl ?_
      refine XS.sipush X7.here hx rfl (hb hby D12_17) ?_
      exact Steps.refl _)
    by_cases hq12 : (255 : Int32) < ch1
    · have c13 : SS p e below S0 (T7.setTop (mkF m 25 #[vr b, vi 1, vr d, vi 1, vi 5, vi 1, vi ch1] [(.int 1)])) := c11.trans (by
        show SS p e below (T7.setTop (mkF m 20 #[vr b, vi 1, vr d, vi 1, vi 5, vi 1, vi ch1] [(.int 255), (.int ch1)])) _
        refine XS.icmpNo X7.here hx rfl (hb hby D12_20) rfl (tlt hq12).2.2.2 ?_
        refine XS.iload X7.here hx rfl (hb hby D12_23) rfl ?_
        exact Steps.refl _)
      obtain ⟨fs, hr, hrun, hended, hW, hsame⟩ := X7.leave (v := some (.int 1)) (fun h => by rw [Bd.returns] at h; cases h)
      refine ⟨_, _, c13.trans (retOut X7 hx Bd.returns rfl (Or.inl ⟨rfl, by simp, _, rfl⟩) (hb hby D12_25) hr), hrun, hended, _, _, rfl, ?_, ⟨_, rfl⟩, hW, hsame.mono (by first | decide | exact Nat.le_of_ble_eq_true rfl) (by first | decide | exact Nat.le_of_ble_eq_true rfl)⟩
      show Q5 Z ([ch0, ch1, ch2, ch3, ch4] : List Int32) d kd h0 n0 _ T7.heap _
      rw [e7]
      exact ⟨_, rfl, N7, K7, Or.inr ⟨1, Nat.le_of_ble_eq_true rfl, rfl, hq12⟩⟩
    · have c14 : SS p e below S0 (T7.setTop (mkF m 31 #[vr b, vi 1, vr d, vi 1, vi 5, vi 1, vi ch1] [(.int (ch1.toInt8.toInt32)), (.int 1), (.ref d)])) := c11.trans (by
        show SS p e below (T7.setTop (mkF m 20 #[vr b, vi 1, vr d, vi 1, vi 5, vi 1, vi ch1] [(.int 255), (.int ch1)])) _
        refine XS.icmpYes X7.here hx rfl (pc0 := 20) (pc' := 26) rfl (hb hby D12_20) rfl (flt hq12).2.2.2 (by decide) (by decide) ?_
        refine XS.aloadN X7.here hx rfl (hb hby D12_26) rfl rfl ?_
        refine XS.iloadN X7.here hx rfl (hb hby D12_27) rfl ?_
        refine XS.iload X7.here hx rfl (hb hby D12_28) rfl ?_
        refine XS.i2b X7.here hx rfl (hb hby D12_30) rfl ?_
        exact Steps.refl _)
      obtain ⟨cl15, Ar15, q15, S15, Nn15, Ha15, G15⟩ := id V7
      obtain ⟨T15, h15, X15, e15, W15, st15⟩ := stB X7 hx hZ e7 Ar15 (j := (1 : Int32)) (inb_of S15 ⟨by decide, by decide⟩) (g := (mkF m 31 #[vr b, vi 1, vr d, vi 1, vi 5, vi 1, vi ch1] [(.int (ch1.toInt8.toInt32)), (.int 1), (.ref d)])) rfl rfl (hb hby D12_31)
      have V15 : Arv Z h15 d kd .byte (5 : Int32) [(.int ((ch0.toInt8.toInt32).toInt8.toInt32)), (.int ((ch1.toInt8.toInt32).toInt8.toInt32)), (.int 0), (.int 0), (.int 0)] (.int 0) := Arv.set Ar15 q15 S15 Nn15 Ha15 G15 (fits_nar_byte _) W15 1 rfl (Nat.le_of_ble_eq_true rfl)
      have c16 : SS p e below S0 (T15.setTop (mkF m 32 #[vr b, vi 1, vr d, vi 1, vi 5, vi 1, vi ch1] [])) := c14.trans (st15 _ (Steps.refl _))
      have N15 := Fr.snoc X15 N7 g_d
      have z15 : n0 ≤ h15.size := Nat.le_trans z7 (Keep.of_wr W15).1
      have K15 := K7.wr W15 (Or.inl (by simp))
      have c17 : SS p e below S0 (T15.setTop (mkF m 12 #[vr b, vi 2, vr d, vi 2, vi 5, vi 2, vi ch1] [(.int 2), (.ref b)])) := c16.trans (by
        show SS p e below (T15.setTop (mkF m 32 #[vr b, vi 1, vr d, vi 1, vi 5, vi 1, vi ch1] [])) _
        refine XS.iinc X15.here hx rfl (hb hby D12_32) rfl (l' := #[vr b, vi 2, vr d, vi 1, vi 5, vi 1, vi ch1]) rfl ?_
        refine XS.iinc X15.here hx rfl (hb hby D12_35) rfl (l' := #[vr b, vi 2, vr d, vi 2, vi 5, vi 1, vi ch1]) rfl ?_
        refine XS.iinc X15.here hx rfl (hb hby D12_38) rfl (l' := #[vr b, vi 2, vr d, vi 2, vi 5, vi 2, vi ch1]) rfl ?_
        refine XS.goto X15.here hx rfl (pc0 := 41) (pc' := 3) rfl (hb hby D12_41) (by decide) (by decide) ?_
        refine XS.iload X15.here hx rfl (hb hby D12_3) rfl ?_
        refine XS.iload X15.here hx rfl (hb hby D12_5) rfl ?_
        refine XS.icmpNo X15.here hx rfl (hb hby D12_7) rfl (tlt (by decide : ((2 : Int32) < (5 : Int32)))).2.1 ?_
        refine XS.aloadN X15.here hx rfl (hb hby D12_10) rfl rfl ?_
        refine XS.iloadN X15.here hx rfl (hb hby D12_11) rfl ?_
        exact Steps.refl _)
      obtain ⟨cl18, Ar18, -, S18, -, Ha18, -⟩ := id ((Vb.other W7 hbd).other W15 hbd)
      have c19 : SS p e below S0 (T15.setTop (mkF m 20 #[vr b, vi 2, vr d, vi 2, vi 5, vi 2, vi ch2] [(.int 255), (.int ch2)])) := c17.trans (by
        show SS p e below (T15.setTop (mkF m 12 #[vr b, vi 2, vr d, vi 2, vi 5, vi 2, vi ch1] [(.int 2), (.ref b)])) _
        refine X15.caload hx (j := (2 : Int32)) (v := (.int ch2)) (by rw [e15]; exact Ar18.1) (State.isArrayOf_alike hZ.alike Ar18.2.1) Ar18.2.2 (inb_of S18 ⟨by decide, by decide⟩) (Ha18.at (inb_of S18 ⟨by decide, by decide⟩) rfl) (g := (mkF m 12 #[vr b, vi 2, vr d, vi 2, vi 5, vi 2, vi ch1] [(.int 2), (.ref b)])) rfl rfl (hb hby D12_12) _ ?_
        refine XS.istore X15.here hx rfl (hb hby D12_13) rfl (l' := #[vr b, vi 2, vr d, vi 2, vi 5, vi 2, vi ch2]) rfl ?_
        refine XS.iload X15.here hx rfl (hb hby D12_15) rfl ?_
        refine XS.sipush X15.here hx rfl (hb hby D12_17) ?_
        exact Steps.refl _)
      by_cases hq20 : (255 : Int32) < ch2
      · have c21 : SS p e below S0 (T15.setTop (mkF m 25 #[vr b, vi 2, vr d, vi 2, vi 5, vi 2, vi ch2] [(.int 2)])) := c19.trans (by
          show SS p e below (T15.setTop (mkF m 20 #[vr b, vi 2, vr d, vi 2, vi 5, vi 2, vi ch2] [(.int 255), (.int ch2)])) _
          refine XS.icmpNo X15.here hx rfl (hb hby D12_20) rfl (tlt hq20).2.2.2 ?_
          refine XS.iload X15.here hx rfl (hb hby D12_23) rfl ?_
          exact Steps.refl _)
        obtain ⟨fs, hr, hrun, hended, hW, hsame⟩ := X15.leave (v := some (.int 2)) (fun h => by rw [Bd.returns] at h; cases h)
        refine ⟨_, _, c21.trans (retOut X15 hx Bd.returns rfl (Or.inl ⟨rfl, by simp, _, rfl⟩) (hb hby D12_25) hr), hrun, hended, _, _, rfl, ?_, ⟨_, rfl⟩, hW, hsame.mono (by first | decide | exact Nat.le_of_ble_eq_true rfl) (by first | decide | exact Nat.le_of_ble_eq_true rfl)⟩
        show Q5 Z ([ch0, ch1, ch2, ch3, ch4] : List Int32) d kd h0 n0 _ T15.heap _
        rw [e15]
        exact ⟨_, rfl, N15, K15, Or.inr ⟨2, Nat.le_of_ble_eq_true rfl, rfl, hq20⟩⟩
      · have c22 : SS p e below S0 (T15.setTop (mkF m 31 #[vr b, vi 2, vr d, vi 2, vi 5, vi 2, vi ch2] [(.int (ch2.toInt8.toInt32)), (.int 2), (.ref d)])) := c19.trans (by
          show SS p e below (T15.setTop (mkF m 20 #[vr b, vi 2, vr d, vi 2, vi 5, vi 2, vi ch2] [(.int 255), (.int ch2)])) _
          refine XS.icmpYes X15.here hx rfl (pc0 := 20) (pc' := 26) rfl (hb hby D12_20) rfl (flt hq20).2.2.2 (by decide) (by decide) ?_
          refine XS.aloadN X15.here hx rfl (hb hby D12_26) rfl rfl ?_
          refine XS.iloadN X15.here hx rfl (hb hby D12_27) rfl ?_
          refine XS.iload X15.here hx rfl (hb hby D12_28) rfl ?_
          refine XS.i2b X15.here hx rfl (hb hby D12_30) rfl ?_
          exact Steps.refl _)
        obtain ⟨cl23, Ar23, q23, S23, Nn23, Ha23, G23⟩ := id V15
        obtain ⟨T23, h23, X23, e23, W23, st23⟩ := stB X15 hx hZ e15 Ar23 (j := (2 : Int32)) (inb_of S23 ⟨by decide, by decide⟩) (g := (mkF m 31 #[vr b, vi 2, vr d, vi 2, vi 5, vi 2, vi ch2] [(.int (ch2.toInt8.toInt32)), (.int 2), (.ref d)])) rfl rfl (hb hby D12_31)
        have V23 : Arv Z h23 d kd .byte (5 : Int32) [(.int ((ch0.toInt8.toInt32).toInt8.toInt32)), (.int ((ch1.toInt8.toInt32).toInt8.toInt32)), (.int ((ch2.toInt8.toInt32).toInt8.toInt32)), (.int 0), (.int 0)] (.int 0) := Arv.set Ar23 q23 S23 Nn23 Ha23 G23 (fits_nar_byte _) W23 2 rfl (Nat.le_of_ble_eq_true rfl)
        have c24 : SS p e below S0 (T23.setTop (mkF m 32 #[vr b, vi 2, vr d, vi 2, vi 5, vi 2, vi ch2] [])) := c22.trans (st23 _ (Steps.refl _))
        have N23 := Fr.snoc X23 N15 g_d
        have z23 : n0 ≤ h23.size := Nat.le_trans z15 (Keep.of_wr W23).1
        have K23 := K15.wr W23 (Or.inl (by simp))
        have c25 : SS p e below S0 (T23.setTop (mkF m 12 #[vr b, vi 3, vr d, vi 3, vi 5, vi 3, vi ch2] [(.int 3), (.ref b)])) := c24.trans (by
          show SS p e below (T23.setTop (mkF m 32 #[vr b, vi 2, vr d, vi 2, vi 5, vi 2, vi ch2] [])) _
          refine XS.iinc X23.here hx rfl (hb hby D12_32) rfl (l' := #[vr b, vi 3, vr d, vi 2, vi 5, vi 2, vi ch2]) rfl ?_
          refine XS.iinc X23.here hx rfl (hb hby D12_35) rfl (l' := #[vr b, vi 3, vr d, vi 3, vi 5, vi 2, vi ch2]) rfl ?_
          refine XS.iinc X23.here hx rfl (hb hby D12_38) rfl (l' := #[vr b, vi 3, vr d, vi 3, vi 5, vi 3, vi ch2]) rfl ?_
          refine XS.goto X23.here hx rfl (pc0 := 41) (pc' := 3) rfl (hb hby D12_41) (by decide) (by decide) ?_
          refine XS.iload X23.here hx rfl (hb hby D12_3) rfl ?_
          refine XS.iload X23.here hx rfl (hb hby D12_5) rfl ?_
          refine XS.icmpNo X23.here hx rfl (hb hby D12_7) rfl (tlt (by decide : ((3 : Int32) < (5 : Int32)))).2.1 ?_
          refine XS.aloadN X23.here hx rfl (hb hby D12_10) rfl rfl ?_
          refine XS.iloadN X23.here hx rfl (hb hby D12_11) rfl ?_
          exact Steps.refl _)
        obtain ⟨cl26, Ar26, -, S26, -, Ha26, -⟩ := id (((Vb.other W7 hbd).other W15 hbd).other W23 hbd)
        have c27 : SS p e below S0 (T23.setTop (mkF m 20 #[vr b, vi 3, vr d, vi 3, vi 5, vi 3, vi ch3] [(.int 255), (.int ch3)])) := c25.trans (by
          show SS p e below (T23.setTop (mkF m 12 #[vr b, vi 3, vr d, vi 3, vi 5, vi 3, vi ch2] [(.int 3), (.ref b)])) _
          refine X23.caload hx (j := (3 : Int32)) (v := (.int ch3)) (by rw [e23]; exact Ar26.1) (State.isArrayOf_alike hZ.alike Ar26.2.1) Ar26.2.2 (inb_of S26 ⟨by decide, by decide⟩) (Ha26.at (inb_of S26 ⟨by decide, by decide⟩) rfl) (g := (mkF m 12 #[vr b, vi 3, vr d, vi 3, vi 5, vi 3, vi ch2] [(.int 3), (.ref b)])) rfl rfl (hb hby D12_12) _ ?_
          refine XS.istore X23.here hx rfl (hb hby D12_13) rfl (l' := #[vr b, vi 3, vr d, vi 3, vi 5, vi 3, vi ch3]) rfl ?_
          refine XS.iload X23.here hx rfl (hb hby D12_15) rfl ?_
          refine XS.sipush X23.here hx rfl (hb hby D12_17) ?_
          exact Steps.refl _)
        by_cases hq28 : (255 : Int32) < ch3
        · have c29 : SS p e below S0 (T23.setTop (mkF m 25 #[vr b, vi 3, vr d, vi 3, vi 5, vi 3, vi ch3] [(.int 3)])) := c27.trans (by
            show SS p e below (T23.setTop (mkF m 20 #[vr b, vi 3, vr d, vi 3, vi 5, vi 3, vi ch3] [(.int 255), (.int ch3)])) _
            refine XS.icmpNo X23.here hx rfl (hb hby D12_20) rfl (tlt hq28).2.2.2 ?_
            refine XS.iload X23.here hx rfl (hb hby D12_23) rfl ?_
            exact Steps.refl _)
          obtain ⟨fs, hr, hrun, hended, hW, hsame⟩ := X23.leave (v := some (.int 3)) (fun h => by rw [Bd.returns] at h; cases h)
          refine ⟨_, _, c29.trans (retOut X23 hx Bd.returns rfl (Or.inl ⟨rfl, by simp, _, rfl⟩) (hb hby D12_25) hr), hrun, hended, _, _, rfl, ?_, ⟨_, rfl⟩, hW, hsame.mono (by first | decide | exact Nat.le_of_ble_eq_true rfl) (by first | decide | exact Nat.le_of_ble_eq_true rfl)⟩
          show Q5 Z ([ch0, ch1, ch2, ch3, ch4] : List Int32) d kd h0 n0 _ T23.heap _
          rw [e23]
          exact ⟨_, rfl, N23, K23, Or.inr ⟨3, Nat.le_of_ble_eq_true rfl, rfl, hq28⟩⟩
        · have c30 : SS p e below S0 (T23.setTop (mkF m 31 #[vr b, vi 3, vr d, vi 3, vi 5, vi 3, vi ch3] [(.int (ch3.toInt8.toInt32)), (.int 3), (.ref d)])) := c27.trans (by
            show SS p e below (T23.setTop (mkF m 20 #[vr b, vi 3, vr d, vi 3, vi 5, vi 3, vi ch3] [(.int 255), (.int ch3)])) _
            refine XS.icmpYes X23.here hx rfl (pc0 := 20) (pc' := 26) rfl (hb hby D12_20) rfl (flt hq28).2.2.2 (by decide) (by decide) ?_
            refine XS.aloadN X23.here hx rfl (hb hby D12_26) rfl rfl ?_
            refine XS.iloadN X23.here hx rfl (hb hby D12_27) rfl ?_
            refine XS.iload X23.here hx rfl (hb hby D12_28) rfl ?_
            refine XS.i2b X23.here hx rfl (hb hby D12_30) rfl ?_
            exact Steps.refl _)
          obtain ⟨cl31, Ar31, q31, S31, Nn31, Ha31, G31⟩ := id V23
          obtain ⟨T31, h31, X31, e31, W31, st31⟩ := stB X23 hx hZ e23 Ar31 (j := (3 : Int32)) (inb_of S31 ⟨by decide, by decide⟩) (g := (mkF m 31 #[vr b, vi 3, vr d, vi 3, vi 5, vi 3, vi ch3] [(.int (ch3.toInt8.toInt32)), (.int 3), (.ref d)])) rfl rfl (hb hby D12_31)
          have V31 : Arv Z h31 d kd .byte (5 : Int32) [(.int ((ch0.toInt8.toInt32).toInt8.toInt32)), (.int ((ch1.toInt8.toInt32).toInt8.toInt32)), (.int ((ch2.toInt8.toInt32).toInt8.toInt32)), (.int ((ch3.toInt8.toInt32).toInt8.toInt32)), (.int 0)] (.int 0) := Arv.set Ar31 q31 S31 Nn31 Ha31 G31 (fits_nar_byte _) W31 3 rfl (Nat.le_of_ble_eq_true rfl)
          have c32 : SS p e below S0 (T31.setTop (mkF m 32 #[vr b, vi 3, vr d, vi 3, vi 5, vi 3, vi ch3] [])) := c30.trans (st31 _ (Steps.refl _))
          have N31 := Fr.snoc X31 N23 g_d
          have z31 : n0 ≤ h31.size := Nat.le_trans z23 (Keep.of_wr W31).1
          have K31 := K23.wr W31 (Or.inl (by simp))
          have c33 : SS p e below S0 (T31.setTop (mkF m 12 #[vr b, vi 4, vr d, vi 4, vi 5, vi 4, vi ch3] [(.int 4), (.ref b)])) := c32.trans (by
            show SS p e below (T31.setTop (mkF m 32 #[vr b, vi 3, vr d, vi 3, vi 5, vi 3, vi ch3] [])) _
            refine XS.iinc X31.here hx rfl (hb hby D12_32) rfl (l' := #[vr b, vi 4, vr d, vi 3, vi 5, vi 3, vi ch3]) rfl ?_
            refine XS.iinc X31.here hx rfl (hb hby D12_35) rfl (l' := #[vr b, vi 4, vr d, vi 4, vi 5, vi 3, vi ch3]) rfl ?_
            refine XS.iinc X31.here hx rfl (hb hby D12_38) rfl (l' := #[vr b, vi 4, vr d, vi 4, vi 5, vi 4, vi ch3]) rfl ?_
            refine XS.goto X31.here hx rfl (pc0 := 41) (pc' := 3) rfl (hb hby D12_41) (by decide) (by decide) ?_
            refine XS.iload X31.here hx rfl (hb hby D12_3) rfl ?_
            refine XS.iload X31.here hx rfl (hb hby D12_5) rfl ?_
            refine XS.icmpNo X31.here hx rfl (hb hby D12_7) rfl (tlt (by decide : ((4 : Int32) < (5 : Int32)))).2.1 ?_
            refine XS.aloadN X31.here hx rfl (hb hby D12_10) rfl rfl ?_
            refine XS.iloadN X31.here hx rfl (hb hby D12_11) rfl ?_
            exact Steps.refl _)
          obtain ⟨cl34, Ar34, -, S34, -, Ha34, -⟩ := id ((((Vb.other W7 hbd).other W15 hbd).other W23 hbd).other W31 hbd)
          have c35 : SS p e below S0 (T31.setTop (mkF m 20 #[vr b, vi 4, vr d, vi 4, vi 5, vi 4, vi ch4] [(.int 255), (.int ch4)])) := c33.trans (by
            show SS p e below (T31.setTop (mkF m 12 #[vr b, vi 4, vr d, vi 4, vi 5, vi 4, vi ch3] [(.int 4), (.ref b)])) _
            refine X31.caload hx (j := (4 : Int32)) (v := (.int ch4)) (by rw [e31]; exact Ar34.1) (State.isArrayOf_alike hZ.alike Ar34.2.1) Ar34.2.2 (inb_of S34 ⟨by decide, by decide⟩) (Ha34.at (inb_of S34 ⟨by decide, by decide⟩) rfl) (g := (mkF m 12 #[vr b, vi 4, vr d, vi 4, vi 5, vi 4, vi ch3] [(.int 4), (.ref b)])) rfl rfl (hb hby D12_12) _ ?_
            refine XS.istore X31.here hx rfl (hb hby D12_13) rfl (l' := #[vr b, vi 4, vr d, vi 4, vi 5, vi 4, vi ch4]) rfl ?_
            refine XS.iload X31.here hx rfl (hb hby D12_15) rfl ?_
            refine XS.sipush X31.here hx rfl (hb hby D12_17) ?_
            exact Steps.refl _)
          by_cases hq36 : (255 : Int32) < ch4
          · have c37 : SS p e below S0 (T31.setTop (mkF m 25 #[vr b, vi 4, vr d, vi 4, vi 5, vi 4, vi ch4] [(.int 4)])) := c35.trans (by
              show SS p e below (T31.setTop (mkF m 20 #[vr b, vi 4, vr d, vi 4, vi 5, vi 4, vi ch4] [(.int 255), (.int ch4)])) _
              refine XS.icmpNo X31.here hx rfl (hb hby D12_20) rfl (tlt hq36).2.2.2 ?_
              refine XS.iload X31.here hx rfl (hb hby D12_23) rfl ?_
              exact Steps.refl _)
            obtain ⟨fs, hr, hrun, hended, hW, hsame⟩ := X31.leave (v := some (.int 4)) (fun h => by rw [Bd.returns] at h; cases h)
            refine ⟨_, _, c37.trans (retOut X31 hx Bd.returns rfl (Or.inl ⟨rfl, by simp, _, rfl⟩) (hb hby D12_25) hr), hrun, hended, _, _, rfl, ?_, ⟨_, rfl⟩, hW, hsame.mono (by first | decide | exact Nat.le_of_ble_eq_true rfl) (by first | decide | exact Nat.le_of_ble_eq_true rfl)⟩
            show Q5 Z ([ch0, ch1, ch2, ch3, ch4] : List Int32) d kd h0 n0 _ T31.heap _
            rw [e31]
            exact ⟨_, rfl, N31, K31, Or.inr ⟨4, Nat.le_of_ble_eq_true rfl, rfl, hq36⟩⟩
          · have c38 : SS p e below S0 (T31.setTop (mkF m 31 #[vr b, vi 4, vr d, vi 4, vi 5, vi 4, vi ch4] [(.int (ch4.toInt8.toInt32)), (.int 4), (.ref d)])) := c35.trans (by
              show SS p e below (T31.setTop (mkF m 20 #[vr b, vi 4, vr d, vi 4, vi 5, vi 4, vi ch4] [(.int 255), (.int ch4)])) _
              refine XS.icmpYes X31.here hx rfl (pc0 := 20) (pc' := 26) rfl (hb hby D12_20) rfl (flt hq36).2.2.2 (by decide) (by decide) ?_
              refine XS.aloadN X31.here hx rfl (hb hby D12_26) rfl rfl ?_
              refine XS.iloadN X31.here hx rfl (hb hby D12_27) rfl ?_
              refine XS.iload X31.here hx rfl (hb hby D12_28) rfl ?_
              refine XS.i2b X31.here hx rfl (hb hby D12_30) rfl ?_
              exact Steps.refl _)
            obtain ⟨cl39, Ar39, q39, S39, Nn39, Ha39, G39⟩ := id V31
            obtain ⟨T39, h39, X39, e39, W39, st39⟩ := stB X31 hx hZ e31 Ar39 (j := (4 : Int32)) (inb_of S39 ⟨by decide, by decide⟩) (g := (mkF m 31 #[vr b, vi 4, vr d, vi 4, vi 5, vi 4, vi ch4] [(.int (ch4.toInt8.toInt32)), (.int 4), (.ref d)])) rfl rfl (hb hby D12_31)
            have V39 : Arv Z h39 d kd .byte (5 : Int32) [(.int ((ch0.toInt8.toInt32).toInt8.toInt32)), (.int ((ch1.toInt8.toInt32).toInt8.toInt32)), (.int ((ch2.toInt8.toInt32).toInt8.toInt32)), (.int ((ch3.toInt8.toInt32).toInt8.toInt32)), (.int ((ch4.toInt8.toInt32).toInt8.toInt32))] (.int 0) := Arv.set Ar39 q39 S39 Nn39 Ha39 G39 (fits_nar_byte _) W39 4 rfl (Nat.le_of_ble_eq_true rfl)
            have c40 : SS p e below S0 (T39.setTop (mkF m 32 #[vr b, vi 4, vr d, vi 4, vi 5, vi 4, vi ch4] [])) := c38.trans (st39 _ (Steps.refl _))
            have N39 := Fr.snoc X39 N31 g_d
            have z39 : n0 ≤ h39.size := Nat.le_trans z31 (Keep.of_wr W39).1
            have K39 := K31.wr W39 (Or.inl (by simp))
            have c41 : SS p e below S0 (T39.setTop (mkF m 46 #[vr b, vi 5, vr d, vi 5, vi 5, vi 5, vi ch4] [(.int 5)])) := c40.trans (by
              show SS p e below (T39.setTop (mkF m 32 #[vr b, vi 4, vr d, vi 4, vi 5, vi 4, vi ch4] [])) _
              refine XS.iinc X39.here hx rfl (hb hby D12_32) rfl (l' := #[vr b, vi 5, vr d, vi 4, vi 5, vi 4, vi ch4]) rfl ?_
              refine XS.iinc X39.here hx rfl (hb hby D12_35) rfl (l' := #[vr b, vi 5, vr d, vi 5, vi 5, vi 4, vi ch4]) rfl ?_
              refine XS.iinc X39.here hx rfl (hb hby D12_38) rfl (l' := #[vr b, vi 5, vr d, vi 5, vi 5, vi 5, vi ch4]) rfl ?_
              refine XS.goto X39.here hx rfl (pc0 := 41) (pc' := 3) rfl (hb hby D12_41) (by decide) (by decide) ?_
              refine XS.iload X39.here hx rfl (hb hby D12_3) rfl ?_
              refine XS.iload X39.here hx rfl (hb hby D12_5) rfl ?_
              refine XS.icmpYes X39.here hx rfl (pc0 := 7) (pc' := 44) rfl (hb hby D12_7) rfl (flt (by decide : ¬ ((5 : Int32) < (5 : Int32)))).2.1 (by decide) (by decide) ?_
              refine XS.iload X39.here hx rfl (hb hby D12_44) rfl ?_
              exact Steps.refl _)
            obtain ⟨fs, hr, hrun, hended, hW, hsame⟩ := X39.leave (v := some (.int 5)) (fun h => by rw [Bd.returns] at h; cases h)
            refine ⟨_, _, c41.trans (retOut X39 hx Bd.returns rfl (Or.inl ⟨rfl, by simp, _, rfl⟩) (hb hby D12_46) hr), hrun, hended, _, _, rfl, ?_, ⟨_, rfl⟩, hW, hsame.mono (by first | decide | exact Nat.le_of_ble_eq_true rfl) (by first | decide | exact Nat.le_of_ble_eq_true rfl)⟩
            show Q5 Z ([ch0, ch1, ch2, ch3, ch4] : List Int32) d kd h0 n0 _ T39.heap _
            rw [e39]
            have Vz := V39
            simp only [own_lo2] at Vz
            exact ⟨_, rfl, N39, K39, Or.inl ⟨rfl, (own_alS hq4 (own_alS hq12 (own_alS hq20 (own_alS hq28 (own_alS hq36 own_al0))))), Vz⟩⟩

theorem ef_rmNF_5 (m : MethodId) (x0 : Int32) : entryFrame m #[(.int x0)] 1 = mkF m 0 #[.val (.int x0)] [] := by first | (simp [entryFrame, mkF, argsToLocals, Value.category]; done) | rfl
set_option maxRecDepth 65536 in
set_option maxHeartbeats 40000000 in
theorem rmNF_5 (l : Launch) (Z : State) (a0 : Array Value) (hw : ∀ d ∈ tables_1, d.before a0 Z = true) (ws : List Jvm.Cond)  (h0 : Heap) (n0 : Nat) (Z0 : n0 ≤ h0.size)  :
    MetFree l (⟨"java/lang/StringUTF16", "newBytesFor", "(I)[B"⟩ : MethodName) (head1 (Jvm.Cond.code (⟨"java/lang/StringUTF16", "newBytesFor", "(I)[B"⟩ : MethodName) jdk_52_method_2_code 1 (some (.array .byte)) :: ws) ({ frames := 1, cells := 1, slots := 10, locals := 12 } : Room)) (fun aa U => aa = #[(.int 5)] ∧ Z.Warmed39 U.vm ∧ U.heap = h0) (fun _ _ _ _ _ => True) (fun _ U o U' => ∃ v L, o = .returned v ∧ QArr Z (10 : Int32) [.int (0 : Int32), .int (0 : Int32), .int (0 : Int32), .int (0 : Int32), .int (0 : Int32), .int (0 : Int32), .int (0 : Int32), .int (0 : Int32), .int (0 : Int32), .int (0 : Int32)] h0 n0 v U'.heap L ∧ FrameEnd U o U' L ({ frames := 1, cells := 1, slots := 10, locals := 12 } : Room).cells ({ frames := 1, cells := 1, slots := 10, locals := 12 } : Room).slots) := by
  refine MetFree.of_bodySF (plainFor_of_name pn_java_lang_StringUTF16) hisR ?_
  intro p e s m args below meth c s₁ Bd hml0 hP hK
  obtain ⟨rfl, hZ, hh⟩ := hP
  have hx := Bd.exec
  have hby := Bd.bytes
  have hml : c.maxLocals = 1 := hml0
  have hown : s.vm.findClass "java/lang/StringUTF16" = some m.cls := findClass_of_methodNamed Bd.named
  have hnm := (name_of_methodNamed Bd.named Bd.method).1
  have X0 : Stand p l e ({ frames := 1, cells := 1, slots := 10, locals := 12 } : Room) s m #[(.int 5)] below meth c s₁ [] 0 0 := Stand.of_body Bd
  have e0 : s₁.heap = h0 := by rw [← hh, Bd.state]; rfl
  have N0 := Fr.nil n0
  have K0 := Keep.refl h0 []
  obtain ⟨S0, hS0⟩ : ∃ z, z = s₁.setTop (entryFrame m #[(.int 5)] 1) := ⟨_, rfl⟩
  rw [← hS0]
  have c0 : SS p e below S0 (s₁.setTop (mkF m 0 #[vi 5] [])) := by
    rw [hS0]; exact castTop (ef_rmNF_5 m (5 : Int32)) (Steps.refl _)
  have c1 : SS p e below S0 (s₁.setTop (mkF m 1 #[vi 5] [(.int 5)])) := c0.trans (by
    show SS p e below (s₁.setTop (mkF m 0 #[vi 5] [])) _
    refine XS.iloadN X0.here hx rfl (hb hby D13_0) rfl ?_
    exact Steps.refl _)
  obtain ⟨_, _, ⟨T2, L2, kk2, nn2⟩, -, X2, ⟨Lc2, hQ2, l2, y2, z2⟩, st2⟩ := Jvm.LawKit.callS X0 hx (y := (⟨"java/lang/StringUTF16", "newBytesLength", "(I)I"⟩ : MethodName)) hown (mvT hZ (ww hw 113 rfl)) (mvT hZ (ww hw 114 rfl)) (mvT hZ (ww hw 52 rfl)) (mvT hZ (ww hw 115 rfl)) (by decide) (backOf (W := 0) (rmNL l Z a0 hw [] (5 : Int32) (10 : Int32) h0 n0 Z0 (by decide) (by decide) (by decide)) hZ (ww hw 115 rfl) (ww hw 52 rfl) (by decide) (by decide)) (g := (mkF m 1 #[vi 5] [(.int 5)])) rfl (by rw [hml]; rfl) (argsL := [(.int 5)]) (rest := []) (lenOf pd_oIcI rfl) rfl (by show 2 * 0 + _ ≤ _; exact Nat.le_of_eq rfl) (hb hby D13_1) (fun _ _ => ⟨rfl, e0, (by decide : 0 + 0 ≤ _), (by decide : 0 + 0 ≤ _)⟩)
  dsimp only [Pt.U, Pt.locs, Pt.cells, Pt.slots] at X2 l2 y2 z2 st2 hQ2
  subst l2 y2 z2
  obtain ⟨rfl, Nq2, eq2⟩ := hQ2
  have c3 : SS p e below S0 (T2.setTop (mkF m 4 #[vi 5] [(.int 10)])) := c1.trans (st2 _ (Steps.refl _))
  have N2 := Fr.app N0 Nq2
  obtain ⟨T4, h4, k4, X4, e4, E4, A4, st4⟩ := newP X2 hx hZ (ww hw 22 rfl) eq2 (g := (mkF m 4 #[vi 5] [(.int 10)])) rfl (hb hby D13_4) rfl (by decide) (cap := 10) (by decide) (by decide) (by decide) (by decide)
  obtain ⟨b4, g4⟩ : ∃ z, z = h0.size := ⟨_, rfl⟩
  rw [← g4] at A4 st4
  have c5 : SS p e below S0 (T4.setTop (mkF m 6 #[vi 5] [(.ref b4)])) := c3.trans (st4 _ (Steps.refl _))
  have z4 : n0 ≤ h4.size := Nat.le_trans Z0 E4.1
  have K4 := K0.ext E4
  have V4 : Arv Z h4 b4 k4 .byte (10 : Int32) [(.int 0), (.int 0), (.int 0), (.int 0), (.int 0), (.int 0), (.int 0), (.int 0), (.int 0), (.int 0)] (.int 0) := (Arv.new A4 (by decide)).pad (pad_rep [] (.int 0) 10)
  have lt_b4 : b4 < h4.size := V4.lt
  obtain ⟨fs, hr, hrun, hended, hW, hsame⟩ := X4.leave (v := some (.ref b4)) (fun h => by rw [Bd.returns] at h; cases h)
  refine ⟨_, _, c5.trans (retOut X4 hx Bd.returns rfl (Or.inr (Or.inr (Or.inr (Or.inr ⟨rfl, rfl, rfl⟩)))) (hb hby D13_6) hr), hrun, hended, _, _, rfl, ?_, ⟨_, rfl⟩, hW, hsame.mono (by first | decide | exact Nat.le_of_ble_eq_true rfl) (by first | decide | exact Nat.le_of_ble_eq_true rfl)⟩
  show QArr Z (10 : Int32) [.int (0 : Int32), .int (0 : Int32), .int (0 : Int32), .int (0 : Int32), .int (0 : Int32), .int (0 : Int32), .int (0 : Int32), .int (0 : Int32), .int (0 : Int32), .int (0 : Int32)] h0 n0 _ T4.heap _
  rw [e4]
  exact ⟨_, _, rfl, N2, K4, (Nat.le_trans K0.1 (Nat.le_of_eq g4.symm)), V4⟩

theorem ef_rmTB_5 (m : MethodId) (x0 : Addr) (x1 : Int32) (x2 : Int32) : entryFrame m #[(.ref x0), (.int x1), (.int x2)] 5 = mkF m 0 #[.val (.ref x0), .val (.int x1), .val (.int x2), .unset, .unset] [] := by first | (simp [entryFrame, mkF, argsToLocals, Value.category]; done) | rfl
set_option maxRecDepth 65536 in
set_option maxHeartbeats 40000000 in
theorem rmTB_5 (l : Launch) (Z : State) (a0 : Array Value) (hw : ∀ d ∈ tables_1, d.before a0 Z = true) (ws : List Jvm.Cond) (b : Addr) (kc : ClassId) (ch0 ch1 ch2 ch3 ch4 : Int32)  (h0 : Heap) (n0 : Nat) (Z0 : n0 ≤ h0.size) (Vb : Arv Z h0 b kc .char (5 : Int32) [.int ch0, .int ch1, .int ch2, .int ch3, .int ch4] (.int 0)) (sAD : Sta Z Z.heap "java/lang/StringUTF16" "$assertionsDisabled" "Z" (.int 1)) (sHI : Sta Z Z.heap "java/lang/StringUTF16" "HI_BYTE_SHIFT" "I" (.int 0)) (sLO : Sta Z Z.heap "java/lang/StringUTF16" "LO_BYTE_SHIFT" "I" (.int 8)) (X00 : Old Z n0 h0) :
    MetFree l (⟨"java/lang/StringUTF16", "toBytes", "([CII)[B"⟩ : MethodName) (head1 (Jvm.Cond.code (⟨"java/lang/StringUTF16", "toBytes", "([CII)[B"⟩ : MethodName) jdk_52_method_14_code 5 (some (.array .byte)) :: ws) ({ frames := 2, cells := 1, slots := 10, locals := 24 } : Room)) (fun aa U => aa = #[(.ref b), (.int 0), (.int 5)] ∧ Z.Warmed39 U.vm ∧ U.heap = h0) (fun _ _ _ _ _ => True) (fun _ U o U' => ∃ v L, o = .returned v ∧ QArr Z (10 : Int32) (StrChars.Road.wideBytes ([ch0, ch1, ch2, ch3, ch4] : List Int32)) h0 n0 v U'.heap L ∧ FrameEnd U o U' L ({ frames := 2, cells := 1, slots := 10, locals := 24 } : Room).cells ({ frames := 2, cells := 1, slots := 10, locals := 24 } : Room).slots) := by
  refine MetFree.of_bodySF (plainFor_of_name pn_java_lang_StringUTF16) hisR ?_
  intro p e s m args below meth c s₁ Bd hml0 hP hK
  obtain ⟨rfl, hZ, hh⟩ := hP
  have hx := Bd.exec
  have hby := Bd.bytes
  have hml : c.maxLocals = 5 := hml0
  have hown : s.vm.findClass "java/lang/StringUTF16" = some m.cls := findClass_of_methodNamed Bd.named
  have hnm := (name_of_methodNamed Bd.named Bd.method).1
  have X0 : Stand p l e ({ frames := 2, cells := 1, slots := 10, locals := 24 } : Room) s m #[(.ref b), (.int 0), (.int 5)] below meth c s₁ [] 0 0 := Stand.of_body Bd
  have e0 : s₁.heap = h0 := by rw [← hh, Bd.state]; rfl
  have N0 := Fr.nil n0
  have K0 := Keep.refl h0 []
  obtain ⟨S0, hS0⟩ : ∃ z, z = s₁.setTop (entryFrame m #[(.ref b), (.int 0), (.int 5)] 5) := ⟨_, rfl⟩
  rw [← hS0]
  have c0 : SS p e below S0 (s₁.setTop (mkF m 0 #[vr b, vi 0, vi 5, .unset, .unset] [])) := by
    rw [hS0]; exact castTop (ef_rmTB_5 m b (0 : Int32) (5 : Int32)) (Steps.refl _)
  have c1 : SS p e below S0 (s₁.setTop (mkF m 1 #[vr b, vi 0, vi 5, .unset, .unset] [(.int 5)])) := c0.trans (by
    show SS p e below (s₁.setTop (mkF m 0 #[vr b, vi 0, vi 5, .unset, .unset] [])) _
    refine XS.iloadN X0.here hx rfl (hb hby D14_0) rfl ?_
    exact Steps.refl _)
  obtain ⟨_, _, ⟨T2, L2, kk2, nn2⟩, -, X2, ⟨Lc2, hQ2, l2, y2, z2⟩, st2⟩ := Jvm.LawKit.callS X0 hx (y := (⟨"java/lang/StringUTF16", "newBytesFor", "(I)[B"⟩ : MethodName)) hown (mvT hZ (ww hw 110 rfl)) (mvT hZ (ww hw 111 rfl)) (mvT hZ (ww hw 52 rfl)) (mvT hZ (ww hw 112 rfl)) (by decide) (backOf (W := 0) (rmNF_5 l Z a0 hw [] h0 n0 Z0) hZ (ww hw 112 rfl) (ww hw 52 rfl) (by decide) (by decide)) (g := (mkF m 1 #[vr b, vi 0, vi 5, .unset, .unset] [(.int 5)])) rfl (by rw [hml]; rfl) (argsL := [(.int 5)]) (rest := []) (lenOf pd_oIcaB rfl) rfl (by show 2 * 0 + _ ≤ _; exact Nat.le_of_eq rfl) (hb hby D14_1) (fun _ _ => ⟨rfl, e0, (by decide : 0 + 1 ≤ _), (by decide : 0 + 10 ≤ _)⟩)
  dsimp only [Pt.U, Pt.locs, Pt.cells, Pt.slots] at X2 l2 y2 z2 st2 hQ2
  subst l2 y2 z2
  obtain ⟨t2, kb2, rfl, Nq2, Kq2, gt2, Vt2⟩ := hQ2
  have c3 : SS p e below S0 (T2.setTop (mkF m 4 #[vr b, vi 0, vi 5, .unset, .unset] [(.ref t2)])) := c1.trans (st2 _ (Steps.refl _))
  have N2 := Fr.app N0 Nq2
  have z2 : n0 ≤ T2.heap.size := Nat.le_trans Z0 Kq2.1
  have K2 := K0.trans Kq2 all0
  have lt_t2 := Vt2.lt
  have c4 : SS p e below S0 (T2.setTop (mkF m 19 #[vr b, vi 0, vi 5, vr t2, vi 0] [(.int 0), (.ref b), (.int 0), (.ref t2)])) := c3.trans (by
    show SS p e below (T2.setTop (mkF m 4 #[vr b, vi 0, vi 5, .unset, .unset] [(.ref t2)])) _
    refine XS.astoreN X2.here hx rfl (hb hby D14_4) rfl rfl (l' := #[vr b, vi 0, vi 5, vr t2, .unset]) rfl ?_
    refine XS.iconst X2.here hx rfl (hb hby D14_5) ?_
    refine XS.istore X2.here hx rfl (hb hby D14_6) rfl (l' := #[vr b, vi 0, vi 5, vr t2, vi 0]) rfl ?_
    refine XS.iload X2.here hx rfl (hb hby D14_8) rfl ?_
    refine XS.iloadN X2.here hx rfl (hb hby D14_10) rfl ?_
    refine XS.icmpNo X2.here hx rfl (hb hby D14_11) rfl (tlt (by decide : ((0 : Int32) < (5 : Int32)))).2.1 ?_
    refine XS.aloadN X2.here hx rfl (hb hby D14_14) rfl rfl ?_
    refine XS.iload X2.here hx rfl (hb hby D14_15) rfl ?_
    refine XS.aloadN X2.here hx rfl (hb hby D14_17) rfl rfl ?_
    refine XS.iloadN X2.here hx rfl (hb hby D14_18) rfl ?_
    exact Steps.refl _)
  obtain ⟨cl5, Ar5, -, S5, -, Ha5, -⟩ := id (Vb.keep Kq2 nin0)
  have c6 : SS p e below S0 (T2.setTop (mkF m 20 #[vr b, vi 0, vi 5, vr t2, vi 0] [(.int ch0), (.int 0), (.ref t2)])) := c4.trans (by
    show SS p e below (T2.setTop (mkF m 19 #[vr b, vi 0, vi 5, vr t2, vi 0] [(.int 0), (.ref b), (.int 0), (.ref t2)])) _
    refine X2.caload hx (j := (0 : Int32)) (v := (.int ch0)) Ar5.1 (State.isArrayOf_alike hZ.alike Ar5.2.1) Ar5.2.2 (inb_of S5 ⟨by decide, by decide⟩) (Ha5.at (inb_of S5 ⟨by decide, by decide⟩) rfl) (g := (mkF m 19 #[vr b, vi 0, vi 5, vr t2, vi 0] [(.int 0), (.ref b), (.int 0), (.ref t2)])) rfl rfl (hb hby D14_19) _ ?_
    exact Steps.refl _)
  obtain ⟨_, _, ⟨T7, L7, kk7, nn7⟩, -, X7, ⟨Lc7, hQ7, l7, y7, z7⟩, st7⟩ := Jvm.LawKit.callS X2 hx (y := (⟨"java/lang/StringUTF16", "putChar", "([BII)V"⟩ : MethodName)) hown (mvT hZ (ww hw 117 rfl)) (mvT hZ (ww hw 118 rfl)) (mvT hZ (ww hw 52 rfl)) (mvT hZ (ww hw 119 rfl)) (by decide) (backOf (W := 0) (rmPu l Z a0 hw [] t2 kb2 (10 : Int32) (0 : Int32) (0 : Int32) ch0 [(.int 0), (.int 0), (.int 0), (.int 0), (.int 0), (.int 0), (.int 0), (.int 0), (.int 0), (.int 0)] 0 T2.heap n0 z2 (Nat.le_trans Z0 (Nat.le_trans K0.1 gt2)) Vt2 (by decide) (by decide) (by decide) ⟨by decide, by decide⟩ ⟨by decide, by decide⟩ (Nat.le_of_ble_eq_true rfl) sAD sHI sLO (X00.keep Kq2 all0)) hZ (ww hw 119 rfl) (ww hw 52 rfl) (by decide) (by decide)) (g := (mkF m 20 #[vr b, vi 0, vi 5, vr t2, vi 0] [(.int ch0), (.int 0), (.ref t2)])) rfl (by rw [hml]; rfl) (argsL := [(.ref t2), (.int 0), (.int ch0)]) (rest := []) (lenOf pd_oaBIIcV rfl) rfl (by show 2 * 0 + _ ≤ _; exact Nat.le_of_eq rfl) (hb hby D14_20) (fun _ _ => ⟨rfl, rfl, (by decide : 1 + 0 ≤ _), (by decide : 10 + 0 ≤ _)⟩)
  dsimp only [Pt.U, Pt.locs, Pt.cells, Pt.slots] at X7 l7 y7 z7 st7 hQ7
  subst l7 y7 z7
  obtain ⟨rfl, Nq7, Kq7, Vq7⟩ := hQ7
  have c8 : SS p e below S0 (T7.setTop (mkF m 23 #[vr b, vi 0, vi 5, vr t2, vi 0] [])) := c6.trans (st7 _ (Steps.refl _))
  have N7 := Fr.app N2 Nq7
  have z7 : n0 ≤ T7.heap.size := Nat.le_trans z2 Kq7.1
  have K7 := K2.trans Kq7 (allS (Or.inr (Nat.le_trans K0.1 gt2)) all0)
  have Vq7 : Arv Z T7.heap t2 kb2 .byte (10 : Int32) [(.int (StrChars.lo8 ch0)), (.int (StrChars.hi8 ch0)), (.int 0), (.int 0), (.int 0), (.int 0), (.int 0), (.int 0), (.int 0), (.int 0)] (.int 0) := Vq7
  have c9 : SS p e below S0 (T7.setTop (mkF m 19 #[vr b, vi 1, vi 5, vr t2, vi 1] [(.int 1), (.ref b), (.int 1), (.ref t2)])) := c8.trans (by
    show SS p e below (T7.setTop (mkF m 23 #[vr b, vi 0, vi 5, vr t2, vi 0] [])) _
    refine XS.iinc X7.here hx rfl (hb hby D14_23) rfl (l' := #[vr b, vi 1, vi 5, vr t2, vi 0]) rfl ?_
    refine XS.iinc X7.here hx rfl (hb hby D14_26) rfl (l' := #[vr b, vi 1, vi 5, vr t2, vi 1]) rfl ?_
    refine XS.goto X7.here hx rfl (pc0 := 29) (pc' := 8) rfl (hb hby D14_29) (by decide) (by decide) ?_
    refine XS.iload X7.here hx rfl (hb hby D14_8) rfl ?_
    refine XS.iloadN X7.here hx rfl (hb hby D14_10) rfl ?_
    refine XS.icmpNo X7.here hx rfl (hb hby D14_11) rfl (tlt (by decide : ((1 : Int32) < (5 : Int32)))).2.1 ?_
    refine XS.aloadN X7.here hx rfl (hb hby D14_14) rfl rfl ?_
    refine XS.iload X7.here hx rfl (hb hby D14_15) rfl ?_
    refine XS.aloadN X7.here hx rfl (hb hby D14_17) rfl rfl ?_
    refine XS.iloadN X7.here hx rfl (hb hby D14_18) rfl ?_
    exact Steps.refl _)
  obtain ⟨cl10, Ar10, -, S10, -, Ha10, -⟩ := id ((Vb.keep Kq2 nin0).keep Kq7 (ninS (Nat.ne_of_lt (Nat.lt_of_lt_of_le Vb.lt gt2)) nin0))
  have c11 : SS p e below S0 (T7.setTop (mkF m 20 #[vr b, vi 1, vi 5, vr t2, vi 1] [(.int ch1), (.int 1), (.ref t2)])) := c9.trans (by
    show SS p e below (T7.setTop (mkF m 19 #[vr b, vi 1, vi 5, vr t2, vi 1] [(.int 1), (.ref b), (.int 1), (.ref t2)])) _
    refine X7.caload hx (j := (1 : Int32)) (v := (.int ch1)) Ar10.1 (State.isArrayOf_alike hZ.alike Ar10.2.1) Ar10.2.2 (inb_of S10 ⟨by decide, by decide⟩) (Ha10.at (inb_of S10 ⟨by decide, by decide⟩) rfl) (g := (mkF m 19 #[vr b, vi 1, vi 5, vr t2, vi 1] [(.int 1), (.ref b), (.int 1), (.ref t2)])) rfl rfl (hb hby D14_19) _ ?_
    exact Steps.refl _)
  obtain ⟨_, _, ⟨T12, L12, kk12, nn12⟩, -, X12, ⟨Lc12, hQ12, l12, y12, z12⟩, st12⟩ := Jvm.LawKit.callS X7 hx (y := (⟨"java/lang/StringUTF16", "putChar", "([BII)V"⟩ : MethodName)) hown (mvT hZ (ww hw 117 rfl)) (mvT hZ (ww hw 118 rfl)) (mvT hZ (ww hw 52 rfl)) (mvT hZ (ww hw 119 rfl)) (by decide) (backOf (W := 0) (rmPu l Z a0 hw [] t2 kb2 (10 : Int32) (1 : Int32) (2 : Int32) ch1 [(.int (StrChars.lo8 ch0)), (.int (StrChars.hi8 ch0)), (.int 0), (.int 0), (.int 0), (.int 0), (.int 0), (.int 0), (.int 0), (.int 0)] 2 T7.heap n0 z7 (Nat.le_trans Z0 (Nat.le_trans K0.1 gt2)) Vq7 (by decide) (by decide) (by decide) ⟨by decide, by decide⟩ ⟨by decide, by decide⟩ (Nat.le_of_ble_eq_true rfl) sAD sHI sLO ((X00.keep Kq2 all0).keep Kq7 (allS (Nat.le_trans Z0 (Nat.le_trans K0.1 gt2)) all0))) hZ (ww hw 119 rfl) (ww hw 52 rfl) (by decide) (by decide)) (g := (mkF m 20 #[vr b, vi 1, vi 5, vr t2, vi 1] [(.int ch1), (.int 1), (.ref t2)])) rfl (by rw [hml]; rfl) (argsL := [(.ref t2), (.int 1), (.int ch1)]) (rest := []) (lenOf pd_oaBIIcV rfl) rfl (by show 2 * 0 + _ ≤ _; exact Nat.le_of_eq rfl) (hb hby D14_20) (fun _ _ => ⟨rfl, rfl, (by decide : 1 + 0 ≤ _), (by decide : 10 + 0 ≤ _)⟩)
  dsimp only [Pt.U, Pt.locs, Pt.cells, Pt.slots] at X12 l12 y12 z12 st12 hQ12
  subst l12 y12 z12
  obtain ⟨rfl, Nq12, Kq12, Vq12⟩ := hQ12
  have c13 : SS p e below S0 (T12.setTop (mkF m 23 #[vr b, vi 1, vi 5, vr t2, vi 1] [])) := c11.trans (st12 _ (Steps.refl _))
  have N12 := Fr.app N7 Nq12
  have z12 : n0 ≤ T12.heap.size := Nat.le_trans z7 Kq12.1
  have K12 := K7.trans Kq12 (allS (Or.inr (Nat.le_trans K0.1 gt2)) all0)
  have Vq12 : Arv Z T12.heap t2 kb2 .byte (10 : Int32) [(.int (StrChars.lo8 ch0)), (.int (StrChars.hi8 ch0)), (.int (StrChars.lo8 ch1)), (.int (StrChars.hi8 ch1)), (.int 0), (.int 0), (.int 0), (.int 0), (.int 0), (.int 0)] (.int 0) := Vq12
  have c14 : SS p e below S0 (T12.setTop (mkF m 19 #[vr b, vi 2, vi 5, vr t2, vi 2] [(.int 2), (.ref b), (.int 2), (.ref t2)])) := c13.trans (by
    show SS p e below (T12.setTop (mkF m 23 #[vr b, vi 1, vi 5, vr t2, vi 1] [])) _
    refine XS.iinc X12.here hx rfl (hb hby D14_23) rfl (l' := #[vr b, vi 2, vi 5, vr t2, vi 1]) rfl ?_
    refine XS.iinc X12.here hx rfl (hb hby D14_26) rfl (l' := #[vr b, vi 2, vi 5, vr t2, vi 2]) rfl ?_
    refine XS.goto X12.here hx rfl (pc0 := 29) (pc' := 8) rfl (hb hby D14_29) (by decide) (by decide) ?_
    refine XS.iload X12.here hx rfl (hb hby D14_8) rfl ?_
    refine XS.iloadN X12.here hx rfl (hb hby D14_10) rfl ?_
    refine XS.icmpNo X12.here hx rfl (hb hby D14_11) rfl (tlt (by decide : ((2 : Int32) < (5 : Int32)))).2.1 ?_
    refine XS.aloadN X12.here hx rfl (hb hby D14_14) rfl rfl ?_
    refine XS.iload X12.here hx rfl (hb hby D14_15) rfl ?_
    refine XS.aloadN X12.here hx rfl (hb hby D14_17) rfl rfl ?_
    refine XS.iloadN X12.here hx rfl (hb hby D14_18) rfl ?_
    exact Steps.refl _)
  obtain ⟨cl15, Ar15, -, S15, -, Ha15, -⟩ := id (((Vb.keep Kq2 nin0).keep Kq7 (ninS (Nat.ne_of_lt (Nat.lt_of_lt_of_le Vb.lt gt2)) nin0)).keep Kq12 (ninS (Nat.ne_of_lt (Nat.lt_of_lt_of_le Vb.lt gt2)) nin0))
  have c16 : SS p e below S0 (T12.setTop (mkF m 20 #[vr b, vi 2, vi 5, vr t2, vi 2] [(.int ch2), (.int 2), (.ref t2)])) := c14.trans (by
    show SS p e below (T12.setTop (mkF m 19 #[vr b, vi 2, vi 5, vr t2, vi 2] [(.int 2), (.ref b), (.int 2), (.ref t2)])) _
    refine X12.caload hx (j := (2 : Int32)) (v := (.int ch2)) Ar15.1 (State.isArrayOf_alike hZ.alike Ar15.2.1) Ar15.2.2 (inb_of S15 ⟨by decide, by decide⟩) (Ha15.at (inb_of S15 ⟨by decide, by decide⟩) rfl) (g := (mkF m 19 #[vr b, vi 2, vi 5, vr t2, vi 2] [(.int 2), (.ref b), (.int 2), (.ref t2)])) rfl rfl (hb hby D14_19) _ ?_
    exact Steps.refl _)
  obtain ⟨_, _, ⟨T17, L17, kk17, nn17⟩, -, X17, ⟨Lc17, hQ17, l17, y17, z17⟩, st17⟩ := Jvm.LawKit.callS X12 hx (y := (⟨"java/lang/StringUTF16", "putChar", "([BII)V"⟩ : MethodName)) hown (mvT hZ (ww hw 117 rfl)) (mvT hZ (ww hw 118 rfl)) (mvT hZ (ww hw 52 rfl)) (mvT hZ (ww hw 119 rfl)) (by decide) (backOf (W := 0) (rmPu l Z a0 hw [] t2 kb2 (10 : Int32) (2 : Int32) (4 : Int32) ch2 [(.int (StrChars.lo8 ch0)), (.int (StrChars.hi8 ch0)), (.int (StrChars.lo8 ch1)), (.int (StrChars.hi8 ch1)), (.int 0), (.int 0), (.int 0), (.int 0), (.int 0), (.int 0)] 4 T12.heap n0 z12 (Nat.le_trans Z0 (Nat.le_trans K0.1 gt2)) Vq12 (by decide) (by decide) (by decide) ⟨by decide, by decide⟩ ⟨by decide, by decide⟩ (Nat.le_of_ble_eq_true rfl) sAD sHI sLO (((X00.keep Kq2 all0).keep Kq7 (allS (Nat.le_trans Z0 (Nat.le_trans K0.1 gt2)) all0)).keep Kq12 (allS (Nat.le_trans Z0 (Nat.le_trans K0.1 gt2)) all0))) hZ (ww hw 119 rfl) (ww hw 52 rfl) (by decide) (by decide)) (g := (mkF m 20 #[vr b, vi 2, vi 5, vr t2, vi 2] [(.int ch2), (.int 2), (.ref t2)])) rfl (by rw [hml]; rfl) (argsL := [(.ref t2), (.int 2), (.int ch2)]) (rest := []) (lenOf pd_oaBIIcV rfl) rfl (by show 2 * 0 + _ ≤ _; exact Nat.le_of_eq rfl) (hb hby D14_20) (fun _ _ => ⟨rfl, rfl, (by decide : 1 + 0 ≤ _), (by decide : 10 + 0 ≤ _)⟩)
  dsimp only [Pt.U, Pt.locs, Pt.cells, Pt.slots] at X17 l17 y17 z17 st17 hQ17
  subst l17 y17 z17
  obtain ⟨rfl, Nq17, Kq17, Vq17⟩ := hQ17
  have c18 : SS p e below S0 (T17.setTop (mkF m 23 #[vr b, vi 2, vi 5, vr t2, vi 2] [])) := c16.trans (st17 _ (Steps.refl _))
  have N17 := Fr.app N12 Nq17
  have z17 : n0 ≤ T17.heap.size := Nat.le_trans z12 Kq17.1
  have K17 := K12.trans Kq17 (allS (Or.inr (Nat.le_trans K0.1 gt2)) all0)
  have Vq17 : Arv Z T17.heap t2 kb2 .byte (10 : Int32) [(.int (StrChars.lo8 ch0)), (.int (StrChars.hi8 ch0)), (.int (StrChars.lo8 ch1)), (.int (StrChars.hi8 ch1)), (.int (StrChars.lo8 ch2)), (.int (StrChars.hi8 ch2)), (.int 0), (.int 0), (.int 0), (.int 0)] (.int 0) := Vq17
  have c19 : SS p e below S0 (T17.setTop (mkF m 19 #[vr b, vi 3, vi 5, vr t2, vi 3] [(.int 3), (.ref b), (.int 3), (.ref t2)])) := c18.trans (by
    show SS p e below (T17.setTop (mkF m 23 #[vr b, vi 2, vi 5, vr t2, vi 2] [])) _
    refine XS.iinc X17.here hx rfl (hb hby D14_23) rfl (l' := #[vr b, vi 3, vi 5, vr t2, vi 2]) rfl ?_
    refine XS.iinc X17.here hx rfl (hb hby D14_26) rfl (l' := #[vr b, vi 3, vi 5, vr t2, vi 3]) rfl ?_
    refine XS.goto X17.here hx rfl (pc0 := 29) (pc' := 8) rfl (hb hby D14_29) (by decide) (by decide) ?_
    refine XS.iload X17.here hx rfl (hb hby D14_8) rfl ?_
    refine XS.iloadN X17.here hx rfl (hb hby D14_10) rfl ?_
    refine XS.icmpNo X17.here hx rfl (hb hby D14_11) rfl (tlt (by decide : ((3 : Int32) < (5 : Int32)))).2.1 ?_
    refine XS.aloadN X17.here hx rfl (hb hby D14_14) rfl rfl ?_
    refine XS.iload X17.here hx rfl (hb hby D14_15) rfl ?_
    refine XS.aloadN X17.here hx rfl (hb hby D14_17) rfl rfl ?_
    refine XS.iloadN X17.here hx rfl (hb hby D14_18) rfl ?_
    exact Steps.refl _)
  obtain ⟨cl20, Ar20, -, S20, -, Ha20, -⟩ := id ((((Vb.keep Kq2 nin0).keep Kq7 (ninS (Nat.ne_of_lt (Nat.lt_of_lt_of_le Vb.lt gt2)) nin0)).keep Kq12 (ninS (Nat.ne_of_lt (Nat.lt_of_lt_of_le Vb.lt gt2)) nin0)).keep Kq17 (ninS (Nat.ne_of_lt (Nat.lt_of_lt_of_le Vb.lt gt2)) nin0))
  have c21 : SS p e below S0 (T17.setTop (mkF m 20 #[vr b, vi 3, vi 5, vr t2, vi 3] [(.int ch3), (.int 3), (.ref t2)])) := c19.trans (by
    show SS p e below (T17.setTop (mkF m 19 #[vr b, vi 3, vi 5, vr t2, vi 3] [(.int 3), (.ref b), (.int 3), (.ref t2)])) _
    refine X17.caload hx (j := (3 : Int32)) (v := (.int ch3)) Ar20.1 (State.isArrayOf_alike hZ.alike Ar20.2.1) Ar20.2.2 (inb_of S20 ⟨by decide, by decide⟩) (Ha20.at (inb_of S20 ⟨by decide, by decide⟩) rfl) (g := (mkF m 19 #[vr b, vi 3, vi 5, vr t2, vi 3] [(.int 3), (.ref b), (.int 3), (.ref t2)])) rfl rfl (hb hby D14_19) _ ?_
    exact Steps.refl _)
  obtain ⟨_, _, ⟨T22, L22, kk22, nn22⟩, -, X22, ⟨Lc22, hQ22, l22, y22, z22⟩, st22⟩ := Jvm.LawKit.callS X17 hx (y := (⟨"java/lang/StringUTF16", "putChar", "([BII)V"⟩ : MethodName)) hown (mvT hZ (ww hw 117 rfl)) (mvT hZ (ww hw 118 rfl)) (mvT hZ (ww hw 52 rfl)) (mvT hZ (ww hw 119 rfl)) (by decide) (backOf (W := 0) (rmPu l Z a0 hw [] t2 kb2 (10 : Int32) (3 : Int32) (6 : Int32) ch3 [(.int (StrChars.lo8 ch0)), (.int (StrChars.hi8 ch0)), (.int (StrChars.lo8 ch1)), (.int (StrChars.hi8 ch1)), (.int (StrChars.lo8 ch2)), (.int (StrChars.hi8 ch2)), (.int 0), (.int 0), (.int 0), (.int 0)] 6 T17.heap n0 z17 (Nat.le_trans Z0 (Nat.le_trans K0.1 gt2)) Vq17 (by decide) (by decide) (by decide) ⟨by decide, by decide⟩ ⟨by decide, by decide⟩ (Nat.le_of_ble_eq_true rfl) sAD sHI sLO ((((X00.keep Kq2 all0).keep Kq7 (allS (Nat.le_trans Z0 (Nat.le_trans K0.1 gt2)) all0)).keep Kq12 (allS (Nat.le_trans Z0 (Nat.le_trans K0.1 gt2)) all0)).keep Kq17 (allS (Nat.le_trans Z0 (Nat.le_trans K0.1 gt2)) all0))) hZ (ww hw 119 rfl) (ww hw 52 rfl) (by decide) (by decide)) (g := (mkF m 20 #[vr b, vi 3, vi 5, vr t2, vi 3] [(.int ch3), (.int 3), (.ref t2)])) rfl (by rw [hml]; rfl) (argsL := [(.ref t2), (.int 3), (.int ch3)]) (rest := []) (lenOf pd_oaBIIcV rfl) rfl (by show 2 * 0 + _ ≤ _; exact Nat.le_of_eq rfl) (hb hby D14_20) (fun _ _ => ⟨rfl, rfl, (by decide : 1 + 0 ≤ _), (by decide : 10 + 0 ≤ _)⟩)
  dsimp only [Pt.U, Pt.locs, Pt.cells, Pt.slots] at X22 l22 y22 z22 st22 hQ22
  subst l22 y22 z22
  obtain ⟨rfl, Nq22, Kq22, Vq22⟩ := hQ22
  have c23 : SS p e below S0 (T22.setTop (mkF m 23 #[vr b, vi 3, vi 5, vr t2, vi 3] [])) := c21.trans (st22 _ (Steps.refl _))
  have N22 := Fr.app N17 Nq22
  have z22 : n0 ≤ T22.heap.size := Nat.le_trans z17 Kq22.1
  have K22 := K17.trans Kq22 (allS (Or.inr (Nat.le_trans K0.1 gt2)) all0)
  have Vq22 : Arv Z T22.heap t2 kb2 .byte (10 : Int32) [(.int (StrChars.lo8 ch0)), (.int (StrChars.hi8 ch0)), (.int (StrChars.lo8 ch1)), (.int (StrChars.hi8 ch1)), (.int (StrChars.lo8 ch2)), (.int (StrChars.hi8 ch2)), (.int (StrChars.lo8 ch3)), (.int (StrChars.hi8 ch3)), (.int 0), (.int 0)] (.int 0) := Vq22
  have c24 : SS p e below S0 (T22.setTop (mkF m 19 #[vr b, vi 4, vi 5, vr t2, vi 4] [(.int 4), (.ref b), (.int 4), (.ref t2)])) := c23.trans (by
    show SS p e below (T22.setTop (mkF m 23 #[vr b, vi 3, vi 5, vr t2, vi 3] [])) _
    refine XS.iinc X22.here hx rfl (hb hby D14_23) rfl (l' := #[vr b, vi 4, vi 5, vr t2, vi 3]) rfl ?_
    refine XS.iinc X22.here hx rfl (hb hby D14_26) rfl (l' := #[vr b, vi 4, vi 5, vr t2, vi 4]) rfl ?_
    refine XS.goto X22.here hx rfl (pc0 := 29) (pc' := 8) rfl (hb hby D14_29) (by decide) (by decide) ?_
    refine XS.iload X22.here hx rfl (hb hby D14_8) rfl ?_
    refine XS.iloadN X22.here hx rfl (hb hby D14_10) rfl ?_
    refine XS.icmpNo X22.here hx rfl (hb hby D14_11) rfl (tlt (by decide : ((4 : Int32) < (5 : Int32)))).2.1 ?_
    refine XS.aloadN X22.here hx rfl (hb hby D14_14) rfl rfl ?_
    refine XS.iload X22.here hx rfl (hb hby D14_15) rfl ?_
    refine XS.aloadN X22.here hx rfl (hb hby D14_17) rfl rfl ?_
    refine XS.iloadN X22.here hx rfl (hb hby D14_18) rfl ?_
    exact Steps.refl _)
  obtain ⟨cl25, Ar25, -, S25, -, Ha25, -⟩ := id (((((Vb.keep Kq2 nin0).keep Kq7 (ninS (Nat.ne_of_lt (Nat.lt_of_lt_of_le Vb.lt gt2)) nin0)).keep Kq12 (ninS (Nat.ne_of_lt (Nat.lt_of_lt_of_le Vb.lt gt2)) nin0)).keep Kq17 (ninS (Nat.ne_of_lt (Nat.lt_of_lt_of_le Vb.lt gt2)) nin0)).keep Kq22 (ninS (Nat.ne_of_lt (Nat.lt_of_lt_of_le Vb.lt gt2)) nin0))
  have c26 : SS p e below S0 (T22.setTop (mkF m 20 #[vr b, vi 4, vi 5, vr t2, vi 4] [(.int ch4), (.int 4), (.ref t2)])) := c24.trans (by
    show SS p e below (T22.setTop (mkF m 19 #[vr b, vi 4, vi 5, vr t2, vi 4] [(.int 4), (.ref b), (.int 4), (.ref t2)])) _
    refine X22.caload hx (j := (4 : Int32)) (v := (.int ch4)) Ar25.1 (State.isArrayOf_alike hZ.alike Ar25.2.1) Ar25.2.2 (inb_of S25 ⟨by decide, by decide⟩) (Ha25.at (inb_of S25 ⟨by decide, by decide⟩) rfl) (g := (mkF m 19 #[vr b, vi 4, vi 5, vr t2, vi 4] [(.int 4), (.ref b), (.int 4), (.ref t2)])) rfl rfl (hb hby D14_19) _ ?_
    exact Steps.refl _)
  obtain ⟨_, _, ⟨T27, L27, kk27, nn27⟩, -, X27, ⟨Lc27, hQ27, l27, y27, z27⟩, st27⟩ := Jvm.LawKit.callS X22 hx (y := (⟨"java/lang/StringUTF16", "putChar", "([BII)V"⟩ : MethodName)) hown (mvT hZ (ww hw 117 rfl)) (mvT hZ (ww hw 118 rfl)) (mvT hZ (ww hw 52 rfl)) (mvT hZ (ww hw 119 rfl)) (by decide) (backOf (W := 0) (rmPu l Z a0 hw [] t2 kb2 (10 : Int32) (4 : Int32) (8 : Int32) ch4 [(.int (StrChars.lo8 ch0)), (.int (StrChars.hi8 ch0)), (.int (StrChars.lo8 ch1)), (.int (StrChars.hi8 ch1)), (.int (StrChars.lo8 ch2)), (.int (StrChars.hi8 ch2)), (.int (StrChars.lo8 ch3)), (.int (StrChars.hi8 ch3)), (.int 0), (.int 0)] 8 T22.heap n0 z22 (Nat.le_trans Z0 (Nat.le_trans K0.1 gt2)) Vq22 (by decide) (by decide) (by decide) ⟨by decide, by decide⟩ ⟨by decide, by decide⟩ (Nat.le_of_ble_eq_true rfl) sAD sHI sLO (((((X00.keep Kq2 all0).keep Kq7 (allS (Nat.le_trans Z0 (Nat.le_trans K0.1 gt2)) all0)).keep Kq12 (allS (Nat.le_trans Z0 (Nat.le_trans K0.1 gt2)) all0)).keep Kq17 (allS (Nat.le_trans Z0 (Nat.le_trans K0.1 gt2)) all0)).keep Kq22 (allS (Nat.le_trans Z0 (Nat.le_trans K0.1 gt2)) all0))) hZ (ww hw 119 rfl) (ww hw 52 rfl) (by decide) (by decide)) (g := (mkF m 20 #[vr b, vi 4, vi 5, vr t2, vi 4] [(.int ch4), (.int 4), (.ref t2)])) rfl (by rw [hml]; rfl) (argsL := [(.ref t2), (.int 4), (.int ch4)]) (rest := []) (lenOf pd_oaBIIcV rfl) rfl (by show 2 * 0 + _ ≤ _; exact Nat.le_of_eq rfl) (hb hby D14_20) (fun _ _ => ⟨rfl, rfl, (by decide : 1 + 0 ≤ _), (by decide : 10 + 0 ≤ _)⟩)
  dsimp only [Pt.U, Pt.locs, Pt.cells, Pt.slots] at X27 l27 y27 z27 st27 hQ27
  subst l27 y27 z27
  obtain ⟨rfl, Nq27, Kq27, Vq27⟩ := hQ27
  have c28 : SS p e below S0 (T27.setTop (mkF m 23 #[vr b, vi 4, vi 5, vr t2, vi 4] [])) := c26.trans (st27 _ (Steps.refl _))
  have N27 := Fr.app N22 Nq27
  have z27 : n0 ≤ T27.heap.size := Nat.le_trans z22 Kq27.1
  have K27 := K22.trans Kq27 (allS (Or.inr (Nat.le_trans K0.1 gt2)) all0)
  have Vq27 : Arv Z T27.heap t2 kb2 .byte (10 : Int32) [(.int (StrChars.lo8 ch0)), (.int (StrChars.hi8 ch0)), (.int (StrChars.lo8 ch1)), (.int (StrChars.hi8 ch1)), (.int (StrChars.lo8 ch2)), (.int (StrChars.hi8 ch2)), (.int (StrChars.lo8 ch3)), (.int (StrChars.hi8 ch3)), (.int (StrChars.lo8 ch4)), (.int (StrChars.hi8 ch4))] (.int 0) := Vq27
  have c29 : SS p e below S0 (T27.setTop (mkF m 33 #[vr b, vi 5, vi 5, vr t2, vi 5] [(.ref t2)])) := c28.trans (by
    show SS p e below (T27.setTop (mkF m 23 #[vr b, vi 4, vi 5, vr t2, vi 4] [])) _
    refine XS.iinc X27.here hx rfl (hb hby D14_23) rfl (l' := #[vr b, vi 5, vi 5, vr t2, vi 4]) rfl ?_
    refine XS.iinc X27.here hx rfl (hb hby D14_26) rfl (l' := #[vr b, vi 5, vi 5, vr t2, vi 5]) rfl ?_
    refine XS.goto X27.here hx rfl (pc0 := 29) (pc' := 8) rfl (hb hby D14_29) (by decide) (by decide) ?_
    refine XS.iload X27.here hx rfl (hb hby D14_8) rfl ?_
    refine XS.iloadN X27.here hx rfl (hb hby D14_10) rfl ?_
    refine XS.icmpYes X27.here hx rfl (pc0 := 11) (pc' := 32) rfl (hb hby D14_11) rfl (flt (by decide : ¬ ((5 : Int32) < (5 : Int32)))).2.1 (by decide) (by decide) ?_
    refine XS.aloadN X27.here hx rfl (hb hby D14_32) rfl rfl ?_
    exact Steps.refl _)
  obtain ⟨fs, hr, hrun, hended, hW, hsame⟩ := X27.leave (v := some (.ref t2)) (fun h => by rw [Bd.returns] at h; cases h)
  refine ⟨_, _, c29.trans (retOut X27 hx Bd.returns rfl (Or.inr (Or.inr (Or.inr (Or.inr ⟨rfl, rfl, rfl⟩)))) (hb hby D14_33) hr), hrun, hended, _, _, rfl, ?_, ⟨_, rfl⟩, hW, hsame.mono (by first | decide | exact Nat.le_of_ble_eq_true rfl) (by first | decide | exact Nat.le_of_ble_eq_true rfl)⟩
  show QArr Z (10 : Int32) (StrChars.Road.wideBytes ([ch0, ch1, ch2, ch3, ch4] : List Int32)) h0 n0 _ T27.heap _
  exact ⟨_, _, rfl, N27, K27, (Nat.le_trans K0.1 gt2), Vq27⟩

theorem ef_rmC3_5 (m : MethodId) (x0 : Addr) (x1 : Int32) (x2 : Int32) : entryFrame m #[(.ref x0), (.int x1), (.int x2)] 6 = mkF m 0 #[.val (.ref x0), .val (.int x1), .val (.int x2), .unset, .unset, .unset] [] := by first | (simp [entryFrame, mkF, argsToLocals, Value.category]; done) | rfl
set_option maxRecDepth 65536 in
set_option maxHeartbeats 40000000 in
theorem rmC3_5 (l : Launch) (Z : State) (a0 : Array Value) (hw : ∀ d ∈ tables_1, d.before a0 Z = true) (ws : List Jvm.Cond) (b : Addr) (kc : ClassId) (ch0 ch1 ch2 ch3 ch4 : Int32)  (h0 : Heap) (n0 : Nat) (Z0 : n0 ≤ h0.size) (Vb : Arv Z h0 b kc .char (5 : Int32) [.int ch0, .int ch1, .int ch2, .int ch3, .int ch4] (.int 0)) (hc0 : C16 ch0) (hc1 : C16 ch1) (hc2 : C16 ch2) (hc3 : C16 ch3) (hc4 : C16 ch4) (sAD : Sta Z Z.heap "java/lang/StringUTF16" "$assertionsDisabled" "Z" (.int 1)) (sHI : Sta Z Z.heap "java/lang/StringUTF16" "HI_BYTE_SHIFT" "I" (.int 0)) (sLO : Sta Z Z.heap "java/lang/StringUTF16" "LO_BYTE_SHIFT" "I" (.int 8)) (X00 : Old Z n0 h0) :
    MetFree l (⟨"java/lang/StringUTF16", "compress", "([CII)[B"⟩ : MethodName) (head1 (Jvm.Cond.code (⟨"java/lang/StringUTF16", "compress", "([CII)[B"⟩ : MethodName) jdk_52_method_16_code 6 (some (.array .byte)) :: ws) ({ frames := 3, cells := 2, slots := 15, locals := 40 } : Room)) (fun aa U => aa = #[(.ref b), (.int 0), (.int 5)] ∧ Z.Warmed39 U.vm ∧ U.heap = h0) (fun _ _ _ _ _ => True) (fun _ U o U' => ∃ v L, o = .returned v ∧ QC3 Z ([ch0, ch1, ch2, ch3, ch4] : List Int32) h0 n0 v U'.heap L ∧ FrameEnd U o U' L ({ frames := 3, cells := 2, slots := 15, locals := 40 } : Room).cells ({ frames := 3, cells := 2, slots := 15, locals := 40 } : Room).slots) := by
  refine MetFree.of_bodySF (plainFor_of_name pn_java_lang_StringUTF16) hisR ?_
  intro p e s m args below meth c s₁ Bd hml0 hP hK
  obtain ⟨rfl, hZ, hh⟩ := hP
  have hx := Bd.exec
  have hby := Bd.bytes
  have hml : c.maxLocals = 6 := hml0
  have hown : s.vm.findClass "java/lang/StringUTF16" = some m.cls := findClass_of_methodNamed Bd.named
  have hnm := (name_of_methodNamed Bd.named Bd.method).1
  have X0 : Stand p l e ({ frames := 3, cells := 2, slots := 15, locals := 40 } : Room) s m #[(.ref b), (.int 0), (.int 5)] below meth c s₁ [] 0 0 := Stand.of_body Bd
  have e0 : s₁.heap = h0 := by rw [← hh, Bd.state]; rfl
  have N0 := Fr.nil n0
  have K0 := Keep.refl h0 []
  obtain ⟨S0, hS0⟩ : ∃ z, z = s₁.setTop (entryFrame m #[(.ref b), (.int 0), (.int 5)] 6) := ⟨_, rfl⟩
  rw [← hS0]
  have c0 : SS p e below S0 (s₁.setTop (mkF m 0 #[vr b, vi 0, vi 5, .unset, .unset, .unset] [])) := by
    rw [hS0]; exact castTop (ef_rmC3_5 m b (0 : Int32) (5 : Int32)) (Steps.refl _)
  have c1 : SS p e below S0 (s₁.setTop (mkF m 1 #[vr b, vi 0, vi 5, .unset, .unset, .unset] [(.int 5)])) := c0.trans (by
    show SS p e below (s₁.setTop (mkF m 0 #[vr b, vi 0, vi 5, .unset, .unset, .unset] [])) _
    refine XS.iloadN X0.here hx rfl (hb hby D15_0) rfl ?_
    exact Steps.refl _)
  obtain ⟨T2, h2, k2, X2, e2, E2, A2, st2⟩ := newP X0 hx hZ (ww hw 22 rfl) e0 (g := (mkF m 1 #[vr b, vi 0, vi 5, .unset, .unset, .unset] [(.int 5)])) rfl (hb hby D15_1) rfl (by decide) (cap := 5) (by decide) (by decide) (by decide) (by decide)
  obtain ⟨b2, g2⟩ : ∃ z, z = h0.size := ⟨_, rfl⟩
  rw [← g2] at A2 st2
  have c3 : SS p e below S0 (T2.setTop (mkF m 3 #[vr b, vi 0, vi 5, .unset, .unset, .unset] [(.ref b2)])) := c1.trans (st2 _ (Steps.refl _))
  have z2 : n0 ≤ h2.size := Nat.le_trans Z0 E2.1
  have K2 := K0.ext E2
  have V2 : Arv Z h2 b2 k2 .byte (5 : Int32) [(.int 0), (.int 0), (.int 0), (.int 0), (.int 0)] (.int 0) := (Arv.new A2 (by decide)).pad (pad_rep [] (.int 0) 5)
  have lt_b2 : b2 < h2.size := V2.lt
  have c4 : SS p e below S0 (T2.setTop (mkF m 9 #[vr b, vi 0, vi 5, vr b2, .unset, .unset] [(.int 5), (.int 0), (.ref b2), (.int 0), (.ref b)])) := c3.trans (by
    show SS p e below (T2.setTop (mkF m 3 #[vr b, vi 0, vi 5, .unset, .unset, .unset] [(.ref b2)])) _
    refine XS.astoreN X2.here hx rfl (hb hby D15_3) rfl rfl (l' := #[vr b, vi 0, vi 5, vr b2, .unset, .unset]) rfl ?_
    refine XS.aloadN X2.here hx rfl (hb hby D15_4) rfl rfl ?_
    refine XS.iloadN X2.here hx rfl (hb hby D15_5) rfl ?_
    refine XS.aloadN X2.here hx rfl (hb hby D15_6) rfl rfl ?_
    refine XS.iconst X2.here hx rfl (hb hby D15_7) ?_
    refine XS.iloadN X2.here hx rfl (hb hby D15_8) rfl ?_
    exact Steps.refl _)
  obtain ⟨_, _, ⟨T5, L5, kk5, nn5⟩, -, X5, ⟨Lc5, hQ5, l5, y5, z5⟩, st5⟩ := Jvm.LawKit.callS X2 hx (y := (⟨"java/lang/StringUTF16", "compress", "([CI[BII)I"⟩ : MethodName)) hown (mvT hZ (ww hw 54 rfl)) (mvT hZ (ww hw 55 rfl)) (mvT hZ (ww hw 52 rfl)) (mvT hZ (ww hw 56 rfl)) (by decide) (backOf (W := 0) (rmC5_5 l Z a0 hw [] b2 k2 b kc ch0 ch1 ch2 ch3 ch4  h2 n0 z2 (Nat.le_trans Z0 (Nat.le_trans K0.1 (Nat.le_of_eq g2.symm))) (Nat.ne_of_lt (Nat.lt_of_lt_of_le Vb.lt (Nat.le_of_eq g2.symm))) V2 (Vb.ext E2) hc0 hc1 hc2 hc3 hc4 ) hZ (ww hw 56 rfl) (ww hw 52 rfl) (by decide) (by decide)) (g := (mkF m 9 #[vr b, vi 0, vi 5, vr b2, .unset, .unset] [(.int 5), (.int 0), (.ref b2), (.int 0), (.ref b)])) rfl (by rw [hml]; rfl) (argsL := [(.ref b), (.int 0), (.ref b2), (.int 0), (.int 5)]) (rest := []) (lenOf pd_oaCIaBIIcI rfl) rfl (by show 2 * 0 + _ ≤ _; exact Nat.le_of_eq rfl) (hb hby D15_9) (fun _ _ => ⟨rfl, e2, (by decide : 1 + 0 ≤ _), (by decide : 5 + 0 ≤ _)⟩)
  dsimp only [Pt.U, Pt.locs, Pt.cells, Pt.slots] at X5 l5 y5 z5 st5 hQ5
  subst l5 y5 z5
  obtain ⟨r5, rfl, Nq5, Kq5, hr5⟩ := hQ5
  have c6 : SS p e below S0 (T5.setTop (mkF m 12 #[vr b, vi 0, vi 5, vr b2, .unset, .unset] [(.int r5)])) := c4.trans (st5 _ (Steps.refl _))
  have N5 := Fr.app N0 Nq5
  have z5 : n0 ≤ T5.heap.size := Nat.le_trans z2 Kq5.1
  have K5 := K2.trans Kq5 (allS (Or.inr (Nat.le_trans K0.1 (Nat.le_of_eq g2.symm))) all0)
  rcases hr5 with ⟨e1, e2, Vd5⟩ | ⟨i, hi, e1, hw1⟩
  · rw [(e1.trans rfl : r5 = (5 : Int32))] at c6
    have c7 : SS p e below S0 (T5.setTop (mkF m 58 #[vr b, vi 0, vi 5, vr b2, vi 5, .unset] [(.ref b2)])) := c6.trans (by
      show SS p e below (T5.setTop (mkF m 12 #[vr b, vi 0, vi 5, vr b2, .unset, .unset] [(.int 5)])) _
      refine XS.istore X5.here hx rfl (hb hby D15_12) rfl (l' := #[vr b, vi 0, vi 5, vr b2, vi 5, .unset]) rfl ?_
      refine XS.iload X5.here hx rfl (hb hby D15_14) rfl ?_
      refine XS.iloadN X5.here hx rfl (hb hby D15_16) rfl ?_
      refine XS.icmpYes X5.here hx rfl (pc0 := 17) (pc' := 57) rfl (hb hby D15_17) rfl (teq (by decide : ((5 : Int32) = (5 : Int32)))).1 (by decide) (by decide) ?_
      refine XS.aloadN X5.here hx rfl (hb hby D15_57) rfl rfl ?_
      exact Steps.refl _)
    obtain ⟨fs, hr, hrun, hended, hW, hsame⟩ := X5.leave (v := some (.ref b2)) (fun h => by rw [Bd.returns] at h; cases h)
    refine ⟨_, _, c7.trans (retOut X5 hx Bd.returns rfl (Or.inr (Or.inr (Or.inr (Or.inr ⟨rfl, rfl, rfl⟩)))) (hb hby D15_58) hr), hrun, hended, _, _, rfl, ?_, ⟨_, rfl⟩, hW, hsame.mono (by first | decide | exact Nat.le_of_ble_eq_true rfl) (by first | decide | exact Nat.le_of_ble_eq_true rfl)⟩
    show QC3 Z ([ch0, ch1, ch2, ch3, ch4] : List Int32) h0 n0 _ T5.heap _
    exact ⟨_, _, _, _, _, rfl, N5, K5, (Nat.le_trans K0.1 (Nat.le_of_eq g2.symm)), Vd5, Or.inl ⟨rfl, rfl, rfl, e2⟩⟩
  · have hi5 : i < 5 := hi
    rw [e1] at c6
    have c8 : SS p e below S0 (T5.setTop (mkF m 23 #[vr b, vi 0, vi 5, vr b2, vi (Int32.ofNat i), .unset] [(.int 5), (.int 0), (.ref b)])) := c6.trans (by
      show SS p e below (T5.setTop (mkF m 12 #[vr b, vi 0, vi 5, vr b2, .unset, .unset] [(.int (Int32.ofNat i))])) _
      refine XS.istore X5.here hx rfl (hb hby D15_12) rfl (l' := #[vr b, vi 0, vi 5, vr b2, vi (Int32.ofNat i), .unset]) rfl ?_
      refine XS.iload X5.here hx rfl (hb hby D15_14) rfl ?_
      refine XS.iloadN X5.here hx rfl (hb hby D15_16) rfl ?_
      refine XS.icmpNo X5.here hx rfl (hb hby D15_17) rfl (feq (fun q => absurd ((own_ofN_inj (a := i) (b := 5) (by omega) (by omega)).mp q) (by omega) : ¬ (Int32.ofNat i) = (5 : Int32))).1 ?_
      refine XS.aloadN X5.here hx rfl (hb hby D15_20) rfl rfl ?_
      refine XS.iloadN X5.here hx rfl (hb hby D15_21) rfl ?_
      refine XS.iloadN X5.here hx rfl (hb hby D15_22) rfl ?_
      exact Steps.refl _)
    obtain ⟨_, _, ⟨T9, L9, kk9, nn9⟩, -, X9, ⟨Lc9, hQ9, l9, y9, z9⟩, st9⟩ := Jvm.LawKit.callS X5 hx (y := (⟨"java/lang/StringUTF16", "toBytes", "([CII)[B"⟩ : MethodName)) hown (mvT hZ (ww hw 107 rfl)) (mvT hZ (ww hw 108 rfl)) (mvT hZ (ww hw 52 rfl)) (mvT hZ (ww hw 109 rfl)) (by decide) (backOf (W := 0) (rmTB_5 l Z a0 hw [] b kc ch0 ch1 ch2 ch3 ch4  T5.heap n0 z5 ((Vb.ext E2).keep Kq5 (ninS (Nat.ne_of_lt (Nat.lt_of_lt_of_le Vb.lt (Nat.le_of_eq g2.symm))) nin0)) sAD sHI sLO ((X00.ext E2).keep Kq5 (allS (Nat.le_trans Z0 (Nat.le_trans K0.1 (Nat.le_of_eq g2.symm))) all0))) hZ (ww hw 109 rfl) (ww hw 52 rfl) (by decide) (by decide)) (g := (mkF m 23 #[vr b, vi 0, vi 5, vr b2, vi (Int32.ofNat i), .unset] [(.int 5), (.int 0), (.ref b)])) rfl (by rw [hml]; rfl) (argsL := [(.ref b), (.int 0), (.int 5)]) (rest := []) (lenOf pd_oaCIIcaB rfl) rfl (by show 2 * 0 + _ ≤ _; exact Nat.le_of_eq rfl) (hb hby D15_23) (fun _ _ => ⟨rfl, rfl, (by decide : 1 + 1 ≤ _), (by decide : 5 + 10 ≤ _)⟩)
    dsimp only [Pt.U, Pt.locs, Pt.cells, Pt.slots] at X9 l9 y9 z9 st9 hQ9
    subst l9 y9 z9
    obtain ⟨t9, kb9, rfl, Nq9, Kq9, gt9, Vt9⟩ := hQ9
    have c10 : SS p e below S0 (T9.setTop (mkF m 26 #[vr b, vi 0, vi 5, vr b2, vi (Int32.ofNat i), .unset] [(.ref t9)])) := c8.trans (st9 _ (Steps.refl _))
    have N9 := Fr.app N5 Nq9
    have z9 : n0 ≤ T9.heap.size := Nat.le_trans z5 Kq9.1
    have K9 := K5.trans Kq9 all0
    have c11 : SS p e below S0 (T9.setTop (mkF m 32 #[vr b, vi 0, vi 5, vr b2, vi (Int32.ofNat i), vr t9] [(.int (Int32.ofNat i)), (.ref t9)])) := c10.trans (by
      show SS p e below (T9.setTop (mkF m 26 #[vr b, vi 0, vi 5, vr b2, vi (Int32.ofNat i), .unset] [(.ref t9)])) _
      refine XS.astore X9.here hx rfl (hb hby D15_26) rfl rfl (l' := #[vr b, vi 0, vi 5, vr b2, vi (Int32.ofNat i), vr t9]) rfl ?_
      refine XS.aload X9.here hx rfl (hb hby D15_28) rfl rfl ?_
      refine XS.iload X9.here hx rfl (hb hby D15_30) rfl ?_
      exact Steps.refl _)
    obtain ⟨_, _, ⟨T12, L12, kk12, nn12⟩, -, X12, ⟨Lc12, hQ12, l12, y12, z12⟩, st12⟩ := Jvm.LawKit.callS X9 hx (y := (⟨"java/lang/StringUTF16", "getChar", "([BI)C"⟩ : MethodName)) hown (mvT hZ (ww hw 123 rfl)) (mvT hZ (ww hw 124 rfl)) (mvT hZ (ww hw 52 rfl)) (mvT hZ (ww hw 125 rfl)) (by decide) (backOf (W := 0) (rmGC l Z a0 hw [] t9 kb9 ([ch0, ch1, ch2, ch3, ch4] : List Int32) i T9.heap n0 z9 Vt9 (own_alS hc0 (own_alS hc1 (own_alS hc2 (own_alS hc3 (own_alS hc4 own_al0))))) (Nat.le_of_ble_eq_true rfl) hi sAD sHI sLO (((X00.ext E2).keep Kq5 (allS (Nat.le_trans Z0 (Nat.le_trans K0.1 (Nat.le_of_eq g2.symm))) all0)).keep Kq9 all0)) hZ (ww hw 125 rfl) (ww hw 52 rfl) (by decide) (by decide)) (g := (mkF m 32 #[vr b, vi 0, vi 5, vr b2, vi (Int32.ofNat i), vr t9] [(.int (Int32.ofNat i)), (.ref t9)])) rfl (by rw [hml]; rfl) (argsL := [(.ref t9), (.int (Int32.ofNat i))]) (rest := []) (lenOf pd_oaBIcC rfl) rfl (by show 2 * 0 + _ ≤ _; exact Nat.le_of_eq rfl) (hb hby D15_32) (fun _ _ => ⟨rfl, rfl, (by decide : 2 + 0 ≤ _), (by decide : 15 + 0 ≤ _)⟩)
    dsimp only [Pt.U, Pt.locs, Pt.cells, Pt.slots] at X12 l12 y12 z12 st12 hQ12
    subst l12 y12 z12
    obtain ⟨rfl, Nq12, eq12⟩ := hQ12
    have c13 : SS p e below S0 (T12.setTop (mkF m 35 #[vr b, vi 0, vi 5, vr b2, vi (Int32.ofNat i), vr t9] [(.int (([ch0, ch1, ch2, ch3, ch4] : List Int32).getD i 0))])) := c11.trans (st12 _ (Steps.refl _))
    have N12 := Fr.app N9 Nq12
    have c14 : SS p e below S0 (T12.setTop (mkF m 56 #[vr b, vi 0, vi 5, vr b2, vi (Int32.ofNat i), vr t9] [(.ref t9)])) := c13.trans (by
      show SS p e below (T12.setTop (mkF m 35 #[vr b, vi 0, vi 5, vr b2, vi (Int32.ofNat i), vr t9] [(.int (([ch0, ch1, ch2, ch3, ch4] : List Int32).getD i 0))])) _
      refine XS.sipush X12.here hx rfl (hb hby D15_35) ?_
      refine XS.icmpYes X12.here hx rfl (pc0 := 38) (pc' := 54) rfl (hb hby D15_38) rfl (tlt hw1).2.2.1 (by decide) (by decide) ?_
      refine XS.aload X12.here hx rfl (hb hby D15_54) rfl rfl ?_
      exact Steps.refl _)
    obtain ⟨fs, hr, hrun, hended, hW, hsame⟩ := X12.leave (v := some (.ref t9)) (fun h => by rw [Bd.returns] at h; cases h)
    refine ⟨_, _, c14.trans (retOut X12 hx Bd.returns rfl (Or.inr (Or.inr (Or.inr (Or.inr ⟨rfl, rfl, rfl⟩)))) (hb hby D15_56) hr), hrun, hended, _, _, rfl, ?_, ⟨_, rfl⟩, hW, hsame.mono (by first | decide | exact Nat.le_of_ble_eq_true rfl) (by first | decide | exact Nat.le_of_ble_eq_true rfl)⟩
    show QC3 Z ([ch0, ch1, ch2, ch3, ch4] : List Int32) h0 n0 _ T12.heap _
    rw [eq12]
    exact ⟨_, _, _, _, _, rfl, N12, K9, (Nat.le_trans K5.1 gt9), Vt9, Or.inr ⟨rfl, rfl, rfl, _, own_gmem hi, hw1⟩⟩

theorem ef_rmN4_5 (m : MethodId) (x0 : Addr) (x1 : Addr) (x2 : Int32) (x3 : Int32) : entryFrame m #[(.ref x0), (.ref x1), (.int x2), (.int x3), .null] 6 = mkF m 0 #[.val (.ref x0), .val (.ref x1), .val (.int x2), .val (.int x3), .val .null, .unset] [] := by first | (simp [entryFrame, mkF, argsToLocals, Value.category]; done) | rfl
set_option maxRecDepth 65536 in
set_option maxHeartbeats 40000000 in
theorem rmN4_5 (l : Launch) (Z : State) (a0 : Array Value) (hw : ∀ d ∈ tables_1, d.before a0 Z = true) (ws : List Jvm.Cond) (x : Addr) (b : Addr) (kc : ClassId) (ch0 ch1 ch2 ch3 ch4 : Int32) (G1 : Int32) (h0 : Heap) (n0 : Nat) (Z0 : n0 ≤ h0.size) (g_x : n0 ≤ x) (Ex : Exa Z h0 x "java/lang/String") (Fv : Fld Z h0 x "java/lang/String" "value" "[B" .null) (Fc : Fld Z h0 x "java/lang/String" "coder" "B" (.int 0)) (Vb : Arv Z h0 b kc .char (5 : Int32) [.int ch0, .int ch1, .int ch2, .int ch3, .int ch4] (.int 0)) (hc0 : C16 ch0) (hc1 : C16 ch1) (hc2 : C16 ch2) (hc3 : C16 ch3) (hc4 : C16 ch4) (sAD : Sta Z Z.heap "java/lang/StringUTF16" "$assertionsDisabled" "Z" (.int 1)) (sHI : Sta Z Z.heap "java/lang/StringUTF16" "HI_BYTE_SHIFT" "I" (.int 0)) (sLO : Sta Z Z.heap "java/lang/StringUTF16" "LO_BYTE_SHIFT" "I" (.int 8)) (O2 : Sta Z Z.heap "java/lang/String" "COMPACT_STRINGS" "Z" (.int G1)) (P5 : ¬ G1 = 0) (X00 : Old Z n0 h0) :
    MetFree l (⟨"java/lang/String", "<init>", "([CIILjava/lang/Void;)V"⟩ : MethodName) (head1 (Jvm.Cond.code (⟨"java/lang/String", "<init>", "([CIILjava/lang/Void;)V"⟩ : MethodName) jdk_42_method_149_code 6 (none) :: ws) ({ frames := 4, cells := 2, slots := 15, locals := 57 } : Room)) (fun aa U => aa = #[(.ref x), (.ref b), (.int 0), (.int 5), .null] ∧ Z.Warmed39 U.vm ∧ U.heap = h0) (fun _ _ _ _ _ => True) (fun _ U o U' => ∃ v L, o = .returned v ∧ QNw Z x ([ch0, ch1, ch2, ch3, ch4] : List Int32) h0 n0 v U'.heap L ∧ FrameEnd U o U' L ({ frames := 4, cells := 2, slots := 15, locals := 57 } : Room).cells ({ frames := 4, cells := 2, slots := 15, locals := 57 } : Room).slots) := by
  refine MetFree.of_bodySF (plainFor_of_name pn_java_lang_String) hisR ?_
  intro p e s m args below meth c s₁ Bd hml0 hP hK
  obtain ⟨rfl, hZ, hh⟩ := hP
  have hx := Bd.exec
  have hby := Bd.bytes
  have hml : c.maxLocals = 6 := hml0
  have hown : s.vm.findClass "java/lang/String" = some m.cls := findClass_of_methodNamed Bd.named
  have hnm := (name_of_methodNamed Bd.named Bd.method).1
  have X0 : Stand p l e ({ frames := 4, cells := 2, slots := 15, locals := 57 } : Room) s m #[(.ref x), (.ref b), (.int 0), (.int 5), .null] below meth c s₁ [] 0 0 := Stand.of_body Bd
  have e0 : s₁.heap = h0 := by rw [← hh, Bd.state]; rfl
  have N0 := Fr.nil n0
  have K0 := Keep.refl h0 [x]
  obtain ⟨S0, hS0⟩ : ∃ z, z = s₁.setTop (entryFrame m #[(.ref x), (.ref b), (.int 0), (.int 5), .null] 6) := ⟨_, rfl⟩
  rw [← hS0]
  have c0 : SS p e below S0 (s₁.setTop (mkF m 0 #[vr x, vr b, vi 0, vi 5, .val .null, .unset] [])) := by
    rw [hS0]; exact castTop (ef_rmN4_5 m x b (0 : Int32) (5 : Int32)) (Steps.refl _)
  have c1 : SS p e below S0 (s₁.setTop (mkF m 1 #[vr x, vr b, vi 0, vi 5, .val .null, .unset] [(.ref x)])) := c0.trans (by
    show SS p e below (s₁.setTop (mkF m 0 #[vr x, vr b, vi 0, vi 5, .val .null, .unset] [])) _
    refine XS.aloadN X0.here hx rfl (hb hby D16_0) rfl rfl ?_
    exact Steps.refl _)
  obtain ⟨T2, X2, e2, st2⟩ := initO X0 hx hZ hown (ww hw 18 rfl) (ww hw 19 rfl) (ww hw 20 rfl) e0 (g := (mkF m 1 #[vr x, vr b, vi 0, vi 5, .val .null, .unset] [(.ref x)])) rfl (by rw [hml]; rfl) rfl (hb hby D16_1) (by decide) (W := 0) (by show 2 * 0 + _ ≤ _; exact Nat.le_of_eq rfl) (by decide)
  have c3 : SS p e below S0 (T2.setTop (mkF m 4 #[vr x, vr b, vi 0, vi 5, .val .null, .unset] [])) := c1.trans (st2 _ (Steps.refl _))
  have c4 : SS p e below S0 (T2.setTop (mkF m 27 #[vr x, vr b, vi 0, vi 5, .val .null, .unset] [])) := c3.trans (by
    show SS p e below (T2.setTop (mkF m 4 #[vr x, vr b, vi 0, vi 5, .val .null, .unset] [])) _
    refine XS.iloadN X2.here hx rfl (hb hby D16_4) rfl ?_
    refine XS.ifYes X2.here hx rfl (pc0 := 5) (pc' := 27) rfl (hb hby D16_5) rfl ((if0 _ _).trans (feq (by decide : ¬ ((5 : Int32) = (0 : Int32)))).2) (by decide) (by decide) ?_
    exact Steps.refl _)
  obtain ⟨T5, X5, e5, st5⟩ := getS2 X2 hx hZ hown (host := "") (Or.inl (ww hw 49 rfl)) Via.refl e2 (O2.ext X00.2) (g := (mkF m 27 #[vr x, vr b, vi 0, vi 5, .val .null, .unset] [])) rfl (hb hby D16_27)
  have c6 : SS p e below S0 (T5.setTop (mkF m 30 #[vr x, vr b, vi 0, vi 5, .val .null, .unset] [(.int G1)])) := c4.trans (st5 _ (Steps.refl _))
  have c7 : SS p e below S0 (T5.setTop (mkF m 36 #[vr x, vr b, vi 0, vi 5, .val .null, .unset] [(.int 5), (.int 0), (.ref b)])) := c6.trans (by
    show SS p e below (T5.setTop (mkF m 30 #[vr x, vr b, vi 0, vi 5, .val .null, .unset] [(.int G1)])) _
    refine XS.ifNo X5.here hx rfl (hb hby D16_30) rfl ((if0 _ _).trans (feq P5).1) ?_
    refine XS.aloadN X5.here hx rfl (hb hby D16_33) rfl rfl ?_
    refine XS.iloadN X5.here hx rfl (hb hby D16_34) rfl ?_
    refine XS.iloadN X5.here hx rfl (hb hby D16_35) rfl ?_
    exact Steps.refl _)
  obtain ⟨_, _, ⟨T8, L8, kk8, nn8⟩, -, X8, ⟨Lc8, hQ8, l8, y8, z8⟩, st8⟩ := Jvm.LawKit.callS X5 hx (y := (⟨"java/lang/StringUTF16", "compress", "([CII)[B"⟩ : MethodName)) hown (mvT hZ (ww hw 50 rfl)) (mvT hZ (ww hw 51 rfl)) (mvT hZ (ww hw 52 rfl)) (mvT hZ (ww hw 53 rfl)) (by decide) (backOf (W := 0) (rmC3_5 l Z a0 hw [] b kc ch0 ch1 ch2 ch3 ch4  h0 n0 Z0 Vb hc0 hc1 hc2 hc3 hc4  sAD sHI sLO X00) hZ (ww hw 53 rfl) (ww hw 52 rfl) (by decide) (by decide)) (g := (mkF m 36 #[vr x, vr b, vi 0, vi 5, .val .null, .unset] [(.int 5), (.int 0), (.ref b)])) rfl (by rw [hml]; rfl) (argsL := [(.ref b), (.int 0), (.int 5)]) (rest := []) (lenOf pd_oaCIIcaB rfl) rfl (by show 2 * 0 + _ ≤ _; exact Nat.le_of_eq rfl) (hb hby D16_36) (fun _ _ => ⟨rfl, e5, (by decide : 0 + 2 ≤ _), (by decide : 0 + 15 ≤ _)⟩)
  dsimp only [Pt.U, Pt.locs, Pt.cells, Pt.slots] at X8 l8 y8 z8 st8 hQ8
  subst l8 y8 z8
  obtain ⟨t8, kb8, cd8, N28, vs8, rfl, Nq8, Kq8, gt8, Vt8, hcd8⟩ := hQ8
  have c9 : SS p e below S0 (T8.setTop (mkF m 39 #[vr x, vr b, vi 0, vi 5, .val .null, .unset] [(.ref t8)])) := c7.trans (st8 _ (Steps.refl _))
  have N8 := Fr.app N0 Nq8
  have z8 : n0 ≤ T8.heap.size := Nat.le_trans Z0 Kq8.1
  have K8 := K0.trans Kq8 all0
  have lt_t8 := Vt8.lt
  have hcd := hcd8
  rcases id hcd8 with ⟨e1, e2, e3, e4⟩ | ⟨e1, e2, e3, e4⟩
  · have e5 : N28 = (5 : Int32) := e2
    have Vy8 := Vt8
    rw [e5] at Vy8
    rw [e5, e1] at hcd
    have c10 : SS p e below S0 (T8.setTop (mkF m 45 #[vr x, vr b, vi 0, vi 5, .val .null, vr t8] [(.int 5), (.ref t8), (.ref x)])) := c9.trans (by
      show SS p e below (T8.setTop (mkF m 39 #[vr x, vr b, vi 0, vi 5, .val .null, .unset] [(.ref t8)])) _
      refine XS.astore X8.here hx rfl (hb hby D16_39) rfl rfl (l' := #[vr x, vr b, vi 0, vi 5, .val .null, vr t8]) rfl ?_
      refine XS.aloadN X8.here hx rfl (hb hby D16_41) rfl rfl ?_
      refine XS.aload X8.here hx rfl (hb hby D16_42) rfl rfl ?_
      refine XS.iloadN X8.here hx rfl (hb hby D16_44) rfl ?_
      exact Steps.refl _)
    obtain ⟨_, _, ⟨T11, L11, kk11, nn11⟩, -, X11, ⟨Lc11, hQ11, l11, y11, z11⟩, st11⟩ := Jvm.LawKit.callS X8 hx (y := (⟨"java/lang/StringUTF16", "coderFromArrayLen", "([BI)B"⟩ : MethodName)) hown (mvT hZ (ww hw 57 rfl)) (mvT hZ (ww hw 58 rfl)) (mvT hZ (ww hw 52 rfl)) (mvT hZ (ww hw 59 rfl)) (by decide) (backOf (W := 1) (rmCo l Z a0 hw [] t8 kb8 (5 : Int32) (5 : Int32) (0 : Int32) vs8 T8.heap n0 z8 Vy8 (by decide) rfl) hZ (ww hw 59 rfl) (ww hw 52 rfl) (by decide) (by decide)) (g := (mkF m 45 #[vr x, vr b, vi 0, vi 5, .val .null, vr t8] [(.int 5), (.ref t8), (.ref x)])) rfl (by rw [hml]; rfl) (argsL := [(.ref t8), (.int 5)]) (rest := [(.ref x)]) (lenOf pd_oaBIcB rfl) rfl (by show 2 * 0 + _ ≤ _; exact Nat.le_of_eq rfl) (hb hby D16_45) (fun _ _ => ⟨rfl, rfl, (by decide : 2 + 0 ≤ _), (by decide : 15 + 0 ≤ _)⟩)
    dsimp only [Pt.U, Pt.locs, Pt.cells, Pt.slots] at X11 l11 y11 z11 st11 hQ11
    subst l11 y11 z11
    obtain ⟨rfl, Nq11, eq11⟩ := hQ11
    have c12 : SS p e below S0 (T11.setTop (mkF m 48 #[vr x, vr b, vi 0, vi 5, .val .null, vr t8] [(.int 0), (.ref x)])) := c10.trans (st11 _ (Steps.refl _))
    have N11 := Fr.app N8 Nq11
    obtain ⟨T13, h13, X13, e13, W13, st13⟩ := putFN X11 hx hZ hown (ww hw 28 rfl) Via.refl eq11 (Fc.keep Kq8 nin0) (Ex.keep Kq8) (Or.inr ⟨(ww hw 24 rfl), rfl, hnm⟩) (ww hw 9 rfl) (ty := .byte) (v' := (.int 0)) (by decide) rfl rfl (g := (mkF m 48 #[vr x, vr b, vi 0, vi 5, .val .null, vr t8] [(.int 0), (.ref x)])) rfl rfl (hb hby D16_48)
    have c14 : SS p e below S0 (T13.setTop (mkF m 51 #[vr x, vr b, vi 0, vi 5, .val .null, vr t8] [])) := c12.trans (st13 _ (Steps.refl _))
    have N13 := Fr.snoc X13 N11 g_x
    have Fw13 := (Fc.keep Kq8 nin0).same W13
    have z13 : n0 ≤ h13.size := Nat.le_trans z8 (Keep.of_wr W13).1
    have K13 := K8.wr W13 (Or.inl (by simp))
    have c15 : SS p e below S0 (T13.setTop (mkF m 54 #[vr x, vr b, vi 0, vi 5, .val .null, vr t8] [(.ref t8), (.ref x)])) := c14.trans (by
      show SS p e below (T13.setTop (mkF m 51 #[vr x, vr b, vi 0, vi 5, .val .null, vr t8] [])) _
      refine XS.aloadN X13.here hx rfl (hb hby D16_51) rfl rfl ?_
      refine XS.aload X13.here hx rfl (hb hby D16_52) rfl rfl ?_
      exact Steps.refl _)
    obtain ⟨T16, h16, X16, e16, W16, st16⟩ := putF X13 hx hZ hown (host := "") (Or.inl (ww hw 27 rfl)) Via.refl e13 ((Fv.keep Kq8 nin0).other W13 (Or.inr (slot_ne (Or.inr (ww hw 23 rfl)) (Or.inr (ww hw 24 rfl)) (by decide) (t := (.array .byte)) (t' := .byte) (by decide) (by decide)))) ((Ex.keep Kq8).wr W13) (Or.inr ⟨(ww hw 23 rfl), rfl, hnm⟩) (ww hw 9 rfl) (ty := (.array .byte)) (by decide) rfl rfl (g := (mkF m 54 #[vr x, vr b, vi 0, vi 5, .val .null, vr t8] [(.ref t8), (.ref x)])) rfl rfl (hb hby D16_54)
    have c17 : SS p e below S0 (T16.setTop (mkF m 57 #[vr x, vr b, vi 0, vi 5, .val .null, vr t8] [])) := c15.trans (st16 _ (Steps.refl _))
    have N16 := Fr.snoc X16 N13 g_x
    have Fw16 := ((Fv.keep Kq8 nin0).other W13 (Or.inr (slot_ne (Or.inr (ww hw 23 rfl)) (Or.inr (ww hw 24 rfl)) (by decide) (t := (.array .byte)) (t' := .byte) (by decide) (by decide)))).same W16
    have z16 : n0 ≤ h16.size := Nat.le_trans z13 (Keep.of_wr W16).1
    have K16 := K13.wr W16 (Or.inl (by simp))
    obtain ⟨fs, hr, hrun, hended, hW, hsame⟩ := X16.leave (v := none) (fun h => rfl)
    refine ⟨_, _, c17.trans (X16.returnOut hx Bd.returns (hb hby D16_57) hr), hrun, hended, _, _, rfl, ?_, ⟨_, rfl⟩, hW, hsame.mono (by first | decide | exact Nat.le_of_ble_eq_true rfl) (by first | decide | exact Nat.le_of_ble_eq_true rfl)⟩
    show QNw Z x ([ch0, ch1, ch2, ch3, ch4] : List Int32) h0 n0 _ T16.heap _
    rw [e16]
    exact ⟨_, _, _, _, _, rfl, N16, K16, (((Ex.keep Kq8).wr W13).wr W16), Fw16, (Fw13.other W16 (Or.inr (slot_ne (Or.inr (ww hw 24 rfl)) (Or.inr (ww hw 23 rfl)) (by decide) (t := .byte) (t' := (.array .byte)) (by decide) (by decide)))), ((Vy8.other W13 (Ne.symm (Nat.ne_of_lt (Nat.lt_of_lt_of_le Ex.lt gt8)))).other W16 (Ne.symm (Nat.ne_of_lt (Nat.lt_of_lt_of_le Ex.lt gt8)))), hcd, (own_alS hc0 (own_alS hc1 (own_alS hc2 (own_alS hc3 (own_alS hc4 own_al0))))), Nat.le_of_ble_eq_true rfl⟩
  · have e5 : N28 = (10 : Int32) := e2
    have Vy8 := Vt8
    rw [e5] at Vy8
    rw [e5, e1] at hcd
    have c18 : SS p e below S0 (T8.setTop (mkF m 45 #[vr x, vr b, vi 0, vi 5, .val .null, vr t8] [(.int 5), (.ref t8), (.ref x)])) := c9.trans (by
      show SS p e below (T8.setTop (mkF m 39 #[vr x, vr b, vi 0, vi 5, .val .null, .unset] [(.ref t8)])) _
      refine XS.astore X8.here hx rfl (hb hby D16_39) rfl rfl (l' := #[vr x, vr b, vi 0, vi 5, .val .null, vr t8]) rfl ?_
      refine XS.aloadN X8.here hx rfl (hb hby D16_41) rfl rfl ?_
      refine XS.aload X8.here hx rfl (hb hby D16_42) rfl rfl ?_
      refine XS.iloadN X8.here hx rfl (hb hby D16_44) rfl ?_
      exact Steps.refl _)
    obtain ⟨_, _, ⟨T19, L19, kk19, nn19⟩, -, X19, ⟨Lc19, hQ19, l19, y19, z19⟩, st19⟩ := Jvm.LawKit.callS X8 hx (y := (⟨"java/lang/StringUTF16", "coderFromArrayLen", "([BI)B"⟩ : MethodName)) hown (mvT hZ (ww hw 57 rfl)) (mvT hZ (ww hw 58 rfl)) (mvT hZ (ww hw 52 rfl)) (mvT hZ (ww hw 59 rfl)) (by decide) (backOf (W := 1) (rmCo l Z a0 hw [] t8 kb8 (5 : Int32) (10 : Int32) (1 : Int32) vs8 T8.heap n0 z8 Vy8 (by decide) rfl) hZ (ww hw 59 rfl) (ww hw 52 rfl) (by decide) (by decide)) (g := (mkF m 45 #[vr x, vr b, vi 0, vi 5, .val .null, vr t8] [(.int 5), (.ref t8), (.ref x)])) rfl (by rw [hml]; rfl) (argsL := [(.ref t8), (.int 5)]) (rest := [(.ref x)]) (lenOf pd_oaBIcB rfl) rfl (by show 2 * 0 + _ ≤ _; exact Nat.le_of_eq rfl) (hb hby D16_45) (fun _ _ => ⟨rfl, rfl, (by decide : 2 + 0 ≤ _), (by decide : 15 + 0 ≤ _)⟩)
    dsimp only [Pt.U, Pt.locs, Pt.cells, Pt.slots] at X19 l19 y19 z19 st19 hQ19
    subst l19 y19 z19
    obtain ⟨rfl, Nq19, eq19⟩ := hQ19
    have c20 : SS p e below S0 (T19.setTop (mkF m 48 #[vr x, vr b, vi 0, vi 5, .val .null, vr t8] [(.int 1), (.ref x)])) := c18.trans (st19 _ (Steps.refl _))
    have N19 := Fr.app N8 Nq19
    obtain ⟨T21, h21, X21, e21, W21, st21⟩ := putFN X19 hx hZ hown (ww hw 28 rfl) Via.refl eq19 (Fc.keep Kq8 nin0) (Ex.keep Kq8) (Or.inr ⟨(ww hw 24 rfl), rfl, hnm⟩) (ww hw 9 rfl) (ty := .byte) (v' := (.int 1)) (by decide) rfl rfl (g := (mkF m 48 #[vr x, vr b, vi 0, vi 5, .val .null, vr t8] [(.int 1), (.ref x)])) rfl rfl (hb hby D16_48)
    have c22 : SS p e below S0 (T21.setTop (mkF m 51 #[vr x, vr b, vi 0, vi 5, .val .null, vr t8] [])) := c20.trans (st21 _ (Steps.refl _))
    have N21 := Fr.snoc X21 N19 g_x
    have Fw21 := (Fc.keep Kq8 nin0).same W21
    have z21 : n0 ≤ h21.size := Nat.le_trans z8 (Keep.of_wr W21).1
    have K21 := K8.wr W21 (Or.inl (by simp))
    have c23 : SS p e below S0 (T21.setTop (mkF m 54 #[vr x, vr b, vi 0, vi 5, .val .null, vr t8] [(.ref t8), (.ref x)])) := c22.trans (by
      show SS p e below (T21.setTop (mkF m 51 #[vr x, vr b, vi 0, vi 5, .val .null, vr t8] [])) _
      refine XS.aloadN X21.here hx rfl (hb hby D16_51) rfl rfl ?_
      refine XS.aload X21.here hx rfl (hb hby D16_52) rfl rfl ?_
      exact Steps.refl _)
    obtain ⟨T24, h24, X24, e24, W24, st24⟩ := putF X21 hx hZ hown (host := "") (Or.inl (ww hw 27 rfl)) Via.refl e21 ((Fv.keep Kq8 nin0).other W21 (Or.inr (slot_ne (Or.inr (ww hw 23 rfl)) (Or.inr (ww hw 24 rfl)) (by decide) (t := (.array .byte)) (t' := .byte) (by decide) (by decide)))) ((Ex.keep Kq8).wr W21) (Or.inr ⟨(ww hw 23 rfl), rfl, hnm⟩) (ww hw 9 rfl) (ty := (.array .byte)) (by decide) rfl rfl (g := (mkF m 54 #[vr x, vr b, vi 0, vi 5, .val .null, vr t8] [(.ref t8), (.ref x)])) rfl rfl (hb hby D16_54)
    have c25 : SS p e below S0 (T24.setTop (mkF m 57 #[vr x, vr b, vi 0, vi 5, .val .null, vr t8] [])) := c23.trans (st24 _ (Steps.refl _))
    have N24 := Fr.snoc X24 N21 g_x
    have Fw24 := ((Fv.keep Kq8 nin0).other W21 (Or.inr (slot_ne (Or.inr (ww hw 23 rfl)) (Or.inr (ww hw 24 rfl)) (by decide) (t := (.array .byte)) (t' := .byte) (by decide) (by decide)))).same W24
    have z24 : n0 ≤ h24.size := Nat.le_trans z21 (Keep.of_wr W24).1
    have K24 := K21.wr W24 (Or.inl (by simp))
    obtain ⟨fs, hr, hrun, hended, hW, hsame⟩ := X24.leave (v := none) (fun h => rfl)
    refine ⟨_, _, c25.trans (X24.returnOut hx Bd.returns (hb hby D16_57) hr), hrun, hended, _, _, rfl, ?_, ⟨_, rfl⟩, hW, hsame.mono (by first | decide | exact Nat.le_of_ble_eq_true rfl) (by first | decide | exact Nat.le_of_ble_eq_true rfl)⟩
    show QNw Z x ([ch0, ch1, ch2, ch3, ch4] : List Int32) h0 n0 _ T24.heap _
    rw [e24]
    exact ⟨_, _, _, _, _, rfl, N24, K24, (((Ex.keep Kq8).wr W21).wr W24), Fw24, (Fw21.other W24 (Or.inr (slot_ne (Or.inr (ww hw 24 rfl)) (Or.inr (ww hw 23 rfl)) (by decide) (t := .byte) (t' := (.array .byte)) (by decide) (by decide)))), ((Vy8.other W21 (Ne.symm (Nat.ne_of_lt (Nat.lt_of_lt_of_le Ex.lt gt8)))).other W24 (Ne.symm (Nat.ne_of_lt (Nat.lt_of_lt_of_le Ex.lt gt8)))), hcd, (own_alS hc0 (own_alS hc1 (own_alS hc2 (own_alS hc3 (own_alS hc4 own_al0))))), Nat.le_of_ble_eq_true rfl⟩

theorem ef_rmN1_5 (m : MethodId) (x0 : Addr) (x1 : Addr) : entryFrame m #[(.ref x0), (.ref x1)] 2 = mkF m 0 #[.val (.ref x0), .val (.ref x1)] [] := by first | (simp [entryFrame, mkF, argsToLocals, Value.category]; done) | rfl
set_option maxRecDepth 65536 in
set_option maxHeartbeats 40000000 in
theorem rmN1_5 (l : Launch) (Z : State) (a0 : Array Value) (hw : ∀ d ∈ tables_1, d.before a0 Z = true) (ws : List Jvm.Cond) (x : Addr) (b : Addr) (kc : ClassId) (ch0 ch1 ch2 ch3 ch4 : Int32) (G1 : Int32) (h0 : Heap) (n0 : Nat) (Z0 : n0 ≤ h0.size) (g_x : n0 ≤ x) (Ex : Exa Z h0 x "java/lang/String") (Fv : Fld Z h0 x "java/lang/String" "value" "[B" .null) (Fc : Fld Z h0 x "java/lang/String" "coder" "B" (.int 0)) (Vb : Arv Z h0 b kc .char (5 : Int32) [.int ch0, .int ch1, .int ch2, .int ch3, .int ch4] (.int 0)) (hc0 : C16 ch0) (hc1 : C16 ch1) (hc2 : C16 ch2) (hc3 : C16 ch3) (hc4 : C16 ch4) (sAD : Sta Z Z.heap "java/lang/StringUTF16" "$assertionsDisabled" "Z" (.int 1)) (sHI : Sta Z Z.heap "java/lang/StringUTF16" "HI_BYTE_SHIFT" "I" (.int 0)) (sLO : Sta Z Z.heap "java/lang/StringUTF16" "LO_BYTE_SHIFT" "I" (.int 8)) (O2 : Sta Z Z.heap "java/lang/String" "COMPACT_STRINGS" "Z" (.int G1)) (P5 : ¬ G1 = 0) (X00 : Old Z n0 h0) :
    MetFree l (⟨"java/lang/String", "<init>", "([C)V"⟩ : MethodName) (head1 (Jvm.Cond.code (⟨"java/lang/String", "<init>", "([C)V"⟩ : MethodName) jdk_42_method_3_code 2 (none) :: ws) ({ frames := 5, cells := 2, slots := 15, locals := 74 } : Room)) (fun aa U => aa = #[(.ref x), (.ref b)] ∧ Z.Warmed39 U.vm ∧ U.heap = h0) (fun _ _ _ _ _ => True) (fun _ U o U' => ∃ v L, o = .returned v ∧ QNw Z x ([ch0, ch1, ch2, ch3, ch4] : List Int32) h0 n0 v U'.heap L ∧ FrameEnd U o U' L ({ frames := 5, cells := 2, slots := 15, locals := 74 } : Room).cells ({ frames := 5, cells := 2, slots := 15, locals := 74 } : Room).slots) := by
  refine MetFree.of_bodySF (plainFor_of_name pn_java_lang_String) hisR ?_
  intro p e s m args below meth c s₁ Bd hml0 hP hK
  obtain ⟨rfl, hZ, hh⟩ := hP
  have hx := Bd.exec
  have hby := Bd.bytes
  have hml : c.maxLocals = 2 := hml0
  have hown : s.vm.findClass "java/lang/String" = some m.cls := findClass_of_methodNamed Bd.named
  have hnm := (name_of_methodNamed Bd.named Bd.method).1
  have X0 : Stand p l e ({ frames := 5, cells := 2, slots := 15, locals := 74 } : Room) s m #[(.ref x), (.ref b)] below meth c s₁ [] 0 0 := Stand.of_body Bd
  have e0 : s₁.heap = h0 := by rw [← hh, Bd.state]; rfl
  have N0 := Fr.nil n0
  have K0 := Keep.refl h0 [x]
  obtain ⟨S0, hS0⟩ : ∃ z, z = s₁.setTop (entryFrame m #[(.ref x), (.ref b)] 2) := ⟨_, rfl⟩
  rw [← hS0]
  have c0 : SS p e below S0 (s₁.setTop (mkF m 0 #[vr x, vr b] [])) := by
    rw [hS0]; exact castTop (ef_rmN1_5 m x b) (Steps.refl _)
  have c1 : SS p e below S0 (s₁.setTop (mkF m 4 #[vr x, vr b] [(.ref b), (.int 0), (.ref b), (.ref x)])) := c0.trans (by
    show SS p e below (s₁.setTop (mkF m 0 #[vr x, vr b] [])) _
    refine XS.aloadN X0.here hx rfl (hb hby D17_0) rfl rfl ?_
    refine XS.aloadN X0.here hx rfl (hb hby D17_1) rfl rfl ?_
    refine XS.iconst X0.here hx rfl (hb hby D17_2) ?_
    refine XS.aloadN X0.here hx rfl (hb hby D17_3) rfl rfl ?_
    exact Steps.refl _)
  obtain ⟨cl2, Ar2, -, S2, Nn2, -, -⟩ := id Vb
  have c3 : SS p e below S0 (s₁.setTop (mkF m 6 #[vr x, vr b] [.null, (.int 5), (.int 0), (.ref b), (.ref x)])) := c1.trans (by
    show SS p e below (s₁.setTop (mkF m 4 #[vr x, vr b] [(.ref b), (.int 0), (.ref b), (.ref x)])) _
    refine X0.arraylength hx (by rw [e0]; exact Ar2.1) (State.isArrayOf_alike hZ.alike Ar2.2.1) (g := (mkF m 4 #[vr x, vr b] [(.ref b), (.int 0), (.ref b), (.ref x)])) rfl rfl (hb hby D17_4) _ ?_
    rw [len_of S2 Nn2]
    refine XS.aconstNull X0.here hx rfl (hb hby D17_5) ?_
    exact Steps.refl _)
  obtain ⟨_, _, ⟨T4, L4, kk4, nn4⟩, -, X4, ⟨Lc4, hQ4, l4, y4, z4⟩, st4⟩ := X0.specialBack hx (y := (⟨"java/lang/String", "<init>", "([CIILjava/lang/Void;)V"⟩ : MethodName)) rfl hown (mvT hZ (ww hw 14 rfl)) (mvT hZ (ww hw 15 rfl)) (mvT hZ (ww hw 17 rfl)) (by decide) (backOf (W := 0) (rmN4_5 l Z a0 hw [] x b kc ch0 ch1 ch2 ch3 ch4  G1 h0 n0 Z0 g_x Ex Fv Fc Vb hc0 hc1 hc2 hc3 hc4  sAD sHI sLO O2 P5 X00) hZ (ww hw 17 rfl) (ww hw 10 rfl) (by decide) (by decide)) (g := (mkF m 6 #[vr x, vr b] [.null, (.int 5), (.int 0), (.ref b), (.ref x)])) rfl (by rw [hml]; rfl) (Steps.refl _) (a := x) (argsL := [(.ref b), (.int 0), (.int 5), .null]) (rest := []) (lenOf pd_oaCIILjavaslangsVoidecV rfl) rfl (by show 2 * 0 + _ ≤ _; exact Nat.le_of_eq rfl) (hb hby D17_6) (fun _ _ => ⟨rfl, e0, (by decide : 0 + 2 ≤ _), (by decide : 0 + 15 ≤ _)⟩)
  dsimp only [Pt.U, Pt.locs, Pt.cells, Pt.slots] at X4 l4 y4 z4 st4 hQ4
  subst l4 y4 z4
  obtain ⟨t4, kb4, cd4, N24, vs4, rfl, Nq4, Kq4, Sg4⟩ := hQ4
  have c5 : SS p e below S0 (T4.setTop (mkF m 9 #[vr x, vr b] [])) := c3.trans (st4)
  have N4 := Fr.app N0 Nq4
  have z4 : n0 ≤ T4.heap.size := Nat.le_trans Z0 Kq4.1
  have K4 := K0.trans Kq4 (allS (Or.inl (by simp)) all0)
  obtain ⟨fs, hr, hrun, hended, hW, hsame⟩ := X4.leave (v := none) (fun h => rfl)
  refine ⟨_, _, c5.trans (X4.returnOut hx Bd.returns (hb hby D17_9) hr), hrun, hended, _, _, rfl, ?_, ⟨_, rfl⟩, hW, hsame.mono (by first | decide | exact Nat.le_of_ble_eq_true rfl) (by first | decide | exact Nat.le_of_ble_eq_true rfl)⟩
  show QNw Z x ([ch0, ch1, ch2, ch3, ch4] : List Int32) h0 n0 _ T4.heap _
  exact ⟨_, _, _, _, _, rfl, N4, K4, Sg4⟩

/-- the first loop of read: where the point stands, or none -/
def own_scan : List Int32 → Nat → Int32 → Option Int32
  | [], _, p => some p
  | ch :: r, k, p => if ch = 46 then (if p < 0 then own_scan r (k + 1) (Int32.ofNat k) else none) else if ch < 48 then none else if 57 < ch then none else own_scan r (k + 1) p
/-- the second loop: the first place that is no leading zero -/
def own_zs : List Int32 → Nat → Int32 → Nat
  | [], k, _ => k
  | ch :: r, k, e => if Int32.ofNat k < e then (if ch = 48 then own_zs r (k + 1) e else k) else k
def own_read (cs : List Int32) : Option (Nat × Int32) := match own_scan cs 0 (-1) with
  | none => none
  | some p => if (if p < 0 then Int32.ofNat cs.length else p) = 0 then none else if p = Int32.ofNat cs.length - 1 then none else some (own_zs cs 0 (if p < 0 then Int32.ofNat cs.length else p), if p < 0 then Int32.ofNat cs.length else p)
theorem own_drop {cs : List Int32} {k : Nat} (h : k < cs.length) : cs.drop k = cs.getD k 0 :: cs.drop (k + 1) := by
  rw [List.drop_eq_getElem_cons h, List.getD_eq_getElem?_getD, List.getElem?_eq_getElem h]; rfl
abbrev Pok (n : Nat) (p : Int32) : Prop := p < 0 ∨ ∃ j : Nat, j < n ∧ p = Int32.ofNat j
def QIni (Z : State) (x sx : Addr) (st we : Int32) (h0 : Heap) (n0 : Nat) (v : Option Value) (h : Heap) (L : List Loc) : Prop := v = none ∧ Fr n0 L ∧ Keep h0 h [x] ∧ Exa Z h x "com/example/pricefold/pricefold/model/DecimalText" ∧ Fld Z h x "com/example/pricefold/pricefold/model/DecimalText" "text" "Ljava/lang/String;" (.ref sx) ∧ Fld Z h x "com/example/pricefold/pricefold/model/DecimalText" "wholeStart" "I" (.int st) ∧ Fld Z h x "com/example/pricefold/pricefold/model/DecimalText" "wholeEnd" "I" (.int we)
def QRd (Z : State) (sx : Addr) (cs : List Int32) (h0 : Heap) (n0 : Nat) (v : Option Value) (h : Heap) (L : List Loc) : Prop := (own_read cs = none ∧ v = some .null ∧ Fr n0 L ∧ h = h0) ∨ (∃ (x : Addr) (st : Nat) (we : Int32), own_read cs = some (st, we) ∧ v = some (.ref x) ∧ Fr n0 L ∧ Keep h0 h [] ∧ h0.size ≤ x ∧ Exa Z h x "com/example/pricefold/pricefold/model/DecimalText" ∧ Fld Z h x "com/example/pricefold/pricefold/model/DecimalText" "text" "Ljava/lang/String;" (.ref sx) ∧ Fld Z h x "com/example/pricefold/pricefold/model/DecimalText" "wholeStart" "I" (.int (Int32.ofNat st)) ∧ Fld Z h x "com/example/pricefold/pricefold/model/DecimalText" "wholeEnd" "I" (.int we))

theorem D18_0 : decode prog_42_method_1_code 0 = .ok (.aload_n 0, 1) := by decide +kernel
theorem D18_1 : decode prog_42_method_1_code 1 = .ok (.invokespecial 1, 3) := by decide +kernel
theorem D18_4 : decode prog_42_method_1_code 4 = .ok (.aload_n 0, 1) := by decide +kernel
theorem D18_5 : decode prog_42_method_1_code 5 = .ok (.aload_n 1, 1) := by decide +kernel
theorem D18_6 : decode prog_42_method_1_code 6 = .ok (.putfield 7, 3) := by decide +kernel
theorem D18_9 : decode prog_42_method_1_code 9 = .ok (.aload_n 0, 1) := by decide +kernel
theorem D18_10 : decode prog_42_method_1_code 10 = .ok (.iload_n 2, 1) := by decide +kernel
theorem D18_11 : decode prog_42_method_1_code 11 = .ok (.putfield 13, 3) := by decide +kernel
theorem D18_14 : decode prog_42_method_1_code 14 = .ok (.aload_n 0, 1) := by decide +kernel
theorem D18_15 : decode prog_42_method_1_code 15 = .ok (.iload_n 3, 1) := by decide +kernel
theorem D18_16 : decode prog_42_method_1_code 16 = .ok (.putfield 17, 3) := by decide +kernel
theorem D18_19 : decode prog_42_method_1_code 19 = .ok (.return_, 1) := by decide +kernel
theorem pn_com_example_pricefold_pricefold_model_DecimalText : plainName "com/example/pricefold/pricefold/model/DecimalText" = true := by first | (simp [plainName, overriddenIn]; done) | decide +kernel
theorem ef_rmIni (m : MethodId) (x0 : Addr) (x1 : Addr) (x2 : Int32) (x3 : Int32) : entryFrame m #[(.ref x0), (.ref x1), (.int x2), (.int x3)] 4 = mkF m 0 #[.val (.ref x0), .val (.ref x1), .val (.int x2), .val (.int x3)] [] := by first | (simp [entryFrame, mkF, argsToLocals, Value.category]; done) | rfl
set_option maxRecDepth 65536 in
set_option maxHeartbeats 40000000 in
theorem rmIni (l : Launch) (Z : State) (a0 : Array Value) (hw : ∀ d ∈ tables_1, d.before a0 Z = true) (ws : List Jvm.Cond) (x sx : Addr) (st we : Int32) (h0 : Heap) (n0 : Nat) (Z0 : n0 ≤ h0.size) (g_x : n0 ≤ x) (Ex : Exa Z h0 x "com/example/pricefold/pricefold/model/DecimalText") (F0 : Fld Z h0 x "com/example/pricefold/pricefold/model/DecimalText" "text" "Ljava/lang/String;" .null) (F1 : Fld Z h0 x "com/example/pricefold/pricefold/model/DecimalText" "wholeStart" "I" (.int 0)) (F2 : Fld Z h0 x "com/example/pricefold/pricefold/model/DecimalText" "wholeEnd" "I" (.int 0)) :
    MetFree l (⟨"com/example/pricefold/pricefold/model/DecimalText", "<init>", "(Ljava/lang/String;II)V"⟩ : MethodName) (head1 (Jvm.Cond.code (⟨"com/example/pricefold/pricefold/model/DecimalText", "<init>", "(Ljava/lang/String;II)V"⟩ : MethodName) prog_42_method_1_code 4 (none) :: ws) ({ frames := 1, cells := 0, slots := 0, locals := 12 } : Room)) (fun aa U => aa = #[(.ref x), (.ref sx), (.int st), (.int we)] ∧ Z.Warmed39 U.vm ∧ U.heap = h0) (fun _ _ _ _ _ => True) (fun _ U o U' => ∃ v L, o = .returned v ∧ QIni Z x sx st we h0 n0 v U'.heap L ∧ FrameEnd U o U' L ({ frames := 1, cells := 0, slots := 0, locals := 12 } : Room).cells ({ frames := 1, cells := 0, slots := 0, locals := 12 } : Room).slots) := by
  refine MetFree.of_bodySF (plainFor_of_name pn_com_example_pricefold_pricefold_model_DecimalText) hisR ?_
  intro p e s m args below meth c s₁ Bd hml0 hP hK
  obtain ⟨rfl, hZ, hh⟩ := hP
  have hx := Bd.exec
  have hby := Bd.bytes
  have hml : c.maxLocals = 4 := hml0
  have hown : s.vm.findClass "com/example/pricefold/pricefold/model/DecimalText" = some m.cls := findClass_of_methodNamed Bd.named
  have hnm := (name_of_methodNamed Bd.named Bd.method).1
  have X0 : Stand p l e ({ frames := 1, cells := 0, slots := 0, locals := 12 } : Room) s m #[(.ref x), (.ref sx), (.int st), (.int we)] below meth c s₁ [] 0 0 := Stand.of_body Bd
  have e0 : s₁.heap = h0 := by rw [← hh, Bd.state]; rfl
  have N0 := Fr.nil n0
  have K0 := Keep.refl h0 [x]
  obtain ⟨S0, hS0⟩ : ∃ z, z = s₁.setTop (entryFrame m #[(.ref x), (.ref sx), (.int st), (.int we)] 4) := ⟨_, rfl⟩
  rw [← hS0]
  have c0 : SS p e below S0 (s₁.setTop (mkF m 0 #[vr x, vr sx, vi st, vi we] [])) := by
    rw [hS0]; exact castTop (ef_rmIni m x sx st we) (Steps.refl _)
  have c1 : SS p e below S0 (s₁.setTop (mkF m 1 #[vr x, vr sx, vi st, vi we] [(.ref x)])) := c0.trans (by
    show SS p e below (s₁.setTop (mkF m 0 #[vr x, vr sx, vi st, vi we] [])) _
    refine XS.aloadN X0.here hx rfl (hb hby D18_0) rfl rfl ?_
    exact Steps.refl _)
  obtain ⟨T2, X2, e2, st2⟩ := initO X0 hx hZ hown (ww hw 87 rfl) (ww hw 19 rfl) (ww hw 20 rfl) e0 (g := (mkF m 1 #[vr x, vr sx, vi st, vi we] [(.ref x)])) rfl (by rw [hml]; rfl) rfl (hb hby D18_1) (by decide) (W := 0) (by show 2 * 0 + _ ≤ _; exact Nat.le_of_eq rfl) (by decide)
  have c3 : SS p e below S0 (T2.setTop (mkF m 4 #[vr x, vr sx, vi st, vi we] [])) := c1.trans (st2 _ (Steps.refl _))
  have c4 : SS p e below S0 (T2.setTop (mkF m 6 #[vr x, vr sx, vi st, vi we] [(.ref sx), (.ref x)])) := c3.trans (by
    show SS p e below (T2.setTop (mkF m 4 #[vr x, vr sx, vi st, vi we] [])) _
    refine XS.aloadN X2.here hx rfl (hb hby D18_4) rfl rfl ?_
    refine XS.aloadN X2.here hx rfl (hb hby D18_5) rfl rfl ?_
    exact Steps.refl _)
  obtain ⟨T5, h5, X5, e5, W5, st5⟩ := putF X2 hx hZ hown (host := "") (Or.inl (ww hw 88 rfl)) Via.refl e2 F0 Ex (Or.inr ⟨(ww hw 89 rfl), rfl, hnm⟩) (ww hw 83 rfl) (ty := (.object "java/lang/String")) (by decide) rfl rfl (g := (mkF m 6 #[vr x, vr sx, vi st, vi we] [(.ref sx), (.ref x)])) rfl rfl (hb hby D18_6)
  have c6 : SS p e below S0 (T5.setTop (mkF m 9 #[vr x, vr sx, vi st, vi we] [])) := c4.trans (st5 _ (Steps.refl _))
  have N5 := Fr.snoc X5 N0 g_x
  have Fw5 := F0.same W5
  have z5 : n0 ≤ h5.size := Nat.le_trans Z0 (Keep.of_wr W5).1
  have K5 := K0.wr W5 (Or.inl (by simp))
  have c7 : SS p e below S0 (T5.setTop (mkF m 11 #[vr x, vr sx, vi st, vi we] [(.int st), (.ref x)])) := c6.trans (by
    show SS p e below (T5.setTop (mkF m 9 #[vr x, vr sx, vi st, vi we] [])) _
    refine XS.aloadN X5.here hx rfl (hb hby D18_9) rfl rfl ?_
    refine XS.iloadN X5.here hx rfl (hb hby D18_10) rfl ?_
    exact Steps.refl _)
  obtain ⟨T8, h8, X8, e8, W8, st8⟩ := putF X5 hx hZ hown (host := "") (Or.inl (ww hw 90 rfl)) Via.refl e5 (F1.other W5 (Or.inr (slot_ne (Or.inr (ww hw 91 rfl)) (Or.inr (ww hw 89 rfl)) (by decide) (t := .int) (t' := (.object "java/lang/String")) (by decide) (by decide)))) (Ex.wr W5) (Or.inr ⟨(ww hw 91 rfl), rfl, hnm⟩) (ww hw 83 rfl) (ty := .int) (by decide) rfl rfl (g := (mkF m 11 #[vr x, vr sx, vi st, vi we] [(.int st), (.ref x)])) rfl rfl (hb hby D18_11)
  have c9 : SS p e below S0 (T8.setTop (mkF m 14 #[vr x, vr sx, vi st, vi we] [])) := c7.trans (st8 _ (Steps.refl _))
  have N8 := Fr.snoc X8 N5 g_x
  have Fw8 := (F1.other W5 (Or.inr (slot_ne (Or.inr (ww hw 91 rfl)) (Or.inr (ww hw 89 rfl)) (by decide) (t := .int) (t' := (.object "java/lang/String")) (by decide) (by decide)))).same W8
  have z8 : n0 ≤ h8.size := Nat.le_trans z5 (Keep.of_wr W8).1
  have K8 := K5.wr W8 (Or.inl (by simp))
  have c10 : SS p e below S0 (T8.setTop (mkF m 16 #[vr x, vr sx, vi st, vi we] [(.int we), (.ref x)])) := c9.trans (by
    show SS p e below (T8.setTop (mkF m 14 #[vr x, vr sx, vi st, vi we] [])) _
    refine XS.aloadN X8.here hx rfl (hb hby D18_14) rfl rfl ?_
    refine XS.iloadN X8.here hx rfl (hb hby D18_15) rfl ?_
    exact Steps.refl _)
  obtain ⟨T11, h11, X11, e11, W11, st11⟩ := putF X8 hx hZ hown (host := "") (Or.inl (ww hw 92 rfl)) Via.refl e8 ((F2.other W5 (Or.inr (slot_ne (Or.inr (ww hw 93 rfl)) (Or.inr (ww hw 89 rfl)) (by decide) (t := .int) (t' := (.object "java/lang/String")) (by decide) (by decide)))).other W8 (Or.inr (slot_ne (Or.inr (ww hw 93 rfl)) (Or.inr (ww hw 91 rfl)) (by decide) (t := .int) (t' := .int) (by decide) (by decide)))) ((Ex.wr W5).wr W8) (Or.inr ⟨(ww hw 93 rfl), rfl, hnm⟩) (ww hw 83 rfl) (ty := .int) (by decide) rfl rfl (g := (mkF m 16 #[vr x, vr sx, vi st, vi we] [(.int we), (.ref x)])) rfl rfl (hb hby D18_16)
  have c12 : SS p e below S0 (T11.setTop (mkF m 19 #[vr x, vr sx, vi st, vi we] [])) := c10.trans (st11 _ (Steps.refl _))
  have N11 := Fr.snoc X11 N8 g_x
  have Fw11 := ((F2.other W5 (Or.inr (slot_ne (Or.inr (ww hw 93 rfl)) (Or.inr (ww hw 89 rfl)) (by decide) (t := .int) (t' := (.object "java/lang/String")) (by decide) (by decide)))).other W8 (Or.inr (slot_ne (Or.inr (ww hw 93 rfl)) (Or.inr (ww hw 91 rfl)) (by decide) (t := .int) (t' := .int) (by decide) (by decide)))).same W11
  have z11 : n0 ≤ h11.size := Nat.le_trans z8 (Keep.of_wr W11).1
  have K11 := K8.wr W11 (Or.inl (by simp))
  obtain ⟨fs, hr, hrun, hended, hW, hsame⟩ := X11.leave (v := none) (fun h => rfl)
  refine ⟨_, _, c12.trans (X11.returnOut hx Bd.returns (hb hby D18_19) hr), hrun, hended, _, _, rfl, ?_, ⟨_, rfl⟩, hW, hsame.mono (by first | decide | exact Nat.le_of_ble_eq_true rfl) (by first | decide | exact Nat.le_of_ble_eq_true rfl)⟩
  show QIni Z x sx st we h0 n0 _ T11.heap _
  rw [e11]
  exact ⟨rfl, N11, K11, (((Ex.wr W5).wr W8).wr W11), ((Fw5.other W8 (Or.inr (slot_ne (Or.inr (ww hw 89 rfl)) (Or.inr (ww hw 91 rfl)) (by decide) (t := (.object "java/lang/String")) (t' := .int) (by decide) (by decide)))).other W11 (Or.inr (slot_ne (Or.inr (ww hw 89 rfl)) (Or.inr (ww hw 93 rfl)) (by decide) (t := (.object "java/lang/String")) (t' := .int) (by decide) (by decide)))), (Fw8.other W11 (Or.inr (slot_ne (Or.inr (ww hw 91 rfl)) (Or.inr (ww hw 93 rfl)) (by decide) (t := .int) (t' := .int) (by decide) (by decide)))), Fw11⟩

theorem own_kle {n : Nat} {p ee : Int32} (hp : Pok n p) (hl : n ≤ 4000) (he : ee = (if p < 0 then Int32.ofNat n else p)) : ∀ k : Nat, k ≤ n → Int32.ofNat k < ee → k < n := by
  intro k hk hlt
  rw [he] at hlt
  rcases hp with h | ⟨j, h1, h2⟩
  · rw [if_pos h, own_ofN_lt (by omega) (by omega)] at hlt; exact hlt
  · have : ¬ p < 0 := by rw [h2]; exact (own_idx h1 (by omega)).1
    rw [if_neg this, h2, own_ofN_lt (by omega) (by omega)] at hlt; omega

theorem D19_0 : decode prog_42_method_2_code 0 = .ok (.iconst (-1), 1) := by decide +kernel
theorem D19_1 : decode prog_42_method_2_code 1 = .ok (.istore_n 1, 1) := by decide +kernel
theorem D19_2 : decode prog_42_method_2_code 2 = .ok (.iconst 0, 1) := by decide +kernel
theorem D19_3 : decode prog_42_method_2_code 3 = .ok (.istore_n 2, 1) := by decide +kernel
theorem D19_4 : decode prog_42_method_2_code 4 = .ok (.iload_n 2, 1) := by decide +kernel
theorem D19_5 : decode prog_42_method_2_code 5 = .ok (.aload_n 0, 1) := by decide +kernel
theorem pd_ocI : parseMethodDescriptor "()I" = some ⟨[], some .int⟩ := by decide +kernel
theorem D19_6 : decode prog_42_method_2_code 6 = .ok (.invokevirtual 20, 3) := by decide +kernel
theorem D19_9 : decode prog_42_method_2_code 9 = .ok (.if_icmp .ge 44, 3) := by decide +kernel
theorem D19_12 : decode prog_42_method_2_code 12 = .ok (.aload_n 0, 1) := by decide +kernel
theorem D19_13 : decode prog_42_method_2_code 13 = .ok (.iload_n 2, 1) := by decide +kernel
theorem pd_oIcC : parseMethodDescriptor "(I)C" = some ⟨[.int], some .char⟩ := by decide +kernel
theorem D19_14 : decode prog_42_method_2_code 14 = .ok (.invokevirtual 26, 3) := by decide +kernel
theorem D19_17 : decode prog_42_method_2_code 17 = .ok (.istore_n 3, 1) := by decide +kernel
theorem D19_18 : decode prog_42_method_2_code 18 = .ok (.iload_n 3, 1) := by decide +kernel
theorem D19_19 : decode prog_42_method_2_code 19 = .ok (.bipush 46, 2) := by decide +kernel
theorem D19_21 : decode prog_42_method_2_code 21 = .ok (.if_icmp .ne 12, 3) := by decide +kernel
theorem D19_24 : decode prog_42_method_2_code 24 = .ok (.iload_n 1, 1) := by decide +kernel
theorem D19_25 : decode prog_42_method_2_code 25 = .ok (.ifCond .ge 8, 3) := by decide +kernel
theorem D19_28 : decode prog_42_method_2_code 28 = .ok (.iload_n 2, 1) := by decide +kernel
theorem D19_29 : decode prog_42_method_2_code 29 = .ok (.istore_n 1, 1) := by decide +kernel
theorem D19_30 : decode prog_42_method_2_code 30 = .ok (.goto 17, 3) := by decide +kernel
theorem D19_47 : decode prog_42_method_2_code 47 = .ok (.iinc 2 1, 3) := by decide +kernel
theorem D19_50 : decode prog_42_method_2_code 50 = .ok (.goto (-46), 3) := by decide +kernel
theorem D19_33 : decode prog_42_method_2_code 33 = .ok (.iload_n 3, 1) := by decide +kernel
theorem D19_34 : decode prog_42_method_2_code 34 = .ok (.bipush 48, 2) := by decide +kernel
theorem D19_36 : decode prog_42_method_2_code 36 = .ok (.if_icmp .lt 9, 3) := by decide +kernel
theorem D19_39 : decode prog_42_method_2_code 39 = .ok (.iload_n 3, 1) := by decide +kernel
theorem D19_40 : decode prog_42_method_2_code 40 = .ok (.bipush 57, 2) := by decide +kernel
theorem D19_42 : decode prog_42_method_2_code 42 = .ok (.if_icmp .le 5, 3) := by decide +kernel
theorem D19_45 : decode prog_42_method_2_code 45 = .ok (.aconst_null, 1) := by decide +kernel
theorem D19_46 : decode prog_42_method_2_code 46 = .ok (.areturn, 1) := by decide +kernel
theorem D19_53 : decode prog_42_method_2_code 53 = .ok (.iload_n 1, 1) := by decide +kernel
theorem D19_54 : decode prog_42_method_2_code 54 = .ok (.ifCond .ge 10, 3) := by decide +kernel
theorem D19_57 : decode prog_42_method_2_code 57 = .ok (.aload_n 0, 1) := by decide +kernel
theorem D19_58 : decode prog_42_method_2_code 58 = .ok (.invokevirtual 20, 3) := by decide +kernel
theorem D19_61 : decode prog_42_method_2_code 61 = .ok (.goto 4, 3) := by decide +kernel
theorem D19_64 : decode prog_42_method_2_code 64 = .ok (.iload_n 1, 1) := by decide +kernel
theorem D19_65 : decode prog_42_method_2_code 65 = .ok (.istore_n 2, 1) := by decide +kernel
theorem D19_66 : decode prog_42_method_2_code 66 = .ok (.iload_n 2, 1) := by decide +kernel
theorem D19_67 : decode prog_42_method_2_code 67 = .ok (.ifCond .eq 13, 3) := by decide +kernel
theorem D19_80 : decode prog_42_method_2_code 80 = .ok (.aconst_null, 1) := by decide +kernel
theorem D19_81 : decode prog_42_method_2_code 81 = .ok (.areturn, 1) := by decide +kernel
theorem D19_70 : decode prog_42_method_2_code 70 = .ok (.iload_n 1, 1) := by decide +kernel
theorem D19_71 : decode prog_42_method_2_code 71 = .ok (.aload_n 0, 1) := by decide +kernel
theorem D19_72 : decode prog_42_method_2_code 72 = .ok (.invokevirtual 20, 3) := by decide +kernel
theorem D19_75 : decode prog_42_method_2_code 75 = .ok (.iconst 1, 1) := by decide +kernel
theorem D19_76 : decode prog_42_method_2_code 76 = .ok (.isub, 1) := by decide +kernel
theorem D19_77 : decode prog_42_method_2_code 77 = .ok (.if_icmp .ne 5, 3) := by decide +kernel
theorem D19_82 : decode prog_42_method_2_code 82 = .ok (.iconst 0, 1) := by decide +kernel
theorem D19_83 : decode prog_42_method_2_code 83 = .ok (.istore_n 3, 1) := by decide +kernel
theorem D19_84 : decode prog_42_method_2_code 84 = .ok (.iload_n 3, 1) := by decide +kernel
theorem D19_85 : decode prog_42_method_2_code 85 = .ok (.iload_n 2, 1) := by decide +kernel
theorem D19_86 : decode prog_42_method_2_code 86 = .ok (.if_icmp .ge 19, 3) := by decide +kernel
theorem D19_89 : decode prog_42_method_2_code 89 = .ok (.aload_n 0, 1) := by decide +kernel
theorem D19_90 : decode prog_42_method_2_code 90 = .ok (.iload_n 3, 1) := by decide +kernel
theorem D19_91 : decode prog_42_method_2_code 91 = .ok (.invokevirtual 26, 3) := by decide +kernel
theorem D19_94 : decode prog_42_method_2_code 94 = .ok (.bipush 48, 2) := by decide +kernel
theorem D19_96 : decode prog_42_method_2_code 96 = .ok (.if_icmp .ne 9, 3) := by decide +kernel
theorem D19_99 : decode prog_42_method_2_code 99 = .ok (.iinc 3 1, 3) := by decide +kernel
theorem D19_102 : decode prog_42_method_2_code 102 = .ok (.goto (-18), 3) := by decide +kernel
theorem D19_105 : decode prog_42_method_2_code 105 = .ok (.new 8, 3) := by decide +kernel
theorem D19_108 : decode prog_42_method_2_code 108 = .ok (.dup, 1) := by decide +kernel
theorem D19_109 : decode prog_42_method_2_code 109 = .ok (.aload_n 0, 1) := by decide +kernel
theorem D19_110 : decode prog_42_method_2_code 110 = .ok (.iload_n 3, 1) := by decide +kernel
theorem D19_111 : decode prog_42_method_2_code 111 = .ok (.iload_n 2, 1) := by decide +kernel
theorem pd_oLjavaslangsStringeIIcV : parseMethodDescriptor "(Ljava/lang/String;II)V" = some ⟨[(.object "java/lang/String"), .int, .int], none⟩ := by decide +kernel
theorem D19_112 : decode prog_42_method_2_code 112 = .ok (.invokespecial 30, 3) := by decide +kernel
theorem D19_115 : decode prog_42_method_2_code 115 = .ok (.areturn, 1) := by decide +kernel
theorem ef_rmRd (m : MethodId) (x0 : Addr) : entryFrame m #[(.ref x0)] 4 = mkF m 0 #[.val (.ref x0), .unset, .unset, .unset] [] := by first | (simp [entryFrame, mkF, argsToLocals, Value.category]; done) | rfl
set_option maxRecDepth 65536 in
set_option maxHeartbeats 40000000 in
theorem rmRd (l : Launch) (Z : State) (a0 : Array Value) (hw : ∀ d ∈ tables_1, d.before a0 Z = true) (ws : List Jvm.Cond) (sx tx : Addr) (kx : ClassId) (cd N : Int32) (vs : List Value) (cs : List Int32) (G1 : Int32) (G3 : Value) (h0 : Heap) (n0 : Nat) (Z0 : n0 ≤ h0.size) (Sg : OSG Z h0 sx tx kx cd N vs cs) (sAD : Sta Z Z.heap "java/lang/StringUTF16" "$assertionsDisabled" "Z" (.int 1)) (sHI : Sta Z Z.heap "java/lang/StringUTF16" "HI_BYTE_SHIFT" "I" (.int 0)) (sLO : Sta Z Z.heap "java/lang/StringUTF16" "LO_BYTE_SHIFT" "I" (.int 8)) (O2 : Sta Z Z.heap "java/lang/String" "COMPACT_STRINGS" "Z" (.int G1)) (P5 : ¬ G1 = 0) (X00 : Old Z n0 h0) (O4 : Sta Z Z.heap "jdk/internal/util/Preconditions" "SIOOBE_FORMATTER" "Ljava/util/function/BiFunction;" G3) (rG3 : G3.isRef = true) :
    MetFree l (⟨"com/example/pricefold/pricefold/model/DecimalText", "read", "(Ljava/lang/String;)Lcom/example/pricefold/pricefold/model/DecimalText;"⟩ : MethodName) (head1 (Jvm.Cond.code (⟨"com/example/pricefold/pricefold/model/DecimalText", "read", "(Ljava/lang/String;)Lcom/example/pricefold/pricefold/model/DecimalText;"⟩ : MethodName) prog_42_method_2_code 4 (some (.object "com/example/pricefold/pricefold/model/DecimalText")) :: ws) ({ frames := 5, cells := 1, slots := 3, locals := 66 } : Room)) (fun aa U => aa = #[(.ref sx)] ∧ Z.Warmed39 U.vm ∧ U.heap = h0) (fun _ _ _ _ _ => True) (fun _ U o U' => ∃ v L, o = .returned v ∧ QRd Z sx cs h0 n0 v U'.heap L ∧ FrameEnd U o U' L ({ frames := 5, cells := 1, slots := 3, locals := 66 } : Room).cells ({ frames := 5, cells := 1, slots := 3, locals := 66 } : Room).slots) := by
  refine MetFree.of_bodySF (plainFor_of_name pn_com_example_pricefold_pricefold_model_DecimalText) hisR ?_
  intro p e s m args below meth c s₁ Bd hml0 hP hK
  obtain ⟨rfl, hZ, hh⟩ := hP
  have hx := Bd.exec
  have hby := Bd.bytes
  have hml : c.maxLocals = 4 := hml0
  have hown : s.vm.findClass "com/example/pricefold/pricefold/model/DecimalText" = some m.cls := findClass_of_methodNamed Bd.named
  have hnm := (name_of_methodNamed Bd.named Bd.method).1
  have X0 : Stand p l e ({ frames := 5, cells := 1, slots := 3, locals := 66 } : Room) s m #[(.ref sx)] below meth c s₁ [] 0 0 := Stand.of_body Bd
  have e0 : s₁.heap = h0 := by rw [← hh, Bd.state]; rfl
  have N0 := Fr.nil n0
  have K0 := Keep.refl h0 []
  obtain ⟨S0, hS0⟩ : ∃ z, z = s₁.setTop (entryFrame m #[(.ref sx)] 4) := ⟨_, rfl⟩
  rw [← hS0]
  have c0 : SS p e below S0 (s₁.setTop (mkF m 0 #[vr sx, .unset, .unset, .unset] [])) := by
    rw [hS0]; exact castTop (ef_rmRd m sx) (Steps.refl _)
  have c1 : SS p e below S0 (s₁.setTop (mkF m 4 #[vr sx, vi (-1), vi 0, .unset] [])) := c0.trans (by
    show SS p e below (s₁.setTop (mkF m 0 #[vr sx, .unset, .unset, .unset] [])) _
    refine XS.iconst X0.here hx rfl (hb hby D19_0) ?_
    refine XS.istoreN X0.here hx rfl (hb hby D19_1) rfl (l' := #[vr sx, vi (-1), .unset, .unset]) rfl ?_
    refine XS.iconst X0.here hx rfl (hb hby D19_2) ?_
    refine XS.istoreN X0.here hx rfl (hb hby D19_3) rfl (l' := #[vr sx, vi (-1), vi 0, .unset]) rfl ?_
    exact Steps.refl _)
  have lp : ∀ (n k : Nat) (pp : Int32) (o : Slot) (T : State) (locs : List Loc), n = cs.length - k → k ≤ cs.length → Pok cs.length pp → (o = .unset ∨ ∃ w, o = .val w ∧ w.category = 1) → Fr n0 locs → Stand p l e ({ frames := 5, cells := 1, slots := 3, locals := 66 } : Room) s m #[(.ref sx)] below meth c T locs 0 0 → T.heap = h0 → SS p e below S0 (T.setTop (mkF m 4 #[vr sx, vi pp, vi (Int32.ofNat k), o] [])) →
      (∃ (T : State) (locs : List Loc) (a1 a2 a3 : Int32), own_scan (cs.drop k) k pp = none ∧ Fr n0 locs ∧ Stand p l e ({ frames := 5, cells := 1, slots := 3, locals := 66 } : Room) s m #[(.ref sx)] below meth c T locs 0 0 ∧ T.heap = h0 ∧ SS p e below S0 (T.setTop (mkF m 45 #[vr sx, vi a1, vi a2, vi a3] []))) ∨
      (∃ (T : State) (locs : List Loc) (a1 : Int32) (o : Slot), own_scan (cs.drop k) k pp = some a1 ∧ Pok cs.length a1 ∧ (o = .unset ∨ ∃ w, o = .val w ∧ w.category = 1) ∧ Fr n0 locs ∧ Stand p l e ({ frames := 5, cells := 1, slots := 3, locals := 66 } : Room) s m #[(.ref sx)] below meth c T locs 0 0 ∧ T.heap = h0 ∧ SS p e below S0 (T.setTop (mkF m 53 #[vr sx, vi a1, vi (Int32.ofNat cs.length), o] []))) := by
    intro n
    induction n with
    | zero =>
      intro k pp o T locs hn hkl hp ho NN X eT cc
      have hl4 := Sg.2.2.2.2.2.2
      have c2 : SS p e below S0 (T.setTop (mkF m 6 #[vr sx, vi pp, vi (Int32.ofNat k), o] [(.ref sx), (.int (Int32.ofNat k))])) := cc.trans (by
        show SS p e below (T.setTop (mkF m 4 #[vr sx, vi pp, vi (Int32.ofNat k), o] [])) _
        refine XS.iloadN X.here hx rfl (hb hby D19_4) rfl ?_
        refine XS.aloadN X.here hx rfl (hb hby D19_5) rfl rfl ?_
        exact Steps.refl _)
      have hln3 : ∀ d ∈ StrChars.Road.wordsLen, d.before a0 Z = true := fun d hd => hw d (own_in_wordsLen d hd)
      obtain ⟨cq4, kq4, q4a, q4b, q4c⟩ := isOf hZ eT Sg.1
      obtain ⟨_, _, ⟨T4, L4, kk4, nn4⟩, -, X4, ⟨Lc4, hQ4, l4, y4, z4⟩, st4⟩ := X.virtualBack hx (y := (⟨"java/lang/String", "length", "()I"⟩ : MethodName)) (z := (⟨"java/lang/String", "length", "()I"⟩ : MethodName)) hown (mvT hZ (ww hw 39 rfl)) (mvT hZ (ww hw 40 rfl)) (notFace_of_selects (args := #[]) (mvT hZ (ww hw 42 rfl))) (mvT hZ (ww hw 42 rfl)) (mvT hZ (ww hw 41 rfl)) (by decide) (StrChars.Road.lenW (W := 1) hZ hln3 (kI := 4) (ww hw 9 rfl) Sg.1 Sg.2.1 Sg.2.2.1 Sg.2.2.2.1 Sg.2.2.2.2.1 Sg.2.2.2.2.2.1 (O2.ext X00.2) P5 Sg.2.2.2.2.2.2 (by decide) (by decide)) q4a q4c (g := (mkF m 6 #[vr sx, vi pp, vi (Int32.ofNat k), o] [(.ref sx), (.int (Int32.ofNat k))])) rfl (by rw [hml]; rfl) (Steps.refl _) (argsL := []) (rest := [(.int (Int32.ofNat k))]) (lenOf pd_ocI rfl) rfl (by show 2 * 0 + _ ≤ _; exact Nat.le_of_eq rfl) (hb hby D19_6) (fun _ _ => ⟨rfl, eT, (by decide : 0 + 0 ≤ _), (by decide : 0 + 0 ≤ _)⟩)
      dsimp only [Pt.U, Pt.locs, Pt.cells, Pt.slots] at X4 l4 y4 z4 st4 hQ4
      subst l4 y4 z4
      obtain ⟨rfl, Lq4, eq4⟩ := hQ4
      have c5 : SS p e below S0 (T4.setTop (mkF m 9 #[vr sx, vi pp, vi (Int32.ofNat k), o] [(.int (Int32.ofNat cs.length)), (.int (Int32.ofNat k))])) := c2.trans (st4)
      have N4 := Fr.app NN (Lq4 ▸ Fr.nil n0)
      have c6 : SS p e below S0 (T4.setTop (mkF m 53 #[vr sx, vi pp, vi (Int32.ofNat k), o] [])) := c5.trans (by
        show SS p e below (T4.setTop (mkF m 9 #[vr sx, vi pp, vi (Int32.ofNat k), o] [(.int (Int32.ofNat cs.length)), (.int (Int32.ofNat k))])) _
        refine XS.icmpYes X4.here hx rfl (pc0 := 9) (pc' := 53) rfl (hb hby D19_9) rfl (flt (fun z => absurd ((own_ofN_lt (by omega) (by omega)).mp z) (by omega) : ¬ (Int32.ofNat k) < (Int32.ofNat cs.length))).2.1 (by decide) (by decide) ?_
        exact Steps.refl _)
      have ek : k = cs.length := by omega
      subst ek
      exact Or.inr ⟨T4, _, _, _, by rw [List.drop_length]; rfl, hp, ho, N4, X4, eq4, c6⟩
    | succ n ih =>
      intro k pp o T locs hn hkl hp ho NN X eT cc
      have hk : k < cs.length := by omega
      have hl4 := Sg.2.2.2.2.2.2
      have c7 : SS p e below S0 (T.setTop (mkF m 6 #[vr sx, vi pp, vi (Int32.ofNat k), o] [(.ref sx), (.int (Int32.ofNat k))])) := cc.trans (by
        show SS p e below (T.setTop (mkF m 4 #[vr sx, vi pp, vi (Int32.ofNat k), o] [])) _
        refine XS.iloadN X.here hx rfl (hb hby D19_4) rfl ?_
        refine XS.aloadN X.here hx rfl (hb hby D19_5) rfl rfl ?_
        exact Steps.refl _)
      have hln8 : ∀ d ∈ StrChars.Road.wordsLen, d.before a0 Z = true := fun d hd => hw d (own_in_wordsLen d hd)
      obtain ⟨cq9, kq9, q9a, q9b, q9c⟩ := isOf hZ eT Sg.1
      obtain ⟨_, _, ⟨T9, L9, kk9, nn9⟩, -, X9, ⟨Lc9, hQ9, l9, y9, z9⟩, st9⟩ := X.virtualBack hx (y := (⟨"java/lang/String", "length", "()I"⟩ : MethodName)) (z := (⟨"java/lang/String", "length", "()I"⟩ : MethodName)) hown (mvT hZ (ww hw 39 rfl)) (mvT hZ (ww hw 40 rfl)) (notFace_of_selects (args := #[]) (mvT hZ (ww hw 42 rfl))) (mvT hZ (ww hw 42 rfl)) (mvT hZ (ww hw 41 rfl)) (by decide) (StrChars.Road.lenW (W := 1) hZ hln8 (kI := 4) (ww hw 9 rfl) Sg.1 Sg.2.1 Sg.2.2.1 Sg.2.2.2.1 Sg.2.2.2.2.1 Sg.2.2.2.2.2.1 (O2.ext X00.2) P5 Sg.2.2.2.2.2.2 (by decide) (by decide)) q9a q9c (g := (mkF m 6 #[vr sx, vi pp, vi (Int32.ofNat k), o] [(.ref sx), (.int (Int32.ofNat k))])) rfl (by rw [hml]; rfl) (Steps.refl _) (argsL := []) (rest := [(.int (Int32.ofNat k))]) (lenOf pd_ocI rfl) rfl (by show 2 * 0 + _ ≤ _; exact Nat.le_of_eq rfl) (hb hby D19_6) (fun _ _ => ⟨rfl, eT, (by decide : 0 + 0 ≤ _), (by decide : 0 + 0 ≤ _)⟩)
      dsimp only [Pt.U, Pt.locs, Pt.cells, Pt.slots] at X9 l9 y9 z9 st9 hQ9
      subst l9 y9 z9
      obtain ⟨rfl, Lq9, eq9⟩ := hQ9
      have c10 : SS p e below S0 (T9.setTop (mkF m 9 #[vr sx, vi pp, vi (Int32.ofNat k), o] [(.int (Int32.ofNat cs.length)), (.int (Int32.ofNat k))])) := c7.trans (st9)
      have N9 := Fr.app NN (Lq9 ▸ Fr.nil n0)
      have c11 : SS p e below S0 (T9.setTop (mkF m 14 #[vr sx, vi pp, vi (Int32.ofNat k), o] [(.int (Int32.ofNat k)), (.ref sx)])) := c10.trans (by
        show SS p e below (T9.setTop (mkF m 9 #[vr sx, vi pp, vi (Int32.ofNat k), o] [(.int (Int32.ofNat cs.length)), (.int (Int32.ofNat k))])) _
        refine XS.icmpNo X9.here hx rfl (hb hby D19_9) rfl (tlt ((own_ofN_lt (by omega) (by omega)).mpr hk : (Int32.ofNat k) < (Int32.ofNat cs.length))).2.1 ?_
        refine XS.aloadN X9.here hx rfl (hb hby D19_12) rfl rfl ?_
        refine XS.iloadN X9.here hx rfl (hb hby D19_13) rfl ?_
        exact Steps.refl _)
      obtain ⟨cq12, kq12, q12a, q12b, q12c⟩ := isOf hZ eq9 Sg.1
      obtain ⟨_, _, ⟨T12, L12, kk12, nn12⟩, -, X12, ⟨Lc12, hQ12, l12, y12, z12⟩, st12⟩ := X9.virtualBack hx (y := (⟨"java/lang/String", "charAt", "(I)C"⟩ : MethodName)) (z := (⟨"java/lang/String", "charAt", "(I)C"⟩ : MethodName)) hown (mvT hZ (ww hw 60 rfl)) (mvT hZ (ww hw 61 rfl)) (notFace_of_selects (args := #[]) (mvT hZ (ww hw 63 rfl))) (mvT hZ (ww hw 63 rfl)) (mvT hZ (ww hw 62 rfl)) (by decide) (backOf (W := 0) (rmCA l Z a0 hw [] sx tx kx cd N vs cs k G1 G3 h0 n0 Z0 Sg hk sAD sHI sLO O2 P5 X00 O4 rG3) hZ (ww hw 64 rfl) (ww hw 10 rfl) (by decide) (by decide)) q12a q12c (g := (mkF m 14 #[vr sx, vi pp, vi (Int32.ofNat k), o] [(.int (Int32.ofNat k)), (.ref sx)])) rfl (by rw [hml]; rfl) (Steps.refl _) (argsL := [(.int (Int32.ofNat k))]) (rest := []) (lenOf pd_oIcC rfl) rfl (by show 2 * 0 + _ ≤ _; exact Nat.le_of_eq rfl) (hb hby D19_14) (fun _ _ => ⟨rfl, eq9, (by decide : 0 + 0 ≤ _), (by decide : 0 + 0 ≤ _)⟩)
      dsimp only [Pt.U, Pt.locs, Pt.cells, Pt.slots] at X12 l12 y12 z12 st12 hQ12
      subst l12 y12 z12
      obtain ⟨rfl, Nq12, eq12⟩ := hQ12
      have c13 : SS p e below S0 (T12.setTop (mkF m 17 #[vr sx, vi pp, vi (Int32.ofNat k), o] [(.int (cs.getD k 0))])) := c11.trans (st12)
      have N12 := Fr.app N9 Nq12
      have c14 : SS p e below S0 (T12.setTop (mkF m 21 #[vr sx, vi pp, vi (Int32.ofNat k), vi (cs.getD k 0)] [(.int 46), (.int (cs.getD k 0))])) := c13.trans (by
        show SS p e below (T12.setTop (mkF m 17 #[vr sx, vi pp, vi (Int32.ofNat k), o] [(.int (cs.getD k 0))])) _
        refine XS.istoreNS X12.here hx rfl (hb hby D19_17) rfl rfl ho ?_
        refine XS.iloadN X12.here hx rfl (hb hby D19_18) rfl ?_
        refine XS.bipush X12.here hx rfl (hb hby D19_19) ?_
        exact Steps.refl _)
      by_cases hq15 : (cs.getD k 0) = (46 : Int32)
      · have c16 : SS p e below S0 (T12.setTop (mkF m 25 #[vr sx, vi pp, vi (Int32.ofNat k), vi (cs.getD k 0)] [(.int pp)])) := c14.trans (by
          show SS p e below (T12.setTop (mkF m 21 #[vr sx, vi pp, vi (Int32.ofNat k), vi (cs.getD k 0)] [(.int 46), (.int (cs.getD k 0))])) _
          refine XS.icmpNo X12.here hx rfl (hb hby D19_21) rfl (teq hq15).2 ?_
          refine XS.iloadN X12.here hx rfl (hb hby D19_24) rfl ?_
          exact Steps.refl _)
        by_cases hq17 : pp < (0 : Int32)
        · have c18 : SS p e below S0 (T12.setTop (mkF m 4 #[vr sx, vi (Int32.ofNat k), vi ((Int32.ofNat k) + (1 : Int32)), vi (cs.getD k 0)] [])) := c16.trans (by
            show SS p e below (T12.setTop (mkF m 25 #[vr sx, vi pp, vi (Int32.ofNat k), vi (cs.getD k 0)] [(.int pp)])) _
            refine XS.ifNo X12.here hx rfl (hb hby D19_25) rfl ((if0 _ _).trans (tlt hq17).2.1) ?_
            refine XS.iloadN X12.here hx rfl (hb hby D19_28) rfl ?_
            refine XS.istoreN X12.here hx rfl (hb hby D19_29) rfl (l' := #[vr sx, vi (Int32.ofNat k), vi (Int32.ofNat k), vi (cs.getD k 0)]) rfl ?_
            refine XS.goto X12.here hx rfl (pc0 := 30) (pc' := 47) rfl (hb hby D19_30) (by decide) (by decide) ?_
            refine XS.iinc X12.here hx rfl (hb hby D19_47) rfl (l' := #[vr sx, vi (Int32.ofNat k), vi ((Int32.ofNat k) + (1 : Int32)), vi (cs.getD k 0)]) rfl ?_
            refine XS.goto X12.here hx rfl (pc0 := 50) (pc' := 4) rfl (hb hby D19_50) (by decide) (by decide) ?_
            exact Steps.refl _)
          have e1 : Int32.ofNat k + (1 : Int32) = Int32.ofNat (k + 1) := (inc_ofNat k).symm
          rw [e1] at c18
          rw [own_drop hk, own_scan, if_pos hq15, if_pos hq17]
          exact ih (k + 1) (Int32.ofNat k) _ _ _ (by omega) (by omega) (Or.inr ⟨k, hk, rfl⟩) (Or.inr ⟨_, rfl, rfl⟩) N12 X12 eq12 c18
        · have c19 : SS p e below S0 (T12.setTop (mkF m 45 #[vr sx, vi pp, vi (Int32.ofNat k), vi (cs.getD k 0)] [])) := c16.trans (by
            show SS p e below (T12.setTop (mkF m 25 #[vr sx, vi pp, vi (Int32.ofNat k), vi (cs.getD k 0)] [(.int pp)])) _
            refine XS.ifYes X12.here hx rfl (pc0 := 25) (pc' := 33) rfl (hb hby D19_25) rfl ((if0 _ _).trans (flt hq17).2.1) (by decide) (by decide) ?_
            refine XS.iloadN X12.here hx rfl (hb hby D19_33) rfl ?_
            refine XS.bipush X12.here hx rfl (hb hby D19_34) ?_
            refine XS.icmpYes X12.here hx rfl (pc0 := 36) (pc' := 45) rfl (hb hby D19_36) rfl (tlt (by rw [hq15]; decide : (cs.getD k 0) < (48 : Int32))).1 (by decide) (by decide) ?_
            exact Steps.refl _)
          exact Or.inl ⟨T12, _, _, _, _, by rw [own_drop hk, own_scan, if_pos hq15, if_neg hq17], N12, X12, eq12, c19⟩
      · have c20 : SS p e below S0 (T12.setTop (mkF m 36 #[vr sx, vi pp, vi (Int32.ofNat k), vi (cs.getD k 0)] [(.int 48), (.int (cs.getD k 0))])) := c14.trans (by
          show SS p e below (T12.setTop (mkF m 21 #[vr sx, vi pp, vi (Int32.ofNat k), vi (cs.getD k 0)] [(.int 46), (.int (cs.getD k 0))])) _
          refine XS.icmpYes X12.here hx rfl (pc0 := 21) (pc' := 33) rfl (hb hby D19_21) rfl (feq hq15).2 (by decide) (by decide) ?_
          refine XS.iloadN X12.here hx rfl (hb hby D19_33) rfl ?_
          refine XS.bipush X12.here hx rfl (hb hby D19_34) ?_
          exact Steps.refl _)
        by_cases hq21 : (cs.getD k 0) < (48 : Int32)
        · have c22 : SS p e below S0 (T12.setTop (mkF m 45 #[vr sx, vi pp, vi (Int32.ofNat k), vi (cs.getD k 0)] [])) := c20.trans (by
            show SS p e below (T12.setTop (mkF m 36 #[vr sx, vi pp, vi (Int32.ofNat k), vi (cs.getD k 0)] [(.int 48), (.int (cs.getD k 0))])) _
            refine XS.icmpYes X12.here hx rfl (pc0 := 36) (pc' := 45) rfl (hb hby D19_36) rfl (tlt hq21).1 (by decide) (by decide) ?_
            exact Steps.refl _)
          exact Or.inl ⟨T12, _, _, _, _, by rw [own_drop hk, own_scan, if_neg hq15, if_pos hq21], N12, X12, eq12, c22⟩
        · have c23 : SS p e below S0 (T12.setTop (mkF m 42 #[vr sx, vi pp, vi (Int32.ofNat k), vi (cs.getD k 0)] [(.int 57), (.int (cs.getD k 0))])) := c20.trans (by
            show SS p e below (T12.setTop (mkF m 36 #[vr sx, vi pp, vi (Int32.ofNat k), vi (cs.getD k 0)] [(.int 48), (.int (cs.getD k 0))])) _
            refine XS.icmpNo X12.here hx rfl (hb hby D19_36) rfl (flt hq21).1 ?_
            refine XS.iloadN X12.here hx rfl (hb hby D19_39) rfl ?_
            refine XS.bipush X12.here hx rfl (hb hby D19_40) ?_
            exact Steps.refl _)
          by_cases hq24 : (57 : Int32) < (cs.getD k 0)
          · have c25 : SS p e below S0 (T12.setTop (mkF m 45 #[vr sx, vi pp, vi (Int32.ofNat k), vi (cs.getD k 0)] [])) := c23.trans (by
              show SS p e below (T12.setTop (mkF m 42 #[vr sx, vi pp, vi (Int32.ofNat k), vi (cs.getD k 0)] [(.int 57), (.int (cs.getD k 0))])) _
              refine XS.icmpNo X12.here hx rfl (hb hby D19_42) rfl (tlt hq24).2.2.2 ?_
              exact Steps.refl _)
            exact Or.inl ⟨T12, _, _, _, _, by rw [own_drop hk, own_scan, if_neg hq15, if_neg hq21, if_pos hq24], N12, X12, eq12, c25⟩
          · have c26 : SS p e below S0 (T12.setTop (mkF m 4 #[vr sx, vi pp, vi ((Int32.ofNat k) + (1 : Int32)), vi (cs.getD k 0)] [])) := c23.trans (by
              show SS p e below (T12.setTop (mkF m 42 #[vr sx, vi pp, vi (Int32.ofNat k), vi (cs.getD k 0)] [(.int 57), (.int (cs.getD k 0))])) _
              refine XS.icmpYes X12.here hx rfl (pc0 := 42) (pc' := 47) rfl (hb hby D19_42) rfl (flt hq24).2.2.2 (by decide) (by decide) ?_
              refine XS.iinc X12.here hx rfl (hb hby D19_47) rfl (l' := #[vr sx, vi pp, vi ((Int32.ofNat k) + (1 : Int32)), vi (cs.getD k 0)]) rfl ?_
              refine XS.goto X12.here hx rfl (pc0 := 50) (pc' := 4) rfl (hb hby D19_50) (by decide) (by decide) ?_
              exact Steps.refl _)
            have e1 : Int32.ofNat k + (1 : Int32) = Int32.ofNat (k + 1) := (inc_ofNat k).symm
            rw [e1] at c26
            rw [own_drop hk, own_scan, if_neg hq15, if_neg hq21, if_neg hq24]
            exact ih (k + 1) pp _ _ _ (by omega) (by omega) hp (Or.inr ⟨_, rfl, rfl⟩) N12 X12 eq12 c26
  rcases lp _ 0 (-1) _ _ _ rfl (Nat.zero_le _) (Or.inl (by decide)) (Or.inl rfl) N0 X0 e0 c1 with ⟨T9, l9, a1, a2, a3, hs9, N9, X9, e9, c9⟩ | ⟨T9, l9, a1, o9, hs9, hp9, ho9, N9, X9, e9, c9⟩
  · rw [List.drop_zero] at hs9
    have hl4 := Sg.2.2.2.2.2.2
    have c27 : SS p e below S0 (T9.setTop (mkF m 46 #[vr sx, vi a1, vi a2, vi a3] [.null])) := c9.trans (by
      show SS p e below (T9.setTop (mkF m 45 #[vr sx, vi a1, vi a2, vi a3] [])) _
      refine XS.aconstNull X9.here hx rfl (hb hby D19_45) ?_
      exact Steps.refl _)
    obtain ⟨fs, hr, hrun, hended, hW, hsame⟩ := X9.leave (v := some .null) (fun h => by rw [Bd.returns] at h; cases h)
    refine ⟨_, _, c27.trans (retOut X9 hx Bd.returns rfl (Or.inr (Or.inr (Or.inr (Or.inr ⟨rfl, rfl, rfl⟩)))) (hb hby D19_46) hr), hrun, hended, _, _, rfl, ?_, ⟨_, rfl⟩, hW, hsame.mono (by first | decide | exact Nat.le_of_ble_eq_true rfl) (by first | decide | exact Nat.le_of_ble_eq_true rfl)⟩
    show QRd Z sx cs h0 n0 _ T9.heap _
    rw [e9]
    exact Or.inl ⟨by rw [own_read, hs9], rfl, N9, rfl⟩
  · rw [List.drop_zero] at hs9
    have hl4 := Sg.2.2.2.2.2.2
    have c28 : SS p e below S0 (T9.setTop (mkF m 54 #[vr sx, vi a1, vi (Int32.ofNat cs.length), o9] [(.int a1)])) := c9.trans (by
      show SS p e below (T9.setTop (mkF m 53 #[vr sx, vi a1, vi (Int32.ofNat cs.length), o9] [])) _
      refine XS.iloadN X9.here hx rfl (hb hby D19_53) rfl ?_
      exact Steps.refl _)
    obtain ⟨ee, T30, l30, hee, N30, X30, e30, c30⟩ : ∃ (ee : Int32) (T : State) (locs : List Loc), ee = (if a1 < (0 : Int32) then (Int32.ofNat cs.length) else a1) ∧ Fr n0 locs ∧ Stand p l e ({ frames := 5, cells := 1, slots := 3, locals := 66 } : Room) s m #[(.ref sx)] below meth c T locs 0 0 ∧ T.heap = h0 ∧ SS p e below S0 (T.setTop (mkF m 65 #[vr sx, vi a1, vi (Int32.ofNat cs.length), o9] [(.int ee)])) := by
      by_cases hq31 : a1 < (0 : Int32)
      · have c32 : SS p e below S0 (T9.setTop (mkF m 58 #[vr sx, vi a1, vi (Int32.ofNat cs.length), o9] [(.ref sx)])) := c28.trans (by
          show SS p e below (T9.setTop (mkF m 54 #[vr sx, vi a1, vi (Int32.ofNat cs.length), o9] [(.int a1)])) _
          refine XS.ifNo X9.here hx rfl (hb hby D19_54) rfl ((if0 _ _).trans (tlt hq31).2.1) ?_
          refine XS.aloadN X9.here hx rfl (hb hby D19_57) rfl rfl ?_
          exact Steps.refl _)
        have hln33 : ∀ d ∈ StrChars.Road.wordsLen, d.before a0 Z = true := fun d hd => hw d (own_in_wordsLen d hd)
        obtain ⟨cq34, kq34, q34a, q34b, q34c⟩ := isOf hZ e9 Sg.1
        obtain ⟨_, _, ⟨T34, L34, kk34, nn34⟩, -, X34, ⟨Lc34, hQ34, l34, y34, z34⟩, st34⟩ := X9.virtualBack hx (y := (⟨"java/lang/String", "length", "()I"⟩ : MethodName)) (z := (⟨"java/lang/String", "length", "()I"⟩ : MethodName)) hown (mvT hZ (ww hw 39 rfl)) (mvT hZ (ww hw 40 rfl)) (notFace_of_selects (args := #[]) (mvT hZ (ww hw 42 rfl))) (mvT hZ (ww hw 42 rfl)) (mvT hZ (ww hw 41 rfl)) (by decide) (StrChars.Road.lenW (W := 0) hZ hln33 (kI := 4) (ww hw 9 rfl) Sg.1 Sg.2.1 Sg.2.2.1 Sg.2.2.2.1 Sg.2.2.2.2.1 Sg.2.2.2.2.2.1 (O2.ext X00.2) P5 Sg.2.2.2.2.2.2 (by decide) (by decide)) q34a q34c (g := (mkF m 58 #[vr sx, vi a1, vi (Int32.ofNat cs.length), o9] [(.ref sx)])) rfl (by rw [hml]; rfl) (Steps.refl _) (argsL := []) (rest := []) (lenOf pd_ocI rfl) rfl (by show 2 * 0 + _ ≤ _; exact Nat.le_of_eq rfl) (hb hby D19_58) (fun _ _ => ⟨rfl, e9, (by decide : 0 + 0 ≤ _), (by decide : 0 + 0 ≤ _)⟩)
        dsimp only [Pt.U, Pt.locs, Pt.cells, Pt.slots] at X34 l34 y34 z34 st34 hQ34
        subst l34 y34 z34
        obtain ⟨rfl, Lq34, eq34⟩ := hQ34
        have c35 : SS p e below S0 (T34.setTop (mkF m 61 #[vr sx, vi a1, vi (Int32.ofNat cs.length), o9] [(.int (Int32.ofNat cs.length))])) := c32.trans (st34)
        have N34 := Fr.app N9 (Lq34 ▸ Fr.nil n0)
        have c36 : SS p e below S0 (T34.setTop (mkF m 65 #[vr sx, vi a1, vi (Int32.ofNat cs.length), o9] [(.int (Int32.ofNat cs.length))])) := c35.trans (by
          show SS p e below (T34.setTop (mkF m 61 #[vr sx, vi a1, vi (Int32.ofNat cs.length), o9] [(.int (Int32.ofNat cs.length))])) _
          refine XS.goto X34.here hx rfl (pc0 := 61) (pc' := 65) rfl (hb hby D19_61) (by decide) (by decide) ?_
          exact Steps.refl _)
        exact ⟨_, T34, _, (by rw [if_pos hq31]), N34, X34, eq34, c36⟩
      · have c37 : SS p e below S0 (T9.setTop (mkF m 65 #[vr sx, vi a1, vi (Int32.ofNat cs.length), o9] [(.int a1)])) := c28.trans (by
          show SS p e below (T9.setTop (mkF m 54 #[vr sx, vi a1, vi (Int32.ofNat cs.length), o9] [(.int a1)])) _
          refine XS.ifYes X9.here hx rfl (pc0 := 54) (pc' := 64) rfl (hb hby D19_54) rfl ((if0 _ _).trans (flt hq31).2.1) (by decide) (by decide) ?_
          refine XS.iloadN X9.here hx rfl (hb hby D19_64) rfl ?_
          exact Steps.refl _)
        exact ⟨_, T9, _, (by rw [if_neg hq31]), N9, X9, e9, c37⟩
    have c38 : SS p e below S0 (T30.setTop (mkF m 67 #[vr sx, vi a1, vi ee, o9] [(.int ee)])) := c30.trans (by
      show SS p e below (T30.setTop (mkF m 65 #[vr sx, vi a1, vi (Int32.ofNat cs.length), o9] [(.int ee)])) _
      refine XS.istoreN X30.here hx rfl (hb hby D19_65) rfl (l' := #[vr sx, vi a1, vi ee, o9]) rfl ?_
      refine XS.iloadN X30.here hx rfl (hb hby D19_66) rfl ?_
      exact Steps.refl _)
    by_cases hq39 : ee = (0 : Int32)
    · have c40 : SS p e below S0 (T30.setTop (mkF m 81 #[vr sx, vi a1, vi ee, o9] [.null])) := c38.trans (by
        show SS p e below (T30.setTop (mkF m 67 #[vr sx, vi a1, vi ee, o9] [(.int ee)])) _
        refine XS.ifYes X30.here hx rfl (pc0 := 67) (pc' := 80) rfl (hb hby D19_67) rfl ((if0 _ _).trans (teq hq39).1) (by decide) (by decide) ?_
        refine XS.aconstNull X30.here hx rfl (hb hby D19_80) ?_
        exact Steps.refl _)
      obtain ⟨fs, hr, hrun, hended, hW, hsame⟩ := X30.leave (v := some .null) (fun h => by rw [Bd.returns] at h; cases h)
      refine ⟨_, _, c40.trans (retOut X30 hx Bd.returns rfl (Or.inr (Or.inr (Or.inr (Or.inr ⟨rfl, rfl, rfl⟩)))) (hb hby D19_81) hr), hrun, hended, _, _, rfl, ?_, ⟨_, rfl⟩, hW, hsame.mono (by first | decide | exact Nat.le_of_ble_eq_true rfl) (by first | decide | exact Nat.le_of_ble_eq_true rfl)⟩
      show QRd Z sx cs h0 n0 _ T30.heap _
      rw [e30]
      exact Or.inl ⟨by rw [own_read, hs9]; show (if _ then _ else _) = _; rw [← hee, if_pos hq39], rfl, N30, rfl⟩
    · have c41 : SS p e below S0 (T30.setTop (mkF m 72 #[vr sx, vi a1, vi ee, o9] [(.ref sx), (.int a1)])) := c38.trans (by
        show SS p e below (T30.setTop (mkF m 67 #[vr sx, vi a1, vi ee, o9] [(.int ee)])) _
        refine XS.ifNo X30.here hx rfl (hb hby D19_67) rfl ((if0 _ _).trans (feq hq39).1) ?_
        refine XS.iloadN X30.here hx rfl (hb hby D19_70) rfl ?_
        refine XS.aloadN X30.here hx rfl (hb hby D19_71) rfl rfl ?_
        exact Steps.refl _)
      have hln42 : ∀ d ∈ StrChars.Road.wordsLen, d.before a0 Z = true := fun d hd => hw d (own_in_wordsLen d hd)
      obtain ⟨cq43, kq43, q43a, q43b, q43c⟩ := isOf hZ e30 Sg.1
      obtain ⟨_, _, ⟨T43, L43, kk43, nn43⟩, -, X43, ⟨Lc43, hQ43, l43, y43, z43⟩, st43⟩ := X30.virtualBack hx (y := (⟨"java/lang/String", "length", "()I"⟩ : MethodName)) (z := (⟨"java/lang/String", "length", "()I"⟩ : MethodName)) hown (mvT hZ (ww hw 39 rfl)) (mvT hZ (ww hw 40 rfl)) (notFace_of_selects (args := #[]) (mvT hZ (ww hw 42 rfl))) (mvT hZ (ww hw 42 rfl)) (mvT hZ (ww hw 41 rfl)) (by decide) (StrChars.Road.lenW (W := 1) hZ hln42 (kI := 4) (ww hw 9 rfl) Sg.1 Sg.2.1 Sg.2.2.1 Sg.2.2.2.1 Sg.2.2.2.2.1 Sg.2.2.2.2.2.1 (O2.ext X00.2) P5 Sg.2.2.2.2.2.2 (by decide) (by decide)) q43a q43c (g := (mkF m 72 #[vr sx, vi a1, vi ee, o9] [(.ref sx), (.int a1)])) rfl (by rw [hml]; rfl) (Steps.refl _) (argsL := []) (rest := [(.int a1)]) (lenOf pd_ocI rfl) rfl (by show 2 * 0 + _ ≤ _; exact Nat.le_of_eq rfl) (hb hby D19_72) (fun _ _ => ⟨rfl, e30, (by decide : 0 + 0 ≤ _), (by decide : 0 + 0 ≤ _)⟩)
      dsimp only [Pt.U, Pt.locs, Pt.cells, Pt.slots] at X43 l43 y43 z43 st43 hQ43
      subst l43 y43 z43
      obtain ⟨rfl, Lq43, eq43⟩ := hQ43
      have c44 : SS p e below S0 (T43.setTop (mkF m 75 #[vr sx, vi a1, vi ee, o9] [(.int (Int32.ofNat cs.length)), (.int a1)])) := c41.trans (st43)
      have N43 := Fr.app N30 (Lq43 ▸ Fr.nil n0)
      have c45 : SS p e below S0 (T43.setTop (mkF m 77 #[vr sx, vi a1, vi ee, o9] [(.int ((Int32.ofNat cs.length) - (1 : Int32))), (.int a1)])) := c44.trans (by
        show SS p e below (T43.setTop (mkF m 75 #[vr sx, vi a1, vi ee, o9] [(.int (Int32.ofNat cs.length)), (.int a1)])) _
        refine XS.iconst X43.here hx rfl (hb hby D19_75) ?_
        refine XS.isub X43.here hx rfl (hb hby D19_76) rfl ?_
        exact Steps.refl _)
      by_cases hq46 : a1 = ((Int32.ofNat cs.length) - (1 : Int32))
      · have c47 : SS p e below S0 (T43.setTop (mkF m 81 #[vr sx, vi a1, vi ee, o9] [.null])) := c45.trans (by
          show SS p e below (T43.setTop (mkF m 77 #[vr sx, vi a1, vi ee, o9] [(.int ((Int32.ofNat cs.length) - (1 : Int32))), (.int a1)])) _
          refine XS.icmpNo X43.here hx rfl (hb hby D19_77) rfl (teq hq46).2 ?_
          refine XS.aconstNull X43.here hx rfl (hb hby D19_80) ?_
          exact Steps.refl _)
        obtain ⟨fs, hr, hrun, hended, hW, hsame⟩ := X43.leave (v := some .null) (fun h => by rw [Bd.returns] at h; cases h)
        refine ⟨_, _, c47.trans (retOut X43 hx Bd.returns rfl (Or.inr (Or.inr (Or.inr (Or.inr ⟨rfl, rfl, rfl⟩)))) (hb hby D19_81) hr), hrun, hended, _, _, rfl, ?_, ⟨_, rfl⟩, hW, hsame.mono (by first | decide | exact Nat.le_of_ble_eq_true rfl) (by first | decide | exact Nat.le_of_ble_eq_true rfl)⟩
        show QRd Z sx cs h0 n0 _ T43.heap _
        rw [eq43]
        exact Or.inl ⟨by rw [own_read, hs9]; show (if _ then _ else _) = _; rw [← hee, if_neg hq39, if_pos hq46], rfl, N43, rfl⟩
      · have c48 : SS p e below S0 (T43.setTop (mkF m 84 #[vr sx, vi a1, vi ee, vi 0] [])) := c45.trans (by
          show SS p e below (T43.setTop (mkF m 77 #[vr sx, vi a1, vi ee, o9] [(.int ((Int32.ofNat cs.length) - (1 : Int32))), (.int a1)])) _
          refine XS.icmpYes X43.here hx rfl (pc0 := 77) (pc' := 82) rfl (hb hby D19_77) rfl (feq hq46).2 (by decide) (by decide) ?_
          refine XS.iconst X43.here hx rfl (hb hby D19_82) ?_
          refine XS.istoreNS X43.here hx rfl (hb hby D19_83) rfl rfl ho9 ?_
          exact Steps.refl _)
        have hle : ∀ k : Nat, k ≤ cs.length → Int32.ofNat k < ee → k < cs.length := own_kle hp9 hl4 hee
        have lp2 : ∀ (n k : Nat) (T : State) (locs : List Loc), n = cs.length - k → k ≤ cs.length → Fr n0 locs → Stand p l e ({ frames := 5, cells := 1, slots := 3, locals := 66 } : Room) s m #[(.ref sx)] below meth c T locs 0 0 → T.heap = h0 → SS p e below S0 (T.setTop (mkF m 84 #[vr sx, vi a1, vi ee, vi (Int32.ofNat k)] [])) →
            ∃ (T : State) (locs : List Loc), Fr n0 locs ∧ Stand p l e ({ frames := 5, cells := 1, slots := 3, locals := 66 } : Room) s m #[(.ref sx)] below meth c T locs 0 0 ∧ T.heap = h0 ∧ SS p e below S0 (T.setTop (mkF m 105 #[vr sx, vi a1, vi ee, vi (Int32.ofNat (own_zs (cs.drop k) k ee))] [])) := by
          intro n
          induction n with
          | zero =>
            intro k T locs hn hkl NN X eT cc
            have c49 : SS p e below S0 (T.setTop (mkF m 105 #[vr sx, vi a1, vi ee, vi (Int32.ofNat k)] [])) := cc.trans (by
              show SS p e below (T.setTop (mkF m 84 #[vr sx, vi a1, vi ee, vi (Int32.ofNat k)] [])) _
              refine XS.iloadN X.here hx rfl (hb hby D19_84) rfl ?_
              refine XS.iloadN X.here hx rfl (hb hby D19_85) rfl ?_
              refine XS.icmpYes X.here hx rfl (pc0 := 86) (pc' := 105) rfl (hb hby D19_86) rfl (flt (fun z => absurd (hle k hkl z) (by omega) : ¬ (Int32.ofNat k) < ee)).2.1 (by decide) (by decide) ?_
              exact Steps.refl _)
            have ek : k = cs.length := by omega
            subst ek
            exact ⟨T, _, NN, X, eT, by rw [List.drop_length]; exact c49⟩
          | succ n ih =>
            intro k T locs hn hkl NN X eT cc
            have hk0 : k < cs.length := by omega
            have hk := hk0
            have c50 : SS p e below S0 (T.setTop (mkF m 86 #[vr sx, vi a1, vi ee, vi (Int32.ofNat k)] [(.int ee), (.int (Int32.ofNat k))])) := cc.trans (by
              show SS p e below (T.setTop (mkF m 84 #[vr sx, vi a1, vi ee, vi (Int32.ofNat k)] [])) _
              refine XS.iloadN X.here hx rfl (hb hby D19_84) rfl ?_
              refine XS.iloadN X.here hx rfl (hb hby D19_85) rfl ?_
              exact Steps.refl _)
            by_cases hq51 : (Int32.ofNat k) < ee
            · have c52 : SS p e below S0 (T.setTop (mkF m 91 #[vr sx, vi a1, vi ee, vi (Int32.ofNat k)] [(.int (Int32.ofNat k)), (.ref sx)])) := c50.trans (by
                show SS p e below (T.setTop (mkF m 86 #[vr sx, vi a1, vi ee, vi (Int32.ofNat k)] [(.int ee), (.int (Int32.ofNat k))])) _
                refine XS.icmpNo X.here hx rfl (hb hby D19_86) rfl (tlt hq51).2.1 ?_
                refine XS.aloadN X.here hx rfl (hb hby D19_89) rfl rfl ?_
                refine XS.iloadN X.here hx rfl (hb hby D19_90) rfl ?_
                exact Steps.refl _)
              obtain ⟨cq53, kq53, q53a, q53b, q53c⟩ := isOf hZ eT Sg.1
              obtain ⟨_, _, ⟨T53, L53, kk53, nn53⟩, -, X53, ⟨Lc53, hQ53, l53, y53, z53⟩, st53⟩ := X.virtualBack hx (y := (⟨"java/lang/String", "charAt", "(I)C"⟩ : MethodName)) (z := (⟨"java/lang/String", "charAt", "(I)C"⟩ : MethodName)) hown (mvT hZ (ww hw 60 rfl)) (mvT hZ (ww hw 61 rfl)) (notFace_of_selects (args := #[]) (mvT hZ (ww hw 63 rfl))) (mvT hZ (ww hw 63 rfl)) (mvT hZ (ww hw 62 rfl)) (by decide) (backOf (W := 0) (rmCA l Z a0 hw [] sx tx kx cd N vs cs k G1 G3 h0 n0 Z0 Sg hk sAD sHI sLO O2 P5 X00 O4 rG3) hZ (ww hw 64 rfl) (ww hw 10 rfl) (by decide) (by decide)) q53a q53c (g := (mkF m 91 #[vr sx, vi a1, vi ee, vi (Int32.ofNat k)] [(.int (Int32.ofNat k)), (.ref sx)])) rfl (by rw [hml]; rfl) (Steps.refl _) (argsL := [(.int (Int32.ofNat k))]) (rest := []) (lenOf pd_oIcC rfl) rfl (by show 2 * 0 + _ ≤ _; exact Nat.le_of_eq rfl) (hb hby D19_91) (fun _ _ => ⟨rfl, eT, (by decide : 0 + 0 ≤ _), (by decide : 0 + 0 ≤ _)⟩)
              dsimp only [Pt.U, Pt.locs, Pt.cells, Pt.slots] at X53 l53 y53 z53 st53 hQ53
              subst l53 y53 z53
              obtain ⟨rfl, Nq53, eq53⟩ := hQ53
              have c54 : SS p e below S0 (T53.setTop (mkF m 94 #[vr sx, vi a1, vi ee, vi (Int32.ofNat k)] [(.int (cs.getD k 0))])) := c52.trans (st53)
              have N53 := Fr.app NN Nq53
              have c55 : SS p e below S0 (T53.setTop (mkF m 96 #[vr sx, vi a1, vi ee, vi (Int32.ofNat k)] [(.int 48), (.int (cs.getD k 0))])) := c54.trans (by
                show SS p e below (T53.setTop (mkF m 94 #[vr sx, vi a1, vi ee, vi (Int32.ofNat k)] [(.int (cs.getD k 0))])) _
                refine XS.bipush X53.here hx rfl (hb hby D19_94) ?_
                exact Steps.refl _)
              by_cases hq56 : (cs.getD k 0) = (48 : Int32)
              · have c57 : SS p e below S0 (T53.setTop (mkF m 84 #[vr sx, vi a1, vi ee, vi ((Int32.ofNat k) + (1 : Int32))] [])) := c55.trans (by
                  show SS p e below (T53.setTop (mkF m 96 #[vr sx, vi a1, vi ee, vi (Int32.ofNat k)] [(.int 48), (.int (cs.getD k 0))])) _
                  refine XS.icmpNo X53.here hx rfl (hb hby D19_96) rfl (teq hq56).2 ?_
                  refine XS.iinc X53.here hx rfl (hb hby D19_99) rfl (l' := #[vr sx, vi a1, vi ee, vi ((Int32.ofNat k) + (1 : Int32))]) rfl ?_
                  refine XS.goto X53.here hx rfl (pc0 := 102) (pc' := 84) rfl (hb hby D19_102) (by decide) (by decide) ?_
                  exact Steps.refl _)
                have e1 : Int32.ofNat k + (1 : Int32) = Int32.ofNat (k + 1) := (inc_ofNat k).symm
                rw [e1] at c57
                rw [own_drop hk0, own_zs, if_pos hq51, if_pos hq56]
                exact ih (k + 1) _ _ (by omega) (by omega) N53 X53 eq53 c57
              · have c58 : SS p e below S0 (T53.setTop (mkF m 105 #[vr sx, vi a1, vi ee, vi (Int32.ofNat k)] [])) := c55.trans (by
                  show SS p e below (T53.setTop (mkF m 96 #[vr sx, vi a1, vi ee, vi (Int32.ofNat k)] [(.int 48), (.int (cs.getD k 0))])) _
                  refine XS.icmpYes X53.here hx rfl (pc0 := 96) (pc' := 105) rfl (hb hby D19_96) rfl (feq hq56).2 (by decide) (by decide) ?_
                  exact Steps.refl _)
                exact ⟨T53, _, N53, X53, eq53, by rw [own_drop hk0, own_zs, if_pos hq51, if_neg hq56]; exact c58⟩
            · have c59 : SS p e below S0 (T.setTop (mkF m 105 #[vr sx, vi a1, vi ee, vi (Int32.ofNat k)] [])) := c50.trans (by
                show SS p e below (T.setTop (mkF m 86 #[vr sx, vi a1, vi ee, vi (Int32.ofNat k)] [(.int ee), (.int (Int32.ofNat k))])) _
                refine XS.icmpYes X.here hx rfl (pc0 := 86) (pc' := 105) rfl (hb hby D19_86) rfl (flt hq51).2.1 (by decide) (by decide) ?_
                exact Steps.refl _)
              exact ⟨T, _, NN, X, eT, by rw [own_drop hk0, own_zs, if_neg hq51]; exact c59⟩
        obtain ⟨T8, l8, N8, X8, e8, c8⟩ := lp2 _ 0 _ _ rfl (Nat.zero_le _) N43 X43 eq43 c48
        rw [List.drop_zero] at c8
        obtain ⟨T60, h60, X60, e60, E60, A60, D60, -, st60⟩ := newO X8 hx hZ hown (ww hw 82 rfl) (ww hw 83 rfl) (ww hw 37 rfl) e8 (g := (mkF m 105 #[vr sx, vi a1, vi ee, vi (Int32.ofNat (own_zs cs 0 ee))] [])) rfl (hb hby D19_105) (by decide) (by decide)
        obtain ⟨b60, g60⟩ : ∃ z, z = h0.size := ⟨_, rfl⟩
        rw [← g60] at A60 D60 st60
        have c61 : SS p e below S0 (T60.setTop (mkF m 108 #[vr sx, vi a1, vi ee, vi (Int32.ofNat (own_zs cs 0 ee))] [(.ref b60)])) := c8.trans (st60 _ (Steps.refl _))
        have z60 : n0 ≤ h60.size := Nat.le_trans Z0 E60.1
        have K60 := K0.ext E60
        have lt_b60 : b60 < h60.size := A60.lt
        have F60_text : Fld Z h60 b60 "com/example/pricefold/pricefold/model/DecimalText" "text" "Ljava/lang/String;" .null := D60 (Or.inr (ww hw 89 rfl)) (ty := (.object "java/lang/String")) (by decide)
        have F60_wholeStart : Fld Z h60 b60 "com/example/pricefold/pricefold/model/DecimalText" "wholeStart" "I" (.int 0) := D60 (Or.inr (ww hw 91 rfl)) (ty := .int) (by decide)
        have F60_wholeEnd : Fld Z h60 b60 "com/example/pricefold/pricefold/model/DecimalText" "wholeEnd" "I" (.int 0) := D60 (Or.inr (ww hw 93 rfl)) (ty := .int) (by decide)
        have c62 : SS p e below S0 (T60.setTop (mkF m 112 #[vr sx, vi a1, vi ee, vi (Int32.ofNat (own_zs cs 0 ee))] [(.int ee), (.int (Int32.ofNat (own_zs cs 0 ee))), (.ref sx), (.ref b60), (.ref b60)])) := c61.trans (by
          show SS p e below (T60.setTop (mkF m 108 #[vr sx, vi a1, vi ee, vi (Int32.ofNat (own_zs cs 0 ee))] [(.ref b60)])) _
          refine XS.dup X60.here hx rfl (hb hby D19_108) rfl rfl ?_
          refine XS.aloadN X60.here hx rfl (hb hby D19_109) rfl rfl ?_
          refine XS.iloadN X60.here hx rfl (hb hby D19_110) rfl ?_
          refine XS.iloadN X60.here hx rfl (hb hby D19_111) rfl ?_
          exact Steps.refl _)
        obtain ⟨_, _, ⟨T63, L63, kk63, nn63⟩, -, X63, ⟨Lc63, hQ63, l63, y63, z63⟩, st63⟩ := X60.specialBack hx (y := (⟨"com/example/pricefold/pricefold/model/DecimalText", "<init>", "(Ljava/lang/String;II)V"⟩ : MethodName)) rfl hown (mvT hZ (ww hw 84 rfl)) (mvT hZ (ww hw 85 rfl)) (mvT hZ (ww hw 86 rfl)) (by decide) (backOf (W := 1) (rmIni l Z a0 hw [] b60 sx (Int32.ofNat (own_zs cs 0 ee)) ee h60 n0 z60 (Nat.le_trans Z0 (Nat.le_trans K0.1 (Nat.le_of_eq g60.symm))) A60 F60_text F60_wholeStart F60_wholeEnd) hZ (ww hw 86 rfl) (ww hw 37 rfl) (by decide) (by decide)) (g := (mkF m 112 #[vr sx, vi a1, vi ee, vi (Int32.ofNat (own_zs cs 0 ee))] [(.int ee), (.int (Int32.ofNat (own_zs cs 0 ee))), (.ref sx), (.ref b60), (.ref b60)])) rfl (by rw [hml]; rfl) (Steps.refl _) (a := b60) (argsL := [(.ref sx), (.int (Int32.ofNat (own_zs cs 0 ee))), (.int ee)]) (rest := [(.ref b60)]) (lenOf pd_oLjavaslangsStringeIIcV rfl) rfl (by show 2 * 0 + _ ≤ _; exact Nat.le_of_eq rfl) (hb hby D19_112) (fun _ _ => ⟨rfl, e60, (by decide : 1 + 0 ≤ _), (by decide : 3 + 0 ≤ _)⟩)
        dsimp only [Pt.U, Pt.locs, Pt.cells, Pt.slots] at X63 l63 y63 z63 st63 hQ63
        subst l63 y63 z63
        obtain ⟨rfl, Nq63, Kq63, Ei63, Fa63, Fb63, Fd63⟩ := hQ63
        have c64 : SS p e below S0 (T63.setTop (mkF m 115 #[vr sx, vi a1, vi ee, vi (Int32.ofNat (own_zs cs 0 ee))] [(.ref b60)])) := c62.trans (st63)
        have N63 := Fr.app N8 Nq63
        have z63 : n0 ≤ T63.heap.size := Nat.le_trans z60 Kq63.1
        have K63 := K60.trans Kq63 (allS (Or.inr (Nat.le_trans K0.1 (Nat.le_of_eq g60.symm))) all0)
        obtain ⟨fs, hr, hrun, hended, hW, hsame⟩ := X63.leave (v := some (.ref b60)) (fun h => by rw [Bd.returns] at h; cases h)
        refine ⟨_, _, c64.trans (retOut X63 hx Bd.returns rfl (Or.inr (Or.inr (Or.inr (Or.inr ⟨rfl, rfl, rfl⟩)))) (hb hby D19_115) hr), hrun, hended, _, _, rfl, ?_, ⟨_, rfl⟩, hW, hsame.mono (by first | decide | exact Nat.le_of_ble_eq_true rfl) (by first | decide | exact Nat.le_of_ble_eq_true rfl)⟩
        show QRd Z sx cs h0 n0 _ T63.heap _
        exact Or.inr ⟨_, _, _, by rw [own_read, hs9]; show (if _ then _ else _) = _; rw [← hee, if_neg hq39, if_neg hq46], rfl, N63, K63, (Nat.le_trans K0.1 (Nat.le_of_eq g60.symm)), Ei63, Fa63, Fb63, Fd63⟩

def own_odd (ch i n : Int32) : Int32 := if i < n then (if ch = 46 then 0 else if ch < 48 then 1 else if 57 < ch then 1 else 0) else 0
def own_pt (ch i n : Int32) : Int32 := if i < n then (if ch = 46 then 1 else 0) else 0
def own_zero (ch i n : Int32) : Int32 := if i < n then (if ch = 48 then 1 else 0) else 0
def QDr (Z : State) (h0 : Heap) (n0 : Nat) (v : Option Value) (h : Heap) (L : List Loc) : Prop := ∃ r : Int32, v = some (.int r) ∧ C16 r ∧ Fr n0 L ∧ h = h0

theorem D20_0 : decode method_4_code 0 = .ok (.iload_n 1, 1) := by decide +kernel
theorem D20_1 : decode method_4_code 1 = .ok (.iload_n 2, 1) := by decide +kernel
theorem D20_2 : decode method_4_code 2 = .ok (.if_icmp .ge 25, 3) := by decide +kernel
theorem D20_5 : decode method_4_code 5 = .ok (.iload_n 0, 1) := by decide +kernel
theorem D20_6 : decode method_4_code 6 = .ok (.bipush 46, 2) := by decide +kernel
theorem D20_8 : decode method_4_code 8 = .ok (.if_icmp .eq 19, 3) := by decide +kernel
theorem D20_27 : decode method_4_code 27 = .ok (.iconst 0, 1) := by decide +kernel
theorem D20_28 : decode method_4_code 28 = .ok (.ireturn, 1) := by decide +kernel
theorem D20_11 : decode method_4_code 11 = .ok (.iload_n 0, 1) := by decide +kernel
theorem D20_12 : decode method_4_code 12 = .ok (.bipush 48, 2) := by decide +kernel
theorem D20_14 : decode method_4_code 14 = .ok (.if_icmp .lt 9, 3) := by decide +kernel
theorem D20_23 : decode method_4_code 23 = .ok (.iconst 1, 1) := by decide +kernel
theorem D20_24 : decode method_4_code 24 = .ok (.goto 4, 3) := by decide +kernel
theorem D20_17 : decode method_4_code 17 = .ok (.iload_n 0, 1) := by decide +kernel
theorem D20_18 : decode method_4_code 18 = .ok (.bipush 57, 2) := by decide +kernel
theorem D20_20 : decode method_4_code 20 = .ok (.if_icmp .le 7, 3) := by decide +kernel
theorem pn_com_example_pricefold_pricefold_model_DecimalTextReadPinLaw : plainName "com/example/pricefold/pricefold/model/DecimalTextReadPinLaw" = true := by first | (simp [plainName, overriddenIn]; done) | decide +kernel
theorem ef_rm_odd (m : MethodId) (x0 : Int32) (x1 : Int32) (x2 : Int32) : entryFrame m #[(.int x0), (.int x1), (.int x2)] 3 = mkF m 0 #[.val (.int x0), .val (.int x1), .val (.int x2)] [] := by first | (simp [entryFrame, mkF, argsToLocals, Value.category]; done) | rfl
set_option maxRecDepth 65536 in
set_option maxHeartbeats 40000000 in
theorem rm_odd (l : Launch) (Z : State) (a0 : Array Value) (hw : ∀ d ∈ tables_1, d.before a0 Z = true) (ws : List Jvm.Cond) (ch i n : Int32) (h0 : Heap) (n0 : Nat) (Z0 : n0 ≤ h0.size)  :
    MetFree l (⟨"com/example/pricefold/pricefold/model/DecimalTextReadPinLaw", "odd", "(CII)Z"⟩ : MethodName) (head1 (Jvm.Cond.code (⟨"com/example/pricefold/pricefold/model/DecimalTextReadPinLaw", "odd", "(CII)Z"⟩ : MethodName) method_4_code 3 (some .boolean) :: ws) ({ frames := 0, cells := 0, slots := 0, locals := 0 } : Room)) (fun aa U => aa = #[(.int ch), (.int i), (.int n)] ∧ Z.Warmed39 U.vm ∧ U.heap = h0) (fun _ _ _ _ _ => True) (fun _ U o U' => ∃ v L, o = .returned v ∧ QInt Z (own_odd ch i n) h0 n0 v U'.heap L ∧ FrameEnd U o U' L ({ frames := 0, cells := 0, slots := 0, locals := 0 } : Room).cells ({ frames := 0, cells := 0, slots := 0, locals := 0 } : Room).slots) := by
  refine MetFree.of_bodySF (plainFor_of_name pn_com_example_pricefold_pricefold_model_DecimalTextReadPinLaw) hisR ?_
  intro p e s m args below meth c s₁ Bd hml0 hP hK
  obtain ⟨rfl, hZ, hh⟩ := hP
  have hx := Bd.exec
  have hby := Bd.bytes
  have hml : c.maxLocals = 3 := hml0
  have hown : s.vm.findClass "com/example/pricefold/pricefold/model/DecimalTextReadPinLaw" = some m.cls := findClass_of_methodNamed Bd.named
  have hnm := (name_of_methodNamed Bd.named Bd.method).1
  have X0 : Stand p l e ({ frames := 0, cells := 0, slots := 0, locals := 0 } : Room) s m #[(.int ch), (.int i), (.int n)] below meth c s₁ [] 0 0 := Stand.of_body Bd
  have e0 : s₁.heap = h0 := by rw [← hh, Bd.state]; rfl
  have N0 := Fr.nil n0
  have K0 := Keep.refl h0 []
  obtain ⟨S0, hS0⟩ : ∃ z, z = s₁.setTop (entryFrame m #[(.int ch), (.int i), (.int n)] 3) := ⟨_, rfl⟩
  rw [← hS0]
  have c0 : SS p e below S0 (s₁.setTop (mkF m 0 #[vi ch, vi i, vi n] [])) := by
    rw [hS0]; exact castTop (ef_rm_odd m ch i n) (Steps.refl _)
  have c1 : SS p e below S0 (s₁.setTop (mkF m 2 #[vi ch, vi i, vi n] [(.int n), (.int i)])) := c0.trans (by
    show SS p e below (s₁.setTop (mkF m 0 #[vi ch, vi i, vi n] [])) _
    refine XS.iloadN X0.here hx rfl (hb hby D20_0) rfl ?_
    refine XS.iloadN X0.here hx rfl (hb hby D20_1) rfl ?_
    exact Steps.refl _)
  by_cases hq2 : i < n
  · have c3 : SS p e below S0 (s₁.setTop (mkF m 8 #[vi ch, vi i, vi n] [(.int 46), (.int ch)])) := c1.trans (by
      show SS p e below (s₁.setTop (mkF m 2 #[vi ch, vi i, vi n] [(.int n), (.int i)])) _
      refine XS.icmpNo X0.here hx rfl (hb hby D20_2) rfl (tlt hq2).2.1 ?_
      refine XS.iloadN X0.here hx rfl (hb hby D20_5) rfl ?_
      refine XS.bipush X0.here hx rfl (hb hby D20_6) ?_
      exact Steps.refl _)
    by_cases hq4 : ch = (46 : Int32)
    · have c5 : SS p e below S0 (s₁.setTop (mkF m 28 #[vi ch, vi i, vi n] [(.int 0)])) := c3.trans (by
        show SS p e below (s₁.setTop (mkF m 8 #[vi ch, vi i, vi n] [(.int 46), (.int ch)])) _
        refine XS.icmpYes X0.here hx rfl (pc0 := 8) (pc' := 27) rfl (hb hby D20_8) rfl (teq hq4).1 (by decide) (by decide) ?_
        refine XS.iconst X0.here hx rfl (hb hby D20_27) ?_
        exact Steps.refl _)
      obtain ⟨fs, hr, hrun, hended, hW, hsame⟩ := X0.leave (v := some (.int 0)) (fun h => by rw [Bd.returns] at h; cases h)
      refine ⟨_, _, c5.trans (retOut X0 hx Bd.returns rfl (Or.inl ⟨rfl, by simp, _, rfl⟩) (hb hby D20_28) hr), hrun, hended, _, _, rfl, ?_, ⟨_, rfl⟩, hW, hsame.mono (by first | decide | exact Nat.le_of_ble_eq_true rfl) (by first | decide | exact Nat.le_of_ble_eq_true rfl)⟩
      show QInt Z (own_odd ch i n) h0 n0 _ s₁.heap _
      rw [e0]
      exact ⟨by rw [own_odd, if_pos hq2, if_pos hq4], N0, rfl⟩
    · have c6 : SS p e below S0 (s₁.setTop (mkF m 14 #[vi ch, vi i, vi n] [(.int 48), (.int ch)])) := c3.trans (by
        show SS p e below (s₁.setTop (mkF m 8 #[vi ch, vi i, vi n] [(.int 46), (.int ch)])) _
        refine XS.icmpNo X0.here hx rfl (hb hby D20_8) rfl (feq hq4).1 ?_
        refine XS.iloadN X0.here hx rfl (hb hby D20_11) rfl ?_
        refine XS.bipush X0.here hx rfl (hb hby D20_12) ?_
        exact Steps.refl _)
      by_cases hq7 : ch < (48 : Int32)
      · have c8 : SS p e below S0 (s₁.setTop (mkF m 28 #[vi ch, vi i, vi n] [(.int 1)])) := c6.trans (by
          show SS p e below (s₁.setTop (mkF m 14 #[vi ch, vi i, vi n] [(.int 48), (.int ch)])) _
          refine XS.icmpYes X0.here hx rfl (pc0 := 14) (pc' := 23) rfl (hb hby D20_14) rfl (tlt hq7).1 (by decide) (by decide) ?_
          refine XS.iconst X0.here hx rfl (hb hby D20_23) ?_
          refine XS.goto X0.here hx rfl (pc0 := 24) (pc' := 28) rfl (hb hby D20_24) (by decide) (by decide) ?_
          exact Steps.refl _)
        obtain ⟨fs, hr, hrun, hended, hW, hsame⟩ := X0.leave (v := some (.int 1)) (fun h => by rw [Bd.returns] at h; cases h)
        refine ⟨_, _, c8.trans (retOut X0 hx Bd.returns rfl (Or.inl ⟨rfl, by simp, _, rfl⟩) (hb hby D20_28) hr), hrun, hended, _, _, rfl, ?_, ⟨_, rfl⟩, hW, hsame.mono (by first | decide | exact Nat.le_of_ble_eq_true rfl) (by first | decide | exact Nat.le_of_ble_eq_true rfl)⟩
        show QInt Z (own_odd ch i n) h0 n0 _ s₁.heap _
        rw [e0]
        exact ⟨by rw [own_odd, if_pos hq2, if_neg hq4, if_pos hq7], N0, rfl⟩
      · have c9 : SS p e below S0 (s₁.setTop (mkF m 20 #[vi ch, vi i, vi n] [(.int 57), (.int ch)])) := c6.trans (by
          show SS p e below (s₁.setTop (mkF m 14 #[vi ch, vi i, vi n] [(.int 48), (.int ch)])) _
          refine XS.icmpNo X0.here hx rfl (hb hby D20_14) rfl (flt hq7).1 ?_
          refine XS.iloadN X0.here hx rfl (hb hby D20_17) rfl ?_
          refine XS.bipush X0.here hx rfl (hb hby D20_18) ?_
          exact Steps.refl _)
        by_cases hq10 : (57 : Int32) < ch
        · have c11 : SS p e below S0 (s₁.setTop (mkF m 28 #[vi ch, vi i, vi n] [(.int 1)])) := c9.trans (by
            show SS p e below (s₁.setTop (mkF m 20 #[vi ch, vi i, vi n] [(.int 57), (.int ch)])) _
            refine XS.icmpNo X0.here hx rfl (hb hby D20_20) rfl (tlt hq10).2.2.2 ?_
            refine XS.iconst X0.here hx rfl (hb hby D20_23) ?_
            refine XS.goto X0.here hx rfl (pc0 := 24) (pc' := 28) rfl (hb hby D20_24) (by decide) (by decide) ?_
            exact Steps.refl _)
          obtain ⟨fs, hr, hrun, hended, hW, hsame⟩ := X0.leave (v := some (.int 1)) (fun h => by rw [Bd.returns] at h; cases h)
          refine ⟨_, _, c11.trans (retOut X0 hx Bd.returns rfl (Or.inl ⟨rfl, by simp, _, rfl⟩) (hb hby D20_28) hr), hrun, hended, _, _, rfl, ?_, ⟨_, rfl⟩, hW, hsame.mono (by first | decide | exact Nat.le_of_ble_eq_true rfl) (by first | decide | exact Nat.le_of_ble_eq_true rfl)⟩
          show QInt Z (own_odd ch i n) h0 n0 _ s₁.heap _
          rw [e0]
          exact ⟨by rw [own_odd, if_pos hq2, if_neg hq4, if_neg hq7, if_pos hq10], N0, rfl⟩
        · have c12 : SS p e below S0 (s₁.setTop (mkF m 28 #[vi ch, vi i, vi n] [(.int 0)])) := c9.trans (by
            show SS p e below (s₁.setTop (mkF m 20 #[vi ch, vi i, vi n] [(.int 57), (.int ch)])) _
            refine XS.icmpYes X0.here hx rfl (pc0 := 20) (pc' := 27) rfl (hb hby D20_20) rfl (flt hq10).2.2.2 (by decide) (by decide) ?_
            refine XS.iconst X0.here hx rfl (hb hby D20_27) ?_
            exact Steps.refl _)
          obtain ⟨fs, hr, hrun, hended, hW, hsame⟩ := X0.leave (v := some (.int 0)) (fun h => by rw [Bd.returns] at h; cases h)
          refine ⟨_, _, c12.trans (retOut X0 hx Bd.returns rfl (Or.inl ⟨rfl, by simp, _, rfl⟩) (hb hby D20_28) hr), hrun, hended, _, _, rfl, ?_, ⟨_, rfl⟩, hW, hsame.mono (by first | decide | exact Nat.le_of_ble_eq_true rfl) (by first | decide | exact Nat.le_of_ble_eq_true rfl)⟩
          show QInt Z (own_odd ch i n) h0 n0 _ s₁.heap _
          rw [e0]
          exact ⟨by rw [own_odd, if_pos hq2, if_neg hq4, if_neg hq7, if_neg hq10], N0, rfl⟩
  · have c13 : SS p e below S0 (s₁.setTop (mkF m 28 #[vi ch, vi i, vi n] [(.int 0)])) := c1.trans (by
      show SS p e below (s₁.setTop (mkF m 2 #[vi ch, vi i, vi n] [(.int n), (.int i)])) _
      refine XS.icmpYes X0.here hx rfl (pc0 := 2) (pc' := 27) rfl (hb hby D20_2) rfl (flt hq2).2.1 (by decide) (by decide) ?_
      refine XS.iconst X0.here hx rfl (hb hby D20_27) ?_
      exact Steps.refl _)
    obtain ⟨fs, hr, hrun, hended, hW, hsame⟩ := X0.leave (v := some (.int 0)) (fun h => by rw [Bd.returns] at h; cases h)
    refine ⟨_, _, c13.trans (retOut X0 hx Bd.returns rfl (Or.inl ⟨rfl, by simp, _, rfl⟩) (hb hby D20_28) hr), hrun, hended, _, _, rfl, ?_, ⟨_, rfl⟩, hW, hsame.mono (by first | decide | exact Nat.le_of_ble_eq_true rfl) (by first | decide | exact Nat.le_of_ble_eq_true rfl)⟩
    show QInt Z (own_odd ch i n) h0 n0 _ s₁.heap _
    rw [e0]
    exact ⟨by rw [own_odd, if_neg hq2], N0, rfl⟩

theorem D21_0 : decode method_5_code 0 = .ok (.iload_n 1, 1) := by decide +kernel
theorem D21_1 : decode method_5_code 1 = .ok (.iload_n 2, 1) := by decide +kernel
theorem D21_2 : decode method_5_code 2 = .ok (.if_icmp .ge 13, 3) := by decide +kernel
theorem D21_5 : decode method_5_code 5 = .ok (.iload_n 0, 1) := by decide +kernel
theorem D21_6 : decode method_5_code 6 = .ok (.bipush 46, 2) := by decide +kernel
theorem D21_8 : decode method_5_code 8 = .ok (.if_icmp .ne 7, 3) := by decide +kernel
theorem D21_11 : decode method_5_code 11 = .ok (.iconst 1, 1) := by decide +kernel
theorem D21_12 : decode method_5_code 12 = .ok (.goto 4, 3) := by decide +kernel
theorem D21_16 : decode method_5_code 16 = .ok (.ireturn, 1) := by decide +kernel
theorem D21_15 : decode method_5_code 15 = .ok (.iconst 0, 1) := by decide +kernel
theorem ef_rm_pt (m : MethodId) (x0 : Int32) (x1 : Int32) (x2 : Int32) : entryFrame m #[(.int x0), (.int x1), (.int x2)] 3 = mkF m 0 #[.val (.int x0), .val (.int x1), .val (.int x2)] [] := by first | (simp [entryFrame, mkF, argsToLocals, Value.category]; done) | rfl
set_option maxRecDepth 65536 in
set_option maxHeartbeats 40000000 in
theorem rm_pt (l : Launch) (Z : State) (a0 : Array Value) (hw : ∀ d ∈ tables_1, d.before a0 Z = true) (ws : List Jvm.Cond) (ch i n : Int32) (h0 : Heap) (n0 : Nat) (Z0 : n0 ≤ h0.size)  :
    MetFree l (⟨"com/example/pricefold/pricefold/model/DecimalTextReadPinLaw", "pt", "(CII)I"⟩ : MethodName) (head1 (Jvm.Cond.code (⟨"com/example/pricefold/pricefold/model/DecimalTextReadPinLaw", "pt", "(CII)I"⟩ : MethodName) method_5_code 3 (some .int) :: ws) ({ frames := 0, cells := 0, slots := 0, locals := 0 } : Room)) (fun aa U => aa = #[(.int ch), (.int i), (.int n)] ∧ Z.Warmed39 U.vm ∧ U.heap = h0) (fun _ _ _ _ _ => True) (fun _ U o U' => ∃ v L, o = .returned v ∧ QInt Z (own_pt ch i n) h0 n0 v U'.heap L ∧ FrameEnd U o U' L ({ frames := 0, cells := 0, slots := 0, locals := 0 } : Room).cells ({ frames := 0, cells := 0, slots := 0, locals := 0 } : Room).slots) := by
  refine MetFree.of_bodySF (plainFor_of_name pn_com_example_pricefold_pricefold_model_DecimalTextReadPinLaw) hisR ?_
  intro p e s m args below meth c s₁ Bd hml0 hP hK
  obtain ⟨rfl, hZ, hh⟩ := hP
  have hx := Bd.exec
  have hby := Bd.bytes
  have hml : c.maxLocals = 3 := hml0
  have hown : s.vm.findClass "com/example/pricefold/pricefold/model/DecimalTextReadPinLaw" = some m.cls := findClass_of_methodNamed Bd.named
  have hnm := (name_of_methodNamed Bd.named Bd.method).1
  have X0 : Stand p l e ({ frames := 0, cells := 0, slots := 0, locals := 0 } : Room) s m #[(.int ch), (.int i), (.int n)] below meth c s₁ [] 0 0 := Stand.of_body Bd
  have e0 : s₁.heap = h0 := by rw [← hh, Bd.state]; rfl
  have N0 := Fr.nil n0
  have K0 := Keep.refl h0 []
  obtain ⟨S0, hS0⟩ : ∃ z, z = s₁.setTop (entryFrame m #[(.int ch), (.int i), (.int n)] 3) := ⟨_, rfl⟩
  rw [← hS0]
  have c0 : SS p e below S0 (s₁.setTop (mkF m 0 #[vi ch, vi i, vi n] [])) := by
    rw [hS0]; exact castTop (ef_rm_pt m ch i n) (Steps.refl _)
  have c1 : SS p e below S0 (s₁.setTop (mkF m 2 #[vi ch, vi i, vi n] [(.int n), (.int i)])) := c0.trans (by
    show SS p e below (s₁.setTop (mkF m 0 #[vi ch, vi i, vi n] [])) _
    refine XS.iloadN X0.here hx rfl (hb hby D21_0) rfl ?_
    refine XS.iloadN X0.here hx rfl (hb hby D21_1) rfl ?_
    exact Steps.refl _)
  by_cases hq2 : i < n
  · have c3 : SS p e below S0 (s₁.setTop (mkF m 8 #[vi ch, vi i, vi n] [(.int 46), (.int ch)])) := c1.trans (by
      show SS p e below (s₁.setTop (mkF m 2 #[vi ch, vi i, vi n] [(.int n), (.int i)])) _
      refine XS.icmpNo X0.here hx rfl (hb hby D21_2) rfl (tlt hq2).2.1 ?_
      refine XS.iloadN X0.here hx rfl (hb hby D21_5) rfl ?_
      refine XS.bipush X0.here hx rfl (hb hby D21_6) ?_
      exact Steps.refl _)
    by_cases hq4 : ch = (46 : Int32)
    · have c5 : SS p e below S0 (s₁.setTop (mkF m 16 #[vi ch, vi i, vi n] [(.int 1)])) := c3.trans (by
        show SS p e below (s₁.setTop (mkF m 8 #[vi ch, vi i, vi n] [(.int 46), (.int ch)])) _
        refine XS.icmpNo X0.here hx rfl (hb hby D21_8) rfl (teq hq4).2 ?_
        refine XS.iconst X0.here hx rfl (hb hby D21_11) ?_
        refine XS.goto X0.here hx rfl (pc0 := 12) (pc' := 16) rfl (hb hby D21_12) (by decide) (by decide) ?_
        exact Steps.refl _)
      obtain ⟨fs, hr, hrun, hended, hW, hsame⟩ := X0.leave (v := some (.int 1)) (fun h => by rw [Bd.returns] at h; cases h)
      refine ⟨_, _, c5.trans (retOut X0 hx Bd.returns rfl (Or.inl ⟨rfl, by simp, _, rfl⟩) (hb hby D21_16) hr), hrun, hended, _, _, rfl, ?_, ⟨_, rfl⟩, hW, hsame.mono (by first | decide | exact Nat.le_of_ble_eq_true rfl) (by first | decide | exact Nat.le_of_ble_eq_true rfl)⟩
      show QInt Z (own_pt ch i n) h0 n0 _ s₁.heap _
      rw [e0]
      exact ⟨by rw [own_pt, if_pos hq2, if_pos hq4], N0, rfl⟩
    · have c6 : SS p e below S0 (s₁.setTop (mkF m 16 #[vi ch, vi i, vi n] [(.int 0)])) := c3.trans (by
        show SS p e below (s₁.setTop (mkF m 8 #[vi ch, vi i, vi n] [(.int 46), (.int ch)])) _
        refine XS.icmpYes X0.here hx rfl (pc0 := 8) (pc' := 15) rfl (hb hby D21_8) rfl (feq hq4).2 (by decide) (by decide) ?_
        refine XS.iconst X0.here hx rfl (hb hby D21_15) ?_
        exact Steps.refl _)
      obtain ⟨fs, hr, hrun, hended, hW, hsame⟩ := X0.leave (v := some (.int 0)) (fun h => by rw [Bd.returns] at h; cases h)
      refine ⟨_, _, c6.trans (retOut X0 hx Bd.returns rfl (Or.inl ⟨rfl, by simp, _, rfl⟩) (hb hby D21_16) hr), hrun, hended, _, _, rfl, ?_, ⟨_, rfl⟩, hW, hsame.mono (by first | decide | exact Nat.le_of_ble_eq_true rfl) (by first | decide | exact Nat.le_of_ble_eq_true rfl)⟩
      show QInt Z (own_pt ch i n) h0 n0 _ s₁.heap _
      rw [e0]
      exact ⟨by rw [own_pt, if_pos hq2, if_neg hq4], N0, rfl⟩
  · have c7 : SS p e below S0 (s₁.setTop (mkF m 16 #[vi ch, vi i, vi n] [(.int 0)])) := c1.trans (by
      show SS p e below (s₁.setTop (mkF m 2 #[vi ch, vi i, vi n] [(.int n), (.int i)])) _
      refine XS.icmpYes X0.here hx rfl (pc0 := 2) (pc' := 15) rfl (hb hby D21_2) rfl (flt hq2).2.1 (by decide) (by decide) ?_
      refine XS.iconst X0.here hx rfl (hb hby D21_15) ?_
      exact Steps.refl _)
    obtain ⟨fs, hr, hrun, hended, hW, hsame⟩ := X0.leave (v := some (.int 0)) (fun h => by rw [Bd.returns] at h; cases h)
    refine ⟨_, _, c7.trans (retOut X0 hx Bd.returns rfl (Or.inl ⟨rfl, by simp, _, rfl⟩) (hb hby D21_16) hr), hrun, hended, _, _, rfl, ?_, ⟨_, rfl⟩, hW, hsame.mono (by first | decide | exact Nat.le_of_ble_eq_true rfl) (by first | decide | exact Nat.le_of_ble_eq_true rfl)⟩
    show QInt Z (own_pt ch i n) h0 n0 _ s₁.heap _
    rw [e0]
    exact ⟨by rw [own_pt, if_neg hq2], N0, rfl⟩

theorem D22_0 : decode method_6_code 0 = .ok (.iload_n 1, 1) := by decide +kernel
theorem D22_1 : decode method_6_code 1 = .ok (.iload_n 2, 1) := by decide +kernel
theorem D22_2 : decode method_6_code 2 = .ok (.if_icmp .ge 13, 3) := by decide +kernel
theorem D22_5 : decode method_6_code 5 = .ok (.iload_n 0, 1) := by decide +kernel
theorem D22_6 : decode method_6_code 6 = .ok (.bipush 48, 2) := by decide +kernel
theorem D22_8 : decode method_6_code 8 = .ok (.if_icmp .ne 7, 3) := by decide +kernel
theorem D22_11 : decode method_6_code 11 = .ok (.iconst 1, 1) := by decide +kernel
theorem D22_12 : decode method_6_code 12 = .ok (.goto 4, 3) := by decide +kernel
theorem D22_16 : decode method_6_code 16 = .ok (.ireturn, 1) := by decide +kernel
theorem D22_15 : decode method_6_code 15 = .ok (.iconst 0, 1) := by decide +kernel
theorem ef_rm_zero (m : MethodId) (x0 : Int32) (x1 : Int32) (x2 : Int32) : entryFrame m #[(.int x0), (.int x1), (.int x2)] 3 = mkF m 0 #[.val (.int x0), .val (.int x1), .val (.int x2)] [] := by first | (simp [entryFrame, mkF, argsToLocals, Value.category]; done) | rfl
set_option maxRecDepth 65536 in
set_option maxHeartbeats 40000000 in
theorem rm_zero (l : Launch) (Z : State) (a0 : Array Value) (hw : ∀ d ∈ tables_1, d.before a0 Z = true) (ws : List Jvm.Cond) (ch i n : Int32) (h0 : Heap) (n0 : Nat) (Z0 : n0 ≤ h0.size)  :
    MetFree l (⟨"com/example/pricefold/pricefold/model/DecimalTextReadPinLaw", "zero", "(CII)Z"⟩ : MethodName) (head1 (Jvm.Cond.code (⟨"com/example/pricefold/pricefold/model/DecimalTextReadPinLaw", "zero", "(CII)Z"⟩ : MethodName) method_6_code 3 (some .boolean) :: ws) ({ frames := 0, cells := 0, slots := 0, locals := 0 } : Room)) (fun aa U => aa = #[(.int ch), (.int i), (.int n)] ∧ Z.Warmed39 U.vm ∧ U.heap = h0) (fun _ _ _ _ _ => True) (fun _ U o U' => ∃ v L, o = .returned v ∧ QInt Z (own_zero ch i n) h0 n0 v U'.heap L ∧ FrameEnd U o U' L ({ frames := 0, cells := 0, slots := 0, locals := 0 } : Room).cells ({ frames := 0, cells := 0, slots := 0, locals := 0 } : Room).slots) := by
  refine MetFree.of_bodySF (plainFor_of_name pn_com_example_pricefold_pricefold_model_DecimalTextReadPinLaw) hisR ?_
  intro p e s m args below meth c s₁ Bd hml0 hP hK
  obtain ⟨rfl, hZ, hh⟩ := hP
  have hx := Bd.exec
  have hby := Bd.bytes
  have hml : c.maxLocals = 3 := hml0
  have hown : s.vm.findClass "com/example/pricefold/pricefold/model/DecimalTextReadPinLaw" = some m.cls := findClass_of_methodNamed Bd.named
  have hnm := (name_of_methodNamed Bd.named Bd.method).1
  have X0 : Stand p l e ({ frames := 0, cells := 0, slots := 0, locals := 0 } : Room) s m #[(.int ch), (.int i), (.int n)] below meth c s₁ [] 0 0 := Stand.of_body Bd
  have e0 : s₁.heap = h0 := by rw [← hh, Bd.state]; rfl
  have N0 := Fr.nil n0
  have K0 := Keep.refl h0 []
  obtain ⟨S0, hS0⟩ : ∃ z, z = s₁.setTop (entryFrame m #[(.int ch), (.int i), (.int n)] 3) := ⟨_, rfl⟩
  rw [← hS0]
  have c0 : SS p e below S0 (s₁.setTop (mkF m 0 #[vi ch, vi i, vi n] [])) := by
    rw [hS0]; exact castTop (ef_rm_zero m ch i n) (Steps.refl _)
  have c1 : SS p e below S0 (s₁.setTop (mkF m 2 #[vi ch, vi i, vi n] [(.int n), (.int i)])) := c0.trans (by
    show SS p e below (s₁.setTop (mkF m 0 #[vi ch, vi i, vi n] [])) _
    refine XS.iloadN X0.here hx rfl (hb hby D22_0) rfl ?_
    refine XS.iloadN X0.here hx rfl (hb hby D22_1) rfl ?_
    exact Steps.refl _)
  by_cases hq2 : i < n
  · have c3 : SS p e below S0 (s₁.setTop (mkF m 8 #[vi ch, vi i, vi n] [(.int 48), (.int ch)])) := c1.trans (by
      show SS p e below (s₁.setTop (mkF m 2 #[vi ch, vi i, vi n] [(.int n), (.int i)])) _
      refine XS.icmpNo X0.here hx rfl (hb hby D22_2) rfl (tlt hq2).2.1 ?_
      refine XS.iloadN X0.here hx rfl (hb hby D22_5) rfl ?_
      refine XS.bipush X0.here hx rfl (hb hby D22_6) ?_
      exact Steps.refl _)
    by_cases hq4 : ch = (48 : Int32)
    · have c5 : SS p e below S0 (s₁.setTop (mkF m 16 #[vi ch, vi i, vi n] [(.int 1)])) := c3.trans (by
        show SS p e below (s₁.setTop (mkF m 8 #[vi ch, vi i, vi n] [(.int 48), (.int ch)])) _
        refine XS.icmpNo X0.here hx rfl (hb hby D22_8) rfl (teq hq4).2 ?_
        refine XS.iconst X0.here hx rfl (hb hby D22_11) ?_
        refine XS.goto X0.here hx rfl (pc0 := 12) (pc' := 16) rfl (hb hby D22_12) (by decide) (by decide) ?_
        exact Steps.refl _)
      obtain ⟨fs, hr, hrun, hended, hW, hsame⟩ := X0.leave (v := some (.int 1)) (fun h => by rw [Bd.returns] at h; cases h)
      refine ⟨_, _, c5.trans (retOut X0 hx Bd.returns rfl (Or.inl ⟨rfl, by simp, _, rfl⟩) (hb hby D22_16) hr), hrun, hended, _, _, rfl, ?_, ⟨_, rfl⟩, hW, hsame.mono (by first | decide | exact Nat.le_of_ble_eq_true rfl) (by first | decide | exact Nat.le_of_ble_eq_true rfl)⟩
      show QInt Z (own_zero ch i n) h0 n0 _ s₁.heap _
      rw [e0]
      exact ⟨by rw [own_zero, if_pos hq2, if_pos hq4], N0, rfl⟩
    · have c6 : SS p e below S0 (s₁.setTop (mkF m 16 #[vi ch, vi i, vi n] [(.int 0)])) := c3.trans (by
        show SS p e below (s₁.setTop (mkF m 8 #[vi ch, vi i, vi n] [(.int 48), (.int ch)])) _
        refine XS.icmpYes X0.here hx rfl (pc0 := 8) (pc' := 15) rfl (hb hby D22_8) rfl (feq hq4).2 (by decide) (by decide) ?_
        refine XS.iconst X0.here hx rfl (hb hby D22_15) ?_
        exact Steps.refl _)
      obtain ⟨fs, hr, hrun, hended, hW, hsame⟩ := X0.leave (v := some (.int 0)) (fun h => by rw [Bd.returns] at h; cases h)
      refine ⟨_, _, c6.trans (retOut X0 hx Bd.returns rfl (Or.inl ⟨rfl, by simp, _, rfl⟩) (hb hby D22_16) hr), hrun, hended, _, _, rfl, ?_, ⟨_, rfl⟩, hW, hsame.mono (by first | decide | exact Nat.le_of_ble_eq_true rfl) (by first | decide | exact Nat.le_of_ble_eq_true rfl)⟩
      show QInt Z (own_zero ch i n) h0 n0 _ s₁.heap _
      rw [e0]
      exact ⟨by rw [own_zero, if_pos hq2, if_neg hq4], N0, rfl⟩
  · have c7 : SS p e below S0 (s₁.setTop (mkF m 16 #[vi ch, vi i, vi n] [(.int 0)])) := c1.trans (by
      show SS p e below (s₁.setTop (mkF m 2 #[vi ch, vi i, vi n] [(.int n), (.int i)])) _
      refine XS.icmpYes X0.here hx rfl (pc0 := 2) (pc' := 15) rfl (hb hby D22_2) rfl (flt hq2).2.1 (by decide) (by decide) ?_
      refine XS.iconst X0.here hx rfl (hb hby D22_15) ?_
      exact Steps.refl _)
    obtain ⟨fs, hr, hrun, hended, hW, hsame⟩ := X0.leave (v := some (.int 0)) (fun h => by rw [Bd.returns] at h; cases h)
    refine ⟨_, _, c7.trans (retOut X0 hx Bd.returns rfl (Or.inl ⟨rfl, by simp, _, rfl⟩) (hb hby D22_16) hr), hrun, hended, _, _, rfl, ?_, ⟨_, rfl⟩, hW, hsame.mono (by first | decide | exact Nat.le_of_ble_eq_true rfl) (by first | decide | exact Nat.le_of_ble_eq_true rfl)⟩
    show QInt Z (own_zero ch i n) h0 n0 _ s₁.heap _
    rw [e0]
    exact ⟨by rw [own_zero, if_neg hq2], N0, rfl⟩

theorem D23_0 : decode method_3_code 0 = .ok (.iload_n 0, 1) := by decide +kernel
theorem D23_1 : decode method_3_code 1 = .ok (.ldc 43, 2) := by decide +kernel
theorem D23_3 : decode method_3_code 3 = .ok (.iand, 1) := by decide +kernel
theorem D23_4 : decode method_3_code 4 = .ok (.ifCond .ne 28, 3) := by decide +kernel
theorem D23_7 : decode method_3_code 7 = .ok (.iload_n 0, 1) := by decide +kernel
theorem D23_8 : decode method_3_code 8 = .ok (.ldc 44, 2) := by decide +kernel
theorem D23_10 : decode method_3_code 10 = .ok (.iand, 1) := by decide +kernel
theorem D23_11 : decode method_3_code 11 = .ok (.bipush 12, 2) := by decide +kernel
theorem D23_13 : decode method_3_code 13 = .ok (.irem, 1) := by decide +kernel
theorem D23_14 : decode method_3_code 14 = .ok (.istore_n 1, 1) := by decide +kernel
theorem D23_15 : decode method_3_code 15 = .ok (.iload_n 1, 1) := by decide +kernel
theorem D23_16 : decode method_3_code 16 = .ok (.bipush 10, 2) := by decide +kernel
theorem D23_18 : decode method_3_code 18 = .ok (.if_icmp .ge 11, 3) := by decide +kernel
theorem D23_21 : decode method_3_code 21 = .ok (.bipush 48, 2) := by decide +kernel
theorem D23_23 : decode method_3_code 23 = .ok (.iload_n 1, 1) := by decide +kernel
theorem D23_24 : decode method_3_code 24 = .ok (.iadd, 1) := by decide +kernel
theorem D23_25 : decode method_3_code 25 = .ok (.i2c, 1) := by decide +kernel
theorem D23_26 : decode method_3_code 26 = .ok (.goto 5, 3) := by decide +kernel
theorem D23_31 : decode method_3_code 31 = .ok (.ireturn, 1) := by decide +kernel
theorem D23_29 : decode method_3_code 29 = .ok (.bipush 46, 2) := by decide +kernel
theorem D23_32 : decode method_3_code 32 = .ok (.iload_n 0, 1) := by decide +kernel
theorem D23_33 : decode method_3_code 33 = .ok (.ldc 44, 2) := by decide +kernel
theorem D23_35 : decode method_3_code 35 = .ok (.iand, 1) := by decide +kernel
theorem D23_36 : decode method_3_code 36 = .ok (.i2c, 1) := by decide +kernel
theorem D23_37 : decode method_3_code 37 = .ok (.ireturn, 1) := by decide +kernel
theorem ef_rmDr (m : MethodId) (x0 : Int32) : entryFrame m #[(.int x0)] 2 = mkF m 0 #[.val (.int x0), .unset] [] := by first | (simp [entryFrame, mkF, argsToLocals, Value.category]; done) | rfl
set_option maxRecDepth 65536 in
set_option maxHeartbeats 40000000 in
theorem rmDr (l : Launch) (Z : State) (a0 : Array Value) (hw : ∀ d ∈ tables_1, d.before a0 Z = true) (ws : List Jvm.Cond) (xx : Int32) (h0 : Heap) (n0 : Nat) (Z0 : n0 ≤ h0.size)  :
    MetFree l (⟨"com/example/pricefold/pricefold/model/DecimalTextReadPinLaw", "draw", "(I)C"⟩ : MethodName) (head1 (Jvm.Cond.code (⟨"com/example/pricefold/pricefold/model/DecimalTextReadPinLaw", "draw", "(I)C"⟩ : MethodName) method_3_code 2 (some .char) :: ws) ({ frames := 0, cells := 0, slots := 0, locals := 0 } : Room)) (fun aa U => aa = #[(.int xx)] ∧ Z.Warmed39 U.vm ∧ U.heap = h0) (fun _ _ _ _ _ => True) (fun _ U o U' => ∃ v L, o = .returned v ∧ QDr Z  h0 n0 v U'.heap L ∧ FrameEnd U o U' L ({ frames := 0, cells := 0, slots := 0, locals := 0 } : Room).cells ({ frames := 0, cells := 0, slots := 0, locals := 0 } : Room).slots) := by
  refine MetFree.of_bodySF (plainFor_of_name pn_com_example_pricefold_pricefold_model_DecimalTextReadPinLaw) hisR ?_
  intro p e s m args below meth c s₁ Bd hml0 hP hK
  obtain ⟨rfl, hZ, hh⟩ := hP
  have hx := Bd.exec
  have hby := Bd.bytes
  have hml : c.maxLocals = 2 := hml0
  have hown : s.vm.findClass "com/example/pricefold/pricefold/model/DecimalTextReadPinLaw" = some m.cls := findClass_of_methodNamed Bd.named
  have hnm := (name_of_methodNamed Bd.named Bd.method).1
  have X0 : Stand p l e ({ frames := 0, cells := 0, slots := 0, locals := 0 } : Room) s m #[(.int xx)] below meth c s₁ [] 0 0 := Stand.of_body Bd
  have e0 : s₁.heap = h0 := by rw [← hh, Bd.state]; rfl
  have N0 := Fr.nil n0
  have K0 := Keep.refl h0 []
  obtain ⟨S0, hS0⟩ : ∃ z, z = s₁.setTop (entryFrame m #[(.int xx)] 2) := ⟨_, rfl⟩
  rw [← hS0]
  have c0 : SS p e below S0 (s₁.setTop (mkF m 0 #[vi xx, .unset] [])) := by
    rw [hS0]; exact castTop (ef_rmDr m xx) (Steps.refl _)
  have c1 : SS p e below S0 (s₁.setTop (mkF m 4 #[vi xx, .unset] [(.int (xx &&& (65536 : Int32)))])) := c0.trans (by
    show SS p e below (s₁.setTop (mkF m 0 #[vi xx, .unset] [])) _
    refine XS.iloadN X0.here hx rfl (hb hby D23_0) rfl ?_
    show SS p e below (s₁.setTop (mkF m 1 #[vi xx, .unset] [(.int xx)])) _
    refine X0.ldcInt hx hown (mvT hZ (ww hw 5 rfl)) (g := (mkF m 1 #[vi xx, .unset] [(.int xx)])) rfl (hb hby D23_1) _ ?_
    refine XS.iand X0.here hx rfl (hb hby D23_3) rfl ?_
    exact Steps.refl _)
  by_cases hq2 : (xx &&& (65536 : Int32)) = (0 : Int32)
  · have c3 : SS p e below S0 (s₁.setTop (mkF m 18 #[vi xx, vi ((xx &&& (65535 : Int32)) % (12 : Int32))] [(.int 10), (.int ((xx &&& (65535 : Int32)) % (12 : Int32)))])) := c1.trans (by
      show SS p e below (s₁.setTop (mkF m 4 #[vi xx, .unset] [(.int (xx &&& (65536 : Int32)))])) _
      refine XS.ifNo X0.here hx rfl (hb hby D23_4) rfl ((if0 _ _).trans (teq hq2).2) ?_
      refine XS.iloadN X0.here hx rfl (hb hby D23_7) rfl ?_
      show SS p e below (s₁.setTop (mkF m 8 #[vi xx, .unset] [(.int xx)])) _
      refine X0.ldcInt hx hown (mvT hZ (ww hw 6 rfl)) (g := (mkF m 8 #[vi xx, .unset] [(.int xx)])) rfl (hb hby D23_8) _ ?_
      refine XS.iand X0.here hx rfl (hb hby D23_10) rfl ?_
      refine XS.bipush X0.here hx rfl (hb hby D23_11) ?_
      show SS p e below (s₁.setTop (mkF m 13 #[vi xx, .unset] [(.int 12), (.int (xx &&& (65535 : Int32)))])) _
      refine iremM (g := (mkF m 13 #[vi xx, .unset] [(.int 12), (.int (xx &&& (65535 : Int32)))])) X0 hx rfl (hb hby D23_13) rfl (by decide) ?_
      refine XS.istoreN X0.here hx rfl (hb hby D23_14) rfl (l' := #[vi xx, vi ((xx &&& (65535 : Int32)) % (12 : Int32))]) rfl ?_
      refine XS.iloadN X0.here hx rfl (hb hby D23_15) rfl ?_
      refine XS.bipush X0.here hx rfl (hb hby D23_16) ?_
      exact Steps.refl _)
    by_cases hq4 : ((xx &&& (65535 : Int32)) % (12 : Int32)) < (10 : Int32)
    · have c5 : SS p e below S0 (s₁.setTop (mkF m 31 #[vi xx, vi ((xx &&& (65535 : Int32)) % (12 : Int32))] [(.int (((48 : Int32) + ((xx &&& (65535 : Int32)) % (12 : Int32))).toUInt32.toUInt16.toUInt32.toInt32))])) := c3.trans (by
        show SS p e below (s₁.setTop (mkF m 18 #[vi xx, vi ((xx &&& (65535 : Int32)) % (12 : Int32))] [(.int 10), (.int ((xx &&& (65535 : Int32)) % (12 : Int32)))])) _
        refine XS.icmpNo X0.here hx rfl (hb hby D23_18) rfl (tlt hq4).2.1 ?_
        refine XS.bipush X0.here hx rfl (hb hby D23_21) ?_
        refine XS.iloadN X0.here hx rfl (hb hby D23_23) rfl ?_
        refine XS.iadd X0.here hx rfl (hb hby D23_24) rfl ?_
        refine XS.i2c X0.here hx rfl (hb hby D23_25) rfl ?_
        refine XS.goto X0.here hx rfl (pc0 := 26) (pc' := 31) rfl (hb hby D23_26) (by decide) (by decide) ?_
        exact Steps.refl _)
      obtain ⟨fs, hr, hrun, hended, hW, hsame⟩ := X0.leave (v := some (.int (((48 : Int32) + ((xx &&& (65535 : Int32)) % (12 : Int32))).toUInt32.toUInt16.toUInt32.toInt32))) (fun h => by rw [Bd.returns] at h; cases h)
      refine ⟨_, _, c5.trans (retOut X0 hx Bd.returns (own_nc (own_u16 _)) (Or.inl ⟨rfl, by simp, _, rfl⟩) (hb hby D23_31) hr), hrun, hended, _, _, rfl, ?_, ⟨_, rfl⟩, hW, hsame.mono (by first | decide | exact Nat.le_of_ble_eq_true rfl) (by first | decide | exact Nat.le_of_ble_eq_true rfl)⟩
      show QDr Z  h0 n0 _ s₁.heap _
      rw [e0]
      exact ⟨_, rfl, own_u16 _, N0, rfl⟩
    · have c6 : SS p e below S0 (s₁.setTop (mkF m 31 #[vi xx, vi ((xx &&& (65535 : Int32)) % (12 : Int32))] [(.int 46)])) := c3.trans (by
        show SS p e below (s₁.setTop (mkF m 18 #[vi xx, vi ((xx &&& (65535 : Int32)) % (12 : Int32))] [(.int 10), (.int ((xx &&& (65535 : Int32)) % (12 : Int32)))])) _
        refine XS.icmpYes X0.here hx rfl (pc0 := 18) (pc' := 29) rfl (hb hby D23_18) rfl (flt hq4).2.1 (by decide) (by decide) ?_
        refine XS.bipush X0.here hx rfl (hb hby D23_29) ?_
        exact Steps.refl _)
      obtain ⟨fs, hr, hrun, hended, hW, hsame⟩ := X0.leave (v := some (.int 46)) (fun h => by rw [Bd.returns] at h; cases h)
      refine ⟨_, _, c6.trans (retOut X0 hx Bd.returns rfl (Or.inl ⟨rfl, by simp, _, rfl⟩) (hb hby D23_31) hr), hrun, hended, _, _, rfl, ?_, ⟨_, rfl⟩, hW, hsame.mono (by first | decide | exact Nat.le_of_ble_eq_true rfl) (by first | decide | exact Nat.le_of_ble_eq_true rfl)⟩
      show QDr Z  h0 n0 _ s₁.heap _
      rw [e0]
      exact ⟨_, rfl, ⟨by decide, by decide⟩, N0, rfl⟩
  · have c7 : SS p e below S0 (s₁.setTop (mkF m 37 #[vi xx, .unset] [(.int ((xx &&& (65535 : Int32)).toUInt32.toUInt16.toUInt32.toInt32))])) := c1.trans (by
      show SS p e below (s₁.setTop (mkF m 4 #[vi xx, .unset] [(.int (xx &&& (65536 : Int32)))])) _
      refine XS.ifYes X0.here hx rfl (pc0 := 4) (pc' := 32) rfl (hb hby D23_4) rfl ((if0 _ _).trans (feq hq2).2) (by decide) (by decide) ?_
      refine XS.iloadN X0.here hx rfl (hb hby D23_32) rfl ?_
      show SS p e below (s₁.setTop (mkF m 33 #[vi xx, .unset] [(.int xx)])) _
      refine X0.ldcInt hx hown (mvT hZ (ww hw 6 rfl)) (g := (mkF m 33 #[vi xx, .unset] [(.int xx)])) rfl (hb hby D23_33) _ ?_
      refine XS.iand X0.here hx rfl (hb hby D23_35) rfl ?_
      refine XS.i2c X0.here hx rfl (hb hby D23_36) rfl ?_
      exact Steps.refl _)
    obtain ⟨fs, hr, hrun, hended, hW, hsame⟩ := X0.leave (v := some (.int ((xx &&& (65535 : Int32)).toUInt32.toUInt16.toUInt32.toInt32))) (fun h => by rw [Bd.returns] at h; cases h)
    refine ⟨_, _, c7.trans (retOut X0 hx Bd.returns (own_nc (own_u16 _)) (Or.inl ⟨rfl, by simp, _, rfl⟩) (hb hby D23_37) hr), hrun, hended, _, _, rfl, ?_, ⟨_, rfl⟩, hW, hsame.mono (by first | decide | exact Nat.le_of_ble_eq_true rfl) (by first | decide | exact Nat.le_of_ble_eq_true rfl)⟩
    show QDr Z  h0 n0 _ s₁.heap _
    rw [e0]
    exact ⟨_, rfl, own_u16 _, N0, rfl⟩

theorem D24_0 : decode prog_42_method_3_code 0 = .ok (.aload_n 0, 1) := by decide +kernel
theorem D24_1 : decode prog_42_method_3_code 1 = .ok (.getfield 17, 3) := by decide +kernel
theorem D24_4 : decode prog_42_method_3_code 4 = .ok (.aload_n 0, 1) := by decide +kernel
theorem D24_5 : decode prog_42_method_3_code 5 = .ok (.getfield 13, 3) := by decide +kernel
theorem D24_8 : decode prog_42_method_3_code 8 = .ok (.isub, 1) := by decide +kernel
theorem D24_9 : decode prog_42_method_3_code 9 = .ok (.ireturn, 1) := by decide +kernel
theorem ef_rmWD (m : MethodId) (x0 : Addr) : entryFrame m #[(.ref x0)] 1 = mkF m 0 #[.val (.ref x0)] [] := by first | (simp [entryFrame, mkF, argsToLocals, Value.category]; done) | rfl
set_option maxRecDepth 65536 in
set_option maxHeartbeats 40000000 in
theorem rmWD (l : Launch) (Z : State) (a0 : Array Value) (hw : ∀ d ∈ tables_1, d.before a0 Z = true) (ws : List Jvm.Cond) (x : Addr) (st we : Int32) (h0 : Heap) (n0 : Nat) (Z0 : n0 ≤ h0.size) (F1 : Fld Z h0 x "com/example/pricefold/pricefold/model/DecimalText" "wholeStart" "I" (.int st)) (F2 : Fld Z h0 x "com/example/pricefold/pricefold/model/DecimalText" "wholeEnd" "I" (.int we)) :
    MetFree l (⟨"com/example/pricefold/pricefold/model/DecimalText", "wholeDigits", "()I"⟩ : MethodName) (head1 (Jvm.Cond.code (⟨"com/example/pricefold/pricefold/model/DecimalText", "wholeDigits", "()I"⟩ : MethodName) prog_42_method_3_code 1 (some .int) :: ws) ({ frames := 0, cells := 0, slots := 0, locals := 0 } : Room)) (fun aa U => aa = #[(.ref x)] ∧ Z.Warmed39 U.vm ∧ U.heap = h0) (fun _ _ _ _ _ => True) (fun _ U o U' => ∃ v L, o = .returned v ∧ QInt Z (we - st) h0 n0 v U'.heap L ∧ FrameEnd U o U' L ({ frames := 0, cells := 0, slots := 0, locals := 0 } : Room).cells ({ frames := 0, cells := 0, slots := 0, locals := 0 } : Room).slots) := by
  refine MetFree.of_bodySF (plainFor_of_name pn_com_example_pricefold_pricefold_model_DecimalText) hisR ?_
  intro p e s m args below meth c s₁ Bd hml0 hP hK
  obtain ⟨rfl, hZ, hh⟩ := hP
  have hx := Bd.exec
  have hby := Bd.bytes
  have hml : c.maxLocals = 1 := hml0
  have hown : s.vm.findClass "com/example/pricefold/pricefold/model/DecimalText" = some m.cls := findClass_of_methodNamed Bd.named
  have hnm := (name_of_methodNamed Bd.named Bd.method).1
  have X0 : Stand p l e ({ frames := 0, cells := 0, slots := 0, locals := 0 } : Room) s m #[(.ref x)] below meth c s₁ [] 0 0 := Stand.of_body Bd
  have e0 : s₁.heap = h0 := by rw [← hh, Bd.state]; rfl
  have N0 := Fr.nil n0
  have K0 := Keep.refl h0 []
  obtain ⟨S0, hS0⟩ : ∃ z, z = s₁.setTop (entryFrame m #[(.ref x)] 1) := ⟨_, rfl⟩
  rw [← hS0]
  have c0 : SS p e below S0 (s₁.setTop (mkF m 0 #[vr x] [])) := by
    rw [hS0]; exact castTop (ef_rmWD m x) (Steps.refl _)
  have c1 : SS p e below S0 (s₁.setTop (mkF m 1 #[vr x] [(.ref x)])) := c0.trans (by
    show SS p e below (s₁.setTop (mkF m 0 #[vr x] [])) _
    refine XS.aloadN X0.here hx rfl (hb hby D24_0) rfl rfl ?_
    exact Steps.refl _)
  obtain ⟨T2, X2, e2, st2⟩ := getF X0 hx hZ hown (host := "") (Or.inl (ww hw 92 rfl)) Via.refl e0 F2 (g := (mkF m 1 #[vr x] [(.ref x)])) rfl rfl (hb hby D24_1)
  have c3 : SS p e below S0 (T2.setTop (mkF m 4 #[vr x] [(.int we)])) := c1.trans (st2 _ (Steps.refl _))
  have c4 : SS p e below S0 (T2.setTop (mkF m 5 #[vr x] [(.ref x), (.int we)])) := c3.trans (by
    show SS p e below (T2.setTop (mkF m 4 #[vr x] [(.int we)])) _
    refine XS.aloadN X2.here hx rfl (hb hby D24_4) rfl rfl ?_
    exact Steps.refl _)
  obtain ⟨T5, X5, e5, st5⟩ := getF X2 hx hZ hown (host := "") (Or.inl (ww hw 90 rfl)) Via.refl e2 F1 (g := (mkF m 5 #[vr x] [(.ref x), (.int we)])) rfl rfl (hb hby D24_5)
  have c6 : SS p e below S0 (T5.setTop (mkF m 8 #[vr x] [(.int st), (.int we)])) := c4.trans (st5 _ (Steps.refl _))
  have c7 : SS p e below S0 (T5.setTop (mkF m 9 #[vr x] [(.int (we - st))])) := c6.trans (by
    show SS p e below (T5.setTop (mkF m 8 #[vr x] [(.int st), (.int we)])) _
    refine XS.isub X5.here hx rfl (hb hby D24_8) rfl ?_
    exact Steps.refl _)
  obtain ⟨fs, hr, hrun, hended, hW, hsame⟩ := X5.leave (v := some (.int (we - st))) (fun h => by rw [Bd.returns] at h; cases h)
  refine ⟨_, _, c7.trans (retOut X5 hx Bd.returns rfl (Or.inl ⟨rfl, by simp, _, rfl⟩) (hb hby D24_9) hr), hrun, hended, _, _, rfl, ?_, ⟨_, rfl⟩, hW, hsame.mono (by first | decide | exact Nat.le_of_ble_eq_true rfl) (by first | decide | exact Nat.le_of_ble_eq_true rfl)⟩
  show QInt Z (we - st) h0 n0 _ T5.heap _
  rw [e5]
  exact ⟨rfl, N0, rfl⟩

theorem D25_0 : decode prog_42_method_4_code 0 = .ok (.aload_n 0, 1) := by decide +kernel
theorem D25_1 : decode prog_42_method_4_code 1 = .ok (.getfield 17, 3) := by decide +kernel
theorem D25_4 : decode prog_42_method_4_code 4 = .ok (.aload_n 0, 1) := by decide +kernel
theorem D25_5 : decode prog_42_method_4_code 5 = .ok (.getfield 7, 3) := by decide +kernel
theorem D25_8 : decode prog_42_method_4_code 8 = .ok (.invokevirtual 20, 3) := by decide +kernel
theorem D25_11 : decode prog_42_method_4_code 11 = .ok (.if_icmp .ne 7, 3) := by decide +kernel
theorem D25_14 : decode prog_42_method_4_code 14 = .ok (.iconst 0, 1) := by decide +kernel
theorem D25_15 : decode prog_42_method_4_code 15 = .ok (.goto 17, 3) := by decide +kernel
theorem D25_32 : decode prog_42_method_4_code 32 = .ok (.ireturn, 1) := by decide +kernel
theorem D25_18 : decode prog_42_method_4_code 18 = .ok (.aload_n 0, 1) := by decide +kernel
theorem D25_19 : decode prog_42_method_4_code 19 = .ok (.getfield 7, 3) := by decide +kernel
theorem D25_22 : decode prog_42_method_4_code 22 = .ok (.invokevirtual 20, 3) := by decide +kernel
theorem D25_25 : decode prog_42_method_4_code 25 = .ok (.aload_n 0, 1) := by decide +kernel
theorem D25_26 : decode prog_42_method_4_code 26 = .ok (.getfield 17, 3) := by decide +kernel
theorem D25_29 : decode prog_42_method_4_code 29 = .ok (.isub, 1) := by decide +kernel
theorem D25_30 : decode prog_42_method_4_code 30 = .ok (.iconst 1, 1) := by decide +kernel
theorem D25_31 : decode prog_42_method_4_code 31 = .ok (.isub, 1) := by decide +kernel
theorem ef_rmDP (m : MethodId) (x0 : Addr) : entryFrame m #[(.ref x0)] 1 = mkF m 0 #[.val (.ref x0)] [] := by first | (simp [entryFrame, mkF, argsToLocals, Value.category]; done) | rfl
set_option maxRecDepth 65536 in
set_option maxHeartbeats 40000000 in
theorem rmDP (l : Launch) (Z : State) (a0 : Array Value) (hw : ∀ d ∈ tables_1, d.before a0 Z = true) (ws : List Jvm.Cond) (x : Addr) (we : Int32) (sx tx : Addr) (kx : ClassId) (cd N : Int32) (vs : List Value) (cs : List Int32) (G1 : Int32) (h0 : Heap) (n0 : Nat) (Z0 : n0 ≤ h0.size) (F0 : Fld Z h0 x "com/example/pricefold/pricefold/model/DecimalText" "text" "Ljava/lang/String;" (.ref sx)) (F2 : Fld Z h0 x "com/example/pricefold/pricefold/model/DecimalText" "wholeEnd" "I" (.int we)) (Sg : OSG Z h0 sx tx kx cd N vs cs) (O2 : Sta Z Z.heap "java/lang/String" "COMPACT_STRINGS" "Z" (.int G1)) (P5 : ¬ G1 = 0) (X00 : Old Z n0 h0) :
    MetFree l (⟨"com/example/pricefold/pricefold/model/DecimalText", "decimalPlaces", "()I"⟩ : MethodName) (head1 (Jvm.Cond.code (⟨"com/example/pricefold/pricefold/model/DecimalText", "decimalPlaces", "()I"⟩ : MethodName) prog_42_method_4_code 1 (some .int) :: ws) ({ frames := 2, cells := 0, slots := 0, locals := 26 } : Room)) (fun aa U => aa = #[(.ref x)] ∧ Z.Warmed39 U.vm ∧ U.heap = h0) (fun _ _ _ _ _ => True) (fun _ U o U' => ∃ v L, o = .returned v ∧ QInt Z (if we = (Int32.ofNat cs.length) then 0 else (Int32.ofNat cs.length) - we - 1) h0 n0 v U'.heap L ∧ FrameEnd U o U' L ({ frames := 2, cells := 0, slots := 0, locals := 26 } : Room).cells ({ frames := 2, cells := 0, slots := 0, locals := 26 } : Room).slots) := by
  refine MetFree.of_bodySF (plainFor_of_name pn_com_example_pricefold_pricefold_model_DecimalText) hisR ?_
  intro p e s m args below meth c s₁ Bd hml0 hP hK
  obtain ⟨rfl, hZ, hh⟩ := hP
  have hx := Bd.exec
  have hby := Bd.bytes
  have hml : c.maxLocals = 1 := hml0
  have hown : s.vm.findClass "com/example/pricefold/pricefold/model/DecimalText" = some m.cls := findClass_of_methodNamed Bd.named
  have hnm := (name_of_methodNamed Bd.named Bd.method).1
  have X0 : Stand p l e ({ frames := 2, cells := 0, slots := 0, locals := 26 } : Room) s m #[(.ref x)] below meth c s₁ [] 0 0 := Stand.of_body Bd
  have e0 : s₁.heap = h0 := by rw [← hh, Bd.state]; rfl
  have N0 := Fr.nil n0
  have K0 := Keep.refl h0 []
  obtain ⟨S0, hS0⟩ : ∃ z, z = s₁.setTop (entryFrame m #[(.ref x)] 1) := ⟨_, rfl⟩
  rw [← hS0]
  have c0 : SS p e below S0 (s₁.setTop (mkF m 0 #[vr x] [])) := by
    rw [hS0]; exact castTop (ef_rmDP m x) (Steps.refl _)
  have c1 : SS p e below S0 (s₁.setTop (mkF m 1 #[vr x] [(.ref x)])) := c0.trans (by
    show SS p e below (s₁.setTop (mkF m 0 #[vr x] [])) _
    refine XS.aloadN X0.here hx rfl (hb hby D25_0) rfl rfl ?_
    exact Steps.refl _)
  obtain ⟨T2, X2, e2, st2⟩ := getF X0 hx hZ hown (host := "") (Or.inl (ww hw 92 rfl)) Via.refl e0 F2 (g := (mkF m 1 #[vr x] [(.ref x)])) rfl rfl (hb hby D25_1)
  have c3 : SS p e below S0 (T2.setTop (mkF m 4 #[vr x] [(.int we)])) := c1.trans (st2 _ (Steps.refl _))
  have c4 : SS p e below S0 (T2.setTop (mkF m 5 #[vr x] [(.ref x), (.int we)])) := c3.trans (by
    show SS p e below (T2.setTop (mkF m 4 #[vr x] [(.int we)])) _
    refine XS.aloadN X2.here hx rfl (hb hby D25_4) rfl rfl ?_
    exact Steps.refl _)
  obtain ⟨T5, X5, e5, st5⟩ := getF X2 hx hZ hown (host := "") (Or.inl (ww hw 88 rfl)) Via.refl e2 F0 (g := (mkF m 5 #[vr x] [(.ref x), (.int we)])) rfl rfl (hb hby D25_5)
  have c6 : SS p e below S0 (T5.setTop (mkF m 8 #[vr x] [(.ref sx), (.int we)])) := c4.trans (st5 _ (Steps.refl _))
  have hln7 : ∀ d ∈ StrChars.Road.wordsLen, d.before a0 Z = true := fun d hd => hw d (own_in_wordsLen d hd)
  obtain ⟨cq8, kq8, q8a, q8b, q8c⟩ := isOf hZ e5 Sg.1
  obtain ⟨_, _, ⟨T8, L8, kk8, nn8⟩, -, X8, ⟨Lc8, hQ8, l8, y8, z8⟩, st8⟩ := X5.virtualBack hx (y := (⟨"java/lang/String", "length", "()I"⟩ : MethodName)) (z := (⟨"java/lang/String", "length", "()I"⟩ : MethodName)) hown (mvT hZ (ww hw 39 rfl)) (mvT hZ (ww hw 40 rfl)) (notFace_of_selects (args := #[]) (mvT hZ (ww hw 42 rfl))) (mvT hZ (ww hw 42 rfl)) (mvT hZ (ww hw 41 rfl)) (by decide) (StrChars.Road.lenW (W := 1) hZ hln7 (kI := 4) (ww hw 9 rfl) Sg.1 Sg.2.1 Sg.2.2.1 Sg.2.2.2.1 Sg.2.2.2.2.1 Sg.2.2.2.2.2.1 (O2.ext X00.2) P5 Sg.2.2.2.2.2.2 (by decide) (by decide)) q8a q8c (g := (mkF m 8 #[vr x] [(.ref sx), (.int we)])) rfl (by rw [hml]; rfl) (Steps.refl _) (argsL := []) (rest := [(.int we)]) (lenOf pd_ocI rfl) rfl (by show 2 * 0 + _ ≤ _; exact Nat.le_of_eq rfl) (hb hby D25_8) (fun _ _ => ⟨rfl, e5, (by decide : 0 + 0 ≤ _), (by decide : 0 + 0 ≤ _)⟩)
  dsimp only [Pt.U, Pt.locs, Pt.cells, Pt.slots] at X8 l8 y8 z8 st8 hQ8
  subst l8 y8 z8
  obtain ⟨rfl, Lq8, eq8⟩ := hQ8
  have c9 : SS p e below S0 (T8.setTop (mkF m 11 #[vr x] [(.int (Int32.ofNat cs.length)), (.int we)])) := c6.trans (st8)
  have N8 := Fr.app N0 (Lq8 ▸ Fr.nil n0)
  by_cases hq10 : we = (Int32.ofNat cs.length)
  · have c11 : SS p e below S0 (T8.setTop (mkF m 32 #[vr x] [(.int 0)])) := c9.trans (by
      show SS p e below (T8.setTop (mkF m 11 #[vr x] [(.int (Int32.ofNat cs.length)), (.int we)])) _
      refine XS.icmpNo X8.here hx rfl (hb hby D25_11) rfl (teq hq10).2 ?_
      refine XS.iconst X8.here hx rfl (hb hby D25_14) ?_
      refine XS.goto X8.here hx rfl (pc0 := 15) (pc' := 32) rfl (hb hby D25_15) (by decide) (by decide) ?_
      exact Steps.refl _)
    obtain ⟨fs, hr, hrun, hended, hW, hsame⟩ := X8.leave (v := some (.int 0)) (fun h => by rw [Bd.returns] at h; cases h)
    refine ⟨_, _, c11.trans (retOut X8 hx Bd.returns rfl (Or.inl ⟨rfl, by simp, _, rfl⟩) (hb hby D25_32) hr), hrun, hended, _, _, rfl, ?_, ⟨_, rfl⟩, hW, hsame.mono (by first | decide | exact Nat.le_of_ble_eq_true rfl) (by first | decide | exact Nat.le_of_ble_eq_true rfl)⟩
    show QInt Z (if we = (Int32.ofNat cs.length) then 0 else (Int32.ofNat cs.length) - we - 1) h0 n0 _ T8.heap _
    rw [eq8]
    exact ⟨by rw [if_pos hq10], N8, rfl⟩
  · have c12 : SS p e below S0 (T8.setTop (mkF m 19 #[vr x] [(.ref x)])) := c9.trans (by
      show SS p e below (T8.setTop (mkF m 11 #[vr x] [(.int (Int32.ofNat cs.length)), (.int we)])) _
      refine XS.icmpYes X8.here hx rfl (pc0 := 11) (pc' := 18) rfl (hb hby D25_11) rfl (feq hq10).2 (by decide) (by decide) ?_
      refine XS.aloadN X8.here hx rfl (hb hby D25_18) rfl rfl ?_
      exact Steps.refl _)
    obtain ⟨T13, X13, e13, st13⟩ := getF X8 hx hZ hown (host := "") (Or.inl (ww hw 88 rfl)) Via.refl eq8 F0 (g := (mkF m 19 #[vr x] [(.ref x)])) rfl rfl (hb hby D25_19)
    have c14 : SS p e below S0 (T13.setTop (mkF m 22 #[vr x] [(.ref sx)])) := c12.trans (st13 _ (Steps.refl _))
    have hln15 : ∀ d ∈ StrChars.Road.wordsLen, d.before a0 Z = true := fun d hd => hw d (own_in_wordsLen d hd)
    obtain ⟨cq16, kq16, q16a, q16b, q16c⟩ := isOf hZ e13 Sg.1
    obtain ⟨_, _, ⟨T16, L16, kk16, nn16⟩, -, X16, ⟨Lc16, hQ16, l16, y16, z16⟩, st16⟩ := X13.virtualBack hx (y := (⟨"java/lang/String", "length", "()I"⟩ : MethodName)) (z := (⟨"java/lang/String", "length", "()I"⟩ : MethodName)) hown (mvT hZ (ww hw 39 rfl)) (mvT hZ (ww hw 40 rfl)) (notFace_of_selects (args := #[]) (mvT hZ (ww hw 42 rfl))) (mvT hZ (ww hw 42 rfl)) (mvT hZ (ww hw 41 rfl)) (by decide) (StrChars.Road.lenW (W := 0) hZ hln15 (kI := 4) (ww hw 9 rfl) Sg.1 Sg.2.1 Sg.2.2.1 Sg.2.2.2.1 Sg.2.2.2.2.1 Sg.2.2.2.2.2.1 (O2.ext X00.2) P5 Sg.2.2.2.2.2.2 (by decide) (by decide)) q16a q16c (g := (mkF m 22 #[vr x] [(.ref sx)])) rfl (by rw [hml]; rfl) (Steps.refl _) (argsL := []) (rest := []) (lenOf pd_ocI rfl) rfl (by show 2 * 0 + _ ≤ _; exact Nat.le_of_eq rfl) (hb hby D25_22) (fun _ _ => ⟨rfl, e13, (by decide : 0 + 0 ≤ _), (by decide : 0 + 0 ≤ _)⟩)
    dsimp only [Pt.U, Pt.locs, Pt.cells, Pt.slots] at X16 l16 y16 z16 st16 hQ16
    subst l16 y16 z16
    obtain ⟨rfl, Lq16, eq16⟩ := hQ16
    have c17 : SS p e below S0 (T16.setTop (mkF m 25 #[vr x] [(.int (Int32.ofNat cs.length))])) := c14.trans (st16)
    have N16 := Fr.app N8 (Lq16 ▸ Fr.nil n0)
    have c18 : SS p e below S0 (T16.setTop (mkF m 26 #[vr x] [(.ref x), (.int (Int32.ofNat cs.length))])) := c17.trans (by
      show SS p e below (T16.setTop (mkF m 25 #[vr x] [(.int (Int32.ofNat cs.length))])) _
      refine XS.aloadN X16.here hx rfl (hb hby D25_25) rfl rfl ?_
      exact Steps.refl _)
    obtain ⟨T19, X19, e19, st19⟩ := getF X16 hx hZ hown (host := "") (Or.inl (ww hw 92 rfl)) Via.refl eq16 F2 (g := (mkF m 26 #[vr x] [(.ref x), (.int (Int32.ofNat cs.length))])) rfl rfl (hb hby D25_26)
    have c20 : SS p e below S0 (T19.setTop (mkF m 29 #[vr x] [(.int we), (.int (Int32.ofNat cs.length))])) := c18.trans (st19 _ (Steps.refl _))
    have c21 : SS p e below S0 (T19.setTop (mkF m 32 #[vr x] [(.int (((Int32.ofNat cs.length) - we) - (1 : Int32)))])) := c20.trans (by
      show SS p e below (T19.setTop (mkF m 29 #[vr x] [(.int we), (.int (Int32.ofNat cs.length))])) _
      refine XS.isub X19.here hx rfl (hb hby D25_29) rfl ?_
      refine XS.iconst X19.here hx rfl (hb hby D25_30) ?_
      refine XS.isub X19.here hx rfl (hb hby D25_31) rfl ?_
      exact Steps.refl _)
    obtain ⟨fs, hr, hrun, hended, hW, hsame⟩ := X19.leave (v := some (.int (((Int32.ofNat cs.length) - we) - (1 : Int32)))) (fun h => by rw [Bd.returns] at h; cases h)
    refine ⟨_, _, c21.trans (retOut X19 hx Bd.returns rfl (Or.inl ⟨rfl, by simp, _, rfl⟩) (hb hby D25_32) hr), hrun, hended, _, _, rfl, ?_, ⟨_, rfl⟩, hW, hsame.mono (by first | decide | exact Nat.le_of_ble_eq_true rfl) (by first | decide | exact Nat.le_of_ble_eq_true rfl)⟩
    show QInt Z (if we = (Int32.ofNat cs.length) then 0 else (Int32.ofNat cs.length) - we - 1) h0 n0 _ T19.heap _
    rw [e19]
    exact ⟨by rw [if_neg hq10], N16, rfl⟩

def own_cat (ch : Int32) : Nat := if ch = 46 then 1 else if ch = 48 then 2 else if ch < 48 then 0 else if 57 < ch then 0 else 3
def own_oddK (k : Nat) (i n : Int32) : Int32 := if i < n then (if k = 1 then 0 else if k = 0 then 1 else 0) else 0
def own_ptK (k : Nat) (i n : Int32) : Int32 := if i < n then (if k = 1 then 1 else 0) else 0
def own_zeroK (k : Nat) (i n : Int32) : Int32 := if i < n then (if k = 2 then 1 else 0) else 0
def own_scanK : List Nat → Nat → Int32 → Option Int32
  | [], _, p => some p
  | c :: r, k, p => if c = 1 then (if p < 0 then own_scanK r (k + 1) (Int32.ofNat k) else none) else if c = 0 then none else own_scanK r (k + 1) p
def own_zsK : List Nat → Nat → Int32 → Nat
  | [], k, _ => k
  | c :: r, k, e => if Int32.ofNat k < e then (if c = 2 then own_zsK r (k + 1) e else k) else k
def own_readK (cs : List Nat) : Option (Nat × Int32) := match own_scanK cs 0 (-1) with
  | none => none
  | some p => if (if p < 0 then Int32.ofNat cs.length else p) = 0 then none else if p = Int32.ofNat cs.length - 1 then none else some (own_zsK cs 0 (if p < 0 then Int32.ofNat cs.length else p), if p < 0 then Int32.ofNat cs.length else p)
def own_bad (a b c d e : Int32) : Int32 := if a = 0 then (if b = 0 then (if c = 0 then (if d = 0 then (if e = 0 then 0 else 1) else 1) else 1) else 1) else 1
def own_p (t0 t1 t2 t3 t4 : Int32) : Int32 := if t0 = 1 then 0 else if t1 = 1 then 1 else if t2 = 1 then 2 else if t3 = 1 then 3 else if t4 = 1 then 4 else -1
def own_vd (bad pts p n : Int32) : Int32 := if bad = 0 then (if 1 < pts then 0 else if 0 < n then (if p = 0 then 0 else if p = n - 1 then 0 else 1) else 0) else 0
def own_z (z0 z1 z2 z3 z4 : Int32) : Int32 := if z0 = 0 then 0 else if z1 = 0 then 1 else if z2 = 0 then 2 else if z3 = 0 then 3 else if z4 = 0 then 4 else 5
theorem own_catc (ch : Int32) : (ch = 46 ∧ own_cat ch = 1) ∨ (ch = 48 ∧ own_cat ch = 2) ∨ (¬ ch = 46 ∧ ¬ ch = 48 ∧ ch < 48 ∧ own_cat ch = 0) ∨ (¬ ch = 46 ∧ ¬ ch = 48 ∧ ¬ ch < 48 ∧ 57 < ch ∧ own_cat ch = 0) ∨ (¬ ch = 46 ∧ ¬ ch = 48 ∧ ¬ ch < 48 ∧ ¬ 57 < ch ∧ own_cat ch = 3) := by
  unfold own_cat
  by_cases h1 : ch = 46
  · exact Or.inl ⟨h1, if_pos h1⟩
  · by_cases h2 : ch = 48
    · exact Or.inr (Or.inl ⟨h2, by rw [if_neg h1, if_pos h2]⟩)
    · by_cases h3 : ch < 48
      · exact Or.inr (Or.inr (Or.inl ⟨h1, h2, h3, by rw [if_neg h1, if_neg h2, if_pos h3]⟩))
      · by_cases h4 : 57 < ch
        · exact Or.inr (Or.inr (Or.inr (Or.inl ⟨h1, h2, h3, h4, by rw [if_neg h1, if_neg h2, if_neg h3, if_pos h4]⟩)))
        · exact Or.inr (Or.inr (Or.inr (Or.inr ⟨h1, h2, h3, h4, by rw [if_neg h1, if_neg h2, if_neg h3, if_neg h4]⟩)))
abbrev R4 : List Nat := [0, 1, 2, 3]
theorem own_cat4 (ch : Int32) : own_cat ch ∈ R4 := by
  rcases own_catc ch with ⟨-, h⟩ | ⟨-, h⟩ | ⟨-, -, -, h⟩ | ⟨-, -, -, -, h⟩ | ⟨-, -, -, -, h⟩ <;> rw [h] <;> decide
theorem own_odd_k (ch i n : Int32) : own_odd ch i n = own_oddK (own_cat ch) i n := by
  unfold own_odd own_oddK
  rcases own_catc ch with ⟨h0, h⟩ | ⟨h0, h⟩ | ⟨h1, h2, h3, h⟩ | ⟨h1, h2, h3, h4, h⟩ | ⟨h1, h2, h3, h4, h⟩ <;> rw [h]
  · subst h0; rfl
  · subst h0; rfl
  · rw [if_neg h1, if_pos h3]; rfl
  · rw [if_neg h1, if_neg h3, if_pos h4]; rfl
  · rw [if_neg h1, if_neg h3, if_neg h4]; rfl
theorem own_pt_k (ch i n : Int32) : own_pt ch i n = own_ptK (own_cat ch) i n := by
  unfold own_pt own_ptK
  rcases own_catc ch with ⟨h0, h⟩ | ⟨h0, h⟩ | ⟨h1, h2, h3, h⟩ | ⟨h1, h2, h3, h4, h⟩ | ⟨h1, h2, h3, h4, h⟩ <;> rw [h]
  · subst h0; rfl
  · subst h0; rfl
  · rw [if_neg h1]; rfl
  · rw [if_neg h1]; rfl
  · rw [if_neg h1]; rfl
theorem own_zero_k (ch i n : Int32) : own_zero ch i n = own_zeroK (own_cat ch) i n := by
  unfold own_zero own_zeroK
  rcases own_catc ch with ⟨h0, h⟩ | ⟨h0, h⟩ | ⟨h1, h2, h3, h⟩ | ⟨h1, h2, h3, h4, h⟩ | ⟨h1, h2, h3, h4, h⟩ <;> rw [h]
  · subst h0; rfl
  · subst h0; rfl
  · rw [if_neg h2]; rfl
  · rw [if_neg h2]; rfl
  · rw [if_neg h2]; rfl
theorem own_scan_k : ∀ (cs : List Int32) (k : Nat) (p : Int32), own_scan cs k p = own_scanK (cs.map own_cat) k p
  | [], _, _ => rfl
  | ch :: r, k, p => by
    show own_scan (ch :: r) k p = own_scanK (own_cat ch :: r.map own_cat) k p
    rw [own_scan, own_scanK, own_scan_k r, own_scan_k r]
    rcases own_catc ch with ⟨h0, h⟩ | ⟨h0, h⟩ | ⟨h1, h2, h3, h⟩ | ⟨h1, h2, h3, h4, h⟩ | ⟨h1, h2, h3, h4, h⟩ <;> rw [h]
    · subst h0; rfl
    · subst h0; rfl
    · rw [if_neg h1, if_pos h3]; rfl
    · rw [if_neg h1, if_neg h3, if_pos h4]; rfl
    · rw [if_neg h1, if_neg h3, if_neg h4]; rfl
theorem own_zs_k : ∀ (cs : List Int32) (k : Nat) (e : Int32), own_zs cs k e = own_zsK (cs.map own_cat) k e
  | [], _, _ => rfl
  | ch :: r, k, e => by
    show own_zs (ch :: r) k e = own_zsK (own_cat ch :: r.map own_cat) k e
    rw [own_zs, own_zsK, own_zs_k r]
    rcases own_catc ch with ⟨h0, h⟩ | ⟨h0, h⟩ | ⟨h1, h2, h3, h⟩ | ⟨h1, h2, h3, h4, h⟩ | ⟨h1, h2, h3, h4, h⟩ <;> rw [h]
    · subst h0; rfl
    · subst h0; rfl
    · rw [if_neg h2]; rfl
    · rw [if_neg h2]; rfl
    · rw [if_neg h2]; rfl
theorem own_read_k (cs : List Int32) : own_read cs = own_readK (cs.map own_cat) := by
  unfold own_read own_readK
  rw [own_scan_k, List.length_map]
  cases own_scanK (cs.map own_cat) 0 (-1) with
  | none => rfl
  | some p => simp only [own_zs_k]
def own_chk (n : Int32) (L : List Nat) (k0 k1 k2 k3 k4 : Nat) : Bool := match own_readK L with
  | none => (own_vd (own_bad (own_oddK k0 (0 : Int32) n) (own_oddK k1 (1 : Int32) n) (own_oddK k2 (2 : Int32) n) (own_oddK k3 (3 : Int32) n) (own_oddK k4 (4 : Int32) n)) ((own_ptK k0 (0 : Int32) n) + (own_ptK k1 (1 : Int32) n) + (own_ptK k2 (2 : Int32) n) + (own_ptK k3 (3 : Int32) n) + (own_ptK k4 (4 : Int32) n)) (own_p (own_ptK k0 (0 : Int32) n) (own_ptK k1 (1 : Int32) n) (own_ptK k2 (2 : Int32) n) (own_ptK k3 (3 : Int32) n) (own_ptK k4 (4 : Int32) n)) n) == 0
  | some (st, e) => !((own_vd (own_bad (own_oddK k0 (0 : Int32) n) (own_oddK k1 (1 : Int32) n) (own_oddK k2 (2 : Int32) n) (own_oddK k3 (3 : Int32) n) (own_oddK k4 (4 : Int32) n)) ((own_ptK k0 (0 : Int32) n) + (own_ptK k1 (1 : Int32) n) + (own_ptK k2 (2 : Int32) n) + (own_ptK k3 (3 : Int32) n) + (own_ptK k4 (4 : Int32) n)) (own_p (own_ptK k0 (0 : Int32) n) (own_ptK k1 (1 : Int32) n) (own_ptK k2 (2 : Int32) n) (own_ptK k3 (3 : Int32) n) (own_ptK k4 (4 : Int32) n)) n) == 0) && (e - Int32.ofNat st == (if (own_p (own_ptK k0 (0 : Int32) n) (own_ptK k1 (1 : Int32) n) (own_ptK k2 (2 : Int32) n) (own_ptK k3 (3 : Int32) n) (own_ptK k4 (4 : Int32) n)) < 0 then n else (own_p (own_ptK k0 (0 : Int32) n) (own_ptK k1 (1 : Int32) n) (own_ptK k2 (2 : Int32) n) (own_ptK k3 (3 : Int32) n) (own_ptK k4 (4 : Int32) n))) - (own_z (own_zeroK k0 (0 : Int32) (if (own_p (own_ptK k0 (0 : Int32) n) (own_ptK k1 (1 : Int32) n) (own_ptK k2 (2 : Int32) n) (own_ptK k3 (3 : Int32) n) (own_ptK k4 (4 : Int32) n)) < 0 then n else (own_p (own_ptK k0 (0 : Int32) n) (own_ptK k1 (1 : Int32) n) (own_ptK k2 (2 : Int32) n) (own_ptK k3 (3 : Int32) n) (own_ptK k4 (4 : Int32) n)))) (own_zeroK k1 (1 : Int32) (if (own_p (own_ptK k0 (0 : Int32) n) (own_ptK k1 (1 : Int32) n) (own_ptK k2 (2 : Int32) n) (own_ptK k3 (3 : Int32) n) (own_ptK k4 (4 : Int32) n)) < 0 then n else (own_p (own_ptK k0 (0 : Int32) n) (own_ptK k1 (1 : Int32) n) (own_ptK k2 (2 : Int32) n) (own_ptK k3 (3 : Int32) n) (own_ptK k4 (4 : Int32) n)))) (own_zeroK k2 (2 : Int32) (if (own_p (own_ptK k0 (0 : Int32) n) (own_ptK k1 (1 : Int32) n) (own_ptK k2 (2 : Int32) n) (own_ptK k3 (3 : Int32) n) (own_ptK k4 (4 : Int32) n)) < 0 then n else (own_p (own_ptK k0 (0 : Int32) n) (own_ptK k1 (1 : Int32) n) (own_ptK k2 (2 : Int32) n) (own_ptK k3 (3 : Int32) n) (own_ptK k4 (4 : Int32) n)))) (own_zeroK k3 (3 : Int32) (if (own_p (own_ptK k0 (0 : Int32) n) (own_ptK k1 (1 : Int32) n) (own_ptK k2 (2 : Int32) n) (own_ptK k3 (3 : Int32) n) (own_ptK k4 (4 : Int32) n)) < 0 then n else (own_p (own_ptK k0 (0 : Int32) n) (own_ptK k1 (1 : Int32) n) (own_ptK k2 (2 : Int32) n) (own_ptK k3 (3 : Int32) n) (own_ptK k4 (4 : Int32) n)))) (own_zeroK k4 (4 : Int32) (if (own_p (own_ptK k0 (0 : Int32) n) (own_ptK k1 (1 : Int32) n) (own_ptK k2 (2 : Int32) n) (own_ptK k3 (3 : Int32) n) (own_ptK k4 (4 : Int32) n)) < 0 then n else (own_p (own_ptK k0 (0 : Int32) n) (own_ptK k1 (1 : Int32) n) (own_ptK k2 (2 : Int32) n) (own_ptK k3 (3 : Int32) n) (own_ptK k4 (4 : Int32) n)))))) && ((if e = n then 0 else n - e - 1) == (if (own_p (own_ptK k0 (0 : Int32) n) (own_ptK k1 (1 : Int32) n) (own_ptK k2 (2 : Int32) n) (own_ptK k3 (3 : Int32) n) (own_ptK k4 (4 : Int32) n)) < 0 then 0 else n - (own_p (own_ptK k0 (0 : Int32) n) (own_ptK k1 (1 : Int32) n) (own_ptK k2 (2 : Int32) n) (own_ptK k3 (3 : Int32) n) (own_ptK k4 (4 : Int32) n)) - 1))
def own_txt (n g0 g1 g2 g3 g4 : Int32) : List Int32 := if n = 0 then [] else if n = 1 then [g0] else if n = 2 then [g0, g1] else if n = 3 then [g0, g1, g2] else if n = 4 then [g0, g1, g2, g3] else [g0, g1, g2, g3, g4]
theorem own_txtlen {n g0 g1 g2 g3 g4 : Int32} (h : ∃ a : Nat, a < 6 ∧ n = Int32.ofNat a) : Int32.ofNat (own_txt n g0 g1 g2 g3 g4).length = n := by
  obtain ⟨a, ha, rfl⟩ := h
  rcases (by omega : a = 0 ∨ a = 1 ∨ a = 2 ∨ a = 3 ∨ a = 4 ∨ a = 5) with rfl | rfl | rfl | rfl | rfl | rfl <;> rfl
theorem own_six {x : Int32} (h : ∃ a : Nat, a < 6 ∧ x = Int32.ofNat a) (h0 : ¬ x = 0) (h1 : ¬ x = 1) (h2 : ¬ x = 2) (h3 : ¬ x = 3) (h4 : ¬ x = 4) : x = 5 := by
  obtain ⟨a, ha, rfl⟩ := h
  have : a = 0 ∨ a = 1 ∨ a = 2 ∨ a = 3 ∨ a = 4 ∨ a = 5 := by omega
  rcases this with rfl | rfl | rfl | rfl | rfl | rfl
  · exact absurd rfl h0
  · exact absurd rfl h1
  · exact absurd rfl h2
  · exact absurd rfl h3
  · exact absurd rfl h4
  · rfl

def QE (Z : State) (x : Addr) (h0 : Heap) (n0 : Nat) (v : Option Value) (h : Heap) (L : List Loc) : Prop := ∃ (t : Addr) (kb : ClassId), v = none ∧ Fr n0 L ∧ Keep h0 h [x] ∧ OStr Z h x t kb []

theorem D16_8 : decode jdk_42_method_149_code 8 = .ok (.aload_n 0, 1) := by decide +kernel
theorem D16_9 : decode jdk_42_method_149_code 9 = .ok (.ldc 7, 2) := by decide +kernel
theorem D16_11 : decode jdk_42_method_149_code 11 = .ok (.getfield 9, 3) := by decide +kernel
theorem D16_14 : decode jdk_42_method_149_code 14 = .ok (.putfield 9, 3) := by decide +kernel
theorem D16_17 : decode jdk_42_method_149_code 17 = .ok (.aload_n 0, 1) := by decide +kernel
theorem D16_18 : decode jdk_42_method_149_code 18 = .ok (.ldc 7, 2) := by decide +kernel
theorem D16_20 : decode jdk_42_method_149_code 20 = .ok (.getfield 15, 3) := by decide +kernel
theorem D16_23 : decode jdk_42_method_149_code 23 = .ok (.putfield 15, 3) := by decide +kernel
theorem D16_26 : decode jdk_42_method_149_code 26 = .ok (.return_, 1) := by decide +kernel
theorem ef_rmE4 (m : MethodId) (x0 : Addr) (x1 : Addr) (x2 : Int32) (x3 : Int32) : entryFrame m #[(.ref x0), (.ref x1), (.int x2), (.int x3), .null] 6 = mkF m 0 #[.val (.ref x0), .val (.ref x1), .val (.int x2), .val (.int x3), .val .null, .unset] [] := by first | (simp [entryFrame, mkF, argsToLocals, Value.category]; done) | rfl
set_option maxRecDepth 65536 in
set_option maxHeartbeats 40000000 in
theorem rmE4 (l : Launch) (Z : State) (a0 : Array Value) (hw : ∀ d ∈ tables_1, d.before a0 Z = true) (ws : List Jvm.Cond) (x b : Addr) (h0 : Heap) (n0 : Nat) (Z0 : n0 ≤ h0.size) (g_x : n0 ≤ x) (Ex : Exa Z h0 x "java/lang/String") (Fv : Fld Z h0 x "java/lang/String" "value" "[B" .null) (Fc : Fld Z h0 x "java/lang/String" "coder" "B" (.int 0)) :
    MetFree l (⟨"java/lang/String", "<init>", "([CIILjava/lang/Void;)V"⟩ : MethodName) (head1 (Jvm.Cond.code (⟨"java/lang/String", "<init>", "([CIILjava/lang/Void;)V"⟩ : MethodName) jdk_42_method_149_code 6 (none) :: ws) ({ frames := 1, cells := 4, slots := 8, locals := 12 } : Room)) (fun aa U => aa = #[(.ref x), (.ref b), (.int 0), (.int 0), .null] ∧ Z.Warmed39 U.vm ∧ U.heap = h0 ∧ CHv Z EL U.vm h0) (fun _ _ _ _ _ => True) (fun _ U o U' => ∃ v L, o = .returned v ∧ QE Z x h0 n0 v U'.heap L ∧ CHr Z EL U.vm U.heap U'.vm U'.heap ∧ ReturnedEndW U o U' L ({ frames := 1, cells := 4, slots := 8, locals := 12 } : Room).cells ({ frames := 1, cells := 4, slots := 8, locals := 12 } : Room).slots) := by
  refine MetFree.of_bodySF (plainFor_of_name pn_java_lang_String) hisR ?_
  intro p e s m args below meth c s₁ Bd hml0 hP hK
  obtain ⟨rfl, hZ, hh, hCH⟩ := hP
  have hx := Bd.exec
  have hby := Bd.bytes
  have hml : c.maxLocals = 6 := hml0
  have hown : s.vm.findClass "java/lang/String" = some m.cls := findClass_of_methodNamed Bd.named
  have hnm := (name_of_methodNamed Bd.named Bd.method).1
  have X0 : Stand p l e ({ frames := 1, cells := 4, slots := 8, locals := 12 } : Room) s m #[(.ref x), (.ref b), (.int 0), (.int 0), .null] below meth c s₁ [] 0 0 := Stand.of_body Bd
  have e0 : s₁.heap = h0 := by rw [← hh, Bd.state]; rfl
  have N0 := Fr.nil n0
  have K0 := Keep.refl h0 [x]
  obtain ⟨S0, hS0⟩ : ∃ z, z = s₁.setTop (entryFrame m #[(.ref x), (.ref b), (.int 0), (.int 0), .null] 6) := ⟨_, rfl⟩
  rw [← hS0]
  have c0 : SS p e below S0 (s₁.setTop (mkF m 0 #[vr x, vr b, vi 0, vi 0, .val .null, .unset] [])) := by
    rw [hS0]; exact castTop (ef_rmE4 m x b (0 : Int32) (0 : Int32)) (Steps.refl _)
  have X0 : Stand p l e ({ frames := 1, cells := 4, slots := 8, locals := 12 } : Room) (s.setVm s.vm) m #[(.ref x), (.ref b), (.int 0), (.int 0), .null] below meth c s₁ [] 0 0 := X0
  have hS0 : s.Since s.vm 0 := own_since s
  have R0 : CHr Z EL s.vm h0 s.vm h0 := CHr.refl hCH
  have hEL := own_EW hw
  have hwS := own_strw hw
  have c1 : SS p e below S0 (s₁.setTop (mkF m 1 #[vr x, vr b, vi 0, vi 0, .val .null, .unset] [(.ref x)])) := c0.trans (by
    show SS p e below (s₁.setTop (mkF m 0 #[vr x, vr b, vi 0, vi 0, .val .null, .unset] [])) _
    refine XS.aloadN X0.here hx rfl (hb hby D16_0) rfl rfl ?_
    exact Steps.refl _)
  obtain ⟨T2, X2, e2, st2⟩ := initO X0 hx hZ hown (ww hw 18 rfl) (ww hw 19 rfl) (ww hw 20 rfl) e0 (g := (mkF m 1 #[vr x, vr b, vi 0, vi 0, .val .null, .unset] [(.ref x)])) rfl (by rw [hml]; rfl) rfl (hb hby D16_1) (by decide) (W := 0) (by show 2 * 0 + _ ≤ _; exact Nat.le_of_eq rfl) (by decide)
  have c3 : SS p e below S0 (T2.setTop (mkF m 4 #[vr x, vr b, vi 0, vi 0, .val .null, .unset] [])) := c1.trans (st2 _ (Steps.refl _))
  have c4 : SS p e below S0 (T2.setTop (mkF m 9 #[vr x, vr b, vi 0, vi 0, .val .null, .unset] [(.ref x)])) := c3.trans (by
    show SS p e below (T2.setTop (mkF m 4 #[vr x, vr b, vi 0, vi 0, .val .null, .unset] [])) _
    refine XS.iloadN X2.here hx rfl (hb hby D16_4) rfl ?_
    refine XS.ifNo X2.here hx rfl (hb hby D16_5) rfl ((if0 _ _).trans (teq (by decide : ((0 : Int32) = (0 : Int32)))).2) ?_
    refine XS.aloadN X2.here hx rfl (hb hby D16_8) rfl rfl ?_
    exact Steps.refl _)
  obtain ⟨a5, T5, h5, k5, t5, kb5, X5, e5, E5, hS5, hk5, hZ5, hown5, Ex5, Fc5, Fv5, Va5, la5, lb5, r5, -, -, st5⟩ := ldcCH X2 hx hZ hown (ww hw 21 rfl) hwS e2 hS0 (Nat.zero_le _) hEL (List.mem_of_getElem? (i := 0) rfl) R0.1 (vs := []) (z := 0) ⟨by simp, rfl⟩ (by decide) rfl (g := (mkF m 9 #[vr x, vr b, vi 0, vi 0, .val .null, .unset] [(.ref x)])) rfl (hb hby D16_9) (n := 0) (by decide) (by decide) (by decide) (by decide)
  have c6 : SS p e below S0 (T5.setTop (mkF m 11 #[vr x, vr b, vi 0, vi 0, .val .null, .unset] [(.ref a5), (.ref x)])) := c4.trans (st5 _ (Steps.refl _))
  have z5 : n0 ≤ h5.size := Nat.le_trans Z0 E5.1
  have K5 := K0.ext E5
  have R5 := R0.trans r5
  obtain ⟨T7, X7, e7, st7⟩ := getF X5 hx hZ5 hown5 (host := "") (Or.inl (ww hw 27 rfl)) Via.refl e5 Fv5 (g := (mkF m 11 #[vr x, vr b, vi 0, vi 0, .val .null, .unset] [(.ref a5), (.ref x)])) rfl rfl (hb hby D16_11)
  have c8 : SS p e below S0 (T7.setTop (mkF m 14 #[vr x, vr b, vi 0, vi 0, .val .null, .unset] [(.ref t5), (.ref x)])) := c6.trans (st7 _ (Steps.refl _))
  obtain ⟨T9, h9, X9, e9, W9, st9⟩ := putF X7 hx hZ5 hown5 (host := "") (Or.inl (ww hw 27 rfl)) Via.refl e7 (Fv.ext E5) (Ex.ext E5) (Or.inr ⟨(ww hw 23 rfl), rfl, hnm⟩) (ww hw 9 rfl) (ty := (.array .byte)) (by decide) rfl rfl (g := (mkF m 14 #[vr x, vr b, vi 0, vi 0, .val .null, .unset] [(.ref t5), (.ref x)])) rfl rfl (hb hby D16_14)
  have c10 : SS p e below S0 (T9.setTop (mkF m 17 #[vr x, vr b, vi 0, vi 0, .val .null, .unset] [])) := c8.trans (st9 _ (Steps.refl _))
  have N9 := Fr.snoc X9 N0 g_x
  have Fw9 := (Fv.ext E5).same W9
  have z9 : n0 ≤ h9.size := Nat.le_trans z5 (Keep.of_wr W9).1
  have K9 := K5.wr W9 (Or.inl (by simp))
  have r9 : CHr Z EL T5.vm h5 T5.vm h9 := CHr.wr W9 (r5.safe Ex.lt (own_safe hZ.alike Ex Fv)) R5.1
  have R9 := R5.trans r9
  have c11 : SS p e below S0 (T9.setTop (mkF m 18 #[vr x, vr b, vi 0, vi 0, .val .null, .unset] [(.ref x)])) := c10.trans (by
    show SS p e below (T9.setTop (mkF m 17 #[vr x, vr b, vi 0, vi 0, .val .null, .unset] [])) _
    refine XS.aloadN X9.here hx rfl (hb hby D16_17) rfl rfl ?_
    exact Steps.refl _)
  obtain ⟨a12, T12, h12, k12, t12, kb12, X12, e12, E12, hS12, hk12, hZ12, hown12, Ex12, Fc12, Fv12, Va12, la12, lb12, r12, -, -, st12⟩ := ldcCH X9 hx hZ5 hown5 (ww hw 21 rfl) hwS e9 hS5 (Nat.le_trans hk5 (Keep.of_wr W9).1) hEL (List.mem_of_getElem? (i := 0) rfl) R9.1 (vs := []) (z := 0) ⟨by simp, rfl⟩ (by decide) rfl (g := (mkF m 18 #[vr x, vr b, vi 0, vi 0, .val .null, .unset] [(.ref x)])) rfl (hb hby D16_18) (n := 0) (by decide) (by decide) (by decide) (by decide)
  have c13 : SS p e below S0 (T12.setTop (mkF m 20 #[vr x, vr b, vi 0, vi 0, .val .null, .unset] [(.ref a12), (.ref x)])) := c11.trans (st12 _ (Steps.refl _))
  have z12 : n0 ≤ h12.size := Nat.le_trans z9 E12.1
  have K12 := K9.ext E12
  have R12 := R9.trans r12
  obtain ⟨T14, X14, e14, st14⟩ := getF X12 hx hZ12 hown12 (host := "") (Or.inl (ww hw 28 rfl)) Via.refl e12 Fc12 (g := (mkF m 20 #[vr x, vr b, vi 0, vi 0, .val .null, .unset] [(.ref a12), (.ref x)])) rfl rfl (hb hby D16_20)
  have c15 : SS p e below S0 (T14.setTop (mkF m 23 #[vr x, vr b, vi 0, vi 0, .val .null, .unset] [(.int 0), (.ref x)])) := c13.trans (st14 _ (Steps.refl _))
  obtain ⟨T16, h16, X16, e16, W16, st16⟩ := putFN X14 hx hZ12 hown12 (ww hw 28 rfl) Via.refl e14 (((Fc.ext E5).other W9 (Or.inr (slot_ne (Or.inr (ww hw 24 rfl)) (Or.inr (ww hw 23 rfl)) (by decide) (t := .byte) (t' := (.array .byte)) (by decide) (by decide)))).ext E12) (((Ex.ext E5).wr W9).ext E12) (Or.inr ⟨(ww hw 24 rfl), rfl, hnm⟩) (ww hw 9 rfl) (ty := .byte) (v' := (.int 0)) (by decide) rfl rfl (g := (mkF m 23 #[vr x, vr b, vi 0, vi 0, .val .null, .unset] [(.int 0), (.ref x)])) rfl rfl (hb hby D16_23)
  have c17 : SS p e below S0 (T16.setTop (mkF m 26 #[vr x, vr b, vi 0, vi 0, .val .null, .unset] [])) := c15.trans (st16 _ (Steps.refl _))
  have N16 := Fr.snoc X16 N9 g_x
  have Fw16 := (((Fc.ext E5).other W9 (Or.inr (slot_ne (Or.inr (ww hw 24 rfl)) (Or.inr (ww hw 23 rfl)) (by decide) (t := .byte) (t' := (.array .byte)) (by decide) (by decide)))).ext E12).same W16
  have z16 : n0 ≤ h16.size := Nat.le_trans z12 (Keep.of_wr W16).1
  have K16 := K12.wr W16 (Or.inl (by simp))
  have r16 : CHr Z EL T12.vm h12 T12.vm h16 := CHr.wr W16 (r12.safe Fw9.lt (r9.safe (Nat.lt_of_lt_of_le Ex.lt E5.1) (r5.safe Ex.lt (own_safe hZ.alike Ex Fv)))) R12.1
  have R16 := R12.trans r16
  obtain ⟨fs, hr, hrun, hended, hW⟩ := X16.leaveW hS12 (by rw [e16]; exact (Nat.le_trans hk12 (Keep.of_wr W16).1)) (v := none) (fun h => rfl)
  refine ⟨_, _, c17.trans (X16.returnOut hx Bd.returns (hb hby D16_26) hr), hrun, hended, _, _, rfl, ?_, ?_, hW.1, hW.2.1, hW.2.2.1, hW.2.2.2.mono (by first | decide | exact Nat.le_of_ble_eq_true rfl) (by first | decide | exact Nat.le_of_ble_eq_true rfl)⟩
  · show QE Z x h0 n0 _ T16.heap _
    rw [e16]
    exact ⟨_, _, rfl, N16, K16, ((((Ex.ext E5).wr W9).ext E12).wr W16), ((Fw9.ext E12).other W16 (Or.inr (slot_ne (Or.inr (ww hw 23 rfl)) (Or.inr (ww hw 24 rfl)) (by decide) (t := (.array .byte)) (t' := .byte) (by decide) (by decide)))), Fw16, (((Va5.other W9 (Ne.symm (Exa.neArv (Ex.ext E5) Va5 (ww hw 9 rfl)))).ext E12).other W16 (Ne.symm (Exa.neArv (Ex.ext E5) Va5 (ww hw 9 rfl)))), own_al0, Nat.zero_le _⟩
  · show CHr Z EL s.vm s.heap T16.vm T16.heap
    rw [hh, e16]; exact R16.trans (CHv.at X16 hZ12 hEL R16.1)

theorem ef_rmE1 (m : MethodId) (x0 : Addr) (x1 : Addr) : entryFrame m #[(.ref x0), (.ref x1)] 2 = mkF m 0 #[.val (.ref x0), .val (.ref x1)] [] := by first | (simp [entryFrame, mkF, argsToLocals, Value.category]; done) | rfl
set_option maxRecDepth 65536 in
set_option maxHeartbeats 40000000 in
theorem rmE1 (l : Launch) (Z : State) (a0 : Array Value) (hw : ∀ d ∈ tables_1, d.before a0 Z = true) (ws : List Jvm.Cond) (x b : Addr) (k : ClassId) (dv : Value) (h0 : Heap) (n0 : Nat) (Z0 : n0 ≤ h0.size) (g_x : n0 ≤ x) (Ex : Exa Z h0 x "java/lang/String") (Fv : Fld Z h0 x "java/lang/String" "value" "[B" .null) (Fc : Fld Z h0 x "java/lang/String" "coder" "B" (.int 0)) (Vb : Arv Z h0 b k .char (0 : Int32) [] dv) :
    MetFree l (⟨"java/lang/String", "<init>", "([C)V"⟩ : MethodName) (head1 (Jvm.Cond.code (⟨"java/lang/String", "<init>", "([C)V"⟩ : MethodName) jdk_42_method_3_code 2 (none) :: ws) ({ frames := 2, cells := 4, slots := 8, locals := 29 } : Room)) (fun aa U => aa = #[(.ref x), (.ref b)] ∧ Z.Warmed39 U.vm ∧ U.heap = h0 ∧ CHv Z EL U.vm h0) (fun _ _ _ _ _ => True) (fun _ U o U' => ∃ v L, o = .returned v ∧ QE Z x h0 n0 v U'.heap L ∧ CHr Z EL U.vm U.heap U'.vm U'.heap ∧ ReturnedEndW U o U' L ({ frames := 2, cells := 4, slots := 8, locals := 29 } : Room).cells ({ frames := 2, cells := 4, slots := 8, locals := 29 } : Room).slots) := by
  refine MetFree.of_bodySF (plainFor_of_name pn_java_lang_String) hisR ?_
  intro p e s m args below meth c s₁ Bd hml0 hP hK
  obtain ⟨rfl, hZ, hh, hCH⟩ := hP
  have hx := Bd.exec
  have hby := Bd.bytes
  have hml : c.maxLocals = 2 := hml0
  have hown : s.vm.findClass "java/lang/String" = some m.cls := findClass_of_methodNamed Bd.named
  have hnm := (name_of_methodNamed Bd.named Bd.method).1
  have X0 : Stand p l e ({ frames := 2, cells := 4, slots := 8, locals := 29 } : Room) s m #[(.ref x), (.ref b)] below meth c s₁ [] 0 0 := Stand.of_body Bd
  have e0 : s₁.heap = h0 := by rw [← hh, Bd.state]; rfl
  have N0 := Fr.nil n0
  have K0 := Keep.refl h0 [x]
  obtain ⟨S0, hS0⟩ : ∃ z, z = s₁.setTop (entryFrame m #[(.ref x), (.ref b)] 2) := ⟨_, rfl⟩
  rw [← hS0]
  have c0 : SS p e below S0 (s₁.setTop (mkF m 0 #[vr x, vr b] [])) := by
    rw [hS0]; exact castTop (ef_rmE1 m x b) (Steps.refl _)
  have X0 : Stand p l e ({ frames := 2, cells := 4, slots := 8, locals := 29 } : Room) (s.setVm s.vm) m #[(.ref x), (.ref b)] below meth c s₁ [] 0 0 := X0
  have hS0 : s.Since s.vm 0 := own_since s
  have R0 : CHr Z EL s.vm h0 s.vm h0 := CHr.refl hCH
  have hEL := own_EW hw
  have hwS := own_strw hw
  have c1 : SS p e below S0 (s₁.setTop (mkF m 4 #[vr x, vr b] [(.ref b), (.int 0), (.ref b), (.ref x)])) := c0.trans (by
    show SS p e below (s₁.setTop (mkF m 0 #[vr x, vr b] [])) _
    refine XS.aloadN X0.here hx rfl (hb hby D17_0) rfl rfl ?_
    refine XS.aloadN X0.here hx rfl (hb hby D17_1) rfl rfl ?_
    refine XS.iconst X0.here hx rfl (hb hby D17_2) ?_
    refine XS.aloadN X0.here hx rfl (hb hby D17_3) rfl rfl ?_
    exact Steps.refl _)
  obtain ⟨cl2, Ar2, -, S2, Nn2, -, -⟩ := id Vb
  have c3 : SS p e below S0 (s₁.setTop (mkF m 6 #[vr x, vr b] [.null, (.int 0), (.int 0), (.ref b), (.ref x)])) := c1.trans (by
    show SS p e below (s₁.setTop (mkF m 4 #[vr x, vr b] [(.ref b), (.int 0), (.ref b), (.ref x)])) _
    refine X0.arraylength hx (by rw [e0]; exact Ar2.1) (State.isArrayOf_alike hZ.alike Ar2.2.1) (g := (mkF m 4 #[vr x, vr b] [(.ref b), (.int 0), (.ref b), (.ref x)])) rfl rfl (hb hby D17_4) _ ?_
    rw [len_of S2 Nn2]
    refine XS.aconstNull X0.here hx rfl (hb hby D17_5) ?_
    exact Steps.refl _)
  obtain ⟨_, _, ⟨T4, L4, kk4, nn4⟩, -, Xx4, hSx4, hgx4, ⟨Lc4, hQ4, l4, y4, z4, r4⟩, st4⟩ := X0.specialBackS hx (y := (⟨"java/lang/String", "<init>", "([CIILjava/lang/Void;)V"⟩ : MethodName)) rfl hown (mvT hZ (ww hw 14 rfl)) (mvT hZ (ww hw 15 rfl)) (mvT hZ (ww hw 17 rfl)) (by decide) (backOfSH (W := 0) (rmE4 l Z a0 hw [] x b h0 n0 Z0 g_x Ex Fv Fc) hZ (ww hw 17 rfl) (ww hw 10 rfl) (by decide) (by decide) hEL R0.1) (g := (mkF m 6 #[vr x, vr b] [.null, (.int 0), (.int 0), (.ref b), (.ref x)])) rfl (by rw [hml]; rfl) (Steps.refl _) (a := x) (argsL := [(.ref b), (.int 0), (.int 0), .null]) (rest := []) (lenOf pd_oaCIILjavaslangsVoidecV rfl) rfl (by show 2 * 0 + _ ≤ _; exact Nat.le_of_eq rfl) (hb hby D17_6) (fun _ _ => ⟨rfl, e0, (by decide : 0 + 4 ≤ _), (by decide : 0 + 8 ≤ _)⟩)
  dsimp only [Pt.U, Pt.locs, Pt.cells, Pt.slots] at Xx4 hSx4 hgx4 l4 y4 z4 r4 st4 hQ4
  subst l4 y4 z4
  obtain ⟨X4, hS4, hZ4, hown4⟩ := rebS hS0 (Nat.zero_le _) Xx4 hSx4 (e0 ▸ hgx4) hZ hown
  obtain ⟨t4, kb4, rfl, Nq4, Kq4, So4⟩ := hQ4
  have c5 : SS p e below S0 (T4.setTop (mkF m 9 #[vr x, vr b] [])) := c3.trans (st4)
  have N4 := Fr.app N0 Nq4
  have z4 : n0 ≤ T4.heap.size := Nat.le_trans Z0 Kq4.1
  have K4 := K0.trans Kq4 (allS (Or.inl (by simp)) all0)
  have R4 := R0.trans r4
  obtain ⟨fs, hr, hrun, hended, hW⟩ := X4.leaveW hS4 (Nat.le_refl _) (v := none) (fun h => rfl)
  refine ⟨_, _, c5.trans (X4.returnOut hx Bd.returns (hb hby D17_9) hr), hrun, hended, _, _, rfl, ?_, ?_, hW.1, hW.2.1, hW.2.2.1, hW.2.2.2.mono (by first | decide | exact Nat.le_of_ble_eq_true rfl) (by first | decide | exact Nat.le_of_ble_eq_true rfl)⟩
  · show QE Z x h0 n0 _ T4.heap _
    exact ⟨_, _, rfl, N4, K4, So4⟩
  · show CHr Z EL s.vm s.heap T4.vm T4.heap
    rw [hh]; exact R4.trans (CHv.at X4 hZ4 hEL R4.1)

def Q0 (Z : State) (h0 : Heap) (n0 : Nat) (v : Option Value) (h : Heap) (L : List Loc) : Prop := v = some (.int 1) ∧ Fr n0 L

set_option maxRecDepth 65536 in
theorem own_dec_0 : (R4.all fun k0 => R4.all fun k1 => R4.all fun k2 => R4.all fun k3 => R4.all fun k4 => own_chk (0 : Int32) [] k0 k1 k2 k3 k4) = true := by decide +kernel
set_option maxRecDepth 65536 in
theorem own_dec_1 : (R4.all fun k0 => R4.all fun k1 => R4.all fun k2 => R4.all fun k3 => R4.all fun k4 => own_chk (1 : Int32) [k0] k0 k1 k2 k3 k4) = true := by decide +kernel
set_option maxRecDepth 65536 in
theorem own_dec_2 : (R4.all fun k0 => R4.all fun k1 => R4.all fun k2 => R4.all fun k3 => R4.all fun k4 => own_chk (2 : Int32) [k0, k1] k0 k1 k2 k3 k4) = true := by decide +kernel
set_option maxRecDepth 65536 in
theorem own_dec_3 : (R4.all fun k0 => R4.all fun k1 => R4.all fun k2 => R4.all fun k3 => R4.all fun k4 => own_chk (3 : Int32) [k0, k1, k2] k0 k1 k2 k3 k4) = true := by decide +kernel
set_option maxRecDepth 65536 in
theorem own_dec_4 : (R4.all fun k0 => R4.all fun k1 => R4.all fun k2 => R4.all fun k3 => R4.all fun k4 => own_chk (4 : Int32) [k0, k1, k2, k3] k0 k1 k2 k3 k4) = true := by decide +kernel
set_option maxRecDepth 65536 in
theorem own_dec_5 : (R4.all fun k0 => R4.all fun k1 => R4.all fun k2 => R4.all fun k3 => R4.all fun k4 => own_chk (5 : Int32) [k0, k1, k2, k3, k4] k0 k1 k2 k3 k4) = true := by decide +kernel
theorem own_fin {nn g0 g1 g2 g3 g4 bad pts pA pB pC pD pE vd : Int32} (l6 : ∃ a : Nat, a < 6 ∧ nn = Int32.ofNat a) (hbad : bad = (if (own_odd g0 (0 : Int32) nn) = (0 : Int32) then (if (own_odd g1 (1 : Int32) nn) = (0 : Int32) then (if (own_odd g2 (2 : Int32) nn) = (0 : Int32) then (if (own_odd g3 (3 : Int32) nn) = (0 : Int32) then (if (own_odd g4 (4 : Int32) nn) = (0 : Int32) then (0 : Int32) else (1 : Int32)) else (1 : Int32)) else (1 : Int32)) else (1 : Int32)) else (1 : Int32))) (hpts : pts = (((((own_pt g0 (0 : Int32) nn) + (own_pt g1 (1 : Int32) nn)) + (own_pt g2 (2 : Int32) nn)) + (own_pt g3 (3 : Int32) nn)) + (own_pt g4 (4 : Int32) nn))) (hpA : pA = (if (own_pt g4 (4 : Int32) nn) = (1 : Int32) then (4 : Int32) else (-1 : Int32))) (hpB : pB = (if (own_pt g3 (3 : Int32) nn) = (1 : Int32) then (3 : Int32) else pA)) (hpC : pC = (if (own_pt g2 (2 : Int32) nn) = (1 : Int32) then (2 : Int32) else pB)) (hpD : pD = (if (own_pt g1 (1 : Int32) nn) = (1 : Int32) then (1 : Int32) else pC)) (hpE : pE = (if (own_pt g0 (0 : Int32) nn) = (1 : Int32) then (0 : Int32) else pD)) (hvd : vd = (if bad = (0 : Int32) then (if (1 : Int32) < pts then (0 : Int32) else (if (0 : Int32) < nn then (if pE = (0 : Int32) then (0 : Int32) else (if pE = (nn - (1 : Int32)) then (0 : Int32) else (1 : Int32))) else (0 : Int32))) else (0 : Int32))) :
    (own_read (own_txt nn g0 g1 g2 g3 g4) = none → vd = 0) ∧ ∀ (st : Nat) (e : Int32), own_read (own_txt nn g0 g1 g2 g3 g4) = some (st, e) → ¬ vd = 0 ∧ ∀ we zz pl : Int32, we = (if pE < (0 : Int32) then nn else pE) → zz = (if (own_zero g0 (0 : Int32) we) = (0 : Int32) then (0 : Int32) else (if (own_zero g1 (1 : Int32) we) = (0 : Int32) then (1 : Int32) else (if (own_zero g2 (2 : Int32) we) = (0 : Int32) then (2 : Int32) else (if (own_zero g3 (3 : Int32) we) = (0 : Int32) then (3 : Int32) else (if (own_zero g4 (4 : Int32) we) = (0 : Int32) then (4 : Int32) else (5 : Int32)))))) → pl = (if pE < (0 : Int32) then (0 : Int32) else ((nn - pE) - (1 : Int32))) → (e - Int32.ofNat st = we - zz ∧ (if e = nn then (0 : Int32) else nn - e - (1 : Int32)) = pl) := by
  have hd : own_chk nn ((own_txt nn g0 g1 g2 g3 g4).map own_cat) (own_cat g0) (own_cat g1) (own_cat g2) (own_cat g3) (own_cat g4) = true := by
    obtain ⟨a, ha, rfl⟩ := l6
    rcases (by omega : a = 0 ∨ a = 1 ∨ a = 2 ∨ a = 3 ∨ a = 4 ∨ a = 5) with rfl | rfl | rfl | rfl | rfl | rfl
    · exact List.all_eq_true.mp (List.all_eq_true.mp (List.all_eq_true.mp (List.all_eq_true.mp (List.all_eq_true.mp own_dec_0 _ (own_cat4 g0)) _ (own_cat4 g1)) _ (own_cat4 g2)) _ (own_cat4 g3)) _ (own_cat4 g4)
    · exact List.all_eq_true.mp (List.all_eq_true.mp (List.all_eq_true.mp (List.all_eq_true.mp (List.all_eq_true.mp own_dec_1 _ (own_cat4 g0)) _ (own_cat4 g1)) _ (own_cat4 g2)) _ (own_cat4 g3)) _ (own_cat4 g4)
    · exact List.all_eq_true.mp (List.all_eq_true.mp (List.all_eq_true.mp (List.all_eq_true.mp (List.all_eq_true.mp own_dec_2 _ (own_cat4 g0)) _ (own_cat4 g1)) _ (own_cat4 g2)) _ (own_cat4 g3)) _ (own_cat4 g4)
    · exact List.all_eq_true.mp (List.all_eq_true.mp (List.all_eq_true.mp (List.all_eq_true.mp (List.all_eq_true.mp own_dec_3 _ (own_cat4 g0)) _ (own_cat4 g1)) _ (own_cat4 g2)) _ (own_cat4 g3)) _ (own_cat4 g4)
    · exact List.all_eq_true.mp (List.all_eq_true.mp (List.all_eq_true.mp (List.all_eq_true.mp (List.all_eq_true.mp own_dec_4 _ (own_cat4 g0)) _ (own_cat4 g1)) _ (own_cat4 g2)) _ (own_cat4 g3)) _ (own_cat4 g4)
    · exact List.all_eq_true.mp (List.all_eq_true.mp (List.all_eq_true.mp (List.all_eq_true.mp (List.all_eq_true.mp own_dec_5 _ (own_cat4 g0)) _ (own_cat4 g1)) _ (own_cat4 g2)) _ (own_cat4 g3)) _ (own_cat4 g4)
  subst hbad hpts hpA hpB hpC hpD hpE hvd
  rw [own_read_k]
  simp only [own_odd_k, own_pt_k, own_zero_k]
  unfold own_chk at hd
  refine ⟨fun h => ?_, fun st e h => ?_⟩
  · rw [h] at hd
    exact eq_of_beq hd
  · rw [h] at hd
    simp only [Bool.and_eq_true, Bool.not_eq_true'] at hd
    obtain ⟨⟨h1, h2⟩, h3⟩ := hd
    refine ⟨fun q => by rw [beq_eq_false_iff_ne] at h1; exact h1 q, ?_⟩
    rintro we zz pl rfl rfl rfl
    exact ⟨eq_of_beq h2, eq_of_beq h3⟩

theorem pd_oaCcV : parseMethodDescriptor "([C)V" = some ⟨[(.array .char)], none⟩ := by decide +kernel
theorem pd_oCIIcZ : parseMethodDescriptor "(CII)Z" = some ⟨[.char, .int, .int], some .boolean⟩ := by decide +kernel
theorem pd_oCIIcI : parseMethodDescriptor "(CII)I" = some ⟨[.char, .int, .int], some .int⟩ := by decide +kernel
theorem pd_oLjavaslangsStringecLcomsexamplespricefoldspricefoldsmodelsDecimalTexte : parseMethodDescriptor "(Ljava/lang/String;)Lcom/example/pricefold/pricefold/model/DecimalText;" = some ⟨[(.object "java/lang/String")], some (.object "com/example/pricefold/pricefold/model/DecimalText")⟩ := by decide +kernel
theorem ef_rm0 (m : MethodId) (x0 : Int32) (x1 : Int32) (x2 : Int32) (x3 : Int32) (x4 : Int32) (x5 : Int32) : entryFrame m #[(.int x0), (.int x1), (.int x2), (.int x3), (.int x4), (.int x5)] maxLocals = mkF m 0 #[.val (.int x0), .val (.int x1), .val (.int x2), .val (.int x3), .val (.int x4), .val (.int x5), .unset, .unset, .unset, .unset, .unset, .unset, .unset, .unset, .unset, .unset, .unset, .unset, .unset, .unset, .unset, .unset] [] := by first | (simp [entryFrame, mkF, argsToLocals, Value.category, maxLocals]; done) | rfl
set_option maxRecDepth 65536 in
set_option maxHeartbeats 40000000 in
theorem rm0 (l : Launch) (Z : State) (a0 : Array Value) (hw : ∀ d ∈ tables_1, d.before a0 Z = true) (ws : List Jvm.Cond) (p0 p1 p2 p3 p4 p5 : Int32) (G1 : Int32) (G3 : Value) (h0 : Heap) (n0 : Nat) (Z0 : n0 ≤ h0.size) (sAD : Sta Z Z.heap "java/lang/StringUTF16" "$assertionsDisabled" "Z" (.int 1)) (sHI : Sta Z Z.heap "java/lang/StringUTF16" "HI_BYTE_SHIFT" "I" (.int 0)) (sLO : Sta Z Z.heap "java/lang/StringUTF16" "LO_BYTE_SHIFT" "I" (.int 8)) (O2 : Sta Z Z.heap "java/lang/String" "COMPACT_STRINGS" "Z" (.int G1)) (P5 : ¬ G1 = 0) (X00 : Old Z n0 h0) (O4 : Sta Z Z.heap "jdk/internal/util/Preconditions" "SIOOBE_FORMATTER" "Ljava/util/function/BiFunction;" G3) (rG3 : G3.isRef = true) :
    MetFree l x (head1 (Jvm.Cond.code x code maxLocals ret :: ws) room_1) (fun aa U => aa = #[(.int p0), (.int p1), (.int p2), (.int p3), (.int p4), (.int p5)] ∧ Z.Warmed39 U.vm ∧ U.heap = h0 ∧ CHv Z EL U.vm h0) (fun _ _ _ _ _ => True) (fun _ U o U' => ∃ v L, o = .returned v ∧ Q0 Z  h0 n0 v U'.heap L ∧ CHr Z EL U.vm U.heap U'.vm U'.heap ∧ ReturnedEndW U o U' L room_1.cells room_1.slots) := by
  refine MetFree.of_bodySF (plainFor_of_name pn_com_example_pricefold_pricefold_model_DecimalTextReadPinLaw) hisR ?_
  intro p e s m args below meth c s₁ Bd hml0 hP hK
  obtain ⟨rfl, hZ, hh, hCH⟩ := hP
  have hx := Bd.exec
  have hby := Bd.bytes
  have hml : c.maxLocals = 22 := hml0
  have hown : s.vm.findClass "com/example/pricefold/pricefold/model/DecimalTextReadPinLaw" = some m.cls := findClass_of_methodNamed Bd.named
  have hnm := (name_of_methodNamed Bd.named Bd.method).1
  have X0 : Stand p l e room_1 s m #[(.int p0), (.int p1), (.int p2), (.int p3), (.int p4), (.int p5)] below meth c s₁ [] 0 0 := Stand.of_body Bd
  have e0 : s₁.heap = h0 := by rw [← hh, Bd.state]; rfl
  have N0 := Fr.nil n0
  have K0 := Keep.refl h0 []
  obtain ⟨S0, hS0⟩ : ∃ z, z = s₁.setTop (entryFrame m #[(.int p0), (.int p1), (.int p2), (.int p3), (.int p4), (.int p5)] maxLocals) := ⟨_, rfl⟩
  rw [← hS0]
  have c0 : SS p e below S0 (s₁.setTop (mkF m 0 #[vi p0, vi p1, vi p2, vi p3, vi p4, vi p5, .unset, .unset, .unset, .unset, .unset, .unset, .unset, .unset, .unset, .unset, .unset, .unset, .unset, .unset, .unset, .unset] [])) := by
    rw [hS0]; exact castTop (ef_rm0 m p0 p1 p2 p3 p4 p5) (Steps.refl _)
  have X0 : Stand p l e room_1 (s.setVm s.vm) m #[(.int p0), (.int p1), (.int p2), (.int p3), (.int p4), (.int p5)] below meth c s₁ [] 0 0 := X0
  have hS0 : s.Since s.vm 0 := own_since s
  have R0 : CHr Z EL s.vm h0 s.vm h0 := CHr.refl hCH
  have hEL := own_EW hw
  have hwS := own_strw hw
  have c1 : SS p e below S0 (s₁.setTop (mkF m 9 #[vi p0, vi p1, vi p2, vi p3, vi p4, vi p5, vi ((p0 &&& (2147483647 : Int32)) % (6 : Int32)), .unset, .unset, .unset, .unset, .unset, .unset, .unset, .unset, .unset, .unset, .unset, .unset, .unset, .unset, .unset] [])) := c0.trans (by
    show SS p e below (s₁.setTop (mkF m 0 #[vi p0, vi p1, vi p2, vi p3, vi p4, vi p5, .unset, .unset, .unset, .unset, .unset, .unset, .unset, .unset, .unset, .unset, .unset, .unset, .unset, .unset, .unset, .unset] [])) _
    refine XS.iloadN X0.here hx rfl (hb hby at_0) rfl ?_
    show SS p e below (s₁.setTop (mkF m 1 #[vi p0, vi p1, vi p2, vi p3, vi p4, vi p5, .unset, .unset, .unset, .unset, .unset, .unset, .unset, .unset, .unset, .unset, .unset, .unset, .unset, .unset, .unset, .unset] [(.int p0)])) _
    refine X0.ldcInt hx hown (mvT hZ (ww hw 0 rfl)) (g := (mkF m 1 #[vi p0, vi p1, vi p2, vi p3, vi p4, vi p5, .unset, .unset, .unset, .unset, .unset, .unset, .unset, .unset, .unset, .unset, .unset, .unset, .unset, .unset, .unset, .unset] [(.int p0)])) rfl (hb hby at_1) _ ?_
    refine XS.iand X0.here hx rfl (hb hby at_3) rfl ?_
    refine XS.bipush X0.here hx rfl (hb hby at_4) ?_
    show SS p e below (s₁.setTop (mkF m 6 #[vi p0, vi p1, vi p2, vi p3, vi p4, vi p5, .unset, .unset, .unset, .unset, .unset, .unset, .unset, .unset, .unset, .unset, .unset, .unset, .unset, .unset, .unset, .unset] [(.int 6), (.int (p0 &&& (2147483647 : Int32)))])) _
    refine iremM (g := (mkF m 6 #[vi p0, vi p1, vi p2, vi p3, vi p4, vi p5, .unset, .unset, .unset, .unset, .unset, .unset, .unset, .unset, .unset, .unset, .unset, .unset, .unset, .unset, .unset, .unset] [(.int 6), (.int (p0 &&& (2147483647 : Int32)))])) X0 hx rfl (hb hby at_6) rfl (by decide) ?_
    refine XS.istore X0.here hx rfl (hb hby at_7) rfl (l' := #[vi p0, vi p1, vi p2, vi p3, vi p4, vi p5, vi ((p0 &&& (2147483647 : Int32)) % (6 : Int32)), .unset, .unset, .unset, .unset, .unset, .unset, .unset, .unset, .unset, .unset, .unset, .unset, .unset, .unset, .unset]) rfl ?_
    exact Steps.refl _)
  obtain ⟨nn, hnn, c2⟩ : ∃ z : Int32, z = ((p0 &&& (2147483647 : Int32)) % (6 : Int32)) ∧ SS p e below S0 (s₁.setTop (mkF m 9 #[vi p0, vi p1, vi p2, vi p3, vi p4, vi p5, vi z, .unset, .unset, .unset, .unset, .unset, .unset, .unset, .unset, .unset, .unset, .unset, .unset, .unset, .unset, .unset] [])) := ⟨_, rfl, c1⟩
  have l6 : ∃ a : Nat, a < 6 ∧ nn = Int32.ofNat a := hnn ▸ own_rem31 p0 (m := 6) (by decide) (by decide)
  have c3 : SS p e below S0 (s₁.setTop (mkF m 10 #[vi p0, vi p1, vi p2, vi p3, vi p4, vi p5, vi nn, .unset, .unset, .unset, .unset, .unset, .unset, .unset, .unset, .unset, .unset, .unset, .unset, .unset, .unset, .unset] [(.int p1)])) := c2.trans (by
    show SS p e below (s₁.setTop (mkF m 9 #[vi p0, vi p1, vi p2, vi p3, vi p4, vi p5, vi nn, .unset, .unset, .unset, .unset, .unset, .unset, .unset, .unset, .unset, .unset, .unset, .unset, .unset, .unset, .unset] [])) _
    refine XS.iloadN X0.here hx rfl (hb hby at_9) rfl ?_
    exact Steps.refl _)
  obtain ⟨_, _, ⟨T4, L4, kk4, nn4⟩, -, X4, ⟨Lc4, hQ4, l4, y4, z4⟩, st4⟩ := Jvm.LawKit.callS X0 hx (y := (⟨"com/example/pricefold/pricefold/model/DecimalTextReadPinLaw", "draw", "(I)C"⟩ : MethodName)) hown (mvT hZ (ww hw 1 rfl)) (mvT hZ (ww hw 2 rfl)) (mvT hZ (ww hw 3 rfl)) (mvT hZ (ww hw 4 rfl)) (by decide) (backOf (W := 0) (rmDr l Z a0 hw [] p1 h0 n0 Z0 ) hZ (ww hw 4 rfl) (ww hw 3 rfl) (by decide) (by decide)) (g := (mkF m 10 #[vi p0, vi p1, vi p2, vi p3, vi p4, vi p5, vi nn, .unset, .unset, .unset, .unset, .unset, .unset, .unset, .unset, .unset, .unset, .unset, .unset, .unset, .unset, .unset] [(.int p1)])) rfl (by rw [hml]; rfl) (argsL := [(.int p1)]) (rest := []) (lenOf pd_oIcC rfl) rfl (by show 2 * 0 + _ ≤ _; exact Nat.le_of_eq rfl) (hb hby at_10) (fun _ _ => ⟨rfl, e0, (by decide : 0 + 0 ≤ _), (by decide : 0 + 0 ≤ _)⟩)
  dsimp only [Pt.U, Pt.locs, Pt.cells, Pt.slots] at X4 l4 y4 z4 st4 hQ4
  subst l4 y4 z4
  obtain ⟨r4, rfl, hr4, Nq4, eq4⟩ := hQ4
  have c5 : SS p e below S0 (T4.setTop (mkF m 13 #[vi p0, vi p1, vi p2, vi p3, vi p4, vi p5, vi nn, .unset, .unset, .unset, .unset, .unset, .unset, .unset, .unset, .unset, .unset, .unset, .unset, .unset, .unset, .unset] [(.int r4)])) := c3.trans (st4 _ (Steps.refl _))
  have N4 := Fr.app N0 Nq4
  have c6 : SS p e below S0 (T4.setTop (mkF m 15 #[vi p0, vi p1, vi p2, vi p3, vi p4, vi p5, vi nn, vi r4, .unset, .unset, .unset, .unset, .unset, .unset, .unset, .unset, .unset, .unset, .unset, .unset, .unset, .unset] [])) := c5.trans (by
    show SS p e below (T4.setTop (mkF m 13 #[vi p0, vi p1, vi p2, vi p3, vi p4, vi p5, vi nn, .unset, .unset, .unset, .unset, .unset, .unset, .unset, .unset, .unset, .unset, .unset, .unset, .unset, .unset, .unset] [(.int r4)])) _
    refine XS.istore X4.here hx rfl (hb hby at_13) rfl (l' := #[vi p0, vi p1, vi p2, vi p3, vi p4, vi p5, vi nn, vi r4, .unset, .unset, .unset, .unset, .unset, .unset, .unset, .unset, .unset, .unset, .unset, .unset, .unset, .unset]) rfl ?_
    exact Steps.refl _)
  obtain ⟨g0, hg0, c7⟩ : ∃ z : Int32, z = r4 ∧ SS p e below S0 (T4.setTop (mkF m 15 #[vi p0, vi p1, vi p2, vi p3, vi p4, vi p5, vi nn, vi z, .unset, .unset, .unset, .unset, .unset, .unset, .unset, .unset, .unset, .unset, .unset, .unset, .unset, .unset] [])) := ⟨_, rfl, c6⟩
  have hg0c : C16 g0 := hg0 ▸ hr4
  have c8 : SS p e below S0 (T4.setTop (mkF m 16 #[vi p0, vi p1, vi p2, vi p3, vi p4, vi p5, vi nn, vi g0, .unset, .unset, .unset, .unset, .unset, .unset, .unset, .unset, .unset, .unset, .unset, .unset, .unset, .unset] [(.int p2)])) := c7.trans (by
    show SS p e below (T4.setTop (mkF m 15 #[vi p0, vi p1, vi p2, vi p3, vi p4, vi p5, vi nn, vi g0, .unset, .unset, .unset, .unset, .unset, .unset, .unset, .unset, .unset, .unset, .unset, .unset, .unset, .unset] [])) _
    refine XS.iloadN X4.here hx rfl (hb hby at_15) rfl ?_
    exact Steps.refl _)
  obtain ⟨_, _, ⟨T9, L9, kk9, nn9⟩, -, X9, ⟨Lc9, hQ9, l9, y9, z9⟩, st9⟩ := Jvm.LawKit.callS X4 hx (y := (⟨"com/example/pricefold/pricefold/model/DecimalTextReadPinLaw", "draw", "(I)C"⟩ : MethodName)) hown (mvT hZ (ww hw 1 rfl)) (mvT hZ (ww hw 2 rfl)) (mvT hZ (ww hw 3 rfl)) (mvT hZ (ww hw 4 rfl)) (by decide) (backOf (W := 0) (rmDr l Z a0 hw [] p2 h0 n0 Z0 ) hZ (ww hw 4 rfl) (ww hw 3 rfl) (by decide) (by decide)) (g := (mkF m 16 #[vi p0, vi p1, vi p2, vi p3, vi p4, vi p5, vi nn, vi g0, .unset, .unset, .unset, .unset, .unset, .unset, .unset, .unset, .unset, .unset, .unset, .unset, .unset, .unset] [(.int p2)])) rfl (by rw [hml]; rfl) (argsL := [(.int p2)]) (rest := []) (lenOf pd_oIcC rfl) rfl (by show 2 * 0 + _ ≤ _; exact Nat.le_of_eq rfl) (hb hby at_16) (fun _ _ => ⟨rfl, eq4, (by decide : 0 + 0 ≤ _), (by decide : 0 + 0 ≤ _)⟩)
  dsimp only [Pt.U, Pt.locs, Pt.cells, Pt.slots] at X9 l9 y9 z9 st9 hQ9
  subst l9 y9 z9
  obtain ⟨r9, rfl, hr9, Nq9, eq9⟩ := hQ9
  have c10 : SS p e below S0 (T9.setTop (mkF m 19 #[vi p0, vi p1, vi p2, vi p3, vi p4, vi p5, vi nn, vi g0, .unset, .unset, .unset, .unset, .unset, .unset, .unset, .unset, .unset, .unset, .unset, .unset, .unset, .unset] [(.int r9)])) := c8.trans (st9 _ (Steps.refl _))
  have N9 := Fr.app N4 Nq9
  have c11 : SS p e below S0 (T9.setTop (mkF m 21 #[vi p0, vi p1, vi p2, vi p3, vi p4, vi p5, vi nn, vi g0, vi r9, .unset, .unset, .unset, .unset, .unset, .unset, .unset, .unset, .unset, .unset, .unset, .unset, .unset] [])) := c10.trans (by
    show SS p e below (T9.setTop (mkF m 19 #[vi p0, vi p1, vi p2, vi p3, vi p4, vi p5, vi nn, vi g0, .unset, .unset, .unset, .unset, .unset, .unset, .unset, .unset, .unset, .unset, .unset, .unset, .unset, .unset] [(.int r9)])) _
    refine XS.istore X9.here hx rfl (hb hby at_19) rfl (l' := #[vi p0, vi p1, vi p2, vi p3, vi p4, vi p5, vi nn, vi g0, vi r9, .unset, .unset, .unset, .unset, .unset, .unset, .unset, .unset, .unset, .unset, .unset, .unset, .unset]) rfl ?_
    exact Steps.refl _)
  obtain ⟨g1, hg1, c12⟩ : ∃ z : Int32, z = r9 ∧ SS p e below S0 (T9.setTop (mkF m 21 #[vi p0, vi p1, vi p2, vi p3, vi p4, vi p5, vi nn, vi g0, vi z, .unset, .unset, .unset, .unset, .unset, .unset, .unset, .unset, .unset, .unset, .unset, .unset, .unset] [])) := ⟨_, rfl, c11⟩
  have hg1c : C16 g1 := hg1 ▸ hr9
  have c13 : SS p e below S0 (T9.setTop (mkF m 22 #[vi p0, vi p1, vi p2, vi p3, vi p4, vi p5, vi nn, vi g0, vi g1, .unset, .unset, .unset, .unset, .unset, .unset, .unset, .unset, .unset, .unset, .unset, .unset, .unset] [(.int p3)])) := c12.trans (by
    show SS p e below (T9.setTop (mkF m 21 #[vi p0, vi p1, vi p2, vi p3, vi p4, vi p5, vi nn, vi g0, vi g1, .unset, .unset, .unset, .unset, .unset, .unset, .unset, .unset, .unset, .unset, .unset, .unset, .unset] [])) _
    refine XS.iloadN X9.here hx rfl (hb hby at_21) rfl ?_
    exact Steps.refl _)
  obtain ⟨_, _, ⟨T14, L14, kk14, nn14⟩, -, X14, ⟨Lc14, hQ14, l14, y14, z14⟩, st14⟩ := Jvm.LawKit.callS X9 hx (y := (⟨"com/example/pricefold/pricefold/model/DecimalTextReadPinLaw", "draw", "(I)C"⟩ : MethodName)) hown (mvT hZ (ww hw 1 rfl)) (mvT hZ (ww hw 2 rfl)) (mvT hZ (ww hw 3 rfl)) (mvT hZ (ww hw 4 rfl)) (by decide) (backOf (W := 0) (rmDr l Z a0 hw [] p3 h0 n0 Z0 ) hZ (ww hw 4 rfl) (ww hw 3 rfl) (by decide) (by decide)) (g := (mkF m 22 #[vi p0, vi p1, vi p2, vi p3, vi p4, vi p5, vi nn, vi g0, vi g1, .unset, .unset, .unset, .unset, .unset, .unset, .unset, .unset, .unset, .unset, .unset, .unset, .unset] [(.int p3)])) rfl (by rw [hml]; rfl) (argsL := [(.int p3)]) (rest := []) (lenOf pd_oIcC rfl) rfl (by show 2 * 0 + _ ≤ _; exact Nat.le_of_eq rfl) (hb hby at_22) (fun _ _ => ⟨rfl, eq9, (by decide : 0 + 0 ≤ _), (by decide : 0 + 0 ≤ _)⟩)
  dsimp only [Pt.U, Pt.locs, Pt.cells, Pt.slots] at X14 l14 y14 z14 st14 hQ14
  subst l14 y14 z14
  obtain ⟨r14, rfl, hr14, Nq14, eq14⟩ := hQ14
  have c15 : SS p e below S0 (T14.setTop (mkF m 25 #[vi p0, vi p1, vi p2, vi p3, vi p4, vi p5, vi nn, vi g0, vi g1, .unset, .unset, .unset, .unset, .unset, .unset, .unset, .unset, .unset, .unset, .unset, .unset, .unset] [(.int r14)])) := c13.trans (st14 _ (Steps.refl _))
  have N14 := Fr.app N9 Nq14
  have c16 : SS p e below S0 (T14.setTop (mkF m 27 #[vi p0, vi p1, vi p2, vi p3, vi p4, vi p5, vi nn, vi g0, vi g1, vi r14, .unset, .unset, .unset, .unset, .unset, .unset, .unset, .unset, .unset, .unset, .unset, .unset] [])) := c15.trans (by
    show SS p e below (T14.setTop (mkF m 25 #[vi p0, vi p1, vi p2, vi p3, vi p4, vi p5, vi nn, vi g0, vi g1, .unset, .unset, .unset, .unset, .unset, .unset, .unset, .unset, .unset, .unset, .unset, .unset, .unset] [(.int r14)])) _
    refine XS.istore X14.here hx rfl (hb hby at_25) rfl (l' := #[vi p0, vi p1, vi p2, vi p3, vi p4, vi p5, vi nn, vi g0, vi g1, vi r14, .unset, .unset, .unset, .unset, .unset, .unset, .unset, .unset, .unset, .unset, .unset, .unset]) rfl ?_
    exact Steps.refl _)
  obtain ⟨g2, hg2, c17⟩ : ∃ z : Int32, z = r14 ∧ SS p e below S0 (T14.setTop (mkF m 27 #[vi p0, vi p1, vi p2, vi p3, vi p4, vi p5, vi nn, vi g0, vi g1, vi z, .unset, .unset, .unset, .unset, .unset, .unset, .unset, .unset, .unset, .unset, .unset, .unset] [])) := ⟨_, rfl, c16⟩
  have hg2c : C16 g2 := hg2 ▸ hr14
  have c18 : SS p e below S0 (T14.setTop (mkF m 29 #[vi p0, vi p1, vi p2, vi p3, vi p4, vi p5, vi nn, vi g0, vi g1, vi g2, .unset, .unset, .unset, .unset, .unset, .unset, .unset, .unset, .unset, .unset, .unset, .unset] [(.int p4)])) := c17.trans (by
    show SS p e below (T14.setTop (mkF m 27 #[vi p0, vi p1, vi p2, vi p3, vi p4, vi p5, vi nn, vi g0, vi g1, vi g2, .unset, .unset, .unset, .unset, .unset, .unset, .unset, .unset, .unset, .unset, .unset, .unset] [])) _
    refine XS.iload X14.here hx rfl (hb hby at_27) rfl ?_
    exact Steps.refl _)
  obtain ⟨_, _, ⟨T19, L19, kk19, nn19⟩, -, X19, ⟨Lc19, hQ19, l19, y19, z19⟩, st19⟩ := Jvm.LawKit.callS X14 hx (y := (⟨"com/example/pricefold/pricefold/model/DecimalTextReadPinLaw", "draw", "(I)C"⟩ : MethodName)) hown (mvT hZ (ww hw 1 rfl)) (mvT hZ (ww hw 2 rfl)) (mvT hZ (ww hw 3 rfl)) (mvT hZ (ww hw 4 rfl)) (by decide) (backOf (W := 0) (rmDr l Z a0 hw [] p4 h0 n0 Z0 ) hZ (ww hw 4 rfl) (ww hw 3 rfl) (by decide) (by decide)) (g := (mkF m 29 #[vi p0, vi p1, vi p2, vi p3, vi p4, vi p5, vi nn, vi g0, vi g1, vi g2, .unset, .unset, .unset, .unset, .unset, .unset, .unset, .unset, .unset, .unset, .unset, .unset] [(.int p4)])) rfl (by rw [hml]; rfl) (argsL := [(.int p4)]) (rest := []) (lenOf pd_oIcC rfl) rfl (by show 2 * 0 + _ ≤ _; exact Nat.le_of_eq rfl) (hb hby at_29) (fun _ _ => ⟨rfl, eq14, (by decide : 0 + 0 ≤ _), (by decide : 0 + 0 ≤ _)⟩)
  dsimp only [Pt.U, Pt.locs, Pt.cells, Pt.slots] at X19 l19 y19 z19 st19 hQ19
  subst l19 y19 z19
  obtain ⟨r19, rfl, hr19, Nq19, eq19⟩ := hQ19
  have c20 : SS p e below S0 (T19.setTop (mkF m 32 #[vi p0, vi p1, vi p2, vi p3, vi p4, vi p5, vi nn, vi g0, vi g1, vi g2, .unset, .unset, .unset, .unset, .unset, .unset, .unset, .unset, .unset, .unset, .unset, .unset] [(.int r19)])) := c18.trans (st19 _ (Steps.refl _))
  have N19 := Fr.app N14 Nq19
  have c21 : SS p e below S0 (T19.setTop (mkF m 34 #[vi p0, vi p1, vi p2, vi p3, vi p4, vi p5, vi nn, vi g0, vi g1, vi g2, vi r19, .unset, .unset, .unset, .unset, .unset, .unset, .unset, .unset, .unset, .unset, .unset] [])) := c20.trans (by
    show SS p e below (T19.setTop (mkF m 32 #[vi p0, vi p1, vi p2, vi p3, vi p4, vi p5, vi nn, vi g0, vi g1, vi g2, .unset, .unset, .unset, .unset, .unset, .unset, .unset, .unset, .unset, .unset, .unset, .unset] [(.int r19)])) _
    refine XS.istore X19.here hx rfl (hb hby at_32) rfl (l' := #[vi p0, vi p1, vi p2, vi p3, vi p4, vi p5, vi nn, vi g0, vi g1, vi g2, vi r19, .unset, .unset, .unset, .unset, .unset, .unset, .unset, .unset, .unset, .unset, .unset]) rfl ?_
    exact Steps.refl _)
  obtain ⟨g3, hg3, c22⟩ : ∃ z : Int32, z = r19 ∧ SS p e below S0 (T19.setTop (mkF m 34 #[vi p0, vi p1, vi p2, vi p3, vi p4, vi p5, vi nn, vi g0, vi g1, vi g2, vi z, .unset, .unset, .unset, .unset, .unset, .unset, .unset, .unset, .unset, .unset, .unset] [])) := ⟨_, rfl, c21⟩
  have hg3c : C16 g3 := hg3 ▸ hr19
  have c23 : SS p e below S0 (T19.setTop (mkF m 36 #[vi p0, vi p1, vi p2, vi p3, vi p4, vi p5, vi nn, vi g0, vi g1, vi g2, vi g3, .unset, .unset, .unset, .unset, .unset, .unset, .unset, .unset, .unset, .unset, .unset] [(.int p5)])) := c22.trans (by
    show SS p e below (T19.setTop (mkF m 34 #[vi p0, vi p1, vi p2, vi p3, vi p4, vi p5, vi nn, vi g0, vi g1, vi g2, vi g3, .unset, .unset, .unset, .unset, .unset, .unset, .unset, .unset, .unset, .unset, .unset] [])) _
    refine XS.iload X19.here hx rfl (hb hby at_34) rfl ?_
    exact Steps.refl _)
  obtain ⟨_, _, ⟨T24, L24, kk24, nn24⟩, -, X24, ⟨Lc24, hQ24, l24, y24, z24⟩, st24⟩ := Jvm.LawKit.callS X19 hx (y := (⟨"com/example/pricefold/pricefold/model/DecimalTextReadPinLaw", "draw", "(I)C"⟩ : MethodName)) hown (mvT hZ (ww hw 1 rfl)) (mvT hZ (ww hw 2 rfl)) (mvT hZ (ww hw 3 rfl)) (mvT hZ (ww hw 4 rfl)) (by decide) (backOf (W := 0) (rmDr l Z a0 hw [] p5 h0 n0 Z0 ) hZ (ww hw 4 rfl) (ww hw 3 rfl) (by decide) (by decide)) (g := (mkF m 36 #[vi p0, vi p1, vi p2, vi p3, vi p4, vi p5, vi nn, vi g0, vi g1, vi g2, vi g3, .unset, .unset, .unset, .unset, .unset, .unset, .unset, .unset, .unset, .unset, .unset] [(.int p5)])) rfl (by rw [hml]; rfl) (argsL := [(.int p5)]) (rest := []) (lenOf pd_oIcC rfl) rfl (by show 2 * 0 + _ ≤ _; exact Nat.le_of_eq rfl) (hb hby at_36) (fun _ _ => ⟨rfl, eq19, (by decide : 0 + 0 ≤ _), (by decide : 0 + 0 ≤ _)⟩)
  dsimp only [Pt.U, Pt.locs, Pt.cells, Pt.slots] at X24 l24 y24 z24 st24 hQ24
  subst l24 y24 z24
  obtain ⟨r24, rfl, hr24, Nq24, eq24⟩ := hQ24
  have c25 : SS p e below S0 (T24.setTop (mkF m 39 #[vi p0, vi p1, vi p2, vi p3, vi p4, vi p5, vi nn, vi g0, vi g1, vi g2, vi g3, .unset, .unset, .unset, .unset, .unset, .unset, .unset, .unset, .unset, .unset, .unset] [(.int r24)])) := c23.trans (st24 _ (Steps.refl _))
  have N24 := Fr.app N19 Nq24
  have c26 : SS p e below S0 (T24.setTop (mkF m 41 #[vi p0, vi p1, vi p2, vi p3, vi p4, vi p5, vi nn, vi g0, vi g1, vi g2, vi g3, vi r24, .unset, .unset, .unset, .unset, .unset, .unset, .unset, .unset, .unset, .unset] [])) := c25.trans (by
    show SS p e below (T24.setTop (mkF m 39 #[vi p0, vi p1, vi p2, vi p3, vi p4, vi p5, vi nn, vi g0, vi g1, vi g2, vi g3, .unset, .unset, .unset, .unset, .unset, .unset, .unset, .unset, .unset, .unset, .unset] [(.int r24)])) _
    refine XS.istore X24.here hx rfl (hb hby at_39) rfl (l' := #[vi p0, vi p1, vi p2, vi p3, vi p4, vi p5, vi nn, vi g0, vi g1, vi g2, vi g3, vi r24, .unset, .unset, .unset, .unset, .unset, .unset, .unset, .unset, .unset, .unset]) rfl ?_
    exact Steps.refl _)
  obtain ⟨g4, hg4, c27⟩ : ∃ z : Int32, z = r24 ∧ SS p e below S0 (T24.setTop (mkF m 41 #[vi p0, vi p1, vi p2, vi p3, vi p4, vi p5, vi nn, vi g0, vi g1, vi g2, vi g3, vi z, .unset, .unset, .unset, .unset, .unset, .unset, .unset, .unset, .unset, .unset] [])) := ⟨_, rfl, c26⟩
  have hg4c : C16 g4 := hg4 ▸ hr24
  have c28 : SS p e below S0 (T24.setTop (mkF m 43 #[vi p0, vi p1, vi p2, vi p3, vi p4, vi p5, vi nn, vi g0, vi g1, vi g2, vi g3, vi g4, .unset, .unset, .unset, .unset, .unset, .unset, .unset, .unset, .unset, .unset] [(.int nn)])) := c27.trans (by
    show SS p e below (T24.setTop (mkF m 41 #[vi p0, vi p1, vi p2, vi p3, vi p4, vi p5, vi nn, vi g0, vi g1, vi g2, vi g3, vi g4, .unset, .unset, .unset, .unset, .unset, .unset, .unset, .unset, .unset, .unset] [])) _
    refine XS.iload X24.here hx rfl (hb hby at_41) rfl ?_
    exact Steps.refl _)
  obtain ⟨vmj, kj, Tj, lj, bj, xj, tj, kbj, cdj, Nj, vsj, Xj, hSj, hkj, hZj, hownj, rj, Kj, zj, NNj, Oj, gxj, Sgj, cj⟩ : ∃ (vm : Vm) (kk : Nat) (T : State) (locs : List Loc) (bj xj t : Addr) (kb : ClassId) (cd N : Int32) (vs : List Value), Stand p l e room_1 (s.setVm vm) m #[(.int p0), (.int p1), (.int p2), (.int p3), (.int p4), (.int p5)] below meth c T locs 6 24 ∧ s.Since vm kk ∧ kk ≤ T.heap.size ∧ Z.Warmed39 (s.setVm vm).vm ∧ (s.setVm vm).vm.findClass "com/example/pricefold/pricefold/model/DecimalTextReadPinLaw" = some m.cls ∧ CHr Z EL s.vm h0 vm T.heap ∧ Keep h0 T.heap [] ∧ n0 ≤ T.heap.size ∧ Fr n0 locs ∧ Old Z n0 T.heap ∧ h0.size ≤ xj ∧ OSG Z T.heap xj t kb cd N vs (own_txt nn g0 g1 g2 g3 g4) ∧ SS p e below S0 (T.setTop (mkF m 201 #[vi p0, vi p1, vi p2, vi p3, vi p4, vi p5, vi nn, vi g0, vi g1, vi g2, vi g3, vi g4, vr bj, vr xj, .unset, .unset, .unset, .unset, .unset, .unset, .unset, .unset] [])) := by
    by_cases hq29 : nn = (0 : Int32)
    · have c30 : SS p e below S0 (T24.setTop (mkF m 47 #[vi p0, vi p1, vi p2, vi p3, vi p4, vi p5, vi nn, vi g0, vi g1, vi g2, vi g3, vi g4, .unset, .unset, .unset, .unset, .unset, .unset, .unset, .unset, .unset, .unset] [(.int 0)])) := c28.trans (by
        show SS p e below (T24.setTop (mkF m 43 #[vi p0, vi p1, vi p2, vi p3, vi p4, vi p5, vi nn, vi g0, vi g1, vi g2, vi g3, vi g4, .unset, .unset, .unset, .unset, .unset, .unset, .unset, .unset, .unset, .unset] [(.int nn)])) _
        refine XS.ifNo X24.here hx rfl (hb hby at_43) rfl ((if0 _ _).trans (teq hq29).2) ?_
        refine XS.iconst X24.here hx rfl (hb hby at_46) ?_
        exact Steps.refl _)
      obtain ⟨T31, h31, k31, X31, e31, E31, A31, st31⟩ := newP X24 hx hZ (ww hw 7 rfl) eq24 (g := (mkF m 47 #[vi p0, vi p1, vi p2, vi p3, vi p4, vi p5, vi nn, vi g0, vi g1, vi g2, vi g3, vi g4, .unset, .unset, .unset, .unset, .unset, .unset, .unset, .unset, .unset, .unset] [(.int 0)])) rfl (hb hby at_47) rfl (by decide) (cap := 0) (by decide) (by decide) (by decide) (by decide)
      obtain ⟨b31, g31⟩ : ∃ z, z = h0.size := ⟨_, rfl⟩
      rw [← g31] at A31 st31
      have c32 : SS p e below S0 (T31.setTop (mkF m 49 #[vi p0, vi p1, vi p2, vi p3, vi p4, vi p5, vi nn, vi g0, vi g1, vi g2, vi g3, vi g4, .unset, .unset, .unset, .unset, .unset, .unset, .unset, .unset, .unset, .unset] [(.ref b31)])) := c30.trans (st31 _ (Steps.refl _))
      have z31 : n0 ≤ h31.size := Nat.le_trans Z0 E31.1
      have K31 := K0.ext E31
      have r31 : CHr Z EL s.vm h0 s.vm h31 := CHr.ext E31 R0.1
      have R31 := R0.trans r31
      have V31 : Arv Z h31 b31 k31 .char (0 : Int32) [] (.int 0) := (Arv.new A31 (by decide)).pad (pad_rep [] (.int 0) 0)
      have lt_b31 : b31 < h31.size := V31.lt
      have c33 : SS p e below S0 (T31.setTop (mkF m 190 #[vi p0, vi p1, vi p2, vi p3, vi p4, vi p5, vi nn, vi g0, vi g1, vi g2, vi g3, vi g4, vr b31, .unset, .unset, .unset, .unset, .unset, .unset, .unset, .unset, .unset] [])) := c32.trans (by
        show SS p e below (T31.setTop (mkF m 49 #[vi p0, vi p1, vi p2, vi p3, vi p4, vi p5, vi nn, vi g0, vi g1, vi g2, vi g3, vi g4, .unset, .unset, .unset, .unset, .unset, .unset, .unset, .unset, .unset, .unset] [(.ref b31)])) _
        refine XS.astore X31.here hx rfl (hb hby at_49) rfl rfl (l' := #[vi p0, vi p1, vi p2, vi p3, vi p4, vi p5, vi nn, vi g0, vi g1, vi g2, vi g3, vi g4, vr b31, .unset, .unset, .unset, .unset, .unset, .unset, .unset, .unset, .unset]) rfl ?_
        refine XS.goto X31.here hx rfl (pc0 := 51) (pc' := 190) rfl (hb hby at_51) (by decide) (by decide) ?_
        exact Steps.refl _)
      obtain ⟨T34, h34, X34, e34, E34, A34, D34, -, st34⟩ := newO X31 hx hZ hown (ww hw 8 rfl) (ww hw 9 rfl) (ww hw 10 rfl) e31 (g := (mkF m 190 #[vi p0, vi p1, vi p2, vi p3, vi p4, vi p5, vi nn, vi g0, vi g1, vi g2, vi g3, vi g4, vr b31, .unset, .unset, .unset, .unset, .unset, .unset, .unset, .unset, .unset] [])) rfl (hb hby at_190) (by decide) (by decide)
      obtain ⟨b34, g34⟩ : ∃ z, z = h31.size := ⟨_, rfl⟩
      rw [← g34] at A34 D34 st34
      have sn34 : Safe Z EL s.vm h31 b34 := Safe.new (Nat.le_of_eq g34.symm)
      have c35 : SS p e below S0 (T34.setTop (mkF m 193 #[vi p0, vi p1, vi p2, vi p3, vi p4, vi p5, vi nn, vi g0, vi g1, vi g2, vi g3, vi g4, vr b31, .unset, .unset, .unset, .unset, .unset, .unset, .unset, .unset, .unset] [(.ref b34)])) := c33.trans (st34 _ (Steps.refl _))
      have z34 : n0 ≤ h34.size := Nat.le_trans z31 E34.1
      have K34 := K31.ext E34
      have r34 : CHr Z EL s.vm h31 s.vm h34 := CHr.ext E34 R31.1
      have R34 := R31.trans r34
      have lt_b34 : b34 < h34.size := A34.lt
      have sf34 : Safe Z EL s.vm h34 b34 := Safe.ext E34 R31.1 sn34
      have F34_value : Fld Z h34 b34 "java/lang/String" "value" "[B" .null := D34 (Or.inr (ww hw 23 rfl)) (ty := (.array .byte)) (by decide)
      have F34_coder : Fld Z h34 b34 "java/lang/String" "coder" "B" (.int 0) := D34 (Or.inr (ww hw 24 rfl)) (ty := .byte) (by decide)
      have c36 : SS p e below S0 (T34.setTop (mkF m 196 #[vi p0, vi p1, vi p2, vi p3, vi p4, vi p5, vi nn, vi g0, vi g1, vi g2, vi g3, vi g4, vr b31, .unset, .unset, .unset, .unset, .unset, .unset, .unset, .unset, .unset] [(.ref b31), (.ref b34), (.ref b34)])) := c35.trans (by
        show SS p e below (T34.setTop (mkF m 193 #[vi p0, vi p1, vi p2, vi p3, vi p4, vi p5, vi nn, vi g0, vi g1, vi g2, vi g3, vi g4, vr b31, .unset, .unset, .unset, .unset, .unset, .unset, .unset, .unset, .unset] [(.ref b34)])) _
        refine XS.dup X34.here hx rfl (hb hby at_193) rfl rfl ?_
        refine XS.aload X34.here hx rfl (hb hby at_194) rfl rfl ?_
        exact Steps.refl _)
      obtain ⟨_, _, ⟨T37, L37, kk37, nn37⟩, -, Xx37, hSx37, hgx37, ⟨Lc37, hQ37, l37, y37, z37, r37⟩, st37⟩ := X34.specialBackS hx (y := (⟨"java/lang/String", "<init>", "([C)V"⟩ : MethodName)) rfl hown (mvT hZ (ww hw 11 rfl)) (mvT hZ (ww hw 12 rfl)) (mvT hZ (ww hw 13 rfl)) (by decide) (backOfSH (W := 1) (rmE1 l Z a0 hw [] b34 b31 _ _ h34 n0 z34 (Nat.le_trans Z0 (Nat.le_trans K31.1 (Nat.le_of_eq g34.symm))) A34 F34_value F34_coder (V31.ext E34)) hZ (ww hw 13 rfl) (ww hw 10 rfl) (by decide) (by decide) hEL R34.1) (g := (mkF m 196 #[vi p0, vi p1, vi p2, vi p3, vi p4, vi p5, vi nn, vi g0, vi g1, vi g2, vi g3, vi g4, vr b31, .unset, .unset, .unset, .unset, .unset, .unset, .unset, .unset, .unset] [(.ref b31), (.ref b34), (.ref b34)])) rfl (by rw [hml]; rfl) (Steps.refl _) (a := b34) (argsL := [(.ref b31)]) (rest := [(.ref b34)]) (lenOf pd_oaCcV rfl) rfl (by show 2 * 0 + _ ≤ _; exact Nat.le_of_eq rfl) (hb hby at_196) (fun _ _ => ⟨rfl, e34, (by decide : 2 + 4 ≤ _), (by decide : 4 + 8 ≤ _)⟩)
      dsimp only [Pt.U, Pt.locs, Pt.cells, Pt.slots] at Xx37 hSx37 hgx37 l37 y37 z37 r37 st37 hQ37
      subst l37 y37 z37
      obtain ⟨X37, hS37, hZ37, hown37⟩ := rebS hS0 (Nat.le_trans (Nat.zero_le _) (Nat.le_trans E31.1 E34.1)) Xx37 hSx37 (e34 ▸ hgx37) hZ hown
      obtain ⟨t37, kb37, rfl, Nq37, Kq37, So37⟩ := hQ37
      have c38 : SS p e below S0 (T37.setTop (mkF m 199 #[vi p0, vi p1, vi p2, vi p3, vi p4, vi p5, vi nn, vi g0, vi g1, vi g2, vi g3, vi g4, vr b31, .unset, .unset, .unset, .unset, .unset, .unset, .unset, .unset, .unset] [(.ref b34)])) := c36.trans (st37)
      have N37 := Fr.app N24 Nq37
      have z37 : n0 ≤ T37.heap.size := Nat.le_trans z34 Kq37.1
      have K37 := K34.trans Kq37 (allS (Or.inr (Nat.le_trans K31.1 (Nat.le_of_eq g34.symm))) all0)
      have R37 := R34.trans r37
      have lt_t37 := So37.2.2.2.1.lt
      have Sg39 : OSG Z T37.heap b34 t37 _ _ _ _ ([] : List Int32) := ⟨So37.1, So37.2.1, So37.2.2.1, So37.2.2.2.1, So37.cod, own_up _ So37.2.2.2.2.1, So37.2.2.2.2.2⟩
      have c40 : SS p e below S0 (T37.setTop (mkF m 201 #[vi p0, vi p1, vi p2, vi p3, vi p4, vi p5, vi nn, vi g0, vi g1, vi g2, vi g3, vi g4, vr b31, vr b34, .unset, .unset, .unset, .unset, .unset, .unset, .unset, .unset] [])) := c38.trans (by
        show SS p e below (T37.setTop (mkF m 199 #[vi p0, vi p1, vi p2, vi p3, vi p4, vi p5, vi nn, vi g0, vi g1, vi g2, vi g3, vi g4, vr b31, .unset, .unset, .unset, .unset, .unset, .unset, .unset, .unset, .unset] [(.ref b34)])) _
        refine XS.astore X37.here hx rfl (hb hby at_199) rfl rfl (l' := #[vi p0, vi p1, vi p2, vi p3, vi p4, vi p5, vi nn, vi g0, vi g1, vi g2, vi g3, vi g4, vr b31, vr b34, .unset, .unset, .unset, .unset, .unset, .unset, .unset, .unset]) rfl ?_
        exact Steps.refl _)
      exact ⟨_, _, T37, _, _, _, _, _, _, _, _, X37.more (by decide) (by decide), hS37, (Nat.le_refl _), hZ37, hown37, R37, K37, z37, N37, (((X00.ext E31).ext E34).keep Kq37 (allS (Nat.le_trans Z0 (Nat.le_trans K31.1 (Nat.le_of_eq g34.symm))) all0)), (Nat.le_trans K31.1 (Nat.le_of_eq g34.symm)), by rw [own_txt, if_pos hq29]; exact Sg39, c40⟩
    · have c41 : SS p e below S0 (T24.setTop (mkF m 57 #[vi p0, vi p1, vi p2, vi p3, vi p4, vi p5, vi nn, vi g0, vi g1, vi g2, vi g3, vi g4, .unset, .unset, .unset, .unset, .unset, .unset, .unset, .unset, .unset, .unset] [(.int 1), (.int nn)])) := c28.trans (by
        show SS p e below (T24.setTop (mkF m 43 #[vi p0, vi p1, vi p2, vi p3, vi p4, vi p5, vi nn, vi g0, vi g1, vi g2, vi g3, vi g4, .unset, .unset, .unset, .unset, .unset, .unset, .unset, .unset, .unset, .unset] [(.int nn)])) _
        refine XS.ifYes X24.here hx rfl (pc0 := 43) (pc' := 54) rfl (hb hby at_43) rfl ((if0 _ _).trans (feq hq29).2) (by decide) (by decide) ?_
        refine XS.iload X24.here hx rfl (hb hby at_54) rfl ?_
        refine XS.iconst X24.here hx rfl (hb hby at_56) ?_
        exact Steps.refl _)
      by_cases hq42 : nn = (1 : Int32)
      · have c43 : SS p e below S0 (T24.setTop (mkF m 61 #[vi p0, vi p1, vi p2, vi p3, vi p4, vi p5, vi nn, vi g0, vi g1, vi g2, vi g3, vi g4, .unset, .unset, .unset, .unset, .unset, .unset, .unset, .unset, .unset, .unset] [(.int 1)])) := c41.trans (by
          show SS p e below (T24.setTop (mkF m 57 #[vi p0, vi p1, vi p2, vi p3, vi p4, vi p5, vi nn, vi g0, vi g1, vi g2, vi g3, vi g4, .unset, .unset, .unset, .unset, .unset, .unset, .unset, .unset, .unset, .unset] [(.int 1), (.int nn)])) _
          refine XS.icmpNo X24.here hx rfl (hb hby at_57) rfl (teq hq42).2 ?_
          refine XS.iconst X24.here hx rfl (hb hby at_60) ?_
          exact Steps.refl _)
        obtain ⟨T44, h44, k44, X44, e44, E44, A44, st44⟩ := newP X24 hx hZ (ww hw 7 rfl) eq24 (g := (mkF m 61 #[vi p0, vi p1, vi p2, vi p3, vi p4, vi p5, vi nn, vi g0, vi g1, vi g2, vi g3, vi g4, .unset, .unset, .unset, .unset, .unset, .unset, .unset, .unset, .unset, .unset] [(.int 1)])) rfl (hb hby at_61) rfl (by decide) (cap := 1) (by decide) (by decide) (by decide) (by decide)
        obtain ⟨b44, g44⟩ : ∃ z, z = h0.size := ⟨_, rfl⟩
        rw [← g44] at A44 st44
        have c45 : SS p e below S0 (T44.setTop (mkF m 63 #[vi p0, vi p1, vi p2, vi p3, vi p4, vi p5, vi nn, vi g0, vi g1, vi g2, vi g3, vi g4, .unset, .unset, .unset, .unset, .unset, .unset, .unset, .unset, .unset, .unset] [(.ref b44)])) := c43.trans (st44 _ (Steps.refl _))
        have z44 : n0 ≤ h44.size := Nat.le_trans Z0 E44.1
        have K44 := K0.ext E44
        have r44 : CHr Z EL s.vm h0 s.vm h44 := CHr.ext E44 R0.1
        have R44 := R0.trans r44
        have V44 : Arv Z h44 b44 k44 .char (1 : Int32) [(.int 0)] (.int 0) := (Arv.new A44 (by decide)).pad (pad_rep [] (.int 0) 1)
        have lt_b44 : b44 < h44.size := V44.lt
        have c46 : SS p e below S0 (T44.setTop (mkF m 67 #[vi p0, vi p1, vi p2, vi p3, vi p4, vi p5, vi nn, vi g0, vi g1, vi g2, vi g3, vi g4, .unset, .unset, .unset, .unset, .unset, .unset, .unset, .unset, .unset, .unset] [(.int g0), (.int 0), (.ref b44), (.ref b44)])) := c45.trans (by
          show SS p e below (T44.setTop (mkF m 63 #[vi p0, vi p1, vi p2, vi p3, vi p4, vi p5, vi nn, vi g0, vi g1, vi g2, vi g3, vi g4, .unset, .unset, .unset, .unset, .unset, .unset, .unset, .unset, .unset, .unset] [(.ref b44)])) _
          refine XS.dup X44.here hx rfl (hb hby at_63) rfl rfl ?_
          refine XS.iconst X44.here hx rfl (hb hby at_64) ?_
          refine XS.iload X44.here hx rfl (hb hby at_65) rfl ?_
          exact Steps.refl _)
        obtain ⟨cl47, Ar47, q47, S47, Nn47, Ha47, G47⟩ := id V44
        obtain ⟨T47, h47, X47, e47, W47, st47⟩ := stC X44 hx hZ e44 Ar47 (j := (0 : Int32)) (inb_of S47 ⟨by decide, by decide⟩) (g := (mkF m 67 #[vi p0, vi p1, vi p2, vi p3, vi p4, vi p5, vi nn, vi g0, vi g1, vi g2, vi g3, vi g4, .unset, .unset, .unset, .unset, .unset, .unset, .unset, .unset, .unset, .unset] [(.int g0), (.int 0), (.ref b44), (.ref b44)])) rfl rfl (hb hby at_67)
        have V47 : Arv Z h47 b44 k44 .char (1 : Int32) [(.int (nar .char g0))] (.int 0) := Arv.set Ar47 q47 S47 Nn47 Ha47 G47 (fits_nar_char _) W47 0 rfl (Nat.le_of_ble_eq_true rfl)
        have c48 : SS p e below S0 (T47.setTop (mkF m 68 #[vi p0, vi p1, vi p2, vi p3, vi p4, vi p5, vi nn, vi g0, vi g1, vi g2, vi g3, vi g4, .unset, .unset, .unset, .unset, .unset, .unset, .unset, .unset, .unset, .unset] [(.ref b44)])) := c46.trans (st47 _ (Steps.refl _))
        have N47 := Fr.snoc X47 N24 (Nat.le_trans Z0 (Nat.le_trans K0.1 (Nat.le_of_eq g44.symm)))
        have z47 : n0 ≤ h47.size := Nat.le_trans z44 (Keep.of_wr W47).1
        have K47 := K44.wr W47 (Or.inr (Nat.le_trans K0.1 (Nat.le_of_eq g44.symm)))
        have r47 : CHr Z EL s.vm h44 s.vm h47 := CHr.wr W47 (Safe.arv hZ.alike V44 (by decide)) R44.1
        have R47 := R44.trans r47
        have c49 : SS p e below S0 (T47.setTop (mkF m 190 #[vi p0, vi p1, vi p2, vi p3, vi p4, vi p5, vi nn, vi g0, vi g1, vi g2, vi g3, vi g4, vr b44, .unset, .unset, .unset, .unset, .unset, .unset, .unset, .unset, .unset] [])) := c48.trans (by
          show SS p e below (T47.setTop (mkF m 68 #[vi p0, vi p1, vi p2, vi p3, vi p4, vi p5, vi nn, vi g0, vi g1, vi g2, vi g3, vi g4, .unset, .unset, .unset, .unset, .unset, .unset, .unset, .unset, .unset, .unset] [(.ref b44)])) _
          refine XS.astore X47.here hx rfl (hb hby at_68) rfl rfl (l' := #[vi p0, vi p1, vi p2, vi p3, vi p4, vi p5, vi nn, vi g0, vi g1, vi g2, vi g3, vi g4, vr b44, .unset, .unset, .unset, .unset, .unset, .unset, .unset, .unset, .unset]) rfl ?_
          refine XS.goto X47.here hx rfl (pc0 := 70) (pc' := 190) rfl (hb hby at_70) (by decide) (by decide) ?_
          exact Steps.refl _)
        obtain ⟨T50, h50, X50, e50, E50, A50, D50, -, st50⟩ := newO X47 hx hZ hown (ww hw 8 rfl) (ww hw 9 rfl) (ww hw 10 rfl) e47 (g := (mkF m 190 #[vi p0, vi p1, vi p2, vi p3, vi p4, vi p5, vi nn, vi g0, vi g1, vi g2, vi g3, vi g4, vr b44, .unset, .unset, .unset, .unset, .unset, .unset, .unset, .unset, .unset] [])) rfl (hb hby at_190) (by decide) (by decide)
        obtain ⟨b50, g50⟩ : ∃ z, z = h47.size := ⟨_, rfl⟩
        rw [← g50] at A50 D50 st50
        have sn50 : Safe Z EL s.vm h47 b50 := Safe.new (Nat.le_of_eq g50.symm)
        have c51 : SS p e below S0 (T50.setTop (mkF m 193 #[vi p0, vi p1, vi p2, vi p3, vi p4, vi p5, vi nn, vi g0, vi g1, vi g2, vi g3, vi g4, vr b44, .unset, .unset, .unset, .unset, .unset, .unset, .unset, .unset, .unset] [(.ref b50)])) := c49.trans (st50 _ (Steps.refl _))
        have z50 : n0 ≤ h50.size := Nat.le_trans z47 E50.1
        have K50 := K47.ext E50
        have r50 : CHr Z EL s.vm h47 s.vm h50 := CHr.ext E50 R47.1
        have R50 := R47.trans r50
        have lt_b50 : b50 < h50.size := A50.lt
        have sf50 : Safe Z EL s.vm h50 b50 := Safe.ext E50 R47.1 sn50
        have F50_value : Fld Z h50 b50 "java/lang/String" "value" "[B" .null := D50 (Or.inr (ww hw 23 rfl)) (ty := (.array .byte)) (by decide)
        have F50_coder : Fld Z h50 b50 "java/lang/String" "coder" "B" (.int 0) := D50 (Or.inr (ww hw 24 rfl)) (ty := .byte) (by decide)
        have c52 : SS p e below S0 (T50.setTop (mkF m 196 #[vi p0, vi p1, vi p2, vi p3, vi p4, vi p5, vi nn, vi g0, vi g1, vi g2, vi g3, vi g4, vr b44, .unset, .unset, .unset, .unset, .unset, .unset, .unset, .unset, .unset] [(.ref b44), (.ref b50), (.ref b50)])) := c51.trans (by
          show SS p e below (T50.setTop (mkF m 193 #[vi p0, vi p1, vi p2, vi p3, vi p4, vi p5, vi nn, vi g0, vi g1, vi g2, vi g3, vi g4, vr b44, .unset, .unset, .unset, .unset, .unset, .unset, .unset, .unset, .unset] [(.ref b50)])) _
          refine XS.dup X50.here hx rfl (hb hby at_193) rfl rfl ?_
          refine XS.aload X50.here hx rfl (hb hby at_194) rfl rfl ?_
          exact Steps.refl _)
        have Vg53 : Arv Z h50 b44 k44 .char (1 : Int32) [.int g0] (.int 0) := by
          have q := (V47.ext E50)
          rw [own_nar16 hg0c] at q; exact q
        obtain ⟨_, _, ⟨T54, L54, kk54, nn54⟩, -, X54, ⟨Lc54, hQ54, l54, y54, z54⟩, st54⟩ := X50.specialBack hx (y := (⟨"java/lang/String", "<init>", "([C)V"⟩ : MethodName)) rfl hown (mvT hZ (ww hw 11 rfl)) (mvT hZ (ww hw 12 rfl)) (mvT hZ (ww hw 13 rfl)) (by decide) (backOf (W := 1) (rmN1_1 l Z a0 hw [] b50 b44 k44 g0 G1 h50 n0 z50 (Nat.le_trans Z0 (Nat.le_trans K47.1 (Nat.le_of_eq g50.symm))) A50 F50_value F50_coder Vg53 hg0c sAD sHI sLO O2 P5 (((X00.ext E44).wr W47 (Nat.le_trans Z0 (Nat.le_trans K0.1 (Nat.le_of_eq g44.symm)))).ext E50)) hZ (ww hw 13 rfl) (ww hw 10 rfl) (by decide) (by decide)) (g := (mkF m 196 #[vi p0, vi p1, vi p2, vi p3, vi p4, vi p5, vi nn, vi g0, vi g1, vi g2, vi g3, vi g4, vr b44, .unset, .unset, .unset, .unset, .unset, .unset, .unset, .unset, .unset] [(.ref b44), (.ref b50), (.ref b50)])) rfl (by rw [hml]; rfl) (Steps.refl _) (a := b50) (argsL := [(.ref b44)]) (rest := [(.ref b50)]) (lenOf pd_oaCcV rfl) rfl (by show 2 * 0 + _ ≤ _; exact Nat.le_of_eq rfl) (hb hby at_196) (fun _ _ => ⟨rfl, e50, (by decide : 2 + 2 ≤ _), (by decide : 5 + 3 ≤ _)⟩)
        dsimp only [Pt.U, Pt.locs, Pt.cells, Pt.slots] at X54 l54 y54 z54 st54 hQ54
        subst l54 y54 z54
        obtain ⟨t54, kb54, cd54, N254, vs54, rfl, Nq54, Kq54, Sg54⟩ := hQ54
        have c55 : SS p e below S0 (T54.setTop (mkF m 199 #[vi p0, vi p1, vi p2, vi p3, vi p4, vi p5, vi nn, vi g0, vi g1, vi g2, vi g3, vi g4, vr b44, .unset, .unset, .unset, .unset, .unset, .unset, .unset, .unset, .unset] [(.ref b50)])) := c52.trans (st54)
        have N54 := Fr.app N47 Nq54
        have z54 : n0 ≤ T54.heap.size := Nat.le_trans z50 Kq54.1
        have K54 := K50.trans Kq54 (allS (Or.inr (Nat.le_trans K47.1 (Nat.le_of_eq g50.symm))) all0)
        have r54 : CHr Z EL s.vm h50 s.vm T54.heap := CHr.keep Kq54 (sfS sf50 sf0) R50.1
        have R54 := R50.trans r54
        have c56 : SS p e below S0 (T54.setTop (mkF m 201 #[vi p0, vi p1, vi p2, vi p3, vi p4, vi p5, vi nn, vi g0, vi g1, vi g2, vi g3, vi g4, vr b44, vr b50, .unset, .unset, .unset, .unset, .unset, .unset, .unset, .unset] [])) := c55.trans (by
          show SS p e below (T54.setTop (mkF m 199 #[vi p0, vi p1, vi p2, vi p3, vi p4, vi p5, vi nn, vi g0, vi g1, vi g2, vi g3, vi g4, vr b44, .unset, .unset, .unset, .unset, .unset, .unset, .unset, .unset, .unset] [(.ref b50)])) _
          refine XS.astore X54.here hx rfl (hb hby at_199) rfl rfl (l' := #[vi p0, vi p1, vi p2, vi p3, vi p4, vi p5, vi nn, vi g0, vi g1, vi g2, vi g3, vi g4, vr b44, vr b50, .unset, .unset, .unset, .unset, .unset, .unset, .unset, .unset]) rfl ?_
          exact Steps.refl _)
        exact ⟨_, _, T54, _, _, _, _, _, _, _, _, X54.more (by decide) (by decide), hS0, (Nat.le_trans (Nat.zero_le _) (Nat.le_trans (Nat.le_trans (Nat.le_trans E44.1 (Keep.of_wr W47).1) E50.1) Kq54.1)), hZ, hown, R54, K54, z54, N54, ((((X00.ext E44).wr W47 (Nat.le_trans Z0 (Nat.le_trans K0.1 (Nat.le_of_eq g44.symm)))).ext E50).keep Kq54 (allS (Nat.le_trans Z0 (Nat.le_trans K47.1 (Nat.le_of_eq g50.symm))) all0)), (Nat.le_trans K47.1 (Nat.le_of_eq g50.symm)), by rw [own_txt, if_neg hq29, if_pos hq42]; exact Sg54, c56⟩
      · have c57 : SS p e below S0 (T24.setTop (mkF m 76 #[vi p0, vi p1, vi p2, vi p3, vi p4, vi p5, vi nn, vi g0, vi g1, vi g2, vi g3, vi g4, .unset, .unset, .unset, .unset, .unset, .unset, .unset, .unset, .unset, .unset] [(.int 2), (.int nn)])) := c41.trans (by
          show SS p e below (T24.setTop (mkF m 57 #[vi p0, vi p1, vi p2, vi p3, vi p4, vi p5, vi nn, vi g0, vi g1, vi g2, vi g3, vi g4, .unset, .unset, .unset, .unset, .unset, .unset, .unset, .unset, .unset, .unset] [(.int 1), (.int nn)])) _
          refine XS.icmpYes X24.here hx rfl (pc0 := 57) (pc' := 73) rfl (hb hby at_57) rfl (feq hq42).2 (by decide) (by decide) ?_
          refine XS.iload X24.here hx rfl (hb hby at_73) rfl ?_
          refine XS.iconst X24.here hx rfl (hb hby at_75) ?_
          exact Steps.refl _)
        by_cases hq58 : nn = (2 : Int32)
        · have c59 : SS p e below S0 (T24.setTop (mkF m 80 #[vi p0, vi p1, vi p2, vi p3, vi p4, vi p5, vi nn, vi g0, vi g1, vi g2, vi g3, vi g4, .unset, .unset, .unset, .unset, .unset, .unset, .unset, .unset, .unset, .unset] [(.int 2)])) := c57.trans (by
            show SS p e below (T24.setTop (mkF m 76 #[vi p0, vi p1, vi p2, vi p3, vi p4, vi p5, vi nn, vi g0, vi g1, vi g2, vi g3, vi g4, .unset, .unset, .unset, .unset, .unset, .unset, .unset, .unset, .unset, .unset] [(.int 2), (.int nn)])) _
            refine XS.icmpNo X24.here hx rfl (hb hby at_76) rfl (teq hq58).2 ?_
            refine XS.iconst X24.here hx rfl (hb hby at_79) ?_
            exact Steps.refl _)
          obtain ⟨T60, h60, k60, X60, e60, E60, A60, st60⟩ := newP X24 hx hZ (ww hw 7 rfl) eq24 (g := (mkF m 80 #[vi p0, vi p1, vi p2, vi p3, vi p4, vi p5, vi nn, vi g0, vi g1, vi g2, vi g3, vi g4, .unset, .unset, .unset, .unset, .unset, .unset, .unset, .unset, .unset, .unset] [(.int 2)])) rfl (hb hby at_80) rfl (by decide) (cap := 2) (by decide) (by decide) (by decide) (by decide)
          obtain ⟨b60, g60⟩ : ∃ z, z = h0.size := ⟨_, rfl⟩
          rw [← g60] at A60 st60
          have c61 : SS p e below S0 (T60.setTop (mkF m 82 #[vi p0, vi p1, vi p2, vi p3, vi p4, vi p5, vi nn, vi g0, vi g1, vi g2, vi g3, vi g4, .unset, .unset, .unset, .unset, .unset, .unset, .unset, .unset, .unset, .unset] [(.ref b60)])) := c59.trans (st60 _ (Steps.refl _))
          have z60 : n0 ≤ h60.size := Nat.le_trans Z0 E60.1
          have K60 := K0.ext E60
          have r60 : CHr Z EL s.vm h0 s.vm h60 := CHr.ext E60 R0.1
          have R60 := R0.trans r60
          have V60 : Arv Z h60 b60 k60 .char (2 : Int32) [(.int 0), (.int 0)] (.int 0) := (Arv.new A60 (by decide)).pad (pad_rep [] (.int 0) 2)
          have lt_b60 : b60 < h60.size := V60.lt
          have c62 : SS p e below S0 (T60.setTop (mkF m 86 #[vi p0, vi p1, vi p2, vi p3, vi p4, vi p5, vi nn, vi g0, vi g1, vi g2, vi g3, vi g4, .unset, .unset, .unset, .unset, .unset, .unset, .unset, .unset, .unset, .unset] [(.int g0), (.int 0), (.ref b60), (.ref b60)])) := c61.trans (by
            show SS p e below (T60.setTop (mkF m 82 #[vi p0, vi p1, vi p2, vi p3, vi p4, vi p5, vi nn, vi g0, vi g1, vi g2, vi g3, vi g4, .unset, .unset, .unset, .unset, .unset, .unset, .unset, .unset, .unset, .unset] [(.ref b60)])) _
            refine XS.dup X60.here hx rfl (hb hby at_82) rfl rfl ?_
            refine XS.iconst X60.here hx rfl (hb hby at_83) ?_
            refine XS.iload X60.here hx rfl (hb hby at_84) rfl ?_
            exact Steps.refl _)
          obtain ⟨cl63, Ar63, q63, S63, Nn63, Ha63, G63⟩ := id V60
          obtain ⟨T63, h63, X63, e63, W63, st63⟩ := stC X60 hx hZ e60 Ar63 (j := (0 : Int32)) (inb_of S63 ⟨by decide, by decide⟩) (g := (mkF m 86 #[vi p0, vi p1, vi p2, vi p3, vi p4, vi p5, vi nn, vi g0, vi g1, vi g2, vi g3, vi g4, .unset, .unset, .unset, .unset, .unset, .unset, .unset, .unset, .unset, .unset] [(.int g0), (.int 0), (.ref b60), (.ref b60)])) rfl rfl (hb hby at_86)
          have V63 : Arv Z h63 b60 k60 .char (2 : Int32) [(.int (nar .char g0)), (.int 0)] (.int 0) := Arv.set Ar63 q63 S63 Nn63 Ha63 G63 (fits_nar_char _) W63 0 rfl (Nat.le_of_ble_eq_true rfl)
          have c64 : SS p e below S0 (T63.setTop (mkF m 87 #[vi p0, vi p1, vi p2, vi p3, vi p4, vi p5, vi nn, vi g0, vi g1, vi g2, vi g3, vi g4, .unset, .unset, .unset, .unset, .unset, .unset, .unset, .unset, .unset, .unset] [(.ref b60)])) := c62.trans (st63 _ (Steps.refl _))
          have N63 := Fr.snoc X63 N24 (Nat.le_trans Z0 (Nat.le_trans K0.1 (Nat.le_of_eq g60.symm)))
          have z63 : n0 ≤ h63.size := Nat.le_trans z60 (Keep.of_wr W63).1
          have K63 := K60.wr W63 (Or.inr (Nat.le_trans K0.1 (Nat.le_of_eq g60.symm)))
          have r63 : CHr Z EL s.vm h60 s.vm h63 := CHr.wr W63 (Safe.arv hZ.alike V60 (by decide)) R60.1
          have R63 := R60.trans r63
          have c65 : SS p e below S0 (T63.setTop (mkF m 91 #[vi p0, vi p1, vi p2, vi p3, vi p4, vi p5, vi nn, vi g0, vi g1, vi g2, vi g3, vi g4, .unset, .unset, .unset, .unset, .unset, .unset, .unset, .unset, .unset, .unset] [(.int g1), (.int 1), (.ref b60), (.ref b60)])) := c64.trans (by
            show SS p e below (T63.setTop (mkF m 87 #[vi p0, vi p1, vi p2, vi p3, vi p4, vi p5, vi nn, vi g0, vi g1, vi g2, vi g3, vi g4, .unset, .unset, .unset, .unset, .unset, .unset, .unset, .unset, .unset, .unset] [(.ref b60)])) _
            refine XS.dup X63.here hx rfl (hb hby at_87) rfl rfl ?_
            refine XS.iconst X63.here hx rfl (hb hby at_88) ?_
            refine XS.iload X63.here hx rfl (hb hby at_89) rfl ?_
            exact Steps.refl _)
          obtain ⟨cl66, Ar66, q66, S66, Nn66, Ha66, G66⟩ := id V63
          obtain ⟨T66, h66, X66, e66, W66, st66⟩ := stC X63 hx hZ e63 Ar66 (j := (1 : Int32)) (inb_of S66 ⟨by decide, by decide⟩) (g := (mkF m 91 #[vi p0, vi p1, vi p2, vi p3, vi p4, vi p5, vi nn, vi g0, vi g1, vi g2, vi g3, vi g4, .unset, .unset, .unset, .unset, .unset, .unset, .unset, .unset, .unset, .unset] [(.int g1), (.int 1), (.ref b60), (.ref b60)])) rfl rfl (hb hby at_91)
          have V66 : Arv Z h66 b60 k60 .char (2 : Int32) [(.int (nar .char g0)), (.int (nar .char g1))] (.int 0) := Arv.set Ar66 q66 S66 Nn66 Ha66 G66 (fits_nar_char _) W66 1 rfl (Nat.le_of_ble_eq_true rfl)
          have c67 : SS p e below S0 (T66.setTop (mkF m 92 #[vi p0, vi p1, vi p2, vi p3, vi p4, vi p5, vi nn, vi g0, vi g1, vi g2, vi g3, vi g4, .unset, .unset, .unset, .unset, .unset, .unset, .unset, .unset, .unset, .unset] [(.ref b60)])) := c65.trans (st66 _ (Steps.refl _))
          have N66 := Fr.snoc X66 N63 (Nat.le_trans Z0 (Nat.le_trans K0.1 (Nat.le_of_eq g60.symm)))
          have z66 : n0 ≤ h66.size := Nat.le_trans z63 (Keep.of_wr W66).1
          have K66 := K63.wr W66 (Or.inr (Nat.le_trans K0.1 (Nat.le_of_eq g60.symm)))
          have r66 : CHr Z EL s.vm h63 s.vm h66 := CHr.wr W66 (Safe.arv hZ.alike V63 (by decide)) R63.1
          have R66 := R63.trans r66
          have c68 : SS p e below S0 (T66.setTop (mkF m 190 #[vi p0, vi p1, vi p2, vi p3, vi p4, vi p5, vi nn, vi g0, vi g1, vi g2, vi g3, vi g4, vr b60, .unset, .unset, .unset, .unset, .unset, .unset, .unset, .unset, .unset] [])) := c67.trans (by
            show SS p e below (T66.setTop (mkF m 92 #[vi p0, vi p1, vi p2, vi p3, vi p4, vi p5, vi nn, vi g0, vi g1, vi g2, vi g3, vi g4, .unset, .unset, .unset, .unset, .unset, .unset, .unset, .unset, .unset, .unset] [(.ref b60)])) _
            refine XS.astore X66.here hx rfl (hb hby at_92) rfl rfl (l' := #[vi p0, vi p1, vi p2, vi p3, vi p4, vi p5, vi nn, vi g0, vi g1, vi g2, vi g3, vi g4, vr b60, .unset, .unset, .unset, .unset, .unset, .unset, .unset, .unset, .unset]) rfl ?_
            refine XS.goto X66.here hx rfl (pc0 := 94) (pc' := 190) rfl (hb hby at_94) (by decide) (by decide) ?_
            exact Steps.refl _)
          obtain ⟨T69, h69, X69, e69, E69, A69, D69, -, st69⟩ := newO X66 hx hZ hown (ww hw 8 rfl) (ww hw 9 rfl) (ww hw 10 rfl) e66 (g := (mkF m 190 #[vi p0, vi p1, vi p2, vi p3, vi p4, vi p5, vi nn, vi g0, vi g1, vi g2, vi g3, vi g4, vr b60, .unset, .unset, .unset, .unset, .unset, .unset, .unset, .unset, .unset] [])) rfl (hb hby at_190) (by decide) (by decide)
          obtain ⟨b69, g69⟩ : ∃ z, z = h66.size := ⟨_, rfl⟩
          rw [← g69] at A69 D69 st69
          have sn69 : Safe Z EL s.vm h66 b69 := Safe.new (Nat.le_of_eq g69.symm)
          have c70 : SS p e below S0 (T69.setTop (mkF m 193 #[vi p0, vi p1, vi p2, vi p3, vi p4, vi p5, vi nn, vi g0, vi g1, vi g2, vi g3, vi g4, vr b60, .unset, .unset, .unset, .unset, .unset, .unset, .unset, .unset, .unset] [(.ref b69)])) := c68.trans (st69 _ (Steps.refl _))
          have z69 : n0 ≤ h69.size := Nat.le_trans z66 E69.1
          have K69 := K66.ext E69
          have r69 : CHr Z EL s.vm h66 s.vm h69 := CHr.ext E69 R66.1
          have R69 := R66.trans r69
          have lt_b69 : b69 < h69.size := A69.lt
          have sf69 : Safe Z EL s.vm h69 b69 := Safe.ext E69 R66.1 sn69
          have F69_value : Fld Z h69 b69 "java/lang/String" "value" "[B" .null := D69 (Or.inr (ww hw 23 rfl)) (ty := (.array .byte)) (by decide)
          have F69_coder : Fld Z h69 b69 "java/lang/String" "coder" "B" (.int 0) := D69 (Or.inr (ww hw 24 rfl)) (ty := .byte) (by decide)
          have c71 : SS p e below S0 (T69.setTop (mkF m 196 #[vi p0, vi p1, vi p2, vi p3, vi p4, vi p5, vi nn, vi g0, vi g1, vi g2, vi g3, vi g4, vr b60, .unset, .unset, .unset, .unset, .unset, .unset, .unset, .unset, .unset] [(.ref b60), (.ref b69), (.ref b69)])) := c70.trans (by
            show SS p e below (T69.setTop (mkF m 193 #[vi p0, vi p1, vi p2, vi p3, vi p4, vi p5, vi nn, vi g0, vi g1, vi g2, vi g3, vi g4, vr b60, .unset, .unset, .unset, .unset, .unset, .unset, .unset, .unset, .unset] [(.ref b69)])) _
            refine XS.dup X69.here hx rfl (hb hby at_193) rfl rfl ?_
            refine XS.aload X69.here hx rfl (hb hby at_194) rfl rfl ?_
            exact Steps.refl _)
          have Vg72 : Arv Z h69 b60 k60 .char (2 : Int32) [.int g0, .int g1] (.int 0) := by
            have q := (V66.ext E69)
            rw [own_nar16 hg0c, own_nar16 hg1c] at q; exact q
          obtain ⟨_, _, ⟨T73, L73, kk73, nn73⟩, -, X73, ⟨Lc73, hQ73, l73, y73, z73⟩, st73⟩ := X69.specialBack hx (y := (⟨"java/lang/String", "<init>", "([C)V"⟩ : MethodName)) rfl hown (mvT hZ (ww hw 11 rfl)) (mvT hZ (ww hw 12 rfl)) (mvT hZ (ww hw 13 rfl)) (by decide) (backOf (W := 1) (rmN1_2 l Z a0 hw [] b69 b60 k60 g0 g1 G1 h69 n0 z69 (Nat.le_trans Z0 (Nat.le_trans K66.1 (Nat.le_of_eq g69.symm))) A69 F69_value F69_coder Vg72 hg0c hg1c sAD sHI sLO O2 P5 ((((X00.ext E60).wr W63 (Nat.le_trans Z0 (Nat.le_trans K0.1 (Nat.le_of_eq g60.symm)))).wr W66 (Nat.le_trans Z0 (Nat.le_trans K0.1 (Nat.le_of_eq g60.symm)))).ext E69)) hZ (ww hw 13 rfl) (ww hw 10 rfl) (by decide) (by decide)) (g := (mkF m 196 #[vi p0, vi p1, vi p2, vi p3, vi p4, vi p5, vi nn, vi g0, vi g1, vi g2, vi g3, vi g4, vr b60, .unset, .unset, .unset, .unset, .unset, .unset, .unset, .unset, .unset] [(.ref b60), (.ref b69), (.ref b69)])) rfl (by rw [hml]; rfl) (Steps.refl _) (a := b69) (argsL := [(.ref b60)]) (rest := [(.ref b69)]) (lenOf pd_oaCcV rfl) rfl (by show 2 * 0 + _ ≤ _; exact Nat.le_of_eq rfl) (hb hby at_196) (fun _ _ => ⟨rfl, e69, (by decide : 2 + 2 ≤ _), (by decide : 6 + 6 ≤ _)⟩)
          dsimp only [Pt.U, Pt.locs, Pt.cells, Pt.slots] at X73 l73 y73 z73 st73 hQ73
          subst l73 y73 z73
          obtain ⟨t73, kb73, cd73, N273, vs73, rfl, Nq73, Kq73, Sg73⟩ := hQ73
          have c74 : SS p e below S0 (T73.setTop (mkF m 199 #[vi p0, vi p1, vi p2, vi p3, vi p4, vi p5, vi nn, vi g0, vi g1, vi g2, vi g3, vi g4, vr b60, .unset, .unset, .unset, .unset, .unset, .unset, .unset, .unset, .unset] [(.ref b69)])) := c71.trans (st73)
          have N73 := Fr.app N66 Nq73
          have z73 : n0 ≤ T73.heap.size := Nat.le_trans z69 Kq73.1
          have K73 := K69.trans Kq73 (allS (Or.inr (Nat.le_trans K66.1 (Nat.le_of_eq g69.symm))) all0)
          have r73 : CHr Z EL s.vm h69 s.vm T73.heap := CHr.keep Kq73 (sfS sf69 sf0) R69.1
          have R73 := R69.trans r73
          have c75 : SS p e below S0 (T73.setTop (mkF m 201 #[vi p0, vi p1, vi p2, vi p3, vi p4, vi p5, vi nn, vi g0, vi g1, vi g2, vi g3, vi g4, vr b60, vr b69, .unset, .unset, .unset, .unset, .unset, .unset, .unset, .unset] [])) := c74.trans (by
            show SS p e below (T73.setTop (mkF m 199 #[vi p0, vi p1, vi p2, vi p3, vi p4, vi p5, vi nn, vi g0, vi g1, vi g2, vi g3, vi g4, vr b60, .unset, .unset, .unset, .unset, .unset, .unset, .unset, .unset, .unset] [(.ref b69)])) _
            refine XS.astore X73.here hx rfl (hb hby at_199) rfl rfl (l' := #[vi p0, vi p1, vi p2, vi p3, vi p4, vi p5, vi nn, vi g0, vi g1, vi g2, vi g3, vi g4, vr b60, vr b69, .unset, .unset, .unset, .unset, .unset, .unset, .unset, .unset]) rfl ?_
            exact Steps.refl _)
          exact ⟨_, _, T73, _, _, _, _, _, _, _, _, X73.more (by decide) (by decide), hS0, (Nat.le_trans (Nat.zero_le _) (Nat.le_trans (Nat.le_trans (Nat.le_trans (Nat.le_trans E60.1 (Keep.of_wr W63).1) (Keep.of_wr W66).1) E69.1) Kq73.1)), hZ, hown, R73, K73, z73, N73, (((((X00.ext E60).wr W63 (Nat.le_trans Z0 (Nat.le_trans K0.1 (Nat.le_of_eq g60.symm)))).wr W66 (Nat.le_trans Z0 (Nat.le_trans K0.1 (Nat.le_of_eq g60.symm)))).ext E69).keep Kq73 (allS (Nat.le_trans Z0 (Nat.le_trans K66.1 (Nat.le_of_eq g69.symm))) all0)), (Nat.le_trans K66.1 (Nat.le_of_eq g69.symm)), by rw [own_txt, if_neg hq29, if_neg hq42, if_pos hq58]; exact Sg73, c75⟩
        · have c76 : SS p e below S0 (T24.setTop (mkF m 100 #[vi p0, vi p1, vi p2, vi p3, vi p4, vi p5, vi nn, vi g0, vi g1, vi g2, vi g3, vi g4, .unset, .unset, .unset, .unset, .unset, .unset, .unset, .unset, .unset, .unset] [(.int 3), (.int nn)])) := c57.trans (by
            show SS p e below (T24.setTop (mkF m 76 #[vi p0, vi p1, vi p2, vi p3, vi p4, vi p5, vi nn, vi g0, vi g1, vi g2, vi g3, vi g4, .unset, .unset, .unset, .unset, .unset, .unset, .unset, .unset, .unset, .unset] [(.int 2), (.int nn)])) _
            refine XS.icmpYes X24.here hx rfl (pc0 := 76) (pc' := 97) rfl (hb hby at_76) rfl (feq hq58).2 (by decide) (by decide) ?_
            refine XS.iload X24.here hx rfl (hb hby at_97) rfl ?_
            refine XS.iconst X24.here hx rfl (hb hby at_99) ?_
            exact Steps.refl _)
          by_cases hq77 : nn = (3 : Int32)
          · have c78 : SS p e below S0 (T24.setTop (mkF m 104 #[vi p0, vi p1, vi p2, vi p3, vi p4, vi p5, vi nn, vi g0, vi g1, vi g2, vi g3, vi g4, .unset, .unset, .unset, .unset, .unset, .unset, .unset, .unset, .unset, .unset] [(.int 3)])) := c76.trans (by
              show SS p e below (T24.setTop (mkF m 100 #[vi p0, vi p1, vi p2, vi p3, vi p4, vi p5, vi nn, vi g0, vi g1, vi g2, vi g3, vi g4, .unset, .unset, .unset, .unset, .unset, .unset, .unset, .unset, .unset, .unset] [(.int 3), (.int nn)])) _
              refine XS.icmpNo X24.here hx rfl (hb hby at_100) rfl (teq hq77).2 ?_
              refine XS.iconst X24.here hx rfl (hb hby at_103) ?_
              exact Steps.refl _)
            obtain ⟨T79, h79, k79, X79, e79, E79, A79, st79⟩ := newP X24 hx hZ (ww hw 7 rfl) eq24 (g := (mkF m 104 #[vi p0, vi p1, vi p2, vi p3, vi p4, vi p5, vi nn, vi g0, vi g1, vi g2, vi g3, vi g4, .unset, .unset, .unset, .unset, .unset, .unset, .unset, .unset, .unset, .unset] [(.int 3)])) rfl (hb hby at_104) rfl (by decide) (cap := 3) (by decide) (by decide) (by decide) (by decide)
            obtain ⟨b79, g79⟩ : ∃ z, z = h0.size := ⟨_, rfl⟩
            rw [← g79] at A79 st79
            have c80 : SS p e below S0 (T79.setTop (mkF m 106 #[vi p0, vi p1, vi p2, vi p3, vi p4, vi p5, vi nn, vi g0, vi g1, vi g2, vi g3, vi g4, .unset, .unset, .unset, .unset, .unset, .unset, .unset, .unset, .unset, .unset] [(.ref b79)])) := c78.trans (st79 _ (Steps.refl _))
            have z79 : n0 ≤ h79.size := Nat.le_trans Z0 E79.1
            have K79 := K0.ext E79
            have r79 : CHr Z EL s.vm h0 s.vm h79 := CHr.ext E79 R0.1
            have R79 := R0.trans r79
            have V79 : Arv Z h79 b79 k79 .char (3 : Int32) [(.int 0), (.int 0), (.int 0)] (.int 0) := (Arv.new A79 (by decide)).pad (pad_rep [] (.int 0) 3)
            have lt_b79 : b79 < h79.size := V79.lt
            have c81 : SS p e below S0 (T79.setTop (mkF m 110 #[vi p0, vi p1, vi p2, vi p3, vi p4, vi p5, vi nn, vi g0, vi g1, vi g2, vi g3, vi g4, .unset, .unset, .unset, .unset, .unset, .unset, .unset, .unset, .unset, .unset] [(.int g0), (.int 0), (.ref b79), (.ref b79)])) := c80.trans (by
              show SS p e below (T79.setTop (mkF m 106 #[vi p0, vi p1, vi p2, vi p3, vi p4, vi p5, vi nn, vi g0, vi g1, vi g2, vi g3, vi g4, .unset, .unset, .unset, .unset, .unset, .unset, .unset, .unset, .unset, .unset] [(.ref b79)])) _
              refine XS.dup X79.here hx rfl (hb hby at_106) rfl rfl ?_
              refine XS.iconst X79.here hx rfl (hb hby at_107) ?_
              refine XS.iload X79.here hx rfl (hb hby at_108) rfl ?_
              exact Steps.refl _)
            obtain ⟨cl82, Ar82, q82, S82, Nn82, Ha82, G82⟩ := id V79
            obtain ⟨T82, h82, X82, e82, W82, st82⟩ := stC X79 hx hZ e79 Ar82 (j := (0 : Int32)) (inb_of S82 ⟨by decide, by decide⟩) (g := (mkF m 110 #[vi p0, vi p1, vi p2, vi p3, vi p4, vi p5, vi nn, vi g0, vi g1, vi g2, vi g3, vi g4, .unset, .unset, .unset, .unset, .unset, .unset, .unset, .unset, .unset, .unset] [(.int g0), (.int 0), (.ref b79), (.ref b79)])) rfl rfl (hb hby at_110)
            have V82 : Arv Z h82 b79 k79 .char (3 : Int32) [(.int (nar .char g0)), (.int 0), (.int 0)] (.int 0) := Arv.set Ar82 q82 S82 Nn82 Ha82 G82 (fits_nar_char _) W82 0 rfl (Nat.le_of_ble_eq_true rfl)
            have c83 : SS p e below S0 (T82.setTop (mkF m 111 #[vi p0, vi p1, vi p2, vi p3, vi p4, vi p5, vi nn, vi g0, vi g1, vi g2, vi g3, vi g4, .unset, .unset, .unset, .unset, .unset, .unset, .unset, .unset, .unset, .unset] [(.ref b79)])) := c81.trans (st82 _ (Steps.refl _))
            have N82 := Fr.snoc X82 N24 (Nat.le_trans Z0 (Nat.le_trans K0.1 (Nat.le_of_eq g79.symm)))
            have z82 : n0 ≤ h82.size := Nat.le_trans z79 (Keep.of_wr W82).1
            have K82 := K79.wr W82 (Or.inr (Nat.le_trans K0.1 (Nat.le_of_eq g79.symm)))
            have r82 : CHr Z EL s.vm h79 s.vm h82 := CHr.wr W82 (Safe.arv hZ.alike V79 (by decide)) R79.1
            have R82 := R79.trans r82
            have c84 : SS p e below S0 (T82.setTop (mkF m 115 #[vi p0, vi p1, vi p2, vi p3, vi p4, vi p5, vi nn, vi g0, vi g1, vi g2, vi g3, vi g4, .unset, .unset, .unset, .unset, .unset, .unset, .unset, .unset, .unset, .unset] [(.int g1), (.int 1), (.ref b79), (.ref b79)])) := c83.trans (by
              show SS p e below (T82.setTop (mkF m 111 #[vi p0, vi p1, vi p2, vi p3, vi p4, vi p5, vi nn, vi g0, vi g1, vi g2, vi g3, vi g4, .unset, .unset, .unset, .unset, .unset, .unset, .unset, .unset, .unset, .unset] [(.ref b79)])) _
              refine XS.dup X82.here hx rfl (hb hby at_111) rfl rfl ?_
              refine XS.iconst X82.here hx rfl (hb hby at_112) ?_
              refine XS.iload X82.here hx rfl (hb hby at_113) rfl ?_
              exact Steps.refl _)
            obtain ⟨cl85, Ar85, q85, S85, Nn85, Ha85, G85⟩ := id V82
            obtain ⟨T85, h85, X85, e85, W85, st85⟩ := stC X82 hx hZ e82 Ar85 (j := (1 : Int32)) (inb_of S85 ⟨by decide, by decide⟩) (g := (mkF m 115 #[vi p0, vi p1, vi p2, vi p3, vi p4, vi p5, vi nn, vi g0, vi g1, vi g2, vi g3, vi g4, .unset, .unset, .unset, .unset, .unset, .unset, .unset, .unset, .unset, .unset] [(.int g1), (.int 1), (.ref b79), (.ref b79)])) rfl rfl (hb hby at_115)
            have V85 : Arv Z h85 b79 k79 .char (3 : Int32) [(.int (nar .char g0)), (.int (nar .char g1)), (.int 0)] (.int 0) := Arv.set Ar85 q85 S85 Nn85 Ha85 G85 (fits_nar_char _) W85 1 rfl (Nat.le_of_ble_eq_true rfl)
            have c86 : SS p e below S0 (T85.setTop (mkF m 116 #[vi p0, vi p1, vi p2, vi p3, vi p4, vi p5, vi nn, vi g0, vi g1, vi g2, vi g3, vi g4, .unset, .unset, .unset, .unset, .unset, .unset, .unset, .unset, .unset, .unset] [(.ref b79)])) := c84.trans (st85 _ (Steps.refl _))
            have N85 := Fr.snoc X85 N82 (Nat.le_trans Z0 (Nat.le_trans K0.1 (Nat.le_of_eq g79.symm)))
            have z85 : n0 ≤ h85.size := Nat.le_trans z82 (Keep.of_wr W85).1
            have K85 := K82.wr W85 (Or.inr (Nat.le_trans K0.1 (Nat.le_of_eq g79.symm)))
            have r85 : CHr Z EL s.vm h82 s.vm h85 := CHr.wr W85 (Safe.arv hZ.alike V82 (by decide)) R82.1
            have R85 := R82.trans r85
            have c87 : SS p e below S0 (T85.setTop (mkF m 120 #[vi p0, vi p1, vi p2, vi p3, vi p4, vi p5, vi nn, vi g0, vi g1, vi g2, vi g3, vi g4, .unset, .unset, .unset, .unset, .unset, .unset, .unset, .unset, .unset, .unset] [(.int g2), (.int 2), (.ref b79), (.ref b79)])) := c86.trans (by
              show SS p e below (T85.setTop (mkF m 116 #[vi p0, vi p1, vi p2, vi p3, vi p4, vi p5, vi nn, vi g0, vi g1, vi g2, vi g3, vi g4, .unset, .unset, .unset, .unset, .unset, .unset, .unset, .unset, .unset, .unset] [(.ref b79)])) _
              refine XS.dup X85.here hx rfl (hb hby at_116) rfl rfl ?_
              refine XS.iconst X85.here hx rfl (hb hby at_117) ?_
              refine XS.iload X85.here hx rfl (hb hby at_118) rfl ?_
              exact Steps.refl _)
            obtain ⟨cl88, Ar88, q88, S88, Nn88, Ha88, G88⟩ := id V85
            obtain ⟨T88, h88, X88, e88, W88, st88⟩ := stC X85 hx hZ e85 Ar88 (j := (2 : Int32)) (inb_of S88 ⟨by decide, by decide⟩) (g := (mkF m 120 #[vi p0, vi p1, vi p2, vi p3, vi p4, vi p5, vi nn, vi g0, vi g1, vi g2, vi g3, vi g4, .unset, .unset, .unset, .unset, .unset, .unset, .unset, .unset, .unset, .unset] [(.int g2), (.int 2), (.ref b79), (.ref b79)])) rfl rfl (hb hby at_120)
            have V88 : Arv Z h88 b79 k79 .char (3 : Int32) [(.int (nar .char g0)), (.int (nar .char g1)), (.int (nar .char g2))] (.int 0) := Arv.set Ar88 q88 S88 Nn88 Ha88 G88 (fits_nar_char _) W88 2 rfl (Nat.le_of_ble_eq_true rfl)
            have c89 : SS p e below S0 (T88.setTop (mkF m 121 #[vi p0, vi p1, vi p2, vi p3, vi p4, vi p5, vi nn, vi g0, vi g1, vi g2, vi g3, vi g4, .unset, .unset, .unset, .unset, .unset, .unset, .unset, .unset, .unset, .unset] [(.ref b79)])) := c87.trans (st88 _ (Steps.refl _))
            have N88 := Fr.snoc X88 N85 (Nat.le_trans Z0 (Nat.le_trans K0.1 (Nat.le_of_eq g79.symm)))
            have z88 : n0 ≤ h88.size := Nat.le_trans z85 (Keep.of_wr W88).1
            have K88 := K85.wr W88 (Or.inr (Nat.le_trans K0.1 (Nat.le_of_eq g79.symm)))
            have r88 : CHr Z EL s.vm h85 s.vm h88 := CHr.wr W88 (Safe.arv hZ.alike V85 (by decide)) R85.1
            have R88 := R85.trans r88
            have c90 : SS p e below S0 (T88.setTop (mkF m 190 #[vi p0, vi p1, vi p2, vi p3, vi p4, vi p5, vi nn, vi g0, vi g1, vi g2, vi g3, vi g4, vr b79, .unset, .unset, .unset, .unset, .unset, .unset, .unset, .unset, .unset] [])) := c89.trans (by
              show SS p e below (T88.setTop (mkF m 121 #[vi p0, vi p1, vi p2, vi p3, vi p4, vi p5, vi nn, vi g0, vi g1, vi g2, vi g3, vi g4, .unset, .unset, .unset, .unset, .unset, .unset, .unset, .unset, .unset, .unset] [(.ref b79)])) _
              refine XS.astore X88.here hx rfl (hb hby at_121) rfl rfl (l' := #[vi p0, vi p1, vi p2, vi p3, vi p4, vi p5, vi nn, vi g0, vi g1, vi g2, vi g3, vi g4, vr b79, .unset, .unset, .unset, .unset, .unset, .unset, .unset, .unset, .unset]) rfl ?_
              refine XS.goto X88.here hx rfl (pc0 := 123) (pc' := 190) rfl (hb hby at_123) (by decide) (by decide) ?_
              exact Steps.refl _)
            obtain ⟨T91, h91, X91, e91, E91, A91, D91, -, st91⟩ := newO X88 hx hZ hown (ww hw 8 rfl) (ww hw 9 rfl) (ww hw 10 rfl) e88 (g := (mkF m 190 #[vi p0, vi p1, vi p2, vi p3, vi p4, vi p5, vi nn, vi g0, vi g1, vi g2, vi g3, vi g4, vr b79, .unset, .unset, .unset, .unset, .unset, .unset, .unset, .unset, .unset] [])) rfl (hb hby at_190) (by decide) (by decide)
            obtain ⟨b91, g91⟩ : ∃ z, z = h88.size := ⟨_, rfl⟩
            rw [← g91] at A91 D91 st91
            have sn91 : Safe Z EL s.vm h88 b91 := Safe.new (Nat.le_of_eq g91.symm)
            have c92 : SS p e below S0 (T91.setTop (mkF m 193 #[vi p0, vi p1, vi p2, vi p3, vi p4, vi p5, vi nn, vi g0, vi g1, vi g2, vi g3, vi g4, vr b79, .unset, .unset, .unset, .unset, .unset, .unset, .unset, .unset, .unset] [(.ref b91)])) := c90.trans (st91 _ (Steps.refl _))
            have z91 : n0 ≤ h91.size := Nat.le_trans z88 E91.1
            have K91 := K88.ext E91
            have r91 : CHr Z EL s.vm h88 s.vm h91 := CHr.ext E91 R88.1
            have R91 := R88.trans r91
            have lt_b91 : b91 < h91.size := A91.lt
            have sf91 : Safe Z EL s.vm h91 b91 := Safe.ext E91 R88.1 sn91
            have F91_value : Fld Z h91 b91 "java/lang/String" "value" "[B" .null := D91 (Or.inr (ww hw 23 rfl)) (ty := (.array .byte)) (by decide)
            have F91_coder : Fld Z h91 b91 "java/lang/String" "coder" "B" (.int 0) := D91 (Or.inr (ww hw 24 rfl)) (ty := .byte) (by decide)
            have c93 : SS p e below S0 (T91.setTop (mkF m 196 #[vi p0, vi p1, vi p2, vi p3, vi p4, vi p5, vi nn, vi g0, vi g1, vi g2, vi g3, vi g4, vr b79, .unset, .unset, .unset, .unset, .unset, .unset, .unset, .unset, .unset] [(.ref b79), (.ref b91), (.ref b91)])) := c92.trans (by
              show SS p e below (T91.setTop (mkF m 193 #[vi p0, vi p1, vi p2, vi p3, vi p4, vi p5, vi nn, vi g0, vi g1, vi g2, vi g3, vi g4, vr b79, .unset, .unset, .unset, .unset, .unset, .unset, .unset, .unset, .unset] [(.ref b91)])) _
              refine XS.dup X91.here hx rfl (hb hby at_193) rfl rfl ?_
              refine XS.aload X91.here hx rfl (hb hby at_194) rfl rfl ?_
              exact Steps.refl _)
            have Vg94 : Arv Z h91 b79 k79 .char (3 : Int32) [.int g0, .int g1, .int g2] (.int 0) := by
              have q := (V88.ext E91)
              rw [own_nar16 hg0c, own_nar16 hg1c, own_nar16 hg2c] at q; exact q
            obtain ⟨_, _, ⟨T95, L95, kk95, nn95⟩, -, X95, ⟨Lc95, hQ95, l95, y95, z95⟩, st95⟩ := X91.specialBack hx (y := (⟨"java/lang/String", "<init>", "([C)V"⟩ : MethodName)) rfl hown (mvT hZ (ww hw 11 rfl)) (mvT hZ (ww hw 12 rfl)) (mvT hZ (ww hw 13 rfl)) (by decide) (backOf (W := 1) (rmN1_3 l Z a0 hw [] b91 b79 k79 g0 g1 g2 G1 h91 n0 z91 (Nat.le_trans Z0 (Nat.le_trans K88.1 (Nat.le_of_eq g91.symm))) A91 F91_value F91_coder Vg94 hg0c hg1c hg2c sAD sHI sLO O2 P5 (((((X00.ext E79).wr W82 (Nat.le_trans Z0 (Nat.le_trans K0.1 (Nat.le_of_eq g79.symm)))).wr W85 (Nat.le_trans Z0 (Nat.le_trans K0.1 (Nat.le_of_eq g79.symm)))).wr W88 (Nat.le_trans Z0 (Nat.le_trans K0.1 (Nat.le_of_eq g79.symm)))).ext E91)) hZ (ww hw 13 rfl) (ww hw 10 rfl) (by decide) (by decide)) (g := (mkF m 196 #[vi p0, vi p1, vi p2, vi p3, vi p4, vi p5, vi nn, vi g0, vi g1, vi g2, vi g3, vi g4, vr b79, .unset, .unset, .unset, .unset, .unset, .unset, .unset, .unset, .unset] [(.ref b79), (.ref b91), (.ref b91)])) rfl (by rw [hml]; rfl) (Steps.refl _) (a := b91) (argsL := [(.ref b79)]) (rest := [(.ref b91)]) (lenOf pd_oaCcV rfl) rfl (by show 2 * 0 + _ ≤ _; exact Nat.le_of_eq rfl) (hb hby at_196) (fun _ _ => ⟨rfl, e91, (by decide : 2 + 2 ≤ _), (by decide : 7 + 9 ≤ _)⟩)
            dsimp only [Pt.U, Pt.locs, Pt.cells, Pt.slots] at X95 l95 y95 z95 st95 hQ95
            subst l95 y95 z95
            obtain ⟨t95, kb95, cd95, N295, vs95, rfl, Nq95, Kq95, Sg95⟩ := hQ95
            have c96 : SS p e below S0 (T95.setTop (mkF m 199 #[vi p0, vi p1, vi p2, vi p3, vi p4, vi p5, vi nn, vi g0, vi g1, vi g2, vi g3, vi g4, vr b79, .unset, .unset, .unset, .unset, .unset, .unset, .unset, .unset, .unset] [(.ref b91)])) := c93.trans (st95)
            have N95 := Fr.app N88 Nq95
            have z95 : n0 ≤ T95.heap.size := Nat.le_trans z91 Kq95.1
            have K95 := K91.trans Kq95 (allS (Or.inr (Nat.le_trans K88.1 (Nat.le_of_eq g91.symm))) all0)
            have r95 : CHr Z EL s.vm h91 s.vm T95.heap := CHr.keep Kq95 (sfS sf91 sf0) R91.1
            have R95 := R91.trans r95
            have c97 : SS p e below S0 (T95.setTop (mkF m 201 #[vi p0, vi p1, vi p2, vi p3, vi p4, vi p5, vi nn, vi g0, vi g1, vi g2, vi g3, vi g4, vr b79, vr b91, .unset, .unset, .unset, .unset, .unset, .unset, .unset, .unset] [])) := c96.trans (by
              show SS p e below (T95.setTop (mkF m 199 #[vi p0, vi p1, vi p2, vi p3, vi p4, vi p5, vi nn, vi g0, vi g1, vi g2, vi g3, vi g4, vr b79, .unset, .unset, .unset, .unset, .unset, .unset, .unset, .unset, .unset] [(.ref b91)])) _
              refine XS.astore X95.here hx rfl (hb hby at_199) rfl rfl (l' := #[vi p0, vi p1, vi p2, vi p3, vi p4, vi p5, vi nn, vi g0, vi g1, vi g2, vi g3, vi g4, vr b79, vr b91, .unset, .unset, .unset, .unset, .unset, .unset, .unset, .unset]) rfl ?_
              exact Steps.refl _)
            exact ⟨_, _, T95, _, _, _, _, _, _, _, _, X95.more (by decide) (by decide), hS0, (Nat.le_trans (Nat.zero_le _) (Nat.le_trans (Nat.le_trans (Nat.le_trans (Nat.le_trans (Nat.le_trans E79.1 (Keep.of_wr W82).1) (Keep.of_wr W85).1) (Keep.of_wr W88).1) E91.1) Kq95.1)), hZ, hown, R95, K95, z95, N95, ((((((X00.ext E79).wr W82 (Nat.le_trans Z0 (Nat.le_trans K0.1 (Nat.le_of_eq g79.symm)))).wr W85 (Nat.le_trans Z0 (Nat.le_trans K0.1 (Nat.le_of_eq g79.symm)))).wr W88 (Nat.le_trans Z0 (Nat.le_trans K0.1 (Nat.le_of_eq g79.symm)))).ext E91).keep Kq95 (allS (Nat.le_trans Z0 (Nat.le_trans K88.1 (Nat.le_of_eq g91.symm))) all0)), (Nat.le_trans K88.1 (Nat.le_of_eq g91.symm)), by rw [own_txt, if_neg hq29, if_neg hq42, if_neg hq58, if_pos hq77]; exact Sg95, c97⟩
          · have c98 : SS p e below S0 (T24.setTop (mkF m 129 #[vi p0, vi p1, vi p2, vi p3, vi p4, vi p5, vi nn, vi g0, vi g1, vi g2, vi g3, vi g4, .unset, .unset, .unset, .unset, .unset, .unset, .unset, .unset, .unset, .unset] [(.int 4), (.int nn)])) := c76.trans (by
              show SS p e below (T24.setTop (mkF m 100 #[vi p0, vi p1, vi p2, vi p3, vi p4, vi p5, vi nn, vi g0, vi g1, vi g2, vi g3, vi g4, .unset, .unset, .unset, .unset, .unset, .unset, .unset, .unset, .unset, .unset] [(.int 3), (.int nn)])) _
              refine XS.icmpYes X24.here hx rfl (pc0 := 100) (pc' := 126) rfl (hb hby at_100) rfl (feq hq77).2 (by decide) (by decide) ?_
              refine XS.iload X24.here hx rfl (hb hby at_126) rfl ?_
              refine XS.iconst X24.here hx rfl (hb hby at_128) ?_
              exact Steps.refl _)
            by_cases hq99 : nn = (4 : Int32)
            · have c100 : SS p e below S0 (T24.setTop (mkF m 133 #[vi p0, vi p1, vi p2, vi p3, vi p4, vi p5, vi nn, vi g0, vi g1, vi g2, vi g3, vi g4, .unset, .unset, .unset, .unset, .unset, .unset, .unset, .unset, .unset, .unset] [(.int 4)])) := c98.trans (by
                show SS p e below (T24.setTop (mkF m 129 #[vi p0, vi p1, vi p2, vi p3, vi p4, vi p5, vi nn, vi g0, vi g1, vi g2, vi g3, vi g4, .unset, .unset, .unset, .unset, .unset, .unset, .unset, .unset, .unset, .unset] [(.int 4), (.int nn)])) _
                refine XS.icmpNo X24.here hx rfl (hb hby at_129) rfl (teq hq99).2 ?_
                refine XS.iconst X24.here hx rfl (hb hby at_132) ?_
                exact Steps.refl _)
              obtain ⟨T101, h101, k101, X101, e101, E101, A101, st101⟩ := newP X24 hx hZ (ww hw 7 rfl) eq24 (g := (mkF m 133 #[vi p0, vi p1, vi p2, vi p3, vi p4, vi p5, vi nn, vi g0, vi g1, vi g2, vi g3, vi g4, .unset, .unset, .unset, .unset, .unset, .unset, .unset, .unset, .unset, .unset] [(.int 4)])) rfl (hb hby at_133) rfl (by decide) (cap := 4) (by decide) (by decide) (by decide) (by decide)
              obtain ⟨b101, g101⟩ : ∃ z, z = h0.size := ⟨_, rfl⟩
              rw [← g101] at A101 st101
              have c102 : SS p e below S0 (T101.setTop (mkF m 135 #[vi p0, vi p1, vi p2, vi p3, vi p4, vi p5, vi nn, vi g0, vi g1, vi g2, vi g3, vi g4, .unset, .unset, .unset, .unset, .unset, .unset, .unset, .unset, .unset, .unset] [(.ref b101)])) := c100.trans (st101 _ (Steps.refl _))
              have z101 : n0 ≤ h101.size := Nat.le_trans Z0 E101.1
              have K101 := K0.ext E101
              have r101 : CHr Z EL s.vm h0 s.vm h101 := CHr.ext E101 R0.1
              have R101 := R0.trans r101
              have V101 : Arv Z h101 b101 k101 .char (4 : Int32) [(.int 0), (.int 0), (.int 0), (.int 0)] (.int 0) := (Arv.new A101 (by decide)).pad (pad_rep [] (.int 0) 4)
              have lt_b101 : b101 < h101.size := V101.lt
              have c103 : SS p e below S0 (T101.setTop (mkF m 139 #[vi p0, vi p1, vi p2, vi p3, vi p4, vi p5, vi nn, vi g0, vi g1, vi g2, vi g3, vi g4, .unset, .unset, .unset, .unset, .unset, .unset, .unset, .unset, .unset, .unset] [(.int g0), (.int 0), (.ref b101), (.ref b101)])) := c102.trans (by
                show SS p e below (T101.setTop (mkF m 135 #[vi p0, vi p1, vi p2, vi p3, vi p4, vi p5, vi nn, vi g0, vi g1, vi g2, vi g3, vi g4, .unset, .unset, .unset, .unset, .unset, .unset, .unset, .unset, .unset, .unset] [(.ref b101)])) _
                refine XS.dup X101.here hx rfl (hb hby at_135) rfl rfl ?_
                refine XS.iconst X101.here hx rfl (hb hby at_136) ?_
                refine XS.iload X101.here hx rfl (hb hby at_137) rfl ?_
                exact Steps.refl _)
              obtain ⟨cl104, Ar104, q104, S104, Nn104, Ha104, G104⟩ := id V101
              obtain ⟨T104, h104, X104, e104, W104, st104⟩ := stC X101 hx hZ e101 Ar104 (j := (0 : Int32)) (inb_of S104 ⟨by decide, by decide⟩) (g := (mkF m 139 #[vi p0, vi p1, vi p2, vi p3, vi p4, vi p5, vi nn, vi g0, vi g1, vi g2, vi g3, vi g4, .unset, .unset, .unset, .unset, .unset, .unset, .unset, .unset, .unset, .unset] [(.int g0), (.int 0), (.ref b101), (.ref b101)])) rfl rfl (hb hby at_139)
              have V104 : Arv Z h104 b101 k101 .char (4 : Int32) [(.int (nar .char g0)), (.int 0), (.int 0), (.int 0)] (.int 0) := Arv.set Ar104 q104 S104 Nn104 Ha104 G104 (fits_nar_char _) W104 0 rfl (Nat.le_of_ble_eq_true rfl)
              have c105 : SS p e below S0 (T104.setTop (mkF m 140 #[vi p0, vi p1, vi p2, vi p3, vi p4, vi p5, vi nn, vi g0, vi g1, vi g2, vi g3, vi g4, .unset, .unset, .unset, .unset, .unset, .unset, .unset, .unset, .unset, .unset] [(.ref b101)])) := c103.trans (st104 _ (Steps.refl _))
              have N104 := Fr.snoc X104 N24 (Nat.le_trans Z0 (Nat.le_trans K0.1 (Nat.le_of_eq g101.symm)))
              have z104 : n0 ≤ h104.size := Nat.le_trans z101 (Keep.of_wr W104).1
              have K104 := K101.wr W104 (Or.inr (Nat.le_trans K0.1 (Nat.le_of_eq g101.symm)))
              have r104 : CHr Z EL s.vm h101 s.vm h104 := CHr.wr W104 (Safe.arv hZ.alike V101 (by decide)) R101.1
              have R104 := R101.trans r104
              have c106 : SS p e below S0 (T104.setTop (mkF m 144 #[vi p0, vi p1, vi p2, vi p3, vi p4, vi p5, vi nn, vi g0, vi g1, vi g2, vi g3, vi g4, .unset, .unset, .unset, .unset, .unset, .unset, .unset, .unset, .unset, .unset] [(.int g1), (.int 1), (.ref b101), (.ref b101)])) := c105.trans (by
                show SS p e below (T104.setTop (mkF m 140 #[vi p0, vi p1, vi p2, vi p3, vi p4, vi p5, vi nn, vi g0, vi g1, vi g2, vi g3, vi g4, .unset, .unset, .unset, .unset, .unset, .unset, .unset, .unset, .unset, .unset] [(.ref b101)])) _
                refine XS.dup X104.here hx rfl (hb hby at_140) rfl rfl ?_
                refine XS.iconst X104.here hx rfl (hb hby at_141) ?_
                refine XS.iload X104.here hx rfl (hb hby at_142) rfl ?_
                exact Steps.refl _)
              obtain ⟨cl107, Ar107, q107, S107, Nn107, Ha107, G107⟩ := id V104
              obtain ⟨T107, h107, X107, e107, W107, st107⟩ := stC X104 hx hZ e104 Ar107 (j := (1 : Int32)) (inb_of S107 ⟨by decide, by decide⟩) (g := (mkF m 144 #[vi p0, vi p1, vi p2, vi p3, vi p4, vi p5, vi nn, vi g0, vi g1, vi g2, vi g3, vi g4, .unset, .unset, .unset, .unset, .unset, .unset, .unset, .unset, .unset, .unset] [(.int g1), (.int 1), (.ref b101), (.ref b101)])) rfl rfl (hb hby at_144)
              have V107 : Arv Z h107 b101 k101 .char (4 : Int32) [(.int (nar .char g0)), (.int (nar .char g1)), (.int 0), (.int 0)] (.int 0) := Arv.set Ar107 q107 S107 Nn107 Ha107 G107 (fits_nar_char _) W107 1 rfl (Nat.le_of_ble_eq_true rfl)
              have c108 : SS p e below S0 (T107.setTop (mkF m 145 #[vi p0, vi p1, vi p2, vi p3, vi p4, vi p5, vi nn, vi g0, vi g1, vi g2, vi g3, vi g4, .unset, .unset, .unset, .unset, .unset, .unset, .unset, .unset, .unset, .unset] [(.ref b101)])) := c106.trans (st107 _ (Steps.refl _))
              have N107 := Fr.snoc X107 N104 (Nat.le_trans Z0 (Nat.le_trans K0.1 (Nat.le_of_eq g101.symm)))
              have z107 : n0 ≤ h107.size := Nat.le_trans z104 (Keep.of_wr W107).1
              have K107 := K104.wr W107 (Or.inr (Nat.le_trans K0.1 (Nat.le_of_eq g101.symm)))
              have r107 : CHr Z EL s.vm h104 s.vm h107 := CHr.wr W107 (Safe.arv hZ.alike V104 (by decide)) R104.1
              have R107 := R104.trans r107
              have c109 : SS p e below S0 (T107.setTop (mkF m 149 #[vi p0, vi p1, vi p2, vi p3, vi p4, vi p5, vi nn, vi g0, vi g1, vi g2, vi g3, vi g4, .unset, .unset, .unset, .unset, .unset, .unset, .unset, .unset, .unset, .unset] [(.int g2), (.int 2), (.ref b101), (.ref b101)])) := c108.trans (by
                show SS p e below (T107.setTop (mkF m 145 #[vi p0, vi p1, vi p2, vi p3, vi p4, vi p5, vi nn, vi g0, vi g1, vi g2, vi g3, vi g4, .unset, .unset, .unset, .unset, .unset, .unset, .unset, .unset, .unset, .unset] [(.ref b101)])) _
                refine XS.dup X107.here hx rfl (hb hby at_145) rfl rfl ?_
                refine XS.iconst X107.here hx rfl (hb hby at_146) ?_
                refine XS.iload X107.here hx rfl (hb hby at_147) rfl ?_
                exact Steps.refl _)
              obtain ⟨cl110, Ar110, q110, S110, Nn110, Ha110, G110⟩ := id V107
              obtain ⟨T110, h110, X110, e110, W110, st110⟩ := stC X107 hx hZ e107 Ar110 (j := (2 : Int32)) (inb_of S110 ⟨by decide, by decide⟩) (g := (mkF m 149 #[vi p0, vi p1, vi p2, vi p3, vi p4, vi p5, vi nn, vi g0, vi g1, vi g2, vi g3, vi g4, .unset, .unset, .unset, .unset, .unset, .unset, .unset, .unset, .unset, .unset] [(.int g2), (.int 2), (.ref b101), (.ref b101)])) rfl rfl (hb hby at_149)
              have V110 : Arv Z h110 b101 k101 .char (4 : Int32) [(.int (nar .char g0)), (.int (nar .char g1)), (.int (nar .char g2)), (.int 0)] (.int 0) := Arv.set Ar110 q110 S110 Nn110 Ha110 G110 (fits_nar_char _) W110 2 rfl (Nat.le_of_ble_eq_true rfl)
              have c111 : SS p e below S0 (T110.setTop (mkF m 150 #[vi p0, vi p1, vi p2, vi p3, vi p4, vi p5, vi nn, vi g0, vi g1, vi g2, vi g3, vi g4, .unset, .unset, .unset, .unset, .unset, .unset, .unset, .unset, .unset, .unset] [(.ref b101)])) := c109.trans (st110 _ (Steps.refl _))
              have N110 := Fr.snoc X110 N107 (Nat.le_trans Z0 (Nat.le_trans K0.1 (Nat.le_of_eq g101.symm)))
              have z110 : n0 ≤ h110.size := Nat.le_trans z107 (Keep.of_wr W110).1
              have K110 := K107.wr W110 (Or.inr (Nat.le_trans K0.1 (Nat.le_of_eq g101.symm)))
              have r110 : CHr Z EL s.vm h107 s.vm h110 := CHr.wr W110 (Safe.arv hZ.alike V107 (by decide)) R107.1
              have R110 := R107.trans r110
              have c112 : SS p e below S0 (T110.setTop (mkF m 154 #[vi p0, vi p1, vi p2, vi p3, vi p4, vi p5, vi nn, vi g0, vi g1, vi g2, vi g3, vi g4, .unset, .unset, .unset, .unset, .unset, .unset, .unset, .unset, .unset, .unset] [(.int g3), (.int 3), (.ref b101), (.ref b101)])) := c111.trans (by
                show SS p e below (T110.setTop (mkF m 150 #[vi p0, vi p1, vi p2, vi p3, vi p4, vi p5, vi nn, vi g0, vi g1, vi g2, vi g3, vi g4, .unset, .unset, .unset, .unset, .unset, .unset, .unset, .unset, .unset, .unset] [(.ref b101)])) _
                refine XS.dup X110.here hx rfl (hb hby at_150) rfl rfl ?_
                refine XS.iconst X110.here hx rfl (hb hby at_151) ?_
                refine XS.iload X110.here hx rfl (hb hby at_152) rfl ?_
                exact Steps.refl _)
              obtain ⟨cl113, Ar113, q113, S113, Nn113, Ha113, G113⟩ := id V110
              obtain ⟨T113, h113, X113, e113, W113, st113⟩ := stC X110 hx hZ e110 Ar113 (j := (3 : Int32)) (inb_of S113 ⟨by decide, by decide⟩) (g := (mkF m 154 #[vi p0, vi p1, vi p2, vi p3, vi p4, vi p5, vi nn, vi g0, vi g1, vi g2, vi g3, vi g4, .unset, .unset, .unset, .unset, .unset, .unset, .unset, .unset, .unset, .unset] [(.int g3), (.int 3), (.ref b101), (.ref b101)])) rfl rfl (hb hby at_154)
              have V113 : Arv Z h113 b101 k101 .char (4 : Int32) [(.int (nar .char g0)), (.int (nar .char g1)), (.int (nar .char g2)), (.int (nar .char g3))] (.int 0) := Arv.set Ar113 q113 S113 Nn113 Ha113 G113 (fits_nar_char _) W113 3 rfl (Nat.le_of_ble_eq_true rfl)
              have c114 : SS p e below S0 (T113.setTop (mkF m 155 #[vi p0, vi p1, vi p2, vi p3, vi p4, vi p5, vi nn, vi g0, vi g1, vi g2, vi g3, vi g4, .unset, .unset, .unset, .unset, .unset, .unset, .unset, .unset, .unset, .unset] [(.ref b101)])) := c112.trans (st113 _ (Steps.refl _))
              have N113 := Fr.snoc X113 N110 (Nat.le_trans Z0 (Nat.le_trans K0.1 (Nat.le_of_eq g101.symm)))
              have z113 : n0 ≤ h113.size := Nat.le_trans z110 (Keep.of_wr W113).1
              have K113 := K110.wr W113 (Or.inr (Nat.le_trans K0.1 (Nat.le_of_eq g101.symm)))
              have r113 : CHr Z EL s.vm h110 s.vm h113 := CHr.wr W113 (Safe.arv hZ.alike V110 (by decide)) R110.1
              have R113 := R110.trans r113
              have c115 : SS p e below S0 (T113.setTop (mkF m 190 #[vi p0, vi p1, vi p2, vi p3, vi p4, vi p5, vi nn, vi g0, vi g1, vi g2, vi g3, vi g4, vr b101, .unset, .unset, .unset, .unset, .unset, .unset, .unset, .unset, .unset] [])) := c114.trans (by
                show SS p e below (T113.setTop (mkF m 155 #[vi p0, vi p1, vi p2, vi p3, vi p4, vi p5, vi nn, vi g0, vi g1, vi g2, vi g3, vi g4, .unset, .unset, .unset, .unset, .unset, .unset, .unset, .unset, .unset, .unset] [(.ref b101)])) _
                refine XS.astore X113.here hx rfl (hb hby at_155) rfl rfl (l' := #[vi p0, vi p1, vi p2, vi p3, vi p4, vi p5, vi nn, vi g0, vi g1, vi g2, vi g3, vi g4, vr b101, .unset, .unset, .unset, .unset, .unset, .unset, .unset, .unset, .unset]) rfl ?_
                refine XS.goto X113.here hx rfl (pc0 := 157) (pc' := 190) rfl (hb hby at_157) (by decide) (by decide) ?_
                exact Steps.refl _)
              obtain ⟨T116, h116, X116, e116, E116, A116, D116, -, st116⟩ := newO X113 hx hZ hown (ww hw 8 rfl) (ww hw 9 rfl) (ww hw 10 rfl) e113 (g := (mkF m 190 #[vi p0, vi p1, vi p2, vi p3, vi p4, vi p5, vi nn, vi g0, vi g1, vi g2, vi g3, vi g4, vr b101, .unset, .unset, .unset, .unset, .unset, .unset, .unset, .unset, .unset] [])) rfl (hb hby at_190) (by decide) (by decide)
              obtain ⟨b116, g116⟩ : ∃ z, z = h113.size := ⟨_, rfl⟩
              rw [← g116] at A116 D116 st116
              have sn116 : Safe Z EL s.vm h113 b116 := Safe.new (Nat.le_of_eq g116.symm)
              have c117 : SS p e below S0 (T116.setTop (mkF m 193 #[vi p0, vi p1, vi p2, vi p3, vi p4, vi p5, vi nn, vi g0, vi g1, vi g2, vi g3, vi g4, vr b101, .unset, .unset, .unset, .unset, .unset, .unset, .unset, .unset, .unset] [(.ref b116)])) := c115.trans (st116 _ (Steps.refl _))
              have z116 : n0 ≤ h116.size := Nat.le_trans z113 E116.1
              have K116 := K113.ext E116
              have r116 : CHr Z EL s.vm h113 s.vm h116 := CHr.ext E116 R113.1
              have R116 := R113.trans r116
              have lt_b116 : b116 < h116.size := A116.lt
              have sf116 : Safe Z EL s.vm h116 b116 := Safe.ext E116 R113.1 sn116
              have F116_value : Fld Z h116 b116 "java/lang/String" "value" "[B" .null := D116 (Or.inr (ww hw 23 rfl)) (ty := (.array .byte)) (by decide)
              have F116_coder : Fld Z h116 b116 "java/lang/String" "coder" "B" (.int 0) := D116 (Or.inr (ww hw 24 rfl)) (ty := .byte) (by decide)
              have c118 : SS p e below S0 (T116.setTop (mkF m 196 #[vi p0, vi p1, vi p2, vi p3, vi p4, vi p5, vi nn, vi g0, vi g1, vi g2, vi g3, vi g4, vr b101, .unset, .unset, .unset, .unset, .unset, .unset, .unset, .unset, .unset] [(.ref b101), (.ref b116), (.ref b116)])) := c117.trans (by
                show SS p e below (T116.setTop (mkF m 193 #[vi p0, vi p1, vi p2, vi p3, vi p4, vi p5, vi nn, vi g0, vi g1, vi g2, vi g3, vi g4, vr b101, .unset, .unset, .unset, .unset, .unset, .unset, .unset, .unset, .unset] [(.ref b116)])) _
                refine XS.dup X116.here hx rfl (hb hby at_193) rfl rfl ?_
                refine XS.aload X116.here hx rfl (hb hby at_194) rfl rfl ?_
                exact Steps.refl _)
              have Vg119 : Arv Z h116 b101 k101 .char (4 : Int32) [.int g0, .int g1, .int g2, .int g3] (.int 0) := by
                have q := (V113.ext E116)
                rw [own_nar16 hg0c, own_nar16 hg1c, own_nar16 hg2c, own_nar16 hg3c] at q; exact q
              obtain ⟨_, _, ⟨T120, L120, kk120, nn120⟩, -, X120, ⟨Lc120, hQ120, l120, y120, z120⟩, st120⟩ := X116.specialBack hx (y := (⟨"java/lang/String", "<init>", "([C)V"⟩ : MethodName)) rfl hown (mvT hZ (ww hw 11 rfl)) (mvT hZ (ww hw 12 rfl)) (mvT hZ (ww hw 13 rfl)) (by decide) (backOf (W := 1) (rmN1_4 l Z a0 hw [] b116 b101 k101 g0 g1 g2 g3 G1 h116 n0 z116 (Nat.le_trans Z0 (Nat.le_trans K113.1 (Nat.le_of_eq g116.symm))) A116 F116_value F116_coder Vg119 hg0c hg1c hg2c hg3c sAD sHI sLO O2 P5 ((((((X00.ext E101).wr W104 (Nat.le_trans Z0 (Nat.le_trans K0.1 (Nat.le_of_eq g101.symm)))).wr W107 (Nat.le_trans Z0 (Nat.le_trans K0.1 (Nat.le_of_eq g101.symm)))).wr W110 (Nat.le_trans Z0 (Nat.le_trans K0.1 (Nat.le_of_eq g101.symm)))).wr W113 (Nat.le_trans Z0 (Nat.le_trans K0.1 (Nat.le_of_eq g101.symm)))).ext E116)) hZ (ww hw 13 rfl) (ww hw 10 rfl) (by decide) (by decide)) (g := (mkF m 196 #[vi p0, vi p1, vi p2, vi p3, vi p4, vi p5, vi nn, vi g0, vi g1, vi g2, vi g3, vi g4, vr b101, .unset, .unset, .unset, .unset, .unset, .unset, .unset, .unset, .unset] [(.ref b101), (.ref b116), (.ref b116)])) rfl (by rw [hml]; rfl) (Steps.refl _) (a := b116) (argsL := [(.ref b101)]) (rest := [(.ref b116)]) (lenOf pd_oaCcV rfl) rfl (by show 2 * 0 + _ ≤ _; exact Nat.le_of_eq rfl) (hb hby at_196) (fun _ _ => ⟨rfl, e116, (by decide : 2 + 2 ≤ _), (by decide : 8 + 12 ≤ _)⟩)
              dsimp only [Pt.U, Pt.locs, Pt.cells, Pt.slots] at X120 l120 y120 z120 st120 hQ120
              subst l120 y120 z120
              obtain ⟨t120, kb120, cd120, N2120, vs120, rfl, Nq120, Kq120, Sg120⟩ := hQ120
              have c121 : SS p e below S0 (T120.setTop (mkF m 199 #[vi p0, vi p1, vi p2, vi p3, vi p4, vi p5, vi nn, vi g0, vi g1, vi g2, vi g3, vi g4, vr b101, .unset, .unset, .unset, .unset, .unset, .unset, .unset, .unset, .unset] [(.ref b116)])) := c118.trans (st120)
              have N120 := Fr.app N113 Nq120
              have z120 : n0 ≤ T120.heap.size := Nat.le_trans z116 Kq120.1
              have K120 := K116.trans Kq120 (allS (Or.inr (Nat.le_trans K113.1 (Nat.le_of_eq g116.symm))) all0)
              have r120 : CHr Z EL s.vm h116 s.vm T120.heap := CHr.keep Kq120 (sfS sf116 sf0) R116.1
              have R120 := R116.trans r120
              have c122 : SS p e below S0 (T120.setTop (mkF m 201 #[vi p0, vi p1, vi p2, vi p3, vi p4, vi p5, vi nn, vi g0, vi g1, vi g2, vi g3, vi g4, vr b101, vr b116, .unset, .unset, .unset, .unset, .unset, .unset, .unset, .unset] [])) := c121.trans (by
                show SS p e below (T120.setTop (mkF m 199 #[vi p0, vi p1, vi p2, vi p3, vi p4, vi p5, vi nn, vi g0, vi g1, vi g2, vi g3, vi g4, vr b101, .unset, .unset, .unset, .unset, .unset, .unset, .unset, .unset, .unset] [(.ref b116)])) _
                refine XS.astore X120.here hx rfl (hb hby at_199) rfl rfl (l' := #[vi p0, vi p1, vi p2, vi p3, vi p4, vi p5, vi nn, vi g0, vi g1, vi g2, vi g3, vi g4, vr b101, vr b116, .unset, .unset, .unset, .unset, .unset, .unset, .unset, .unset]) rfl ?_
                exact Steps.refl _)
              exact ⟨_, _, T120, _, _, _, _, _, _, _, _, X120.more (by decide) (by decide), hS0, (Nat.le_trans (Nat.zero_le _) (Nat.le_trans (Nat.le_trans (Nat.le_trans (Nat.le_trans (Nat.le_trans (Nat.le_trans E101.1 (Keep.of_wr W104).1) (Keep.of_wr W107).1) (Keep.of_wr W110).1) (Keep.of_wr W113).1) E116.1) Kq120.1)), hZ, hown, R120, K120, z120, N120, (((((((X00.ext E101).wr W104 (Nat.le_trans Z0 (Nat.le_trans K0.1 (Nat.le_of_eq g101.symm)))).wr W107 (Nat.le_trans Z0 (Nat.le_trans K0.1 (Nat.le_of_eq g101.symm)))).wr W110 (Nat.le_trans Z0 (Nat.le_trans K0.1 (Nat.le_of_eq g101.symm)))).wr W113 (Nat.le_trans Z0 (Nat.le_trans K0.1 (Nat.le_of_eq g101.symm)))).ext E116).keep Kq120 (allS (Nat.le_trans Z0 (Nat.le_trans K113.1 (Nat.le_of_eq g116.symm))) all0)), (Nat.le_trans K113.1 (Nat.le_of_eq g116.symm)), by rw [own_txt, if_neg hq29, if_neg hq42, if_neg hq58, if_neg hq77, if_pos hq99]; exact Sg120, c122⟩
            · have c123 : SS p e below S0 (T24.setTop (mkF m 161 #[vi p0, vi p1, vi p2, vi p3, vi p4, vi p5, vi nn, vi g0, vi g1, vi g2, vi g3, vi g4, .unset, .unset, .unset, .unset, .unset, .unset, .unset, .unset, .unset, .unset] [(.int 5)])) := c98.trans (by
                show SS p e below (T24.setTop (mkF m 129 #[vi p0, vi p1, vi p2, vi p3, vi p4, vi p5, vi nn, vi g0, vi g1, vi g2, vi g3, vi g4, .unset, .unset, .unset, .unset, .unset, .unset, .unset, .unset, .unset, .unset] [(.int 4), (.int nn)])) _
                refine XS.icmpYes X24.here hx rfl (pc0 := 129) (pc' := 160) rfl (hb hby at_129) rfl (feq hq99).2 (by decide) (by decide) ?_
                refine XS.iconst X24.here hx rfl (hb hby at_160) ?_
                exact Steps.refl _)
              obtain ⟨T124, h124, k124, X124, e124, E124, A124, st124⟩ := newP X24 hx hZ (ww hw 7 rfl) eq24 (g := (mkF m 161 #[vi p0, vi p1, vi p2, vi p3, vi p4, vi p5, vi nn, vi g0, vi g1, vi g2, vi g3, vi g4, .unset, .unset, .unset, .unset, .unset, .unset, .unset, .unset, .unset, .unset] [(.int 5)])) rfl (hb hby at_161) rfl (by decide) (cap := 5) (by decide) (by decide) (by decide) (by decide)
              obtain ⟨b124, g124⟩ : ∃ z, z = h0.size := ⟨_, rfl⟩
              rw [← g124] at A124 st124
              have c125 : SS p e below S0 (T124.setTop (mkF m 163 #[vi p0, vi p1, vi p2, vi p3, vi p4, vi p5, vi nn, vi g0, vi g1, vi g2, vi g3, vi g4, .unset, .unset, .unset, .unset, .unset, .unset, .unset, .unset, .unset, .unset] [(.ref b124)])) := c123.trans (st124 _ (Steps.refl _))
              have z124 : n0 ≤ h124.size := Nat.le_trans Z0 E124.1
              have K124 := K0.ext E124
              have r124 : CHr Z EL s.vm h0 s.vm h124 := CHr.ext E124 R0.1
              have R124 := R0.trans r124
              have V124 : Arv Z h124 b124 k124 .char (5 : Int32) [(.int 0), (.int 0), (.int 0), (.int 0), (.int 0)] (.int 0) := (Arv.new A124 (by decide)).pad (pad_rep [] (.int 0) 5)
              have lt_b124 : b124 < h124.size := V124.lt
              have c126 : SS p e below S0 (T124.setTop (mkF m 167 #[vi p0, vi p1, vi p2, vi p3, vi p4, vi p5, vi nn, vi g0, vi g1, vi g2, vi g3, vi g4, .unset, .unset, .unset, .unset, .unset, .unset, .unset, .unset, .unset, .unset] [(.int g0), (.int 0), (.ref b124), (.ref b124)])) := c125.trans (by
                show SS p e below (T124.setTop (mkF m 163 #[vi p0, vi p1, vi p2, vi p3, vi p4, vi p5, vi nn, vi g0, vi g1, vi g2, vi g3, vi g4, .unset, .unset, .unset, .unset, .unset, .unset, .unset, .unset, .unset, .unset] [(.ref b124)])) _
                refine XS.dup X124.here hx rfl (hb hby at_163) rfl rfl ?_
                refine XS.iconst X124.here hx rfl (hb hby at_164) ?_
                refine XS.iload X124.here hx rfl (hb hby at_165) rfl ?_
                exact Steps.refl _)
              obtain ⟨cl127, Ar127, q127, S127, Nn127, Ha127, G127⟩ := id V124
              obtain ⟨T127, h127, X127, e127, W127, st127⟩ := stC X124 hx hZ e124 Ar127 (j := (0 : Int32)) (inb_of S127 ⟨by decide, by decide⟩) (g := (mkF m 167 #[vi p0, vi p1, vi p2, vi p3, vi p4, vi p5, vi nn, vi g0, vi g1, vi g2, vi g3, vi g4, .unset, .unset, .unset, .unset, .unset, .unset, .unset, .unset, .unset, .unset] [(.int g0), (.int 0), (.ref b124), (.ref b124)])) rfl rfl (hb hby at_167)
              have V127 : Arv Z h127 b124 k124 .char (5 : Int32) [(.int (nar .char g0)), (.int 0), (.int 0), (.int 0), (.int 0)] (.int 0) := Arv.set Ar127 q127 S127 Nn127 Ha127 G127 (fits_nar_char _) W127 0 rfl (Nat.le_of_ble_eq_true rfl)
              have c128 : SS p e below S0 (T127.setTop (mkF m 168 #[vi p0, vi p1, vi p2, vi p3, vi p4, vi p5, vi nn, vi g0, vi g1, vi g2, vi g3, vi g4, .unset, .unset, .unset, .unset, .unset, .unset, .unset, .unset, .unset, .unset] [(.ref b124)])) := c126.trans (st127 _ (Steps.refl _))
              have N127 := Fr.snoc X127 N24 (Nat.le_trans Z0 (Nat.le_trans K0.1 (Nat.le_of_eq g124.symm)))
              have z127 : n0 ≤ h127.size := Nat.le_trans z124 (Keep.of_wr W127).1
              have K127 := K124.wr W127 (Or.inr (Nat.le_trans K0.1 (Nat.le_of_eq g124.symm)))
              have r127 : CHr Z EL s.vm h124 s.vm h127 := CHr.wr W127 (Safe.arv hZ.alike V124 (by decide)) R124.1
              have R127 := R124.trans r127
              have c129 : SS p e below S0 (T127.setTop (mkF m 172 #[vi p0, vi p1, vi p2, vi p3, vi p4, vi p5, vi nn, vi g0, vi g1, vi g2, vi g3, vi g4, .unset, .unset, .unset, .unset, .unset, .unset, .unset, .unset, .unset, .unset] [(.int g1), (.int 1), (.ref b124), (.ref b124)])) := c128.trans (by
                show SS p e below (T127.setTop (mkF m 168 #[vi p0, vi p1, vi p2, vi p3, vi p4, vi p5, vi nn, vi g0, vi g1, vi g2, vi g3, vi g4, .unset, .unset, .unset, .unset, .unset, .unset, .unset, .unset, .unset, .unset] [(.ref b124)])) _
                refine XS.dup X127.here hx rfl (hb hby at_168) rfl rfl ?_
                refine XS.iconst X127.here hx rfl (hb hby at_169) ?_
                refine XS.iload X127.here hx rfl (hb hby at_170) rfl ?_
                exact Steps.refl _)
              obtain ⟨cl130, Ar130, q130, S130, Nn130, Ha130, G130⟩ := id V127
              obtain ⟨T130, h130, X130, e130, W130, st130⟩ := stC X127 hx hZ e127 Ar130 (j := (1 : Int32)) (inb_of S130 ⟨by decide, by decide⟩) (g := (mkF m 172 #[vi p0, vi p1, vi p2, vi p3, vi p4, vi p5, vi nn, vi g0, vi g1, vi g2, vi g3, vi g4, .unset, .unset, .unset, .unset, .unset, .unset, .unset, .unset, .unset, .unset] [(.int g1), (.int 1), (.ref b124), (.ref b124)])) rfl rfl (hb hby at_172)
              have V130 : Arv Z h130 b124 k124 .char (5 : Int32) [(.int (nar .char g0)), (.int (nar .char g1)), (.int 0), (.int 0), (.int 0)] (.int 0) := Arv.set Ar130 q130 S130 Nn130 Ha130 G130 (fits_nar_char _) W130 1 rfl (Nat.le_of_ble_eq_true rfl)
              have c131 : SS p e below S0 (T130.setTop (mkF m 173 #[vi p0, vi p1, vi p2, vi p3, vi p4, vi p5, vi nn, vi g0, vi g1, vi g2, vi g3, vi g4, .unset, .unset, .unset, .unset, .unset, .unset, .unset, .unset, .unset, .unset] [(.ref b124)])) := c129.trans (st130 _ (Steps.refl _))
              have N130 := Fr.snoc X130 N127 (Nat.le_trans Z0 (Nat.le_trans K0.1 (Nat.le_of_eq g124.symm)))
              have z130 : n0 ≤ h130.size := Nat.le_trans z127 (Keep.of_wr W130).1
              have K130 := K127.wr W130 (Or.inr (Nat.le_trans K0.1 (Nat.le_of_eq g124.symm)))
              have r130 : CHr Z EL s.vm h127 s.vm h130 := CHr.wr W130 (Safe.arv hZ.alike V127 (by decide)) R127.1
              have R130 := R127.trans r130
              have c132 : SS p e below S0 (T130.setTop (mkF m 177 #[vi p0, vi p1, vi p2, vi p3, vi p4, vi p5, vi nn, vi g0, vi g1, vi g2, vi g3, vi g4, .unset, .unset, .unset, .unset, .unset, .unset, .unset, .unset, .unset, .unset] [(.int g2), (.int 2), (.ref b124), (.ref b124)])) := c131.trans (by
                show SS p e below (T130.setTop (mkF m 173 #[vi p0, vi p1, vi p2, vi p3, vi p4, vi p5, vi nn, vi g0, vi g1, vi g2, vi g3, vi g4, .unset, .unset, .unset, .unset, .unset, .unset, .unset, .unset, .unset, .unset] [(.ref b124)])) _
                refine XS.dup X130.here hx rfl (hb hby at_173) rfl rfl ?_
                refine XS.iconst X130.here hx rfl (hb hby at_174) ?_
                refine XS.iload X130.here hx rfl (hb hby at_175) rfl ?_
                exact Steps.refl _)
              obtain ⟨cl133, Ar133, q133, S133, Nn133, Ha133, G133⟩ := id V130
              obtain ⟨T133, h133, X133, e133, W133, st133⟩ := stC X130 hx hZ e130 Ar133 (j := (2 : Int32)) (inb_of S133 ⟨by decide, by decide⟩) (g := (mkF m 177 #[vi p0, vi p1, vi p2, vi p3, vi p4, vi p5, vi nn, vi g0, vi g1, vi g2, vi g3, vi g4, .unset, .unset, .unset, .unset, .unset, .unset, .unset, .unset, .unset, .unset] [(.int g2), (.int 2), (.ref b124), (.ref b124)])) rfl rfl (hb hby at_177)
              have V133 : Arv Z h133 b124 k124 .char (5 : Int32) [(.int (nar .char g0)), (.int (nar .char g1)), (.int (nar .char g2)), (.int 0), (.int 0)] (.int 0) := Arv.set Ar133 q133 S133 Nn133 Ha133 G133 (fits_nar_char _) W133 2 rfl (Nat.le_of_ble_eq_true rfl)
              have c134 : SS p e below S0 (T133.setTop (mkF m 178 #[vi p0, vi p1, vi p2, vi p3, vi p4, vi p5, vi nn, vi g0, vi g1, vi g2, vi g3, vi g4, .unset, .unset, .unset, .unset, .unset, .unset, .unset, .unset, .unset, .unset] [(.ref b124)])) := c132.trans (st133 _ (Steps.refl _))
              have N133 := Fr.snoc X133 N130 (Nat.le_trans Z0 (Nat.le_trans K0.1 (Nat.le_of_eq g124.symm)))
              have z133 : n0 ≤ h133.size := Nat.le_trans z130 (Keep.of_wr W133).1
              have K133 := K130.wr W133 (Or.inr (Nat.le_trans K0.1 (Nat.le_of_eq g124.symm)))
              have r133 : CHr Z EL s.vm h130 s.vm h133 := CHr.wr W133 (Safe.arv hZ.alike V130 (by decide)) R130.1
              have R133 := R130.trans r133
              have c135 : SS p e below S0 (T133.setTop (mkF m 182 #[vi p0, vi p1, vi p2, vi p3, vi p4, vi p5, vi nn, vi g0, vi g1, vi g2, vi g3, vi g4, .unset, .unset, .unset, .unset, .unset, .unset, .unset, .unset, .unset, .unset] [(.int g3), (.int 3), (.ref b124), (.ref b124)])) := c134.trans (by
                show SS p e below (T133.setTop (mkF m 178 #[vi p0, vi p1, vi p2, vi p3, vi p4, vi p5, vi nn, vi g0, vi g1, vi g2, vi g3, vi g4, .unset, .unset, .unset, .unset, .unset, .unset, .unset, .unset, .unset, .unset] [(.ref b124)])) _
                refine XS.dup X133.here hx rfl (hb hby at_178) rfl rfl ?_
                refine XS.iconst X133.here hx rfl (hb hby at_179) ?_
                refine XS.iload X133.here hx rfl (hb hby at_180) rfl ?_
                exact Steps.refl _)
              obtain ⟨cl136, Ar136, q136, S136, Nn136, Ha136, G136⟩ := id V133
              obtain ⟨T136, h136, X136, e136, W136, st136⟩ := stC X133 hx hZ e133 Ar136 (j := (3 : Int32)) (inb_of S136 ⟨by decide, by decide⟩) (g := (mkF m 182 #[vi p0, vi p1, vi p2, vi p3, vi p4, vi p5, vi nn, vi g0, vi g1, vi g2, vi g3, vi g4, .unset, .unset, .unset, .unset, .unset, .unset, .unset, .unset, .unset, .unset] [(.int g3), (.int 3), (.ref b124), (.ref b124)])) rfl rfl (hb hby at_182)
              have V136 : Arv Z h136 b124 k124 .char (5 : Int32) [(.int (nar .char g0)), (.int (nar .char g1)), (.int (nar .char g2)), (.int (nar .char g3)), (.int 0)] (.int 0) := Arv.set Ar136 q136 S136 Nn136 Ha136 G136 (fits_nar_char _) W136 3 rfl (Nat.le_of_ble_eq_true rfl)
              have c137 : SS p e below S0 (T136.setTop (mkF m 183 #[vi p0, vi p1, vi p2, vi p3, vi p4, vi p5, vi nn, vi g0, vi g1, vi g2, vi g3, vi g4, .unset, .unset, .unset, .unset, .unset, .unset, .unset, .unset, .unset, .unset] [(.ref b124)])) := c135.trans (st136 _ (Steps.refl _))
              have N136 := Fr.snoc X136 N133 (Nat.le_trans Z0 (Nat.le_trans K0.1 (Nat.le_of_eq g124.symm)))
              have z136 : n0 ≤ h136.size := Nat.le_trans z133 (Keep.of_wr W136).1
              have K136 := K133.wr W136 (Or.inr (Nat.le_trans K0.1 (Nat.le_of_eq g124.symm)))
              have r136 : CHr Z EL s.vm h133 s.vm h136 := CHr.wr W136 (Safe.arv hZ.alike V133 (by decide)) R133.1
              have R136 := R133.trans r136
              have c138 : SS p e below S0 (T136.setTop (mkF m 187 #[vi p0, vi p1, vi p2, vi p3, vi p4, vi p5, vi nn, vi g0, vi g1, vi g2, vi g3, vi g4, .unset, .unset, .unset, .unset, .unset, .unset, .unset, .unset, .unset, .unset] [(.int g4), (.int 4), (.ref b124), (.ref b124)])) := c137.trans (by
                show SS p e below (T136.setTop (mkF m 183 #[vi p0, vi p1, vi p2, vi p3, vi p4, vi p5, vi nn, vi g0, vi g1, vi g2, vi g3, vi g4, .unset, .unset, .unset, .unset, .unset, .unset, .unset, .unset, .unset, .unset] [(.ref b124)])) _
                refine XS.dup X136.here hx rfl (hb hby at_183) rfl rfl ?_
                refine XS.iconst X136.here hx rfl (hb hby at_184) ?_
                refine XS.iload X136.here hx rfl (hb hby at_185) rfl ?_
                exact Steps.refl _)
              obtain ⟨cl139, Ar139, q139, S139, Nn139, Ha139, G139⟩ := id V136
              obtain ⟨T139, h139, X139, e139, W139, st139⟩ := stC X136 hx hZ e136 Ar139 (j := (4 : Int32)) (inb_of S139 ⟨by decide, by decide⟩) (g := (mkF m 187 #[vi p0, vi p1, vi p2, vi p3, vi p4, vi p5, vi nn, vi g0, vi g1, vi g2, vi g3, vi g4, .unset, .unset, .unset, .unset, .unset, .unset, .unset, .unset, .unset, .unset] [(.int g4), (.int 4), (.ref b124), (.ref b124)])) rfl rfl (hb hby at_187)
              have V139 : Arv Z h139 b124 k124 .char (5 : Int32) [(.int (nar .char g0)), (.int (nar .char g1)), (.int (nar .char g2)), (.int (nar .char g3)), (.int (nar .char g4))] (.int 0) := Arv.set Ar139 q139 S139 Nn139 Ha139 G139 (fits_nar_char _) W139 4 rfl (Nat.le_of_ble_eq_true rfl)
              have c140 : SS p e below S0 (T139.setTop (mkF m 188 #[vi p0, vi p1, vi p2, vi p3, vi p4, vi p5, vi nn, vi g0, vi g1, vi g2, vi g3, vi g4, .unset, .unset, .unset, .unset, .unset, .unset, .unset, .unset, .unset, .unset] [(.ref b124)])) := c138.trans (st139 _ (Steps.refl _))
              have N139 := Fr.snoc X139 N136 (Nat.le_trans Z0 (Nat.le_trans K0.1 (Nat.le_of_eq g124.symm)))
              have z139 : n0 ≤ h139.size := Nat.le_trans z136 (Keep.of_wr W139).1
              have K139 := K136.wr W139 (Or.inr (Nat.le_trans K0.1 (Nat.le_of_eq g124.symm)))
              have r139 : CHr Z EL s.vm h136 s.vm h139 := CHr.wr W139 (Safe.arv hZ.alike V136 (by decide)) R136.1
              have R139 := R136.trans r139
              have c141 : SS p e below S0 (T139.setTop (mkF m 190 #[vi p0, vi p1, vi p2, vi p3, vi p4, vi p5, vi nn, vi g0, vi g1, vi g2, vi g3, vi g4, vr b124, .unset, .unset, .unset, .unset, .unset, .unset, .unset, .unset, .unset] [])) := c140.trans (by
                show SS p e below (T139.setTop (mkF m 188 #[vi p0, vi p1, vi p2, vi p3, vi p4, vi p5, vi nn, vi g0, vi g1, vi g2, vi g3, vi g4, .unset, .unset, .unset, .unset, .unset, .unset, .unset, .unset, .unset, .unset] [(.ref b124)])) _
                refine XS.astore X139.here hx rfl (hb hby at_188) rfl rfl (l' := #[vi p0, vi p1, vi p2, vi p3, vi p4, vi p5, vi nn, vi g0, vi g1, vi g2, vi g3, vi g4, vr b124, .unset, .unset, .unset, .unset, .unset, .unset, .unset, .unset, .unset]) rfl ?_
                exact Steps.refl _)
              obtain ⟨T142, h142, X142, e142, E142, A142, D142, -, st142⟩ := newO X139 hx hZ hown (ww hw 8 rfl) (ww hw 9 rfl) (ww hw 10 rfl) e139 (g := (mkF m 190 #[vi p0, vi p1, vi p2, vi p3, vi p4, vi p5, vi nn, vi g0, vi g1, vi g2, vi g3, vi g4, vr b124, .unset, .unset, .unset, .unset, .unset, .unset, .unset, .unset, .unset] [])) rfl (hb hby at_190) (by decide) (by decide)
              obtain ⟨b142, g142⟩ : ∃ z, z = h139.size := ⟨_, rfl⟩
              rw [← g142] at A142 D142 st142
              have sn142 : Safe Z EL s.vm h139 b142 := Safe.new (Nat.le_of_eq g142.symm)
              have c143 : SS p e below S0 (T142.setTop (mkF m 193 #[vi p0, vi p1, vi p2, vi p3, vi p4, vi p5, vi nn, vi g0, vi g1, vi g2, vi g3, vi g4, vr b124, .unset, .unset, .unset, .unset, .unset, .unset, .unset, .unset, .unset] [(.ref b142)])) := c141.trans (st142 _ (Steps.refl _))
              have z142 : n0 ≤ h142.size := Nat.le_trans z139 E142.1
              have K142 := K139.ext E142
              have r142 : CHr Z EL s.vm h139 s.vm h142 := CHr.ext E142 R139.1
              have R142 := R139.trans r142
              have lt_b142 : b142 < h142.size := A142.lt
              have sf142 : Safe Z EL s.vm h142 b142 := Safe.ext E142 R139.1 sn142
              have F142_value : Fld Z h142 b142 "java/lang/String" "value" "[B" .null := D142 (Or.inr (ww hw 23 rfl)) (ty := (.array .byte)) (by decide)
              have F142_coder : Fld Z h142 b142 "java/lang/String" "coder" "B" (.int 0) := D142 (Or.inr (ww hw 24 rfl)) (ty := .byte) (by decide)
              have c144 : SS p e below S0 (T142.setTop (mkF m 196 #[vi p0, vi p1, vi p2, vi p3, vi p4, vi p5, vi nn, vi g0, vi g1, vi g2, vi g3, vi g4, vr b124, .unset, .unset, .unset, .unset, .unset, .unset, .unset, .unset, .unset] [(.ref b124), (.ref b142), (.ref b142)])) := c143.trans (by
                show SS p e below (T142.setTop (mkF m 193 #[vi p0, vi p1, vi p2, vi p3, vi p4, vi p5, vi nn, vi g0, vi g1, vi g2, vi g3, vi g4, vr b124, .unset, .unset, .unset, .unset, .unset, .unset, .unset, .unset, .unset] [(.ref b142)])) _
                refine XS.dup X142.here hx rfl (hb hby at_193) rfl rfl ?_
                refine XS.aload X142.here hx rfl (hb hby at_194) rfl rfl ?_
                exact Steps.refl _)
              have Vg145 : Arv Z h142 b124 k124 .char (5 : Int32) [.int g0, .int g1, .int g2, .int g3, .int g4] (.int 0) := by
                have q := (V139.ext E142)
                rw [own_nar16 hg0c, own_nar16 hg1c, own_nar16 hg2c, own_nar16 hg3c, own_nar16 hg4c] at q; exact q
              obtain ⟨_, _, ⟨T146, L146, kk146, nn146⟩, -, X146, ⟨Lc146, hQ146, l146, y146, z146⟩, st146⟩ := X142.specialBack hx (y := (⟨"java/lang/String", "<init>", "([C)V"⟩ : MethodName)) rfl hown (mvT hZ (ww hw 11 rfl)) (mvT hZ (ww hw 12 rfl)) (mvT hZ (ww hw 13 rfl)) (by decide) (backOf (W := 1) (rmN1_5 l Z a0 hw [] b142 b124 k124 g0 g1 g2 g3 g4 G1 h142 n0 z142 (Nat.le_trans Z0 (Nat.le_trans K139.1 (Nat.le_of_eq g142.symm))) A142 F142_value F142_coder Vg145 hg0c hg1c hg2c hg3c hg4c sAD sHI sLO O2 P5 (((((((X00.ext E124).wr W127 (Nat.le_trans Z0 (Nat.le_trans K0.1 (Nat.le_of_eq g124.symm)))).wr W130 (Nat.le_trans Z0 (Nat.le_trans K0.1 (Nat.le_of_eq g124.symm)))).wr W133 (Nat.le_trans Z0 (Nat.le_trans K0.1 (Nat.le_of_eq g124.symm)))).wr W136 (Nat.le_trans Z0 (Nat.le_trans K0.1 (Nat.le_of_eq g124.symm)))).wr W139 (Nat.le_trans Z0 (Nat.le_trans K0.1 (Nat.le_of_eq g124.symm)))).ext E142)) hZ (ww hw 13 rfl) (ww hw 10 rfl) (by decide) (by decide)) (g := (mkF m 196 #[vi p0, vi p1, vi p2, vi p3, vi p4, vi p5, vi nn, vi g0, vi g1, vi g2, vi g3, vi g4, vr b124, .unset, .unset, .unset, .unset, .unset, .unset, .unset, .unset, .unset] [(.ref b124), (.ref b142), (.ref b142)])) rfl (by rw [hml]; rfl) (Steps.refl _) (a := b142) (argsL := [(.ref b124)]) (rest := [(.ref b142)]) (lenOf pd_oaCcV rfl) rfl (by show 2 * 0 + _ ≤ _; exact Nat.le_of_eq rfl) (hb hby at_196) (fun _ _ => ⟨rfl, e142, (by decide : 2 + 2 ≤ _), (by decide : 9 + 15 ≤ _)⟩)
              dsimp only [Pt.U, Pt.locs, Pt.cells, Pt.slots] at X146 l146 y146 z146 st146 hQ146
              subst l146 y146 z146
              obtain ⟨t146, kb146, cd146, N2146, vs146, rfl, Nq146, Kq146, Sg146⟩ := hQ146
              have c147 : SS p e below S0 (T146.setTop (mkF m 199 #[vi p0, vi p1, vi p2, vi p3, vi p4, vi p5, vi nn, vi g0, vi g1, vi g2, vi g3, vi g4, vr b124, .unset, .unset, .unset, .unset, .unset, .unset, .unset, .unset, .unset] [(.ref b142)])) := c144.trans (st146)
              have N146 := Fr.app N139 Nq146
              have z146 : n0 ≤ T146.heap.size := Nat.le_trans z142 Kq146.1
              have K146 := K142.trans Kq146 (allS (Or.inr (Nat.le_trans K139.1 (Nat.le_of_eq g142.symm))) all0)
              have r146 : CHr Z EL s.vm h142 s.vm T146.heap := CHr.keep Kq146 (sfS sf142 sf0) R142.1
              have R146 := R142.trans r146
              have c148 : SS p e below S0 (T146.setTop (mkF m 201 #[vi p0, vi p1, vi p2, vi p3, vi p4, vi p5, vi nn, vi g0, vi g1, vi g2, vi g3, vi g4, vr b124, vr b142, .unset, .unset, .unset, .unset, .unset, .unset, .unset, .unset] [])) := c147.trans (by
                show SS p e below (T146.setTop (mkF m 199 #[vi p0, vi p1, vi p2, vi p3, vi p4, vi p5, vi nn, vi g0, vi g1, vi g2, vi g3, vi g4, vr b124, .unset, .unset, .unset, .unset, .unset, .unset, .unset, .unset, .unset] [(.ref b142)])) _
                refine XS.astore X146.here hx rfl (hb hby at_199) rfl rfl (l' := #[vi p0, vi p1, vi p2, vi p3, vi p4, vi p5, vi nn, vi g0, vi g1, vi g2, vi g3, vi g4, vr b124, vr b142, .unset, .unset, .unset, .unset, .unset, .unset, .unset, .unset]) rfl ?_
                exact Steps.refl _)
              exact ⟨_, _, T146, _, _, _, _, _, _, _, _, X146.more (by decide) (by decide), hS0, (Nat.le_trans (Nat.zero_le _) (Nat.le_trans (Nat.le_trans (Nat.le_trans (Nat.le_trans (Nat.le_trans (Nat.le_trans (Nat.le_trans E124.1 (Keep.of_wr W127).1) (Keep.of_wr W130).1) (Keep.of_wr W133).1) (Keep.of_wr W136).1) (Keep.of_wr W139).1) E142.1) Kq146.1)), hZ, hown, R146, K146, z146, N146, ((((((((X00.ext E124).wr W127 (Nat.le_trans Z0 (Nat.le_trans K0.1 (Nat.le_of_eq g124.symm)))).wr W130 (Nat.le_trans Z0 (Nat.le_trans K0.1 (Nat.le_of_eq g124.symm)))).wr W133 (Nat.le_trans Z0 (Nat.le_trans K0.1 (Nat.le_of_eq g124.symm)))).wr W136 (Nat.le_trans Z0 (Nat.le_trans K0.1 (Nat.le_of_eq g124.symm)))).wr W139 (Nat.le_trans Z0 (Nat.le_trans K0.1 (Nat.le_of_eq g124.symm)))).ext E142).keep Kq146 (allS (Nat.le_trans Z0 (Nat.le_trans K139.1 (Nat.le_of_eq g142.symm))) all0)), (Nat.le_trans K139.1 (Nat.le_of_eq g142.symm)), by rw [own_txt, if_neg hq29, if_neg hq42, if_neg hq58, if_neg hq77, if_neg hq99]; exact Sg146, c148⟩
  have lt_xj := Sgj.1.lt
  have htl : Int32.ofNat (own_txt nn g0 g1 g2 g3 g4).length = nn := own_txtlen l6
  have c149 : SS p e below S0 (Tj.setTop (mkF m 206 #[vi p0, vi p1, vi p2, vi p3, vi p4, vi p5, vi nn, vi g0, vi g1, vi g2, vi g3, vi g4, vr bj, vr xj, .unset, .unset, .unset, .unset, .unset, .unset, .unset, .unset] [(.int nn), (.int 0), (.int g0)])) := cj.trans (by
    show SS p e below (Tj.setTop (mkF m 201 #[vi p0, vi p1, vi p2, vi p3, vi p4, vi p5, vi nn, vi g0, vi g1, vi g2, vi g3, vi g4, vr bj, vr xj, .unset, .unset, .unset, .unset, .unset, .unset, .unset, .unset] [])) _
    refine XS.iload Xj.here hx rfl (hb hby at_201) rfl ?_
    refine XS.iconst Xj.here hx rfl (hb hby at_203) ?_
    refine XS.iload Xj.here hx rfl (hb hby at_204) rfl ?_
    exact Steps.refl _)
  obtain ⟨_, _, ⟨T150, L150, kk150, nn150⟩, -, X150, ⟨Lc150, hQ150, l150, y150, z150⟩, st150⟩ := Jvm.LawKit.callS Xj hx (y := (⟨"com/example/pricefold/pricefold/model/DecimalTextReadPinLaw", "odd", "(CII)Z"⟩ : MethodName)) hownj (mvT hZj (ww hw 29 rfl)) (mvT hZj (ww hw 30 rfl)) (mvT hZj (ww hw 3 rfl)) (mvT hZj (ww hw 31 rfl)) (by decide) (backOf (W := 0) (rm_odd l Z a0 hw [] g0 (0 : Int32) nn Tj.heap n0 zj ) hZj (ww hw 31 rfl) (ww hw 3 rfl) (by decide) (by decide)) (g := (mkF m 206 #[vi p0, vi p1, vi p2, vi p3, vi p4, vi p5, vi nn, vi g0, vi g1, vi g2, vi g3, vi g4, vr bj, vr xj, .unset, .unset, .unset, .unset, .unset, .unset, .unset, .unset] [(.int nn), (.int 0), (.int g0)])) rfl (by rw [hml]; rfl) (argsL := [(.int g0), (.int 0), (.int nn)]) (rest := []) (lenOf pd_oCIIcZ rfl) rfl (by show 2 * 0 + _ ≤ _; exact Nat.le_of_eq rfl) (hb hby at_206) (fun _ _ => ⟨rfl, rfl, (by decide : 6 + 0 ≤ _), (by decide : 24 + 0 ≤ _)⟩)
  dsimp only [Pt.U, Pt.locs, Pt.cells, Pt.slots] at X150 l150 y150 z150 st150 hQ150
  subst l150 y150 z150
  obtain ⟨rfl, Nq150, eq150⟩ := hQ150
  have c151 : SS p e below S0 (T150.setTop (mkF m 209 #[vi p0, vi p1, vi p2, vi p3, vi p4, vi p5, vi nn, vi g0, vi g1, vi g2, vi g3, vi g4, vr bj, vr xj, .unset, .unset, .unset, .unset, .unset, .unset, .unset, .unset] [(.int (own_odd g0 (0 : Int32) nn))])) := c149.trans (st150 _ (Steps.refl _))
  have N150 := Fr.app NNj Nq150
  obtain ⟨bad, T153, l153, hbad, N153, X153, e153, c153⟩ : ∃ (bad : Int32) (T : State) (locs : List Loc), bad = (if (own_odd g0 (0 : Int32) nn) = (0 : Int32) then (if (own_odd g1 (1 : Int32) nn) = (0 : Int32) then (if (own_odd g2 (2 : Int32) nn) = (0 : Int32) then (if (own_odd g3 (3 : Int32) nn) = (0 : Int32) then (if (own_odd g4 (4 : Int32) nn) = (0 : Int32) then (0 : Int32) else (1 : Int32)) else (1 : Int32)) else (1 : Int32)) else (1 : Int32)) else (1 : Int32)) ∧ Fr n0 locs ∧ Stand p l e room_1 (s.setVm vmj) m #[(.int p0), (.int p1), (.int p2), (.int p3), (.int p4), (.int p5)] below meth c T locs 6 24 ∧ T.heap = Tj.heap ∧ SS p e below S0 (T.setTop (mkF m 261 #[vi p0, vi p1, vi p2, vi p3, vi p4, vi p5, vi nn, vi g0, vi g1, vi g2, vi g3, vi g4, vr bj, vr xj, .unset, .unset, .unset, .unset, .unset, .unset, .unset, .unset] [(.int bad)])) := by
    by_cases hq154 : (own_odd g0 (0 : Int32) nn) = (0 : Int32)
    · have c155 : SS p e below S0 (T150.setTop (mkF m 217 #[vi p0, vi p1, vi p2, vi p3, vi p4, vi p5, vi nn, vi g0, vi g1, vi g2, vi g3, vi g4, vr bj, vr xj, .unset, .unset, .unset, .unset, .unset, .unset, .unset, .unset] [(.int nn), (.int 1), (.int g1)])) := c151.trans (by
        show SS p e below (T150.setTop (mkF m 209 #[vi p0, vi p1, vi p2, vi p3, vi p4, vi p5, vi nn, vi g0, vi g1, vi g2, vi g3, vi g4, vr bj, vr xj, .unset, .unset, .unset, .unset, .unset, .unset, .unset, .unset] [(.int (own_odd g0 (0 : Int32) nn))])) _
        refine XS.ifNo X150.here hx rfl (hb hby at_209) rfl ((if0 _ _).trans (teq hq154).2) ?_
        refine XS.iload X150.here hx rfl (hb hby at_212) rfl ?_
        refine XS.iconst X150.here hx rfl (hb hby at_214) ?_
        refine XS.iload X150.here hx rfl (hb hby at_215) rfl ?_
        exact Steps.refl _)
      obtain ⟨_, _, ⟨T156, L156, kk156, nn156⟩, -, X156, ⟨Lc156, hQ156, l156, y156, z156⟩, st156⟩ := Jvm.LawKit.callS X150 hx (y := (⟨"com/example/pricefold/pricefold/model/DecimalTextReadPinLaw", "odd", "(CII)Z"⟩ : MethodName)) hownj (mvT hZj (ww hw 29 rfl)) (mvT hZj (ww hw 30 rfl)) (mvT hZj (ww hw 3 rfl)) (mvT hZj (ww hw 31 rfl)) (by decide) (backOf (W := 0) (rm_odd l Z a0 hw [] g1 (1 : Int32) nn Tj.heap n0 zj ) hZj (ww hw 31 rfl) (ww hw 3 rfl) (by decide) (by decide)) (g := (mkF m 217 #[vi p0, vi p1, vi p2, vi p3, vi p4, vi p5, vi nn, vi g0, vi g1, vi g2, vi g3, vi g4, vr bj, vr xj, .unset, .unset, .unset, .unset, .unset, .unset, .unset, .unset] [(.int nn), (.int 1), (.int g1)])) rfl (by rw [hml]; rfl) (argsL := [(.int g1), (.int 1), (.int nn)]) (rest := []) (lenOf pd_oCIIcZ rfl) rfl (by show 2 * 0 + _ ≤ _; exact Nat.le_of_eq rfl) (hb hby at_217) (fun _ _ => ⟨rfl, eq150, (by decide : 6 + 0 ≤ _), (by decide : 24 + 0 ≤ _)⟩)
      dsimp only [Pt.U, Pt.locs, Pt.cells, Pt.slots] at X156 l156 y156 z156 st156 hQ156
      subst l156 y156 z156
      obtain ⟨rfl, Nq156, eq156⟩ := hQ156
      have c157 : SS p e below S0 (T156.setTop (mkF m 220 #[vi p0, vi p1, vi p2, vi p3, vi p4, vi p5, vi nn, vi g0, vi g1, vi g2, vi g3, vi g4, vr bj, vr xj, .unset, .unset, .unset, .unset, .unset, .unset, .unset, .unset] [(.int (own_odd g1 (1 : Int32) nn))])) := c155.trans (st156 _ (Steps.refl _))
      have N156 := Fr.app N150 Nq156
      by_cases hq158 : (own_odd g1 (1 : Int32) nn) = (0 : Int32)
      · have c159 : SS p e below S0 (T156.setTop (mkF m 228 #[vi p0, vi p1, vi p2, vi p3, vi p4, vi p5, vi nn, vi g0, vi g1, vi g2, vi g3, vi g4, vr bj, vr xj, .unset, .unset, .unset, .unset, .unset, .unset, .unset, .unset] [(.int nn), (.int 2), (.int g2)])) := c157.trans (by
          show SS p e below (T156.setTop (mkF m 220 #[vi p0, vi p1, vi p2, vi p3, vi p4, vi p5, vi nn, vi g0, vi g1, vi g2, vi g3, vi g4, vr bj, vr xj, .unset, .unset, .unset, .unset, .unset, .unset, .unset, .unset] [(.int (own_odd g1 (1 : Int32) nn))])) _
          refine XS.ifNo X156.here hx rfl (hb hby at_220) rfl ((if0 _ _).trans (teq hq158).2) ?_
          refine XS.iload X156.here hx rfl (hb hby at_223) rfl ?_
          refine XS.iconst X156.here hx rfl (hb hby at_225) ?_
          refine XS.iload X156.here hx rfl (hb hby at_226) rfl ?_
          exact Steps.refl _)
        obtain ⟨_, _, ⟨T160, L160, kk160, nn160⟩, -, X160, ⟨Lc160, hQ160, l160, y160, z160⟩, st160⟩ := Jvm.LawKit.callS X156 hx (y := (⟨"com/example/pricefold/pricefold/model/DecimalTextReadPinLaw", "odd", "(CII)Z"⟩ : MethodName)) hownj (mvT hZj (ww hw 29 rfl)) (mvT hZj (ww hw 30 rfl)) (mvT hZj (ww hw 3 rfl)) (mvT hZj (ww hw 31 rfl)) (by decide) (backOf (W := 0) (rm_odd l Z a0 hw [] g2 (2 : Int32) nn Tj.heap n0 zj ) hZj (ww hw 31 rfl) (ww hw 3 rfl) (by decide) (by decide)) (g := (mkF m 228 #[vi p0, vi p1, vi p2, vi p3, vi p4, vi p5, vi nn, vi g0, vi g1, vi g2, vi g3, vi g4, vr bj, vr xj, .unset, .unset, .unset, .unset, .unset, .unset, .unset, .unset] [(.int nn), (.int 2), (.int g2)])) rfl (by rw [hml]; rfl) (argsL := [(.int g2), (.int 2), (.int nn)]) (rest := []) (lenOf pd_oCIIcZ rfl) rfl (by show 2 * 0 + _ ≤ _; exact Nat.le_of_eq rfl) (hb hby at_228) (fun _ _ => ⟨rfl, eq156, (by decide : 6 + 0 ≤ _), (by decide : 24 + 0 ≤ _)⟩)
        dsimp only [Pt.U, Pt.locs, Pt.cells, Pt.slots] at X160 l160 y160 z160 st160 hQ160
        subst l160 y160 z160
        obtain ⟨rfl, Nq160, eq160⟩ := hQ160
        have c161 : SS p e below S0 (T160.setTop (mkF m 231 #[vi p0, vi p1, vi p2, vi p3, vi p4, vi p5, vi nn, vi g0, vi g1, vi g2, vi g3, vi g4, vr bj, vr xj, .unset, .unset, .unset, .unset, .unset, .unset, .unset, .unset] [(.int (own_odd g2 (2 : Int32) nn))])) := c159.trans (st160 _ (Steps.refl _))
        have N160 := Fr.app N156 Nq160
        by_cases hq162 : (own_odd g2 (2 : Int32) nn) = (0 : Int32)
        · have c163 : SS p e below S0 (T160.setTop (mkF m 239 #[vi p0, vi p1, vi p2, vi p3, vi p4, vi p5, vi nn, vi g0, vi g1, vi g2, vi g3, vi g4, vr bj, vr xj, .unset, .unset, .unset, .unset, .unset, .unset, .unset, .unset] [(.int nn), (.int 3), (.int g3)])) := c161.trans (by
            show SS p e below (T160.setTop (mkF m 231 #[vi p0, vi p1, vi p2, vi p3, vi p4, vi p5, vi nn, vi g0, vi g1, vi g2, vi g3, vi g4, vr bj, vr xj, .unset, .unset, .unset, .unset, .unset, .unset, .unset, .unset] [(.int (own_odd g2 (2 : Int32) nn))])) _
            refine XS.ifNo X160.here hx rfl (hb hby at_231) rfl ((if0 _ _).trans (teq hq162).2) ?_
            refine XS.iload X160.here hx rfl (hb hby at_234) rfl ?_
            refine XS.iconst X160.here hx rfl (hb hby at_236) ?_
            refine XS.iload X160.here hx rfl (hb hby at_237) rfl ?_
            exact Steps.refl _)
          obtain ⟨_, _, ⟨T164, L164, kk164, nn164⟩, -, X164, ⟨Lc164, hQ164, l164, y164, z164⟩, st164⟩ := Jvm.LawKit.callS X160 hx (y := (⟨"com/example/pricefold/pricefold/model/DecimalTextReadPinLaw", "odd", "(CII)Z"⟩ : MethodName)) hownj (mvT hZj (ww hw 29 rfl)) (mvT hZj (ww hw 30 rfl)) (mvT hZj (ww hw 3 rfl)) (mvT hZj (ww hw 31 rfl)) (by decide) (backOf (W := 0) (rm_odd l Z a0 hw [] g3 (3 : Int32) nn Tj.heap n0 zj ) hZj (ww hw 31 rfl) (ww hw 3 rfl) (by decide) (by decide)) (g := (mkF m 239 #[vi p0, vi p1, vi p2, vi p3, vi p4, vi p5, vi nn, vi g0, vi g1, vi g2, vi g3, vi g4, vr bj, vr xj, .unset, .unset, .unset, .unset, .unset, .unset, .unset, .unset] [(.int nn), (.int 3), (.int g3)])) rfl (by rw [hml]; rfl) (argsL := [(.int g3), (.int 3), (.int nn)]) (rest := []) (lenOf pd_oCIIcZ rfl) rfl (by show 2 * 0 + _ ≤ _; exact Nat.le_of_eq rfl) (hb hby at_239) (fun _ _ => ⟨rfl, eq160, (by decide : 6 + 0 ≤ _), (by decide : 24 + 0 ≤ _)⟩)
          dsimp only [Pt.U, Pt.locs, Pt.cells, Pt.slots] at X164 l164 y164 z164 st164 hQ164
          subst l164 y164 z164
          obtain ⟨rfl, Nq164, eq164⟩ := hQ164
          have c165 : SS p e below S0 (T164.setTop (mkF m 242 #[vi p0, vi p1, vi p2, vi p3, vi p4, vi p5, vi nn, vi g0, vi g1, vi g2, vi g3, vi g4, vr bj, vr xj, .unset, .unset, .unset, .unset, .unset, .unset, .unset, .unset] [(.int (own_odd g3 (3 : Int32) nn))])) := c163.trans (st164 _ (Steps.refl _))
          have N164 := Fr.app N160 Nq164
          by_cases hq166 : (own_odd g3 (3 : Int32) nn) = (0 : Int32)
          · have c167 : SS p e below S0 (T164.setTop (mkF m 250 #[vi p0, vi p1, vi p2, vi p3, vi p4, vi p5, vi nn, vi g0, vi g1, vi g2, vi g3, vi g4, vr bj, vr xj, .unset, .unset, .unset, .unset, .unset, .unset, .unset, .unset] [(.int nn), (.int 4), (.int g4)])) := c165.trans (by
              show SS p e below (T164.setTop (mkF m 242 #[vi p0, vi p1, vi p2, vi p3, vi p4, vi p5, vi nn, vi g0, vi g1, vi g2, vi g3, vi g4, vr bj, vr xj, .unset, .unset, .unset, .unset, .unset, .unset, .unset, .unset] [(.int (own_odd g3 (3 : Int32) nn))])) _
              refine XS.ifNo X164.here hx rfl (hb hby at_242) rfl ((if0 _ _).trans (teq hq166).2) ?_
              refine XS.iload X164.here hx rfl (hb hby at_245) rfl ?_
              refine XS.iconst X164.here hx rfl (hb hby at_247) ?_
              refine XS.iload X164.here hx rfl (hb hby at_248) rfl ?_
              exact Steps.refl _)
            obtain ⟨_, _, ⟨T168, L168, kk168, nn168⟩, -, X168, ⟨Lc168, hQ168, l168, y168, z168⟩, st168⟩ := Jvm.LawKit.callS X164 hx (y := (⟨"com/example/pricefold/pricefold/model/DecimalTextReadPinLaw", "odd", "(CII)Z"⟩ : MethodName)) hownj (mvT hZj (ww hw 29 rfl)) (mvT hZj (ww hw 30 rfl)) (mvT hZj (ww hw 3 rfl)) (mvT hZj (ww hw 31 rfl)) (by decide) (backOf (W := 0) (rm_odd l Z a0 hw [] g4 (4 : Int32) nn Tj.heap n0 zj ) hZj (ww hw 31 rfl) (ww hw 3 rfl) (by decide) (by decide)) (g := (mkF m 250 #[vi p0, vi p1, vi p2, vi p3, vi p4, vi p5, vi nn, vi g0, vi g1, vi g2, vi g3, vi g4, vr bj, vr xj, .unset, .unset, .unset, .unset, .unset, .unset, .unset, .unset] [(.int nn), (.int 4), (.int g4)])) rfl (by rw [hml]; rfl) (argsL := [(.int g4), (.int 4), (.int nn)]) (rest := []) (lenOf pd_oCIIcZ rfl) rfl (by show 2 * 0 + _ ≤ _; exact Nat.le_of_eq rfl) (hb hby at_250) (fun _ _ => ⟨rfl, eq164, (by decide : 6 + 0 ≤ _), (by decide : 24 + 0 ≤ _)⟩)
            dsimp only [Pt.U, Pt.locs, Pt.cells, Pt.slots] at X168 l168 y168 z168 st168 hQ168
            subst l168 y168 z168
            obtain ⟨rfl, Nq168, eq168⟩ := hQ168
            have c169 : SS p e below S0 (T168.setTop (mkF m 253 #[vi p0, vi p1, vi p2, vi p3, vi p4, vi p5, vi nn, vi g0, vi g1, vi g2, vi g3, vi g4, vr bj, vr xj, .unset, .unset, .unset, .unset, .unset, .unset, .unset, .unset] [(.int (own_odd g4 (4 : Int32) nn))])) := c167.trans (st168 _ (Steps.refl _))
            have N168 := Fr.app N164 Nq168
            by_cases hq170 : (own_odd g4 (4 : Int32) nn) = (0 : Int32)
            · have c171 : SS p e below S0 (T168.setTop (mkF m 261 #[vi p0, vi p1, vi p2, vi p3, vi p4, vi p5, vi nn, vi g0, vi g1, vi g2, vi g3, vi g4, vr bj, vr xj, .unset, .unset, .unset, .unset, .unset, .unset, .unset, .unset] [(.int 0)])) := c169.trans (by
                show SS p e below (T168.setTop (mkF m 253 #[vi p0, vi p1, vi p2, vi p3, vi p4, vi p5, vi nn, vi g0, vi g1, vi g2, vi g3, vi g4, vr bj, vr xj, .unset, .unset, .unset, .unset, .unset, .unset, .unset, .unset] [(.int (own_odd g4 (4 : Int32) nn))])) _
                refine XS.ifYes X168.here hx rfl (pc0 := 253) (pc' := 260) rfl (hb hby at_253) rfl ((if0 _ _).trans (teq hq170).1) (by decide) (by decide) ?_
                refine XS.iconst X168.here hx rfl (hb hby at_260) ?_
                exact Steps.refl _)
              exact ⟨_, T168, _, (by rw [if_pos hq154, if_pos hq158, if_pos hq162, if_pos hq166, if_pos hq170]), N168, X168, eq168, c171⟩
            · have c172 : SS p e below S0 (T168.setTop (mkF m 261 #[vi p0, vi p1, vi p2, vi p3, vi p4, vi p5, vi nn, vi g0, vi g1, vi g2, vi g3, vi g4, vr bj, vr xj, .unset, .unset, .unset, .unset, .unset, .unset, .unset, .unset] [(.int 1)])) := c169.trans (by
                show SS p e below (T168.setTop (mkF m 253 #[vi p0, vi p1, vi p2, vi p3, vi p4, vi p5, vi nn, vi g0, vi g1, vi g2, vi g3, vi g4, vr bj, vr xj, .unset, .unset, .unset, .unset, .unset, .unset, .unset, .unset] [(.int (own_odd g4 (4 : Int32) nn))])) _
                refine XS.ifNo X168.here hx rfl (hb hby at_253) rfl ((if0 _ _).trans (feq hq170).1) ?_
                refine XS.iconst X168.here hx rfl (hb hby at_256) ?_
                refine XS.goto X168.here hx rfl (pc0 := 257) (pc' := 261) rfl (hb hby at_257) (by decide) (by decide) ?_
                exact Steps.refl _)
              exact ⟨_, T168, _, (by rw [if_pos hq154, if_pos hq158, if_pos hq162, if_pos hq166, if_neg hq170]), N168, X168, eq168, c172⟩
          · have c173 : SS p e below S0 (T164.setTop (mkF m 261 #[vi p0, vi p1, vi p2, vi p3, vi p4, vi p5, vi nn, vi g0, vi g1, vi g2, vi g3, vi g4, vr bj, vr xj, .unset, .unset, .unset, .unset, .unset, .unset, .unset, .unset] [(.int 1)])) := c165.trans (by
              show SS p e below (T164.setTop (mkF m 242 #[vi p0, vi p1, vi p2, vi p3, vi p4, vi p5, vi nn, vi g0, vi g1, vi g2, vi g3, vi g4, vr bj, vr xj, .unset, .unset, .unset, .unset, .unset, .unset, .unset, .unset] [(.int (own_odd g3 (3 : Int32) nn))])) _
              refine XS.ifYes X164.here hx rfl (pc0 := 242) (pc' := 256) rfl (hb hby at_242) rfl ((if0 _ _).trans (feq hq166).2) (by decide) (by decide) ?_
              refine XS.iconst X164.here hx rfl (hb hby at_256) ?_
              refine XS.goto X164.here hx rfl (pc0 := 257) (pc' := 261) rfl (hb hby at_257) (by decide) (by decide) ?_
              exact Steps.refl _)
            exact ⟨_, T164, _, (by rw [if_pos hq154, if_pos hq158, if_pos hq162, if_neg hq166]), N164, X164, eq164, c173⟩
        · have c174 : SS p e below S0 (T160.setTop (mkF m 261 #[vi p0, vi p1, vi p2, vi p3, vi p4, vi p5, vi nn, vi g0, vi g1, vi g2, vi g3, vi g4, vr bj, vr xj, .unset, .unset, .unset, .unset, .unset, .unset, .unset, .unset] [(.int 1)])) := c161.trans (by
            show SS p e below (T160.setTop (mkF m 231 #[vi p0, vi p1, vi p2, vi p3, vi p4, vi p5, vi nn, vi g0, vi g1, vi g2, vi g3, vi g4, vr bj, vr xj, .unset, .unset, .unset, .unset, .unset, .unset, .unset, .unset] [(.int (own_odd g2 (2 : Int32) nn))])) _
            refine XS.ifYes X160.here hx rfl (pc0 := 231) (pc' := 256) rfl (hb hby at_231) rfl ((if0 _ _).trans (feq hq162).2) (by decide) (by decide) ?_
            refine XS.iconst X160.here hx rfl (hb hby at_256) ?_
            refine XS.goto X160.here hx rfl (pc0 := 257) (pc' := 261) rfl (hb hby at_257) (by decide) (by decide) ?_
            exact Steps.refl _)
          exact ⟨_, T160, _, (by rw [if_pos hq154, if_pos hq158, if_neg hq162]), N160, X160, eq160, c174⟩
      · have c175 : SS p e below S0 (T156.setTop (mkF m 261 #[vi p0, vi p1, vi p2, vi p3, vi p4, vi p5, vi nn, vi g0, vi g1, vi g2, vi g3, vi g4, vr bj, vr xj, .unset, .unset, .unset, .unset, .unset, .unset, .unset, .unset] [(.int 1)])) := c157.trans (by
          show SS p e below (T156.setTop (mkF m 220 #[vi p0, vi p1, vi p2, vi p3, vi p4, vi p5, vi nn, vi g0, vi g1, vi g2, vi g3, vi g4, vr bj, vr xj, .unset, .unset, .unset, .unset, .unset, .unset, .unset, .unset] [(.int (own_odd g1 (1 : Int32) nn))])) _
          refine XS.ifYes X156.here hx rfl (pc0 := 220) (pc' := 256) rfl (hb hby at_220) rfl ((if0 _ _).trans (feq hq158).2) (by decide) (by decide) ?_
          refine XS.iconst X156.here hx rfl (hb hby at_256) ?_
          refine XS.goto X156.here hx rfl (pc0 := 257) (pc' := 261) rfl (hb hby at_257) (by decide) (by decide) ?_
          exact Steps.refl _)
        exact ⟨_, T156, _, (by rw [if_pos hq154, if_neg hq158]), N156, X156, eq156, c175⟩
    · have c176 : SS p e below S0 (T150.setTop (mkF m 261 #[vi p0, vi p1, vi p2, vi p3, vi p4, vi p5, vi nn, vi g0, vi g1, vi g2, vi g3, vi g4, vr bj, vr xj, .unset, .unset, .unset, .unset, .unset, .unset, .unset, .unset] [(.int 1)])) := c151.trans (by
        show SS p e below (T150.setTop (mkF m 209 #[vi p0, vi p1, vi p2, vi p3, vi p4, vi p5, vi nn, vi g0, vi g1, vi g2, vi g3, vi g4, vr bj, vr xj, .unset, .unset, .unset, .unset, .unset, .unset, .unset, .unset] [(.int (own_odd g0 (0 : Int32) nn))])) _
        refine XS.ifYes X150.here hx rfl (pc0 := 209) (pc' := 256) rfl (hb hby at_209) rfl ((if0 _ _).trans (feq hq154).2) (by decide) (by decide) ?_
        refine XS.iconst X150.here hx rfl (hb hby at_256) ?_
        refine XS.goto X150.here hx rfl (pc0 := 257) (pc' := 261) rfl (hb hby at_257) (by decide) (by decide) ?_
        exact Steps.refl _)
      exact ⟨_, T150, _, (by rw [if_neg hq154]), N150, X150, eq150, c176⟩
  have c177 : SS p e below S0 (T153.setTop (mkF m 268 #[vi p0, vi p1, vi p2, vi p3, vi p4, vi p5, vi nn, vi g0, vi g1, vi g2, vi g3, vi g4, vr bj, vr xj, vi bad, .unset, .unset, .unset, .unset, .unset, .unset, .unset] [(.int nn), (.int 0), (.int g0)])) := c153.trans (by
    show SS p e below (T153.setTop (mkF m 261 #[vi p0, vi p1, vi p2, vi p3, vi p4, vi p5, vi nn, vi g0, vi g1, vi g2, vi g3, vi g4, vr bj, vr xj, .unset, .unset, .unset, .unset, .unset, .unset, .unset, .unset] [(.int bad)])) _
    refine XS.istore X153.here hx rfl (hb hby at_261) rfl (l' := #[vi p0, vi p1, vi p2, vi p3, vi p4, vi p5, vi nn, vi g0, vi g1, vi g2, vi g3, vi g4, vr bj, vr xj, vi bad, .unset, .unset, .unset, .unset, .unset, .unset, .unset]) rfl ?_
    refine XS.iload X153.here hx rfl (hb hby at_263) rfl ?_
    refine XS.iconst X153.here hx rfl (hb hby at_265) ?_
    refine XS.iload X153.here hx rfl (hb hby at_266) rfl ?_
    exact Steps.refl _)
  obtain ⟨_, _, ⟨T178, L178, kk178, nn178⟩, -, X178, ⟨Lc178, hQ178, l178, y178, z178⟩, st178⟩ := Jvm.LawKit.callS X153 hx (y := (⟨"com/example/pricefold/pricefold/model/DecimalTextReadPinLaw", "pt", "(CII)I"⟩ : MethodName)) hownj (mvT hZj (ww hw 32 rfl)) (mvT hZj (ww hw 33 rfl)) (mvT hZj (ww hw 3 rfl)) (mvT hZj (ww hw 34 rfl)) (by decide) (backOf (W := 0) (rm_pt l Z a0 hw [] g0 (0 : Int32) nn Tj.heap n0 zj ) hZj (ww hw 34 rfl) (ww hw 3 rfl) (by decide) (by decide)) (g := (mkF m 268 #[vi p0, vi p1, vi p2, vi p3, vi p4, vi p5, vi nn, vi g0, vi g1, vi g2, vi g3, vi g4, vr bj, vr xj, vi bad, .unset, .unset, .unset, .unset, .unset, .unset, .unset] [(.int nn), (.int 0), (.int g0)])) rfl (by rw [hml]; rfl) (argsL := [(.int g0), (.int 0), (.int nn)]) (rest := []) (lenOf pd_oCIIcI rfl) rfl (by show 2 * 0 + _ ≤ _; exact Nat.le_of_eq rfl) (hb hby at_268) (fun _ _ => ⟨rfl, e153, (by decide : 6 + 0 ≤ _), (by decide : 24 + 0 ≤ _)⟩)
  dsimp only [Pt.U, Pt.locs, Pt.cells, Pt.slots] at X178 l178 y178 z178 st178 hQ178
  subst l178 y178 z178
  obtain ⟨rfl, Nq178, eq178⟩ := hQ178
  have c179 : SS p e below S0 (T178.setTop (mkF m 271 #[vi p0, vi p1, vi p2, vi p3, vi p4, vi p5, vi nn, vi g0, vi g1, vi g2, vi g3, vi g4, vr bj, vr xj, vi bad, .unset, .unset, .unset, .unset, .unset, .unset, .unset] [(.int (own_pt g0 (0 : Int32) nn))])) := c177.trans (st178 _ (Steps.refl _))
  have N178 := Fr.app N153 Nq178
  have c180 : SS p e below S0 (T178.setTop (mkF m 276 #[vi p0, vi p1, vi p2, vi p3, vi p4, vi p5, vi nn, vi g0, vi g1, vi g2, vi g3, vi g4, vr bj, vr xj, vi bad, .unset, .unset, .unset, .unset, .unset, .unset, .unset] [(.int nn), (.int 1), (.int g1), (.int (own_pt g0 (0 : Int32) nn))])) := c179.trans (by
    show SS p e below (T178.setTop (mkF m 271 #[vi p0, vi p1, vi p2, vi p3, vi p4, vi p5, vi nn, vi g0, vi g1, vi g2, vi g3, vi g4, vr bj, vr xj, vi bad, .unset, .unset, .unset, .unset, .unset, .unset, .unset] [(.int (own_pt g0 (0 : Int32) nn))])) _
    refine XS.iload X178.here hx rfl (hb hby at_271) rfl ?_
    refine XS.iconst X178.here hx rfl (hb hby at_273) ?_
    refine XS.iload X178.here hx rfl (hb hby at_274) rfl ?_
    exact Steps.refl _)
  obtain ⟨_, _, ⟨T181, L181, kk181, nn181⟩, -, X181, ⟨Lc181, hQ181, l181, y181, z181⟩, st181⟩ := Jvm.LawKit.callS X178 hx (y := (⟨"com/example/pricefold/pricefold/model/DecimalTextReadPinLaw", "pt", "(CII)I"⟩ : MethodName)) hownj (mvT hZj (ww hw 32 rfl)) (mvT hZj (ww hw 33 rfl)) (mvT hZj (ww hw 3 rfl)) (mvT hZj (ww hw 34 rfl)) (by decide) (backOf (W := 1) (rm_pt l Z a0 hw [] g1 (1 : Int32) nn Tj.heap n0 zj ) hZj (ww hw 34 rfl) (ww hw 3 rfl) (by decide) (by decide)) (g := (mkF m 276 #[vi p0, vi p1, vi p2, vi p3, vi p4, vi p5, vi nn, vi g0, vi g1, vi g2, vi g3, vi g4, vr bj, vr xj, vi bad, .unset, .unset, .unset, .unset, .unset, .unset, .unset] [(.int nn), (.int 1), (.int g1), (.int (own_pt g0 (0 : Int32) nn))])) rfl (by rw [hml]; rfl) (argsL := [(.int g1), (.int 1), (.int nn)]) (rest := [(.int (own_pt g0 (0 : Int32) nn))]) (lenOf pd_oCIIcI rfl) rfl (by show 2 * 0 + _ ≤ _; exact Nat.le_of_eq rfl) (hb hby at_276) (fun _ _ => ⟨rfl, eq178, (by decide : 6 + 0 ≤ _), (by decide : 24 + 0 ≤ _)⟩)
  dsimp only [Pt.U, Pt.locs, Pt.cells, Pt.slots] at X181 l181 y181 z181 st181 hQ181
  subst l181 y181 z181
  obtain ⟨rfl, Nq181, eq181⟩ := hQ181
  have c182 : SS p e below S0 (T181.setTop (mkF m 279 #[vi p0, vi p1, vi p2, vi p3, vi p4, vi p5, vi nn, vi g0, vi g1, vi g2, vi g3, vi g4, vr bj, vr xj, vi bad, .unset, .unset, .unset, .unset, .unset, .unset, .unset] [(.int (own_pt g1 (1 : Int32) nn)), (.int (own_pt g0 (0 : Int32) nn))])) := c180.trans (st181 _ (Steps.refl _))
  have N181 := Fr.app N178 Nq181
  have c183 : SS p e below S0 (T181.setTop (mkF m 285 #[vi p0, vi p1, vi p2, vi p3, vi p4, vi p5, vi nn, vi g0, vi g1, vi g2, vi g3, vi g4, vr bj, vr xj, vi bad, .unset, .unset, .unset, .unset, .unset, .unset, .unset] [(.int nn), (.int 2), (.int g2), (.int ((own_pt g0 (0 : Int32) nn) + (own_pt g1 (1 : Int32) nn)))])) := c182.trans (by
    show SS p e below (T181.setTop (mkF m 279 #[vi p0, vi p1, vi p2, vi p3, vi p4, vi p5, vi nn, vi g0, vi g1, vi g2, vi g3, vi g4, vr bj, vr xj, vi bad, .unset, .unset, .unset, .unset, .unset, .unset, .unset] [(.int (own_pt g1 (1 : Int32) nn)), (.int (own_pt g0 (0 : Int32) nn))])) _
    refine XS.iadd X181.here hx rfl (hb hby at_279) rfl ?_
    refine XS.iload X181.here hx rfl (hb hby at_280) rfl ?_
    refine XS.iconst X181.here hx rfl (hb hby at_282) ?_
    refine XS.iload X181.here hx rfl (hb hby at_283) rfl ?_
    exact Steps.refl _)
  obtain ⟨_, _, ⟨T184, L184, kk184, nn184⟩, -, X184, ⟨Lc184, hQ184, l184, y184, z184⟩, st184⟩ := Jvm.LawKit.callS X181 hx (y := (⟨"com/example/pricefold/pricefold/model/DecimalTextReadPinLaw", "pt", "(CII)I"⟩ : MethodName)) hownj (mvT hZj (ww hw 32 rfl)) (mvT hZj (ww hw 33 rfl)) (mvT hZj (ww hw 3 rfl)) (mvT hZj (ww hw 34 rfl)) (by decide) (backOf (W := 1) (rm_pt l Z a0 hw [] g2 (2 : Int32) nn Tj.heap n0 zj ) hZj (ww hw 34 rfl) (ww hw 3 rfl) (by decide) (by decide)) (g := (mkF m 285 #[vi p0, vi p1, vi p2, vi p3, vi p4, vi p5, vi nn, vi g0, vi g1, vi g2, vi g3, vi g4, vr bj, vr xj, vi bad, .unset, .unset, .unset, .unset, .unset, .unset, .unset] [(.int nn), (.int 2), (.int g2), (.int ((own_pt g0 (0 : Int32) nn) + (own_pt g1 (1 : Int32) nn)))])) rfl (by rw [hml]; rfl) (argsL := [(.int g2), (.int 2), (.int nn)]) (rest := [(.int ((own_pt g0 (0 : Int32) nn) + (own_pt g1 (1 : Int32) nn)))]) (lenOf pd_oCIIcI rfl) rfl (by show 2 * 0 + _ ≤ _; exact Nat.le_of_eq rfl) (hb hby at_285) (fun _ _ => ⟨rfl, eq181, (by decide : 6 + 0 ≤ _), (by decide : 24 + 0 ≤ _)⟩)
  dsimp only [Pt.U, Pt.locs, Pt.cells, Pt.slots] at X184 l184 y184 z184 st184 hQ184
  subst l184 y184 z184
  obtain ⟨rfl, Nq184, eq184⟩ := hQ184
  have c185 : SS p e below S0 (T184.setTop (mkF m 288 #[vi p0, vi p1, vi p2, vi p3, vi p4, vi p5, vi nn, vi g0, vi g1, vi g2, vi g3, vi g4, vr bj, vr xj, vi bad, .unset, .unset, .unset, .unset, .unset, .unset, .unset] [(.int (own_pt g2 (2 : Int32) nn)), (.int ((own_pt g0 (0 : Int32) nn) + (own_pt g1 (1 : Int32) nn)))])) := c183.trans (st184 _ (Steps.refl _))
  have N184 := Fr.app N181 Nq184
  have c186 : SS p e below S0 (T184.setTop (mkF m 294 #[vi p0, vi p1, vi p2, vi p3, vi p4, vi p5, vi nn, vi g0, vi g1, vi g2, vi g3, vi g4, vr bj, vr xj, vi bad, .unset, .unset, .unset, .unset, .unset, .unset, .unset] [(.int nn), (.int 3), (.int g3), (.int (((own_pt g0 (0 : Int32) nn) + (own_pt g1 (1 : Int32) nn)) + (own_pt g2 (2 : Int32) nn)))])) := c185.trans (by
    show SS p e below (T184.setTop (mkF m 288 #[vi p0, vi p1, vi p2, vi p3, vi p4, vi p5, vi nn, vi g0, vi g1, vi g2, vi g3, vi g4, vr bj, vr xj, vi bad, .unset, .unset, .unset, .unset, .unset, .unset, .unset] [(.int (own_pt g2 (2 : Int32) nn)), (.int ((own_pt g0 (0 : Int32) nn) + (own_pt g1 (1 : Int32) nn)))])) _
    refine XS.iadd X184.here hx rfl (hb hby at_288) rfl ?_
    refine XS.iload X184.here hx rfl (hb hby at_289) rfl ?_
    refine XS.iconst X184.here hx rfl (hb hby at_291) ?_
    refine XS.iload X184.here hx rfl (hb hby at_292) rfl ?_
    exact Steps.refl _)
  obtain ⟨_, _, ⟨T187, L187, kk187, nn187⟩, -, X187, ⟨Lc187, hQ187, l187, y187, z187⟩, st187⟩ := Jvm.LawKit.callS X184 hx (y := (⟨"com/example/pricefold/pricefold/model/DecimalTextReadPinLaw", "pt", "(CII)I"⟩ : MethodName)) hownj (mvT hZj (ww hw 32 rfl)) (mvT hZj (ww hw 33 rfl)) (mvT hZj (ww hw 3 rfl)) (mvT hZj (ww hw 34 rfl)) (by decide) (backOf (W := 1) (rm_pt l Z a0 hw [] g3 (3 : Int32) nn Tj.heap n0 zj ) hZj (ww hw 34 rfl) (ww hw 3 rfl) (by decide) (by decide)) (g := (mkF m 294 #[vi p0, vi p1, vi p2, vi p3, vi p4, vi p5, vi nn, vi g0, vi g1, vi g2, vi g3, vi g4, vr bj, vr xj, vi bad, .unset, .unset, .unset, .unset, .unset, .unset, .unset] [(.int nn), (.int 3), (.int g3), (.int (((own_pt g0 (0 : Int32) nn) + (own_pt g1 (1 : Int32) nn)) + (own_pt g2 (2 : Int32) nn)))])) rfl (by rw [hml]; rfl) (argsL := [(.int g3), (.int 3), (.int nn)]) (rest := [(.int (((own_pt g0 (0 : Int32) nn) + (own_pt g1 (1 : Int32) nn)) + (own_pt g2 (2 : Int32) nn)))]) (lenOf pd_oCIIcI rfl) rfl (by show 2 * 0 + _ ≤ _; exact Nat.le_of_eq rfl) (hb hby at_294) (fun _ _ => ⟨rfl, eq184, (by decide : 6 + 0 ≤ _), (by decide : 24 + 0 ≤ _)⟩)
  dsimp only [Pt.U, Pt.locs, Pt.cells, Pt.slots] at X187 l187 y187 z187 st187 hQ187
  subst l187 y187 z187
  obtain ⟨rfl, Nq187, eq187⟩ := hQ187
  have c188 : SS p e below S0 (T187.setTop (mkF m 297 #[vi p0, vi p1, vi p2, vi p3, vi p4, vi p5, vi nn, vi g0, vi g1, vi g2, vi g3, vi g4, vr bj, vr xj, vi bad, .unset, .unset, .unset, .unset, .unset, .unset, .unset] [(.int (own_pt g3 (3 : Int32) nn)), (.int (((own_pt g0 (0 : Int32) nn) + (own_pt g1 (1 : Int32) nn)) + (own_pt g2 (2 : Int32) nn)))])) := c186.trans (st187 _ (Steps.refl _))
  have N187 := Fr.app N184 Nq187
  have c189 : SS p e below S0 (T187.setTop (mkF m 303 #[vi p0, vi p1, vi p2, vi p3, vi p4, vi p5, vi nn, vi g0, vi g1, vi g2, vi g3, vi g4, vr bj, vr xj, vi bad, .unset, .unset, .unset, .unset, .unset, .unset, .unset] [(.int nn), (.int 4), (.int g4), (.int ((((own_pt g0 (0 : Int32) nn) + (own_pt g1 (1 : Int32) nn)) + (own_pt g2 (2 : Int32) nn)) + (own_pt g3 (3 : Int32) nn)))])) := c188.trans (by
    show SS p e below (T187.setTop (mkF m 297 #[vi p0, vi p1, vi p2, vi p3, vi p4, vi p5, vi nn, vi g0, vi g1, vi g2, vi g3, vi g4, vr bj, vr xj, vi bad, .unset, .unset, .unset, .unset, .unset, .unset, .unset] [(.int (own_pt g3 (3 : Int32) nn)), (.int (((own_pt g0 (0 : Int32) nn) + (own_pt g1 (1 : Int32) nn)) + (own_pt g2 (2 : Int32) nn)))])) _
    refine XS.iadd X187.here hx rfl (hb hby at_297) rfl ?_
    refine XS.iload X187.here hx rfl (hb hby at_298) rfl ?_
    refine XS.iconst X187.here hx rfl (hb hby at_300) ?_
    refine XS.iload X187.here hx rfl (hb hby at_301) rfl ?_
    exact Steps.refl _)
  obtain ⟨_, _, ⟨T190, L190, kk190, nn190⟩, -, X190, ⟨Lc190, hQ190, l190, y190, z190⟩, st190⟩ := Jvm.LawKit.callS X187 hx (y := (⟨"com/example/pricefold/pricefold/model/DecimalTextReadPinLaw", "pt", "(CII)I"⟩ : MethodName)) hownj (mvT hZj (ww hw 32 rfl)) (mvT hZj (ww hw 33 rfl)) (mvT hZj (ww hw 3 rfl)) (mvT hZj (ww hw 34 rfl)) (by decide) (backOf (W := 1) (rm_pt l Z a0 hw [] g4 (4 : Int32) nn Tj.heap n0 zj ) hZj (ww hw 34 rfl) (ww hw 3 rfl) (by decide) (by decide)) (g := (mkF m 303 #[vi p0, vi p1, vi p2, vi p3, vi p4, vi p5, vi nn, vi g0, vi g1, vi g2, vi g3, vi g4, vr bj, vr xj, vi bad, .unset, .unset, .unset, .unset, .unset, .unset, .unset] [(.int nn), (.int 4), (.int g4), (.int ((((own_pt g0 (0 : Int32) nn) + (own_pt g1 (1 : Int32) nn)) + (own_pt g2 (2 : Int32) nn)) + (own_pt g3 (3 : Int32) nn)))])) rfl (by rw [hml]; rfl) (argsL := [(.int g4), (.int 4), (.int nn)]) (rest := [(.int ((((own_pt g0 (0 : Int32) nn) + (own_pt g1 (1 : Int32) nn)) + (own_pt g2 (2 : Int32) nn)) + (own_pt g3 (3 : Int32) nn)))]) (lenOf pd_oCIIcI rfl) rfl (by show 2 * 0 + _ ≤ _; exact Nat.le_of_eq rfl) (hb hby at_303) (fun _ _ => ⟨rfl, eq187, (by decide : 6 + 0 ≤ _), (by decide : 24 + 0 ≤ _)⟩)
  dsimp only [Pt.U, Pt.locs, Pt.cells, Pt.slots] at X190 l190 y190 z190 st190 hQ190
  subst l190 y190 z190
  obtain ⟨rfl, Nq190, eq190⟩ := hQ190
  have c191 : SS p e below S0 (T190.setTop (mkF m 306 #[vi p0, vi p1, vi p2, vi p3, vi p4, vi p5, vi nn, vi g0, vi g1, vi g2, vi g3, vi g4, vr bj, vr xj, vi bad, .unset, .unset, .unset, .unset, .unset, .unset, .unset] [(.int (own_pt g4 (4 : Int32) nn)), (.int ((((own_pt g0 (0 : Int32) nn) + (own_pt g1 (1 : Int32) nn)) + (own_pt g2 (2 : Int32) nn)) + (own_pt g3 (3 : Int32) nn)))])) := c189.trans (st190 _ (Steps.refl _))
  have N190 := Fr.app N187 Nq190
  have c192 : SS p e below S0 (T190.setTop (mkF m 309 #[vi p0, vi p1, vi p2, vi p3, vi p4, vi p5, vi nn, vi g0, vi g1, vi g2, vi g3, vi g4, vr bj, vr xj, vi bad, .val (.int (((((own_pt g0 (0 : Int32) nn) + (own_pt g1 (1 : Int32) nn)) + (own_pt g2 (2 : Int32) nn)) + (own_pt g3 (3 : Int32) nn)) + (own_pt g4 (4 : Int32) nn))), .unset, .unset, .unset, .unset, .unset, .unset] [])) := c191.trans (by
    show SS p e below (T190.setTop (mkF m 306 #[vi p0, vi p1, vi p2, vi p3, vi p4, vi p5, vi nn, vi g0, vi g1, vi g2, vi g3, vi g4, vr bj, vr xj, vi bad, .unset, .unset, .unset, .unset, .unset, .unset, .unset] [(.int (own_pt g4 (4 : Int32) nn)), (.int ((((own_pt g0 (0 : Int32) nn) + (own_pt g1 (1 : Int32) nn)) + (own_pt g2 (2 : Int32) nn)) + (own_pt g3 (3 : Int32) nn)))])) _
    refine XS.iadd X190.here hx rfl (hb hby at_306) rfl ?_
    refine XS.istore X190.here hx rfl (hb hby at_307) rfl (l' := #[vi p0, vi p1, vi p2, vi p3, vi p4, vi p5, vi nn, vi g0, vi g1, vi g2, vi g3, vi g4, vr bj, vr xj, vi bad, .val (.int (((((own_pt g0 (0 : Int32) nn) + (own_pt g1 (1 : Int32) nn)) + (own_pt g2 (2 : Int32) nn)) + (own_pt g3 (3 : Int32) nn)) + (own_pt g4 (4 : Int32) nn))), .unset, .unset, .unset, .unset, .unset, .unset]) rfl ?_
    exact Steps.refl _)
  obtain ⟨pts, hpts, c193⟩ : ∃ z : Int32, z = (((((own_pt g0 (0 : Int32) nn) + (own_pt g1 (1 : Int32) nn)) + (own_pt g2 (2 : Int32) nn)) + (own_pt g3 (3 : Int32) nn)) + (own_pt g4 (4 : Int32) nn)) ∧ SS p e below S0 (T190.setTop (mkF m 309 #[vi p0, vi p1, vi p2, vi p3, vi p4, vi p5, vi nn, vi g0, vi g1, vi g2, vi g3, vi g4, vr bj, vr xj, vi bad, vi z, .unset, .unset, .unset, .unset, .unset, .unset] [])) := ⟨_, rfl, c192⟩
  have c194 : SS p e below S0 (T190.setTop (mkF m 317 #[vi p0, vi p1, vi p2, vi p3, vi p4, vi p5, vi nn, vi g0, vi g1, vi g2, vi g3, vi g4, vr bj, vr xj, vi bad, vi pts, vi (-1), .unset, .unset, .unset, .unset, .unset] [(.int nn), (.int 4), (.int g4)])) := c193.trans (by
    show SS p e below (T190.setTop (mkF m 309 #[vi p0, vi p1, vi p2, vi p3, vi p4, vi p5, vi nn, vi g0, vi g1, vi g2, vi g3, vi g4, vr bj, vr xj, vi bad, vi pts, .unset, .unset, .unset, .unset, .unset, .unset] [])) _
    refine XS.iconst X190.here hx rfl (hb hby at_309) ?_
    refine XS.istore X190.here hx rfl (hb hby at_310) rfl (l' := #[vi p0, vi p1, vi p2, vi p3, vi p4, vi p5, vi nn, vi g0, vi g1, vi g2, vi g3, vi g4, vr bj, vr xj, vi bad, vi pts, vi (-1), .unset, .unset, .unset, .unset, .unset]) rfl ?_
    refine XS.iload X190.here hx rfl (hb hby at_312) rfl ?_
    refine XS.iconst X190.here hx rfl (hb hby at_314) ?_
    refine XS.iload X190.here hx rfl (hb hby at_315) rfl ?_
    exact Steps.refl _)
  obtain ⟨_, _, ⟨T195, L195, kk195, nn195⟩, -, X195, ⟨Lc195, hQ195, l195, y195, z195⟩, st195⟩ := Jvm.LawKit.callS X190 hx (y := (⟨"com/example/pricefold/pricefold/model/DecimalTextReadPinLaw", "pt", "(CII)I"⟩ : MethodName)) hownj (mvT hZj (ww hw 32 rfl)) (mvT hZj (ww hw 33 rfl)) (mvT hZj (ww hw 3 rfl)) (mvT hZj (ww hw 34 rfl)) (by decide) (backOf (W := 0) (rm_pt l Z a0 hw [] g4 (4 : Int32) nn Tj.heap n0 zj ) hZj (ww hw 34 rfl) (ww hw 3 rfl) (by decide) (by decide)) (g := (mkF m 317 #[vi p0, vi p1, vi p2, vi p3, vi p4, vi p5, vi nn, vi g0, vi g1, vi g2, vi g3, vi g4, vr bj, vr xj, vi bad, vi pts, vi (-1), .unset, .unset, .unset, .unset, .unset] [(.int nn), (.int 4), (.int g4)])) rfl (by rw [hml]; rfl) (argsL := [(.int g4), (.int 4), (.int nn)]) (rest := []) (lenOf pd_oCIIcI rfl) rfl (by show 2 * 0 + _ ≤ _; exact Nat.le_of_eq rfl) (hb hby at_317) (fun _ _ => ⟨rfl, eq190, (by decide : 6 + 0 ≤ _), (by decide : 24 + 0 ≤ _)⟩)
  dsimp only [Pt.U, Pt.locs, Pt.cells, Pt.slots] at X195 l195 y195 z195 st195 hQ195
  subst l195 y195 z195
  obtain ⟨rfl, Nq195, eq195⟩ := hQ195
  have c196 : SS p e below S0 (T195.setTop (mkF m 320 #[vi p0, vi p1, vi p2, vi p3, vi p4, vi p5, vi nn, vi g0, vi g1, vi g2, vi g3, vi g4, vr bj, vr xj, vi bad, vi pts, vi (-1), .unset, .unset, .unset, .unset, .unset] [(.int (own_pt g4 (4 : Int32) nn))])) := c194.trans (st195 _ (Steps.refl _))
  have N195 := Fr.app N190 Nq195
  have c197 : SS p e below S0 (T195.setTop (mkF m 321 #[vi p0, vi p1, vi p2, vi p3, vi p4, vi p5, vi nn, vi g0, vi g1, vi g2, vi g3, vi g4, vr bj, vr xj, vi bad, vi pts, vi (-1), .unset, .unset, .unset, .unset, .unset] [(.int 1), (.int (own_pt g4 (4 : Int32) nn))])) := c196.trans (by
    show SS p e below (T195.setTop (mkF m 320 #[vi p0, vi p1, vi p2, vi p3, vi p4, vi p5, vi nn, vi g0, vi g1, vi g2, vi g3, vi g4, vr bj, vr xj, vi bad, vi pts, vi (-1), .unset, .unset, .unset, .unset, .unset] [(.int (own_pt g4 (4 : Int32) nn))])) _
    refine XS.iconst X195.here hx rfl (hb hby at_320) ?_
    exact Steps.refl _)
  obtain ⟨pA, hpA, c200⟩ : ∃ (pA : Int32), pA = (if (own_pt g4 (4 : Int32) nn) = (1 : Int32) then (4 : Int32) else (-1 : Int32)) ∧ SS p e below S0 (T195.setTop (mkF m 327 #[vi p0, vi p1, vi p2, vi p3, vi p4, vi p5, vi nn, vi g0, vi g1, vi g2, vi g3, vi g4, vr bj, vr xj, vi bad, vi pts, vi pA, .unset, .unset, .unset, .unset, .unset] [])) := by
    by_cases hq198 : (own_pt g4 (4 : Int32) nn) = (1 : Int32)
    · exact ⟨_, (by rw [if_pos hq198]), c197.trans (by
        show SS p e below (T195.setTop (mkF m 321 #[vi p0, vi p1, vi p2, vi p3, vi p4, vi p5, vi nn, vi g0, vi g1, vi g2, vi g3, vi g4, vr bj, vr xj, vi bad, vi pts, vi (-1), .unset, .unset, .unset, .unset, .unset] [(.int 1), (.int (own_pt g4 (4 : Int32) nn))])) _
        refine XS.icmpNo X195.here hx rfl (hb hby at_321) rfl (teq hq198).2 ?_
        refine XS.iconst X195.here hx rfl (hb hby at_324) ?_
        refine XS.istore X195.here hx rfl (hb hby at_325) rfl (l' := #[vi p0, vi p1, vi p2, vi p3, vi p4, vi p5, vi nn, vi g0, vi g1, vi g2, vi g3, vi g4, vr bj, vr xj, vi bad, vi pts, vi 4, .unset, .unset, .unset, .unset, .unset]) rfl ?_
        exact Steps.refl _)⟩
    · exact ⟨_, (by rw [if_neg hq198]), c197.trans (by
        show SS p e below (T195.setTop (mkF m 321 #[vi p0, vi p1, vi p2, vi p3, vi p4, vi p5, vi nn, vi g0, vi g1, vi g2, vi g3, vi g4, vr bj, vr xj, vi bad, vi pts, vi (-1), .unset, .unset, .unset, .unset, .unset] [(.int 1), (.int (own_pt g4 (4 : Int32) nn))])) _
        refine XS.icmpYes X195.here hx rfl (pc0 := 321) (pc' := 327) rfl (hb hby at_321) rfl (feq hq198).2 (by decide) (by decide) ?_
        exact Steps.refl _)⟩
  have c201 : SS p e below S0 (T195.setTop (mkF m 332 #[vi p0, vi p1, vi p2, vi p3, vi p4, vi p5, vi nn, vi g0, vi g1, vi g2, vi g3, vi g4, vr bj, vr xj, vi bad, vi pts, vi pA, .unset, .unset, .unset, .unset, .unset] [(.int nn), (.int 3), (.int g3)])) := c200.trans (by
    show SS p e below (T195.setTop (mkF m 327 #[vi p0, vi p1, vi p2, vi p3, vi p4, vi p5, vi nn, vi g0, vi g1, vi g2, vi g3, vi g4, vr bj, vr xj, vi bad, vi pts, vi pA, .unset, .unset, .unset, .unset, .unset] [])) _
    refine XS.iload X195.here hx rfl (hb hby at_327) rfl ?_
    refine XS.iconst X195.here hx rfl (hb hby at_329) ?_
    refine XS.iload X195.here hx rfl (hb hby at_330) rfl ?_
    exact Steps.refl _)
  obtain ⟨_, _, ⟨T202, L202, kk202, nn202⟩, -, X202, ⟨Lc202, hQ202, l202, y202, z202⟩, st202⟩ := Jvm.LawKit.callS X195 hx (y := (⟨"com/example/pricefold/pricefold/model/DecimalTextReadPinLaw", "pt", "(CII)I"⟩ : MethodName)) hownj (mvT hZj (ww hw 32 rfl)) (mvT hZj (ww hw 33 rfl)) (mvT hZj (ww hw 3 rfl)) (mvT hZj (ww hw 34 rfl)) (by decide) (backOf (W := 0) (rm_pt l Z a0 hw [] g3 (3 : Int32) nn Tj.heap n0 zj ) hZj (ww hw 34 rfl) (ww hw 3 rfl) (by decide) (by decide)) (g := (mkF m 332 #[vi p0, vi p1, vi p2, vi p3, vi p4, vi p5, vi nn, vi g0, vi g1, vi g2, vi g3, vi g4, vr bj, vr xj, vi bad, vi pts, vi pA, .unset, .unset, .unset, .unset, .unset] [(.int nn), (.int 3), (.int g3)])) rfl (by rw [hml]; rfl) (argsL := [(.int g3), (.int 3), (.int nn)]) (rest := []) (lenOf pd_oCIIcI rfl) rfl (by show 2 * 0 + _ ≤ _; exact Nat.le_of_eq rfl) (hb hby at_332) (fun _ _ => ⟨rfl, eq195, (by decide : 6 + 0 ≤ _), (by decide : 24 + 0 ≤ _)⟩)
  dsimp only [Pt.U, Pt.locs, Pt.cells, Pt.slots] at X202 l202 y202 z202 st202 hQ202
  subst l202 y202 z202
  obtain ⟨rfl, Nq202, eq202⟩ := hQ202
  have c203 : SS p e below S0 (T202.setTop (mkF m 335 #[vi p0, vi p1, vi p2, vi p3, vi p4, vi p5, vi nn, vi g0, vi g1, vi g2, vi g3, vi g4, vr bj, vr xj, vi bad, vi pts, vi pA, .unset, .unset, .unset, .unset, .unset] [(.int (own_pt g3 (3 : Int32) nn))])) := c201.trans (st202 _ (Steps.refl _))
  have N202 := Fr.app N195 Nq202
  have c204 : SS p e below S0 (T202.setTop (mkF m 336 #[vi p0, vi p1, vi p2, vi p3, vi p4, vi p5, vi nn, vi g0, vi g1, vi g2, vi g3, vi g4, vr bj, vr xj, vi bad, vi pts, vi pA, .unset, .unset, .unset, .unset, .unset] [(.int 1), (.int (own_pt g3 (3 : Int32) nn))])) := c203.trans (by
    show SS p e below (T202.setTop (mkF m 335 #[vi p0, vi p1, vi p2, vi p3, vi p4, vi p5, vi nn, vi g0, vi g1, vi g2, vi g3, vi g4, vr bj, vr xj, vi bad, vi pts, vi pA, .unset, .unset, .unset, .unset, .unset] [(.int (own_pt g3 (3 : Int32) nn))])) _
    refine XS.iconst X202.here hx rfl (hb hby at_335) ?_
    exact Steps.refl _)
  obtain ⟨pB, hpB, c207⟩ : ∃ (pB : Int32), pB = (if (own_pt g3 (3 : Int32) nn) = (1 : Int32) then (3 : Int32) else pA) ∧ SS p e below S0 (T202.setTop (mkF m 342 #[vi p0, vi p1, vi p2, vi p3, vi p4, vi p5, vi nn, vi g0, vi g1, vi g2, vi g3, vi g4, vr bj, vr xj, vi bad, vi pts, vi pB, .unset, .unset, .unset, .unset, .unset] [])) := by
    by_cases hq205 : (own_pt g3 (3 : Int32) nn) = (1 : Int32)
    · exact ⟨_, (by rw [if_pos hq205]), c204.trans (by
        show SS p e below (T202.setTop (mkF m 336 #[vi p0, vi p1, vi p2, vi p3, vi p4, vi p5, vi nn, vi g0, vi g1, vi g2, vi g3, vi g4, vr bj, vr xj, vi bad, vi pts, vi pA, .unset, .unset, .unset, .unset, .unset] [(.int 1), (.int (own_pt g3 (3 : Int32) nn))])) _
        refine XS.icmpNo X202.here hx rfl (hb hby at_336) rfl (teq hq205).2 ?_
        refine XS.iconst X202.here hx rfl (hb hby at_339) ?_
        refine XS.istore X202.here hx rfl (hb hby at_340) rfl (l' := #[vi p0, vi p1, vi p2, vi p3, vi p4, vi p5, vi nn, vi g0, vi g1, vi g2, vi g3, vi g4, vr bj, vr xj, vi bad, vi pts, vi 3, .unset, .unset, .unset, .unset, .unset]) rfl ?_
        exact Steps.refl _)⟩
    · exact ⟨_, (by rw [if_neg hq205]), c204.trans (by
        show SS p e below (T202.setTop (mkF m 336 #[vi p0, vi p1, vi p2, vi p3, vi p4, vi p5, vi nn, vi g0, vi g1, vi g2, vi g3, vi g4, vr bj, vr xj, vi bad, vi pts, vi pA, .unset, .unset, .unset, .unset, .unset] [(.int 1), (.int (own_pt g3 (3 : Int32) nn))])) _
        refine XS.icmpYes X202.here hx rfl (pc0 := 336) (pc' := 342) rfl (hb hby at_336) rfl (feq hq205).2 (by decide) (by decide) ?_
        exact Steps.refl _)⟩
  have c208 : SS p e below S0 (T202.setTop (mkF m 347 #[vi p0, vi p1, vi p2, vi p3, vi p4, vi p5, vi nn, vi g0, vi g1, vi g2, vi g3, vi g4, vr bj, vr xj, vi bad, vi pts, vi pB, .unset, .unset, .unset, .unset, .unset] [(.int nn), (.int 2), (.int g2)])) := c207.trans (by
    show SS p e below (T202.setTop (mkF m 342 #[vi p0, vi p1, vi p2, vi p3, vi p4, vi p5, vi nn, vi g0, vi g1, vi g2, vi g3, vi g4, vr bj, vr xj, vi bad, vi pts, vi pB, .unset, .unset, .unset, .unset, .unset] [])) _
    refine XS.iload X202.here hx rfl (hb hby at_342) rfl ?_
    refine XS.iconst X202.here hx rfl (hb hby at_344) ?_
    refine XS.iload X202.here hx rfl (hb hby at_345) rfl ?_
    exact Steps.refl _)
  obtain ⟨_, _, ⟨T209, L209, kk209, nn209⟩, -, X209, ⟨Lc209, hQ209, l209, y209, z209⟩, st209⟩ := Jvm.LawKit.callS X202 hx (y := (⟨"com/example/pricefold/pricefold/model/DecimalTextReadPinLaw", "pt", "(CII)I"⟩ : MethodName)) hownj (mvT hZj (ww hw 32 rfl)) (mvT hZj (ww hw 33 rfl)) (mvT hZj (ww hw 3 rfl)) (mvT hZj (ww hw 34 rfl)) (by decide) (backOf (W := 0) (rm_pt l Z a0 hw [] g2 (2 : Int32) nn Tj.heap n0 zj ) hZj (ww hw 34 rfl) (ww hw 3 rfl) (by decide) (by decide)) (g := (mkF m 347 #[vi p0, vi p1, vi p2, vi p3, vi p4, vi p5, vi nn, vi g0, vi g1, vi g2, vi g3, vi g4, vr bj, vr xj, vi bad, vi pts, vi pB, .unset, .unset, .unset, .unset, .unset] [(.int nn), (.int 2), (.int g2)])) rfl (by rw [hml]; rfl) (argsL := [(.int g2), (.int 2), (.int nn)]) (rest := []) (lenOf pd_oCIIcI rfl) rfl (by show 2 * 0 + _ ≤ _; exact Nat.le_of_eq rfl) (hb hby at_347) (fun _ _ => ⟨rfl, eq202, (by decide : 6 + 0 ≤ _), (by decide : 24 + 0 ≤ _)⟩)
  dsimp only [Pt.U, Pt.locs, Pt.cells, Pt.slots] at X209 l209 y209 z209 st209 hQ209
  subst l209 y209 z209
  obtain ⟨rfl, Nq209, eq209⟩ := hQ209
  have c210 : SS p e below S0 (T209.setTop (mkF m 350 #[vi p0, vi p1, vi p2, vi p3, vi p4, vi p5, vi nn, vi g0, vi g1, vi g2, vi g3, vi g4, vr bj, vr xj, vi bad, vi pts, vi pB, .unset, .unset, .unset, .unset, .unset] [(.int (own_pt g2 (2 : Int32) nn))])) := c208.trans (st209 _ (Steps.refl _))
  have N209 := Fr.app N202 Nq209
  have c211 : SS p e below S0 (T209.setTop (mkF m 351 #[vi p0, vi p1, vi p2, vi p3, vi p4, vi p5, vi nn, vi g0, vi g1, vi g2, vi g3, vi g4, vr bj, vr xj, vi bad, vi pts, vi pB, .unset, .unset, .unset, .unset, .unset] [(.int 1), (.int (own_pt g2 (2 : Int32) nn))])) := c210.trans (by
    show SS p e below (T209.setTop (mkF m 350 #[vi p0, vi p1, vi p2, vi p3, vi p4, vi p5, vi nn, vi g0, vi g1, vi g2, vi g3, vi g4, vr bj, vr xj, vi bad, vi pts, vi pB, .unset, .unset, .unset, .unset, .unset] [(.int (own_pt g2 (2 : Int32) nn))])) _
    refine XS.iconst X209.here hx rfl (hb hby at_350) ?_
    exact Steps.refl _)
  obtain ⟨pC, hpC, c214⟩ : ∃ (pC : Int32), pC = (if (own_pt g2 (2 : Int32) nn) = (1 : Int32) then (2 : Int32) else pB) ∧ SS p e below S0 (T209.setTop (mkF m 357 #[vi p0, vi p1, vi p2, vi p3, vi p4, vi p5, vi nn, vi g0, vi g1, vi g2, vi g3, vi g4, vr bj, vr xj, vi bad, vi pts, vi pC, .unset, .unset, .unset, .unset, .unset] [])) := by
    by_cases hq212 : (own_pt g2 (2 : Int32) nn) = (1 : Int32)
    · exact ⟨_, (by rw [if_pos hq212]), c211.trans (by
        show SS p e below (T209.setTop (mkF m 351 #[vi p0, vi p1, vi p2, vi p3, vi p4, vi p5, vi nn, vi g0, vi g1, vi g2, vi g3, vi g4, vr bj, vr xj, vi bad, vi pts, vi pB, .unset, .unset, .unset, .unset, .unset] [(.int 1), (.int (own_pt g2 (2 : Int32) nn))])) _
        refine XS.icmpNo X209.here hx rfl (hb hby at_351) rfl (teq hq212).2 ?_
        refine XS.iconst X209.here hx rfl (hb hby at_354) ?_
        refine XS.istore X209.here hx rfl (hb hby at_355) rfl (l' := #[vi p0, vi p1, vi p2, vi p3, vi p4, vi p5, vi nn, vi g0, vi g1, vi g2, vi g3, vi g4, vr bj, vr xj, vi bad, vi pts, vi 2, .unset, .unset, .unset, .unset, .unset]) rfl ?_
        exact Steps.refl _)⟩
    · exact ⟨_, (by rw [if_neg hq212]), c211.trans (by
        show SS p e below (T209.setTop (mkF m 351 #[vi p0, vi p1, vi p2, vi p3, vi p4, vi p5, vi nn, vi g0, vi g1, vi g2, vi g3, vi g4, vr bj, vr xj, vi bad, vi pts, vi pB, .unset, .unset, .unset, .unset, .unset] [(.int 1), (.int (own_pt g2 (2 : Int32) nn))])) _
        refine XS.icmpYes X209.here hx rfl (pc0 := 351) (pc' := 357) rfl (hb hby at_351) rfl (feq hq212).2 (by decide) (by decide) ?_
        exact Steps.refl _)⟩
  have c215 : SS p e below S0 (T209.setTop (mkF m 362 #[vi p0, vi p1, vi p2, vi p3, vi p4, vi p5, vi nn, vi g0, vi g1, vi g2, vi g3, vi g4, vr bj, vr xj, vi bad, vi pts, vi pC, .unset, .unset, .unset, .unset, .unset] [(.int nn), (.int 1), (.int g1)])) := c214.trans (by
    show SS p e below (T209.setTop (mkF m 357 #[vi p0, vi p1, vi p2, vi p3, vi p4, vi p5, vi nn, vi g0, vi g1, vi g2, vi g3, vi g4, vr bj, vr xj, vi bad, vi pts, vi pC, .unset, .unset, .unset, .unset, .unset] [])) _
    refine XS.iload X209.here hx rfl (hb hby at_357) rfl ?_
    refine XS.iconst X209.here hx rfl (hb hby at_359) ?_
    refine XS.iload X209.here hx rfl (hb hby at_360) rfl ?_
    exact Steps.refl _)
  obtain ⟨_, _, ⟨T216, L216, kk216, nn216⟩, -, X216, ⟨Lc216, hQ216, l216, y216, z216⟩, st216⟩ := Jvm.LawKit.callS X209 hx (y := (⟨"com/example/pricefold/pricefold/model/DecimalTextReadPinLaw", "pt", "(CII)I"⟩ : MethodName)) hownj (mvT hZj (ww hw 32 rfl)) (mvT hZj (ww hw 33 rfl)) (mvT hZj (ww hw 3 rfl)) (mvT hZj (ww hw 34 rfl)) (by decide) (backOf (W := 0) (rm_pt l Z a0 hw [] g1 (1 : Int32) nn Tj.heap n0 zj ) hZj (ww hw 34 rfl) (ww hw 3 rfl) (by decide) (by decide)) (g := (mkF m 362 #[vi p0, vi p1, vi p2, vi p3, vi p4, vi p5, vi nn, vi g0, vi g1, vi g2, vi g3, vi g4, vr bj, vr xj, vi bad, vi pts, vi pC, .unset, .unset, .unset, .unset, .unset] [(.int nn), (.int 1), (.int g1)])) rfl (by rw [hml]; rfl) (argsL := [(.int g1), (.int 1), (.int nn)]) (rest := []) (lenOf pd_oCIIcI rfl) rfl (by show 2 * 0 + _ ≤ _; exact Nat.le_of_eq rfl) (hb hby at_362) (fun _ _ => ⟨rfl, eq209, (by decide : 6 + 0 ≤ _), (by decide : 24 + 0 ≤ _)⟩)
  dsimp only [Pt.U, Pt.locs, Pt.cells, Pt.slots] at X216 l216 y216 z216 st216 hQ216
  subst l216 y216 z216
  obtain ⟨rfl, Nq216, eq216⟩ := hQ216
  have c217 : SS p e below S0 (T216.setTop (mkF m 365 #[vi p0, vi p1, vi p2, vi p3, vi p4, vi p5, vi nn, vi g0, vi g1, vi g2, vi g3, vi g4, vr bj, vr xj, vi bad, vi pts, vi pC, .unset, .unset, .unset, .unset, .unset] [(.int (own_pt g1 (1 : Int32) nn))])) := c215.trans (st216 _ (Steps.refl _))
  have N216 := Fr.app N209 Nq216
  have c218 : SS p e below S0 (T216.setTop (mkF m 366 #[vi p0, vi p1, vi p2, vi p3, vi p4, vi p5, vi nn, vi g0, vi g1, vi g2, vi g3, vi g4, vr bj, vr xj, vi bad, vi pts, vi pC, .unset, .unset, .unset, .unset, .unset] [(.int 1), (.int (own_pt g1 (1 : Int32) nn))])) := c217.trans (by
    show SS p e below (T216.setTop (mkF m 365 #[vi p0, vi p1, vi p2, vi p3, vi p4, vi p5, vi nn, vi g0, vi g1, vi g2, vi g3, vi g4, vr bj, vr xj, vi bad, vi pts, vi pC, .unset, .unset, .unset, .unset, .unset] [(.int (own_pt g1 (1 : Int32) nn))])) _
    refine XS.iconst X216.here hx rfl (hb hby at_365) ?_
    exact Steps.refl _)
  obtain ⟨pD, hpD, c221⟩ : ∃ (pD : Int32), pD = (if (own_pt g1 (1 : Int32) nn) = (1 : Int32) then (1 : Int32) else pC) ∧ SS p e below S0 (T216.setTop (mkF m 372 #[vi p0, vi p1, vi p2, vi p3, vi p4, vi p5, vi nn, vi g0, vi g1, vi g2, vi g3, vi g4, vr bj, vr xj, vi bad, vi pts, vi pD, .unset, .unset, .unset, .unset, .unset] [])) := by
    by_cases hq219 : (own_pt g1 (1 : Int32) nn) = (1 : Int32)
    · exact ⟨_, (by rw [if_pos hq219]), c218.trans (by
        show SS p e below (T216.setTop (mkF m 366 #[vi p0, vi p1, vi p2, vi p3, vi p4, vi p5, vi nn, vi g0, vi g1, vi g2, vi g3, vi g4, vr bj, vr xj, vi bad, vi pts, vi pC, .unset, .unset, .unset, .unset, .unset] [(.int 1), (.int (own_pt g1 (1 : Int32) nn))])) _
        refine XS.icmpNo X216.here hx rfl (hb hby at_366) rfl (teq hq219).2 ?_
        refine XS.iconst X216.here hx rfl (hb hby at_369) ?_
        refine XS.istore X216.here hx rfl (hb hby at_370) rfl (l' := #[vi p0, vi p1, vi p2, vi p3, vi p4, vi p5, vi nn, vi g0, vi g1, vi g2, vi g3, vi g4, vr bj, vr xj, vi bad, vi pts, vi 1, .unset, .unset, .unset, .unset, .unset]) rfl ?_
        exact Steps.refl _)⟩
    · exact ⟨_, (by rw [if_neg hq219]), c218.trans (by
        show SS p e below (T216.setTop (mkF m 366 #[vi p0, vi p1, vi p2, vi p3, vi p4, vi p5, vi nn, vi g0, vi g1, vi g2, vi g3, vi g4, vr bj, vr xj, vi bad, vi pts, vi pC, .unset, .unset, .unset, .unset, .unset] [(.int 1), (.int (own_pt g1 (1 : Int32) nn))])) _
        refine XS.icmpYes X216.here hx rfl (pc0 := 366) (pc' := 372) rfl (hb hby at_366) rfl (feq hq219).2 (by decide) (by decide) ?_
        exact Steps.refl _)⟩
  have c222 : SS p e below S0 (T216.setTop (mkF m 377 #[vi p0, vi p1, vi p2, vi p3, vi p4, vi p5, vi nn, vi g0, vi g1, vi g2, vi g3, vi g4, vr bj, vr xj, vi bad, vi pts, vi pD, .unset, .unset, .unset, .unset, .unset] [(.int nn), (.int 0), (.int g0)])) := c221.trans (by
    show SS p e below (T216.setTop (mkF m 372 #[vi p0, vi p1, vi p2, vi p3, vi p4, vi p5, vi nn, vi g0, vi g1, vi g2, vi g3, vi g4, vr bj, vr xj, vi bad, vi pts, vi pD, .unset, .unset, .unset, .unset, .unset] [])) _
    refine XS.iload X216.here hx rfl (hb hby at_372) rfl ?_
    refine XS.iconst X216.here hx rfl (hb hby at_374) ?_
    refine XS.iload X216.here hx rfl (hb hby at_375) rfl ?_
    exact Steps.refl _)
  obtain ⟨_, _, ⟨T223, L223, kk223, nn223⟩, -, X223, ⟨Lc223, hQ223, l223, y223, z223⟩, st223⟩ := Jvm.LawKit.callS X216 hx (y := (⟨"com/example/pricefold/pricefold/model/DecimalTextReadPinLaw", "pt", "(CII)I"⟩ : MethodName)) hownj (mvT hZj (ww hw 32 rfl)) (mvT hZj (ww hw 33 rfl)) (mvT hZj (ww hw 3 rfl)) (mvT hZj (ww hw 34 rfl)) (by decide) (backOf (W := 0) (rm_pt l Z a0 hw [] g0 (0 : Int32) nn Tj.heap n0 zj ) hZj (ww hw 34 rfl) (ww hw 3 rfl) (by decide) (by decide)) (g := (mkF m 377 #[vi p0, vi p1, vi p2, vi p3, vi p4, vi p5, vi nn, vi g0, vi g1, vi g2, vi g3, vi g4, vr bj, vr xj, vi bad, vi pts, vi pD, .unset, .unset, .unset, .unset, .unset] [(.int nn), (.int 0), (.int g0)])) rfl (by rw [hml]; rfl) (argsL := [(.int g0), (.int 0), (.int nn)]) (rest := []) (lenOf pd_oCIIcI rfl) rfl (by show 2 * 0 + _ ≤ _; exact Nat.le_of_eq rfl) (hb hby at_377) (fun _ _ => ⟨rfl, eq216, (by decide : 6 + 0 ≤ _), (by decide : 24 + 0 ≤ _)⟩)
  dsimp only [Pt.U, Pt.locs, Pt.cells, Pt.slots] at X223 l223 y223 z223 st223 hQ223
  subst l223 y223 z223
  obtain ⟨rfl, Nq223, eq223⟩ := hQ223
  have c224 : SS p e below S0 (T223.setTop (mkF m 380 #[vi p0, vi p1, vi p2, vi p3, vi p4, vi p5, vi nn, vi g0, vi g1, vi g2, vi g3, vi g4, vr bj, vr xj, vi bad, vi pts, vi pD, .unset, .unset, .unset, .unset, .unset] [(.int (own_pt g0 (0 : Int32) nn))])) := c222.trans (st223 _ (Steps.refl _))
  have N223 := Fr.app N216 Nq223
  have c225 : SS p e below S0 (T223.setTop (mkF m 381 #[vi p0, vi p1, vi p2, vi p3, vi p4, vi p5, vi nn, vi g0, vi g1, vi g2, vi g3, vi g4, vr bj, vr xj, vi bad, vi pts, vi pD, .unset, .unset, .unset, .unset, .unset] [(.int 1), (.int (own_pt g0 (0 : Int32) nn))])) := c224.trans (by
    show SS p e below (T223.setTop (mkF m 380 #[vi p0, vi p1, vi p2, vi p3, vi p4, vi p5, vi nn, vi g0, vi g1, vi g2, vi g3, vi g4, vr bj, vr xj, vi bad, vi pts, vi pD, .unset, .unset, .unset, .unset, .unset] [(.int (own_pt g0 (0 : Int32) nn))])) _
    refine XS.iconst X223.here hx rfl (hb hby at_380) ?_
    exact Steps.refl _)
  obtain ⟨pE, hpE, c228⟩ : ∃ (pE : Int32), pE = (if (own_pt g0 (0 : Int32) nn) = (1 : Int32) then (0 : Int32) else pD) ∧ SS p e below S0 (T223.setTop (mkF m 387 #[vi p0, vi p1, vi p2, vi p3, vi p4, vi p5, vi nn, vi g0, vi g1, vi g2, vi g3, vi g4, vr bj, vr xj, vi bad, vi pts, vi pE, .unset, .unset, .unset, .unset, .unset] [])) := by
    by_cases hq226 : (own_pt g0 (0 : Int32) nn) = (1 : Int32)
    · exact ⟨_, (by rw [if_pos hq226]), c225.trans (by
        show SS p e below (T223.setTop (mkF m 381 #[vi p0, vi p1, vi p2, vi p3, vi p4, vi p5, vi nn, vi g0, vi g1, vi g2, vi g3, vi g4, vr bj, vr xj, vi bad, vi pts, vi pD, .unset, .unset, .unset, .unset, .unset] [(.int 1), (.int (own_pt g0 (0 : Int32) nn))])) _
        refine XS.icmpNo X223.here hx rfl (hb hby at_381) rfl (teq hq226).2 ?_
        refine XS.iconst X223.here hx rfl (hb hby at_384) ?_
        refine XS.istore X223.here hx rfl (hb hby at_385) rfl (l' := #[vi p0, vi p1, vi p2, vi p3, vi p4, vi p5, vi nn, vi g0, vi g1, vi g2, vi g3, vi g4, vr bj, vr xj, vi bad, vi pts, vi 0, .unset, .unset, .unset, .unset, .unset]) rfl ?_
        exact Steps.refl _)⟩
    · exact ⟨_, (by rw [if_neg hq226]), c225.trans (by
        show SS p e below (T223.setTop (mkF m 381 #[vi p0, vi p1, vi p2, vi p3, vi p4, vi p5, vi nn, vi g0, vi g1, vi g2, vi g3, vi g4, vr bj, vr xj, vi bad, vi pts, vi pD, .unset, .unset, .unset, .unset, .unset] [(.int 1), (.int (own_pt g0 (0 : Int32) nn))])) _
        refine XS.icmpYes X223.here hx rfl (pc0 := 381) (pc' := 387) rfl (hb hby at_381) rfl (feq hq226).2 (by decide) (by decide) ?_
        exact Steps.refl _)⟩
  have c229 : SS p e below S0 (T223.setTop (mkF m 389 #[vi p0, vi p1, vi p2, vi p3, vi p4, vi p5, vi nn, vi g0, vi g1, vi g2, vi g3, vi g4, vr bj, vr xj, vi bad, vi pts, vi pE, .unset, .unset, .unset, .unset, .unset] [(.int bad)])) := c228.trans (by
    show SS p e below (T223.setTop (mkF m 387 #[vi p0, vi p1, vi p2, vi p3, vi p4, vi p5, vi nn, vi g0, vi g1, vi g2, vi g3, vi g4, vr bj, vr xj, vi bad, vi pts, vi pE, .unset, .unset, .unset, .unset, .unset] [])) _
    refine XS.iload X223.here hx rfl (hb hby at_387) rfl ?_
    exact Steps.refl _)
  obtain ⟨vd, hvd, c236⟩ : ∃ (vd : Int32), vd = (if bad = (0 : Int32) then (if (1 : Int32) < pts then (0 : Int32) else (if (0 : Int32) < nn then (if pE = (0 : Int32) then (0 : Int32) else (if pE = (nn - (1 : Int32)) then (0 : Int32) else (1 : Int32))) else (0 : Int32))) else (0 : Int32)) ∧ SS p e below S0 (T223.setTop (mkF m 422 #[vi p0, vi p1, vi p2, vi p3, vi p4, vi p5, vi nn, vi g0, vi g1, vi g2, vi g3, vi g4, vr bj, vr xj, vi bad, vi pts, vi pE, .unset, .unset, .unset, .unset, .unset] [(.int vd)])) := by
    by_cases hq230 : bad = (0 : Int32)
    · by_cases hq231 : (1 : Int32) < pts
      · exact ⟨_, (by rw [if_pos hq230, if_pos hq231]), c229.trans (by
          show SS p e below (T223.setTop (mkF m 389 #[vi p0, vi p1, vi p2, vi p3, vi p4, vi p5, vi nn, vi g0, vi g1, vi g2, vi g3, vi g4, vr bj, vr xj, vi bad, vi pts, vi pE, .unset, .unset, .unset, .unset, .unset] [(.int bad)])) _
          refine XS.ifNo X223.here hx rfl (hb hby at_389) rfl ((if0 _ _).trans (teq hq230).2) ?_
          refine XS.iload X223.here hx rfl (hb hby at_392) rfl ?_
          refine XS.iconst X223.here hx rfl (hb hby at_394) ?_
          refine XS.icmpYes X223.here hx rfl (pc0 := 395) (pc' := 421) rfl (hb hby at_395) rfl (tlt hq231).2.2.1 (by decide) (by decide) ?_
          refine XS.iconst X223.here hx rfl (hb hby at_421) ?_
          exact Steps.refl _)⟩
      · by_cases hq232 : (0 : Int32) < nn
        · by_cases hq233 : pE = (0 : Int32)
          · exact ⟨_, (by rw [if_pos hq230, if_neg hq231, if_pos hq232, if_pos hq233]), c229.trans (by
              show SS p e below (T223.setTop (mkF m 389 #[vi p0, vi p1, vi p2, vi p3, vi p4, vi p5, vi nn, vi g0, vi g1, vi g2, vi g3, vi g4, vr bj, vr xj, vi bad, vi pts, vi pE, .unset, .unset, .unset, .unset, .unset] [(.int bad)])) _
              refine XS.ifNo X223.here hx rfl (hb hby at_389) rfl ((if0 _ _).trans (teq hq230).2) ?_
              refine XS.iload X223.here hx rfl (hb hby at_392) rfl ?_
              refine XS.iconst X223.here hx rfl (hb hby at_394) ?_
              refine XS.icmpNo X223.here hx rfl (hb hby at_395) rfl (flt hq231).2.2.1 ?_
              refine XS.iload X223.here hx rfl (hb hby at_398) rfl ?_
              refine XS.ifNo X223.here hx rfl (hb hby at_400) rfl ((if0 _ _).trans (tlt hq232).2.2.2) ?_
              refine XS.iload X223.here hx rfl (hb hby at_403) rfl ?_
              refine XS.ifYes X223.here hx rfl (pc0 := 405) (pc' := 421) rfl (hb hby at_405) rfl ((if0 _ _).trans (teq hq233).1) (by decide) (by decide) ?_
              refine XS.iconst X223.here hx rfl (hb hby at_421) ?_
              exact Steps.refl _)⟩
          · by_cases hq234 : pE = (nn - (1 : Int32))
            · exact ⟨_, (by rw [if_pos hq230, if_neg hq231, if_pos hq232, if_neg hq233, if_pos hq234]), c229.trans (by
                show SS p e below (T223.setTop (mkF m 389 #[vi p0, vi p1, vi p2, vi p3, vi p4, vi p5, vi nn, vi g0, vi g1, vi g2, vi g3, vi g4, vr bj, vr xj, vi bad, vi pts, vi pE, .unset, .unset, .unset, .unset, .unset] [(.int bad)])) _
                refine XS.ifNo X223.here hx rfl (hb hby at_389) rfl ((if0 _ _).trans (teq hq230).2) ?_
                refine XS.iload X223.here hx rfl (hb hby at_392) rfl ?_
                refine XS.iconst X223.here hx rfl (hb hby at_394) ?_
                refine XS.icmpNo X223.here hx rfl (hb hby at_395) rfl (flt hq231).2.2.1 ?_
                refine XS.iload X223.here hx rfl (hb hby at_398) rfl ?_
                refine XS.ifNo X223.here hx rfl (hb hby at_400) rfl ((if0 _ _).trans (tlt hq232).2.2.2) ?_
                refine XS.iload X223.here hx rfl (hb hby at_403) rfl ?_
                refine XS.ifNo X223.here hx rfl (hb hby at_405) rfl ((if0 _ _).trans (feq hq233).1) ?_
                refine XS.iload X223.here hx rfl (hb hby at_408) rfl ?_
                refine XS.iload X223.here hx rfl (hb hby at_410) rfl ?_
                refine XS.iconst X223.here hx rfl (hb hby at_412) ?_
                refine XS.isub X223.here hx rfl (hb hby at_413) rfl ?_
                refine XS.icmpYes X223.here hx rfl (pc0 := 414) (pc' := 421) rfl (hb hby at_414) rfl (teq hq234).1 (by decide) (by decide) ?_
                refine XS.iconst X223.here hx rfl (hb hby at_421) ?_
                exact Steps.refl _)⟩
            · exact ⟨_, (by rw [if_pos hq230, if_neg hq231, if_pos hq232, if_neg hq233, if_neg hq234]), c229.trans (by
                show SS p e below (T223.setTop (mkF m 389 #[vi p0, vi p1, vi p2, vi p3, vi p4, vi p5, vi nn, vi g0, vi g1, vi g2, vi g3, vi g4, vr bj, vr xj, vi bad, vi pts, vi pE, .unset, .unset, .unset, .unset, .unset] [(.int bad)])) _
                refine XS.ifNo X223.here hx rfl (hb hby at_389) rfl ((if0 _ _).trans (teq hq230).2) ?_
                refine XS.iload X223.here hx rfl (hb hby at_392) rfl ?_
                refine XS.iconst X223.here hx rfl (hb hby at_394) ?_
                refine XS.icmpNo X223.here hx rfl (hb hby at_395) rfl (flt hq231).2.2.1 ?_
                refine XS.iload X223.here hx rfl (hb hby at_398) rfl ?_
                refine XS.ifNo X223.here hx rfl (hb hby at_400) rfl ((if0 _ _).trans (tlt hq232).2.2.2) ?_
                refine XS.iload X223.here hx rfl (hb hby at_403) rfl ?_
                refine XS.ifNo X223.here hx rfl (hb hby at_405) rfl ((if0 _ _).trans (feq hq233).1) ?_
                refine XS.iload X223.here hx rfl (hb hby at_408) rfl ?_
                refine XS.iload X223.here hx rfl (hb hby at_410) rfl ?_
                refine XS.iconst X223.here hx rfl (hb hby at_412) ?_
                refine XS.isub X223.here hx rfl (hb hby at_413) rfl ?_
                refine XS.icmpNo X223.here hx rfl (hb hby at_414) rfl (feq hq234).1 ?_
                refine XS.iconst X223.here hx rfl (hb hby at_417) ?_
                refine XS.goto X223.here hx rfl (pc0 := 418) (pc' := 422) rfl (hb hby at_418) (by decide) (by decide) ?_
                exact Steps.refl _)⟩
        · exact ⟨_, (by rw [if_pos hq230, if_neg hq231, if_neg hq232]), c229.trans (by
            show SS p e below (T223.setTop (mkF m 389 #[vi p0, vi p1, vi p2, vi p3, vi p4, vi p5, vi nn, vi g0, vi g1, vi g2, vi g3, vi g4, vr bj, vr xj, vi bad, vi pts, vi pE, .unset, .unset, .unset, .unset, .unset] [(.int bad)])) _
            refine XS.ifNo X223.here hx rfl (hb hby at_389) rfl ((if0 _ _).trans (teq hq230).2) ?_
            refine XS.iload X223.here hx rfl (hb hby at_392) rfl ?_
            refine XS.iconst X223.here hx rfl (hb hby at_394) ?_
            refine XS.icmpNo X223.here hx rfl (hb hby at_395) rfl (flt hq231).2.2.1 ?_
            refine XS.iload X223.here hx rfl (hb hby at_398) rfl ?_
            refine XS.ifYes X223.here hx rfl (pc0 := 400) (pc' := 421) rfl (hb hby at_400) rfl ((if0 _ _).trans (flt hq232).2.2.2) (by decide) (by decide) ?_
            refine XS.iconst X223.here hx rfl (hb hby at_421) ?_
            exact Steps.refl _)⟩
    · exact ⟨_, (by rw [if_neg hq230]), c229.trans (by
        show SS p e below (T223.setTop (mkF m 389 #[vi p0, vi p1, vi p2, vi p3, vi p4, vi p5, vi nn, vi g0, vi g1, vi g2, vi g3, vi g4, vr bj, vr xj, vi bad, vi pts, vi pE, .unset, .unset, .unset, .unset, .unset] [(.int bad)])) _
        refine XS.ifYes X223.here hx rfl (pc0 := 389) (pc' := 421) rfl (hb hby at_389) rfl ((if0 _ _).trans (feq hq230).2) (by decide) (by decide) ?_
        refine XS.iconst X223.here hx rfl (hb hby at_421) ?_
        exact Steps.refl _)⟩
  have c237 : SS p e below S0 (T223.setTop (mkF m 426 #[vi p0, vi p1, vi p2, vi p3, vi p4, vi p5, vi nn, vi g0, vi g1, vi g2, vi g3, vi g4, vr bj, vr xj, vi bad, vi pts, vi pE, vi vd, .unset, .unset, .unset, .unset] [(.ref xj)])) := c236.trans (by
    show SS p e below (T223.setTop (mkF m 422 #[vi p0, vi p1, vi p2, vi p3, vi p4, vi p5, vi nn, vi g0, vi g1, vi g2, vi g3, vi g4, vr bj, vr xj, vi bad, vi pts, vi pE, .unset, .unset, .unset, .unset, .unset] [(.int vd)])) _
    refine XS.istore X223.here hx rfl (hb hby at_422) rfl (l' := #[vi p0, vi p1, vi p2, vi p3, vi p4, vi p5, vi nn, vi g0, vi g1, vi g2, vi g3, vi g4, vr bj, vr xj, vi bad, vi pts, vi pE, vi vd, .unset, .unset, .unset, .unset]) rfl ?_
    refine XS.aload X223.here hx rfl (hb hby at_424) rfl rfl ?_
    exact Steps.refl _)
  obtain ⟨fn0, fn1⟩ := own_fin l6 hbad hpts hpA hpB hpC hpD hpE hvd
  obtain ⟨_, _, ⟨T238, L238, kk238, nn238⟩, -, X238, ⟨Lc238, hQ238, l238, y238, z238⟩, st238⟩ := Jvm.LawKit.callS X223 hx (y := (⟨"com/example/pricefold/pricefold/model/DecimalText", "read", "(Ljava/lang/String;)Lcom/example/pricefold/pricefold/model/DecimalText;"⟩ : MethodName)) hownj (mvT hZj (ww hw 35 rfl)) (mvT hZj (ww hw 36 rfl)) (mvT hZj (ww hw 37 rfl)) (mvT hZj (ww hw 38 rfl)) (by decide) (backOf (W := 0) (rmRd l Z a0 hw [] xj tj kbj cdj Nj vsj (own_txt nn g0 g1 g2 g3 g4) G1 G3 Tj.heap n0 zj Sgj sAD sHI sLO O2 P5 Oj O4 rG3) hZj (ww hw 38 rfl) (ww hw 37 rfl) (by decide) (by decide)) (g := (mkF m 426 #[vi p0, vi p1, vi p2, vi p3, vi p4, vi p5, vi nn, vi g0, vi g1, vi g2, vi g3, vi g4, vr bj, vr xj, vi bad, vi pts, vi pE, vi vd, .unset, .unset, .unset, .unset] [(.ref xj)])) rfl (by rw [hml]; rfl) (argsL := [(.ref xj)]) (rest := []) (lenOf pd_oLjavaslangsStringecLcomsexamplespricefoldspricefoldsmodelsDecimalTexte rfl) rfl (by show 2 * 0 + _ ≤ _; exact Nat.le_of_eq rfl) (hb hby at_426) (fun _ _ => ⟨rfl, eq223, (by decide : 6 + 1 ≤ _), (by decide : 24 + 3 ≤ _)⟩)
  dsimp only [Pt.U, Pt.locs, Pt.cells, Pt.slots] at X238 l238 y238 z238 st238 hQ238
  subst l238 y238 z238
  rcases hQ238 with ⟨hrd, rfl, Nq238, eq238⟩ | ⟨xd, st, we0, hrd, rfl, Nq238, Kq238, gx238, Ei238, Fa238, Fb238, Fd238⟩
  · have c239 : SS p e below S0 (T238.setTop (mkF m 429 #[vi p0, vi p1, vi p2, vi p3, vi p4, vi p5, vi nn, vi g0, vi g1, vi g2, vi g3, vi g4, vr bj, vr xj, vi bad, vi pts, vi pE, vi vd, .unset, .unset, .unset, .unset] [.null])) := c237.trans (st238 _ (Steps.refl _))
    have N238 := Fr.app N223 Nq238
    have hv0 := fn0 hrd
    have c240 : SS p e below S0 (T238.setTop (mkF m 446 #[vi p0, vi p1, vi p2, vi p3, vi p4, vi p5, vi nn, vi g0, vi g1, vi g2, vi g3, vi g4, vr bj, vr xj, vi bad, vi pts, vi pE, vi vd, .val .null, .unset, .unset, .unset] [(.int 1)])) := c239.trans (by
      show SS p e below (T238.setTop (mkF m 429 #[vi p0, vi p1, vi p2, vi p3, vi p4, vi p5, vi nn, vi g0, vi g1, vi g2, vi g3, vi g4, vr bj, vr xj, vi bad, vi pts, vi pE, vi vd, .unset, .unset, .unset, .unset] [.null])) _
      refine XS.astore X238.here hx rfl (hb hby at_429) rfl rfl (l' := #[vi p0, vi p1, vi p2, vi p3, vi p4, vi p5, vi nn, vi g0, vi g1, vi g2, vi g3, vi g4, vr bj, vr xj, vi bad, vi pts, vi pE, vi vd, .val .null, .unset, .unset, .unset]) rfl ?_
      refine XS.iload X238.here hx rfl (hb hby at_431) rfl ?_
      refine XS.ifNo X238.here hx rfl (hb hby at_433) rfl ((if0 _ _).trans (teq hv0).2) ?_
      refine XS.aload X238.here hx rfl (hb hby at_436) rfl rfl ?_
      refine XS.ifnonnullNo X238.here hx rfl (hb hby at_438) rfl ?_
      refine XS.iconst X238.here hx rfl (hb hby at_441) ?_
      refine XS.goto X238.here hx rfl (pc0 := 442) (pc' := 446) rfl (hb hby at_442) (by decide) (by decide) ?_
      exact Steps.refl _)
    obtain ⟨fs, hr, hrun, hended, hW⟩ := X238.leaveW hSj (by rw [eq238]; exact hkj) (v := some (.int 1)) (fun h => by rw [Bd.returns] at h; cases h)
    refine ⟨_, _, c240.trans (retOut X238 hx Bd.returns rfl (Or.inl ⟨rfl, by simp, _, rfl⟩) (hb hby at_446) hr), hrun, hended, _, _, rfl, ?_, ?_, hW.1, hW.2.1, hW.2.2.1, hW.2.2.2.mono (by first | decide | exact Nat.le_of_ble_eq_true rfl) (by first | decide | exact Nat.le_of_ble_eq_true rfl)⟩
    · show Q0 Z  h0 n0 _ T238.heap _
      rw [eq238]
      exact ⟨rfl, N238⟩
    · show CHr Z EL s.vm s.heap T238.vm T238.heap
      rw [hh, eq238]; exact rj.trans (CHv.at X238 hZj hEL rj.1)
  · have c241 : SS p e below S0 (T238.setTop (mkF m 429 #[vi p0, vi p1, vi p2, vi p3, vi p4, vi p5, vi nn, vi g0, vi g1, vi g2, vi g3, vi g4, vr bj, vr xj, vi bad, vi pts, vi pE, vi vd, .unset, .unset, .unset, .unset] [(.ref xd)])) := c237.trans (st238 _ (Steps.refl _))
    have N238 := Fr.app N223 Nq238
    have z238 : n0 ≤ T238.heap.size := Nat.le_trans zj Kq238.1
    have K238 := Kj.trans Kq238 all0
    have r238 : CHr Z EL vmj Tj.heap vmj T238.heap := CHr.keep Kq238 sf0 rj.1
    have R238 := rj.trans r238
    obtain ⟨hv0, fn2⟩ := fn1 _ _ hrd
    have c242 : SS p e below S0 (T238.setTop (mkF m 456 #[vi p0, vi p1, vi p2, vi p3, vi p4, vi p5, vi nn, vi g0, vi g1, vi g2, vi g3, vi g4, vr bj, vr xj, vi bad, vi pts, vi pE, vi vd, vr xd, .unset, .unset, .unset] [(.int pE)])) := c241.trans (by
      show SS p e below (T238.setTop (mkF m 429 #[vi p0, vi p1, vi p2, vi p3, vi p4, vi p5, vi nn, vi g0, vi g1, vi g2, vi g3, vi g4, vr bj, vr xj, vi bad, vi pts, vi pE, vi vd, .unset, .unset, .unset, .unset] [(.ref xd)])) _
      refine XS.astore X238.here hx rfl (hb hby at_429) rfl rfl (l' := #[vi p0, vi p1, vi p2, vi p3, vi p4, vi p5, vi nn, vi g0, vi g1, vi g2, vi g3, vi g4, vr bj, vr xj, vi bad, vi pts, vi pE, vi vd, vr xd, .unset, .unset, .unset]) rfl ?_
      refine XS.iload X238.here hx rfl (hb hby at_431) rfl ?_
      refine XS.ifYes X238.here hx rfl (pc0 := 433) (pc' := 447) rfl (hb hby at_433) rfl ((if0 _ _).trans (feq hv0).2) (by decide) (by decide) ?_
      refine XS.aload X238.here hx rfl (hb hby at_447) rfl rfl ?_
      refine XS.ifnonnullYes X238.here hx rfl (pc0 := 449) (pc' := 454) rfl (hb hby at_449) rfl (by decide) (by decide) ?_
      refine XS.iload X238.here hx rfl (hb hby at_454) rfl ?_
      exact Steps.refl _)
    obtain ⟨we, hwe, c245⟩ : ∃ (we : Int32), we = (if pE < (0 : Int32) then nn else pE) ∧ SS p e below S0 (T238.setTop (mkF m 466 #[vi p0, vi p1, vi p2, vi p3, vi p4, vi p5, vi nn, vi g0, vi g1, vi g2, vi g3, vi g4, vr bj, vr xj, vi bad, vi pts, vi pE, vi vd, vr xd, .unset, .unset, .unset] [(.int we)])) := by
      by_cases hq243 : pE < (0 : Int32)
      · exact ⟨_, (by rw [if_pos hq243]), c242.trans (by
          show SS p e below (T238.setTop (mkF m 456 #[vi p0, vi p1, vi p2, vi p3, vi p4, vi p5, vi nn, vi g0, vi g1, vi g2, vi g3, vi g4, vr bj, vr xj, vi bad, vi pts, vi pE, vi vd, vr xd, .unset, .unset, .unset] [(.int pE)])) _
          refine XS.ifNo X238.here hx rfl (hb hby at_456) rfl ((if0 _ _).trans (tlt hq243).2.1) ?_
          refine XS.iload X238.here hx rfl (hb hby at_459) rfl ?_
          refine XS.goto X238.here hx rfl (pc0 := 461) (pc' := 466) rfl (hb hby at_461) (by decide) (by decide) ?_
          exact Steps.refl _)⟩
      · exact ⟨_, (by rw [if_neg hq243]), c242.trans (by
          show SS p e below (T238.setTop (mkF m 456 #[vi p0, vi p1, vi p2, vi p3, vi p4, vi p5, vi nn, vi g0, vi g1, vi g2, vi g3, vi g4, vr bj, vr xj, vi bad, vi pts, vi pE, vi vd, vr xd, .unset, .unset, .unset] [(.int pE)])) _
          refine XS.ifYes X238.here hx rfl (pc0 := 456) (pc' := 464) rfl (hb hby at_456) rfl ((if0 _ _).trans (flt hq243).2.1) (by decide) (by decide) ?_
          refine XS.iload X238.here hx rfl (hb hby at_464) rfl ?_
          exact Steps.refl _)⟩
    have c246 : SS p e below S0 (T238.setTop (mkF m 476 #[vi p0, vi p1, vi p2, vi p3, vi p4, vi p5, vi nn, vi g0, vi g1, vi g2, vi g3, vi g4, vr bj, vr xj, vi bad, vi pts, vi pE, vi vd, vr xd, vi we, vi 0, .unset] [(.int we), (.int 0), (.int g0)])) := c245.trans (by
      show SS p e below (T238.setTop (mkF m 466 #[vi p0, vi p1, vi p2, vi p3, vi p4, vi p5, vi nn, vi g0, vi g1, vi g2, vi g3, vi g4, vr bj, vr xj, vi bad, vi pts, vi pE, vi vd, vr xd, .unset, .unset, .unset] [(.int we)])) _
      refine XS.istore X238.here hx rfl (hb hby at_466) rfl (l' := #[vi p0, vi p1, vi p2, vi p3, vi p4, vi p5, vi nn, vi g0, vi g1, vi g2, vi g3, vi g4, vr bj, vr xj, vi bad, vi pts, vi pE, vi vd, vr xd, vi we, .unset, .unset]) rfl ?_
      refine XS.iconst X238.here hx rfl (hb hby at_468) ?_
      refine XS.istore X238.here hx rfl (hb hby at_469) rfl (l' := #[vi p0, vi p1, vi p2, vi p3, vi p4, vi p5, vi nn, vi g0, vi g1, vi g2, vi g3, vi g4, vr bj, vr xj, vi bad, vi pts, vi pE, vi vd, vr xd, vi we, vi 0, .unset]) rfl ?_
      refine XS.iload X238.here hx rfl (hb hby at_471) rfl ?_
      refine XS.iconst X238.here hx rfl (hb hby at_473) ?_
      refine XS.iload X238.here hx rfl (hb hby at_474) rfl ?_
      exact Steps.refl _)
    obtain ⟨_, _, ⟨T247, L247, kk247, nn247⟩, -, X247, ⟨Lc247, hQ247, l247, y247, z247⟩, st247⟩ := Jvm.LawKit.callS X238 hx (y := (⟨"com/example/pricefold/pricefold/model/DecimalTextReadPinLaw", "zero", "(CII)Z"⟩ : MethodName)) hownj (mvT hZj (ww hw 94 rfl)) (mvT hZj (ww hw 95 rfl)) (mvT hZj (ww hw 3 rfl)) (mvT hZj (ww hw 96 rfl)) (by decide) (backOf (W := 0) (rm_zero l Z a0 hw [] g0 (0 : Int32) we T238.heap n0 z238 ) hZj (ww hw 96 rfl) (ww hw 3 rfl) (by decide) (by decide)) (g := (mkF m 476 #[vi p0, vi p1, vi p2, vi p3, vi p4, vi p5, vi nn, vi g0, vi g1, vi g2, vi g3, vi g4, vr bj, vr xj, vi bad, vi pts, vi pE, vi vd, vr xd, vi we, vi 0, .unset] [(.int we), (.int 0), (.int g0)])) rfl (by rw [hml]; rfl) (argsL := [(.int g0), (.int 0), (.int we)]) (rest := []) (lenOf pd_oCIIcZ rfl) rfl (by show 2 * 0 + _ ≤ _; exact Nat.le_of_eq rfl) (hb hby at_476) (fun _ _ => ⟨rfl, rfl, (by decide : 7 + 0 ≤ _), (by decide : 27 + 0 ≤ _)⟩)
    dsimp only [Pt.U, Pt.locs, Pt.cells, Pt.slots] at X247 l247 y247 z247 st247 hQ247
    subst l247 y247 z247
    obtain ⟨rfl, Nq247, eq247⟩ := hQ247
    have c248 : SS p e below S0 (T247.setTop (mkF m 479 #[vi p0, vi p1, vi p2, vi p3, vi p4, vi p5, vi nn, vi g0, vi g1, vi g2, vi g3, vi g4, vr bj, vr xj, vi bad, vi pts, vi pE, vi vd, vr xd, vi we, vi 0, .unset] [(.int (own_zero g0 (0 : Int32) we))])) := c246.trans (st247 _ (Steps.refl _))
    have N247 := Fr.app N238 Nq247
    obtain ⟨zz, T250, l250, hzz, N250, X250, e250, c250⟩ : ∃ (zz : Int32) (T : State) (locs : List Loc), zz = (if (own_zero g0 (0 : Int32) we) = (0 : Int32) then (0 : Int32) else (if (own_zero g1 (1 : Int32) we) = (0 : Int32) then (1 : Int32) else (if (own_zero g2 (2 : Int32) we) = (0 : Int32) then (2 : Int32) else (if (own_zero g3 (3 : Int32) we) = (0 : Int32) then (3 : Int32) else (if (own_zero g4 (4 : Int32) we) = (0 : Int32) then (4 : Int32) else (5 : Int32)))))) ∧ Fr n0 locs ∧ Stand p l e room_1 (s.setVm vmj) m #[(.int p0), (.int p1), (.int p2), (.int p3), (.int p4), (.int p5)] below meth c T locs 7 27 ∧ T.heap = T238.heap ∧ SS p e below S0 (T.setTop (mkF m 541 #[vi p0, vi p1, vi p2, vi p3, vi p4, vi p5, vi nn, vi g0, vi g1, vi g2, vi g3, vi g4, vr bj, vr xj, vi bad, vi pts, vi pE, vi vd, vr xd, vi we, vi zz, .unset] [])) := by
      by_cases hq251 : (own_zero g0 (0 : Int32) we) = (0 : Int32)
      · have c252 : SS p e below S0 (T247.setTop (mkF m 541 #[vi p0, vi p1, vi p2, vi p3, vi p4, vi p5, vi nn, vi g0, vi g1, vi g2, vi g3, vi g4, vr bj, vr xj, vi bad, vi pts, vi pE, vi vd, vr xd, vi we, vi 0, .unset] [])) := c248.trans (by
          show SS p e below (T247.setTop (mkF m 479 #[vi p0, vi p1, vi p2, vi p3, vi p4, vi p5, vi nn, vi g0, vi g1, vi g2, vi g3, vi g4, vr bj, vr xj, vi bad, vi pts, vi pE, vi vd, vr xd, vi we, vi 0, .unset] [(.int (own_zero g0 (0 : Int32) we))])) _
          refine XS.ifYes X247.here hx rfl (pc0 := 479) (pc' := 541) rfl (hb hby at_479) rfl ((if0 _ _).trans (teq hq251).1) (by decide) (by decide) ?_
          exact Steps.refl _)
        exact ⟨_, T247, _, (by rw [if_pos hq251]), N247, X247, eq247, c252⟩
      · have c253 : SS p e below S0 (T247.setTop (mkF m 490 #[vi p0, vi p1, vi p2, vi p3, vi p4, vi p5, vi nn, vi g0, vi g1, vi g2, vi g3, vi g4, vr bj, vr xj, vi bad, vi pts, vi pE, vi vd, vr xd, vi we, vi 1, .unset] [(.int we), (.int 1), (.int g1)])) := c248.trans (by
          show SS p e below (T247.setTop (mkF m 479 #[vi p0, vi p1, vi p2, vi p3, vi p4, vi p5, vi nn, vi g0, vi g1, vi g2, vi g3, vi g4, vr bj, vr xj, vi bad, vi pts, vi pE, vi vd, vr xd, vi we, vi 0, .unset] [(.int (own_zero g0 (0 : Int32) we))])) _
          refine XS.ifNo X247.here hx rfl (hb hby at_479) rfl ((if0 _ _).trans (feq hq251).1) ?_
          refine XS.iconst X247.here hx rfl (hb hby at_482) ?_
          refine XS.istore X247.here hx rfl (hb hby at_483) rfl (l' := #[vi p0, vi p1, vi p2, vi p3, vi p4, vi p5, vi nn, vi g0, vi g1, vi g2, vi g3, vi g4, vr bj, vr xj, vi bad, vi pts, vi pE, vi vd, vr xd, vi we, vi 1, .unset]) rfl ?_
          refine XS.iload X247.here hx rfl (hb hby at_485) rfl ?_
          refine XS.iconst X247.here hx rfl (hb hby at_487) ?_
          refine XS.iload X247.here hx rfl (hb hby at_488) rfl ?_
          exact Steps.refl _)
        obtain ⟨_, _, ⟨T254, L254, kk254, nn254⟩, -, X254, ⟨Lc254, hQ254, l254, y254, z254⟩, st254⟩ := Jvm.LawKit.callS X247 hx (y := (⟨"com/example/pricefold/pricefold/model/DecimalTextReadPinLaw", "zero", "(CII)Z"⟩ : MethodName)) hownj (mvT hZj (ww hw 94 rfl)) (mvT hZj (ww hw 95 rfl)) (mvT hZj (ww hw 3 rfl)) (mvT hZj (ww hw 96 rfl)) (by decide) (backOf (W := 0) (rm_zero l Z a0 hw [] g1 (1 : Int32) we T238.heap n0 z238 ) hZj (ww hw 96 rfl) (ww hw 3 rfl) (by decide) (by decide)) (g := (mkF m 490 #[vi p0, vi p1, vi p2, vi p3, vi p4, vi p5, vi nn, vi g0, vi g1, vi g2, vi g3, vi g4, vr bj, vr xj, vi bad, vi pts, vi pE, vi vd, vr xd, vi we, vi 1, .unset] [(.int we), (.int 1), (.int g1)])) rfl (by rw [hml]; rfl) (argsL := [(.int g1), (.int 1), (.int we)]) (rest := []) (lenOf pd_oCIIcZ rfl) rfl (by show 2 * 0 + _ ≤ _; exact Nat.le_of_eq rfl) (hb hby at_490) (fun _ _ => ⟨rfl, eq247, (by decide : 7 + 0 ≤ _), (by decide : 27 + 0 ≤ _)⟩)
        dsimp only [Pt.U, Pt.locs, Pt.cells, Pt.slots] at X254 l254 y254 z254 st254 hQ254
        subst l254 y254 z254
        obtain ⟨rfl, Nq254, eq254⟩ := hQ254
        have c255 : SS p e below S0 (T254.setTop (mkF m 493 #[vi p0, vi p1, vi p2, vi p3, vi p4, vi p5, vi nn, vi g0, vi g1, vi g2, vi g3, vi g4, vr bj, vr xj, vi bad, vi pts, vi pE, vi vd, vr xd, vi we, vi 1, .unset] [(.int (own_zero g1 (1 : Int32) we))])) := c253.trans (st254 _ (Steps.refl _))
        have N254 := Fr.app N247 Nq254
        by_cases hq256 : (own_zero g1 (1 : Int32) we) = (0 : Int32)
        · have c257 : SS p e below S0 (T254.setTop (mkF m 541 #[vi p0, vi p1, vi p2, vi p3, vi p4, vi p5, vi nn, vi g0, vi g1, vi g2, vi g3, vi g4, vr bj, vr xj, vi bad, vi pts, vi pE, vi vd, vr xd, vi we, vi 1, .unset] [])) := c255.trans (by
            show SS p e below (T254.setTop (mkF m 493 #[vi p0, vi p1, vi p2, vi p3, vi p4, vi p5, vi nn, vi g0, vi g1, vi g2, vi g3, vi g4, vr bj, vr xj, vi bad, vi pts, vi pE, vi vd, vr xd, vi we, vi 1, .unset] [(.int (own_zero g1 (1 : Int32) we))])) _
            refine XS.ifYes X254.here hx rfl (pc0 := 493) (pc' := 541) rfl (hb hby at_493) rfl ((if0 _ _).trans (teq hq256).1) (by decide) (by decide) ?_
            exact Steps.refl _)
          exact ⟨_, T254, _, (by rw [if_neg hq251, if_pos hq256]), N254, X254, eq254, c257⟩
        · have c258 : SS p e below S0 (T254.setTop (mkF m 504 #[vi p0, vi p1, vi p2, vi p3, vi p4, vi p5, vi nn, vi g0, vi g1, vi g2, vi g3, vi g4, vr bj, vr xj, vi bad, vi pts, vi pE, vi vd, vr xd, vi we, vi 2, .unset] [(.int we), (.int 2), (.int g2)])) := c255.trans (by
            show SS p e below (T254.setTop (mkF m 493 #[vi p0, vi p1, vi p2, vi p3, vi p4, vi p5, vi nn, vi g0, vi g1, vi g2, vi g3, vi g4, vr bj, vr xj, vi bad, vi pts, vi pE, vi vd, vr xd, vi we, vi 1, .unset] [(.int (own_zero g1 (1 : Int32) we))])) _
            refine XS.ifNo X254.here hx rfl (hb hby at_493) rfl ((if0 _ _).trans (feq hq256).1) ?_
            refine XS.iconst X254.here hx rfl (hb hby at_496) ?_
            refine XS.istore X254.here hx rfl (hb hby at_497) rfl (l' := #[vi p0, vi p1, vi p2, vi p3, vi p4, vi p5, vi nn, vi g0, vi g1, vi g2, vi g3, vi g4, vr bj, vr xj, vi bad, vi pts, vi pE, vi vd, vr xd, vi we, vi 2, .unset]) rfl ?_
            refine XS.iload X254.here hx rfl (hb hby at_499) rfl ?_
            refine XS.iconst X254.here hx rfl (hb hby at_501) ?_
            refine XS.iload X254.here hx rfl (hb hby at_502) rfl ?_
            exact Steps.refl _)
          obtain ⟨_, _, ⟨T259, L259, kk259, nn259⟩, -, X259, ⟨Lc259, hQ259, l259, y259, z259⟩, st259⟩ := Jvm.LawKit.callS X254 hx (y := (⟨"com/example/pricefold/pricefold/model/DecimalTextReadPinLaw", "zero", "(CII)Z"⟩ : MethodName)) hownj (mvT hZj (ww hw 94 rfl)) (mvT hZj (ww hw 95 rfl)) (mvT hZj (ww hw 3 rfl)) (mvT hZj (ww hw 96 rfl)) (by decide) (backOf (W := 0) (rm_zero l Z a0 hw [] g2 (2 : Int32) we T238.heap n0 z238 ) hZj (ww hw 96 rfl) (ww hw 3 rfl) (by decide) (by decide)) (g := (mkF m 504 #[vi p0, vi p1, vi p2, vi p3, vi p4, vi p5, vi nn, vi g0, vi g1, vi g2, vi g3, vi g4, vr bj, vr xj, vi bad, vi pts, vi pE, vi vd, vr xd, vi we, vi 2, .unset] [(.int we), (.int 2), (.int g2)])) rfl (by rw [hml]; rfl) (argsL := [(.int g2), (.int 2), (.int we)]) (rest := []) (lenOf pd_oCIIcZ rfl) rfl (by show 2 * 0 + _ ≤ _; exact Nat.le_of_eq rfl) (hb hby at_504) (fun _ _ => ⟨rfl, eq254, (by decide : 7 + 0 ≤ _), (by decide : 27 + 0 ≤ _)⟩)
          dsimp only [Pt.U, Pt.locs, Pt.cells, Pt.slots] at X259 l259 y259 z259 st259 hQ259
          subst l259 y259 z259
          obtain ⟨rfl, Nq259, eq259⟩ := hQ259
          have c260 : SS p e below S0 (T259.setTop (mkF m 507 #[vi p0, vi p1, vi p2, vi p3, vi p4, vi p5, vi nn, vi g0, vi g1, vi g2, vi g3, vi g4, vr bj, vr xj, vi bad, vi pts, vi pE, vi vd, vr xd, vi we, vi 2, .unset] [(.int (own_zero g2 (2 : Int32) we))])) := c258.trans (st259 _ (Steps.refl _))
          have N259 := Fr.app N254 Nq259
          by_cases hq261 : (own_zero g2 (2 : Int32) we) = (0 : Int32)
          · have c262 : SS p e below S0 (T259.setTop (mkF m 541 #[vi p0, vi p1, vi p2, vi p3, vi p4, vi p5, vi nn, vi g0, vi g1, vi g2, vi g3, vi g4, vr bj, vr xj, vi bad, vi pts, vi pE, vi vd, vr xd, vi we, vi 2, .unset] [])) := c260.trans (by
              show SS p e below (T259.setTop (mkF m 507 #[vi p0, vi p1, vi p2, vi p3, vi p4, vi p5, vi nn, vi g0, vi g1, vi g2, vi g3, vi g4, vr bj, vr xj, vi bad, vi pts, vi pE, vi vd, vr xd, vi we, vi 2, .unset] [(.int (own_zero g2 (2 : Int32) we))])) _
              refine XS.ifYes X259.here hx rfl (pc0 := 507) (pc' := 541) rfl (hb hby at_507) rfl ((if0 _ _).trans (teq hq261).1) (by decide) (by decide) ?_
              exact Steps.refl _)
            exact ⟨_, T259, _, (by rw [if_neg hq251, if_neg hq256, if_pos hq261]), N259, X259, eq259, c262⟩
          · have c263 : SS p e below S0 (T259.setTop (mkF m 518 #[vi p0, vi p1, vi p2, vi p3, vi p4, vi p5, vi nn, vi g0, vi g1, vi g2, vi g3, vi g4, vr bj, vr xj, vi bad, vi pts, vi pE, vi vd, vr xd, vi we, vi 3, .unset] [(.int we), (.int 3), (.int g3)])) := c260.trans (by
              show SS p e below (T259.setTop (mkF m 507 #[vi p0, vi p1, vi p2, vi p3, vi p4, vi p5, vi nn, vi g0, vi g1, vi g2, vi g3, vi g4, vr bj, vr xj, vi bad, vi pts, vi pE, vi vd, vr xd, vi we, vi 2, .unset] [(.int (own_zero g2 (2 : Int32) we))])) _
              refine XS.ifNo X259.here hx rfl (hb hby at_507) rfl ((if0 _ _).trans (feq hq261).1) ?_
              refine XS.iconst X259.here hx rfl (hb hby at_510) ?_
              refine XS.istore X259.here hx rfl (hb hby at_511) rfl (l' := #[vi p0, vi p1, vi p2, vi p3, vi p4, vi p5, vi nn, vi g0, vi g1, vi g2, vi g3, vi g4, vr bj, vr xj, vi bad, vi pts, vi pE, vi vd, vr xd, vi we, vi 3, .unset]) rfl ?_
              refine XS.iload X259.here hx rfl (hb hby at_513) rfl ?_
              refine XS.iconst X259.here hx rfl (hb hby at_515) ?_
              refine XS.iload X259.here hx rfl (hb hby at_516) rfl ?_
              exact Steps.refl _)
            obtain ⟨_, _, ⟨T264, L264, kk264, nn264⟩, -, X264, ⟨Lc264, hQ264, l264, y264, z264⟩, st264⟩ := Jvm.LawKit.callS X259 hx (y := (⟨"com/example/pricefold/pricefold/model/DecimalTextReadPinLaw", "zero", "(CII)Z"⟩ : MethodName)) hownj (mvT hZj (ww hw 94 rfl)) (mvT hZj (ww hw 95 rfl)) (mvT hZj (ww hw 3 rfl)) (mvT hZj (ww hw 96 rfl)) (by decide) (backOf (W := 0) (rm_zero l Z a0 hw [] g3 (3 : Int32) we T238.heap n0 z238 ) hZj (ww hw 96 rfl) (ww hw 3 rfl) (by decide) (by decide)) (g := (mkF m 518 #[vi p0, vi p1, vi p2, vi p3, vi p4, vi p5, vi nn, vi g0, vi g1, vi g2, vi g3, vi g4, vr bj, vr xj, vi bad, vi pts, vi pE, vi vd, vr xd, vi we, vi 3, .unset] [(.int we), (.int 3), (.int g3)])) rfl (by rw [hml]; rfl) (argsL := [(.int g3), (.int 3), (.int we)]) (rest := []) (lenOf pd_oCIIcZ rfl) rfl (by show 2 * 0 + _ ≤ _; exact Nat.le_of_eq rfl) (hb hby at_518) (fun _ _ => ⟨rfl, eq259, (by decide : 7 + 0 ≤ _), (by decide : 27 + 0 ≤ _)⟩)
            dsimp only [Pt.U, Pt.locs, Pt.cells, Pt.slots] at X264 l264 y264 z264 st264 hQ264
            subst l264 y264 z264
            obtain ⟨rfl, Nq264, eq264⟩ := hQ264
            have c265 : SS p e below S0 (T264.setTop (mkF m 521 #[vi p0, vi p1, vi p2, vi p3, vi p4, vi p5, vi nn, vi g0, vi g1, vi g2, vi g3, vi g4, vr bj, vr xj, vi bad, vi pts, vi pE, vi vd, vr xd, vi we, vi 3, .unset] [(.int (own_zero g3 (3 : Int32) we))])) := c263.trans (st264 _ (Steps.refl _))
            have N264 := Fr.app N259 Nq264
            by_cases hq266 : (own_zero g3 (3 : Int32) we) = (0 : Int32)
            · have c267 : SS p e below S0 (T264.setTop (mkF m 541 #[vi p0, vi p1, vi p2, vi p3, vi p4, vi p5, vi nn, vi g0, vi g1, vi g2, vi g3, vi g4, vr bj, vr xj, vi bad, vi pts, vi pE, vi vd, vr xd, vi we, vi 3, .unset] [])) := c265.trans (by
                show SS p e below (T264.setTop (mkF m 521 #[vi p0, vi p1, vi p2, vi p3, vi p4, vi p5, vi nn, vi g0, vi g1, vi g2, vi g3, vi g4, vr bj, vr xj, vi bad, vi pts, vi pE, vi vd, vr xd, vi we, vi 3, .unset] [(.int (own_zero g3 (3 : Int32) we))])) _
                refine XS.ifYes X264.here hx rfl (pc0 := 521) (pc' := 541) rfl (hb hby at_521) rfl ((if0 _ _).trans (teq hq266).1) (by decide) (by decide) ?_
                exact Steps.refl _)
              exact ⟨_, T264, _, (by rw [if_neg hq251, if_neg hq256, if_neg hq261, if_pos hq266]), N264, X264, eq264, c267⟩
            · have c268 : SS p e below S0 (T264.setTop (mkF m 532 #[vi p0, vi p1, vi p2, vi p3, vi p4, vi p5, vi nn, vi g0, vi g1, vi g2, vi g3, vi g4, vr bj, vr xj, vi bad, vi pts, vi pE, vi vd, vr xd, vi we, vi 4, .unset] [(.int we), (.int 4), (.int g4)])) := c265.trans (by
                show SS p e below (T264.setTop (mkF m 521 #[vi p0, vi p1, vi p2, vi p3, vi p4, vi p5, vi nn, vi g0, vi g1, vi g2, vi g3, vi g4, vr bj, vr xj, vi bad, vi pts, vi pE, vi vd, vr xd, vi we, vi 3, .unset] [(.int (own_zero g3 (3 : Int32) we))])) _
                refine XS.ifNo X264.here hx rfl (hb hby at_521) rfl ((if0 _ _).trans (feq hq266).1) ?_
                refine XS.iconst X264.here hx rfl (hb hby at_524) ?_
                refine XS.istore X264.here hx rfl (hb hby at_525) rfl (l' := #[vi p0, vi p1, vi p2, vi p3, vi p4, vi p5, vi nn, vi g0, vi g1, vi g2, vi g3, vi g4, vr bj, vr xj, vi bad, vi pts, vi pE, vi vd, vr xd, vi we, vi 4, .unset]) rfl ?_
                refine XS.iload X264.here hx rfl (hb hby at_527) rfl ?_
                refine XS.iconst X264.here hx rfl (hb hby at_529) ?_
                refine XS.iload X264.here hx rfl (hb hby at_530) rfl ?_
                exact Steps.refl _)
              obtain ⟨_, _, ⟨T269, L269, kk269, nn269⟩, -, X269, ⟨Lc269, hQ269, l269, y269, z269⟩, st269⟩ := Jvm.LawKit.callS X264 hx (y := (⟨"com/example/pricefold/pricefold/model/DecimalTextReadPinLaw", "zero", "(CII)Z"⟩ : MethodName)) hownj (mvT hZj (ww hw 94 rfl)) (mvT hZj (ww hw 95 rfl)) (mvT hZj (ww hw 3 rfl)) (mvT hZj (ww hw 96 rfl)) (by decide) (backOf (W := 0) (rm_zero l Z a0 hw [] g4 (4 : Int32) we T238.heap n0 z238 ) hZj (ww hw 96 rfl) (ww hw 3 rfl) (by decide) (by decide)) (g := (mkF m 532 #[vi p0, vi p1, vi p2, vi p3, vi p4, vi p5, vi nn, vi g0, vi g1, vi g2, vi g3, vi g4, vr bj, vr xj, vi bad, vi pts, vi pE, vi vd, vr xd, vi we, vi 4, .unset] [(.int we), (.int 4), (.int g4)])) rfl (by rw [hml]; rfl) (argsL := [(.int g4), (.int 4), (.int we)]) (rest := []) (lenOf pd_oCIIcZ rfl) rfl (by show 2 * 0 + _ ≤ _; exact Nat.le_of_eq rfl) (hb hby at_532) (fun _ _ => ⟨rfl, eq264, (by decide : 7 + 0 ≤ _), (by decide : 27 + 0 ≤ _)⟩)
              dsimp only [Pt.U, Pt.locs, Pt.cells, Pt.slots] at X269 l269 y269 z269 st269 hQ269
              subst l269 y269 z269
              obtain ⟨rfl, Nq269, eq269⟩ := hQ269
              have c270 : SS p e below S0 (T269.setTop (mkF m 535 #[vi p0, vi p1, vi p2, vi p3, vi p4, vi p5, vi nn, vi g0, vi g1, vi g2, vi g3, vi g4, vr bj, vr xj, vi bad, vi pts, vi pE, vi vd, vr xd, vi we, vi 4, .unset] [(.int (own_zero g4 (4 : Int32) we))])) := c268.trans (st269 _ (Steps.refl _))
              have N269 := Fr.app N264 Nq269
              by_cases hq271 : (own_zero g4 (4 : Int32) we) = (0 : Int32)
              · have c272 : SS p e below S0 (T269.setTop (mkF m 541 #[vi p0, vi p1, vi p2, vi p3, vi p4, vi p5, vi nn, vi g0, vi g1, vi g2, vi g3, vi g4, vr bj, vr xj, vi bad, vi pts, vi pE, vi vd, vr xd, vi we, vi 4, .unset] [])) := c270.trans (by
                  show SS p e below (T269.setTop (mkF m 535 #[vi p0, vi p1, vi p2, vi p3, vi p4, vi p5, vi nn, vi g0, vi g1, vi g2, vi g3, vi g4, vr bj, vr xj, vi bad, vi pts, vi pE, vi vd, vr xd, vi we, vi 4, .unset] [(.int (own_zero g4 (4 : Int32) we))])) _
                  refine XS.ifYes X269.here hx rfl (pc0 := 535) (pc' := 541) rfl (hb hby at_535) rfl ((if0 _ _).trans (teq hq271).1) (by decide) (by decide) ?_
                  exact Steps.refl _)
                exact ⟨_, T269, _, (by rw [if_neg hq251, if_neg hq256, if_neg hq261, if_neg hq266, if_pos hq271]), N269, X269, eq269, c272⟩
              · have c273 : SS p e below S0 (T269.setTop (mkF m 541 #[vi p0, vi p1, vi p2, vi p3, vi p4, vi p5, vi nn, vi g0, vi g1, vi g2, vi g3, vi g4, vr bj, vr xj, vi bad, vi pts, vi pE, vi vd, vr xd, vi we, vi 5, .unset] [])) := c270.trans (by
                  show SS p e below (T269.setTop (mkF m 535 #[vi p0, vi p1, vi p2, vi p3, vi p4, vi p5, vi nn, vi g0, vi g1, vi g2, vi g3, vi g4, vr bj, vr xj, vi bad, vi pts, vi pE, vi vd, vr xd, vi we, vi 4, .unset] [(.int (own_zero g4 (4 : Int32) we))])) _
                  refine XS.ifNo X269.here hx rfl (hb hby at_535) rfl ((if0 _ _).trans (feq hq271).1) ?_
                  refine XS.iconst X269.here hx rfl (hb hby at_538) ?_
                  refine XS.istore X269.here hx rfl (hb hby at_539) rfl (l' := #[vi p0, vi p1, vi p2, vi p3, vi p4, vi p5, vi nn, vi g0, vi g1, vi g2, vi g3, vi g4, vr bj, vr xj, vi bad, vi pts, vi pE, vi vd, vr xd, vi we, vi 5, .unset]) rfl ?_
                  exact Steps.refl _)
                exact ⟨_, T269, _, (by rw [if_neg hq251, if_neg hq256, if_neg hq261, if_neg hq266, if_neg hq271]), N269, X269, eq269, c273⟩
    have c274 : SS p e below S0 (T250.setTop (mkF m 543 #[vi p0, vi p1, vi p2, vi p3, vi p4, vi p5, vi nn, vi g0, vi g1, vi g2, vi g3, vi g4, vr bj, vr xj, vi bad, vi pts, vi pE, vi vd, vr xd, vi we, vi zz, .unset] [(.int pE)])) := c250.trans (by
      show SS p e below (T250.setTop (mkF m 541 #[vi p0, vi p1, vi p2, vi p3, vi p4, vi p5, vi nn, vi g0, vi g1, vi g2, vi g3, vi g4, vr bj, vr xj, vi bad, vi pts, vi pE, vi vd, vr xd, vi we, vi zz, .unset] [])) _
      refine XS.iload X250.here hx rfl (hb hby at_541) rfl ?_
      exact Steps.refl _)
    obtain ⟨pl, hpl, c277⟩ : ∃ (pl : Int32), pl = (if pE < (0 : Int32) then (0 : Int32) else ((nn - pE) - (1 : Int32))) ∧ SS p e below S0 (T250.setTop (mkF m 557 #[vi p0, vi p1, vi p2, vi p3, vi p4, vi p5, vi nn, vi g0, vi g1, vi g2, vi g3, vi g4, vr bj, vr xj, vi bad, vi pts, vi pE, vi vd, vr xd, vi we, vi zz, .unset] [(.int pl)])) := by
      by_cases hq275 : pE < (0 : Int32)
      · exact ⟨_, (by rw [if_pos hq275]), c274.trans (by
          show SS p e below (T250.setTop (mkF m 543 #[vi p0, vi p1, vi p2, vi p3, vi p4, vi p5, vi nn, vi g0, vi g1, vi g2, vi g3, vi g4, vr bj, vr xj, vi bad, vi pts, vi pE, vi vd, vr xd, vi we, vi zz, .unset] [(.int pE)])) _
          refine XS.ifNo X250.here hx rfl (hb hby at_543) rfl ((if0 _ _).trans (tlt hq275).2.1) ?_
          refine XS.iconst X250.here hx rfl (hb hby at_546) ?_
          refine XS.goto X250.here hx rfl (pc0 := 547) (pc' := 557) rfl (hb hby at_547) (by decide) (by decide) ?_
          exact Steps.refl _)⟩
      · exact ⟨_, (by rw [if_neg hq275]), c274.trans (by
          show SS p e below (T250.setTop (mkF m 543 #[vi p0, vi p1, vi p2, vi p3, vi p4, vi p5, vi nn, vi g0, vi g1, vi g2, vi g3, vi g4, vr bj, vr xj, vi bad, vi pts, vi pE, vi vd, vr xd, vi we, vi zz, .unset] [(.int pE)])) _
          refine XS.ifYes X250.here hx rfl (pc0 := 543) (pc' := 550) rfl (hb hby at_543) rfl ((if0 _ _).trans (flt hq275).2.1) (by decide) (by decide) ?_
          refine XS.iload X250.here hx rfl (hb hby at_550) rfl ?_
          refine XS.iload X250.here hx rfl (hb hby at_552) rfl ?_
          refine XS.isub X250.here hx rfl (hb hby at_554) rfl ?_
          refine XS.iconst X250.here hx rfl (hb hby at_555) ?_
          refine XS.isub X250.here hx rfl (hb hby at_556) rfl ?_
          exact Steps.refl _)⟩
    obtain ⟨fe1, fe2⟩ := fn2 _ _ _ hwe hzz hpl
    have c278 : SS p e below S0 (T250.setTop (mkF m 561 #[vi p0, vi p1, vi p2, vi p3, vi p4, vi p5, vi nn, vi g0, vi g1, vi g2, vi g3, vi g4, vr bj, vr xj, vi bad, vi pts, vi pE, vi vd, vr xd, vi we, vi zz, vi pl] [(.ref xd)])) := c277.trans (by
      show SS p e below (T250.setTop (mkF m 557 #[vi p0, vi p1, vi p2, vi p3, vi p4, vi p5, vi nn, vi g0, vi g1, vi g2, vi g3, vi g4, vr bj, vr xj, vi bad, vi pts, vi pE, vi vd, vr xd, vi we, vi zz, .unset] [(.int pl)])) _
      refine XS.istore X250.here hx rfl (hb hby at_557) rfl (l' := #[vi p0, vi p1, vi p2, vi p3, vi p4, vi p5, vi nn, vi g0, vi g1, vi g2, vi g3, vi g4, vr bj, vr xj, vi bad, vi pts, vi pE, vi vd, vr xd, vi we, vi zz, vi pl]) rfl ?_
      refine XS.aload X250.here hx rfl (hb hby at_559) rfl rfl ?_
      exact Steps.refl _)
    obtain ⟨cq279, kq279, q279a, q279b, q279c⟩ := isOf hZj e250 Ei238
    obtain ⟨_, _, ⟨T279, L279, kk279, nn279⟩, -, X279, ⟨Lc279, hQ279, l279, y279, z279⟩, st279⟩ := X250.virtualBack hx (y := (⟨"com/example/pricefold/pricefold/model/DecimalText", "wholeDigits", "()I"⟩ : MethodName)) (z := (⟨"com/example/pricefold/pricefold/model/DecimalText", "wholeDigits", "()I"⟩ : MethodName)) hownj (mvT hZj (ww hw 97 rfl)) (mvT hZj (ww hw 98 rfl)) (notFace_of_selects (args := #[]) (mvT hZj (ww hw 100 rfl))) (mvT hZj (ww hw 100 rfl)) (mvT hZj (ww hw 99 rfl)) (by decide) (backOf (W := 0) (rmWD l Z a0 hw [] xd (Int32.ofNat st) we0 T238.heap n0 z238 Fb238 Fd238) hZj (ww hw 101 rfl) (ww hw 37 rfl) (by decide) (by decide)) q279a q279c (g := (mkF m 561 #[vi p0, vi p1, vi p2, vi p3, vi p4, vi p5, vi nn, vi g0, vi g1, vi g2, vi g3, vi g4, vr bj, vr xj, vi bad, vi pts, vi pE, vi vd, vr xd, vi we, vi zz, vi pl] [(.ref xd)])) rfl (by rw [hml]; rfl) (Steps.refl _) (argsL := []) (rest := []) (lenOf pd_ocI rfl) rfl (by show 2 * 0 + _ ≤ _; exact Nat.le_of_eq rfl) (hb hby at_561) (fun _ _ => ⟨rfl, e250, (by decide : 7 + 0 ≤ _), (by decide : 27 + 0 ≤ _)⟩)
    dsimp only [Pt.U, Pt.locs, Pt.cells, Pt.slots] at X279 l279 y279 z279 st279 hQ279
    subst l279 y279 z279
    obtain ⟨rfl, Nq279, eq279⟩ := hQ279
    have c280 : SS p e below S0 (T279.setTop (mkF m 564 #[vi p0, vi p1, vi p2, vi p3, vi p4, vi p5, vi nn, vi g0, vi g1, vi g2, vi g3, vi g4, vr bj, vr xj, vi bad, vi pts, vi pE, vi vd, vr xd, vi we, vi zz, vi pl] [(.int (we0 - (Int32.ofNat st)))])) := c278.trans (st279)
    have N279 := Fr.app N250 Nq279
    have c281 : SS p e below S0 (T279.setTop (mkF m 574 #[vi p0, vi p1, vi p2, vi p3, vi p4, vi p5, vi nn, vi g0, vi g1, vi g2, vi g3, vi g4, vr bj, vr xj, vi bad, vi pts, vi pE, vi vd, vr xd, vi we, vi zz, vi pl] [(.ref xd)])) := c280.trans (by
      show SS p e below (T279.setTop (mkF m 564 #[vi p0, vi p1, vi p2, vi p3, vi p4, vi p5, vi nn, vi g0, vi g1, vi g2, vi g3, vi g4, vr bj, vr xj, vi bad, vi pts, vi pE, vi vd, vr xd, vi we, vi zz, vi pl] [(.int (we0 - (Int32.ofNat st)))])) _
      refine XS.iload X279.here hx rfl (hb hby at_564) rfl ?_
      refine XS.iload X279.here hx rfl (hb hby at_566) rfl ?_
      refine XS.isub X279.here hx rfl (hb hby at_568) rfl ?_
      refine XS.icmpNo X279.here hx rfl (hb hby at_569) rfl (teq fe1).2 ?_
      refine XS.aload X279.here hx rfl (hb hby at_572) rfl rfl ?_
      exact Steps.refl _)
    obtain ⟨cq282, kq282, q282a, q282b, q282c⟩ := isOf hZj eq279 Ei238
    obtain ⟨_, _, ⟨T282, L282, kk282, nn282⟩, -, X282, ⟨Lc282, hQ282, l282, y282, z282⟩, st282⟩ := X279.virtualBack hx (y := (⟨"com/example/pricefold/pricefold/model/DecimalText", "decimalPlaces", "()I"⟩ : MethodName)) (z := (⟨"com/example/pricefold/pricefold/model/DecimalText", "decimalPlaces", "()I"⟩ : MethodName)) hownj (mvT hZj (ww hw 102 rfl)) (mvT hZj (ww hw 103 rfl)) (notFace_of_selects (args := #[]) (mvT hZj (ww hw 105 rfl))) (mvT hZj (ww hw 105 rfl)) (mvT hZj (ww hw 104 rfl)) (by decide) (backOf (W := 0) (rmDP l Z a0 hw [] xd we0 xj tj kbj cdj Nj vsj (own_txt nn g0 g1 g2 g3 g4) G1 T238.heap n0 z238 Fa238 Fd238 ⟨(Sgj.1.keep Kq238), (Sgj.2.1.keep Kq238 nin0), (Sgj.2.2.1.keep Kq238 nin0), (Sgj.2.2.2.1.keep Kq238 nin0), Sgj.2.2.2.2⟩ O2 P5 (Oj.keep Kq238 all0)) hZj (ww hw 106 rfl) (ww hw 37 rfl) (by decide) (by decide)) q282a q282c (g := (mkF m 574 #[vi p0, vi p1, vi p2, vi p3, vi p4, vi p5, vi nn, vi g0, vi g1, vi g2, vi g3, vi g4, vr bj, vr xj, vi bad, vi pts, vi pE, vi vd, vr xd, vi we, vi zz, vi pl] [(.ref xd)])) rfl (by rw [hml]; rfl) (Steps.refl _) (argsL := []) (rest := []) (lenOf pd_ocI rfl) rfl (by show 2 * 0 + _ ≤ _; exact Nat.le_of_eq rfl) (hb hby at_574) (fun _ _ => ⟨rfl, eq279, (by decide : 7 + 0 ≤ _), (by decide : 27 + 0 ≤ _)⟩)
    dsimp only [Pt.U, Pt.locs, Pt.cells, Pt.slots] at X282 l282 y282 z282 st282 hQ282
    subst l282 y282 z282
    obtain ⟨rfl, Nq282, eq282⟩ := hQ282
    have c283 : SS p e below S0 (T282.setTop (mkF m 577 #[vi p0, vi p1, vi p2, vi p3, vi p4, vi p5, vi nn, vi g0, vi g1, vi g2, vi g3, vi g4, vr bj, vr xj, vi bad, vi pts, vi pE, vi vd, vr xd, vi we, vi zz, vi pl] [(.int (if we0 = (Int32.ofNat (own_txt nn g0 g1 g2 g3 g4).length) then (0 : Int32) else (Int32.ofNat (own_txt nn g0 g1 g2 g3 g4).length) - we0 - (1 : Int32)))])) := c281.trans (st282)
    have N282 := Fr.app N279 Nq282
    rw [htl] at c283
    have c284 : SS p e below S0 (T282.setTop (mkF m 587 #[vi p0, vi p1, vi p2, vi p3, vi p4, vi p5, vi nn, vi g0, vi g1, vi g2, vi g3, vi g4, vr bj, vr xj, vi bad, vi pts, vi pE, vi vd, vr xd, vi we, vi zz, vi pl] [(.int 1)])) := c283.trans (by
      show SS p e below (T282.setTop (mkF m 577 #[vi p0, vi p1, vi p2, vi p3, vi p4, vi p5, vi nn, vi g0, vi g1, vi g2, vi g3, vi g4, vr bj, vr xj, vi bad, vi pts, vi pE, vi vd, vr xd, vi we, vi zz, vi pl] [(.int (if we0 = nn then (0 : Int32) else nn - we0 - (1 : Int32)))])) _
      refine XS.iload X282.here hx rfl (hb hby at_577) rfl ?_
      refine XS.icmpNo X282.here hx rfl (hb hby at_579) rfl (teq fe2).2 ?_
      refine XS.iconst X282.here hx rfl (hb hby at_582) ?_
      refine XS.goto X282.here hx rfl (pc0 := 583) (pc' := 587) rfl (hb hby at_583) (by decide) (by decide) ?_
      exact Steps.refl _)
    obtain ⟨fs, hr, hrun, hended, hW⟩ := X282.leaveW hSj (by rw [eq282]; exact (Nat.le_trans hkj Kq238.1)) (v := some (.int 1)) (fun h => by rw [Bd.returns] at h; cases h)
    refine ⟨_, _, c284.trans (retOut X282 hx Bd.returns rfl (Or.inl ⟨rfl, by simp, _, rfl⟩) (hb hby at_587) hr), hrun, hended, _, _, rfl, ?_, ?_, hW.1, hW.2.1, hW.2.2.1, hW.2.2.2.mono (by first | decide | exact Nat.le_of_ble_eq_true rfl) (by first | decide | exact Nat.le_of_ble_eq_true rfl)⟩
    · show Q0 Z  h0 n0 _ T282.heap _
      rw [eq282]
      exact ⟨rfl, N282⟩
    · show CHr Z EL s.vm s.heap T282.vm T282.heap
      rw [hh, eq282]; exact R238.trans (CHv.at X282 hZj hEL R238.1)

theorem own_evI {s : State} {args : Array Value} {t : Term} {k : Int32} (h : (Cond.eq t (.int k)).value args s none s [] = some true) : t.eval args s none [] s = some (.int k) := by
  obtain ⟨x, y, e1, e2, -⟩ := cmp_v (Or.inl h)
  simp only [Cond.value, e1, Term.int_eval] at h
  cases x <;> simp at h
  rw [e1, h]

set_option maxRecDepth 65536 in
set_option maxHeartbeats 40000000 in
theorem comes_1 {Post : Tables → Env → Array Value → State → Outcome → State → Prop} (hpost : ∀ tb e args s v u, (limb_1_1.after args s (.returned v) u = true ∧ limb_1_2.after args s (.returned v) u = true ∧ True) → ReturnedEndW s (.returned v) u (Jvm.fieldLocs frame_1_writes args s ++ Jvm.arrayLocs frame_1_arrays args s ++ Jvm.staticLocs frame_1_statics s) 24 1152 → Post tb e args s (.returned v) u) :
    ArmFor flags0 classFile x code maxLocals ret World_1 tables_1 room_1 Calls_1 rest_1 Pre_1 Post := by
  intro l hfl _ _ p e ha hc hk s m args below hf hA hF happ hP
  obtain ⟨hcalls, hrest, hpre⟩ := hP
  obtain ⟨-, -, -, hnamed, -, -, -, hat⟩ := (Spec.applies_iff hf).mp happ
  obtain ⟨hg, hn⟩ := and_e (Cond.before_iff.mp (show (Jvm.Cond.and given_1 narrow_1).before args s = true from hpre))
  obtain ⟨hcnt, hr1⟩ := and_e hg
  obtain ⟨ga0, hr2⟩ := and_e hr1
  obtain ⟨ga1, hr3⟩ := and_e hr2
  obtain ⟨ga2, hr4⟩ := and_e hr3
  obtain ⟨ga3, hr5⟩ := and_e hr4
  obtain ⟨ga4, hr6⟩ := and_e hr5
  obtain ⟨w0, w1, w2, w3, w4, w5, rfl⟩ : ∃ w0 w1 w2 w3 w4 w5 : Value, args = #[w0, w1, w2, w3, w4, w5] := by
    have hs : args.size = 6 := by simpa [Cond.value, given_1] using hcnt
    obtain ⟨L⟩ := args
    match L, hs with
    | [w0, w1, w2, w3, w4, w5], _ => exact ⟨w0, w1, w2, w3, w4, w5, rfl⟩
  have hw := fun d (hd : d ∈ tables_1) => atoms_spec (ws := Jvm.Cond.code x code maxLocals ret :: tables_1) hat d (List.mem_cons_of_mem _ hd)
  have hfit : Fit s := fun {y c} hc i hi => by
    obtain ⟨ha, rfl⟩ := Array.getElem?_eq_some_iff.mp hc
    have q := List.all_eq_true.mp ((Array.all_eq_true_iff_forall_mem.mp hF) _ (Array.getElem_mem ha)) i (List.mem_range.mpr hi)
    simpa [Array.getElem?_eq_getElem hi] using q
  obtain ⟨hsets, hown0⟩ := atoms_of _ (rest_1_c_eq ▸ (show rest_1_c.before _ s = true from hrest))
  obtain ⟨i0, ei0⟩ := is_v ga0
  obtain rfl : w0 = (.int i0) := Option.some.inj ei0
  obtain ⟨i1, ei1⟩ := is_v ga1
  obtain rfl : w1 = (.int i1) := Option.some.inj ei1
  obtain ⟨i2, ei2⟩ := is_v ga2
  obtain rfl : w2 = (.int i2) := Option.some.inj ei2
  obtain ⟨i3, ei3⟩ := is_v ga3
  obtain rfl : w3 = (.int i3) := Option.some.inj ei3
  obtain ⟨i4, ei4⟩ := is_v ga4
  obtain rfl : w4 = (.int i4) := Option.some.inj ei4
  obtain ⟨i5, ei5⟩ := is_v hr6
  obtain rfl : w5 = (.int i5) := Option.some.inj ei5
  have n3 := not_v (Cond.before_iff.mp (hsets _ (List.mem_of_getElem? (i := 2) rfl)))
  obtain ⟨G1, eG1⟩ := is_v (Cond.before_iff.mp (hsets _ (List.mem_of_getElem? (i := 1) rfl)))
  have O2 : Sta s s.heap "java/lang/String" "COMPACT_STRINGS" "Z" (.int G1) := Sta.start eG1 (Or.inl (hsets _ (List.mem_of_getElem? (i := 0) rfl)))
  have P5 : ¬ (G1 = (0 : Int32)) := gotF (Cond.eq_ints eG1 (Term.int_eval (0))) n3
  obtain ⟨G3, eG3, rG3⟩ := isR_v (Cond.before_iff.mp (hsets _ (List.mem_of_getElem? (i := 8) rfl)))
  have O4 : Sta s s.heap "jdk/internal/util/Preconditions" "SIOOBE_FORMATTER" "Ljava/util/function/BiFunction;" G3 := Sta.start eG3 (Or.inl (hsets _ (List.mem_of_getElem? (i := 7) rfl)))
  have sAD : Sta s s.heap "java/lang/StringUTF16" "$assertionsDisabled" "Z" (.int (1 : Int32)) := Sta.start (own_evI (Cond.before_iff.mp (hsets _ (List.mem_of_getElem? (i := 12) rfl)))) (Or.inl (hsets _ (List.mem_of_getElem? (i := 11) rfl)))
  have sHI : Sta s s.heap "java/lang/StringUTF16" "HI_BYTE_SHIFT" "I" (.int (0 : Int32)) := Sta.start (own_evI (Cond.before_iff.mp (hsets _ (List.mem_of_getElem? (i := 15) rfl)))) (Or.inl (hsets _ (List.mem_of_getElem? (i := 14) rfl)))
  have sLO : Sta s s.heap "java/lang/StringUTF16" "LO_BYTE_SHIFT" "I" (.int (8 : Int32)) := Sta.start (own_evI (Cond.before_iff.mp (hsets _ (List.mem_of_getElem? (i := 18) rfl)))) (Or.inl (hsets _ (List.mem_of_getElem? (i := 17) rfl)))
  obtain ⟨n, o, h1, h2, h3, _, L, rfl, ⟨rfl, N⟩, -, hq⟩ := rm0 l s _ hw tables_1 i0 i1 i2 i3 i4 i5 G1 G3 s.heap s.heap.size (Nat.le_refl _) sAD sHI sLO O2 P5 (Old.start s) O4 rG3 p e ha hc hk s m _ below hf ((Spec.applies_iff_loose hf).mp happ).1 ⟨rfl, State.Warmed39.refl s, rfl, own_CH hw hcalls.1 (hsets _ (List.mem_of_getElem? (i := 2) rfl))⟩ trivial
  refine ⟨n, _, h1, h2, h3, hpost _ _ _ _ _ _ ⟨Cond.after_iff.mpr rfl, Cond.after_iff.mpr (eq_i res_at (Term.int_eval (1)) rfl), trivial⟩ ⟨hq.1, hq.2.1, hq.2.2.1, (hq.2.2.2.sift fun y hy => Or.inr (N y hy)).mono (by decide) (by decide)⟩⟩
theorem main_1_1 : Claimed_1_1 := comes_1 fun _ _ _ _ _ _ h hF => ⟨h.1, hF⟩
theorem main_1_2 : Claimed_1_2 := comes_1 fun _ _ _ _ _ _ h hF => ⟨h.2.1, hF⟩
end Jvm.Pilot.@@N@@
namespace Jvm.Pilot.@@N@@
open Jvm Jvm.ClassFile Sem Op Lib Jvm.Free Jvm.Stand Jvm.Pilot.@@N@@.Jvm.D
/-! MADE BY PROGRAM (witnessworld.py) out of the Statement's table words and the real class files: 20 classes; the members and pool entries that the words name. The judged class is class 1, her method 1. -/
namespace start1
open Jvm.ClassFile
def u (s : String) : CpInfo := .utf8 (stringToUtf16 s)
/-- a pool by its gaps: so many unusable entries, then the entry; so many at the end -/
def gap : Nat → List CpInfo → List CpInfo
  | 0, r => r
  | n + 1, r => .unusable :: gap n r
def poolList (es : List (Nat × CpInfo)) (last : Nat) : List CpInfo := es.foldr (fun e r => gap e.1 (e.2 :: r)) (gap last [])
def pool (es : List (Nat × CpInfo)) (last : Nat) : Array CpInfo := ⟨poolList es last⟩
def fileOf (pool : Array CpInfo) (this : Nat) (attrs : Array Attribute := #[]) (ms : Array MethodInfo := #[]) (fl : Nat := 33) (sup : Nat := 0) (ifs : Array Nat := #[]) (fds : Array FieldInfo := #[]) : ClassFile where
  minorVersion := 0
  majorVersion := 65
  constantPool := pool
  accessFlags := fl
  thisClass := this
  superClass := sup
  interfaces := ifs
  fields := fds
  methods := ms
  attributes := attrs
def plain (name : String) (sup : Option ClassId) : Class where
  name := name
  kind := .ordinary
  loader := none
  accessFlags := 33
  super := sup
  interfaces := #[]
  cf := none
  fields := #[]
  methods := #[]
  instanceTypes := #[]
  staticTypes := #[]
  resolved := #[]
  callSites := []
  init := .initialized
  statics := none
  mirror := none

def pool0 : Array CpInfo := pool [(5, u "<init>"), (0, u "()V"), (1, .class_ 10), (1, u "java/lang/Object")] 113

def k0c0 : Code := { maxStack := 0, maxLocals := 1, code := object_method_1_code, exceptionTable := #[], attributes := #[] }
def k0m0 : Method := { name := "<init>", desc := "()V", sig := { parameters := [], returnType := none }, accessFlags := 1, code := some k0c0 }
/-- java/lang/Object -/
def k0 : Class := { plain "java/lang/Object" none with
  accessFlags := 33
  interfaces := #[]
  cf := some (fileOf pool0 8 #[] #[{ accessFlags := 1, nameIndex := 5, descriptorIndex := 6, attributes := #[] }] 33 0 #[] #[])
  fields := #[]
  methods := #[k0m0]
  instanceTypes := #[]
  staticTypes := #[]
  resolved := Array.replicate 124 none
  statics := none }

def pool1 : Array CpInfo := pool [(2, .class_ 4), (1, u "java/lang/Object"), (0, u "<init>"), (0, u "()V"), (0, .integer 2147483647), (0, .methodref 9 10), (0, .class_ 11), (0, .nameAndType 12 13), (0, u "com/example/pricefold/pricefold/model/DecimalTextReadPinLaw"), (0, u "draw"), (0, u "(I)C"), (0, .class_ 15), (0, u "java/lang/String"), (0, .methodref 14 17), (0, .nameAndType 5 18), (0, u "([C)V"), (0, .methodref 9 20), (0, .nameAndType 21 22), (0, u "odd"), (0, u "(CII)Z"), (0, .methodref 9 24), (0, .nameAndType 25 26), (0, u "pt"), (0, u "(CII)I"), (0, .methodref 28 29), (0, .class_ 30), (0, .nameAndType 31 32), (0, u "com/example/pricefold/pricefold/model/DecimalText"), (0, u "read"), (0, u "(Ljava/lang/String;)Lcom/example/pricefold/pricefold/model/DecimalText;"), (0, .methodref 9 34), (0, .nameAndType 35 22), (0, u "zero"), (0, .methodref 28 37), (0, .nameAndType 38 39), (0, u "wholeDigits"), (0, u "()I"), (0, .methodref 28 41), (0, .nameAndType 42 39), (0, u "decimalPlaces"), (0, .integer 65536), (0, .integer 65535), (2, u "law"), (0, u "(IIIIII)Z")] 5

def k1m0 : Method := { name := "<init>", desc := "()V", sig := { parameters := [], returnType := none }, accessFlags := 1, code := none }
def k1c1 : Code := { maxStack := 4, maxLocals := 22, code := code, exceptionTable := #[], attributes := #[] }
def k1m1 : Method := { name := "law", desc := "(IIIIII)Z", sig := { parameters := [.int, .int, .int, .int, .int, .int], returnType := some .boolean }, accessFlags := 9, code := some k1c1 }
def k1c2 : Code := { maxStack := 2, maxLocals := 2, code := method_3_code, exceptionTable := #[], attributes := #[] }
def k1m2 : Method := { name := "draw", desc := "(I)C", sig := { parameters := [.int], returnType := some .char }, accessFlags := 10, code := some k1c2 }
def k1c3 : Code := { maxStack := 2, maxLocals := 3, code := method_4_code, exceptionTable := #[], attributes := #[] }
def k1m3 : Method := { name := "odd", desc := "(CII)Z", sig := { parameters := [.char, .int, .int], returnType := some .boolean }, accessFlags := 10, code := some k1c3 }
def k1c4 : Code := { maxStack := 2, maxLocals := 3, code := method_5_code, exceptionTable := #[], attributes := #[] }
def k1m4 : Method := { name := "pt", desc := "(CII)I", sig := { parameters := [.char, .int, .int], returnType := some .int }, accessFlags := 10, code := some k1c4 }
def k1c5 : Code := { maxStack := 2, maxLocals := 3, code := method_6_code, exceptionTable := #[], attributes := #[] }
def k1m5 : Method := { name := "zero", desc := "(CII)Z", sig := { parameters := [.char, .int, .int], returnType := some .boolean }, accessFlags := 10, code := some k1c5 }
/-- com/example/pricefold/pricefold/model/DecimalTextReadPinLaw -/
def k1 : Class := { plain "com/example/pricefold/pricefold/model/DecimalTextReadPinLaw" (some 0) with
  accessFlags := 49
  interfaces := #[]
  cf := some (fileOf pool1 9 #[] #[{ accessFlags := 1, nameIndex := 5, descriptorIndex := 6, attributes := #[] }, { accessFlags := 9, nameIndex := 47, descriptorIndex := 48, attributes := #[] }, { accessFlags := 10, nameIndex := 12, descriptorIndex := 13, attributes := #[] }, { accessFlags := 10, nameIndex := 21, descriptorIndex := 22, attributes := #[] }, { accessFlags := 10, nameIndex := 25, descriptorIndex := 26, attributes := #[] }, { accessFlags := 10, nameIndex := 35, descriptorIndex := 22, attributes := #[] }] 49 2 #[] #[])
  fields := #[]
  methods := #[k1m0, k1m1, k1m2, k1m3, k1m4, k1m5]
  instanceTypes := #[]
  staticTypes := #[]
  resolved := Array.replicate 54 none
  statics := none }

def pool2 : Array CpInfo := pool [(1, .class_ 2), (0, u "java/io/Serializable"), (0, .class_ 4), (0, u "java/lang/Object")] 2

/-- java/io/Serializable -/
def k2 : Class := { plain "java/io/Serializable" (some 0) with
  accessFlags := 1537
  interfaces := #[]
  cf := some (fileOf pool2 1 #[] #[] 1537 3 #[] #[])
  fields := #[]
  methods := #[]
  instanceTypes := #[]
  staticTypes := #[]
  resolved := Array.replicate 7 none
  statics := none }

def pool3 : Array CpInfo := pool [(1, .class_ 2), (0, u "java/lang/Comparable"), (0, .class_ 4), (0, u "java/lang/Object")] 7

/-- java/lang/Comparable -/
def k3 : Class := { plain "java/lang/Comparable" (some 0) with
  accessFlags := 1537
  interfaces := #[]
  cf := some (fileOf pool3 1 #[] #[] 1537 3 #[] #[])
  fields := #[]
  methods := #[]
  instanceTypes := #[]
  staticTypes := #[]
  resolved := Array.replicate 12 none
  statics := none }

def pool4 : Array CpInfo := pool [(2, .class_ 4), (1, u "java/lang/CharSequence"), (42, .class_ 48), (0, u "java/lang/CharSequence$1CodePointIterator"), (10, .class_ 60), (0, u "java/lang/CharSequence$1CharIterator"), (5, .class_ 67), (0, u "java/lang/Object")] 63

/-- java/lang/CharSequence -/
def k4 : Class := { plain "java/lang/CharSequence" (some 0) with
  accessFlags := 1537
  interfaces := #[]
  cf := some (fileOf pool4 2 #[.nestMembers #[47, 59]] #[] 1537 66 #[] #[])
  fields := #[]
  methods := #[]
  instanceTypes := #[]
  staticTypes := #[]
  resolved := Array.replicate 131 none
  statics := none }

def pool5 : Array CpInfo := pool [(1, .class_ 2), (0, u "java/lang/constant/Constable"), (0, .class_ 4), (0, u "java/lang/Object")] 6

/-- java/lang/constant/Constable -/
def k5 : Class := { plain "java/lang/constant/Constable" (some 0) with
  accessFlags := 1537
  interfaces := #[]
  cf := some (fileOf pool5 1 #[] #[] 1537 3 #[] #[])
  fields := #[]
  methods := #[]
  instanceTypes := #[]
  staticTypes := #[]
  resolved := Array.replicate 11 none
  statics := none }

def pool6 : Array CpInfo := pool [(1, .class_ 2), (0, u "java/lang/constant/ConstantDesc"), (0, .class_ 4), (0, u "java/lang/Object")] 32

/-- java/lang/constant/ConstantDesc -/
def k6 : Class := { plain "java/lang/constant/ConstantDesc" (some 0) with
  accessFlags := 1537
  interfaces := #[]
  cf := some (fileOf pool6 1 #[] #[] 1537 3 #[] #[])
  fields := #[]
  methods := #[]
  instanceTypes := #[]
  staticTypes := #[]
  resolved := Array.replicate 37 none
  statics := none }

def pool7 : Array CpInfo := pool [(1, .methodref 2 3), (0, .class_ 4), (0, .nameAndType 5 6), (0, u "java/lang/Object"), (0, u "<init>"), (0, u "()V"), (0, .string 8), (0, u ""), (0, .fieldref 10 11), (0, .class_ 12), (0, .nameAndType 13 14), (0, u "java/lang/String"), (0, u "value"), (0, u "[B"), (0, .fieldref 10 16), (0, .nameAndType 17 18), (0, u "coder"), (0, u "B"), (2, u "hash"), (0, u "I"), (2, u "hashIsZero"), (0, u "Z"), (0, .methodref 10 28), (0, .nameAndType 5 29), (0, u "([CIILjava/lang/Void;)V"), (8, .fieldref 10 39), (0, .nameAndType 40 26), (0, u "COMPACT_STRINGS"), (1, .class_ 44), (1, u "java/lang/StringUTF16"), (0, u "compress"), (1, .methodref 42 48), (0, .nameAndType 49 50), (0, u "coderFromArrayLen"), (0, u "([BI)B"), (56, .class_ 109), (1, u "java/lang/StringLatin1"), (32, u "()Z"), (34, .methodref 42 178), (0, .nameAndType 45 179), (0, u "([CII)[B"), (154, u "()I"), (0, .methodref 10 336), (0, .nameAndType 17 337), (0, u "()B"), (25, u "([BI)C"), (27, u "(II)V"), (35, u "(I)C"), (64, .methodref 10 493), (0, .nameAndType 494 142), (0, u "isLatin1"), (0, .methodref 107 496), (0, .nameAndType 497 363), (0, u "charAt"), (0, .methodref 42 496), (2, u "checkIndex"), (5, u "length"), (67, .class_ 576), (0, u "java/lang/CharSequence"), (22, u "CASE_INSENSITIVE_ORDER"), (0, u "Ljava/util/Comparator;"), (409, u "([C)V"), (42, .fieldref 1054 1055), (0, .class_ 1056), (0, .nameAndType 1057 1058), (0, u "jdk/internal/util/Preconditions"), (0, u "SIOOBE_FORMATTER"), (0, u "Ljava/util/function/BiFunction;"), (0, .methodref 1054 1060), (0, .nameAndType 501 1061), (0, u "(IILjava/util/function/BiFunction;)I"), (39, u "serialPersistentFields"), (0, u "[Ljava/io/ObjectStreamField;"), (0, .class_ 1104), (0, u "java/lang/String$CaseInsensitiveComparator"), (1, .class_ 1107), (0, u "java/io/Serializable"), (0, .class_ 1109), (0, u "java/lang/Comparable"), (0, .class_ 1111), (0, u "java/lang/constant/Constable"), (0, .class_ 1113), (0, u "java/lang/constant/ConstantDesc"), (2, u "serialVersionUID"), (0, u "J"), (3, u "REPL"), (0, u "C"), (2, u "LATIN1"), (1, u "UTF16")] 323

def k7m0 : Method := { name := "<init>", desc := "()V", sig := { parameters := [], returnType := none }, accessFlags := 1, code := none }
def k7c1 : Code := { maxStack := 5, maxLocals := 2, code := jdk_42_method_3_code, exceptionTable := #[], attributes := #[] }
def k7m1 : Method := { name := "<init>", desc := "([C)V", sig := { parameters := [(.array .char)], returnType := none }, accessFlags := 1, code := some k7c1 }
def k7c2 : Code := { maxStack := 2, maxLocals := 1, code := jdk_42_method_54_code, exceptionTable := #[], attributes := #[] }
def k7m2 : Method := { name := "length", desc := "()I", sig := { parameters := [], returnType := some .int }, accessFlags := 1, code := some k7c2 }
def k7c3 : Code := { maxStack := 2, maxLocals := 2, code := jdk_42_method_56_code, exceptionTable := #[], attributes := #[] }
def k7m3 : Method := { name := "charAt", desc := "(I)C", sig := { parameters := [.int], returnType := some .char }, accessFlags := 1, code := some k7c3 }
def k7c4 : Code := { maxStack := 4, maxLocals := 6, code := jdk_42_method_149_code, exceptionTable := #[], attributes := #[] }
def k7m4 : Method := { name := "<init>", desc := "([CIILjava/lang/Void;)V", sig := { parameters := [(.array .char), .int, .int, (.object "java/lang/Void")], returnType := none }, accessFlags := 2, code := some k7c4 }
def k7c5 : Code := { maxStack := 1, maxLocals := 1, code := jdk_42_method_152_code, exceptionTable := #[], attributes := #[] }
def k7m5 : Method := { name := "coder", desc := "()B", sig := { parameters := [], returnType := some .byte }, accessFlags := 0, code := some k7c5 }
def k7c6 : Code := { maxStack := 1, maxLocals := 1, code := jdk_42_method_154_code, exceptionTable := #[], attributes := #[] }
def k7m6 : Method := { name := "isLatin1", desc := "()Z", sig := { parameters := [], returnType := some .boolean }, accessFlags := 0, code := some k7c6 }
def k7c7 : Code := { maxStack := 3, maxLocals := 2, code := jdk_42_method_155_code, exceptionTable := #[], attributes := #[] }
def k7m7 : Method := { name := "checkIndex", desc := "(II)V", sig := { parameters := [.int, .int], returnType := none }, accessFlags := 8, code := some k7c7 }
/-- java/lang/String -/
def k7 : Class := { plain "java/lang/String" (some 0) with
  accessFlags := 49
  interfaces := #[2, 3, 4, 5, 6]
  cf := some (fileOf pool7 10 #[.nestMembers #[1103]] #[{ accessFlags := 1, nameIndex := 5, descriptorIndex := 6, attributes := #[] }, { accessFlags := 1, nameIndex := 5, descriptorIndex := 1010, attributes := #[] }, { accessFlags := 1, nameIndex := 507, descriptorIndex := 334, attributes := #[] }, { accessFlags := 1, nameIndex := 497, descriptorIndex := 427, attributes := #[] }, { accessFlags := 2, nameIndex := 5, descriptorIndex := 29, attributes := #[] }, { accessFlags := 0, nameIndex := 17, descriptorIndex := 337, attributes := #[] }, { accessFlags := 0, nameIndex := 494, descriptorIndex := 142, attributes := #[] }, { accessFlags := 8, nameIndex := 501, descriptorIndex := 391, attributes := #[] }] 49 2 #[1106, 1108, 575, 1110, 1112] #[{ accessFlags := 18, nameIndex := 13, descriptorIndex := 14, attributes := #[] }, { accessFlags := 18, nameIndex := 17, descriptorIndex := 18, attributes := #[] }, { accessFlags := 2, nameIndex := 21, descriptorIndex := 22, attributes := #[] }, { accessFlags := 2, nameIndex := 25, descriptorIndex := 26, attributes := #[] }, { accessFlags := 26, nameIndex := 1116, descriptorIndex := 1117, attributes := #[] }, { accessFlags := 24, nameIndex := 40, descriptorIndex := 26, attributes := #[] }, { accessFlags := 26, nameIndex := 1101, descriptorIndex := 1102, attributes := #[] }, { accessFlags := 26, nameIndex := 1121, descriptorIndex := 1122, attributes := #[] }, { accessFlags := 25, nameIndex := 599, descriptorIndex := 600, attributes := #[] }, { accessFlags := 24, nameIndex := 1125, descriptorIndex := 18, attributes := #[] }, { accessFlags := 24, nameIndex := 1127, descriptorIndex := 18, attributes := #[] }])
  fields := #[{ name := "value", type := (.array .byte), accessFlags := 18, slot := 0, constantValue := 0 }, { name := "coder", type := .byte, accessFlags := 18, slot := 1, constantValue := 0 }, { name := "hash", type := .int, accessFlags := 2, slot := 2, constantValue := 0 }, { name := "hashIsZero", type := .boolean, accessFlags := 2, slot := 3, constantValue := 0 }, { name := "serialVersionUID", type := .long, accessFlags := 26, slot := 0, constantValue := 0 }, { name := "COMPACT_STRINGS", type := .boolean, accessFlags := 24, slot := 1, constantValue := 0 }, { name := "serialPersistentFields", type := (.array (.object "java/io/ObjectStreamField")), accessFlags := 26, slot := 2, constantValue := 0 }, { name := "REPL", type := .char, accessFlags := 26, slot := 3, constantValue := 0 }, { name := "CASE_INSENSITIVE_ORDER", type := (.object "java/util/Comparator"), accessFlags := 25, slot := 4, constantValue := 0 }, { name := "LATIN1", type := .byte, accessFlags := 24, slot := 5, constantValue := 0 }, { name := "UTF16", type := .byte, accessFlags := 24, slot := 6, constantValue := 0 }]
  methods := #[k7m0, k7m1, k7m2, k7m3, k7m4, k7m5, k7m6, k7m7]
  instanceTypes := #[(.array .byte), .byte, .int, .boolean]
  staticTypes := #[.long, .boolean, (.array (.object "java/io/ObjectStreamField")), .char, (.object "java/util/Comparator"), .byte, .byte]
  resolved := Array.replicate 1451 none
  statics := some 0 }

def pool8 : Array CpInfo := pool [(1, .methodref 2 3), (0, .class_ 4), (0, .nameAndType 5 6), (0, u "java/lang/Object"), (0, u "<init>"), (0, u "()V"), (0, .fieldref 8 9), (0, .class_ 10), (0, .nameAndType 11 12), (0, u "com/example/pricefold/pricefold/model/DecimalText"), (0, u "text"), (0, u "Ljava/lang/String;"), (0, .fieldref 8 14), (0, .nameAndType 15 16), (0, u "wholeStart"), (0, u "I"), (0, .fieldref 8 18), (0, .nameAndType 19 16), (0, u "wholeEnd"), (0, .methodref 21 22), (0, .class_ 23), (0, .nameAndType 24 25), (0, u "java/lang/String"), (0, u "length"), (0, u "()I"), (0, .methodref 21 27), (0, .nameAndType 28 29), (0, u "charAt"), (0, u "(I)C"), (0, .methodref 8 31), (0, .nameAndType 5 32), (0, u "(Ljava/lang/String;II)V"), (2, u "wholeDigits"), (2, u "decimalPlaces"), (26, u "LONG_DIGITS"), (4, u "read"), (0, u "(Ljava/lang/String;)Lcom/example/pricefold/pricefold/model/DecimalText;")] 20

def k8c0 : Code := { maxStack := 2, maxLocals := 4, code := prog_42_method_1_code, exceptionTable := #[], attributes := #[] }
def k8m0 : Method := { name := "<init>", desc := "(Ljava/lang/String;II)V", sig := { parameters := [(.object "java/lang/String"), .int, .int], returnType := none }, accessFlags := 2, code := some k8c0 }
def k8c1 : Code := { maxStack := 5, maxLocals := 4, code := prog_42_method_2_code, exceptionTable := #[], attributes := #[] }
def k8m1 : Method := { name := "read", desc := "(Ljava/lang/String;)Lcom/example/pricefold/pricefold/model/DecimalText;", sig := { parameters := [(.object "java/lang/String")], returnType := some (.object "com/example/pricefold/pricefold/model/DecimalText") }, accessFlags := 8, code := some k8c1 }
def k8c2 : Code := { maxStack := 2, maxLocals := 1, code := prog_42_method_3_code, exceptionTable := #[], attributes := #[] }
def k8m2 : Method := { name := "wholeDigits", desc := "()I", sig := { parameters := [], returnType := some .int }, accessFlags := 0, code := some k8c2 }
def k8c3 : Code := { maxStack := 2, maxLocals := 1, code := prog_42_method_4_code, exceptionTable := #[], attributes := #[] }
def k8m3 : Method := { name := "decimalPlaces", desc := "()I", sig := { parameters := [], returnType := some .int }, accessFlags := 0, code := some k8c3 }
/-- com/example/pricefold/pricefold/model/DecimalText -/
def k8 : Class := { plain "com/example/pricefold/pricefold/model/DecimalText" (some 0) with
  accessFlags := 48
  interfaces := #[]
  cf := some (fileOf pool8 8 #[] #[{ accessFlags := 2, nameIndex := 5, descriptorIndex := 32, attributes := #[] }, { accessFlags := 8, nameIndex := 70, descriptorIndex := 71, attributes := #[] }, { accessFlags := 0, nameIndex := 35, descriptorIndex := 25, attributes := #[] }, { accessFlags := 0, nameIndex := 38, descriptorIndex := 25, attributes := #[] }] 48 2 #[] #[{ accessFlags := 26, nameIndex := 65, descriptorIndex := 16, attributes := #[] }, { accessFlags := 18, nameIndex := 11, descriptorIndex := 12, attributes := #[] }, { accessFlags := 18, nameIndex := 15, descriptorIndex := 16, attributes := #[] }, { accessFlags := 18, nameIndex := 19, descriptorIndex := 16, attributes := #[] }])
  fields := #[{ name := "LONG_DIGITS", type := .int, accessFlags := 26, slot := 0, constantValue := 0 }, { name := "text", type := (.object "java/lang/String"), accessFlags := 18, slot := 0, constantValue := 0 }, { name := "wholeStart", type := .int, accessFlags := 18, slot := 1, constantValue := 0 }, { name := "wholeEnd", type := .int, accessFlags := 18, slot := 2, constantValue := 0 }]
  methods := #[k8m0, k8m1, k8m2, k8m3]
  instanceTypes := #[(.object "java/lang/String"), .int, .int]
  staticTypes := #[.int]
  resolved := Array.replicate 92 none
  statics := none }

def pool9 : Array CpInfo := pool [(3, .class_ 4), (0, u "java/lang/String"), (1, .class_ 8), (1, u "java/lang/Object"), (0, u "<init>"), (0, u "()V"), (0, .methodref 12 13), (0, .class_ 14), (0, .nameAndType 15 16), (0, u "java/lang/StringUTF16"), (0, u "newBytesLength"), (0, u "(I)I"), (3, .integer 1073741823), (23, .fieldref 12 45), (0, .nameAndType 46 47), (0, u "$assertionsDisabled"), (0, u "Z"), (0, .methodref 12 49), (0, .nameAndType 50 51), (0, u "length"), (0, u "([B)I"), (7, .fieldref 12 60), (0, .nameAndType 61 62), (0, u "HI_BYTE_SHIFT"), (0, u "I"), (0, .fieldref 12 64), (0, .nameAndType 65 62), (0, u "LO_BYTE_SHIFT"), (1, .methodref 12 68), (0, .nameAndType 69 70), (0, u "checkIndex"), (0, u "(I[B)V"), (0, .methodref 12 72), (0, .nameAndType 73 74), (0, u "getChar"), (0, u "([BI)C"), (32, .methodref 12 108), (0, .nameAndType 109 110), (0, u "newBytesFor"), (0, u "(I)[B"), (0, .methodref 12 112), (0, .nameAndType 113 114), (0, u "putChar"), (0, u "([BII)V"), (0, .methodref 12 116), (0, .nameAndType 117 118), (0, u "compress"), (0, u "([CI[BII)I"), (0, .methodref 12 120), (0, .nameAndType 121 122), (0, u "toBytes"), (0, u "([CII)[B"), (138, u "coderFromArrayLen"), (0, u "([BI)B"), (106, .class_ 371), (1, u "java/lang/StringUTF16$LinesSpliterator"), (20, u "charAt"), (21, .methodref 3 415), (0, .nameAndType 69 416), (0, u "(II)V"), (13, u "MAX_LENGTH"), (196, .class_ 628), (0, u "java/lang/StringUTF16$CodePointsSpliterator"), (0, .class_ 630), (0, u "java/lang/StringUTF16$CharsSpliterator")] 4

def k9m0 : Method := { name := "<init>", desc := "()V", sig := { parameters := [], returnType := none }, accessFlags := 0, code := none }
def k9c1 : Code := { maxStack := 1, maxLocals := 1, code := jdk_52_method_2_code, exceptionTable := #[], attributes := #[] }
def k9m1 : Method := { name := "newBytesFor", desc := "(I)[B", sig := { parameters := [.int], returnType := some (.array .byte) }, accessFlags := 9, code := some k9c1 }
def k9c2 : Code := { maxStack := 4, maxLocals := 1, code := jdk_52_method_3_code, exceptionTable := #[], attributes := #[] }
def k9m2 : Method := { name := "newBytesLength", desc := "(I)I", sig := { parameters := [.int], returnType := some .int }, accessFlags := 9, code := some k9c2 }
def k9c3 : Code := { maxStack := 4, maxLocals := 3, code := jdk_52_method_4_code, exceptionTable := #[], attributes := #[] }
def k9m3 : Method := { name := "putChar", desc := "([BII)V", sig := { parameters := [(.array .byte), .int, .int], returnType := none }, accessFlags := 8, code := some k9c3 }
def k9c4 : Code := { maxStack := 3, maxLocals := 2, code := jdk_52_method_5_code, exceptionTable := #[], attributes := #[] }
def k9m4 : Method := { name := "getChar", desc := "([BI)C", sig := { parameters := [(.array .byte), .int], returnType := some .char }, accessFlags := 8, code := some k9c4 }
def k9c5 : Code := { maxStack := 2, maxLocals := 1, code := jdk_52_method_6_code, exceptionTable := #[], attributes := #[] }
def k9m5 : Method := { name := "length", desc := "([B)I", sig := { parameters := [(.array .byte)], returnType := some .int }, accessFlags := 9, code := some k9c5 }
def k9c6 : Code := { maxStack := 4, maxLocals := 5, code := jdk_52_method_14_code, exceptionTable := #[], attributes := #[] }
def k9m6 : Method := { name := "toBytes", desc := "([CII)[B", sig := { parameters := [(.array .char), .int, .int], returnType := some (.array .byte) }, accessFlags := 9, code := some k9c6 }
def k9c7 : Code := { maxStack := 2, maxLocals := 2, code := jdk_52_method_15_code, exceptionTable := #[], attributes := #[] }
def k9m7 : Method := { name := "coderFromArrayLen", desc := "([BI)B", sig := { parameters := [(.array .byte), .int], returnType := some .byte }, accessFlags := 8, code := some k9c7 }
def k9c8 : Code := { maxStack := 5, maxLocals := 6, code := jdk_52_method_16_code, exceptionTable := #[], attributes := #[] }
def k9m8 : Method := { name := "compress", desc := "([CII)[B", sig := { parameters := [(.array .char), .int, .int], returnType := some (.array .byte) }, accessFlags := 9, code := some k9c8 }
def k9c9 : Code := { maxStack := 3, maxLocals := 7, code := jdk_52_method_21_code, exceptionTable := #[], attributes := #[] }
def k9m9 : Method := { name := "compress", desc := "([CI[BII)I", sig := { parameters := [(.array .char), .int, (.array .byte), .int, .int], returnType := some .int }, accessFlags := 9, code := some k9c9 }
def k9c10 : Code := { maxStack := 2, maxLocals := 2, code := jdk_52_method_83_code, exceptionTable := #[], attributes := #[] }
def k9m10 : Method := { name := "charAt", desc := "([BI)C", sig := { parameters := [(.array .byte), .int], returnType := some .char }, accessFlags := 9, code := some k9c10 }
def k9c11 : Code := { maxStack := 2, maxLocals := 2, code := jdk_52_method_91_code, exceptionTable := #[], attributes := #[] }
def k9m11 : Method := { name := "checkIndex", desc := "(I[B)V", sig := { parameters := [.int, (.array .byte)], returnType := none }, accessFlags := 9, code := some k9c11 }
/-- java/lang/StringUTF16 -/
def k9 : Class := { plain "java/lang/StringUTF16" (some 0) with
  accessFlags := 48
  interfaces := #[]
  cf := some (fileOf pool9 12 #[.nestMembers #[627, 629, 369]] #[{ accessFlags := 0, nameIndex := 9, descriptorIndex := 10, attributes := #[] }, { accessFlags := 9, nameIndex := 109, descriptorIndex := 110, attributes := #[] }, { accessFlags := 9, nameIndex := 15, descriptorIndex := 16, attributes := #[] }, { accessFlags := 8, nameIndex := 113, descriptorIndex := 114, attributes := #[] }, { accessFlags := 8, nameIndex := 73, descriptorIndex := 74, attributes := #[] }, { accessFlags := 9, nameIndex := 50, descriptorIndex := 51, attributes := #[] }, { accessFlags := 9, nameIndex := 121, descriptorIndex := 122, attributes := #[] }, { accessFlags := 8, nameIndex := 261, descriptorIndex := 262, attributes := #[] }, { accessFlags := 9, nameIndex := 117, descriptorIndex := 122, attributes := #[] }, { accessFlags := 9, nameIndex := 117, descriptorIndex := 118, attributes := #[] }, { accessFlags := 9, nameIndex := 392, descriptorIndex := 74, attributes := #[] }, { accessFlags := 9, nameIndex := 69, descriptorIndex := 70, attributes := #[] }] 48 6 #[] #[{ accessFlags := 26, nameIndex := 61, descriptorIndex := 62, attributes := #[] }, { accessFlags := 26, nameIndex := 65, descriptorIndex := 62, attributes := #[] }, { accessFlags := 24, nameIndex := 430, descriptorIndex := 62, attributes := #[] }, { accessFlags := 4120, nameIndex := 46, descriptorIndex := 47, attributes := #[] }])
  fields := #[{ name := "HI_BYTE_SHIFT", type := .int, accessFlags := 26, slot := 0, constantValue := 0 }, { name := "LO_BYTE_SHIFT", type := .int, accessFlags := 26, slot := 1, constantValue := 0 }, { name := "MAX_LENGTH", type := .int, accessFlags := 24, slot := 2, constantValue := 0 }, { name := "$assertionsDisabled", type := .boolean, accessFlags := 4120, slot := 3, constantValue := 0 }]
  methods := #[k9m0, k9m1, k9m2, k9m3, k9m4, k9m5, k9m6, k9m7, k9m8, k9m9, k9m10, k9m11]
  instanceTypes := #[]
  staticTypes := #[.int, .int, .int, .boolean]
  resolved := Array.replicate 635 none
  statics := some 1 }

def pool10 : Array CpInfo := pool [(1, .class_ 2), (0, u "java/lang/String"), (1, .class_ 6), (1, u "java/lang/Object"), (0, u "<init>"), (0, u "()V"), (0, .methodref 1 10), (0, .nameAndType 11 12), (0, u "checkIndex"), (0, u "(II)V"), (1, .class_ 16), (1, u "java/lang/StringLatin1"), (36, u "([BI)C"), (67, u "$assertionsDisabled"), (0, u "Z"), (98, .class_ 223), (1, u "java/lang/StringLatin1$LinesSpliterator"), (28, u "charAt"), (137, .class_ 391), (0, u "java/lang/StringLatin1$CharsSpliterator")] 3

def k10m0 : Method := { name := "<init>", desc := "()V", sig := { parameters := [], returnType := none }, accessFlags := 0, code := none }
def k10c1 : Code := { maxStack := 2, maxLocals := 2, code := jdk_43_method_2_code, exceptionTable := #[], attributes := #[] }
def k10m1 : Method := { name := "charAt", desc := "([BI)C", sig := { parameters := [(.array .byte), .int], returnType := some .char }, accessFlags := 9, code := some k10c1 }
/-- java/lang/StringLatin1 -/
def k10 : Class := { plain "java/lang/StringLatin1" (some 0) with
  accessFlags := 48
  interfaces := #[]
  cf := some (fileOf pool10 14 #[.nestMembers #[390, 221]] #[{ accessFlags := 0, nameIndex := 7, descriptorIndex := 8, attributes := #[] }, { accessFlags := 9, nameIndex := 252, descriptorIndex := 53, attributes := #[] }] 48 4 #[] #[{ accessFlags := 4120, nameIndex := 121, descriptorIndex := 122, attributes := #[] }])
  fields := #[{ name := "$assertionsDisabled", type := .boolean, accessFlags := 4120, slot := 0, constantValue := 0 }]
  methods := #[k10m0, k10m1]
  instanceTypes := #[]
  staticTypes := #[.boolean]
  resolved := Array.replicate 395 none
  statics := none }

def pool11 : Array CpInfo := pool [(2, .class_ 4), (1, u "java/lang/Object"), (0, u "<init>"), (0, u "()V"), (17, .class_ 26), (1, u "jdk/internal/util/Preconditions"), (6, u "checkIndex"), (21, .class_ 56), (0, u "jdk/internal/util/Preconditions$4"), (57, .class_ 115), (0, u "jdk/internal/util/Preconditions$1"), (7, u "SIOOBE_FORMATTER"), (0, u "Ljava/util/function/BiFunction;"), (0, .class_ 126), (0, u "jdk/internal/util/Preconditions$2"), (3, u "AIOOBE_FORMATTER"), (0, .class_ 132), (0, u "jdk/internal/util/Preconditions$3"), (3, u "IOOBE_FORMATTER"), (41, u "(IILjava/util/function/BiFunction;)I")] 15

def k11m0 : Method := { name := "<init>", desc := "()V", sig := { parameters := [], returnType := none }, accessFlags := 1, code := none }
def k11c1 : Code := { maxStack := 3, maxLocals := 3, code := jdk_41_method_11_code, exceptionTable := #[], attributes := #[] }
def k11m1 : Method := { name := "checkIndex", desc := "(IILjava/util/function/BiFunction;)I", sig := { parameters := [.int, .int, (.object "java/util/function/BiFunction")], returnType := some .int }, accessFlags := 9, code := some k11c1 }
/-- jdk/internal/util/Preconditions -/
def k11 : Class := { plain "jdk/internal/util/Preconditions" (some 0) with
  accessFlags := 33
  interfaces := #[]
  cf := some (fileOf pool11 24 #[.nestMembers #[55, 131, 125, 114]] #[{ accessFlags := 1, nameIndex := 5, descriptorIndex := 6, attributes := #[] }, { accessFlags := 9, nameIndex := 33, descriptorIndex := 178, attributes := #[] }] 33 2 #[] #[{ accessFlags := 25, nameIndex := 123, descriptorIndex := 124, attributes := #[] }, { accessFlags := 25, nameIndex := 130, descriptorIndex := 124, attributes := #[] }, { accessFlags := 25, nameIndex := 136, descriptorIndex := 124, attributes := #[] }])
  fields := #[{ name := "SIOOBE_FORMATTER", type := (.object "java/util/function/BiFunction"), accessFlags := 25, slot := 0, constantValue := 0 }, { name := "AIOOBE_FORMATTER", type := (.object "java/util/function/BiFunction"), accessFlags := 25, slot := 1, constantValue := 0 }, { name := "IOOBE_FORMATTER", type := (.object "java/util/function/BiFunction"), accessFlags := 25, slot := 2, constantValue := 0 }]
  methods := #[k11m0, k11m1]
  instanceTypes := #[]
  staticTypes := #[(.object "java/util/function/BiFunction"), (.object "java/util/function/BiFunction"), (.object "java/util/function/BiFunction")]
  resolved := Array.replicate 194 none
  statics := some 2 }

def pool12 : Array CpInfo := pool [(9, u "<init>"), (6, .class_ 18), (1, u "java/lang/Object"), (0, u "()V"), (1, .class_ 23), (1, u "jdk/internal/util/ArraysSupport"), (0, u "LOG2_ARRAY_LONG_INDEX_SCALE"), (0, u "I"), (2, u "U"), (0, u "Ljdk/internal/misc/Unsafe;"), (8, u "BIG_ENDIAN"), (0, u "Z"), (8, u "LOG2_BYTE_BIT_SIZE"), (4, u "LOG2_ARRAY_INT_INDEX_SCALE"), (54, u "JLA"), (0, u "Ljdk/internal/access/JavaLangAccess;"), (11, u "LOG2_ARRAY_BOOLEAN_INDEX_SCALE"), (9, u "LOG2_ARRAY_BYTE_INDEX_SCALE"), (5, u "LOG2_ARRAY_CHAR_INDEX_SCALE"), (5, u "LOG2_ARRAY_SHORT_INDEX_SCALE"), (18, u "LOG2_ARRAY_FLOAT_INDEX_SCALE"), (24, u "LOG2_ARRAY_DOUBLE_INDEX_SCALE"), (89, u "T_BOOLEAN"), (2, u "T_CHAR"), (1, u "T_FLOAT"), (1, u "T_DOUBLE"), (1, u "T_BYTE"), (1, u "T_SHORT"), (1, u "T_INT"), (1, u "T_LONG"), (1, u "SOFT_MAX_ARRAY_LENGTH")] 83

def k12m0 : Method := { name := "<init>", desc := "()V", sig := { parameters := [], returnType := none }, accessFlags := 2, code := none }
/-- jdk/internal/util/ArraysSupport -/
def k12 : Class := { plain "jdk/internal/util/ArraysSupport" (some 0) with
  accessFlags := 33
  interfaces := #[]
  cf := some (fileOf pool12 21 #[] #[{ accessFlags := 2, nameIndex := 9, descriptorIndex := 19, attributes := #[] }] 33 16 #[] #[{ accessFlags := 24, nameIndex := 28, descriptorIndex := 29, attributes := #[] }, { accessFlags := 26, nameIndex := 38, descriptorIndex := 39, attributes := #[] }, { accessFlags := 25, nameIndex := 121, descriptorIndex := 25, attributes := #[] }, { accessFlags := 25, nameIndex := 131, descriptorIndex := 25, attributes := #[] }, { accessFlags := 25, nameIndex := 137, descriptorIndex := 25, attributes := #[] }, { accessFlags := 25, nameIndex := 143, descriptorIndex := 25, attributes := #[] }, { accessFlags := 25, nameIndex := 53, descriptorIndex := 25, attributes := #[] }, { accessFlags := 25, nameIndex := 24, descriptorIndex := 25, attributes := #[] }, { accessFlags := 25, nameIndex := 162, descriptorIndex := 25, attributes := #[] }, { accessFlags := 25, nameIndex := 187, descriptorIndex := 25, attributes := #[] }, { accessFlags := 26, nameIndex := 48, descriptorIndex := 25, attributes := #[] }, { accessFlags := 25, nameIndex := 277, descriptorIndex := 25, attributes := #[] }, { accessFlags := 25, nameIndex := 280, descriptorIndex := 25, attributes := #[] }, { accessFlags := 25, nameIndex := 282, descriptorIndex := 25, attributes := #[] }, { accessFlags := 25, nameIndex := 284, descriptorIndex := 25, attributes := #[] }, { accessFlags := 25, nameIndex := 286, descriptorIndex := 25, attributes := #[] }, { accessFlags := 25, nameIndex := 288, descriptorIndex := 25, attributes := #[] }, { accessFlags := 25, nameIndex := 290, descriptorIndex := 25, attributes := #[] }, { accessFlags := 25, nameIndex := 292, descriptorIndex := 25, attributes := #[] }, { accessFlags := 26, nameIndex := 108, descriptorIndex := 109, attributes := #[] }, { accessFlags := 25, nameIndex := 294, descriptorIndex := 25, attributes := #[] }])
  fields := #[{ name := "U", type := (.object "jdk/internal/misc/Unsafe"), accessFlags := 24, slot := 0, constantValue := 0 }, { name := "BIG_ENDIAN", type := .boolean, accessFlags := 26, slot := 1, constantValue := 0 }, { name := "LOG2_ARRAY_BOOLEAN_INDEX_SCALE", type := .int, accessFlags := 25, slot := 2, constantValue := 0 }, { name := "LOG2_ARRAY_BYTE_INDEX_SCALE", type := .int, accessFlags := 25, slot := 3, constantValue := 0 }, { name := "LOG2_ARRAY_CHAR_INDEX_SCALE", type := .int, accessFlags := 25, slot := 4, constantValue := 0 }, { name := "LOG2_ARRAY_SHORT_INDEX_SCALE", type := .int, accessFlags := 25, slot := 5, constantValue := 0 }, { name := "LOG2_ARRAY_INT_INDEX_SCALE", type := .int, accessFlags := 25, slot := 6, constantValue := 0 }, { name := "LOG2_ARRAY_LONG_INDEX_SCALE", type := .int, accessFlags := 25, slot := 7, constantValue := 0 }, { name := "LOG2_ARRAY_FLOAT_INDEX_SCALE", type := .int, accessFlags := 25, slot := 8, constantValue := 0 }, { name := "LOG2_ARRAY_DOUBLE_INDEX_SCALE", type := .int, accessFlags := 25, slot := 9, constantValue := 0 }, { name := "LOG2_BYTE_BIT_SIZE", type := .int, accessFlags := 26, slot := 10, constantValue := 0 }, { name := "T_BOOLEAN", type := .int, accessFlags := 25, slot := 11, constantValue := 0 }, { name := "T_CHAR", type := .int, accessFlags := 25, slot := 12, constantValue := 0 }, { name := "T_FLOAT", type := .int, accessFlags := 25, slot := 13, constantValue := 0 }, { name := "T_DOUBLE", type := .int, accessFlags := 25, slot := 14, constantValue := 0 }, { name := "T_BYTE", type := .int, accessFlags := 25, slot := 15, constantValue := 0 }, { name := "T_SHORT", type := .int, accessFlags := 25, slot := 16, constantValue := 0 }, { name := "T_INT", type := .int, accessFlags := 25, slot := 17, constantValue := 0 }, { name := "T_LONG", type := .int, accessFlags := 25, slot := 18, constantValue := 0 }, { name := "JLA", type := (.object "jdk/internal/access/JavaLangAccess"), accessFlags := 26, slot := 19, constantValue := 0 }, { name := "SOFT_MAX_ARRAY_LENGTH", type := .int, accessFlags := 25, slot := 20, constantValue := 0 }]
  methods := #[k12m0]
  instanceTypes := #[]
  staticTypes := #[(.object "jdk/internal/misc/Unsafe"), .boolean, .int, .int, .int, .int, .int, .int, .int, .int, .int, .int, .int, .int, .int, .int, .int, .int, .int, (.object "jdk/internal/access/JavaLangAccess"), .int]
  resolved := Array.replicate 378 none
  statics := none }

def pool13 : Array CpInfo := pool [(1, u "java/lang/Cloneable"), (0, .class_ 1), (0, u "java/lang/Object"), (0, .class_ 3)] 3

/-- java/lang/Cloneable -/
def k13 : Class := { plain "java/lang/Cloneable" (some 0) with
  accessFlags := 1537
  interfaces := #[]
  cf := some (fileOf pool13 2 #[] #[] 1537 4 #[] #[])
  fields := #[]
  methods := #[]
  instanceTypes := #[]
  staticTypes := #[]
  resolved := Array.replicate 8 none
  statics := none }

/-- the primitive byte -/
def k14 : Class := { plain "byte" none with kind := .primitive 'B', accessFlags := 0x411 }
/-- [B -/
def k15 : Class := { plain "[B" (some 0) with kind := .array 14 .byte, interfaces := #[13, 2], accessFlags := 1041 }

/-- the primitive char -/
def k16 : Class := { plain "char" none with kind := .primitive 'C', accessFlags := 0x411 }
/-- [C -/
def k17 : Class := { plain "[C" (some 0) with kind := .array 16 .char, interfaces := #[13, 2], accessFlags := 1041 }

/-- the primitive int -/
def k18 : Class := { plain "int" none with kind := .primitive 'I', accessFlags := 0x411 }
/-- [I -/
def k19 : Class := { plain "[I" (some 0) with kind := .array 18 .int, interfaces := #[13, 2], accessFlags := 1041 }

def heap : Heap := #[{ cls := 7, slots := #[.long 0, .int 1, .null, .int 0, .null, .int 0, .int 0], vm := .statics 7 },
  { cls := 9, slots := #[.int 0, .int 8, .int 0, .int 1], vm := .statics 9 },
  { cls := 11, slots := #[.null, .null, .null], vm := .statics 11 }]
def classes : Array Class := #[k0, k1, k2, k3, k4, k5, k6, k7, k8, k9, k10, k11, k12, k13, k14, k15, k16, k17, k18, k19]
def interned : List (Array UInt16 × Addr) := []
def slotsUsed : Nat := 14
def theMethod : MethodId := ⟨1, 1⟩
def args0 : Array Value := #[.int 3, .int 5, .int 6, .int 7, .int 8, .int 9]
def aboutOver (below : List Frame) : State where
  vm := { classes := classes, interned := interned.toArray }
  heap := heap
  slotsUsed := slotsUsed
  threads := #[{ frames := .invoking theMethod args0 :: below }]
def below0 : List Frame := [.native { method := ⟨0, 0⟩, args := #[] }]
def about1 : State := aboutOver below0
def p0 : Program := .bare "" "" ""
def e0 : Env := launch0.env 0 0 0
theorem w_frames : about1.frames = Frame.invoking theMethod args0 :: below0 := rfl
set_option maxRecDepth 65536 in
theorem w_args : argsFit about1.vm theMethod args0 = true := by decide +kernel
set_option maxRecDepth 65536 in
theorem w_heap : heapFits about1 = true := by decide +kernel
set_option maxRecDepth 65536 in
theorem w_runnable : about1.curStatus? = some .runnable := by decide +kernel
set_option maxRecDepth 65536 in
theorem w_alone : about1.alone = true := by decide +kernel
set_option maxRecDepth 65536 in
theorem w_named : about1.methodNamed? x = some theMethod := by decide +kernel
set_option maxRecDepth 65536 in
theorem w_hears : about1.hears theMethod below0 = true := by decide +kernel
set_option maxRecDepth 65536 in
theorem w_ripe : about1.ripe theMethod args0 below0 = true := by decide +kernel
theorem w_running : about1.status = .running := rfl
set_option maxRecDepth 65536 in
theorem w_room : about1.hasRoom e0.platform room_1 = true :=
  launch0.hasRoom_least _ room_1 (by decide +kernel) (by decide +kernel) (by decide +kernel) (by decide +kernel) (by decide +kernel) (by decide +kernel)
theorem allAtoms_all (ts : List Jvm.Cond) (a : Array Jvm.Value) (st : Jvm.State) : (allAtoms ts).before a st = ts.all (fun c => c.before a st) := by
  induction ts with
  | nil => rfl
  | cons c t ih =>
    show (Jvm.Cond.and c (allAtoms t)).before a st = _
    rw [Jvm.Cond.before_and, ih, List.all_cons]
def words1 : List Jvm.Cond := Jvm.Cond.code x code maxLocals ret :: tables_1
/-- a 'code' word, met by the world's own term for the bytes: nothing is compared byte by byte -/
theorem code_word {y : MethodName} {bytes : ByteArray} {mx : Nat} {rt : Option FieldType} {a : Array Value} {s : State} {m : MethodId} {meth : Method} {c : Code} (h1 : s.methodNamed? y = some m) (h2 : s.vm.method? m = some meth) (h3 : meth.code = some c) (h4 : c.code = bytes)
    (h5 : (c.maxLocals == mx && c.exceptionTable.isEmpty && decide (c.maxStack ≤ mostOperands) && decide (meth.sig.returnType = rt) && !meth.locks && decide (parseMethodDescriptor y.desc = some meth.sig)) = true) : (Jvm.Cond.code y bytes mx rt).before a s = true := by
  simp only [Bool.and_eq_true, beq_iff_eq, Bool.not_eq_true', decide_eq_true_eq] at h5
  obtain ⟨⟨⟨⟨⟨g1, g2⟩, g3⟩, g4⟩, g5⟩, g6⟩ := h5
  simp [Cond.before, Cond.holds, Cond.value, h1, h2, h3, h4, g1, g2, g3, g4, g5, g6]
def isCode : Jvm.Cond → Bool
  | .code _ _ _ _ => true
  | _ => false
theorem all_split {L : List Jvm.Cond} {P : Jvm.Cond → Bool} (h1 : L.all (fun c => isCode c || P c) = true) (h2 : ∀ c ∈ L.filter isCode, P c = true) : L.all P = true := by
  refine List.all_eq_true.mpr fun c hc => ?_
  have h := List.all_eq_true.mp h1 c hc
  rcases Bool.eq_false_or_eq_true (isCode c) with hi | hi
  · exact h2 c (List.mem_filter.mpr ⟨hc, hi⟩)
  · simpa [hi] using h
set_option maxRecDepth 65536 in
theorem w_c0 : (Jvm.Cond.code x code maxLocals ret).before args0 about1 = true := code_word (m := ⟨1, 1⟩) (meth := k1m1) (c := k1c1) (by decide +kernel) rfl rfl rfl (by decide +kernel)
set_option maxRecDepth 65536 in
theorem w_c1 : (Jvm.Cond.code ({ cls := "com/example/pricefold/pricefold/model/DecimalTextReadPinLaw", name := "draw", desc := "(I)C" } : Jvm.MethodName) method_3_code (2 : Nat) (Option.some Jvm.ClassFile.FieldType.char)).before args0 about1 = true := code_word (m := ⟨1, 2⟩) (meth := k1m2) (c := k1c2) (by decide +kernel) rfl rfl rfl (by decide +kernel)
set_option maxRecDepth 65536 in
theorem w_c2 : (Jvm.Cond.code ({ cls := "java/lang/String", name := "<init>", desc := "([C)V" } : Jvm.MethodName) jdk_42_method_3_code (2 : Nat) (Option.none : Option Jvm.ClassFile.FieldType)).before args0 about1 = true := code_word (m := ⟨7, 1⟩) (meth := k7m1) (c := k7c1) (by decide +kernel) rfl rfl rfl (by decide +kernel)
set_option maxRecDepth 65536 in
theorem w_c3 : (Jvm.Cond.code ({ cls := "java/lang/String", name := "<init>", desc := "([CIILjava/lang/Void;)V" } : Jvm.MethodName) jdk_42_method_149_code (6 : Nat) (Option.none : Option Jvm.ClassFile.FieldType)).before args0 about1 = true := code_word (m := ⟨7, 4⟩) (meth := k7m4) (c := k7c4) (by decide +kernel) rfl rfl rfl (by decide +kernel)
set_option maxRecDepth 65536 in
theorem w_c4 : (Jvm.Cond.code ({ cls := "java/lang/Object", name := "<init>", desc := "()V" } : Jvm.MethodName) object_method_1_code (1 : Nat) (Option.none : Option Jvm.ClassFile.FieldType)).before args0 about1 = true := code_word (m := ⟨0, 0⟩) (meth := k0m0) (c := k0c0) (by decide +kernel) rfl rfl rfl (by decide +kernel)
set_option maxRecDepth 65536 in
theorem w_c5 : (Jvm.Cond.code ({ cls := "com/example/pricefold/pricefold/model/DecimalTextReadPinLaw", name := "odd", desc := "(CII)Z" } : Jvm.MethodName) method_4_code (3 : Nat) (Option.some Jvm.ClassFile.FieldType.boolean)).before args0 about1 = true := code_word (m := ⟨1, 3⟩) (meth := k1m3) (c := k1c3) (by decide +kernel) rfl rfl rfl (by decide +kernel)
set_option maxRecDepth 65536 in
theorem w_c6 : (Jvm.Cond.code ({ cls := "com/example/pricefold/pricefold/model/DecimalTextReadPinLaw", name := "pt", desc := "(CII)I" } : Jvm.MethodName) method_5_code (3 : Nat) (Option.some Jvm.ClassFile.FieldType.int)).before args0 about1 = true := code_word (m := ⟨1, 4⟩) (meth := k1m4) (c := k1c4) (by decide +kernel) rfl rfl rfl (by decide +kernel)
set_option maxRecDepth 65536 in
theorem w_c7 : (Jvm.Cond.code ({ cls := "com/example/pricefold/pricefold/model/DecimalText", name := "read", desc := "(Ljava/lang/String;)Lcom/example/pricefold/pricefold/model/DecimalText;" } : Jvm.MethodName) prog_42_method_2_code (4 : Nat) (Option.some (Jvm.ClassFile.FieldType.object "com/example/pricefold/pricefold/model/DecimalText"))).before args0 about1 = true := code_word (m := ⟨8, 1⟩) (meth := k8m1) (c := k8c1) (by decide +kernel) rfl rfl rfl (by decide +kernel)
set_option maxRecDepth 65536 in
theorem w_c8 : (Jvm.Cond.code ({ cls := "java/lang/String", name := "length", desc := "()I" } : Jvm.MethodName) jdk_42_method_54_code (1 : Nat) (Option.some Jvm.ClassFile.FieldType.int)).before args0 about1 = true := code_word (m := ⟨7, 2⟩) (meth := k7m2) (c := k7c2) (by decide +kernel) rfl rfl rfl (by decide +kernel)
set_option maxRecDepth 65536 in
theorem w_c9 : (Jvm.Cond.code ({ cls := "java/lang/String", name := "coder", desc := "()B" } : Jvm.MethodName) jdk_42_method_152_code (1 : Nat) (Option.some Jvm.ClassFile.FieldType.byte)).before args0 about1 = true := code_word (m := ⟨7, 5⟩) (meth := k7m5) (c := k7c5) (by decide +kernel) rfl rfl rfl (by decide +kernel)
set_option maxRecDepth 65536 in
theorem w_c10 : (Jvm.Cond.code ({ cls := "java/lang/StringUTF16", name := "compress", desc := "([CII)[B" } : Jvm.MethodName) jdk_52_method_16_code (6 : Nat) (Option.some (Jvm.ClassFile.FieldType.array Jvm.ClassFile.FieldType.byte))).before args0 about1 = true := code_word (m := ⟨9, 8⟩) (meth := k9m8) (c := k9c8) (by decide +kernel) rfl rfl rfl (by decide +kernel)
set_option maxRecDepth 65536 in
theorem w_c11 : (Jvm.Cond.code ({ cls := "java/lang/StringUTF16", name := "compress", desc := "([CI[BII)I" } : Jvm.MethodName) jdk_52_method_21_code (7 : Nat) (Option.some Jvm.ClassFile.FieldType.int)).before args0 about1 = true := code_word (m := ⟨9, 9⟩) (meth := k9m9) (c := k9c9) (by decide +kernel) rfl rfl rfl (by decide +kernel)
set_option maxRecDepth 65536 in
theorem w_c12 : (Jvm.Cond.code ({ cls := "java/lang/StringUTF16", name := "coderFromArrayLen", desc := "([BI)B" } : Jvm.MethodName) jdk_52_method_15_code (2 : Nat) (Option.some Jvm.ClassFile.FieldType.byte)).before args0 about1 = true := code_word (m := ⟨9, 7⟩) (meth := k9m7) (c := k9c7) (by decide +kernel) rfl rfl rfl (by decide +kernel)
set_option maxRecDepth 65536 in
theorem w_c13 : (Jvm.Cond.code ({ cls := "java/lang/String", name := "charAt", desc := "(I)C" } : Jvm.MethodName) jdk_42_method_56_code (2 : Nat) (Option.some Jvm.ClassFile.FieldType.char)).before args0 about1 = true := code_word (m := ⟨7, 3⟩) (meth := k7m3) (c := k7c3) (by decide +kernel) rfl rfl rfl (by decide +kernel)
set_option maxRecDepth 65536 in
theorem w_c14 : (Jvm.Cond.code ({ cls := "java/lang/String", name := "isLatin1", desc := "()Z" } : Jvm.MethodName) jdk_42_method_154_code (1 : Nat) (Option.some Jvm.ClassFile.FieldType.boolean)).before args0 about1 = true := code_word (m := ⟨7, 6⟩) (meth := k7m6) (c := k7c6) (by decide +kernel) rfl rfl rfl (by decide +kernel)
set_option maxRecDepth 65536 in
theorem w_c15 : (Jvm.Cond.code ({ cls := "java/lang/StringLatin1", name := "charAt", desc := "([BI)C" } : Jvm.MethodName) jdk_43_method_2_code (2 : Nat) (Option.some Jvm.ClassFile.FieldType.char)).before args0 about1 = true := code_word (m := ⟨10, 1⟩) (meth := k10m1) (c := k10c1) (by decide +kernel) rfl rfl rfl (by decide +kernel)
set_option maxRecDepth 65536 in
theorem w_c16 : (Jvm.Cond.code ({ cls := "java/lang/String", name := "checkIndex", desc := "(II)V" } : Jvm.MethodName) jdk_42_method_155_code (2 : Nat) (Option.none : Option Jvm.ClassFile.FieldType)).before args0 about1 = true := code_word (m := ⟨7, 7⟩) (meth := k7m7) (c := k7c7) (by decide +kernel) rfl rfl rfl (by decide +kernel)
set_option maxRecDepth 65536 in
theorem w_c17 : (Jvm.Cond.code ({ cls := "jdk/internal/util/Preconditions", name := "checkIndex", desc := "(IILjava/util/function/BiFunction;)I" } : Jvm.MethodName) jdk_41_method_11_code (3 : Nat) (Option.some Jvm.ClassFile.FieldType.int)).before args0 about1 = true := code_word (m := ⟨11, 1⟩) (meth := k11m1) (c := k11c1) (by decide +kernel) rfl rfl rfl (by decide +kernel)
set_option maxRecDepth 65536 in
theorem w_c18 : (Jvm.Cond.code ({ cls := "com/example/pricefold/pricefold/model/DecimalText", name := "<init>", desc := "(Ljava/lang/String;II)V" } : Jvm.MethodName) prog_42_method_1_code (4 : Nat) (Option.none : Option Jvm.ClassFile.FieldType)).before args0 about1 = true := code_word (m := ⟨8, 0⟩) (meth := k8m0) (c := k8c0) (by decide +kernel) rfl rfl rfl (by decide +kernel)
set_option maxRecDepth 65536 in
theorem w_c19 : (Jvm.Cond.code ({ cls := "com/example/pricefold/pricefold/model/DecimalTextReadPinLaw", name := "zero", desc := "(CII)Z" } : Jvm.MethodName) method_6_code (3 : Nat) (Option.some Jvm.ClassFile.FieldType.boolean)).before args0 about1 = true := code_word (m := ⟨1, 5⟩) (meth := k1m5) (c := k1c5) (by decide +kernel) rfl rfl rfl (by decide +kernel)
set_option maxRecDepth 65536 in
theorem w_c20 : (Jvm.Cond.code ({ cls := "com/example/pricefold/pricefold/model/DecimalText", name := "wholeDigits", desc := "()I" } : Jvm.MethodName) prog_42_method_3_code (1 : Nat) (Option.some Jvm.ClassFile.FieldType.int)).before args0 about1 = true := code_word (m := ⟨8, 2⟩) (meth := k8m2) (c := k8c2) (by decide +kernel) rfl rfl rfl (by decide +kernel)
set_option maxRecDepth 65536 in
theorem w_c21 : (Jvm.Cond.code ({ cls := "com/example/pricefold/pricefold/model/DecimalText", name := "decimalPlaces", desc := "()I" } : Jvm.MethodName) prog_42_method_4_code (1 : Nat) (Option.some Jvm.ClassFile.FieldType.int)).before args0 about1 = true := code_word (m := ⟨8, 3⟩) (meth := k8m3) (c := k8c3) (by decide +kernel) rfl rfl rfl (by decide +kernel)
set_option maxRecDepth 65536 in
theorem w_c22 : (Jvm.Cond.code ({ cls := "java/lang/StringUTF16", name := "toBytes", desc := "([CII)[B" } : Jvm.MethodName) jdk_52_method_14_code (5 : Nat) (Option.some (Jvm.ClassFile.FieldType.array Jvm.ClassFile.FieldType.byte))).before args0 about1 = true := code_word (m := ⟨9, 6⟩) (meth := k9m6) (c := k9c6) (by decide +kernel) rfl rfl rfl (by decide +kernel)
set_option maxRecDepth 65536 in
theorem w_c23 : (Jvm.Cond.code ({ cls := "java/lang/StringUTF16", name := "newBytesFor", desc := "(I)[B" } : Jvm.MethodName) jdk_52_method_2_code (1 : Nat) (Option.some (Jvm.ClassFile.FieldType.array Jvm.ClassFile.FieldType.byte))).before args0 about1 = true := code_word (m := ⟨9, 1⟩) (meth := k9m1) (c := k9c1) (by decide +kernel) rfl rfl rfl (by decide +kernel)
set_option maxRecDepth 65536 in
theorem w_c24 : (Jvm.Cond.code ({ cls := "java/lang/StringUTF16", name := "newBytesLength", desc := "(I)I" } : Jvm.MethodName) jdk_52_method_3_code (1 : Nat) (Option.some Jvm.ClassFile.FieldType.int)).before args0 about1 = true := code_word (m := ⟨9, 2⟩) (meth := k9m2) (c := k9c2) (by decide +kernel) rfl rfl rfl (by decide +kernel)
set_option maxRecDepth 65536 in
theorem w_c25 : (Jvm.Cond.code ({ cls := "java/lang/StringUTF16", name := "putChar", desc := "([BII)V" } : Jvm.MethodName) jdk_52_method_4_code (3 : Nat) (Option.none : Option Jvm.ClassFile.FieldType)).before args0 about1 = true := code_word (m := ⟨9, 3⟩) (meth := k9m3) (c := k9c3) (by decide +kernel) rfl rfl rfl (by decide +kernel)
set_option maxRecDepth 65536 in
theorem w_c26 : (Jvm.Cond.code ({ cls := "java/lang/StringUTF16", name := "getChar", desc := "([BI)C" } : Jvm.MethodName) jdk_52_method_5_code (2 : Nat) (Option.some Jvm.ClassFile.FieldType.char)).before args0 about1 = true := code_word (m := ⟨9, 4⟩) (meth := k9m4) (c := k9c4) (by decide +kernel) rfl rfl rfl (by decide +kernel)
set_option maxRecDepth 65536 in
theorem w_c27 : (Jvm.Cond.code ({ cls := "java/lang/StringUTF16", name := "charAt", desc := "([BI)C" } : Jvm.MethodName) jdk_52_method_83_code (2 : Nat) (Option.some Jvm.ClassFile.FieldType.char)).before args0 about1 = true := code_word (m := ⟨9, 10⟩) (meth := k9m10) (c := k9c10) (by decide +kernel) rfl rfl rfl (by decide +kernel)
set_option maxRecDepth 65536 in
theorem w_c28 : (Jvm.Cond.code ({ cls := "java/lang/StringUTF16", name := "checkIndex", desc := "(I[B)V" } : Jvm.MethodName) jdk_52_method_91_code (2 : Nat) (Option.none : Option Jvm.ClassFile.FieldType)).before args0 about1 = true := code_word (m := ⟨9, 11⟩) (meth := k9m11) (c := k9c11) (by decide +kernel) rfl rfl rfl (by decide +kernel)
set_option maxRecDepth 65536 in
theorem w_c29 : (Jvm.Cond.code ({ cls := "java/lang/StringUTF16", name := "length", desc := "([B)I" } : Jvm.MethodName) jdk_52_method_6_code (1 : Nat) (Option.some Jvm.ClassFile.FieldType.int)).before args0 about1 = true := code_word (m := ⟨9, 5⟩) (meth := k9m5) (c := k9c5) (by decide +kernel) rfl rfl rfl (by decide +kernel)
def codes1 : List Jvm.Cond := [Jvm.Cond.code x code maxLocals ret, Jvm.Cond.code ({ cls := "com/example/pricefold/pricefold/model/DecimalTextReadPinLaw", name := "draw", desc := "(I)C" } : Jvm.MethodName) method_3_code (2 : Nat) (Option.some Jvm.ClassFile.FieldType.char), Jvm.Cond.code ({ cls := "java/lang/String", name := "<init>", desc := "([C)V" } : Jvm.MethodName) jdk_42_method_3_code (2 : Nat) (Option.none : Option Jvm.ClassFile.FieldType), Jvm.Cond.code ({ cls := "java/lang/String", name := "<init>", desc := "([CIILjava/lang/Void;)V" } : Jvm.MethodName) jdk_42_method_149_code (6 : Nat) (Option.none : Option Jvm.ClassFile.FieldType), Jvm.Cond.code ({ cls := "java/lang/Object", name := "<init>", desc := "()V" } : Jvm.MethodName) object_method_1_code (1 : Nat) (Option.none : Option Jvm.ClassFile.FieldType), Jvm.Cond.code ({ cls := "com/example/pricefold/pricefold/model/DecimalTextReadPinLaw", name := "odd", desc := "(CII)Z" } : Jvm.MethodName) method_4_code (3 : Nat) (Option.some Jvm.ClassFile.FieldType.boolean), Jvm.Cond.code ({ cls := "com/example/pricefold/pricefold/model/DecimalTextReadPinLaw", name := "pt", desc := "(CII)I" } : Jvm.MethodName) method_5_code (3 : Nat) (Option.some Jvm.ClassFile.FieldType.int), Jvm.Cond.code ({ cls := "com/example/pricefold/pricefold/model/DecimalText", name := "read", desc := "(Ljava/lang/String;)Lcom/example/pricefold/pricefold/model/DecimalText;" } : Jvm.MethodName) prog_42_method_2_code (4 : Nat) (Option.some (Jvm.ClassFile.FieldType.object "com/example/pricefold/pricefold/model/DecimalText")), Jvm.Cond.code ({ cls := "java/lang/String", name := "length", desc := "()I" } : Jvm.MethodName) jdk_42_method_54_code (1 : Nat) (Option.some Jvm.ClassFile.FieldType.int), Jvm.Cond.code ({ cls := "java/lang/String", name := "coder", desc := "()B" } : Jvm.MethodName) jdk_42_method_152_code (1 : Nat) (Option.some Jvm.ClassFile.FieldType.byte), Jvm.Cond.code ({ cls := "java/lang/StringUTF16", name := "compress", desc := "([CII)[B" } : Jvm.MethodName) jdk_52_method_16_code (6 : Nat) (Option.some (Jvm.ClassFile.FieldType.array Jvm.ClassFile.FieldType.byte)), Jvm.Cond.code ({ cls := "java/lang/StringUTF16", name := "compress", desc := "([CI[BII)I" } : Jvm.MethodName) jdk_52_method_21_code (7 : Nat) (Option.some Jvm.ClassFile.FieldType.int), Jvm.Cond.code ({ cls := "java/lang/StringUTF16", name := "coderFromArrayLen", desc := "([BI)B" } : Jvm.MethodName) jdk_52_method_15_code (2 : Nat) (Option.some Jvm.ClassFile.FieldType.byte), Jvm.Cond.code ({ cls := "java/lang/String", name := "charAt", desc := "(I)C" } : Jvm.MethodName) jdk_42_method_56_code (2 : Nat) (Option.some Jvm.ClassFile.FieldType.char), Jvm.Cond.code ({ cls := "java/lang/String", name := "isLatin1", desc := "()Z" } : Jvm.MethodName) jdk_42_method_154_code (1 : Nat) (Option.some Jvm.ClassFile.FieldType.boolean), Jvm.Cond.code ({ cls := "java/lang/StringLatin1", name := "charAt", desc := "([BI)C" } : Jvm.MethodName) jdk_43_method_2_code (2 : Nat) (Option.some Jvm.ClassFile.FieldType.char), Jvm.Cond.code ({ cls := "java/lang/String", name := "checkIndex", desc := "(II)V" } : Jvm.MethodName) jdk_42_method_155_code (2 : Nat) (Option.none : Option Jvm.ClassFile.FieldType), Jvm.Cond.code ({ cls := "jdk/internal/util/Preconditions", name := "checkIndex", desc := "(IILjava/util/function/BiFunction;)I" } : Jvm.MethodName) jdk_41_method_11_code (3 : Nat) (Option.some Jvm.ClassFile.FieldType.int), Jvm.Cond.code ({ cls := "com/example/pricefold/pricefold/model/DecimalText", name := "<init>", desc := "(Ljava/lang/String;II)V" } : Jvm.MethodName) prog_42_method_1_code (4 : Nat) (Option.none : Option Jvm.ClassFile.FieldType), Jvm.Cond.code ({ cls := "com/example/pricefold/pricefold/model/DecimalTextReadPinLaw", name := "zero", desc := "(CII)Z" } : Jvm.MethodName) method_6_code (3 : Nat) (Option.some Jvm.ClassFile.FieldType.boolean), Jvm.Cond.code ({ cls := "com/example/pricefold/pricefold/model/DecimalText", name := "wholeDigits", desc := "()I" } : Jvm.MethodName) prog_42_method_3_code (1 : Nat) (Option.some Jvm.ClassFile.FieldType.int), Jvm.Cond.code ({ cls := "com/example/pricefold/pricefold/model/DecimalText", name := "decimalPlaces", desc := "()I" } : Jvm.MethodName) prog_42_method_4_code (1 : Nat) (Option.some Jvm.ClassFile.FieldType.int), Jvm.Cond.code ({ cls := "java/lang/StringUTF16", name := "toBytes", desc := "([CII)[B" } : Jvm.MethodName) jdk_52_method_14_code (5 : Nat) (Option.some (Jvm.ClassFile.FieldType.array Jvm.ClassFile.FieldType.byte)), Jvm.Cond.code ({ cls := "java/lang/StringUTF16", name := "newBytesFor", desc := "(I)[B" } : Jvm.MethodName) jdk_52_method_2_code (1 : Nat) (Option.some (Jvm.ClassFile.FieldType.array Jvm.ClassFile.FieldType.byte)), Jvm.Cond.code ({ cls := "java/lang/StringUTF16", name := "newBytesLength", desc := "(I)I" } : Jvm.MethodName) jdk_52_method_3_code (1 : Nat) (Option.some Jvm.ClassFile.FieldType.int), Jvm.Cond.code ({ cls := "java/lang/StringUTF16", name := "putChar", desc := "([BII)V" } : Jvm.MethodName) jdk_52_method_4_code (3 : Nat) (Option.none : Option Jvm.ClassFile.FieldType), Jvm.Cond.code ({ cls := "java/lang/StringUTF16", name := "getChar", desc := "([BI)C" } : Jvm.MethodName) jdk_52_method_5_code (2 : Nat) (Option.some Jvm.ClassFile.FieldType.char), Jvm.Cond.code ({ cls := "java/lang/StringUTF16", name := "charAt", desc := "([BI)C" } : Jvm.MethodName) jdk_52_method_83_code (2 : Nat) (Option.some Jvm.ClassFile.FieldType.char), Jvm.Cond.code ({ cls := "java/lang/StringUTF16", name := "checkIndex", desc := "(I[B)V" } : Jvm.MethodName) jdk_52_method_91_code (2 : Nat) (Option.none : Option Jvm.ClassFile.FieldType), Jvm.Cond.code ({ cls := "java/lang/StringUTF16", name := "length", desc := "([B)I" } : Jvm.MethodName) jdk_52_method_6_code (1 : Nat) (Option.some Jvm.ClassFile.FieldType.int)]
set_option maxRecDepth 65536 in
theorem codes_eq : words1.filter isCode = codes1 := rfl
theorem w_codes : ∀ c ∈ words1.filter isCode, c.before args0 about1 = true := by
  rw [codes_eq]
  intro c hc
  simp only [codes1, List.mem_cons, List.not_mem_nil, or_false] at hc
  rcases hc with rfl | rfl | rfl | rfl | rfl | rfl | rfl | rfl | rfl | rfl | rfl | rfl | rfl | rfl | rfl | rfl | rfl | rfl | rfl | rfl | rfl | rfl | rfl | rfl | rfl | rfl | rfl | rfl | rfl | rfl
  · exact w_c0
  · exact w_c1
  · exact w_c2
  · exact w_c3
  · exact w_c4
  · exact w_c5
  · exact w_c6
  · exact w_c7
  · exact w_c8
  · exact w_c9
  · exact w_c10
  · exact w_c11
  · exact w_c12
  · exact w_c13
  · exact w_c14
  · exact w_c15
  · exact w_c16
  · exact w_c17
  · exact w_c18
  · exact w_c19
  · exact w_c20
  · exact w_c21
  · exact w_c22
  · exact w_c23
  · exact w_c24
  · exact w_c25
  · exact w_c26
  · exact w_c27
  · exact w_c28
  · exact w_c29
set_option maxRecDepth 65536 in
theorem w_t1 : (words1.take 24).all (fun c => isCode c || c.before args0 about1) = true := by decide +kernel
set_option maxRecDepth 65536 in
theorem w_t2 : ((words1.drop 24).take 24).all (fun c => isCode c || c.before args0 about1) = true := by decide +kernel
set_option maxRecDepth 65536 in
theorem w_t3 : (((words1.drop 24).drop 24).take 24).all (fun c => isCode c || c.before args0 about1) = true := by decide +kernel
set_option maxRecDepth 65536 in
theorem w_t4 : ((((words1.drop 24).drop 24).drop 24).take 24).all (fun c => isCode c || c.before args0 about1) = true := by decide +kernel
set_option maxRecDepth 65536 in
theorem w_t5 : (((((words1.drop 24).drop 24).drop 24).drop 24).take 24).all (fun c => isCode c || c.before args0 about1) = true := by decide +kernel
set_option maxRecDepth 65536 in
theorem w_t6 : (((((words1.drop 24).drop 24).drop 24).drop 24).drop 24).all (fun c => isCode c || c.before args0 about1) = true := by decide +kernel
theorem w_tables : (allAtoms (Jvm.Cond.code x code maxLocals ret :: tables_1)).before args0 about1 = true := by
  rw [allAtoms_all]
  show words1.all (fun c => c.before args0 about1) = true
  refine all_split ?_ w_codes
  rw [← List.take_append_drop 24 words1, List.all_append, w_t1, ← List.take_append_drop 24 (words1.drop 24), List.all_append, w_t2, ← List.take_append_drop 24 ((words1.drop 24).drop 24), List.all_append, w_t3, ← List.take_append_drop 24 (((words1.drop 24).drop 24).drop 24), List.all_append, w_t4, ← List.take_append_drop 24 ((((words1.drop 24).drop 24).drop 24).drop 24), List.all_append, w_t5, w_t6]
  rfl
set_option maxRecDepth 65536 in
theorem w_rest : rest_1_c.before args0 about1 = true := by decide +kernel
set_option maxRecDepth 65536 in
theorem w_case : (Jvm.Cond.and given_1 narrow_1).before args0 about1 = true := by decide +kernel
set_option maxRecDepth 65536 in
theorem w_consts : constsHeld consts_1 about1 := Jvm.Lit.constsHeldB_iff.mp (by decide +kernel)
theorem w_applies : (headSpec (Jvm.Cond.code x code maxLocals ret :: tables_1) room_1).applies x e0.platform about1 = true :=
  (Spec.applies_iff w_frames).mpr ⟨w_running, w_runnable, w_alone, w_named, w_hears, w_ripe, w_room, w_tables⟩
theorem atStart : AtStart classFile x code maxLocals ret World_1 tables_1 room_1 Calls_1 rest_1 Pre_1 launch0 p0 e0 about1 theMethod args0 below0 :=
  ⟨lists_1, trivial, launch0.admits_env _ _ _, launch0.least_env, fairChoices_fair.cas, fairChoices_fair.clock, w_frames, w_args, w_heap, w_applies, ⟨w_consts, trivial⟩, w_rest, w_case⟩
end start1
theorem witness_1 : WitnessClaimed_1 := ⟨start1.p0, start1.e0, start1.about1, start1.theMethod, start1.args0, start1.below0, start1.atStart⟩
end Jvm.Pilot.@@N@@
