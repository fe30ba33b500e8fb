import JvmDerived
import JvmDerived.Pilot.@@N@@Statement
import JvmDerived.Pilot.@@N@@Code
set_option linter.unusedVariables false
set_option linter.unusedSimpArgs false
/- laws to paste: Road.backV, Road.codOf, Road.lenW, lo8_mask (cut by pick.py; bodies as the Statement names them) -/
namespace Jvm.Pilot.@@N@@
namespace StrChars
open Jvm Sem ClassFile Op Lib Jvm.Stand Jvm.Free.XT Jvm.Free.ALB Jvm.Free.JM Jvm.Free
open Jvm.Lib.Cold (StaticIs)
/-- a char array whose places are chars -/
def Ch (a : Addr) (A : Cell) (U : State) : Prop := Arr .char a A U ∧ Typed .char A
theorem Ch.mv {a : Addr} {A : Cell} {U U' : State} (h : Ch a A U) (hal : U.vm.Alike U'.vm) (hh : U'.heap = U.heap) : Ch a A U' := ⟨h.1.mv hal hh, h.2⟩
theorem Ch.keep {a : Addr} {A : Cell} {U U' : State} (h : Ch a A U) (hal : U.vm.Alike U'.vm) (hk : U'.heap[a]? = some A) : Ch a A U' := ⟨h.1.keep hal hk, h.2⟩
/-- what place i of a char[]'s cell holds -/
def cv (A : Cell) (i : Nat) : Int32 := match A.slots[i]? with | some (.int x) => x | _ => 0
theorem Ch.get {a : Addr} {A : Cell} {U : State} (h : Ch a A U) {i : Nat} (hi : i < A.slots.size) : A.slots[i]? = some (.int (cv A i)) := by
  have e := Array.getElem?_eq_getElem hi
  have f := h.2 i _ e
  unfold cv; rw [e]
  generalize A.slots[i] = v at f
  cases v <;> simp [fits] at f ⊢
/-- the byte that i2b leaves of a char -/
def lo8 (x : Int32) : Int32 := x.toInt8.toInt32
theorem fits_lo8 (y : Int32) : fits .byte (.int (lo8 y)) = true := by
  have h1 := y.toInt8.le_toInt
  have h2 := y.toInt8.toInt_lt
  simp only [lo8, fits, Bool.and_eq_true, decide_eq_true_eq, Int32.le_iff_toInt_le, Int8.toInt_toInt32, show (-128 : Int32).toInt = -128 from by decide, show (127 : Int32).toInt = 127 from by decide]
  omega
/-- A' is A but that each place j of lo .. hi - 1 holds f j -/
def Laid (A A' : Cell) (lo hi : Nat) (f : Nat → Value) : Prop := A'.cls = A.cls ∧ A'.vm = A.vm ∧ A'.slots.size = A.slots.size ∧ ∀ i, A'.slots[i]? = if lo ≤ i ∧ i < hi then some (f i) else A.slots[i]?
theorem Laid.zero (A : Cell) (lo : Nat) (f : Nat → Value) : Laid A A lo (lo + 0) f := ⟨rfl, rfl, rfl, fun i => by rw [if_neg (by omega)]⟩
theorem Laid.step {A Ak : Cell} {lo k : Nat} {f : Nat → Value} {v : Value} (h : Laid A Ak lo k f) (hlo : lo ≤ k) (hk : k < Ak.slots.size) (hv : v = f k) : Laid A (Ak.setSlot k v) lo (k + 1) f := by
  refine ⟨h.1, h.2.1, by simpa [Cell.setSlot] using h.2.2.1, fun i => ?_⟩
  by_cases e : k = i
  · subst e; rw [Cell.slots_setSlot_self v hk, if_pos (by omega), hv]
  · rw [Cell.slots_setSlot_ne v e, h.2.2.2 i]
    by_cases q : lo ≤ i ∧ i < k
    · rw [if_pos q, if_pos (by omega)]
    · rw [if_neg q, if_neg (by omega)]
def U16 : String := "java/lang/StringUTF16"
namespace Cmp5
def yN : MethodName := ⟨"java/lang/StringUTF16", "compress", "([CI[BII)I"⟩
abbrev yB : ByteArray := jdk_52_method_21_code
theorem d0 : decode yB 0 = .ok (.iconst 0, 1) := by decide +kernel
theorem d1 : decode yB 1 = .ok (.istore 5, 2) := by decide +kernel
theorem d3 : decode yB 3 = .ok (.iload 5, 2) := by decide +kernel
theorem d5 : decode yB 5 = .ok (.iload 4, 2) := by decide +kernel
theorem d7 : decode yB 7 = .ok (.if_icmp (.ge) 37, 3) := by decide +kernel
theorem d10 : decode yB 10 = .ok (.aload_n 0, 1) := by decide +kernel
theorem d11 : decode yB 11 = .ok (.iload_n 1, 1) := by decide +kernel
theorem d12 : decode yB 12 = .ok (.caload, 1) := by decide +kernel
theorem d13 : decode yB 13 = .ok (.istore 6, 2) := by decide +kernel
theorem d15 : decode yB 15 = .ok (.iload 6, 2) := by decide +kernel
theorem d17 : decode yB 17 = .ok (.sipush 255, 3) := by decide +kernel
theorem d20 : decode yB 20 = .ok (.if_icmp (.le) 6, 3) := by decide +kernel
theorem d26 : decode yB 26 = .ok (.aload_n 2, 1) := by decide +kernel
theorem d27 : decode yB 27 = .ok (.iload_n 3, 1) := by decide +kernel
theorem d28 : decode yB 28 = .ok (.iload 6, 2) := by decide +kernel
theorem d30 : decode yB 30 = .ok (.i2b, 1) := by decide +kernel
theorem d31 : decode yB 31 = .ok (.bastore, 1) := by decide +kernel
theorem d32 : decode yB 32 = .ok (.iinc 1 1, 3) := by decide +kernel
theorem d35 : decode yB 35 = .ok (.iinc 3 1, 3) := by decide +kernel
theorem d38 : decode yB 38 = .ok (.iinc 5 1, 3) := by decide +kernel
theorem d41 : decode yB 41 = .ok (.goto (-38), 3) := by decide +kernel
theorem d44 : decode yB 44 = .ok (.iload 4, 2) := by decide +kernel
theorem d46 : decode yB 46 = .ok (.ireturn, 1) := by decide +kernel
def site : List Cond := []
def tab : Cond := tabOf yN yB 7 (some .int) site
def P (b : Addr) (A : Cell) (d : Addr) (B : Cell) (o q len : Nat) (args : Array Value) (s : State) : Prop := args = #[.ref b, .int (Int32.ofNat o), .ref d, .int (Int32.ofNat q), .int (Int32.ofNat len)] ∧ Ch b A s ∧ Arr .byte d B s ∧ b ≠ d ∧ o + len ≤ A.slots.size ∧ q + len ≤ B.slots.size ∧ ∀ i, i < len → ¬ 255 < cv A (o + i)
def E (b : Addr) (A : Cell) (d : Addr) (B : Cell) (o q len : Nat) (r : Option Value) (s u : State) : Prop := r = some (.int (Int32.ofNat len)) ∧ ∃ B', Put d B' s u ∧ Laid B B' q (q + len) (fun j => Value.int (lo8 (cv A (o + (j - q)))))
/-- no char of the range above 255: len; the places written hold each char's low byte -/
theorem law (l : Launch) (b : Addr) (A : Cell) (d : Addr) (B : Cell) (o q len : Nat) : Law l yN 5 5 0 0 yB 7 (some .int) site (P b A d B o q len) (E b A d B o q len) (copyLocs d q len) 0 0 := by
  refine Law.of_walk (plainFor_of_name (by decide +kernel)) (by decide +kernel) (by decide +kernel) (by decide) (fun _ _ h => by rw [h.1]; rfl) (fun _ U U' hal hh h => ⟨h.1, h.2.1.mv hal hh, h.2.2.1.mv hal hh, h.2.2.2⟩) (fun r U U' V V' h1 hal h2 h => ⟨h.1, h.2.elim fun B' q => ⟨B', q.1.mv h1 h2, q.2⟩⟩) ?_
  intro p e s m args below meth c s₁ X0 hexec hbytes hml hret hlk hnm hown hh0 W hP
  obtain ⟨rfl, hA, hB, hne, l1, l2, hp⟩ := hP
  have c1 : Steps p.tables e below (s₁.setTop (entryFrame m #[.ref b, .int (Int32.ofNat o), .ref d, .int (Int32.ofNat q), .int (Int32.ofNat len)] 7)) (s₁.setTop (mkF m 0 #[.val (.ref b), .val (.int (Int32.ofNat o)), .val (.ref d), .val (.int (Int32.ofNat q)), .val (.int (Int32.ofNat len)), .unset, .unset] [])) := entry rfl
  have hA0 := hA.1.mv X0.warmed.alike hh0
  have hB0 := hB.mv X0.warmed.alike hh0
  have a31 := hA.1.2.2.2
  have c2 : Steps p.tables e below (s₁.setTop (entryFrame m #[.ref b, .int (Int32.ofNat o), .ref d, .int (Int32.ofNat q), .int (Int32.ofNat len)] 7)) (s₁.setTop (mkF m 3 #[.val (.ref b), .val (.int (Int32.ofNat o)), .val (.ref d), .val (.int (Int32.ofNat q)), .val (.int (Int32.ofNat len)), .val (.int 0), .unset] [])) := c1.trans (by
    refine iconstV X0.here hexec rfl 0 (hb hbytes d0) (by decide) ?_
    refine XS.istore X0.here hexec rfl (hb hbytes d1) rfl rfl ?_
    exact Steps.refl _)
  have loop : ∀ (r i : Nat), i + r = len → ∀ (z : Slot), (z = .unset ∨ ∃ w, z = .val w ∧ w.category = 1) → ∀ (Tl : State) (Bk : Cell), Stand p l e { frames := 0, locals := 0, cells := 0, slots := 0 } s m #[.ref b, .int (Int32.ofNat o), .ref d, .int (Int32.ofNat q), .int (Int32.ofNat len)] below meth c Tl ([] ++ copyLocs d q i) 0 0 → Put d Bk s₁ Tl → Laid B Bk q (q + i) (fun j => Value.int (lo8 (cv A (o + (j - q))))) →
      Steps p.tables e below (s₁.setTop (entryFrame m #[.ref b, .int (Int32.ofNat o), .ref d, .int (Int32.ofNat q), .int (Int32.ofNat len)] 7)) (Tl.setTop (mkF m 3 #[.val (.ref b), .val (.int (Int32.ofNat (o + i))), .val (.ref d), .val (.int (Int32.ofNat (q + i))), .val (.int (Int32.ofNat len)), .val (.int (Int32.ofNat i)), z] [])) → ∃ (T' : State) (B' : Cell) (z' : Slot), Stand p l e { frames := 0, locals := 0, cells := 0, slots := 0 } s m #[.ref b, .int (Int32.ofNat o), .ref d, .int (Int32.ofNat q), .int (Int32.ofNat len)] below meth c T' ([] ++ copyLocs d q len) 0 0 ∧ Put d B' s₁ T' ∧ Laid B B' q (q + len) (fun j => Value.int (lo8 (cv A (o + (j - q))))) ∧
      Steps p.tables e below (s₁.setTop (entryFrame m #[.ref b, .int (Int32.ofNat o), .ref d, .int (Int32.ofNat q), .int (Int32.ofNat len)] 7)) (T'.setTop (mkF m 3 #[.val (.ref b), .val (.int (Int32.ofNat (o + len))), .val (.ref d), .val (.int (Int32.ofNat (q + len))), .val (.int (Int32.ofNat len)), .val (.int (Int32.ofNat len)), z'] [])) := by
    intro r
    induction r with
    | zero =>
      intro i hi z hz Tl Bk Xl pl fl cl
      have hil : i = len := by omega
      rw [hil] at Xl fl cl
      exact ⟨Tl, Bk, z, Xl, pl, fl, cl⟩
    | succ r ih =>
      intro i hi z hz Tl Bk Xl pl fl cl
      have all := X0.warmed.alike.symm.trans Xl.warmed.alike
      have hAl := hA0.keep all (pl.other hne hA0.1)
      have hBk := hB0.like all pl.1 fl.1 fl.2.1 fl.2.2.1
      have hlt : q + i < Bk.slots.size := by rw [fl.2.2.1]; omega
      have c3 : Steps p.tables e below (s₁.setTop (entryFrame m #[.ref b, .int (Int32.ofNat o), .ref d, .int (Int32.ofNat q), .int (Int32.ofNat len)] 7)) (Tl.setTop (mkF m 12 #[.val (.ref b), .val (.int (Int32.ofNat (o + i))), .val (.ref d), .val (.int (Int32.ofNat (q + i))), .val (.int (Int32.ofNat len)), .val (.int (Int32.ofNat i)), z] [.int (Int32.ofNat (o + i)), .ref b])) := cl.trans (by
        refine XS.iload Xl.here hexec rfl (hb hbytes d3) rfl ?_
        refine XS.iload Xl.here hexec rfl (hb hbytes d5) rfl ?_
        refine XS.icmpNo Xl.here hexec rfl (hb hbytes d7) rfl (ii_ge_f (lt32 (by omega) (by omega))) ?_
        refine XS.aloadN Xl.here hexec rfl (hb hbytes d10) rfl rfl ?_
        refine XS.iloadN Xl.here hexec rfl (hb hbytes d11) rfl ?_
        exact Steps.refl _)
      have c4 : Steps p.tables e below (s₁.setTop (entryFrame m #[.ref b, .int (Int32.ofNat o), .ref d, .int (Int32.ofNat q), .int (Int32.ofNat len)] 7)) (Tl.setTop (mkF m 13 #[.val (.ref b), .val (.int (Int32.ofNat (o + i))), .val (.ref d), .val (.int (Int32.ofNat (q + i))), .val (.int (Int32.ofNat len)), .val (.int (Int32.ofNat i)), z] [.int (cv A (o + i))])) := c3.trans (by
        refine Xl.aget hexec hAl rfl (hA.get (i := o + i) (by omega)) rfl rfl (hb hbytes d12) ?_
        exact Steps.refl _)
      have c5 : Steps p.tables e below (s₁.setTop (entryFrame m #[.ref b, .int (Int32.ofNat o), .ref d, .int (Int32.ofNat q), .int (Int32.ofNat len)] 7)) (Tl.setTop (mkF m 15 #[.val (.ref b), .val (.int (Int32.ofNat (o + i))), .val (.ref d), .val (.int (Int32.ofNat (q + i))), .val (.int (Int32.ofNat len)), .val (.int (Int32.ofNat i)), .val (.int (cv A (o + i)))] [])) := c4.trans (by
        refine XS.istoreS Xl.here hexec rfl (hb hbytes d13) rfl rfl hz ?_
        exact Steps.refl _)
      have c6 : Steps p.tables e below (s₁.setTop (entryFrame m #[.ref b, .int (Int32.ofNat o), .ref d, .int (Int32.ofNat q), .int (Int32.ofNat len)] 7)) (Tl.setTop (mkF m 31 #[.val (.ref b), .val (.int (Int32.ofNat (o + i))), .val (.ref d), .val (.int (Int32.ofNat (q + i))), .val (.int (Int32.ofNat len)), .val (.int (Int32.ofNat i)), .val (.int (cv A (o + i)))] [.int (lo8 (cv A (o + i))), .int (Int32.ofNat (q + i)), .ref d])) := c5.trans (by
        refine XS.iload Xl.here hexec rfl (hb hbytes d15) rfl ?_
        refine sipushV Xl.here hexec rfl 255 (hb hbytes d17) (by decide) ?_
        refine XS.icmpYes Xl.here hexec rfl (pc0 := 20) rfl (hb hbytes d20) rfl (ii_le_t (hp i (by omega))) (by decide) rfl ?_
        refine XS.aloadN Xl.here hexec rfl (hb hbytes d26) rfl rfl ?_
        refine XS.iloadN Xl.here hexec rfl (hb hbytes d27) rfl ?_
        refine XS.iload Xl.here hexec rfl (hb hbytes d28) rfl ?_
        refine i2b Xl.here hexec rfl (hb hbytes d30) rfl ?_
        exact Steps.refl _)
      obtain ⟨T7, X7, p7, st7⟩ := Xl.aput hexec hBk rfl hlt rfl (fits_lo8 (cv A (o + i))) (g := (mkF m 31 #[.val (.ref b), .val (.int (Int32.ofNat (o + i))), .val (.ref d), .val (.int (Int32.ofNat (q + i))), .val (.int (Int32.ofNat len)), .val (.int (Int32.ofNat i)), .val (.int (cv A (o + i)))] [.int (lo8 (cv A (o + i))), .int (Int32.ofNat (q + i)), .ref d])) rfl (rest := []) rfl (hb hbytes d31)
      have c8 : Steps p.tables e below (s₁.setTop (entryFrame m #[.ref b, .int (Int32.ofNat o), .ref d, .int (Int32.ofNat q), .int (Int32.ofNat len)] 7)) (T7.setTop (mkF m 32 #[.val (.ref b), .val (.int (Int32.ofNat (o + i))), .val (.ref d), .val (.int (Int32.ofNat (q + i))), .val (.int (Int32.ofNat len)), .val (.int (Int32.ofNat i)), .val (.int (cv A (o + i)))] [])) := c6.trans (st7 _ (Steps.refl _))
      have c9 : Steps p.tables e below (s₁.setTop (entryFrame m #[.ref b, .int (Int32.ofNat o), .ref d, .int (Int32.ofNat q), .int (Int32.ofNat len)] 7)) (T7.setTop (mkF m 3 #[.val (.ref b), .val (.int (Int32.ofNat (o + i) + 1)), .val (.ref d), .val (.int (Int32.ofNat (q + i) + 1)), .val (.int (Int32.ofNat len)), .val (.int (Int32.ofNat i + 1)), .val (.int (cv A (o + i)))] [])) := c8.trans (by
        refine iincV X7.here hexec rfl 1 (hb hbytes d32) (by decide) rfl rfl ?_
        refine iincV X7.here hexec rfl 1 (hb hbytes d35) (by decide) rfl rfl ?_
        refine iincV X7.here hexec rfl 1 (hb hbytes d38) (by decide) rfl rfl ?_
        refine XS.goto X7.here hexec rfl (pc0 := 41) rfl (hb hbytes d41) (by decide) rfl ?_
        exact Steps.refl _)
      have c10 : Steps p.tables e below (s₁.setTop (entryFrame m #[.ref b, .int (Int32.ofNat o), .ref d, .int (Int32.ofNat q), .int (Int32.ofNat len)] 7)) (T7.setTop (mkF m 3 #[.val (.ref b), .val (.int (Int32.ofNat (o + (i + 1)))), .val (.ref d), .val (.int (Int32.ofNat (q + (i + 1)))), .val (.int (Int32.ofNat len)), .val (.int (Int32.ofNat (i + 1))), .val (.int (cv A (o + i)))] [])) := by
        have := c9
        rw [succ32, succ32, succ32] at this
        exact this
      exact ih (i + 1) (by omega) _ (Or.inr ⟨_, rfl, rfl⟩) T7 _ (by rw [copyLocs_step, ← List.append_assoc]; exact X7) (pl.trans p7) (fl.step (by omega) hlt (by simp)) c10
  obtain ⟨T9, B9, z9, X9, p9, f9, g9⟩ := loop len 0 (by omega) .unset (Or.inl rfl) s₁ B (by simpa [copyLocs] using X0) ⟨hB0.1, fun _ _ => rfl, rfl⟩ (Laid.zero _ _ _) c2
  have c11 : Steps p.tables e below (s₁.setTop (entryFrame m #[.ref b, .int (Int32.ofNat o), .ref d, .int (Int32.ofNat q), .int (Int32.ofNat len)] 7)) (T9.setTop (mkF m 46 #[.val (.ref b), .val (.int (Int32.ofNat (o + len))), .val (.ref d), .val (.int (Int32.ofNat (q + len))), .val (.int (Int32.ofNat len)), .val (.int (Int32.ofNat len)), z9] [.int (Int32.ofNat len)])) := g9.trans (by
    refine XS.iload X9.here hexec rfl (hb hbytes d3) rfl ?_
    refine XS.iload X9.here hexec rfl (hb hbytes d5) rfl ?_
    refine XS.icmpYes X9.here hexec rfl (pc0 := 7) rfl (hb hbytes d7) rfl (ii_ge_t (nlt32 (by omega) (Nat.le_refl _))) (by decide) rfl ?_
    refine XS.iload X9.here hexec rfl (hb hbytes d44) rfl ?_
    exact Steps.refl _)
  exact ⟨T9, some (.int (Int32.ofNat len)), _, _, _, X9, by simp, rfl, rfl, (fun h => by cases h), ⟨rfl, B9, p9.from hh0, f9⟩, fun fs hl => c11.trans (X9.ireturnOut hexec hret rfl (Or.inl rfl) (hb hbytes d46) hl)⟩
end Cmp5
namespace Cmp3
def yN : MethodName := ⟨"java/lang/StringUTF16", "compress", "([CII)[B"⟩
abbrev yB : ByteArray := jdk_52_method_16_code
theorem d0 : decode yB 0 = .ok (.iload_n 2, 1) := by decide +kernel
theorem d1 : decode yB 1 = .ok (.newarray .byte, 2) := by decide +kernel
theorem d3 : decode yB 3 = .ok (.astore_n 3, 1) := by decide +kernel
theorem d4 : decode yB 4 = .ok (.aload_n 0, 1) := by decide +kernel
theorem d5 : decode yB 5 = .ok (.iload_n 1, 1) := by decide +kernel
theorem d6 : decode yB 6 = .ok (.aload_n 3, 1) := by decide +kernel
theorem d7 : decode yB 7 = .ok (.iconst 0, 1) := by decide +kernel
theorem d8 : decode yB 8 = .ok (.iload_n 2, 1) := by decide +kernel
theorem d9 : decode yB 9 = .ok (.invokestatic 115, 3) := by decide +kernel
theorem d12 : decode yB 12 = .ok (.istore 4, 2) := by decide +kernel
theorem d14 : decode yB 14 = .ok (.iload 4, 2) := by decide +kernel
theorem d16 : decode yB 16 = .ok (.iload_n 2, 1) := by decide +kernel
theorem d17 : decode yB 17 = .ok (.if_icmp (.eq) 40, 3) := by decide +kernel
theorem d57 : decode yB 57 = .ok (.aload_n 3, 1) := by decide +kernel
theorem d58 : decode yB 58 = .ok (.areturn, 1) := by decide +kernel
def site : List Cond := [.arrayClass .byte, Cmp5.tab] ++ staticW U16 115 Cmp5.yN
def tab : Cond := tabOf yN yB 6 (some (.array .byte)) site
def P (b : Addr) (A : Cell) (o len : Nat) (args : Array Value) (s : State) : Prop := args = #[.ref b, .int (Int32.ofNat o), .int (Int32.ofNat len)] ∧ Ch b A s ∧ o + len ≤ A.slots.size ∧ len ≤ 536870912 ∧ ∀ i, i < len → ¬ 255 < cv A (o + i)
def E (b : Addr) (A : Cell) (o len : Nat) (r : Option Value) (s u : State) : Prop := NewArr .byte "[B" len (fun j => .int (lo8 (cv A (o + j)))) r s u ∧ u.heap.size = s.heap.size + 1
/-- no char of the range above 255: a new byte[] of their low bytes -/
theorem law (l : Launch) (b : Addr) (A : Cell) (o len : Nat) : Law l yN 3 3 1 18 yB 6 (some (.array .byte)) site (P b A o len) (E b A o len) [] 1 len := by
  refine Law.of_walk (plainFor_of_name (by decide +kernel)) (by decide +kernel) (by decide +kernel) (by decide) (fun _ _ h => by rw [h.1]; rfl) (fun _ U U' hal hh h => ⟨h.1, h.2.1.mv hal hh, h.2.2⟩) (fun r U U' V V' h1 hal h2 h => ⟨NewArr.mv r U U' V V' h1 hal h2 h.1, by rw [h1, h2]; exact h.2⟩) ?_
  intro p e s m args below meth c s₁ X0 hexec hbytes hml hret hlk hnm hown hh0 W hP
  obtain ⟨rfl, hA, l1, l2, hp⟩ := hP
  have a31 := hA.1.2.2.2
  have c1 : Steps p.tables e below (s₁.setTop (entryFrame m #[.ref b, .int (Int32.ofNat o), .int (Int32.ofNat len)] 6)) (s₁.setTop (mkF m 0 #[.val (.ref b), .val (.int (Int32.ofNat o)), .val (.int (Int32.ofNat len)), .unset, .unset, .unset] [])) := entry rfl
  have c2 : Steps p.tables e below (s₁.setTop (entryFrame m #[.ref b, .int (Int32.ofNat o), .int (Int32.ofNat len)] 6)) (s₁.setTop (mkF m 1 #[.val (.ref b), .val (.int (Int32.ofNat o)), .val (.int (Int32.ofNat len)), .unset, .unset, .unset] [.int (Int32.ofNat len)])) := c1.trans (by
    refine XS.iloadN X0.here hexec rfl (hb hbytes d0) rfl ?_
    exact Steps.refl _)
  obtain ⟨T3, B3, X3, ba3, bs3, bv3, bh3, bf3, st3⟩ := X0.anew hexec (atype := .byte) (wk W (.arrayClass .byte)) rfl (by show len * 1 ≤ _; omega) (by omega) (g := (mkF m 1 #[.val (.ref b), .val (.int (Int32.ofNat o)), .val (.int (Int32.ofNat len)), .unset, .unset, .unset] [.int (Int32.ofNat len)])) rfl (hb hbytes d1) (rest := []) rfl (Nat.le_refl _) (by show 0 + len ≤ len; omega)
  rw [hh0] at ba3 st3
  have kp3 : XT.Kept s T3 := (XT.Kept.of_eq hh0).push bh3
  have hA3 := hA.keep X3.warmed.alike (kp3 _ _ hA.1.1)
  have hne : b ≠ s.heap.size := hA.1.ne
  have c4 : Steps p.tables e below (s₁.setTop (entryFrame m #[.ref b, .int (Int32.ofNat o), .int (Int32.ofNat len)] 6)) (T3.setTop (mkF m 3 #[.val (.ref b), .val (.int (Int32.ofNat o)), .val (.int (Int32.ofNat len)), .unset, .unset, .unset] [.ref s.heap.size])) := c2.trans (st3 _ (Steps.refl _))
  have c5 : Steps p.tables e below (s₁.setTop (entryFrame m #[.ref b, .int (Int32.ofNat o), .int (Int32.ofNat len)] 6)) (T3.setTop (mkF m 9 #[.val (.ref b), .val (.int (Int32.ofNat o)), .val (.int (Int32.ofNat len)), .val (.ref s.heap.size), .unset, .unset] [.int (Int32.ofNat len), .int 0, .ref s.heap.size, .int (Int32.ofNat o), .ref b])) := c4.trans (by
    refine XS.astoreN X3.here hexec rfl (hb hbytes d3) rfl rfl rfl ?_
    refine XS.aloadN X3.here hexec rfl (hb hbytes d4) rfl rfl ?_
    refine XS.iloadN X3.here hexec rfl (hb hbytes d5) rfl ?_
    refine XS.aloadN X3.here hexec rfl (hb hbytes d6) rfl rfl ?_
    refine iconstV X3.here hexec rfl 0 (hb hbytes d7) (by decide) ?_
    refine XS.iloadN X3.here hexec rfl (hb hbytes d8) rfl ?_
    exact Steps.refl _)
  obtain ⟨v6, T6, X6, E6, g6⟩ := X3.callS hexec (Cmp5.law l b A s.heap.size B3 o 0 len) hown (wks W (staticW U16 115 Cmp5.yN)) (wk W Cmp5.tab) (W := 0) (Nat.le_of_ble_eq_true rfl) (Nat.le_of_ble_eq_true rfl) (Nat.le_refl _) (by show 0 + len + 0 ≤ len; omega) (g := (mkF m 9 #[.val (.ref b), .val (.int (Int32.ofNat o)), .val (.int (Int32.ofNat len)), .val (.ref s.heap.size), .unset, .unset] [.int (Int32.ofNat len), .int (Int32.ofNat 0), .ref s.heap.size, .int (Int32.ofNat o), .ref b])) rfl (by rw [hml]; rfl) c5 (argsL := [.ref b, .int (Int32.ofNat o), .ref s.heap.size, .int (Int32.ofNat 0), .int (Int32.ofNat len)]) (rest := []) rfl rfl (by show 2 * 0 + 0 ≤ _; decide) (hb hbytes d9) (⟨rfl, hA3, ba3, hne, l1, by rw [bs3]; simp, hp⟩)
  obtain ⟨rfl, B6, p6, f6⟩ := E6
  have c7 : Steps p.tables e below (s₁.setTop (entryFrame m #[.ref b, .int (Int32.ofNat o), .int (Int32.ofNat len)] 6)) (T6.setTop (mkF m 12 #[.val (.ref b), .val (.int (Int32.ofNat o)), .val (.int (Int32.ofNat len)), .val (.ref s.heap.size), .unset, .unset] [.int (Int32.ofNat len)])) := g6
  have c8 : Steps p.tables e below (s₁.setTop (entryFrame m #[.ref b, .int (Int32.ofNat o), .int (Int32.ofNat len)] 6)) (T6.setTop (mkF m 58 #[.val (.ref b), .val (.int (Int32.ofNat o)), .val (.int (Int32.ofNat len)), .val (.ref s.heap.size), .val (.int (Int32.ofNat len)), .unset] [.ref s.heap.size])) := c7.trans (by
    refine XS.istore X6.here hexec rfl (hb hbytes d12) rfl rfl ?_
    refine XS.iload X6.here hexec rfl (hb hbytes d14) rfl ?_
    refine XS.iloadN X6.here hexec rfl (hb hbytes d16) rfl ?_
    refine XS.icmpYes X6.here hexec rfl (pc0 := 17) rfl (hb hbytes d17) rfl (ii_eq_t rfl) (by decide) rfl ?_
    refine XS.aloadN X6.here hexec rfl (hb hbytes d57) rfl rfl ?_
    exact Steps.refl _)
  have X8 := X6.wide (L' := []) (cells' := 1) (slots' := len) (fun x hx hlt => by
    simp only [List.nil_append, copyLocs, List.mem_map, List.mem_range] at hx
    obtain ⟨i, -, rfl⟩ := hx
    exact absurd hlt (Nat.lt_irrefl _)) (Nat.le_refl _) (by omega)
  exact ⟨T6, some (.ref s.heap.size), _, _, _, X8, rfl, rfl, rfl, (fun h => by cases h), ⟨⟨rfl, B6, ba3.like (X3.warmed.alike.symm.trans X6.warmed.alike) p6.1 f6.1 f6.2.1 f6.2.2.1, f6.2.1.trans bv3, by rw [X6.warmed.alike.findClass, f6.1]; exact bf3, by rw [f6.2.2.1, bs3]; simp, fun j hj => by rw [f6.2.2.2 j, if_pos (by omega)]; rfl, kp3.put p6 (Nat.le_refl _)⟩, by rw [p6.2.2, bh3, hh0]; simp⟩, fun fs hl => c8.trans (X8.areturnOut hexec rfl hret rfl (hb hbytes d58) hl)⟩
end Cmp3
namespace CodL
def yN : MethodName := ⟨"java/lang/StringUTF16", "coderFromArrayLen", "([BI)B"⟩
abbrev yB : ByteArray := jdk_52_method_15_code
theorem d0 : decode yB 0 = .ok (.iload_n 1, 1) := by decide +kernel
theorem d1 : decode yB 1 = .ok (.aload_n 0, 1) := by decide +kernel
theorem d2 : decode yB 2 = .ok (.arraylength, 1) := by decide +kernel
theorem d3 : decode yB 3 = .ok (.isub, 1) := by decide +kernel
theorem d4 : decode yB 4 = .ok (.bipush 31, 2) := by decide +kernel
theorem d6 : decode yB 6 = .ok (.iushr, 1) := by decide +kernel
theorem d7 : decode yB 7 = .ok (.i2b, 1) := by decide +kernel
theorem d8 : decode yB 8 = .ok (.ireturn, 1) := by decide +kernel
def site : List Cond := []
def tab : Cond := tabOf yN yB 2 (some .byte) site
def P (d : Addr) (B : Cell) (args : Array Value) (s : State) : Prop := args = #[.ref d, .int (Int32.ofNat B.slots.size)] ∧ Arr .byte d B s
def E (r : Option Value) (s u : State) : Prop := XT.PureE (some (.int 0)) r s u
/-- an array as long as the number of chars: LATIN1 -/
theorem law (l : Launch) (d : Addr) (B : Cell) : Law l yN 2 2 0 0 yB 2 (some .byte) site (P d B) E [] 0 0 := by
  refine Law.of_walk (plainFor_of_name (by decide +kernel)) (by decide +kernel) (by decide +kernel) (by decide) (fun _ _ h => by rw [h.1]; rfl) (fun _ U U' hal hh h => ⟨h.1, h.2.mv hal hh⟩) (fun r U U' V V' h1 hal h2 h => XT.PureE.mv r U U' V V' h1 hal h2 h) ?_
  intro p e s m args below meth c s₁ X0 hexec hbytes hml hret hlk hnm hown hh0 W hP
  obtain ⟨rfl, hB⟩ := hP
  have hB0 := hB.mv X0.warmed.alike hh0
  have c1 : Steps p.tables e below (s₁.setTop (entryFrame m #[.ref d, .int (Int32.ofNat B.slots.size)] 2)) (s₁.setTop (mkF m 0 #[.val (.ref d), .val (.int (Int32.ofNat B.slots.size))] [])) := entry rfl
  have c2 : Steps p.tables e below (s₁.setTop (entryFrame m #[.ref d, .int (Int32.ofNat B.slots.size)] 2)) (s₁.setTop (mkF m 2 #[.val (.ref d), .val (.int (Int32.ofNat B.slots.size))] [.ref d, .int (Int32.ofNat B.slots.size)])) := c1.trans (by
    refine XS.iloadN X0.here hexec rfl (hb hbytes d0) rfl ?_
    refine XS.aloadN X0.here hexec rfl (hb hbytes d1) rfl rfl ?_
    exact Steps.refl _)
  have c3 : Steps p.tables e below (s₁.setTop (entryFrame m #[.ref d, .int (Int32.ofNat B.slots.size)] 2)) (s₁.setTop (mkF m 8 #[.val (.ref d), .val (.int (Int32.ofNat B.slots.size))] [.int (lo8 (ushr (Int32.ofNat B.slots.size - Int32.ofNat B.slots.size) 31))])) := c2.trans (by
    refine X0.alen hexec hB0 rfl rfl (hb hbytes d2) ?_
    refine XS.isub X0.here hexec rfl (hb hbytes d3) rfl ?_
    refine bipushV X0.here hexec rfl 31 (hb hbytes d4) (by decide) ?_
    refine iushr X0.here hexec rfl (hb hbytes d6) rfl ?_
    refine i2b X0.here hexec rfl (hb hbytes d7) rfl ?_
    exact Steps.refl _)
  have e0 : lo8 (ushr (Int32.ofNat B.slots.size - Int32.ofNat B.slots.size) 31) = 0 := by rw [Int32.sub_self]; decide
  rw [e0] at c3
  exact ⟨s₁, some (.int 0), _, _, _, X0, rfl, rfl, rfl, (fun h => by cases h), ⟨rfl, hh0⟩, fun fs hl => c3.trans (X0.ireturnOut hexec hret rfl (Or.inr (Or.inr (Or.inl rfl))) (hb hbytes d8) hl)⟩
end CodL
/-- the String at a is Latin-1 over a new byte[] (the heap's one new cell): the low bytes of the len chars of A from o on; every cell but a is kept -/
def Got (a : Addr) (D : Cell) (fV fC : Field) (A : Cell) (o len : Nat) (r : Option Value) (s u : State) : Prop := r = none ∧ ∃ D' V : Cell, Blank "java/lang/String" a D' u ∧ Same D D' [fV.slot, fC.slot] ∧ D'.slots[fV.slot]? = some (.ref s.heap.size) ∧ D'.slots[fC.slot]? = some (.int 0) ∧ Arr .byte s.heap.size V u ∧ V.vm = .none ∧ u.vm.findClass "[B" = some V.cls ∧ V.slots.size = len ∧ (∀ j, j < len → V.slots[j]? = some (.int (lo8 (cv A (o + j))))) ∧ (∀ (y : Addr) (c : Cell), y ≠ a → s.heap[y]? = some c → u.heap[y]? = some c) ∧ u.heap.size = s.heap.size + 1
theorem Got.mv {a : Addr} {D A : Cell} {fV fC : Field} {o len : Nat} : ∀ r (U U' V V' : State), U'.heap = U.heap → V.vm.Alike V'.vm → V'.heap = V.heap → Got a D fV fC A o len r U V → Got a D fV fC A o len r U' V' :=
  fun r U U' V V' h1 hal h2 ⟨e0, D', X, a1, a2, a3, a4, a5, a6, a7, a8, a9, a10, a11⟩ => ⟨e0, D', X, a1.mv hal h2, a2, by rw [h1]; exact a3, a4, by rw [h1]; exact a5.mv hal h2, a6, by rw [hal.findClass]; exact a7, a8, a9, by rw [h1, h2]; exact a10, by rw [h1, h2]; exact a11⟩
namespace New4
def yN : MethodName := ⟨"java/lang/String", "<init>", "([CIILjava/lang/Void;)V"⟩
abbrev yB : ByteArray := jdk_42_method_149_code
theorem d0 : decode yB 0 = .ok (.aload_n 0, 1) := by decide +kernel
theorem d1 : decode yB 1 = .ok (.invokespecial 1, 3) := by decide +kernel
theorem d4 : decode yB 4 = .ok (.iload_n 3, 1) := by decide +kernel
theorem d5 : decode yB 5 = .ok (.ifCond (.ne) 22, 3) := by decide +kernel
theorem d27 : decode yB 27 = .ok (.getstatic 38, 3) := by decide +kernel
theorem d30 : decode yB 30 = .ok (.ifCond (.eq) 28, 3) := by decide +kernel
theorem d33 : decode yB 33 = .ok (.aload_n 1, 1) := by decide +kernel
theorem d34 : decode yB 34 = .ok (.iload_n 2, 1) := by decide +kernel
theorem d35 : decode yB 35 = .ok (.iload_n 3, 1) := by decide +kernel
theorem d36 : decode yB 36 = .ok (.invokestatic 177, 3) := by decide +kernel
theorem d39 : decode yB 39 = .ok (.astore 5, 2) := by decide +kernel
theorem d41 : decode yB 41 = .ok (.aload_n 0, 1) := by decide +kernel
theorem d42 : decode yB 42 = .ok (.aload 5, 2) := by decide +kernel
theorem d44 : decode yB 44 = .ok (.iload_n 3, 1) := by decide +kernel
theorem d45 : decode yB 45 = .ok (.invokestatic 47, 3) := by decide +kernel
theorem d48 : decode yB 48 = .ok (.putfield 15, 3) := by decide +kernel
theorem d51 : decode yB 51 = .ok (.aload_n 0, 1) := by decide +kernel
theorem d52 : decode yB 52 = .ok (.aload 5, 2) := by decide +kernel
theorem d54 : decode yB 54 = .ok (.putfield 9, 3) := by decide +kernel
theorem d57 : decode yB 57 = .ok (.return_, 1) := by decide +kernel
def site : List Cond := [.fieldLink "java/lang/String" 38 "java/lang/String" "COMPACT_STRINGS" "Z", Cmp3.tab, CodL.tab, .laysFinal "java/lang/String" "java/lang/String" "value" "[B", .fieldLink "java/lang/String" 9 "java/lang/String" "value" "[B", .laysFinal "java/lang/String" "java/lang/String" "coder" "B", .fieldLink "java/lang/String" 15 "java/lang/String" "coder" "B"] ++ objW "java/lang/String" 1 ++ staticW "java/lang/String" 177 Cmp3.yN ++ staticW "java/lang/String" 47 CodL.yN
def tab : Cond := tabOf yN yB 6 none site
def P (a : Addr) (D : Cell) (fV fC : Field) (b : Addr) (A : Cell) (z : Int32) (o len : Nat) (args : Array Value) (s : State) : Prop := args = #[.ref a, .ref b, .int (Int32.ofNat o), .int (Int32.ofNat len), .null] ∧ Blank "java/lang/String" a D s ∧ Found "java/lang/String" "value" "[B" fV s ∧ Found "java/lang/String" "coder" "B" fC s ∧ Ch b A s ∧ StaticIs s "java/lang/String" "COMPACT_STRINGS" "Z" (.int z) ∧ ¬ z = 0 ∧ 0 < len ∧ o + len ≤ A.slots.size ∧ len ≤ 536870912 ∧ ∀ i, i < len → ¬ 255 < cv A (o + i)
def E (a : Addr) (D : Cell) (fV fC : Field) (A : Cell) (o len : Nat) (r : Option Value) (s u : State) : Prop := Got a D fV fC A o len r s u
/-- len > 0, no char of the range above 255: a Latin-1 String of their low bytes -/
theorem law (l : Launch) (a : Addr) (D : Cell) (fV fC : Field) (b : Addr) (A : Cell) (z : Int32) (o len : Nat) : Law l yN 5 4 2 35 yB 6 none site (P a D fV fC b A z o len) (E a D fV fC A o len) [⟨a, fC.slot⟩, ⟨a, fV.slot⟩] 1 len := by
  refine Law.of_walk (plainFor_of_name (by decide +kernel)) (by decide +kernel) (by decide +kernel) (by decide) (fun _ _ h => by rw [h.1]; rfl) (fun _ U U' hal hh h => ⟨h.1, h.2.1.mv hal hh, h.2.2.1.al hal, h.2.2.2.1.al hal, h.2.2.2.2.1.mv hal hh, h.2.2.2.2.2.1.there hal hh, h.2.2.2.2.2.2⟩) (fun r U U' V V' h1 hal h2 h => Got.mv r U U' V V' h1 hal h2 h) ?_
  intro p e s m args below meth c s₁ X0 hexec hbytes hml hret hlk hnm hown hh0 W hP
  obtain ⟨rfl, hB, f1, f2, hA, s1, hz, l0, l1, l2, hp⟩ := hP
  have a31 := hA.1.2.2.2
  have c1 : Steps p.tables e below (s₁.setTop (entryFrame m #[.ref a, .ref b, .int (Int32.ofNat o), .int (Int32.ofNat len), .null] 6)) (s₁.setTop (mkF m 0 #[.val (.ref a), .val (.ref b), .val (.int (Int32.ofNat o)), .val (.int (Int32.ofNat len)), .val .null, .unset] [])) := entry rfl
  have c2 : Steps p.tables e below (s₁.setTop (entryFrame m #[.ref a, .ref b, .int (Int32.ofNat o), .int (Int32.ofNat len), .null] 6)) (s₁.setTop (mkF m 1 #[.val (.ref a), .val (.ref b), .val (.int (Int32.ofNat o)), .val (.int (Int32.ofNat len)), .val .null, .unset] [.ref a])) := c1.trans (by
    refine XS.aloadN X0.here hexec rfl (hb hbytes d0) rfl rfl ?_
    exact Steps.refl _)
  obtain ⟨T3, X3, q3, st3⟩ := X0.oinit hexec hown (wks W (objW "java/lang/String" 1)) (g := (mkF m 1 #[.val (.ref a), .val (.ref b), .val (.int (Int32.ofNat o)), .val (.int (Int32.ofNat len)), .val .null, .unset] [.ref a])) rfl (by rw [hml]; rfl) (rest := []) rfl (hb hbytes d1) (W := 0) (by show 2 * 0 + 0 ≤ _; decide) (Nat.le_of_ble_eq_true rfl) (Nat.le_of_ble_eq_true rfl)
  have hh3 := q3.trans hh0
  have c4 : Steps p.tables e below (s₁.setTop (entryFrame m #[.ref a, .ref b, .int (Int32.ofNat o), .int (Int32.ofNat len), .null] 6)) (T3.setTop (mkF m 27 #[.val (.ref a), .val (.ref b), .val (.int (Int32.ofNat o)), .val (.int (Int32.ofNat len)), .val .null, .unset] [])) := (c2.trans (st3 _ (Steps.refl _))).trans (by
    refine XS.iloadN X3.here hexec rfl (hb hbytes d4) rfl ?_
    refine XS.ifYes X3.here hexec rfl (pc0 := 5) rfl (hb hbytes d5) rfl (i0_ne_t (nz32 (by omega) l0)) (by decide) rfl ?_
    exact Steps.refl _)
  obtain ⟨T5, X5, q5, st5⟩ := X3.sget hexec hown (wk W (.fieldLink "java/lang/String" 38 "java/lang/String" "COMPACT_STRINGS" "Z")) s1 (fun _ _ h => by rw [hh3]; exact h) (g := (mkF m 27 #[.val (.ref a), .val (.ref b), .val (.int (Int32.ofNat o)), .val (.int (Int32.ofNat len)), .val .null, .unset] [])) rfl (hb hbytes d27)
  have hh5 := q5.trans hh3
  have c6 : Steps p.tables e below (s₁.setTop (entryFrame m #[.ref a, .ref b, .int (Int32.ofNat o), .int (Int32.ofNat len), .null] 6)) (T5.setTop (mkF m 30 #[.val (.ref a), .val (.ref b), .val (.int (Int32.ofNat o)), .val (.int (Int32.ofNat len)), .val .null, .unset] [.int z])) := c4.trans (st5 _ (Steps.refl _))
  have c7 : Steps p.tables e below (s₁.setTop (entryFrame m #[.ref a, .ref b, .int (Int32.ofNat o), .int (Int32.ofNat len), .null] 6)) (T5.setTop (mkF m 36 #[.val (.ref a), .val (.ref b), .val (.int (Int32.ofNat o)), .val (.int (Int32.ofNat len)), .val .null, .unset] [.int (Int32.ofNat len), .int (Int32.ofNat o), .ref b])) := c6.trans (by
    refine XS.ifNo X5.here hexec rfl (hb hbytes d30) rfl (i0_eq_f hz) ?_
    refine XS.aloadN X5.here hexec rfl (hb hbytes d33) rfl rfl ?_
    refine XS.iloadN X5.here hexec rfl (hb hbytes d34) rfl ?_
    refine XS.iloadN X5.here hexec rfl (hb hbytes d35) rfl ?_
    exact Steps.refl _)
  obtain ⟨v8, T8, X8, E8, g8⟩ := X5.callS hexec (Cmp3.law l b A o len) hown (wks W (staticW "java/lang/String" 177 Cmp3.yN)) (wk W Cmp3.tab) (W := 0) (Nat.le_of_ble_eq_true rfl) (Nat.le_of_ble_eq_true rfl) (Nat.le_refl _) (by show 0 + len ≤ len; omega) (g := (mkF m 36 #[.val (.ref a), .val (.ref b), .val (.int (Int32.ofNat o)), .val (.int (Int32.ofNat len)), .val .null, .unset] [.int (Int32.ofNat len), .int (Int32.ofNat o), .ref b])) rfl (by rw [hml]; rfl) c7 (argsL := [.ref b, .int (Int32.ofNat o), .int (Int32.ofNat len)]) (rest := []) rfl rfl (by show 2 * 0 + 0 ≤ _; decide) (hb hbytes d36) (⟨rfl, hA.mv X5.warmed.alike hh5, l1, l2, hp⟩)
  obtain ⟨e8, z8⟩ := E8
  obtain ⟨rfl, N, n1, n2, n3, n4, n5, n6⟩ := NewArr.mv _ T5 s _ _ hh5.symm (Vm.Alike.refl _) rfl e8
  rw [hh5] at z8
  have hB1 := hB.keep X8.warmed.alike (n6 _ _ hB.1)
  have hne : s.heap.size ≠ a := (Nat.ne_of_lt (Array.getElem?_eq_some_iff.mp hB.1).1).symm
  have c9 : Steps p.tables e below (s₁.setTop (entryFrame m #[.ref a, .ref b, .int (Int32.ofNat o), .int (Int32.ofNat len), .null] 6)) (T8.setTop (mkF m 39 #[.val (.ref a), .val (.ref b), .val (.int (Int32.ofNat o)), .val (.int (Int32.ofNat len)), .val .null, .unset] [.ref s.heap.size])) := g8
  have c10 : Steps p.tables e below (s₁.setTop (entryFrame m #[.ref a, .ref b, .int (Int32.ofNat o), .int (Int32.ofNat len), .null] 6)) (T8.setTop (mkF m 45 #[.val (.ref a), .val (.ref b), .val (.int (Int32.ofNat o)), .val (.int (Int32.ofNat len)), .val .null, .val (.ref s.heap.size)] [.int (Int32.ofNat N.slots.size), .ref s.heap.size, .ref a])) := by
    have hc : Steps p.tables e below (s₁.setTop (entryFrame m #[.ref a, .ref b, .int (Int32.ofNat o), .int (Int32.ofNat len), .null] 6)) (T8.setTop (mkF m 45 #[.val (.ref a), .val (.ref b), .val (.int (Int32.ofNat o)), .val (.int (Int32.ofNat len)), .val .null, .val (.ref s.heap.size)] [.int (Int32.ofNat len), .ref s.heap.size, .ref a])) := c9.trans (by
      refine XS.astore X8.here hexec rfl (hb hbytes d39) rfl rfl rfl ?_
      refine XS.aloadN X8.here hexec rfl (hb hbytes d41) rfl rfl ?_
      refine XS.aload X8.here hexec rfl (hb hbytes d42) rfl rfl ?_
      refine XS.iloadN X8.here hexec rfl (hb hbytes d44) rfl ?_
      exact Steps.refl _)
    rw [n4]; exact hc
  obtain ⟨v11, T11, X11, E11, g11⟩ := X8.callS hexec (CodL.law l s.heap.size N) hown (wks W (staticW "java/lang/String" 47 CodL.yN)) (wk W CodL.tab) (W := 1) (Nat.le_of_ble_eq_true rfl) (Nat.le_of_ble_eq_true rfl) (Nat.le_refl _) (by show 0 + len + 0 ≤ len; omega) (g := (mkF m 45 #[.val (.ref a), .val (.ref b), .val (.int (Int32.ofNat o)), .val (.int (Int32.ofNat len)), .val .null, .val (.ref s.heap.size)] [.int (Int32.ofNat N.slots.size), .ref s.heap.size, .ref a])) rfl (by rw [hml]; rfl) c10 (argsL := [.ref s.heap.size, .int (Int32.ofNat N.slots.size)]) (rest := [.ref a]) rfl rfl (by show 2 * 0 + (1 + 0) ≤ _; decide) (hb hbytes d45) (⟨rfl, n1⟩)
  obtain ⟨rfl, q11⟩ := E11
  have hB11 := hB1.mv (X8.warmed.alike.symm.trans X11.warmed.alike) q11
  have c12 : Steps p.tables e below (s₁.setTop (entryFrame m #[.ref a, .ref b, .int (Int32.ofNat o), .int (Int32.ofNat len), .null] 6)) (T11.setTop (mkF m 48 #[.val (.ref a), .val (.ref b), .val (.int (Int32.ofNat o)), .val (.int (Int32.ofNat len)), .val .null, .val (.ref s.heap.size)] [.int 0, .ref a])) := g11
  obtain ⟨T13, X13, p13, bl13, sl13, st13⟩ := X11.finit hexec hown (wk W (.fieldLink "java/lang/String" 15 "java/lang/String" "coder" "B")) (Or.inr ⟨_, (wk W (.laysFinal "java/lang/String" "java/lang/String" "coder" "B"))⟩) (Or.inl ⟨rfl, hnm⟩) f2 (Or.inl rfl) hB11 (t := .byte) (by decide +kernel) rfl (g := (mkF m 48 #[.val (.ref a), .val (.ref b), .val (.int (Int32.ofNat o)), .val (.int (Int32.ofNat len)), .val .null, .val (.ref s.heap.size)] [.int 0, .ref a])) rfl (rest := []) rfl (hb hbytes d48)
  have c14 : Steps p.tables e below (s₁.setTop (entryFrame m #[.ref a, .ref b, .int (Int32.ofNat o), .int (Int32.ofNat len), .null] 6)) (T13.setTop (mkF m 54 #[.val (.ref a), .val (.ref b), .val (.int (Int32.ofNat o)), .val (.int (Int32.ofNat len)), .val .null, .val (.ref s.heap.size)] [.ref s.heap.size, .ref a])) := (c12.trans (st13 _ (Steps.refl _))).trans (by
    refine XS.aloadN X13.here hexec rfl (hb hbytes d51) rfl rfl ?_
    refine XS.aload X13.here hexec rfl (hb hbytes d52) rfl rfl ?_
    exact Steps.refl _)
  obtain ⟨T15, X15, p15, bl15, sl15, st15⟩ := X13.finit hexec hown (wk W (.fieldLink "java/lang/String" 9 "java/lang/String" "value" "[B")) (Or.inr ⟨_, (wk W (.laysFinal "java/lang/String" "java/lang/String" "value" "[B"))⟩) (Or.inl ⟨rfl, hnm⟩) f1 (Or.inl rfl) bl13 (t := (.array .byte)) (by decide +kernel) rfl (g := (mkF m 54 #[.val (.ref a), .val (.ref b), .val (.int (Int32.ofNat o)), .val (.int (Int32.ofNat len)), .val .null, .val (.ref s.heap.size)] [.ref s.heap.size, .ref a])) rfl (rest := []) rfl (hb hbytes d54)
  have c16 : Steps p.tables e below (s₁.setTop (entryFrame m #[.ref a, .ref b, .int (Int32.ofNat o), .int (Int32.ofNat len), .null] 6)) (T15.setTop (mkF m 57 #[.val (.ref a), .val (.ref b), .val (.int (Int32.ofNat o)), .val (.int (Int32.ofNat len)), .val .null, .val (.ref s.heap.size)] [])) := c14.trans (st15 _ (Steps.refl _))
  have ap := apart (Or.inr ⟨_, (wk W (.laysFinal "java/lang/String" "java/lang/String" "value" "[B"))⟩) (Or.inr ⟨_, (wk W (.laysFinal "java/lang/String" "java/lang/String" "coder" "B"))⟩) f1 f2 (t₁ := .array .byte) (t₂ := .byte) (by decide +kernel) (by decide +kernel) (by decide)
  have al := X8.warmed.alike.symm.trans X15.warmed.alike
  have n7 : T11.heap[s.heap.size]? = some N := by rw [q11]; exact n1.1
  exact ⟨T15, none, _, _, _, X15, by simp, rfl, by omega, (fun _ => rfl), ⟨rfl, _, N, bl15, ((Same.refl D _).set _ (by simp)).set _ (by simp), sl15, (Cell.slots_setSlot_ne _ ap).trans sl13, n1.keep al (p15.other hne (p13.other hne n7)), n2, by rw [al.findClass]; exact n3, n4, n5, fun y c h1 h2 => p15.other h1 (p13.other h1 (by rw [q11]; exact n6 y c h2)), by rw [p15.2.2, p13.2.2, q11]; exact z8⟩, fun fs hl => c16.trans (X15.returnOut hexec hret (hb hbytes d57) hl)⟩
end New4
namespace New1
def yN : MethodName := ⟨"java/lang/String", "<init>", "([C)V"⟩
abbrev yB : ByteArray := jdk_42_method_3_code
theorem d0 : decode yB 0 = .ok (.aload_n 0, 1) := by decide +kernel
theorem d1 : decode yB 1 = .ok (.aload_n 1, 1) := by decide +kernel
theorem d2 : decode yB 2 = .ok (.iconst 0, 1) := by decide +kernel
theorem d3 : decode yB 3 = .ok (.aload_n 1, 1) := by decide +kernel
theorem d4 : decode yB 4 = .ok (.arraylength, 1) := by decide +kernel
theorem d5 : decode yB 5 = .ok (.aconst_null, 1) := by decide +kernel
theorem d6 : decode yB 6 = .ok (.invokespecial 27, 3) := by decide +kernel
theorem d9 : decode yB 9 = .ok (.return_, 1) := by decide +kernel
def site : List Cond := [New4.tab] ++ initW "java/lang/String" 27 New4.yN
def tab : Cond := tabOf yN yB 2 none site
def P (a : Addr) (D : Cell) (fV fC : Field) (b : Addr) (A : Cell) (z : Int32) (args : Array Value) (s : State) : Prop := args = #[.ref a, .ref b] ∧ Blank "java/lang/String" a D s ∧ Found "java/lang/String" "value" "[B" fV s ∧ Found "java/lang/String" "coder" "B" fC s ∧ Ch b A s ∧ StaticIs s "java/lang/String" "COMPACT_STRINGS" "Z" (.int z) ∧ ¬ z = 0 ∧ 0 < A.slots.size ∧ A.slots.size ≤ 536870912 ∧ ∀ i, i < A.slots.size → ¬ 255 < cv A i
def E (a : Addr) (D : Cell) (fV fC : Field) (A : Cell) (r : Option Value) (s u : State) : Prop := Got a D fV fC A 0 A.slots.size r s u
/-- new String(chars), not empty, no char above 255: a Latin-1 String of their low bytes -/
theorem law (l : Launch) (a : Addr) (D : Cell) (fV fC : Field) (b : Addr) (A : Cell) (z : Int32) : Law l yN 2 1 3 52 yB 2 none site (P a D fV fC b A z) (E a D fV fC A) [⟨a, fC.slot⟩, ⟨a, fV.slot⟩] 1 A.slots.size := by
  refine Law.of_walk (plainFor_of_name (by decide +kernel)) (by decide +kernel) (by decide +kernel) (by decide) (fun _ _ h => by rw [h.1]; rfl) (fun _ U U' hal hh h => ⟨h.1, h.2.1.mv hal hh, h.2.2.1.al hal, h.2.2.2.1.al hal, h.2.2.2.2.1.mv hal hh, h.2.2.2.2.2.1.there hal hh, h.2.2.2.2.2.2⟩) (fun r U U' V V' h1 hal h2 h => Got.mv r U U' V V' h1 hal h2 h) ?_
  intro p e s m args below meth c s₁ X0 hexec hbytes hml hret hlk hnm hown hh0 W hP
  obtain ⟨rfl, hB, f1, f2, hA, s1, hz, l0, l2, hp⟩ := hP
  have c1 : Steps p.tables e below (s₁.setTop (entryFrame m #[.ref a, .ref b] 2)) (s₁.setTop (mkF m 0 #[.val (.ref a), .val (.ref b)] [])) := entry rfl
  have c2 : Steps p.tables e below (s₁.setTop (entryFrame m #[.ref a, .ref b] 2)) (s₁.setTop (mkF m 6 #[.val (.ref a), .val (.ref b)] [.null, .int (Int32.ofNat A.slots.size), .int 0, .ref b, .ref a])) := c1.trans (by
    refine XS.aloadN X0.here hexec rfl (hb hbytes d0) rfl rfl ?_
    refine XS.aloadN X0.here hexec rfl (hb hbytes d1) rfl rfl ?_
    refine iconstV X0.here hexec rfl 0 (hb hbytes d2) (by decide) ?_
    refine XS.aloadN X0.here hexec rfl (hb hbytes d3) rfl rfl ?_
    refine X0.alen hexec (hA.1.mv X0.warmed.alike hh0) rfl rfl (hb hbytes d4) ?_
    refine XS.aconstNull X0.here hexec rfl (hb hbytes d5) ?_
    exact Steps.refl _)
  obtain ⟨v3, T3, X3, E3, g3⟩ := X0.callN hexec (New4.law l a D fV fC b A z 0 A.slots.size) rfl hown (wks W (initW "java/lang/String" 27 New4.yN)) (W New4.tab (by simp only [site, List.mem_cons, List.mem_append, true_or, or_true])) (W := 0) (Nat.le_of_ble_eq_true rfl) (Nat.le_of_ble_eq_true rfl) (Nat.le_refl _) (by show 0 + A.slots.size ≤ A.slots.size; omega) (g := (mkF m 6 #[.val (.ref a), .val (.ref b)] [.null, .int (Int32.ofNat A.slots.size), .int (Int32.ofNat 0), .ref b, .ref a])) rfl (by rw [hml]; rfl) c2 (argsL := [.ref b, .int (Int32.ofNat 0), .int (Int32.ofNat A.slots.size), .null]) (rest := []) rfl rfl (by show 2 * 0 + 0 ≤ _; decide) (hb hbytes d6) (⟨rfl, hB.mv X0.warmed.alike hh0, f1.al X0.warmed.alike, f2.al X0.warmed.alike, hA.mv X0.warmed.alike hh0, s1.there X0.warmed.alike hh0, hz, l0, by omega, l2, fun i hi => by rw [Nat.zero_add]; exact hp i hi⟩)
  have e0 := Got.mv _ s₁ s _ _ hh0.symm (Vm.Alike.refl _) rfl E3
  obtain rfl := e0.1
  have c4 : Steps p.tables e below (s₁.setTop (entryFrame m #[.ref a, .ref b] 2)) (T3.setTop (mkF m 9 #[.val (.ref a), .val (.ref b)] [])) := g3
  exact ⟨T3, none, _, _, _, X3, by simp, rfl, by omega, (fun _ => rfl), e0, fun fs hl => c4.trans (X3.returnOut hexec hret (hb hbytes d9) hl)⟩
theorem pays {l : Launch} {R : Room} {p : Program} {e : Env} {below : List Frame} {s : State} {sargs : Array Value} {len W : Nat} (a : Addr) (D : Cell) (fV fC : Field) (b : Addr) (A : Cell) (z : Int32) (htab : tab.before sargs s = true) (hfr : 4 ≤ R.frames) (hlo : W + 65 ≤ R.locals) :
    Back l R p e below s sargs yN len W (fun A₁ a₁ => A₁.cells + 1 ≤ R.cells ∧ A₁.slots + A.slots.size ≤ R.slots ∧ P a D fV fC b A z a₁ A₁.U) (fun A₁ _ v₁ B₁ => E a D fV fC A v₁ A₁.U B₁.U ∧ B₁.locs = A₁.locs ++ [⟨a, fC.slot⟩, ⟨a, fV.slot⟩] ∧ B₁.cells = A₁.cells + 1 ∧ B₁.slots = A₁.slots + A.slots.size) :=
  (law l a D fV fC b A z).pays htab hfr (by omega)
end New1
/-- the byte, read back as charAt reads it, is the char -/
theorem lo8_mask {x : Int32} (h0 : ¬ x < 0) (h1 : ¬ 255 < x) : lo8 x &&& 255 = x := by
  have t : ∀ k : Fin 256, lo8 (Int32.ofNat k.val) &&& 255 = Int32.ofNat k.val := by decide +kernel
  rw [Int32.lt_iff_toInt_lt] at h0 h1
  have e0 : (0 : Int32).toInt = 0 := rfl
  have e1 : (255 : Int32).toInt = 255 := rfl
  obtain ⟨k, hk⟩ : ∃ k : Nat, x.toInt = k := ⟨x.toInt.toNat, by omega⟩
  have hx : x = Int32.ofNat k := Int32.toInt_inj.mp (by rw [hk, Int32.toInt_ofNat_small (by omega)])
  rw [hx]
  exact t ⟨k, by omega⟩
end StrChars
namespace StrChars.Road
open Jvm Sem ClassFile Op Lib Jvm.Stand Jvm.Free Jvm.Free.XT
open Jvm.Lib.Cold (StaticIs)
abbrev ST : String := "java/lang/String"
/-- every table word that New1's law asks, flat -/
abbrev words : List Jvm.Cond := [.code New1.yN New1.yB 2 none, .initialized ST, .methodLink ST 27 New4.yN, .instanceMethod New4.yN,
  .code New4.yN New4.yB 6 none, .fieldLink ST 38 ST "COMPACT_STRINGS" "Z", .laysFinal ST ST "value" "[B", .fieldLink ST 9 ST "value" "[B", .laysFinal ST ST "coder" "B", .fieldLink ST 15 ST "coder" "B",
  .methodLink ST 1 Lib.objectInit, .instanceMethod Lib.objectInit, .code Lib.objectInit ⟨#[0xb1]⟩ 1 none, .methodLink ST 177 Cmp3.yN, .static Cmp3.yN, .methodLink ST 47 CodL.yN, .static CodL.yN,
  .code Cmp3.yN Cmp3.yB 6 (some (.array .byte)), .initialized U16, .arrayClass .byte, .methodLink U16 115 Cmp5.yN, .static Cmp5.yN, .code Cmp5.yN Cmp5.yB 7 (some .int), .code CodL.yN CodL.yB 2 (some .byte)]
theorem tab_of {a : Array Value} {s : State} (h : ∀ w ∈ words, w.before a s = true) : New1.tab.before a s = true := by
  have h5 : Cmp5.tab.before a s = true := unparts (wk h (.code Cmp5.yN Cmp5.yB 7 (some .int))) (wks h (.initialized Cmp5.yN.cls :: Cmp5.site))
  have hc : CodL.tab.before a s = true := unparts (wk h (.code CodL.yN CodL.yB 2 (some .byte))) (wks h (.initialized CodL.yN.cls :: CodL.site))
  have q5 : ∀ w ∈ Cmp5.tab :: words, w.before a s = true := fun w hw => (List.mem_cons.mp hw).elim (fun e => e ▸ h5) (h w)
  have h3 : Cmp3.tab.before a s = true := unparts (wk q5 (.code Cmp3.yN Cmp3.yB 6 (some (.array .byte)))) (wks q5 (.initialized Cmp3.yN.cls :: Cmp3.site))
  have q3 : ∀ w ∈ Cmp3.tab :: CodL.tab :: words, w.before a s = true := fun w hw => (List.mem_cons.mp hw).elim (fun e => e ▸ h3) fun hw => (List.mem_cons.mp hw).elim (fun e => e ▸ hc) (h w)
  have h4 : New4.tab.before a s = true := unparts (wk q3 (.code New4.yN New4.yB 6 none)) (wks q3 (.initialized New4.yN.cls :: New4.site))
  have q4 : ∀ w ∈ New4.tab :: words, w.before a s = true := fun w hw => (List.mem_cons.mp hw).elim (fun e => e ▸ h4) (h w)
  exact unparts (wk q4 (.code New1.yN New1.yB 2 none)) (wks q4 (.initialized New1.yN.cls :: New1.site))
/-- the words ride from the start Z to the walk's own state -/
theorem moved {Z s : State} {a0 args : Array Value} (hZ : Z.Warmed39 s.vm) (hw : ∀ d ∈ words, d.before a0 Z = true) : ∀ d ∈ words, d.before args s = true := fun d hd => by
  have q := hw d hd
  have t : ∀ d ∈ words, d = .arrayClass .byte ∨ (d.onTables && d.keepsFace) = true := by decide +kernel
  rcases t d hd with rfl | t
  · exact RoadKit.mvA hZ q
  · exact RoadKit.mv hZ q t
/-- WHAT COMES BACK, over the tables of the start Z: h the heap at the call, h' behind it -/
def Q (Z : State) (x : Addr) (A : Cell) (h : Heap) (v : Option Value) (h' : Heap) (L : List Loc) : Prop := v = none ∧ (∀ y ∈ L, y.base = x) ∧ RoadKit.Keep h h' [x] ∧ h'.size = h.size + 1 ∧ RoadKit.Exa Z h' x ST ∧ RoadKit.Fld Z h' x ST "value" "[B" (.ref h.size) ∧ RoadKit.Fld Z h' x ST "coder" "B" (.int 0) ∧
  (∃ V : Cell, RoadKit.Arr Z h' h.size V .byte ∧ V.vm = .none ∧ Z.vm.findClass "[B" = some V.cls ∧ V.slots.size = A.slots.size ∧ ∀ j, j < A.slots.size → V.slots[j]? = some (.int (lo8 (cv A j)))) ∧
  ∀ (O n d : String) (w : Value), RoadKit.Fld Z h x O n d w → RoadKit.slotOf Z O n d ≠ RoadKit.slotOf Z ST "value" "[B" → RoadKit.slotOf Z O n d ≠ RoadKit.slotOf Z ST "coder" "B" → RoadKit.Fld Z h' x O n d w
/-- **new String(chars) AT A CALL, IN THE ROAD'S FORM**: for specialBack behind newO: x the fresh String, b the char[] with the cell A -/
theorem back {p : Program} {l : Launch} {e : Env} {R : Room} {s : State} {args : Array Value} {below : List Frame} {len W : Nat} {Z : State} {a0 : Array Value} {h : Heap} (hZ : Z.Warmed39 s.vm) (hw : ∀ d ∈ words, d.before a0 Z = true) {kI : Nat} (wi : (Jvm.Cond.instantiable ST kI).before a0 Z = true)
    {x b : Addr} {A : Cell} {z : Int32} {v0 c0 : Value} (E : RoadKit.Exa Z h x ST) (V : RoadKit.Fld Z h x ST "value" "[B" v0) (C : RoadKit.Fld Z h x ST "coder" "B" c0) (K : RoadKit.Arr Z h b A .char) (hty : Typed .char A) (S : RoadKit.Sta Z h ST "COMPACT_STRINGS" "Z" (.int z)) (hz : ¬ z = 0)
    (l0 : 0 < A.slots.size) (l2 : A.slots.size ≤ 536870912) (hp : ∀ i, i < A.slots.size → ¬ 255 < cv A i) (hfr : 4 ≤ R.frames) (hlo : W + 65 ≤ R.locals) :
    Back l R p e below s args New1.yN len W (fun P a => a = #[.ref x, .ref b] ∧ P.U.heap = h ∧ P.cells + 1 ≤ R.cells ∧ P.slots + A.slots.size ≤ R.slots)
      (fun P _ v B => ∃ L, Q Z x A h v B.U.heap L ∧ B.locs = P.locs ++ L ∧ B.cells = P.cells + 1 ∧ B.slots = P.slots + A.slots.size) := by
  intro m meth c P g ig mk a X hg hsize hdg hW hn hp'
  obtain ⟨rfl, rfl, r1, r2⟩ := hp'
  have al : Z.vm.Alike P.U.vm := hZ.alike.trans X.warmed.alike
  obtain ⟨D, cfV, kV, iV, fV, hD, gV, stV, knV, obV, asV, slV⟩ := id V
  obtain ⟨D', cfC, kC, iC, fC, hD', gC, stC, -, -, asC, slC⟩ := id C
  cases hD.symm.trans hD'
  obtain ⟨D2, kD, e1, e2, e3, e4, e5⟩ := id E
  cases hD.symm.trans e1
  obtain ⟨c2, k2, i1, i2, i3, -⟩ := Cond.instantiable_spec wi
  cases e2.symm.trans i1
  cases e3.symm.trans i2
  obtain ⟨kU, u1, u2⟩ := al.2.2 _ _ e3
  have hB : Blank ST x D P.U := ⟨hD, ⟨knV, fun q hq => by rw [hq] at obV; cases obV⟩, by rw [al.findClass]; exact e2, kU, u1, by rw [u2]; exact i3, by rw [u2]; exact e5 i3⟩
  have F1 : Found ST "value" "[B" fV P.U := ⟨SBG.found_only al ⟨cfV, kV, iV, gV⟩, stV⟩
  have F2 : Found ST "coder" "B" fC P.U := ⟨SBG.found_only al ⟨cfC, kC, iC, gC⟩, stC⟩
  have hA : Ch b A P.U := ⟨⟨K.1, State.isArrayOf_alike al K.2.1, K.2.2, by omega⟩, hty⟩
  have hS : StaticIs P.U ST "COMPACT_STRINGS" "Z" (.int z) := by
    obtain ⟨cfS, iS, kS, fS, st, cS, t1, t2, t3, t4, t5, t6, t7⟩ := S
    exact StaticIs.there (s := { Z with heap := P.U.heap }) ⟨cfS, iS, kS, fS, st, cS, t1, t2, t3, t4, t5, (fun q => by rw [q] at t6; cases t6), t7⟩ al rfl
  obtain ⟨v, B, X', ⟨⟨hv, E', V', q1, q2, q3, q4, q5, q6, q7, q8, q9, q10, q11⟩, hl, hc, hs⟩, st⟩ := New1.pays x D fV fC b A z (tab_of (moved hZ hw)) hfr hlo m meth c P g ig mk _ X hg hsize hdg hW hn ⟨r1, r2, rfl, hB, F1, F2, hA, hS, hz, l0, l2, hp⟩
  have al' : Z.vm.Alike B.U.vm := hZ.alike.trans X'.warmed.alike
  have hsz : E'.slots.size = D.slots.size := by
    obtain ⟨-, -, -, kB, w1, w2, w3⟩ := q1
    obtain ⟨kB', y1, y2⟩ := al'.2.2 _ _ e3
    rw [q2.2.1] at w1
    cases w1.symm.trans y1
    rw [w3, e5 i3, y2]
  refine ⟨v, B, X', ⟨_, ⟨hv, ?_, ⟨by omega, fun y cy hy hn' => q10 y cy (by simpa using hn') hy, fun y cy hy => ?_⟩, q11, ⟨E', _, q1.1, by rw [q2.2.1]; exact e2, by rw [q2.2.1]; exact e3, by rw [q2.1]; exact obV, fun _ => by rw [hsz]; exact e5 i3⟩,
    ⟨E', cfV, kV, iV, fV, q1.1, gV, stV, by rw [q2.1]; exact knV, by rw [q2.1]; exact obV, by rw [q2.2.1]; exact asV, q3⟩, ⟨E', cfC, kC, iC, fC, q1.1, gC, stC, by rw [q2.1]; exact knV, by rw [q2.1]; exact obV, by rw [q2.2.1]; exact asC, q4⟩,
    ⟨V', ⟨q5.1, State.isArrayOf_alike al'.symm q5.2.1, q5.2.2.1⟩, q6, by rw [← al'.findClass]; exact q7, q8, fun j hj => by have := q9 j hj; rwa [Nat.zero_add] at this⟩, fun O n d w F n1 n2 => ?_⟩, hl, hc, hs⟩, st⟩
  · intro y hy
    simp only [List.mem_cons, List.not_mem_nil, or_false] at hy
    rcases hy with rfl | rfl <;> rfl
  · by_cases q : y = x
    · subst q
      cases hD.symm.trans hy
      exact ⟨E', q1.1, q2.2.1, q2.1, hsz⟩
    · exact ⟨cy, q10 y cy q hy, rfl, rfl, rfl⟩
  · obtain ⟨D3, cf, k, i, f, g1, g2, g3, g4, g5, g6, g7⟩ := F
    cases hD.symm.trans g1
    simp only [RoadKit.slotOf, g2, gV, gC, Option.map_some, Option.getD_some] at n1 n2
    exact ⟨E', cf, k, i, f, q1.1, g2, g3, by rw [q2.1]; exact g4, by rw [q2.1]; exact g5, by rw [q2.2.1]; exact g6, by rw [q2.2.2 f.slot (by simp [n1, n2])]; exact g7⟩
end StrChars.Road
namespace StrChars.Road
open Jvm Sem ClassFile Op Lib Jvm.Stand Jvm.Free Jvm.Free.XT
/-- WHAT COMES BACK, the byte[] as a list of values -/
def QA (Z : State) (x : Addr) (zn : Int32) (cs : List Int32) (h : Heap) (v : Option Value) (h' : Heap) (L : List Loc) : Prop := v = none ∧ (∀ y ∈ L, y.base = x) ∧ RoadKit.Keep h h' [x] ∧ h'.size = h.size + 1 ∧ RoadKit.Exa Z h' x ST ∧ RoadKit.Fld Z h' x ST "value" "[B" (.ref h.size) ∧ RoadKit.Fld Z h' x ST "coder" "B" (.int 0) ∧
  (∃ kb, Z.vm.findClass "[B" = some kb ∧ RoadKit.Arv Z h' h.size kb .byte zn (cs.map fun c => .int (lo8 c)) (.int 0)) ∧
  ∀ (O n d : String) (w : Value), RoadKit.Fld Z h x O n d w → RoadKit.slotOf Z O n d ≠ RoadKit.slotOf Z ST "value" "[B" → RoadKit.slotOf Z O n d ≠ RoadKit.slotOf Z ST "coder" "B" → RoadKit.Fld Z h' x O n d w
/-- **new String(chars) AT A CALL, THE ARRAYS AS LISTS**: the char[] at b holds cs, not empty, no char above 255 -/
theorem backArv {p : Program} {l : Launch} {e : Env} {R : Room} {s : State} {args : Array Value} {below : List Frame} {len W : Nat} {Z : State} {a0 : Array Value} {h : Heap} (hZ : Z.Warmed39 s.vm) (hw : ∀ d ∈ words, d.before a0 Z = true) {kI : Nat} (wi : (Jvm.Cond.instantiable ST kI).before a0 Z = true)
    {x b : Addr} {k : ClassId} {zn z : Int32} {cs : List Int32} {dv v0 c0 : Value} (E : RoadKit.Exa Z h x ST) (V : RoadKit.Fld Z h x ST "value" "[B" v0) (C : RoadKit.Fld Z h x ST "coder" "B" c0) (K : RoadKit.Arv Z h b k .char zn (cs.map Value.int) dv) (S : RoadKit.Sta Z h ST "COMPACT_STRINGS" "Z" (.int z)) (hz : ¬ z = 0)
    (hlen : zn.toNatClampNeg = cs.length) (h0 : 0 < cs.length) (hbig : cs.length ≤ 536870912) (hall : ∀ c ∈ cs, ¬ 255 < c) (hfr : 4 ≤ R.frames) (hlo : W + 65 ≤ R.locals) :
    Back l R p e below s args New1.yN len W (fun P a => a = #[.ref x, .ref b] ∧ P.U.heap = h ∧ P.cells + 1 ≤ R.cells ∧ P.slots + cs.length ≤ R.slots)
      (fun P _ v B => ∃ L, QA Z x zn cs h v B.U.heap L ∧ B.locs = P.locs ++ L ∧ B.cells = P.cells + 1 ∧ B.slots = P.slots + cs.length) := by
  obtain ⟨A, K1, K2, K3, K4, K5, K6⟩ := K
  have e : A.slots.size = cs.length := K3.trans hlen
  have hat : ∀ (i : Nat) (hi : i < cs.length), A.slots[i]? = some (.int cs[i]) := fun i hi => by rw [K5 i (by omega)]; simp [List.getD_eq_getElem?_getD, hi]
  have hcv : ∀ (i : Nat) (hi : i < cs.length), cv A i = cs[i] := fun i hi => by unfold cv; rw [hat i hi]
  have hty : Typed .char A := fun i v hv => by
    have hi : i < A.slots.size := (Array.getElem?_eq_some_iff.mp hv).1
    have q := K5 i hi
    rw [hv] at q
    rw [Option.some.inj q]
    exact K6 i hi
  refine Back.mono (back hZ hw wi E V C K1 hty S hz (by omega) (by omega) (fun i hi => by rw [hcv i (by omega)]; exact hall _ (List.getElem_mem _)) hfr hlo) (fun P a hp => ⟨hp.1, hp.2.1, hp.2.2.1, by rw [e]; exact hp.2.2.2⟩) (fun P a v B hp hq => ?_)
  obtain ⟨L, ⟨q1, q2, q3, q4, q5, q6, q7, ⟨V', v1, v2, v3, v4, v5⟩, q9⟩, hl, hc, hs⟩ := hq
  refine ⟨L, ⟨q1, q2, q3, q4, q5, q6, q7, ⟨V'.cls, v3, V', v1, rfl, by rw [v4, e, hlen], K4, fun i hi => ?_, fun i hi => ?_⟩, q9⟩, hl, hc, by rw [hs, e]⟩
  · have hi' : i < cs.length := by omega
    rw [v5 i (by omega), hcv i hi']; simp [List.getD_eq_getElem?_getD, hi']
  · have hi' : i < cs.length := by omega
    simp only [List.getD_eq_getElem?_getD, List.getElem?_map, List.getElem?_eq_getElem hi', Option.map_some, Option.getD_some]
    exact fits_lo8 _
end StrChars.Road
namespace StrChars.Road
open Jvm Sem ClassFile Op Lib Jvm.Stand Jvm.Free Jvm.Free.XT
/-- WHAT COMES BACK, in the writer's own shape -/
def QV (Z : State) (x : Addr) (N : Int32) (bs : List Int32) (h : Heap) (n0 : Nat) (v : Option Value) (h' : Heap) (L : List Loc) : Prop := v = none ∧ RoadKit.Fr n0 L ∧ RoadKit.Keep h h' [x] ∧ RoadKit.Exa Z h' x ST ∧ RoadKit.Fld Z h' x ST "coder" "B" (.int 0) ∧
  ∃ (t : Addr) (kb : ClassId), n0 ≤ t ∧ h.size ≤ t ∧ ¬ t = x ∧ RoadKit.Fld Z h' x ST "value" "[B" (.ref t) ∧ RoadKit.Arv Z h' t kb .byte N (bs.map Value.int) (.int 0)
/-- **new String(chars) AT A CALL, FOR THE WRITER**: a char[] of n known ints, each 0 to 255 -/
theorem backV {p : Program} {l : Launch} {e : Env} {R : Room} {s : State} {args : Array Value} {below : List Frame} {len W : Nat} {Z : State} {a0 : Array Value} {h : Heap} (hZ : Z.Warmed39 s.vm) (hw : ∀ d ∈ words, d.before a0 Z = true) {kI : Nat} (wi : (Jvm.Cond.instantiable ST kI).before a0 Z = true)
    {x b : Addr} {kC : ClassId} {cs bs : List Int32} {d v0 c0 : Value} {z N : Int32} {n n0 : Nat} (hx0 : n0 ≤ x) (hh0 : n0 ≤ h.size) (E : RoadKit.Exa Z h x ST) (V : RoadKit.Fld Z h x ST "value" "[B" v0) (C : RoadKit.Fld Z h x ST "coder" "B" c0) (K : RoadKit.Arv Z h b kC .char N (cs.map Value.int) d) (S : RoadKit.Sta Z h ST "COMPACT_STRINGS" "Z" (.int z)) (hz : ¬ z = 0)
    (hn : cs.length = n) (hN : N = Int32.ofNat n) (l0 : 0 < n) (l2 : n ≤ 4000) (hp : ∀ c ∈ cs, ¬ c < 0 ∧ ¬ (255 : Int32) < c) (hb : bs = cs.map (fun c => c.toInt8.toInt32)) (hfr : 4 ≤ R.frames) (hlo : W + 65 ≤ R.locals) :
    Back l R p e below s args (⟨"java/lang/String", "<init>", "([C)V"⟩ : MethodName) len W (fun P a => a = #[.ref x, .ref b] ∧ P.U.heap = h ∧ P.cells + 1 ≤ R.cells ∧ P.slots + n ≤ R.slots)
      (fun P _ v B => ∃ L, QV Z x N bs h n0 v B.U.heap L ∧ B.locs = P.locs ++ L ∧ B.cells = P.cells + 1 ∧ B.slots = P.slots + n) := by
  subst hn hN hb
  refine Back.mono (backArv hZ hw wi E V C K S hz (n32 (by omega)) l0 (by omega) (fun c hc => (hp c hc).2) hfr hlo) (fun P a hp => hp) (fun P a v B hp hq => ?_)
  obtain ⟨L, ⟨q1, q2, q3, q4, q5, q6, q7, ⟨kb, v1, v2⟩, q9⟩, hl, hc, hs⟩ := hq
  exact ⟨L, ⟨q1, fun y hy => by rw [q2 y hy]; exact hx0, q3, q5, q7, h.size, kb, hh0, Nat.le_refl _, Nat.ne_of_gt E.lt, q6, by rw [List.map_map]; exact v2⟩, hl, hc, hs⟩
end StrChars.Road
namespace StrChars
open Jvm Sem ClassFile Op Lib Jvm.Stand Jvm.Free.XT Jvm.Free.ALB Jvm.Free.JM Jvm.Free
open Jvm.Lib.Cold (StaticIs)
def hi8 (x : Int32) : Int32 := lo8 (x >>> ((8 : Int32) &&& 31))
theorem shr0 (c : Int32) : c >>> ((0 : Int32) &&& 31) = c := by
  have e : ((0 : Int32) &&& 31) = 0 := by decide
  rw [e]
  apply Int32.toBitVec_inj.mp
  rw [Int32.toBitVec_shiftRight]
  have e1 : ((0 : Int32).toBitVec.smod 32) = 0#32 := by decide
  rw [e1, BitVec.sshiftRight_eq']
  exact BitVec.sshiftRight_zero
end StrChars
namespace StrChars
open Jvm Sem ClassFile Op Lib Jvm.Stand Jvm.Free.XT Jvm.Free.ALB Jvm.Free.JM Jvm.Free
open Jvm.Lib.Cold (StaticIs)
theorem shr1 {n : Nat} (h : 2 * n < 2 ^ 31) : Int32.ofNat (2 * n) >>> ((1 : Int32) &&& 31) = Int32.ofNat n := by
  have e : ((1 : Int32) &&& 31) = 1 := by decide
  rw [e]
  apply Int32.toBitVec_inj.mp
  rw [Int32.toBitVec_shiftRight]
  have e1 : ((1 : Int32).toBitVec.smod 32) = 1#32 := by decide
  have hm : (BitVec.ofNat 32 (2 * n)).toNat = 2 * n := by rw [BitVec.toNat_ofNat, Nat.mod_eq_of_lt (by omega)]
  rw [e1, BitVec.sshiftRight_eq']
  apply BitVec.eq_of_toNat_eq
  show ((BitVec.ofNat 32 (2 * n)).sshiftRight 1).toNat = (BitVec.ofNat 32 n).toNat
  rw [BitVec.toNat_sshiftRight_of_msb_false (by rw [BitVec.msb_eq_false_iff_two_mul_lt, hm]; omega), hm, BitVec.toNat_ofNat, Nat.shiftRight_eq_div_pow]
  omega
/-- the array's cell V codes the n chars f 0 .. f (n - 1) by the coder cd, as the JDK does: coder 1 just where some char is above 255 -/
def Cod (cd : Int32) (n : Nat) (f : Nat → Int32) (V : Cell) : Prop := (cd = 0 ∧ V.slots.size = n ∧ ∀ j, j < n → V.slots[j]? = some (.int (lo8 (f j))) ∧ ¬ 255 < f j) ∨ (cd = 1 ∧ V.slots.size = 2 * n ∧ (∀ j, j < n → V.slots[2 * j]? = some (.int (lo8 (f j))) ∧ V.slots[2 * j + 1]? = some (.int (hi8 (f j)))) ∧ ∃ j, j < n ∧ 255 < f j)
theorem Cod.cd {cd : Int32} {n : Nat} {f : Nat → Int32} {V : Cell} (h : Cod cd n f V) : cd = 0 ∨ cd = 1 := h.imp (fun q => q.1) fun q => q.1
theorem Cod.len {cd : Int32} {n : Nat} {f : Nat → Int32} {V : Cell} (h : Cod cd n f V) (hs : V.slots.size < 2 ^ 31) : Int32.ofNat V.slots.size >>> (cd &&& 31) = Int32.ofNat n := by
  rcases h with ⟨rfl, h, -⟩ | ⟨rfl, h, -⟩
  · rw [shr0, h]
  · rw [h, shr1 (by omega)]
/-- **x is a String of the n chars f 0 .. f (n - 1)**, Latin-1 or UTF-16; its array at t has the cell V -/
def Txt (x t : Addr) (V : Cell) (cd : Int32) (n : Nat) (f : Nat → Int32) (U : State) : Prop := Exact "java/lang/String" x U ∧ Has x "java/lang/String" "value" "[B" (.ref t) U ∧ Has x "java/lang/String" "coder" "B" (.int cd) U ∧ XT.Arr .byte t V U ∧ Cod cd n f V ∧ ∀ j, j < n → ¬ f j < 0 ∧ ¬ 65535 < f j
theorem Txt.mv {x t : Addr} {V : Cell} {cd : Int32} {n : Nat} {f : Nat → Int32} {U U' : State} (h : Txt x t V cd n f U) (hal : U.vm.Alike U'.vm) (hh : U'.heap = U.heap) : Txt x t V cd n f U' := ⟨h.1.mv hal hh, h.2.1.mv hal hh, h.2.2.1.mv hal hh, h.2.2.2.1.mv hal hh, h.2.2.2.2⟩
namespace Cdr
def yN : MethodName := ⟨"java/lang/String", "coder", "()B"⟩
abbrev yB : ByteArray := jdk_42_method_152_code
theorem d0 : decode yB 0 = .ok (.getstatic 38, 3) := by decide +kernel
theorem d3 : decode yB 3 = .ok (.ifCond (.eq) 10, 3) := by decide +kernel
theorem d6 : decode yB 6 = .ok (.aload_n 0, 1) := by decide +kernel
theorem d7 : decode yB 7 = .ok (.getfield 15, 3) := by decide +kernel
theorem d10 : decode yB 10 = .ok (.goto 4, 3) := by decide +kernel
theorem d14 : decode yB 14 = .ok (.ireturn, 1) := by decide +kernel
def site : List Cond := [.fieldLink "java/lang/String" 38 "java/lang/String" "COMPACT_STRINGS" "Z", .fieldLink "java/lang/String" 15 "java/lang/String" "coder" "B"]
def tab : Cond := tabOf yN yB 1 (some .byte) site
def P (x : Addr) (cd z : Int32) (args : Array Value) (s : State) : Prop := args = #[.ref x] ∧ Has x "java/lang/String" "coder" "B" (.int cd) s ∧ (cd = 0 ∨ cd = 1) ∧ StaticIs s "java/lang/String" "COMPACT_STRINGS" "Z" (.int z) ∧ ¬ z = 0
def E (cd : Int32) (r : Option Value) (s u : State) : Prop := XT.PureE (some (.int cd)) r s u
theorem law (l : Launch) (x : Addr) (cd z : Int32) : Law l yN 1 0 0 0 yB 1 (some .byte) site (P x cd z) (E cd) [] 0 0 := by
  refine Law.of_walk (plainFor_of_name (by decide +kernel)) (by decide +kernel) (by decide +kernel) (by decide) (fun _ _ h => by rw [h.1]; rfl) (fun _ U U' hal hh h => ⟨h.1, h.2.1.mv hal hh, h.2.2.1, h.2.2.2.1.there hal hh, h.2.2.2.2⟩) (fun r U U' V V' h1 hal h2 h => XT.PureE.mv r U U' V V' h1 hal h2 h) ?_
  intro p e s m args below meth c s₁ X0 hexec hbytes hml hret hlk hnm hown hh0 W hP
  obtain ⟨rfl, hx, hc, s1, hz⟩ := hP
  have c1 : Steps p.tables e below (s₁.setTop (entryFrame m #[.ref x] 1)) (s₁.setTop (mkF m 0 #[.val (.ref x)] [])) := entry rfl
  obtain ⟨T2, X2, q2, st2⟩ := X0.sget hexec hown (wk W (.fieldLink "java/lang/String" 38 "java/lang/String" "COMPACT_STRINGS" "Z")) s1 (fun _ _ h => by rw [hh0]; exact h) (g := (mkF m 0 #[.val (.ref x)] [])) rfl (hb hbytes d0)
  have hh2 := q2.trans hh0
  have c3 : Steps p.tables e below (s₁.setTop (entryFrame m #[.ref x] 1)) (T2.setTop (mkF m 7 #[.val (.ref x)] [.ref x])) := (c1.trans (st2 _ (Steps.refl _))).trans (by
    refine XS.ifNo X2.here hexec rfl (hb hbytes d3) rfl (i0_eq_f hz) ?_
    refine XS.aloadN X2.here hexec rfl (hb hbytes d6) rfl rfl ?_
    exact Steps.refl _)
  obtain ⟨T4, X4, q4, st4⟩ := X2.hget hexec hown (wk W (.fieldLink "java/lang/String" 15 "java/lang/String" "coder" "B")) (hx.mv X2.warmed.alike hh2) (g := (mkF m 7 #[.val (.ref x)] [.ref x])) rfl (rest := []) rfl (hb hbytes d7)
  have c5 : Steps p.tables e below (s₁.setTop (entryFrame m #[.ref x] 1)) (T4.setTop (mkF m 14 #[.val (.ref x)] [.int cd])) := (c3.trans (st4 _ (Steps.refl _))).trans (by
    refine XS.goto X4.here hexec rfl (pc0 := 10) rfl (hb hbytes d10) (by decide) rfl ?_
    exact Steps.refl _)
  exact ⟨T4, some (.int cd), _, _, _, X4, rfl, rfl, rfl, (fun h => by cases h), ⟨rfl, q4.trans hh2⟩, fun fs hl => c5.trans (X4.ireturnOut hexec hret (by rcases hc with rfl | rfl <;> rfl) (Or.inr (Or.inr (Or.inl rfl))) (hb hbytes d14) hl)⟩
end Cdr
namespace Len
def yN : MethodName := ⟨"java/lang/String", "length", "()I"⟩
abbrev yB : ByteArray := jdk_42_method_54_code
theorem d0 : decode yB 0 = .ok (.aload_n 0, 1) := by decide +kernel
theorem d1 : decode yB 1 = .ok (.getfield 9, 3) := by decide +kernel
theorem d4 : decode yB 4 = .ok (.arraylength, 1) := by decide +kernel
theorem d5 : decode yB 5 = .ok (.aload_n 0, 1) := by decide +kernel
theorem d6 : decode yB 6 = .ok (.invokevirtual 335, 3) := by decide +kernel
theorem d9 : decode yB 9 = .ok (.ishr, 1) := by decide +kernel
theorem d10 : decode yB 10 = .ok (.ireturn, 1) := by decide +kernel
def site : List Cond := [.fieldLink "java/lang/String" 9 "java/lang/String" "value" "[B", Cdr.tab] ++ virtW "java/lang/String" 335 "java/lang/String" Cdr.yN Cdr.yN
def tab : Cond := tabOf yN yB 1 (some .int) site
def P (x t : Addr) (V : Cell) (cd : Int32) (n : Nat) (f : Nat → Int32) (z : Int32) (args : Array Value) (s : State) : Prop := args = #[.ref x] ∧ Txt x t V cd n f s ∧ StaticIs s "java/lang/String" "COMPACT_STRINGS" "Z" (.int z) ∧ ¬ z = 0
def E (n : Nat) (r : Option Value) (s u : State) : Prop := XT.PureE (some (.int (Int32.ofNat n))) r s u
/-- length() of a String of n chars, in either coding -/
theorem law (l : Launch) (x t : Addr) (V : Cell) (cd : Int32) (n : Nat) (f : Nat → Int32) (z : Int32) : Law l yN 1 0 1 13 yB 1 (some .int) site (P x t V cd n f z) (E n) [] 0 0 := by
  refine Law.of_walk (plainFor_of_name (by decide +kernel)) (by decide +kernel) (by decide +kernel) (by decide) (fun _ _ h => by rw [h.1]; rfl) (fun _ U U' hal hh h => ⟨h.1, h.2.1.mv hal hh, h.2.2.1.there hal hh, h.2.2.2⟩) (fun r U U' V V' h1 hal h2 h => XT.PureE.mv r U U' V V' h1 hal h2 h) ?_
  intro p e s m args below meth c s₁ X0 hexec hbytes hml hret hlk hnm hown hh0 W hP
  obtain ⟨rfl, hx, s1, hz⟩ := hP
  have v31 := hx.2.2.2.1.2.2.2
  have c1 : Steps p.tables e below (s₁.setTop (entryFrame m #[.ref x] 1)) (s₁.setTop (mkF m 1 #[.val (.ref x)] [.ref x])) := Steps.trans (entry rfl) (by
    show Steps p.tables e below (s₁.setTop (mkF m 0 #[.val (.ref x)] [])) _
    refine XS.aloadN X0.here hexec rfl (hb hbytes d0) rfl rfl ?_
    exact Steps.refl _)
  obtain ⟨T2, X2, q2, st2⟩ := X0.hget hexec hown (wk W (.fieldLink "java/lang/String" 9 "java/lang/String" "value" "[B")) (hx.mv X0.warmed.alike hh0).2.1 (g := (mkF m 1 #[.val (.ref x)] [.ref x])) rfl (rest := []) rfl (hb hbytes d1)
  have hh2 := q2.trans hh0
  have hx2 := hx.mv X2.warmed.alike hh2
  have c3 : Steps p.tables e below (s₁.setTop (entryFrame m #[.ref x] 1)) (T2.setTop (mkF m 6 #[.val (.ref x)] [.ref x, .int (Int32.ofNat V.slots.size)])) := (c1.trans (st2 _ (Steps.refl _))).trans (by
    refine X2.alen hexec hx2.2.2.2.1 rfl rfl (hb hbytes d4) ?_
    refine XS.aloadN X2.here hexec rfl (hb hbytes d5) rfl rfl ?_
    exact Steps.refl _)
  obtain ⟨v4, T4, X4, E4, g4⟩ := X2.callV hexec (Cdr.law l x cd z) hown (wks W (virtW "java/lang/String" 335 "java/lang/String" Cdr.yN Cdr.yN)) rfl (by decide) (wk W Cdr.tab) (W := 1) (Nat.le_of_ble_eq_true rfl) (Nat.le_of_ble_eq_true rfl) (Nat.le_refl _) (Nat.le_refl _) (hx2.1.fc X2.warmed.alike) hx2.1.is (g := (mkF m 6 #[.val (.ref x)] [.ref x, .int (Int32.ofNat V.slots.size)])) rfl (by rw [hml]; rfl) c3 (argsL := []) (rest := [.int (Int32.ofNat V.slots.size)]) rfl rfl (by show 2 * 0 + (1 + 0) ≤ _; decide) (hb hbytes d6) (⟨rfl, hx2.2.2.1, hx.2.2.2.2.1.cd, s1.there X2.warmed.alike hh2, hz⟩)
  obtain ⟨rfl, q4⟩ := E4
  have c5 : Steps p.tables e below (s₁.setTop (entryFrame m #[.ref x] 1)) (T4.setTop (mkF m 10 #[.val (.ref x)] [.int (Int32.ofNat V.slots.size >>> (cd &&& 31))])) := Steps.trans g4 (by
    refine ishr X4.here hexec rfl (hb hbytes d9) rfl ?_
    exact Steps.refl _)
  rw [hx.2.2.2.2.1.len v31] at c5
  exact ⟨T4, some (.int (Int32.ofNat n)), _, _, _, X4, rfl, rfl, rfl, (fun h => by cases h), ⟨rfl, q4.trans hh2⟩, fun fs hl => c5.trans (X4.ireturnOut hexec hret rfl (Or.inl rfl) (hb hbytes d10) hl)⟩
theorem pays {l : Launch} {R : Room} {p : Program} {e : Env} {below : List Frame} {s : State} {sargs : Array Value} {len W : Nat} (x t : Addr) (V : Cell) (cd : Int32) (n : Nat) (f : Nat → Int32) (z : Int32) (htab : tab.before sargs s = true) (hfr : 2 ≤ R.frames) (hlo : W + 25 ≤ R.locals) :
    Back l R p e below s sargs yN len W (fun A₁ a₁ => A₁.cells + 0 ≤ R.cells ∧ A₁.slots + 0 ≤ R.slots ∧ P x t V cd n f z a₁ A₁.U) (fun A₁ _ v₁ B₁ => E n v₁ A₁.U B₁.U ∧ B₁.locs = A₁.locs ++ [] ∧ B₁.cells = A₁.cells + 0 ∧ B₁.slots = A₁.slots + 0) :=
  (law l x t V cd n f z).pays htab hfr (by omega)
end Len
end StrChars
namespace StrChars.Road
open Jvm Sem ClassFile Op Lib Jvm.Stand Jvm.Free Jvm.Free.XT
open Jvm.Lib.Cold (StaticIs)
theorem consq {a : Array Value} {s : State} {c : Jvm.Cond} {L : List Jvm.Cond} (h0 : c.before a s = true) (h : ∀ w ∈ L, w.before a s = true) : ∀ w ∈ c :: L, w.before a s = true := fun w hw => (List.mem_cons.mp hw).elim (fun e => e ▸ h0) (h w)
/-- the words of String.length(), either coding -/
abbrev wordsLen : List Jvm.Cond := [.code Len.yN Len.yB 1 (some .int), .initialized ST, .fieldLink ST 9 ST "value" "[B", .fieldLink ST 38 ST "COMPACT_STRINGS" "Z", .fieldLink ST 15 ST "coder" "B", .code Cdr.yN Cdr.yB 1 (some .byte), .methodLink ST 335 Cdr.yN, .declares Cdr.yN, .selects ST Cdr.yN Cdr.yN, .instanceMethod Cdr.yN]
theorem tabLen_of {a : Array Value} {s : State} (h : ∀ w ∈ wordsLen, w.before a s = true) : Len.tab.before a s = true := by
  have hc : Cdr.tab.before a s = true := unparts (wk h (.code Cdr.yN Cdr.yB 1 (some .byte))) (wks h (.initialized Cdr.yN.cls :: Cdr.site))
  have q := consq hc h
  exact unparts (wk q (.code Len.yN Len.yB 1 (some .int))) (wks q (.initialized Len.yN.cls :: Len.site))
theorem movedLen {Z s : State} {a0 args : Array Value} (hZ : Z.Warmed39 s.vm) (hw : ∀ d ∈ wordsLen, d.before a0 Z = true) : ∀ d ∈ wordsLen, d.before args s = true := fun d hd => by
  have q := hw d hd
  have t : ∀ d ∈ wordsLen, d = .arrayClass .byte ∨ (d.onTables && d.keepsFace) = true := by decide +kernel
  rcases t d hd with rfl | t
  · exact RoadKit.mvA hZ q
  · exact RoadKit.mv hZ q t
/-- the bytes of the chars cs, low before high -/
def wideBytes : List Int32 → List Value
  | [] => []
  | c :: cs => .int (lo8 c) :: .int (hi8 c) :: wideBytes cs
theorem wide_lo (d : Value) : ∀ (cs : List Int32) (j : Nat), j < cs.length → (wideBytes cs).getD (2 * j) d = .int (lo8 (cs.getD j 0))
  | [], j, h => absurd h (Nat.not_lt_zero j)
  | c :: cs, 0, _ => rfl
  | c :: cs, j + 1, h => by
    have q := wide_lo d cs j (by simpa using h)
    rw [show 2 * (j + 1) = 2 * j + 1 + 1 from by omega]
    simpa [wideBytes] using q
theorem wide_hi (d : Value) : ∀ (cs : List Int32) (j : Nat), j < cs.length → (wideBytes cs).getD (2 * j + 1) d = .int (hi8 (cs.getD j 0))
  | [], j, h => absurd h (Nat.not_lt_zero j)
  | c :: cs, 0, _ => rfl
  | c :: cs, j + 1, h => by
    have q := wide_hi d cs j (by simpa using h)
    rw [show 2 * (j + 1) + 1 = 2 * j + 1 + 1 + 1 from by omega]
    simpa [wideBytes] using q
theorem low_at (d : Value) (cs : List Int32) (j : Nat) (h : j < cs.length) : (cs.map fun c => Value.int (lo8 c)).getD j d = .int (lo8 (cs.getD j 0)) := by
  simp [List.getD_eq_getElem?_getD, h]
/-- an array of N2 bytes vs codes the chars cs by the coder cd -/
def CodA (cs : List Int32) (cd N2 : Int32) (vs : List Value) : Prop := (cd = 0 ∧ N2 = Int32.ofNat cs.length ∧ vs = (cs.map fun c => Value.int (lo8 c)) ∧ ∀ c ∈ cs, ¬ 255 < c) ∨ (cd = 1 ∧ N2 = Int32.ofNat (2 * cs.length) ∧ vs = wideBytes cs ∧ ∃ c ∈ cs, 255 < c)
theorem CodA.cod {cs : List Int32} {cd N2 : Int32} {vs : List Value} {V : Cell} (h : CodA cs cd N2 vs) (hn : 2 * cs.length < 2 ^ 31) (hs : V.slots.size = N2.toNatClampNeg) (hv : RoadKit.Has V vs (.int 0)) : Cod cd cs.length (fun j => cs.getD j 0) V := by
  rcases h with ⟨rfl, rfl, rfl, h⟩ | ⟨rfl, rfl, rfl, c, hc, hw⟩
  · rw [n32 (by omega)] at hs
    exact Or.inl ⟨rfl, hs, fun j hj => ⟨by rw [hv j (by omega), low_at _ _ _ hj], by
      have e : cs.getD j 0 = cs[j] := by simp [List.getD_eq_getElem?_getD, hj]
      show ¬ 255 < cs.getD j 0
      rw [e]; exact h _ (List.getElem_mem _)⟩⟩
  · rw [n32 (by omega)] at hs
    obtain ⟨j, hj, rfl⟩ := List.getElem_of_mem hc
    exact Or.inr ⟨rfl, hs, fun j hj => ⟨by rw [hv _ (by omega), wide_lo _ _ _ hj], by rw [hv _ (by omega), wide_hi _ _ _ hj]⟩, j, hj, by
      have e : cs.getD j 0 = cs[j] := by simp [List.getD_eq_getElem?_getD, hj]
      show 255 < cs.getD j 0
      rw [e]; exact hw⟩
/-- an object of exactly java/lang/String, its two fields found: as the laws ask it -/
theorem strObj {Z U : State} {a0 : Array Value} {kI : Nat} (wi : (Jvm.Cond.instantiable ST kI).before a0 Z = true) (al : Z.vm.Alike U.vm) {x : Addr} {v0 c0 : Value} (E : RoadKit.Exa Z U.heap x ST) (V : RoadKit.Fld Z U.heap x ST "value" "[B" v0) (C : RoadKit.Fld Z U.heap x ST "coder" "B" c0) :
    ∃ (D : Cell) (fV fC : Field), Blank ST x D U ∧ Found ST "value" "[B" fV U ∧ Found ST "coder" "B" fC U ∧ D.slots[fV.slot]? = some v0 ∧ D.slots[fC.slot]? = some c0 ∧ RoadKit.slotOf Z ST "value" "[B" = fV.slot ∧ RoadKit.slotOf Z ST "coder" "B" = fC.slot := by
  obtain ⟨D, cfV, kV, iV, fV, hD, gV, stV, knV, obV, asV, slV⟩ := V
  obtain ⟨D', cfC, kC, iC, fC, hD', gC, stC, -, -, asC, slC⟩ := C
  cases hD.symm.trans hD'
  obtain ⟨D2, kD, e1, e2, e3, e4, e5⟩ := E
  cases hD.symm.trans e1
  obtain ⟨c2, k2, i1, i2, i3, -⟩ := Cond.instantiable_spec wi
  cases e2.symm.trans i1
  cases e3.symm.trans i2
  obtain ⟨kU, u1, u2⟩ := al.2.2 _ _ e3
  exact ⟨D, fV, fC, ⟨hD, ⟨knV, fun q hq => by rw [hq] at obV; cases obV⟩, by rw [al.findClass]; exact e2, kU, u1, by rw [u2]; exact i3, by rw [u2]; exact e5 i3⟩, ⟨SBG.found_only al ⟨cfV, kV, iV, gV⟩, stV⟩, ⟨SBG.found_only al ⟨cfC, kC, iC, gC⟩, stC⟩, slV, slC, by simp [RoadKit.slotOf, gV], by simp [RoadKit.slotOf, gC]⟩
theorem sta_is {Z U : State} (al : Z.vm.Alike U.vm) {C n d : String} {v : Value} (S : RoadKit.Sta Z U.heap C n d v) : StaticIs U C n d v := by
  obtain ⟨cfS, iS, kS, fS, st, cS, t1, t2, t3, t4, t5, t6, t7⟩ := S
  exact StaticIs.there (s := { Z with heap := U.heap }) ⟨cfS, iS, kS, fS, st, cS, t1, t2, t3, t4, t5, (fun q => by rw [q] at t6; cases t6), t7⟩ al rfl
/-- **length() OF SUCH A STRING** -/
theorem lenW {p : Program} {l : Launch} {e : Env} {R : Room} {s : State} {args : Array Value} {below : List Frame} {len W : Nat} {Z : State} {a0 : Array Value} {h : Heap} (hZ : Z.Warmed39 s.vm) (hw : ∀ d ∈ wordsLen, d.before a0 Z = true) {kI : Nat} (wi : (Jvm.Cond.instantiable ST kI).before a0 Z = true)
    {x t : Addr} {kb : ClassId} {cs : List Int32} {cd N2 z : Int32} {vs : List Value} (E : RoadKit.Exa Z h x ST) (V : RoadKit.Fld Z h x ST "value" "[B" (.ref t)) (C : RoadKit.Fld Z h x ST "coder" "B" (.int cd)) (K : RoadKit.Arv Z h t kb .byte N2 vs (.int 0)) (hc : CodA cs cd N2 vs) (hb : ∀ c ∈ cs, ¬ c < 0 ∧ ¬ (65535 : Int32) < c)
    (S : RoadKit.Sta Z h ST "COMPACT_STRINGS" "Z" (.int z)) (hz : ¬ z = 0) (l2 : cs.length ≤ 4000) (hfr : 2 ≤ R.frames) (hlo : W + 25 ≤ R.locals) :
    Back l R p e below s args (⟨"java/lang/String", "length", "()I"⟩ : MethodName) len W (fun P a => a = #[.ref x] ∧ P.U.heap = h ∧ P.cells + 0 ≤ R.cells ∧ P.slots + 0 ≤ R.slots)
      (fun P _ v B => ∃ L, (v = some (.int (Int32.ofNat cs.length)) ∧ L = [] ∧ B.U.heap = h) ∧ B.locs = P.locs ++ L ∧ B.cells = P.cells + 0 ∧ B.slots = P.slots + 0) := by
  obtain ⟨A, K1, K2, K3, K4, K5, K6⟩ := K
  have hcod := hc.cod (by omega) K3 K5
  intro m meth c P g ig mk a X hg hsize hdg hW hn hp'
  obtain ⟨rfl, rfl, r1, r2⟩ := hp'
  have al : Z.vm.Alike P.U.vm := hZ.alike.trans X.warmed.alike
  obtain ⟨D, fV, fC, hB, F1, F2, g1, g2, -, -⟩ := strObj wi al E V C
  have hx : Txt x t A cd cs.length (fun j => cs.getD j 0) P.U := ⟨⟨_, hB.2.2.1, D, hB.1, rfl, by cases q : D.vm <;> first | rfl | exact absurd q (hB.2.1.2 _)⟩, Has.of hB F1 g1, Has.of hB F2 g2, ⟨K1.1, State.isArrayOf_alike al K1.2.1, K1.2.2, by rcases hcod with ⟨-, q, -⟩ | ⟨-, q, -⟩ <;> omega⟩, hcod, fun j hj => by
    have e : cs.getD j 0 = cs[j] := by simp [List.getD_eq_getElem?_getD, hj]
    show ¬ cs.getD j 0 < 0 ∧ ¬ 65535 < cs.getD j 0
    rw [e]; exact hb _ (List.getElem_mem _)⟩
  obtain ⟨v, B, X', ⟨⟨hv, hh⟩, hl, hk, hs⟩, st⟩ := Len.pays x t A cd cs.length (fun j => cs.getD j 0) z (tabLen_of (movedLen hZ hw)) hfr hlo m meth c P g ig mk _ X hg hsize hdg hW hn ⟨r1, r2, rfl, hx, sta_is al S, hz⟩
  exact ⟨v, B, X', ⟨[], ⟨hv, rfl, hh⟩, hl, hk, hs⟩, st⟩
end StrChars.Road
namespace StrChars.Road
open Jvm Sem ClassFile Op Lib Jvm.Stand Jvm.Free Jvm.Free.XT
open Jvm.Lib.Cold (StaticIs)
/-- what backV says of its String, as the contracts of this text ask it: cs's low bytes, coder 0 -/
theorem codOf {cs : List Int32} {n : Nat} (hn : cs.length = n) (hb : ∀ c ∈ cs, ¬ 255 < c) : CodA cs 0 (Int32.ofNat n) ((cs.map lo8).map Value.int) := Or.inl ⟨rfl, by rw [hn], by simp [List.map_map, Function.comp_def], hb⟩
end StrChars.Road
end Jvm.Pilot.@@N@@
namespace Jvm.Pilot.@@N@@
open Jvm Jvm.ClassFile Sem Op Lib Jvm.Free Jvm.Stand Jvm.LawKit Jvm.RoadKit Bundle Jvm.Pilot.@@N@@.Jvm.D
theorem own_nb {v : Int32} (h : v = 0 ∨ v = 1) : narrow .boolean (.int v) = .int v := by rcases h with rfl | rfl <;> rfl
theorem own_i2c {x : Int32} (h0 : ¬ x < 0) (h1 : ¬ 65535 < x) : x.toUInt32.toUInt16.toUInt32.toInt32 = x := by
  have e0 : (0 : Int32).toInt = 0 := rfl
  have e1 : (65535 : Int32).toInt = 65535 := rfl
  rw [Int32.lt_iff_toInt_lt, e0] at h0
  rw [Int32.lt_iff_toInt_lt, e1] at h1
  apply Int32.toBitVec_inj.mp
  apply BitVec.eq_of_toNat_eq
  have e : x.toUInt32.toUInt16.toUInt32.toInt32.toBitVec.toNat = x.toUInt32.toUInt16.toUInt32.toNat := rfl
  rw [e, UInt16.toNat_toUInt32, UInt32.toNat_toUInt16]
  show x.toBitVec.toNat % 2 ^ 16 = _
  have q : x.toInt = x.toBitVec.toInt := rfl
  rw [q, BitVec.toInt_eq_toNat_cond] at h0 h1
  have := x.toBitVec.isLt
  split at h0 <;> omega
theorem own_and255 (x : Int32) : ¬ (x &&& 255) < 0 ∧ ¬ 255 < (x &&& 255) := by
  have h : (x &&& 255).toBitVec.toNat < 256 := by
    simp only [Int32.toBitVec_and, BitVec.toNat_and]
    exact Nat.lt_succ_of_le Nat.and_le_right
  have e0 : (0 : Int32).toInt = 0 := rfl
  have e1 : (255 : Int32).toInt = 255 := rfl
  rw [Int32.lt_iff_toInt_lt, Int32.lt_iff_toInt_lt, e0, e1]
  have q : (x &&& 255).toInt = (x &&& 255).toBitVec.toInt := rfl
  rw [q, BitVec.toInt_eq_toNat_cond]
  split <;> omega
/-- a char below 256 -/
def C8 (x : Int32) : Prop := ¬ x < 0 ∧ ¬ (255 : Int32) < x
theorem own_up1 {x : Int32} (h : C8 x) : ¬ x < 0 ∧ ¬ (65535 : Int32) < x := ⟨h.1, fun q => h.2 (by rw [Int32.lt_iff_toInt_lt] at q ⊢; have e1 : (65535 : Int32).toInt = 65535 := rfl; have e2 : (255 : Int32).toInt = 255 := rfl; omega)⟩
theorem own_nar {x : Int32} (h : C8 x) : nar .char x = x := own_i2c (own_up1 h).1 (own_up1 h).2
theorem own_c8m (x : Int32) : C8 ((x &&& 255).toUInt32.toUInt16.toUInt32.toInt32) := by rw [i2c_mask]; exact own_and255 x
theorem own_c8n {x : Int32} (h : C8 x) : C8 (nar .char x) := by rw [own_nar h]; exact h
theorem own_nc {v : Int32} (h : ¬ v < 0 ∧ ¬ 65535 < v) : narrow .char (.int v) = .int v := by
  show Value.int (v.toUInt32.toUInt16.toUInt32.toInt32) = .int v
  rw [own_i2c h.1 h.2]
theorem own_nref {t : FieldType} {w : Value} (h : w.isRef = true) : narrow t w = w := by rcases ref_cases h with rfl | ⟨a, rfl⟩ <;> cases t <;> rfl
theorem own_al0 {P : Int32 → Prop} : ∀ c ∈ ([] : List Int32), P c := fun _ h => nomatch h
theorem own_alS {P : Int32 → Prop} {a : Int32} {L : List Int32} (h : P a) (r : ∀ c ∈ L, P c) : ∀ c ∈ a :: L, P c := List.forall_mem_cons.mpr ⟨h, r⟩
theorem own_up (cs : List Int32) (h : ∀ c ∈ cs, ¬ c < 0 ∧ ¬ (255 : Int32) < c) : ∀ c ∈ cs, ¬ c < 0 ∧ ¬ (65535 : Int32) < c := fun c hc => own_up1 (h c hc)
/-- a flag r says P -/
abbrev TF (r : Int32) (P : Prop) : Prop := (r = 1 ∧ P) ∨ (r = 0 ∧ ¬ P)
theorem own_y {r : Int32} {P : Prop} (h : TF r P) (q : ¬ r = 0) : P := h.elim (fun z => z.2) (fun z => absurd z.1 q)
theorem own_n {r : Int32} {P : Prop} (h : TF r P) (q : r = 0) : ¬ P := h.elim (fun z => absurd (z.1.symm.trans q) (by decide)) (fun z => z.2)
theorem own_b {r : Int32} {P : Prop} (h : TF r P) : r = 0 ∨ r = 1 := h.elim (fun z => Or.inr z.1) (fun z => Or.inl z.1)
theorem own_is1 {r : Int32} {P : Prop} (h : TF r P) (q : P) : r = 1 := h.elim (fun z => z.1) (fun z => absurd q z.2)
theorem own_is0 {r : Int32} {P : Prop} (h : TF r P) (q : ¬ P) : r = 0 := h.elim (fun z => absurd z.2 q) (fun z => z.1)
theorem own_ofN {a : Nat} (h : a < 2147483648) : (Int32.ofNat a).toInt = a := Int32.toInt_ofNat_small h
theorem own_ofN_lt {a b : Nat} (ha : a < 2147483648) (hb : b < 2147483648) : Int32.ofNat a < Int32.ofNat b ↔ a < b := by
  rw [Int32.lt_iff_toInt_lt, own_ofN ha, own_ofN hb]; omega
theorem own_ofN_inj {a b : Nat} (ha : a < 2147483648) (hb : b < 2147483648) : Int32.ofNat a = Int32.ofNat b ↔ a = b := by
  rw [← Int32.toInt_inj, own_ofN ha, own_ofN hb]; omega
theorem own_mask31 (x : Int32) : ∃ a : Nat, a < 2147483648 ∧ x &&& 2147483647 = Int32.ofNat a := by
  have h : (x &&& 2147483647).toBitVec.toNat < 2147483648 := by
    simp only [Int32.toBitVec_and, BitVec.toNat_and]
    exact Nat.lt_succ_of_le Nat.and_le_right
  refine ⟨_, h, ?_⟩
  apply Int32.toBitVec_inj.mp
  show _ = BitVec.ofNat 32 _
  rw [BitVec.ofNat_toNat]; simp
theorem own_rem31 (x : Int32) {m : Nat} (h0 : 0 < m) (h1 : m < 2147483648) : ∃ a : Nat, a < m ∧ (x &&& 2147483647) % Int32.ofNat m = Int32.ofNat a := by
  obtain ⟨a, ha, e⟩ := own_mask31 x
  refine ⟨a % m, Nat.mod_lt _ h0, ?_⟩
  rw [e]
  apply Int32.toInt_inj.mp
  have q : a % m ≤ a := Nat.mod_le _ _
  rw [Int32.toInt_mod, own_ofN ha, own_ofN h1, own_ofN (by omega)]
  exact (Int.ofNat_tmod a m).symm
theorem own_b8 (x : Int32) : (x.toInt8.toInt32).toInt8.toInt32 = x.toInt8.toInt32 := by simp
/-- a Latin-1 String x of the chars cs, its bytes at t -/
def OStr (Z : State) (h : Heap) (x t : Addr) (kb : ClassId) (cs : List Int32) : Prop :=
  Exa Z h x "java/lang/String" ∧ Fld Z h x "java/lang/String" "value" "[B" (.ref t) ∧ Fld Z h x "java/lang/String" "coder" "B" (.int 0) ∧ Arv Z h t kb .byte (Int32.ofNat cs.length) ((cs.map (fun c => c.toInt8.toInt32)).map Value.int) (.int 0) ∧ (∀ c ∈ cs, ¬ c < 0 ∧ ¬ (255 : Int32) < c) ∧ cs.length ≤ 4000
theorem OStr.cod {Z : State} {h : Heap} {x t : Addr} {kb : ClassId} {cs : List Int32} (S : OStr Z h x t kb cs) : StrChars.Road.CodA cs 0 (Int32.ofNat cs.length) ((cs.map (fun c => c.toInt8.toInt32)).map Value.int) := StrChars.Road.codOf rfl (fun c hc => (S.2.2.2.2.1 c hc).2)
theorem own_tfv {v : Option Value} {P : Prop} (h : (v = some (.int 1) ∧ P) ∨ (v = some (.int 0) ∧ ¬ P)) : ∃ r : Int32, v = some (.int r) ∧ TF r P := h.elim (fun z => ⟨1, z.1, Or.inl ⟨rfl, z.2⟩⟩) (fun z => ⟨0, z.1, Or.inr ⟨rfl, z.2⟩⟩)
theorem own_tfeq {r v : Int32} {P : Prop} (h1 : TF r P) (h2 : TF v P) : r = v := h1.elim (fun z => z.1.trans (own_is1 h2 z.2).symm) (fun z => z.1.trans (own_is0 h2 z.2).symm)
theorem own_tfiff {r : Int32} {P Q : Prop} (h : TF r P) (i : P ↔ Q) : TF r Q := h.imp (fun z => ⟨z.1, i.mp z.2⟩) (fun z => ⟨z.1, fun q => z.2 (i.mpr q)⟩)
theorem own_ushr (x : Int32) {k : Nat} (hk : 0 < k ∧ k < 32) : ∃ a : Nat, a < 2147483648 ∧ (x.toUInt32 >>> (Int32.ofNat k &&& 31).toUInt32).toInt32 = Int32.ofNat a := by
  obtain ⟨h0, h1⟩ := hk
  refine ⟨x.toUInt32.toNat >>> k, ?_, ?_⟩
  · have := x.toUInt32.toNat_lt
    rw [Nat.shiftRight_eq_div_pow]
    have : 2 ^ 1 ≤ 2 ^ k := Nat.pow_le_pow_right (by decide) h0
    apply Nat.div_lt_of_lt_mul
    omega
  · have e : (Int32.ofNat k &&& 31).toUInt32 = UInt32.ofNat k := by
      have : k < 32 := h1
      have q : ∀ j : Fin 32, (Int32.ofNat j.val &&& 31).toUInt32 = UInt32.ofNat j.val := by decide
      exact q ⟨k, h1⟩
    rw [e]
    apply Int32.toBitVec_inj.mp
    apply BitVec.eq_of_toNat_eq
    show (x.toUInt32 >>> UInt32.ofNat k).toNat = (BitVec.ofNat 32 _).toNat
    rw [UInt32.toNat_shiftRight, BitVec.toNat_ofNat]
    have hlt : x.toUInt32.toNat >>> k < 2 ^ 32 := Nat.lt_of_le_of_lt (Nat.shiftRight_le _ _) x.toUInt32.toNat_lt
    rw [Nat.mod_eq_of_lt hlt]
    congr 1
    simp
    omega
theorem own_tfe {v : Option Value} {n : Nat} (h : v = some (.int (if n = 0 then 1 else 0))) : ∃ r : Int32, v = some (.int r) ∧ TF r (n = 0) := by
  by_cases q : n = 0
  · exact ⟨1, by rw [h, if_pos q], Or.inl ⟨rfl, q⟩⟩
  · exact ⟨0, by rw [h, if_neg q], Or.inr ⟨rfl, q⟩⟩
theorem own_m4 (x : Int32) : x &&& 3 = 0 ∨ x &&& 3 = 1 ∨ x &&& 3 = 2 ∨ x &&& 3 = 3 := by
  have h : (x &&& 3).toBitVec.toNat < 4 := by
    simp only [Int32.toBitVec_and, BitVec.toNat_and]
    exact Nat.lt_succ_of_le Nat.and_le_right
  have e : ∀ k : Nat, (x &&& 3).toBitVec.toNat = k → x &&& 3 = Int32.ofNat k := fun k hk => by
    apply Int32.toBitVec_inj.mp
    show _ = BitVec.ofNat 32 _
    rw [← hk, BitVec.ofNat_toNat]; simp
  have q : (x &&& 3).toBitVec.toNat = 0 ∨ (x &&& 3).toBitVec.toNat = 1 ∨ (x &&& 3).toBitVec.toNat = 2 ∨ (x &&& 3).toBitVec.toNat = 3 := by omega
  rcases q with q | q | q | q
  · exact Or.inl (e 0 q)
  · exact Or.inr (Or.inl (e 1 q))
  · exact Or.inr (Or.inr (Or.inl (e 2 q)))
  · exact Or.inr (Or.inr (Or.inr (e 3 q)))
theorem own_m3 (x : Int32) : (x &&& 3) % 3 = 0 ∨ (x &&& 3) % 3 = 1 ∨ (x &&& 3) % 3 = 2 := by
  rcases own_m4 x with q | q | q | q <;> rw [q] <;> decide
theorem own_idx {a m : Nat} (h : a < m) (hm : m < 2147483648) : ¬ Int32.ofNat a < 0 ∧ Int32.ofNat a < Int32.ofNat m := by
  have e0 : (0 : Int32).toInt = 0 := rfl
  rw [Int32.lt_iff_toInt_lt, Int32.lt_iff_toInt_lt, e0, own_ofN (by omega), own_ofN hm]; omega
theorem own_in_words : ∀ d ∈ StrChars.Road.words, d ∈ tables_1 := by decide +kernel
theorem own_in_wordsLen : ∀ d ∈ StrChars.Road.wordsLen, d ∈ tables_1 := by decide +kernel
abbrev EL : List (String × Nat) := [("java/lang/String", 7)]
theorem own_since (s : State) : s.Since s.vm 0 := (State.WarmedH.refl s).since 0
theorem own_safe {Z : State} {vm : Vm} {h : Heap} {x : Addr} (hal : Z.vm.Alike vm) (E : Exa Z h x "java/lang/String") (F : Fld Z h x "java/lang/String" "value" "[B" .null) : Safe Z EL vm h x := fun B => by
  obtain ⟨cl1, k, e1, e2, -⟩ := E
  obtain ⟨cl2, cf, k2, i, f, f1, f2, -, -, -, -, f7⟩ := F
  cases e1.symm.trans f1
  obtain ⟨p, -, u, a, -, q, -, G, rfl | rfl⟩ := B
  · cases (show h[q.sa]? = some q.sC from G.ha).symm.trans e1
    obtain ⟨cS, ⟨⟨-, -, -, ⟨cv, kv, iv, s4, -⟩, -, -, -, s8, -⟩, -⟩, -⟩ := G
    obtain ⟨k3, z⟩ := ff_back (U := Wst Z vm h) hal s4
    cases f2.symm.trans z
    cases f7.symm.trans s8
  · cases (show h[q.sd]? = some q.SA from G.hd).symm.trans e1
    obtain ⟨cS, -, -, g, -⟩ := G
    have g' : vm.findClass "[B" = some q.SA.cls := g
    rw [hal.findClass] at g'
    obtain ⟨k1, q1, q2⟩ := Vm.findClass_spec g'
    obtain ⟨k3, q3, q4⟩ := Vm.findClass_spec e2
    cases q1.symm.trans q3
    exact absurd (q2.symm.trans q4) (by decide)
theorem own_EW {Z : State} {a0 : Array Value} (hw : ∀ d ∈ tables_1, d.before a0 Z = true) : EW Z a0 EL := (EW.cons (hw _ (List.mem_of_getElem? (i := 96) rfl)) (by decide) EW.nil)
theorem own_strw {Z : State} {a0 : Array Value} (hw : ∀ d ∈ tables_1, d.before a0 Z = true) : ∀ a ∈ Bundle.stringAtoms, a.before a0 Z = true := fun d hd => hw d ((by decide +kernel : ∀ d ∈ Bundle.stringAtoms, d ∈ tables_1) d hd)
theorem own_CH {s : State} {args : Array Value} {tb : Tables} {e : Env} (hw : ∀ d ∈ tables_1, d.before args s = true) (hc : call_1_1 tb e args s) (h2 : (Jvm.Cond.not (Jvm.Cond.eq (Jvm.Term.static "java/lang/String" "COMPACT_STRINGS" "Z") (Jvm.Term.int (0 : Int32)))).before args s = true) : CHv s EL s.vm s.heap := CHv.start (a0 := args) (own_EW hw) hc h2 (hw _ (List.mem_of_getElem? (i := 19) rfl)) (hw _ (List.mem_of_getElem? (i := 2) rfl))
def QE (Z : State) (x : Addr) (h0 : Heap) (n0 : Nat) (v : Option Value) (h : Heap) (L : List Loc) : Prop := ∃ (t : Addr) (kb : ClassId), v = none ∧ Fr n0 L ∧ Keep h0 h [x] ∧ OStr Z h x t kb []

theorem d_jdk_42_method_149_code_0 : decode jdk_42_method_149_code 0 = .ok (.aload_n 0, 1) := by decide +kernel
theorem d_jdk_42_method_149_code_1 : decode jdk_42_method_149_code 1 = .ok (.invokespecial 1, 3) := by decide +kernel
theorem d_jdk_42_method_149_code_4 : decode jdk_42_method_149_code 4 = .ok (.iload_n 3, 1) := by decide +kernel
theorem d_jdk_42_method_149_code_5 : decode jdk_42_method_149_code 5 = .ok (.ifCond .ne 22, 3) := by decide +kernel
theorem d_jdk_42_method_149_code_8 : decode jdk_42_method_149_code 8 = .ok (.aload_n 0, 1) := by decide +kernel
theorem d_jdk_42_method_149_code_9 : decode jdk_42_method_149_code 9 = .ok (.ldc 7, 2) := by decide +kernel
theorem d_jdk_42_method_149_code_11 : decode jdk_42_method_149_code 11 = .ok (.getfield 9, 3) := by decide +kernel
theorem d_jdk_42_method_149_code_14 : decode jdk_42_method_149_code 14 = .ok (.putfield 9, 3) := by decide +kernel
theorem d_jdk_42_method_149_code_17 : decode jdk_42_method_149_code 17 = .ok (.aload_n 0, 1) := by decide +kernel
theorem d_jdk_42_method_149_code_18 : decode jdk_42_method_149_code 18 = .ok (.ldc 7, 2) := by decide +kernel
theorem d_jdk_42_method_149_code_20 : decode jdk_42_method_149_code 20 = .ok (.getfield 15, 3) := by decide +kernel
theorem d_jdk_42_method_149_code_23 : decode jdk_42_method_149_code 23 = .ok (.putfield 15, 3) := by decide +kernel
theorem d_jdk_42_method_149_code_26 : decode jdk_42_method_149_code 26 = .ok (.return_, 1) := by decide +kernel
theorem pn_java_lang_String : plainName "java/lang/String" = true := by first | (simp [plainName, overriddenIn]; done) | decide +kernel
theorem ef_rmE4 (m : MethodId) (x0 : Addr) (x1 : Addr) (x2 : Int32) (x3 : Int32) : entryFrame m #[(.ref x0), (.ref x1), (.int x2), (.int x3), .null] 6 = mkF m 0 #[.val (.ref x0), .val (.ref x1), .val (.int x2), .val (.int x3), .val .null, .unset] [] := by first | (simp [entryFrame, mkF, argsToLocals, Value.category]; done) | rfl
set_option maxRecDepth 65536 in
set_option maxHeartbeats 40000000 in
theorem rmE4 (l : Launch) (Z : State) (a0 : Array Value) (hw : ∀ d ∈ tables_1, d.before a0 Z = true) (ws : List Jvm.Cond) (x b : Addr) (h0 : Heap) (n0 : Nat) (Z0 : n0 ≤ h0.size) (g_x : n0 ≤ x) (Ex : Exa Z h0 x "java/lang/String") (Fv : Fld Z h0 x "java/lang/String" "value" "[B" .null) (Fc : Fld Z h0 x "java/lang/String" "coder" "B" (.int (0 : Int32))) :
    MetFree l (⟨"java/lang/String", "<init>", "([CIILjava/lang/Void;)V"⟩ : MethodName) (head1 (Jvm.Cond.code (⟨"java/lang/String", "<init>", "([CIILjava/lang/Void;)V"⟩ : MethodName) jdk_42_method_149_code 6 (none) :: ws) ({ frames := 1, cells := 4, slots := 8, locals := 12 } : Room)) (fun aa U => aa = #[(.ref x), (.ref b), (.int (0 : Int32)), (.int (0 : Int32)), .null] ∧ Z.Warmed39 U.vm ∧ U.heap = h0 ∧ CHv Z EL U.vm h0) (fun _ _ _ _ _ => True) (fun _ U o U' => ∃ v L, o = .returned v ∧ QE Z x h0 n0 v U'.heap L ∧ CHr Z EL U.vm U.heap U'.vm U'.heap ∧ ReturnedEndW U o U' L ({ frames := 1, cells := 4, slots := 8, locals := 12 } : Room).cells ({ frames := 1, cells := 4, slots := 8, locals := 12 } : Room).slots) := by
  refine MetFree.of_bodySF (plainFor_of_name pn_java_lang_String) hisR ?_
  intro p e s m args below meth c s₁ Bd hml0 hP hK
  obtain ⟨rfl, hZ, hh, hCH⟩ := hP
  have hx := Bd.exec
  have hby := Bd.bytes
  have hml : c.maxLocals = 6 := hml0
  have hown : s.vm.findClass "java/lang/String" = some m.cls := findClass_of_methodNamed Bd.named
  have hnm := (name_of_methodNamed Bd.named Bd.method).1
  have X0 : Stand p l e ({ frames := 1, cells := 4, slots := 8, locals := 12 } : Room) s m #[(.ref x), (.ref b), (.int (0 : Int32)), (.int (0 : Int32)), .null] below meth c s₁ [] 0 0 := Stand.of_body Bd
  have e0 : s₁.heap = h0 := by rw [← hh, Bd.state]; rfl
  have N0 := Fr.nil n0
  have K0 := Keep.refl h0 [x]
  obtain ⟨S0, hS0⟩ : ∃ z, z = s₁.setTop (entryFrame m #[(.ref x), (.ref b), (.int (0 : Int32)), (.int (0 : Int32)), .null] 6) := ⟨_, rfl⟩
  rw [← hS0]
  have c0 : Steps p.tables e below S0 (s₁.setTop (mkF m 0 #[.val (.ref x), .val (.ref b), .val (.int (0 : Int32)), .val (.int (0 : Int32)), .val .null, .unset] [])) := by
    rw [hS0]; exact castTop (ef_rmE4 m x b (0 : Int32) (0 : Int32)) (Steps.refl _)
  have X0 : Stand p l e ({ frames := 1, cells := 4, slots := 8, locals := 12 } : Room) (s.setVm s.vm) m #[(.ref x), (.ref b), (.int (0 : Int32)), (.int (0 : Int32)), .null] below meth c s₁ [] 0 0 := X0
  have hS0 : s.Since s.vm 0 := own_since s
  have R0 : CHr Z EL s.vm h0 s.vm h0 := CHr.refl hCH
  have hEL := own_EW hw
  have hwS := own_strw hw
  have c1 : Steps p.tables e below S0 (s₁.setTop (mkF m 1 #[.val (.ref x), .val (.ref b), .val (.int (0 : Int32)), .val (.int (0 : Int32)), .val .null, .unset] [(.ref x)])) := c0.trans (by
    show Steps p.tables e below (s₁.setTop (mkF m 0 #[.val (.ref x), .val (.ref b), .val (.int (0 : Int32)), .val (.int (0 : Int32)), .val .null, .unset] [])) _
    refine XS.aloadN X0.here hx rfl (hb hby d_jdk_42_method_149_code_0) rfl rfl ?_
    exact Steps.refl _)
  obtain ⟨T2, X2, e2, st2⟩ := initO X0 hx hZ hown (hw _ (List.mem_of_getElem? (i := 11) rfl)) (hw _ (List.mem_of_getElem? (i := 12) rfl)) (hw _ (List.mem_of_getElem? (i := 13) rfl)) e0 (g := (mkF m 1 #[.val (.ref x), .val (.ref b), .val (.int (0 : Int32)), .val (.int (0 : Int32)), .val .null, .unset] [(.ref x)])) rfl (by rw [hml]; rfl) rfl (hb hby d_jdk_42_method_149_code_1) (by decide) (W := 0) (by show 2 * 0 + _ ≤ _; exact Nat.le_of_eq rfl) (by decide)
  have c3 : Steps p.tables e below S0 (T2.setTop (mkF m 4 #[.val (.ref x), .val (.ref b), .val (.int (0 : Int32)), .val (.int (0 : Int32)), .val .null, .unset] [])) := c1.trans (st2 _ (Steps.refl _))
  have c4 : Steps p.tables e below S0 (T2.setTop (mkF m 9 #[.val (.ref x), .val (.ref b), .val (.int (0 : Int32)), .val (.int (0 : Int32)), .val .null, .unset] [(.ref x)])) := c3.trans (by
    show Steps p.tables e below (T2.setTop (mkF m 4 #[.val (.ref x), .val (.ref b), .val (.int (0 : Int32)), .val (.int (0 : Int32)), .val .null, .unset] [])) _
    refine XS.iloadN X2.here hx rfl (hb hby d_jdk_42_method_149_code_4) rfl ?_
    show Steps p.tables e below (T2.setTop (mkF m 5 #[.val (.ref x), .val (.ref b), .val (.int (0 : Int32)), .val (.int (0 : Int32)), .val .null, .unset] [(.int (0 : Int32))])) _
    refine XS.ifNo X2.here hx rfl (hb hby d_jdk_42_method_149_code_5) rfl ((if0 _ _).trans (teq (by decide : ((0 : Int32) = (0 : Int32)))).2) ?_
    show Steps p.tables e below (T2.setTop (mkF m 8 #[.val (.ref x), .val (.ref b), .val (.int (0 : Int32)), .val (.int (0 : Int32)), .val .null, .unset] [])) _
    refine XS.aloadN X2.here hx rfl (hb hby d_jdk_42_method_149_code_8) rfl rfl ?_
    exact Steps.refl _)
  obtain ⟨a5, T5, h5, k5, t5, kb5, X5, e5, E5, hS5, hk5, hZ5, hown5, Ex5, Fc5, Fv5, Va5, la5, lb5, r5, -, -, st5⟩ := ldcCH X2 hx hZ hown (hw _ (List.mem_of_getElem? (i := 96) rfl)) hwS e2 hS0 (Nat.zero_le _) hEL (List.mem_of_getElem? (i := 0) rfl) R0.1 (vs := []) (z := 0) ⟨by simp, rfl⟩ (by decide) rfl (g := (mkF m 9 #[.val (.ref x), .val (.ref b), .val (.int (0 : Int32)), .val (.int (0 : Int32)), .val .null, .unset] [(.ref x)])) rfl (hb hby d_jdk_42_method_149_code_9) (n := 0) (by decide) (by decide) (by decide) (by decide)
  have c6 : Steps p.tables e below S0 (T5.setTop (mkF m 11 #[.val (.ref x), .val (.ref b), .val (.int (0 : Int32)), .val (.int (0 : Int32)), .val .null, .unset] [(.ref a5), (.ref x)])) := c4.trans (st5 _ (Steps.refl _))
  have z5 : n0 ≤ h5.size := Nat.le_trans Z0 E5.1
  have K5 := K0.ext E5
  have R5 := R0.trans r5
  obtain ⟨T7, X7, e7, st7⟩ := getF X5 hx hZ5 hown5 (host := "") (Or.inl (hw _ (List.mem_of_getElem? (i := 28) rfl))) Via.refl e5 Fv5 (g := (mkF m 11 #[.val (.ref x), .val (.ref b), .val (.int (0 : Int32)), .val (.int (0 : Int32)), .val .null, .unset] [(.ref a5), (.ref x)])) rfl rfl (hb hby d_jdk_42_method_149_code_11)
  have c8 : Steps p.tables e below S0 (T7.setTop (mkF m 14 #[.val (.ref x), .val (.ref b), .val (.int (0 : Int32)), .val (.int (0 : Int32)), .val .null, .unset] [(.ref t5), (.ref x)])) := c6.trans (st7 _ (Steps.refl _))
  obtain ⟨T9, h9, X9, e9, W9, st9⟩ := putF X7 hx hZ5 hown5 (host := "") (Or.inl (hw _ (List.mem_of_getElem? (i := 28) rfl))) Via.refl e7 (Fv.ext E5) (Ex.ext E5) (Or.inr ⟨(hw _ (List.mem_of_getElem? (i := 29) rfl)), rfl, hnm⟩) (hw _ (List.mem_of_getElem? (i := 2) rfl)) (ty := (.array .byte)) (by decide) rfl rfl (g := (mkF m 14 #[.val (.ref x), .val (.ref b), .val (.int (0 : Int32)), .val (.int (0 : Int32)), .val .null, .unset] [(.ref t5), (.ref x)])) rfl rfl (hb hby d_jdk_42_method_149_code_14)
  have c10 : Steps p.tables e below S0 (T9.setTop (mkF m 17 #[.val (.ref x), .val (.ref b), .val (.int (0 : Int32)), .val (.int (0 : Int32)), .val .null, .unset] [])) := c8.trans (st9 _ (Steps.refl _))
  have N9 := Fr.snoc X9 N0 g_x
  have Fw9 := (Fv.ext E5).same W9
  have z9 : n0 ≤ h9.size := Nat.le_trans z5 (Keep.of_wr W9).1
  have K9 := K5.wr W9 (Or.inl (by simp))
  have r9 : CHr Z EL T5.vm h5 T5.vm h9 := CHr.wr W9 (r5.safe Ex.lt (own_safe hZ.alike Ex Fv)) R5.1
  have R9 := R5.trans r9
  have c11 : Steps p.tables e below S0 (T9.setTop (mkF m 18 #[.val (.ref x), .val (.ref b), .val (.int (0 : Int32)), .val (.int (0 : Int32)), .val .null, .unset] [(.ref x)])) := c10.trans (by
    show Steps p.tables e below (T9.setTop (mkF m 17 #[.val (.ref x), .val (.ref b), .val (.int (0 : Int32)), .val (.int (0 : Int32)), .val .null, .unset] [])) _
    refine XS.aloadN X9.here hx rfl (hb hby d_jdk_42_method_149_code_17) rfl rfl ?_
    exact Steps.refl _)
  obtain ⟨a12, T12, h12, k12, t12, kb12, X12, e12, E12, hS12, hk12, hZ12, hown12, Ex12, Fc12, Fv12, Va12, la12, lb12, r12, -, -, st12⟩ := ldcCH X9 hx hZ5 hown5 (hw _ (List.mem_of_getElem? (i := 96) rfl)) hwS e9 hS5 (Nat.le_trans hk5 (Keep.of_wr W9).1) hEL (List.mem_of_getElem? (i := 0) rfl) R9.1 (vs := []) (z := 0) ⟨by simp, rfl⟩ (by decide) rfl (g := (mkF m 18 #[.val (.ref x), .val (.ref b), .val (.int (0 : Int32)), .val (.int (0 : Int32)), .val .null, .unset] [(.ref x)])) rfl (hb hby d_jdk_42_method_149_code_18) (n := 0) (by decide) (by decide) (by decide) (by decide)
  have c13 : Steps p.tables e below S0 (T12.setTop (mkF m 20 #[.val (.ref x), .val (.ref b), .val (.int (0 : Int32)), .val (.int (0 : Int32)), .val .null, .unset] [(.ref a12), (.ref x)])) := c11.trans (st12 _ (Steps.refl _))
  have z12 : n0 ≤ h12.size := Nat.le_trans z9 E12.1
  have K12 := K9.ext E12
  have R12 := R9.trans r12
  obtain ⟨T14, X14, e14, st14⟩ := getF X12 hx hZ12 hown12 (host := "") (Or.inl (hw _ (List.mem_of_getElem? (i := 26) rfl))) Via.refl e12 Fc12 (g := (mkF m 20 #[.val (.ref x), .val (.ref b), .val (.int (0 : Int32)), .val (.int (0 : Int32)), .val .null, .unset] [(.ref a12), (.ref x)])) rfl rfl (hb hby d_jdk_42_method_149_code_20)
  have c15 : Steps p.tables e below S0 (T14.setTop (mkF m 23 #[.val (.ref x), .val (.ref b), .val (.int (0 : Int32)), .val (.int (0 : Int32)), .val .null, .unset] [(.int (0 : Int32)), (.ref x)])) := c13.trans (st14 _ (Steps.refl _))
  obtain ⟨T16, h16, X16, e16, W16, st16⟩ := putFN X14 hx hZ12 hown12 (hw _ (List.mem_of_getElem? (i := 26) rfl)) Via.refl e14 (((Fc.ext E5).other W9 (Or.inr (slot_ne (Or.inr (hw _ (List.mem_of_getElem? (i := 27) rfl))) (Or.inr (hw _ (List.mem_of_getElem? (i := 29) rfl))) (by decide) (t := .byte) (t' := (.array .byte)) (by decide) (by decide)))).ext E12) (((Ex.ext E5).wr W9).ext E12) (Or.inr ⟨(hw _ (List.mem_of_getElem? (i := 27) rfl)), rfl, hnm⟩) (hw _ (List.mem_of_getElem? (i := 2) rfl)) (ty := .byte) (v' := (.int (0 : Int32))) (by decide) rfl rfl (g := (mkF m 23 #[.val (.ref x), .val (.ref b), .val (.int (0 : Int32)), .val (.int (0 : Int32)), .val .null, .unset] [(.int (0 : Int32)), (.ref x)])) rfl rfl (hb hby d_jdk_42_method_149_code_23)
  have c17 : Steps p.tables e below S0 (T16.setTop (mkF m 26 #[.val (.ref x), .val (.ref b), .val (.int (0 : Int32)), .val (.int (0 : Int32)), .val .null, .unset] [])) := c15.trans (st16 _ (Steps.refl _))
  have N16 := Fr.snoc X16 N9 g_x
  have Fw16 := (((Fc.ext E5).other W9 (Or.inr (slot_ne (Or.inr (hw _ (List.mem_of_getElem? (i := 27) rfl))) (Or.inr (hw _ (List.mem_of_getElem? (i := 29) rfl))) (by decide) (t := .byte) (t' := (.array .byte)) (by decide) (by decide)))).ext E12).same W16
  have z16 : n0 ≤ h16.size := Nat.le_trans z12 (Keep.of_wr W16).1
  have K16 := K12.wr W16 (Or.inl (by simp))
  have r16 : CHr Z EL T12.vm h12 T12.vm h16 := CHr.wr W16 (r12.safe (Nat.lt_of_lt_of_le Ex.lt (Nat.le_trans E5.1 (Keep.of_wr W9).1)) (r9.safe (Nat.lt_of_lt_of_le Ex.lt E5.1) (r5.safe Ex.lt (own_safe hZ.alike Ex Fv)))) R12.1
  have R16 := R12.trans r16
  obtain ⟨fs, hr, hrun, hended, hW⟩ := X16.leaveW hS12 (by rw [e16]; exact (Nat.le_trans hk12 (Keep.of_wr W16).1)) (v := none) (fun h => rfl)
  refine ⟨_, _, c17.trans (X16.returnOut hx Bd.returns (hb hby d_jdk_42_method_149_code_26) hr), hrun, hended, _, _, rfl, ?_, ?_, hW.1, hW.2.1, hW.2.2.1, hW.2.2.2.mono (by decide) (by decide)⟩
  · show QE Z x h0 n0 _ T16.heap _
    rw [e16]
    exact ⟨_, _, rfl, N16, K16, ((((Ex.ext E5).wr W9).ext E12).wr W16), ((Fw9.ext E12).other W16 (Or.inr (slot_ne (Or.inr (hw _ (List.mem_of_getElem? (i := 29) rfl))) (Or.inr (hw _ (List.mem_of_getElem? (i := 27) rfl))) (by decide) (t := (.array .byte)) (t' := .byte) (by decide) (by decide)))), Fw16, (((Va5.other W9 (Ne.symm (Exa.neArv (Ex.ext E5) Va5 (hw _ (List.mem_of_getElem? (i := 2) rfl))))).ext E12).other W16 (Ne.symm (Exa.neArv (Ex.ext E5) Va5 (hw _ (List.mem_of_getElem? (i := 2) rfl))))), own_al0, Nat.zero_le _⟩
  · show CHr Z EL s.vm s.heap T16.vm T16.heap
    rw [hh, e16]; exact R16.trans (CHv.at X16 hZ12 hEL R16.1)

theorem d_jdk_42_method_3_code_0 : decode jdk_42_method_3_code 0 = .ok (.aload_n 0, 1) := by decide +kernel
theorem d_jdk_42_method_3_code_1 : decode jdk_42_method_3_code 1 = .ok (.aload_n 1, 1) := by decide +kernel
theorem d_jdk_42_method_3_code_2 : decode jdk_42_method_3_code 2 = .ok (.iconst 0, 1) := by decide +kernel
theorem d_jdk_42_method_3_code_3 : decode jdk_42_method_3_code 3 = .ok (.aload_n 1, 1) := by decide +kernel
theorem d_jdk_42_method_3_code_4 : decode jdk_42_method_3_code 4 = .ok (.arraylength, 1) := by decide +kernel
theorem d_jdk_42_method_3_code_5 : decode jdk_42_method_3_code 5 = .ok (.aconst_null, 1) := by decide +kernel
theorem pd_oaCIILjavaslangsVoidecV : parseMethodDescriptor "([CIILjava/lang/Void;)V" = some ⟨[(.array .char), .int, .int, (.object "java/lang/Void")], none⟩ := by decide +kernel
theorem d_jdk_42_method_3_code_6 : decode jdk_42_method_3_code 6 = .ok (.invokespecial 27, 3) := by decide +kernel
theorem d_jdk_42_method_3_code_9 : decode jdk_42_method_3_code 9 = .ok (.return_, 1) := by decide +kernel
theorem ef_rmE1 (m : MethodId) (x0 : Addr) (x1 : Addr) : entryFrame m #[(.ref x0), (.ref x1)] 2 = mkF m 0 #[.val (.ref x0), .val (.ref x1)] [] := by first | (simp [entryFrame, mkF, argsToLocals, Value.category]; done) | rfl
set_option maxRecDepth 65536 in
set_option maxHeartbeats 40000000 in
theorem rmE1 (l : Launch) (Z : State) (a0 : Array Value) (hw : ∀ d ∈ tables_1, d.before a0 Z = true) (ws : List Jvm.Cond) (x b : Addr) (k : ClassId) (dv : Value) (h0 : Heap) (n0 : Nat) (Z0 : n0 ≤ h0.size) (g_x : n0 ≤ x) (Ex : Exa Z h0 x "java/lang/String") (Fv : Fld Z h0 x "java/lang/String" "value" "[B" .null) (Fc : Fld Z h0 x "java/lang/String" "coder" "B" (.int (0 : Int32))) (Vb : Arv Z h0 b k .char (0 : Int32) [] dv) :
    MetFree l (⟨"java/lang/String", "<init>", "([C)V"⟩ : MethodName) (head1 (Jvm.Cond.code (⟨"java/lang/String", "<init>", "([C)V"⟩ : MethodName) jdk_42_method_3_code 2 (none) :: ws) ({ frames := 2, cells := 4, slots := 8, locals := 29 } : Room)) (fun aa U => aa = #[(.ref x), (.ref b)] ∧ Z.Warmed39 U.vm ∧ U.heap = h0 ∧ CHv Z EL U.vm h0) (fun _ _ _ _ _ => True) (fun _ U o U' => ∃ v L, o = .returned v ∧ QE Z x h0 n0 v U'.heap L ∧ CHr Z EL U.vm U.heap U'.vm U'.heap ∧ ReturnedEndW U o U' L ({ frames := 2, cells := 4, slots := 8, locals := 29 } : Room).cells ({ frames := 2, cells := 4, slots := 8, locals := 29 } : Room).slots) := by
  refine MetFree.of_bodySF (plainFor_of_name pn_java_lang_String) hisR ?_
  intro p e s m args below meth c s₁ Bd hml0 hP hK
  obtain ⟨rfl, hZ, hh, hCH⟩ := hP
  have hx := Bd.exec
  have hby := Bd.bytes
  have hml : c.maxLocals = 2 := hml0
  have hown : s.vm.findClass "java/lang/String" = some m.cls := findClass_of_methodNamed Bd.named
  have hnm := (name_of_methodNamed Bd.named Bd.method).1
  have X0 : Stand p l e ({ frames := 2, cells := 4, slots := 8, locals := 29 } : Room) s m #[(.ref x), (.ref b)] below meth c s₁ [] 0 0 := Stand.of_body Bd
  have e0 : s₁.heap = h0 := by rw [← hh, Bd.state]; rfl
  have N0 := Fr.nil n0
  have K0 := Keep.refl h0 [x]
  obtain ⟨S0, hS0⟩ : ∃ z, z = s₁.setTop (entryFrame m #[(.ref x), (.ref b)] 2) := ⟨_, rfl⟩
  rw [← hS0]
  have c0 : Steps p.tables e below S0 (s₁.setTop (mkF m 0 #[.val (.ref x), .val (.ref b)] [])) := by
    rw [hS0]; exact castTop (ef_rmE1 m x b) (Steps.refl _)
  have X0 : Stand p l e ({ frames := 2, cells := 4, slots := 8, locals := 29 } : Room) (s.setVm s.vm) m #[(.ref x), (.ref b)] below meth c s₁ [] 0 0 := X0
  have hS0 : s.Since s.vm 0 := own_since s
  have R0 : CHr Z EL s.vm h0 s.vm h0 := CHr.refl hCH
  have hEL := own_EW hw
  have hwS := own_strw hw
  have c1 : Steps p.tables e below S0 (s₁.setTop (mkF m 4 #[.val (.ref x), .val (.ref b)] [(.ref b), (.int (0 : Int32)), (.ref b), (.ref x)])) := c0.trans (by
    show Steps p.tables e below (s₁.setTop (mkF m 0 #[.val (.ref x), .val (.ref b)] [])) _
    refine XS.aloadN X0.here hx rfl (hb hby d_jdk_42_method_3_code_0) rfl rfl ?_
    show Steps p.tables e below (s₁.setTop (mkF m 1 #[.val (.ref x), .val (.ref b)] [(.ref x)])) _
    refine XS.aloadN X0.here hx rfl (hb hby d_jdk_42_method_3_code_1) rfl rfl ?_
    show Steps p.tables e below (s₁.setTop (mkF m 2 #[.val (.ref x), .val (.ref b)] [(.ref b), (.ref x)])) _
    refine XS.iconst X0.here hx rfl (hb hby d_jdk_42_method_3_code_2) ?_
    show Steps p.tables e below (s₁.setTop (mkF m 3 #[.val (.ref x), .val (.ref b)] [(.int (0 : Int32)), (.ref b), (.ref x)])) _
    refine XS.aloadN X0.here hx rfl (hb hby d_jdk_42_method_3_code_3) rfl rfl ?_
    exact Steps.refl _)
  obtain ⟨cl2, Ar2, -, S2, Nn2, -, -⟩ := id Vb
  have c3 : Steps p.tables e below S0 (s₁.setTop (mkF m 6 #[.val (.ref x), .val (.ref b)] [.null, (.int (0 : Int32)), (.int (0 : Int32)), (.ref b), (.ref x)])) := c1.trans (by
    show Steps p.tables e below (s₁.setTop (mkF m 4 #[.val (.ref x), .val (.ref b)] [(.ref b), (.int (0 : Int32)), (.ref b), (.ref x)])) _
    refine X0.arraylength hx (by rw [e0]; exact Ar2.1) (State.isArrayOf_alike hZ.alike Ar2.2.1) (g := (mkF m 4 #[.val (.ref x), .val (.ref b)] [(.ref b), (.int (0 : Int32)), (.ref b), (.ref x)])) rfl rfl (hb hby d_jdk_42_method_3_code_4) _ ?_
    rw [len_of S2 Nn2]
    show Steps p.tables e below (s₁.setTop (mkF m 5 #[.val (.ref x), .val (.ref b)] [(.int (0 : Int32)), (.int (0 : Int32)), (.ref b), (.ref x)])) _
    refine XS.aconstNull X0.here hx rfl (hb hby d_jdk_42_method_3_code_5) ?_
    exact Steps.refl _)
  obtain ⟨_, _, ⟨T4, L4, kk4, nn4⟩, -, Xx4, hSx4, hgx4, ⟨Lc4, hQ4, l4, y4, z4, r4⟩, st4⟩ := X0.specialBackS hx (y := (⟨"java/lang/String", "<init>", "([CIILjava/lang/Void;)V"⟩ : MethodName)) rfl hown (mvT hZ (hw _ (List.mem_of_getElem? (i := 7) rfl))) (mvT hZ (hw _ (List.mem_of_getElem? (i := 8) rfl))) (mvT hZ (hw _ (List.mem_of_getElem? (i := 10) rfl))) (by decide) (backOfSH (W := 0) (rmE4 l Z a0 hw [] x b h0 n0 Z0 g_x Ex Fv Fc) hZ (hw _ (List.mem_of_getElem? (i := 10) rfl)) (hw _ (List.mem_of_getElem? (i := 3) rfl)) (by decide) (by decide) hEL R0.1) (g := (mkF m 6 #[.val (.ref x), .val (.ref b)] [.null, (.int (0 : Int32)), (.int (0 : Int32)), (.ref b), (.ref x)])) rfl (by rw [hml]; rfl) (Steps.refl _) (a := x) (argsL := [(.ref b), (.int (0 : Int32)), (.int (0 : Int32)), .null]) (rest := []) (lenOf pd_oaCIILjavaslangsVoidecV rfl) rfl (by show 2 * 0 + _ ≤ _; exact Nat.le_of_eq rfl) (hb hby d_jdk_42_method_3_code_6) (fun _ _ => ⟨rfl, e0, (by decide : 0 + 4 ≤ _), (by decide : 0 + 8 ≤ _)⟩)
  dsimp only [Pt.U, Pt.locs, Pt.cells, Pt.slots] at Xx4 hSx4 hgx4 l4 y4 z4 r4 st4 hQ4
  subst l4 y4 z4
  obtain ⟨X4, hS4, hZ4, hown4⟩ := rebS hS0 (Nat.zero_le _) Xx4 hSx4 (e0 ▸ hgx4) hZ hown
  obtain ⟨t4, kb4, rfl, Nq4, Kq4, So4⟩ := hQ4
  have c5 : Steps p.tables e below S0 (T4.setTop (mkF m 9 #[.val (.ref x), .val (.ref b)] [])) := c3.trans (st4)
  have N4 := Fr.app N0 Nq4
  have z4 : n0 ≤ T4.heap.size := Nat.le_trans Z0 Kq4.1
  have K4 := K0.trans Kq4 (allS (Or.inl (by simp)) all0)
  have R4 := R0.trans r4
  obtain ⟨fs, hr, hrun, hended, hW⟩ := X4.leaveW hS4 (Nat.le_refl _) (v := none) (fun h => rfl)
  refine ⟨_, _, c5.trans (X4.returnOut hx Bd.returns (hb hby d_jdk_42_method_3_code_9) hr), hrun, hended, _, _, rfl, ?_, ?_, hW.1, hW.2.1, hW.2.2.1, hW.2.2.2.mono (by decide) (by decide)⟩
  · show QE Z x h0 n0 _ T4.heap _
    exact ⟨_, _, rfl, N4, K4, So4⟩
  · show CHr Z EL s.vm s.heap T4.vm T4.heap
    rw [hh]; exact R4.trans (CHv.at X4 hZ4 hEL R4.1)

def QcanE (Z : State) (h0 : Heap) (n0 : Nat) (v : Option Value) (h : Heap) (L : List Loc) : Prop := v = some (.int 1) ∧ Fr n0 L ∧ h = h0

theorem d_jdk_43_method_3_code_0 : decode jdk_43_method_3_code 0 = .ok (.iload_n 0, 1) := by decide +kernel
theorem d_jdk_43_method_3_code_1 : decode jdk_43_method_3_code 1 = .ok (.sipush 255, 3) := by decide +kernel
theorem d_jdk_43_method_3_code_4 : decode jdk_43_method_3_code 4 = .ok (.if_icmp .gt 7, 3) := by decide +kernel
theorem d_jdk_43_method_3_code_7 : decode jdk_43_method_3_code 7 = .ok (.iconst 1, 1) := by decide +kernel
theorem d_jdk_43_method_3_code_8 : decode jdk_43_method_3_code 8 = .ok (.goto 4, 3) := by decide +kernel
theorem d_jdk_43_method_3_code_12 : decode jdk_43_method_3_code 12 = .ok (.ireturn, 1) := by decide +kernel
theorem pn_java_lang_StringLatin1 : plainName "java/lang/StringLatin1" = true := by first | (simp [plainName, overriddenIn]; done) | decide +kernel
theorem ef_rmCanE (m : MethodId) (x0 : Int32) : entryFrame m #[(.int x0)] 1 = mkF m 0 #[.val (.int x0)] [] := by first | (simp [entryFrame, mkF, argsToLocals, Value.category]; done) | rfl
set_option maxRecDepth 65536 in
set_option maxHeartbeats 40000000 in
theorem rmCanE (l : Launch) (Z : State) (a0 : Array Value) (hw : ∀ d ∈ tables_1, d.before a0 Z = true) (ws : List Jvm.Cond) (ch : Int32) (h0 : Heap) (n0 : Nat) (Z0 : n0 ≤ h0.size) (hc : C8 ch) :
    MetFree l (⟨"java/lang/StringLatin1", "canEncode", "(C)Z"⟩ : MethodName) (head1 (Jvm.Cond.code (⟨"java/lang/StringLatin1", "canEncode", "(C)Z"⟩ : MethodName) jdk_43_method_3_code 1 (some .boolean) :: ws) ({ frames := 0, cells := 0, slots := 0, locals := 0 } : Room)) (fun aa U => aa = #[(.int ch)] ∧ Z.Warmed39 U.vm ∧ U.heap = h0) (fun _ _ _ _ _ => True) (fun _ U o U' => ∃ v L, o = .returned v ∧ QcanE Z  h0 n0 v U'.heap L ∧ FrameEnd U o U' L ({ frames := 0, cells := 0, slots := 0, locals := 0 } : Room).cells ({ frames := 0, cells := 0, slots := 0, locals := 0 } : Room).slots) := by
  refine MetFree.of_bodySF (plainFor_of_name pn_java_lang_StringLatin1) hisR ?_
  intro p e s m args below meth c s₁ Bd hml0 hP hK
  obtain ⟨rfl, hZ, hh⟩ := hP
  have hx := Bd.exec
  have hby := Bd.bytes
  have hml : c.maxLocals = 1 := hml0
  have hown : s.vm.findClass "java/lang/StringLatin1" = some m.cls := findClass_of_methodNamed Bd.named
  have hnm := (name_of_methodNamed Bd.named Bd.method).1
  have X0 : Stand p l e ({ frames := 0, cells := 0, slots := 0, locals := 0 } : Room) s m #[(.int ch)] below meth c s₁ [] 0 0 := Stand.of_body Bd
  have e0 : s₁.heap = h0 := by rw [← hh, Bd.state]; rfl
  have N0 := Fr.nil n0
  have K0 := Keep.refl h0 []
  obtain ⟨S0, hS0⟩ : ∃ z, z = s₁.setTop (entryFrame m #[(.int ch)] 1) := ⟨_, rfl⟩
  rw [← hS0]
  have c0 : Steps p.tables e below S0 (s₁.setTop (mkF m 0 #[.val (.int ch)] [])) := by
    rw [hS0]; exact castTop (ef_rmCanE m ch) (Steps.refl _)
  have c1 : Steps p.tables e below S0 (s₁.setTop (mkF m 12 #[.val (.int ch)] [(.int (1 : Int32))])) := c0.trans (by
    show Steps p.tables e below (s₁.setTop (mkF m 0 #[.val (.int ch)] [])) _
    refine XS.iloadN X0.here hx rfl (hb hby d_jdk_43_method_3_code_0) rfl ?_
    show Steps p.tables e below (s₁.setTop (mkF m 1 #[.val (.int ch)] [(.int ch)])) _
    refine XS.sipush X0.here hx rfl (hb hby d_jdk_43_method_3_code_1) ?_
    show Steps p.tables e below (s₁.setTop (mkF m 4 #[.val (.int ch)] [(.int (255 : Int32)), (.int ch)])) _
    refine XS.icmpNo X0.here hx rfl (hb hby d_jdk_43_method_3_code_4) rfl (flt hc.2).2.2.1 ?_
    show Steps p.tables e below (s₁.setTop (mkF m 7 #[.val (.int ch)] [])) _
    refine XS.iconst X0.here hx rfl (hb hby d_jdk_43_method_3_code_7) ?_
    show Steps p.tables e below (s₁.setTop (mkF m 8 #[.val (.int ch)] [(.int (1 : Int32))])) _
    refine XS.goto X0.here hx rfl (pc0 := 8) (pc' := 12) rfl (hb hby d_jdk_43_method_3_code_8) (by decide) (by decide) ?_
    exact Steps.refl _)
  obtain ⟨fs, hr, hrun, hended, hW, hsame⟩ := X0.leave (v := some (.int (1 : Int32))) (fun h => by rw [Bd.returns] at h; cases h)
  refine ⟨_, _, c1.trans (retOut X0 hx Bd.returns rfl (Or.inl ⟨rfl, by simp, _, rfl⟩) (hb hby d_jdk_43_method_3_code_12) hr), hrun, hended, _, _, rfl, ?_, ⟨_, rfl⟩, hW, hsame.mono (by decide) (by decide)⟩
  show QcanE Z  h0 n0 _ s₁.heap _
  rw [e0]
  exact ⟨rfl, N0, rfl⟩

def QtoB (Z : State) (c : Int32) (h0 : Heap) (n0 : Nat) (v : Option Value) (h : Heap) (L : List Loc) : Prop := ∃ (t : Addr) (kb : ClassId), v = some (.ref t) ∧ Fr n0 L ∧ Keep h0 h [] ∧ h0.size ≤ t ∧ Arv Z h t kb .byte (1 : Int32) [.int c.toInt8.toInt32] (.int 0)

theorem d_jdk_43_method_46_code_0 : decode jdk_43_method_46_code 0 = .ok (.iconst 1, 1) := by decide +kernel
theorem d_jdk_43_method_46_code_1 : decode jdk_43_method_46_code 1 = .ok (.newarray .byte, 2) := by decide +kernel
theorem d_jdk_43_method_46_code_3 : decode jdk_43_method_46_code 3 = .ok (.dup, 1) := by decide +kernel
theorem d_jdk_43_method_46_code_4 : decode jdk_43_method_46_code 4 = .ok (.iconst 0, 1) := by decide +kernel
theorem d_jdk_43_method_46_code_5 : decode jdk_43_method_46_code 5 = .ok (.iload_n 0, 1) := by decide +kernel
theorem d_jdk_43_method_46_code_6 : decode jdk_43_method_46_code 6 = .ok (.i2b, 1) := by decide +kernel
theorem d_jdk_43_method_46_code_7 : decode jdk_43_method_46_code 7 = .ok (.bastore, 1) := by decide +kernel
theorem d_jdk_43_method_46_code_8 : decode jdk_43_method_46_code 8 = .ok (.areturn, 1) := by decide +kernel
theorem ef_rmToB (m : MethodId) (x0 : Int32) : entryFrame m #[(.int x0)] 1 = mkF m 0 #[.val (.int x0)] [] := by first | (simp [entryFrame, mkF, argsToLocals, Value.category]; done) | rfl
set_option maxRecDepth 65536 in
set_option maxHeartbeats 40000000 in
theorem rmToB (l : Launch) (Z : State) (a0 : Array Value) (hw : ∀ d ∈ tables_1, d.before a0 Z = true) (ws : List Jvm.Cond) (ch : Int32) (h0 : Heap) (n0 : Nat) (Z0 : n0 ≤ h0.size)  :
    MetFree l (⟨"java/lang/StringLatin1", "toBytes", "(C)[B"⟩ : MethodName) (head1 (Jvm.Cond.code (⟨"java/lang/StringLatin1", "toBytes", "(C)[B"⟩ : MethodName) jdk_43_method_46_code 1 (some (.array .byte)) :: ws) ({ frames := 0, cells := 1, slots := 1, locals := 0 } : Room)) (fun aa U => aa = #[(.int ch)] ∧ Z.Warmed39 U.vm ∧ U.heap = h0) (fun _ _ _ _ _ => True) (fun _ U o U' => ∃ v L, o = .returned v ∧ QtoB Z ch h0 n0 v U'.heap L ∧ FrameEnd U o U' L ({ frames := 0, cells := 1, slots := 1, locals := 0 } : Room).cells ({ frames := 0, cells := 1, slots := 1, locals := 0 } : Room).slots) := by
  refine MetFree.of_bodySF (plainFor_of_name pn_java_lang_StringLatin1) hisR ?_
  intro p e s m args below meth c s₁ Bd hml0 hP hK
  obtain ⟨rfl, hZ, hh⟩ := hP
  have hx := Bd.exec
  have hby := Bd.bytes
  have hml : c.maxLocals = 1 := hml0
  have hown : s.vm.findClass "java/lang/StringLatin1" = some m.cls := findClass_of_methodNamed Bd.named
  have hnm := (name_of_methodNamed Bd.named Bd.method).1
  have X0 : Stand p l e ({ frames := 0, cells := 1, slots := 1, locals := 0 } : Room) s m #[(.int ch)] below meth c s₁ [] 0 0 := Stand.of_body Bd
  have e0 : s₁.heap = h0 := by rw [← hh, Bd.state]; rfl
  have N0 := Fr.nil n0
  have K0 := Keep.refl h0 []
  obtain ⟨S0, hS0⟩ : ∃ z, z = s₁.setTop (entryFrame m #[(.int ch)] 1) := ⟨_, rfl⟩
  rw [← hS0]
  have c0 : Steps p.tables e below S0 (s₁.setTop (mkF m 0 #[.val (.int ch)] [])) := by
    rw [hS0]; exact castTop (ef_rmToB m ch) (Steps.refl _)
  have c1 : Steps p.tables e below S0 (s₁.setTop (mkF m 1 #[.val (.int ch)] [(.int (1 : Int32))])) := c0.trans (by
    show Steps p.tables e below (s₁.setTop (mkF m 0 #[.val (.int ch)] [])) _
    refine XS.iconst X0.here hx rfl (hb hby d_jdk_43_method_46_code_0) ?_
    exact Steps.refl _)
  obtain ⟨T2, h2, k2, X2, e2, E2, A2, st2⟩ := newP X0 hx hZ (hw _ (List.mem_of_getElem? (i := 19) rfl)) e0 (g := (mkF m 1 #[.val (.int ch)] [(.int (1 : Int32))])) rfl (hb hby d_jdk_43_method_46_code_1) rfl (by decide) (cap := 1) (by decide) (by decide) (by decide) (by decide)
  obtain ⟨b2, g2⟩ : ∃ z, z = h0.size := ⟨_, rfl⟩
  rw [← g2] at A2 st2
  have c3 : Steps p.tables e below S0 (T2.setTop (mkF m 3 #[.val (.int ch)] [(.ref b2)])) := c1.trans (st2 _ (Steps.refl _))
  have z2 : n0 ≤ h2.size := Nat.le_trans Z0 E2.1
  have K2 := K0.ext E2
  have V2 : Arv Z h2 b2 k2 .byte (1 : Int32) [(.int (0 : Int32))] (.int (0 : Int32)) := (Arv.new A2 (by decide)).pad (pad_rep [] (.int (0 : Int32)) 1)
  have lt_b2 : b2 < h2.size := V2.lt
  have c4 : Steps p.tables e below S0 (T2.setTop (mkF m 7 #[.val (.int ch)] [(.int (ch.toInt8.toInt32)), (.int (0 : Int32)), (.ref b2), (.ref b2)])) := c3.trans (by
    show Steps p.tables e below (T2.setTop (mkF m 3 #[.val (.int ch)] [(.ref b2)])) _
    refine XS.dup X2.here hx rfl (hb hby d_jdk_43_method_46_code_3) rfl rfl ?_
    show Steps p.tables e below (T2.setTop (mkF m 4 #[.val (.int ch)] [(.ref b2), (.ref b2)])) _
    refine XS.iconst X2.here hx rfl (hb hby d_jdk_43_method_46_code_4) ?_
    show Steps p.tables e below (T2.setTop (mkF m 5 #[.val (.int ch)] [(.int (0 : Int32)), (.ref b2), (.ref b2)])) _
    refine XS.iloadN X2.here hx rfl (hb hby d_jdk_43_method_46_code_5) rfl ?_
    show Steps p.tables e below (T2.setTop (mkF m 6 #[.val (.int ch)] [(.int ch), (.int (0 : Int32)), (.ref b2), (.ref b2)])) _
    refine XS.i2b X2.here hx rfl (hb hby d_jdk_43_method_46_code_6) rfl ?_
    exact Steps.refl _)
  obtain ⟨cl5, Ar5, q5, S5, Nn5, Ha5, G5⟩ := id V2
  obtain ⟨T5, h5, X5, e5, W5, st5⟩ := stB X2 hx hZ e2 Ar5 (j := (0 : Int32)) (inb_of S5 ⟨by decide, by decide⟩) (g := (mkF m 7 #[.val (.int ch)] [(.int (ch.toInt8.toInt32)), (.int (0 : Int32)), (.ref b2), (.ref b2)])) rfl rfl (hb hby d_jdk_43_method_46_code_7)
  have V5 : Arv Z h5 b2 k2 .byte (1 : Int32) [(.int ((ch.toInt8.toInt32).toInt8.toInt32))] (.int (0 : Int32)) := Arv.set Ar5 q5 S5 Nn5 Ha5 G5 (fits_nar_byte _) W5 0 rfl (Nat.le_of_ble_eq_true rfl)
  have c6 : Steps p.tables e below S0 (T5.setTop (mkF m 8 #[.val (.int ch)] [(.ref b2)])) := c4.trans (st5 _ (Steps.refl _))
  have N5 := Fr.snoc X5 N0 (Nat.le_trans Z0 (Nat.le_trans K0.1 (Nat.le_of_eq g2.symm)))
  have z5 : n0 ≤ h5.size := Nat.le_trans z2 (Keep.of_wr W5).1
  have K5 := K2.wr W5 (Or.inr (Nat.le_trans K0.1 (Nat.le_of_eq g2.symm)))
  obtain ⟨fs, hr, hrun, hended, hW, hsame⟩ := X5.leave (v := some (.ref b2)) (fun h => by rw [Bd.returns] at h; cases h)
  refine ⟨_, _, c6.trans (retOut X5 hx Bd.returns rfl (Or.inr (Or.inr (Or.inr (Or.inr ⟨rfl, rfl, rfl⟩)))) (hb hby d_jdk_43_method_46_code_8) hr), hrun, hended, _, _, rfl, ?_, ⟨_, rfl⟩, hW, hsame.mono (by decide) (by decide)⟩
  show QtoB Z ch h0 n0 _ T5.heap _
  rw [e5]
  exact ⟨_, _, rfl, N5, K5, (Nat.le_trans K0.1 (Nat.le_of_eq g2.symm)), own_b8 ch ▸ V5⟩

def QiBB (Z : State) (x t : Addr) (h0 : Heap) (n0 : Nat) (v : Option Value) (h : Heap) (L : List Loc) : Prop := v = none ∧ Fr n0 L ∧ Keep h0 h [x] ∧ Exa Z h x "java/lang/String" ∧ Fld Z h x "java/lang/String" "value" "[B" (.ref t) ∧ Fld Z h x "java/lang/String" "coder" "B" (.int 0)

theorem d_jdk_42_method_151_code_0 : decode jdk_42_method_151_code 0 = .ok (.aload_n 0, 1) := by decide +kernel
theorem d_jdk_42_method_151_code_1 : decode jdk_42_method_151_code 1 = .ok (.invokespecial 1, 3) := by decide +kernel
theorem d_jdk_42_method_151_code_4 : decode jdk_42_method_151_code 4 = .ok (.aload_n 0, 1) := by decide +kernel
theorem d_jdk_42_method_151_code_5 : decode jdk_42_method_151_code 5 = .ok (.aload_n 1, 1) := by decide +kernel
theorem d_jdk_42_method_151_code_6 : decode jdk_42_method_151_code 6 = .ok (.putfield 9, 3) := by decide +kernel
theorem d_jdk_42_method_151_code_9 : decode jdk_42_method_151_code 9 = .ok (.aload_n 0, 1) := by decide +kernel
theorem d_jdk_42_method_151_code_10 : decode jdk_42_method_151_code 10 = .ok (.iload_n 2, 1) := by decide +kernel
theorem d_jdk_42_method_151_code_11 : decode jdk_42_method_151_code 11 = .ok (.putfield 15, 3) := by decide +kernel
theorem d_jdk_42_method_151_code_14 : decode jdk_42_method_151_code 14 = .ok (.return_, 1) := by decide +kernel
theorem ef_rmIBB (m : MethodId) (x0 : Addr) (x1 : Addr) (x2 : Int32) : entryFrame m #[(.ref x0), (.ref x1), (.int x2)] 3 = mkF m 0 #[.val (.ref x0), .val (.ref x1), .val (.int x2)] [] := by first | (simp [entryFrame, mkF, argsToLocals, Value.category]; done) | rfl
set_option maxRecDepth 65536 in
set_option maxHeartbeats 40000000 in
theorem rmIBB (l : Launch) (Z : State) (a0 : Array Value) (hw : ∀ d ∈ tables_1, d.before a0 Z = true) (ws : List Jvm.Cond) (x t : Addr) (v0 c0 : Value) (h0 : Heap) (n0 : Nat) (Z0 : n0 ≤ h0.size) (g_x : n0 ≤ x) (Ex : Exa Z h0 x "java/lang/String") (Fv : Fld Z h0 x "java/lang/String" "value" "[B" v0) (Fc : Fld Z h0 x "java/lang/String" "coder" "B" c0) :
    MetFree l (⟨"java/lang/String", "<init>", "([BB)V"⟩ : MethodName) (head1 (Jvm.Cond.code (⟨"java/lang/String", "<init>", "([BB)V"⟩ : MethodName) jdk_42_method_151_code 3 (none) :: ws) ({ frames := 1, cells := 0, slots := 0, locals := 12 } : Room)) (fun aa U => aa = #[(.ref x), (.ref t), (.int (0 : Int32))] ∧ Z.Warmed39 U.vm ∧ U.heap = h0) (fun _ _ _ _ _ => True) (fun _ U o U' => ∃ v L, o = .returned v ∧ QiBB Z x t h0 n0 v U'.heap L ∧ FrameEnd U o U' L ({ frames := 1, cells := 0, slots := 0, locals := 12 } : Room).cells ({ frames := 1, cells := 0, slots := 0, locals := 12 } : Room).slots) := by
  refine MetFree.of_bodySF (plainFor_of_name pn_java_lang_String) hisR ?_
  intro p e s m args below meth c s₁ Bd hml0 hP hK
  obtain ⟨rfl, hZ, hh⟩ := hP
  have hx := Bd.exec
  have hby := Bd.bytes
  have hml : c.maxLocals = 3 := hml0
  have hown : s.vm.findClass "java/lang/String" = some m.cls := findClass_of_methodNamed Bd.named
  have hnm := (name_of_methodNamed Bd.named Bd.method).1
  have X0 : Stand p l e ({ frames := 1, cells := 0, slots := 0, locals := 12 } : Room) s m #[(.ref x), (.ref t), (.int (0 : Int32))] below meth c s₁ [] 0 0 := Stand.of_body Bd
  have e0 : s₁.heap = h0 := by rw [← hh, Bd.state]; rfl
  have N0 := Fr.nil n0
  have K0 := Keep.refl h0 [x]
  obtain ⟨S0, hS0⟩ : ∃ z, z = s₁.setTop (entryFrame m #[(.ref x), (.ref t), (.int (0 : Int32))] 3) := ⟨_, rfl⟩
  rw [← hS0]
  have c0 : Steps p.tables e below S0 (s₁.setTop (mkF m 0 #[.val (.ref x), .val (.ref t), .val (.int (0 : Int32))] [])) := by
    rw [hS0]; exact castTop (ef_rmIBB m x t (0 : Int32)) (Steps.refl _)
  have c1 : Steps p.tables e below S0 (s₁.setTop (mkF m 1 #[.val (.ref x), .val (.ref t), .val (.int (0 : Int32))] [(.ref x)])) := c0.trans (by
    show Steps p.tables e below (s₁.setTop (mkF m 0 #[.val (.ref x), .val (.ref t), .val (.int (0 : Int32))] [])) _
    refine XS.aloadN X0.here hx rfl (hb hby d_jdk_42_method_151_code_0) rfl rfl ?_
    exact Steps.refl _)
  obtain ⟨T2, X2, e2, st2⟩ := initO X0 hx hZ hown (hw _ (List.mem_of_getElem? (i := 11) rfl)) (hw _ (List.mem_of_getElem? (i := 12) rfl)) (hw _ (List.mem_of_getElem? (i := 13) rfl)) e0 (g := (mkF m 1 #[.val (.ref x), .val (.ref t), .val (.int (0 : Int32))] [(.ref x)])) rfl (by rw [hml]; rfl) rfl (hb hby d_jdk_42_method_151_code_1) (by decide) (W := 0) (by show 2 * 0 + _ ≤ _; exact Nat.le_of_eq rfl) (by decide)
  have c3 : Steps p.tables e below S0 (T2.setTop (mkF m 4 #[.val (.ref x), .val (.ref t), .val (.int (0 : Int32))] [])) := c1.trans (st2 _ (Steps.refl _))
  have c4 : Steps p.tables e below S0 (T2.setTop (mkF m 6 #[.val (.ref x), .val (.ref t), .val (.int (0 : Int32))] [(.ref t), (.ref x)])) := c3.trans (by
    show Steps p.tables e below (T2.setTop (mkF m 4 #[.val (.ref x), .val (.ref t), .val (.int (0 : Int32))] [])) _
    refine XS.aloadN X2.here hx rfl (hb hby d_jdk_42_method_151_code_4) rfl rfl ?_
    show Steps p.tables e below (T2.setTop (mkF m 5 #[.val (.ref x), .val (.ref t), .val (.int (0 : Int32))] [(.ref x)])) _
    refine XS.aloadN X2.here hx rfl (hb hby d_jdk_42_method_151_code_5) rfl rfl ?_
    exact Steps.refl _)
  obtain ⟨T5, h5, X5, e5, W5, st5⟩ := putF X2 hx hZ hown (host := "") (Or.inl (hw _ (List.mem_of_getElem? (i := 28) rfl))) Via.refl e2 Fv Ex (Or.inr ⟨(hw _ (List.mem_of_getElem? (i := 29) rfl)), rfl, hnm⟩) (hw _ (List.mem_of_getElem? (i := 2) rfl)) (ty := (.array .byte)) (by decide) rfl rfl (g := (mkF m 6 #[.val (.ref x), .val (.ref t), .val (.int (0 : Int32))] [(.ref t), (.ref x)])) rfl rfl (hb hby d_jdk_42_method_151_code_6)
  have c6 : Steps p.tables e below S0 (T5.setTop (mkF m 9 #[.val (.ref x), .val (.ref t), .val (.int (0 : Int32))] [])) := c4.trans (st5 _ (Steps.refl _))
  have N5 := Fr.snoc X5 N0 g_x
  have Fw5 := Fv.same W5
  have z5 : n0 ≤ h5.size := Nat.le_trans Z0 (Keep.of_wr W5).1
  have K5 := K0.wr W5 (Or.inl (by simp))
  have c7 : Steps p.tables e below S0 (T5.setTop (mkF m 11 #[.val (.ref x), .val (.ref t), .val (.int (0 : Int32))] [(.int (0 : Int32)), (.ref x)])) := c6.trans (by
    show Steps p.tables e below (T5.setTop (mkF m 9 #[.val (.ref x), .val (.ref t), .val (.int (0 : Int32))] [])) _
    refine XS.aloadN X5.here hx rfl (hb hby d_jdk_42_method_151_code_9) rfl rfl ?_
    show Steps p.tables e below (T5.setTop (mkF m 10 #[.val (.ref x), .val (.ref t), .val (.int (0 : Int32))] [(.ref x)])) _
    refine XS.iloadN X5.here hx rfl (hb hby d_jdk_42_method_151_code_10) rfl ?_
    exact Steps.refl _)
  obtain ⟨T8, h8, X8, e8, W8, st8⟩ := putFN X5 hx hZ hown (hw _ (List.mem_of_getElem? (i := 26) rfl)) Via.refl e5 (Fc.other W5 (Or.inr (slot_ne (Or.inr (hw _ (List.mem_of_getElem? (i := 27) rfl))) (Or.inr (hw _ (List.mem_of_getElem? (i := 29) rfl))) (by decide) (t := .byte) (t' := (.array .byte)) (by decide) (by decide)))) (Ex.wr W5) (Or.inr ⟨(hw _ (List.mem_of_getElem? (i := 27) rfl)), rfl, hnm⟩) (hw _ (List.mem_of_getElem? (i := 2) rfl)) (ty := .byte) (v' := (.int (0 : Int32))) (by decide) rfl rfl (g := (mkF m 11 #[.val (.ref x), .val (.ref t), .val (.int (0 : Int32))] [(.int (0 : Int32)), (.ref x)])) rfl rfl (hb hby d_jdk_42_method_151_code_11)
  have c9 : Steps p.tables e below S0 (T8.setTop (mkF m 14 #[.val (.ref x), .val (.ref t), .val (.int (0 : Int32))] [])) := c7.trans (st8 _ (Steps.refl _))
  have N8 := Fr.snoc X8 N5 g_x
  have Fw8 := (Fc.other W5 (Or.inr (slot_ne (Or.inr (hw _ (List.mem_of_getElem? (i := 27) rfl))) (Or.inr (hw _ (List.mem_of_getElem? (i := 29) rfl))) (by decide) (t := .byte) (t' := (.array .byte)) (by decide) (by decide)))).same W8
  have z8 : n0 ≤ h8.size := Nat.le_trans z5 (Keep.of_wr W8).1
  have K8 := K5.wr W8 (Or.inl (by simp))
  obtain ⟨fs, hr, hrun, hended, hW, hsame⟩ := X8.leave (v := none) (fun h => rfl)
  refine ⟨_, _, c9.trans (X8.returnOut hx Bd.returns (hb hby d_jdk_42_method_151_code_14) hr), hrun, hended, _, _, rfl, ?_, ⟨_, rfl⟩, hW, hsame.mono (by decide) (by decide)⟩
  show QiBB Z x t h0 n0 _ T8.heap _
  rw [e8]
  exact ⟨rfl, N8, K8, ((Ex.wr W5).wr W8), (Fw5.other W8 (Or.inr (slot_ne (Or.inr (hw _ (List.mem_of_getElem? (i := 29) rfl))) (Or.inr (hw _ (List.mem_of_getElem? (i := 27) rfl))) (by decide) (t := (.array .byte)) (t' := .byte) (by decide) (by decide)))), Fw8⟩

def QvalC (Z : State) (c : Int32) (h0 : Heap) (n0 : Nat) (v : Option Value) (h : Heap) (L : List Loc) : Prop := ∃ (x t : Addr) (kb : ClassId), v = some (.ref x) ∧ Fr n0 L ∧ Keep h0 h [] ∧ h0.size ≤ x ∧ h0.size ≤ t ∧ OStr Z h x t kb [c]

theorem d_jdk_42_method_139_code_0 : decode jdk_42_method_139_code 0 = .ok (.getstatic 38, 3) := by decide +kernel
theorem d_jdk_42_method_139_code_3 : decode jdk_42_method_139_code 3 = .ok (.ifCond .eq 23, 3) := by decide +kernel
theorem d_jdk_42_method_139_code_6 : decode jdk_42_method_139_code 6 = .ok (.iload_n 0, 1) := by decide +kernel
theorem pd_oCcZ : parseMethodDescriptor "(C)Z" = some ⟨[.char], some .boolean⟩ := by decide +kernel
theorem d_jdk_42_method_139_code_7 : decode jdk_42_method_139_code 7 = .ok (.invokestatic 1015, 3) := by decide +kernel
theorem d_jdk_42_method_139_code_10 : decode jdk_42_method_139_code 10 = .ok (.ifCond .eq 16, 3) := by decide +kernel
theorem d_jdk_42_method_139_code_13 : decode jdk_42_method_139_code 13 = .ok (.new 10, 3) := by decide +kernel
theorem d_jdk_42_method_139_code_16 : decode jdk_42_method_139_code 16 = .ok (.dup, 1) := by decide +kernel
theorem d_jdk_42_method_139_code_17 : decode jdk_42_method_139_code 17 = .ok (.iload_n 0, 1) := by decide +kernel
theorem pd_oCcaB : parseMethodDescriptor "(C)[B" = some ⟨[.char], some (.array .byte)⟩ := by decide +kernel
theorem d_jdk_42_method_139_code_18 : decode jdk_42_method_139_code 18 = .ok (.invokestatic 1018, 3) := by decide +kernel
theorem d_jdk_42_method_139_code_21 : decode jdk_42_method_139_code 21 = .ok (.iconst 0, 1) := by decide +kernel
theorem pd_oaBBcV : parseMethodDescriptor "([BB)V" = some ⟨[(.array .byte), .byte], none⟩ := by decide +kernel
theorem d_jdk_42_method_139_code_22 : decode jdk_42_method_139_code 22 = .ok (.invokespecial 209, 3) := by decide +kernel
theorem d_jdk_42_method_139_code_25 : decode jdk_42_method_139_code 25 = .ok (.areturn, 1) := by decide +kernel
theorem ef_rmValC (m : MethodId) (x0 : Int32) : entryFrame m #[(.int x0)] 1 = mkF m 0 #[.val (.int x0)] [] := by first | (simp [entryFrame, mkF, argsToLocals, Value.category]; done) | rfl
set_option maxRecDepth 65536 in
set_option maxHeartbeats 40000000 in
theorem rmValC (l : Launch) (Z : State) (a0 : Array Value) (hw : ∀ d ∈ tables_1, d.before a0 Z = true) (ws : List Jvm.Cond) (ch : Int32) (G1 : Int32) (h0 : Heap) (n0 : Nat) (Z0 : n0 ≤ h0.size) (hc : C8 ch) (O2 : Sta Z Z.heap "java/lang/String" "COMPACT_STRINGS" "Z" (.int G1)) (P5 : ¬ G1 = 0) (X00 : Old Z n0 h0) :
    MetFree l (⟨"java/lang/String", "valueOf", "(C)Ljava/lang/String;"⟩ : MethodName) (head1 (Jvm.Cond.code (⟨"java/lang/String", "valueOf", "(C)Ljava/lang/String;"⟩ : MethodName) jdk_42_method_139_code 1 (some (.object "java/lang/String")) :: ws) ({ frames := 2, cells := 2, slots := 5, locals := 27 } : Room)) (fun aa U => aa = #[(.int ch)] ∧ Z.Warmed39 U.vm ∧ U.heap = h0) (fun _ _ _ _ _ => True) (fun _ U o U' => ∃ v L, o = .returned v ∧ QvalC Z ch h0 n0 v U'.heap L ∧ FrameEnd U o U' L ({ frames := 2, cells := 2, slots := 5, locals := 27 } : Room).cells ({ frames := 2, cells := 2, slots := 5, locals := 27 } : Room).slots) := by
  refine MetFree.of_bodySF (plainFor_of_name pn_java_lang_String) hisR ?_
  intro p e s m args below meth c s₁ Bd hml0 hP hK
  obtain ⟨rfl, hZ, hh⟩ := hP
  have hx := Bd.exec
  have hby := Bd.bytes
  have hml : c.maxLocals = 1 := hml0
  have hown : s.vm.findClass "java/lang/String" = some m.cls := findClass_of_methodNamed Bd.named
  have hnm := (name_of_methodNamed Bd.named Bd.method).1
  have X0 : Stand p l e ({ frames := 2, cells := 2, slots := 5, locals := 27 } : Room) s m #[(.int ch)] below meth c s₁ [] 0 0 := Stand.of_body Bd
  have e0 : s₁.heap = h0 := by rw [← hh, Bd.state]; rfl
  have N0 := Fr.nil n0
  have K0 := Keep.refl h0 []
  obtain ⟨S0, hS0⟩ : ∃ z, z = s₁.setTop (entryFrame m #[(.int ch)] 1) := ⟨_, rfl⟩
  rw [← hS0]
  have c0 : Steps p.tables e below S0 (s₁.setTop (mkF m 0 #[.val (.int ch)] [])) := by
    rw [hS0]; exact castTop (ef_rmValC m ch) (Steps.refl _)
  obtain ⟨T1, X1, e1, st1⟩ := getS2 X0 hx hZ hown (host := "") (Or.inl (hw _ (List.mem_of_getElem? (i := 14) rfl))) Via.refl e0 (O2.ext X00.2) (g := (mkF m 0 #[.val (.int ch)] [])) rfl (hb hby d_jdk_42_method_139_code_0)
  have c2 : Steps p.tables e below S0 (T1.setTop (mkF m 3 #[.val (.int ch)] [(.int G1)])) := c0.trans (st1 _ (Steps.refl _))
  have c3 : Steps p.tables e below S0 (T1.setTop (mkF m 7 #[.val (.int ch)] [(.int ch)])) := c2.trans (by
    show Steps p.tables e below (T1.setTop (mkF m 3 #[.val (.int ch)] [(.int G1)])) _
    refine XS.ifNo X1.here hx rfl (hb hby d_jdk_42_method_139_code_3) rfl ((if0 _ _).trans (feq P5).1) ?_
    show Steps p.tables e below (T1.setTop (mkF m 6 #[.val (.int ch)] [])) _
    refine XS.iloadN X1.here hx rfl (hb hby d_jdk_42_method_139_code_6) rfl ?_
    exact Steps.refl _)
  obtain ⟨_, _, ⟨T4, L4, kk4, nn4⟩, -, X4, ⟨Lc4, hQ4, l4, y4, z4⟩, st4⟩ := Jvm.LawKit.callS X1 hx (y := (⟨"java/lang/StringLatin1", "canEncode", "(C)Z"⟩ : MethodName)) hown (mvT hZ (hw _ (List.mem_of_getElem? (i := 33) rfl))) (mvT hZ (hw _ (List.mem_of_getElem? (i := 34) rfl))) (mvT hZ (hw _ (List.mem_of_getElem? (i := 35) rfl))) (mvT hZ (hw _ (List.mem_of_getElem? (i := 36) rfl))) (by decide) (backOf (W := 0) (rmCanE l Z a0 hw [] ch h0 n0 Z0 hc) hZ (hw _ (List.mem_of_getElem? (i := 36) rfl)) (hw _ (List.mem_of_getElem? (i := 35) rfl)) (by decide) (by decide)) (g := (mkF m 7 #[.val (.int ch)] [(.int ch)])) rfl (by rw [hml]; rfl) (argsL := [(.int ch)]) (rest := []) (lenOf pd_oCcZ rfl) rfl (by show 2 * 0 + _ ≤ _; exact Nat.le_of_eq rfl) (hb hby d_jdk_42_method_139_code_7) (fun _ _ => ⟨rfl, e1, (by decide : 0 + 0 ≤ _), (by decide : 0 + 0 ≤ _)⟩)
  dsimp only [Pt.U, Pt.locs, Pt.cells, Pt.slots] at X4 l4 y4 z4 st4 hQ4
  subst l4 y4 z4
  obtain ⟨rfl, Nq4, eq4⟩ := hQ4
  have c5 : Steps p.tables e below S0 (T4.setTop (mkF m 10 #[.val (.int ch)] [(.int (1 : Int32))])) := c3.trans (st4 _ (Steps.refl _))
  have N4 := Fr.app N0 Nq4
  have c6 : Steps p.tables e below S0 (T4.setTop (mkF m 13 #[.val (.int ch)] [])) := c5.trans (by
    show Steps p.tables e below (T4.setTop (mkF m 10 #[.val (.int ch)] [(.int (1 : Int32))])) _
    refine XS.ifNo X4.here hx rfl (hb hby d_jdk_42_method_139_code_10) rfl ((if0 _ _).trans (feq (by decide : ¬ (1 : Int32) = 0)).1) ?_
    exact Steps.refl _)
  obtain ⟨T7, h7, X7, e7, E7, A7, D7, -, st7⟩ := newO X4 hx hZ hown (hw _ (List.mem_of_getElem? (i := 37) rfl)) (hw _ (List.mem_of_getElem? (i := 2) rfl)) (hw _ (List.mem_of_getElem? (i := 3) rfl)) eq4 (g := (mkF m 13 #[.val (.int ch)] [])) rfl (hb hby d_jdk_42_method_139_code_13) (by decide) (by decide)
  obtain ⟨b7, g7⟩ : ∃ z, z = h0.size := ⟨_, rfl⟩
  rw [← g7] at A7 D7 st7
  have c8 : Steps p.tables e below S0 (T7.setTop (mkF m 16 #[.val (.int ch)] [(.ref b7)])) := c6.trans (st7 _ (Steps.refl _))
  have z7 : n0 ≤ h7.size := Nat.le_trans Z0 E7.1
  have K7 := K0.ext E7
  have lt_b7 : b7 < h7.size := A7.lt
  have F7_coder : Fld Z h7 b7 "java/lang/String" "coder" "B" (.int (0 : Int32)) := D7 (Or.inr (hw _ (List.mem_of_getElem? (i := 27) rfl))) (ty := .byte) (by decide)
  have F7_value : Fld Z h7 b7 "java/lang/String" "value" "[B" .null := D7 (Or.inr (hw _ (List.mem_of_getElem? (i := 29) rfl))) (ty := (.array .byte)) (by decide)
  have c9 : Steps p.tables e below S0 (T7.setTop (mkF m 18 #[.val (.int ch)] [(.int ch), (.ref b7), (.ref b7)])) := c8.trans (by
    show Steps p.tables e below (T7.setTop (mkF m 16 #[.val (.int ch)] [(.ref b7)])) _
    refine XS.dup X7.here hx rfl (hb hby d_jdk_42_method_139_code_16) rfl rfl ?_
    show Steps p.tables e below (T7.setTop (mkF m 17 #[.val (.int ch)] [(.ref b7), (.ref b7)])) _
    refine XS.iloadN X7.here hx rfl (hb hby d_jdk_42_method_139_code_17) rfl ?_
    exact Steps.refl _)
  obtain ⟨_, _, ⟨T10, L10, kk10, nn10⟩, -, X10, ⟨Lc10, hQ10, l10, y10, z10⟩, st10⟩ := Jvm.LawKit.callS X7 hx (y := (⟨"java/lang/StringLatin1", "toBytes", "(C)[B"⟩ : MethodName)) hown (mvT hZ (hw _ (List.mem_of_getElem? (i := 38) rfl))) (mvT hZ (hw _ (List.mem_of_getElem? (i := 39) rfl))) (mvT hZ (hw _ (List.mem_of_getElem? (i := 35) rfl))) (mvT hZ (hw _ (List.mem_of_getElem? (i := 40) rfl))) (by decide) (backOf (W := 2) (rmToB l Z a0 hw [] ch h7 n0 z7) hZ (hw _ (List.mem_of_getElem? (i := 40) rfl)) (hw _ (List.mem_of_getElem? (i := 35) rfl)) (by decide) (by decide)) (g := (mkF m 18 #[.val (.int ch)] [(.int ch), (.ref b7), (.ref b7)])) rfl (by rw [hml]; rfl) (argsL := [(.int ch)]) (rest := [(.ref b7), (.ref b7)]) (lenOf pd_oCcaB rfl) rfl (by show 2 * 0 + _ ≤ _; exact Nat.le_of_eq rfl) (hb hby d_jdk_42_method_139_code_18) (fun _ _ => ⟨rfl, e7, (by decide : 1 + 1 ≤ _), (by decide : 4 + 1 ≤ _)⟩)
  dsimp only [Pt.U, Pt.locs, Pt.cells, Pt.slots] at X10 l10 y10 z10 st10 hQ10
  subst l10 y10 z10
  obtain ⟨t10, kb10, rfl, Nq10, Kq10, gt10, Vt10⟩ := hQ10
  have c11 : Steps p.tables e below S0 (T10.setTop (mkF m 21 #[.val (.int ch)] [(.ref t10), (.ref b7), (.ref b7)])) := c9.trans (st10 _ (Steps.refl _))
  have N10 := Fr.app N4 Nq10
  have z10 : n0 ≤ T10.heap.size := Nat.le_trans z7 Kq10.1
  have K10 := K7.trans Kq10 all0
  have lt_t10 := Vt10.lt
  have c12 : Steps p.tables e below S0 (T10.setTop (mkF m 22 #[.val (.int ch)] [(.int (0 : Int32)), (.ref t10), (.ref b7), (.ref b7)])) := c11.trans (by
    show Steps p.tables e below (T10.setTop (mkF m 21 #[.val (.int ch)] [(.ref t10), (.ref b7), (.ref b7)])) _
    refine XS.iconst X10.here hx rfl (hb hby d_jdk_42_method_139_code_21) ?_
    exact Steps.refl _)
  obtain ⟨_, _, ⟨T13, L13, kk13, nn13⟩, -, X13, ⟨Lc13, hQ13, l13, y13, z13⟩, st13⟩ := X10.specialBack hx (y := (⟨"java/lang/String", "<init>", "([BB)V"⟩ : MethodName)) rfl hown (mvT hZ (hw _ (List.mem_of_getElem? (i := 41) rfl))) (mvT hZ (hw _ (List.mem_of_getElem? (i := 42) rfl))) (mvT hZ (hw _ (List.mem_of_getElem? (i := 43) rfl))) (by decide) (backOf (W := 1) (rmIBB l Z a0 hw [] b7 t10 _ _ T10.heap n0 z10 (Nat.le_trans Z0 (Nat.le_trans K0.1 (Nat.le_of_eq g7.symm))) (A7.keep Kq10) (F7_value.keep Kq10 nin0) (F7_coder.keep Kq10 nin0)) hZ (hw _ (List.mem_of_getElem? (i := 43) rfl)) (hw _ (List.mem_of_getElem? (i := 3) rfl)) (by decide) (by decide)) (g := (mkF m 22 #[.val (.int ch)] [(.int (0 : Int32)), (.ref t10), (.ref b7), (.ref b7)])) rfl (by rw [hml]; rfl) (Steps.refl _) (a := b7) (argsL := [(.ref t10), (.int (0 : Int32))]) (rest := [(.ref b7)]) (lenOf pd_oaBBcV rfl) rfl (by show 2 * 0 + _ ≤ _; exact Nat.le_of_eq rfl) (hb hby d_jdk_42_method_139_code_22) (fun _ _ => ⟨rfl, rfl, (by decide : 2 + 0 ≤ _), (by decide : 5 + 0 ≤ _)⟩)
  dsimp only [Pt.U, Pt.locs, Pt.cells, Pt.slots] at X13 l13 y13 z13 st13 hQ13
  subst l13 y13 z13
  obtain ⟨rfl, Nq13, Kq13, Ei13, Fv13, Fc13⟩ := hQ13
  have c14 : Steps p.tables e below S0 (T13.setTop (mkF m 25 #[.val (.int ch)] [(.ref b7)])) := c12.trans (st13)
  have N13 := Fr.app N10 Nq13
  have z13 : n0 ≤ T13.heap.size := Nat.le_trans z10 Kq13.1
  have K13 := K10.trans Kq13 (allS (Or.inr (Nat.le_trans K0.1 (Nat.le_of_eq g7.symm))) all0)
  obtain ⟨fs, hr, hrun, hended, hW, hsame⟩ := X13.leave (v := some (.ref b7)) (fun h => by rw [Bd.returns] at h; cases h)
  refine ⟨_, _, c14.trans (retOut X13 hx Bd.returns rfl (Or.inr (Or.inr (Or.inr (Or.inr ⟨rfl, rfl, rfl⟩)))) (hb hby d_jdk_42_method_139_code_25) hr), hrun, hended, _, _, rfl, ?_, ⟨_, rfl⟩, hW, hsame.mono (by decide) (by decide)⟩
  show QvalC Z ch h0 n0 _ T13.heap _
  exact ⟨_, _, _, rfl, N13, K13, (Nat.le_trans K0.1 (Nat.le_of_eq g7.symm)), (Nat.le_trans K7.1 gt10), Ei13, Fv13, Fc13, (Vt10.keep Kq13 (ninS (Ne.symm (Nat.ne_of_lt (Nat.lt_of_lt_of_le lt_b7 gt10))) nin0)), own_alS hc own_al0, Nat.le_of_ble_eq_true rfl⟩

/-- the value that the case's own word says of the place i of the table -/
def own_val (i : Nat) : Int32 := match jdkStatics_1[17 + i]? with | some (.eq _ (.int v)) => v | _ => 0
abbrev own_ws (ch : Int32) : Prop := (¬ ch < 9 ∧ ¬ 13 < ch) ∨ (¬ ch < 28 ∧ ¬ 32 < ch)
set_option maxRecDepth 65536 in
theorem own_row : ∀ i : Fin 256, jdkStatics_1[17 + i.val]? = some (Jvm.Cond.eq (Jvm.Term.elem (Jvm.Term.static "java/lang/CharacterDataLatin1" "A" "[I") (Jvm.Term.int (Int32.ofNat i.val))) (Jvm.Term.int (own_val i.val))) := by decide +kernel
set_option maxRecDepth 65536 in
theorem own_wsrow : ∀ i : Fin 256, own_val i.val &&& 28672 = 16384 ↔ own_ws (Int32.ofNat i.val) := by decide +kernel
theorem own_c8nat {ch : Int32} (h : C8 ch) : ch.toNatClampNeg < 256 ∧ ch = Int32.ofNat ch.toNatClampNeg := by
  have e0 : (0 : Int32).toInt = 0 := rfl
  have e3 : (255 : Int32).toInt = 255 := rfl
  obtain ⟨a, b⟩ := h
  have q := (back32 a).1
  have n := nat_of a
  rw [Int32.lt_iff_toInt_lt, e3] at b
  refine ⟨by omega, q.symm⟩
theorem own_wsval {ch : Int32} (h : C8 ch) : own_val ch.toNatClampNeg &&& 28672 = 16384 ↔ own_ws ch := by
  obtain ⟨a, b⟩ := own_c8nat h
  have q := own_wsrow ⟨_, a⟩
  rw [← b] at q; exact q
/-- the table's array at the start -/
def AOk (Z : State) (a : Addr) : Prop := ∃ cell : Cell, Arr Z Z.heap a cell .int ∧ ∀ i, i < 256 → ¬ (Int32.ofNat i < 0 ∨ cell.slots.size ≤ (Int32.ofNat i).toNatClampNeg) ∧ cell.slots[(Int32.ofNat i).toNatClampNeg]? = some (.int (own_val i))

def QInt (Z : State) (r : Int32) (h0 : Heap) (n0 : Nat) (v : Option Value) (h : Heap) (L : List Loc) : Prop := v = some (.int r) ∧ Fr n0 L ∧ h = h0

theorem d_jdk_116_method_1_code_0 : decode jdk_116_method_1_code 0 = .ok (.iload_n 1, 1) := by decide +kernel
theorem d_jdk_116_method_1_code_1 : decode jdk_116_method_1_code 1 = .ok (.i2c, 1) := by decide +kernel
theorem d_jdk_116_method_1_code_2 : decode jdk_116_method_1_code 2 = .ok (.istore_n 2, 1) := by decide +kernel
theorem d_jdk_116_method_1_code_3 : decode jdk_116_method_1_code 3 = .ok (.getstatic 1, 3) := by decide +kernel
theorem d_jdk_116_method_1_code_6 : decode jdk_116_method_1_code 6 = .ok (.iload_n 2, 1) := by decide +kernel
theorem d_jdk_116_method_1_code_7 : decode jdk_116_method_1_code 7 = .ok (.iaload, 1) := by decide +kernel
theorem d_jdk_116_method_1_code_8 : decode jdk_116_method_1_code 8 = .ok (.istore_n 3, 1) := by decide +kernel
theorem d_jdk_116_method_1_code_9 : decode jdk_116_method_1_code 9 = .ok (.iload_n 3, 1) := by decide +kernel
theorem d_jdk_116_method_1_code_10 : decode jdk_116_method_1_code 10 = .ok (.ireturn, 1) := by decide +kernel
theorem pn_java_lang_CharacterDataLatin1 : plainName "java/lang/CharacterDataLatin1" = true := by first | (simp [plainName, overriddenIn]; done) | decide +kernel
theorem ef_rmGP (m : MethodId) (x0 : Addr) (x1 : Int32) : entryFrame m #[(.ref x0), (.int x1)] 4 = mkF m 0 #[.val (.ref x0), .val (.int x1), .unset, .unset] [] := by first | (simp [entryFrame, mkF, argsToLocals, Value.category]; done) | rfl
set_option maxRecDepth 65536 in
set_option maxHeartbeats 40000000 in
theorem rmGP (l : Launch) (Z : State) (a0 : Array Value) (hw : ∀ d ∈ tables_1, d.before a0 Z = true) (ws : List Jvm.Cond) (x : Addr) (ch : Int32) (ci aA : Addr) (h0 : Heap) (n0 : Nat) (Z0 : n0 ≤ h0.size) (h8 : C8 ch) (sI : Sta Z Z.heap "java/lang/CharacterDataLatin1" "instance" "Ljava/lang/CharacterDataLatin1;" (.ref ci)) (xI : Exa Z Z.heap ci "java/lang/CharacterDataLatin1") (sA : Sta Z Z.heap "java/lang/CharacterDataLatin1" "A" "[I" (.ref aA)) (hA : AOk Z aA) (X00 : Old Z n0 h0) :
    MetFree l (⟨"java/lang/CharacterDataLatin1", "getProperties", "(I)I"⟩ : MethodName) (head1 (Jvm.Cond.code (⟨"java/lang/CharacterDataLatin1", "getProperties", "(I)I"⟩ : MethodName) jdk_116_method_1_code 4 (some .int) :: ws) ({ frames := 0, cells := 0, slots := 0, locals := 0 } : Room)) (fun aa U => aa = #[(.ref x), (.int ch)] ∧ Z.Warmed39 U.vm ∧ U.heap = h0) (fun _ _ _ _ _ => True) (fun _ U o U' => ∃ v L, o = .returned v ∧ QInt Z (own_val ch.toNatClampNeg) h0 n0 v U'.heap L ∧ FrameEnd U o U' L ({ frames := 0, cells := 0, slots := 0, locals := 0 } : Room).cells ({ frames := 0, cells := 0, slots := 0, locals := 0 } : Room).slots) := by
  refine MetFree.of_bodySF (plainFor_of_name pn_java_lang_CharacterDataLatin1) hisR ?_
  intro p e s m args below meth c s₁ Bd hml0 hP hK
  obtain ⟨rfl, hZ, hh⟩ := hP
  have hx := Bd.exec
  have hby := Bd.bytes
  have hml : c.maxLocals = 4 := hml0
  have hown : s.vm.findClass "java/lang/CharacterDataLatin1" = some m.cls := findClass_of_methodNamed Bd.named
  have hnm := (name_of_methodNamed Bd.named Bd.method).1
  have X0 : Stand p l e ({ frames := 0, cells := 0, slots := 0, locals := 0 } : Room) s m #[(.ref x), (.int ch)] below meth c s₁ [] 0 0 := Stand.of_body Bd
  have e0 : s₁.heap = h0 := by rw [← hh, Bd.state]; rfl
  have N0 := Fr.nil n0
  have K0 := Keep.refl h0 []
  obtain ⟨S0, hS0⟩ : ∃ z, z = s₁.setTop (entryFrame m #[(.ref x), (.int ch)] 4) := ⟨_, rfl⟩
  rw [← hS0]
  have c0 : Steps p.tables e below S0 (s₁.setTop (mkF m 0 #[.val (.ref x), .val (.int ch), .unset, .unset] [])) := by
    rw [hS0]; exact castTop (ef_rmGP m x ch) (Steps.refl _)
  have c1 : Steps p.tables e below S0 (s₁.setTop (mkF m 2 #[.val (.ref x), .val (.int ch), .unset, .unset] [(.int (ch.toUInt32.toUInt16.toUInt32.toInt32))])) := c0.trans (by
    show Steps p.tables e below (s₁.setTop (mkF m 0 #[.val (.ref x), .val (.int ch), .unset, .unset] [])) _
    refine XS.iloadN X0.here hx rfl (hb hby d_jdk_116_method_1_code_0) rfl ?_
    show Steps p.tables e below (s₁.setTop (mkF m 1 #[.val (.ref x), .val (.int ch), .unset, .unset] [(.int ch)])) _
    refine XS.i2c X0.here hx rfl (hb hby d_jdk_116_method_1_code_1) rfl ?_
    exact Steps.refl _)
  rw [(show ch.toUInt32.toUInt16.toUInt32.toInt32 = ch from own_i2c (own_up1 h8).1 (own_up1 h8).2)] at c1
  have c2 : Steps p.tables e below S0 (s₁.setTop (mkF m 3 #[.val (.ref x), .val (.int ch), .val (.int ch), .unset] [])) := c1.trans (by
    show Steps p.tables e below (s₁.setTop (mkF m 2 #[.val (.ref x), .val (.int ch), .unset, .unset] [(.int ch)])) _
    refine XS.istoreN X0.here hx rfl (hb hby d_jdk_116_method_1_code_2) rfl (l' := #[.val (.ref x), .val (.int ch), .val (.int ch), .unset]) rfl ?_
    exact Steps.refl _)
  obtain ⟨T3, X3, e3, st3⟩ := getS2 X0 hx hZ hown (host := "") (Or.inl (hw _ (List.mem_of_getElem? (i := 85) rfl))) Via.refl e0 (sA.ext X00.2) (g := (mkF m 3 #[.val (.ref x), .val (.int ch), .val (.int ch), .unset] [])) rfl (hb hby d_jdk_116_method_1_code_3)
  have c4 : Steps p.tables e below S0 (T3.setTop (mkF m 6 #[.val (.ref x), .val (.int ch), .val (.int ch), .unset] [(.ref aA)])) := c2.trans (st3 _ (Steps.refl _))
  have c5 : Steps p.tables e below S0 (T3.setTop (mkF m 7 #[.val (.ref x), .val (.int ch), .val (.int ch), .unset] [(.int ch), (.ref aA)])) := c4.trans (by
    show Steps p.tables e below (T3.setTop (mkF m 6 #[.val (.ref x), .val (.int ch), .val (.int ch), .unset] [(.ref aA)])) _
    refine XS.iloadN X3.here hx rfl (hb hby d_jdk_116_method_1_code_6) rfl ?_
    exact Steps.refl _)
  obtain ⟨cA, Ar0, hrow⟩ := id hA
  obtain ⟨l256, ech⟩ := own_c8nat h8
  obtain ⟨hin6, hat6⟩ := hrow _ l256
  rw [← ech] at hin6 hat6
  have Ar6 : Arr Z h0 aA cA .int := Ar0.ext X00.2
  have c7 : Steps p.tables e below S0 (T3.setTop (mkF m 10 #[.val (.ref x), .val (.int ch), .val (.int ch), .val (.int (own_val ch.toNatClampNeg))] [(.int (own_val ch.toNatClampNeg))])) := c5.trans (by
    show Steps p.tables e below (T3.setTop (mkF m 7 #[.val (.ref x), .val (.int ch), .val (.int ch), .unset] [(.int ch), (.ref aA)])) _
    refine X3.iaload hx (j := ch) (v := (.int (own_val ch.toNatClampNeg))) (by rw [e3]; exact Ar6.1) (State.isArrayOf_alike hZ.alike Ar6.2.1) Ar6.2.2 hin6 hat6 (g := (mkF m 7 #[.val (.ref x), .val (.int ch), .val (.int ch), .unset] [(.int ch), (.ref aA)])) rfl rfl (hb hby d_jdk_116_method_1_code_7) _ ?_
    show Steps p.tables e below (T3.setTop (mkF m 8 #[.val (.ref x), .val (.int ch), .val (.int ch), .unset] [(.int (own_val ch.toNatClampNeg))])) _
    refine XS.istoreN X3.here hx rfl (hb hby d_jdk_116_method_1_code_8) rfl (l' := #[.val (.ref x), .val (.int ch), .val (.int ch), .val (.int (own_val ch.toNatClampNeg))]) rfl ?_
    show Steps p.tables e below (T3.setTop (mkF m 9 #[.val (.ref x), .val (.int ch), .val (.int ch), .val (.int (own_val ch.toNatClampNeg))] [])) _
    refine XS.iloadN X3.here hx rfl (hb hby d_jdk_116_method_1_code_9) rfl ?_
    exact Steps.refl _)
  obtain ⟨fs, hr, hrun, hended, hW, hsame⟩ := X3.leave (v := some (.int (own_val ch.toNatClampNeg))) (fun h => by rw [Bd.returns] at h; cases h)
  refine ⟨_, _, c7.trans (retOut X3 hx Bd.returns rfl (Or.inl ⟨rfl, by simp, _, rfl⟩) (hb hby d_jdk_116_method_1_code_10) hr), hrun, hended, _, _, rfl, ?_, ⟨_, rfl⟩, hW, hsame.mono (by decide) (by decide)⟩
  show QInt Z (own_val ch.toNatClampNeg) h0 n0 _ T3.heap _
  rw [e3]
  exact ⟨rfl, N0, rfl⟩

def QTF (Z : State) (P : Prop) (h0 : Heap) (n0 : Nat) (v : Option Value) (h : Heap) (L : List Loc) : Prop := ∃ r : Int32, v = some (.int r) ∧ TF r P ∧ Fr n0 L ∧ h = h0

theorem d_jdk_116_method_26_code_0 : decode jdk_116_method_26_code 0 = .ok (.aload_n 0, 1) := by decide +kernel
theorem d_jdk_116_method_26_code_1 : decode jdk_116_method_26_code 1 = .ok (.iload_n 1, 1) := by decide +kernel
theorem pd_oIcI : parseMethodDescriptor "(I)I" = some ⟨[.int], some .int⟩ := by decide +kernel
theorem d_jdk_116_method_26_code_2 : decode jdk_116_method_26_code 2 = .ok (.invokevirtual 15, 3) := by decide +kernel
theorem d_jdk_116_method_26_code_5 : decode jdk_116_method_26_code 5 = .ok (.istore_n 2, 1) := by decide +kernel
theorem d_jdk_116_method_26_code_6 : decode jdk_116_method_26_code 6 = .ok (.iload_n 2, 1) := by decide +kernel
theorem d_jdk_116_method_26_code_7 : decode jdk_116_method_26_code 7 = .ok (.sipush 28672, 3) := by decide +kernel
theorem d_jdk_116_method_26_code_10 : decode jdk_116_method_26_code 10 = .ok (.iand, 1) := by decide +kernel
theorem d_jdk_116_method_26_code_11 : decode jdk_116_method_26_code 11 = .ok (.sipush 16384, 3) := by decide +kernel
theorem d_jdk_116_method_26_code_14 : decode jdk_116_method_26_code 14 = .ok (.if_icmp .ne 7, 3) := by decide +kernel
theorem d_jdk_116_method_26_code_17 : decode jdk_116_method_26_code 17 = .ok (.iconst 1, 1) := by decide +kernel
theorem d_jdk_116_method_26_code_18 : decode jdk_116_method_26_code 18 = .ok (.goto 4, 3) := by decide +kernel
theorem d_jdk_116_method_26_code_22 : decode jdk_116_method_26_code 22 = .ok (.ireturn, 1) := by decide +kernel
theorem d_jdk_116_method_26_code_21 : decode jdk_116_method_26_code 21 = .ok (.iconst 0, 1) := by decide +kernel
theorem ef_rmIW (m : MethodId) (x0 : Addr) (x1 : Int32) : entryFrame m #[(.ref x0), (.int x1)] 3 = mkF m 0 #[.val (.ref x0), .val (.int x1), .unset] [] := by first | (simp [entryFrame, mkF, argsToLocals, Value.category]; done) | rfl
set_option maxRecDepth 65536 in
set_option maxHeartbeats 40000000 in
theorem rmIW (l : Launch) (Z : State) (a0 : Array Value) (hw : ∀ d ∈ tables_1, d.before a0 Z = true) (ws : List Jvm.Cond) (ch : Int32) (ci aA : Addr) (h0 : Heap) (n0 : Nat) (Z0 : n0 ≤ h0.size) (h8 : C8 ch) (sI : Sta Z Z.heap "java/lang/CharacterDataLatin1" "instance" "Ljava/lang/CharacterDataLatin1;" (.ref ci)) (xI : Exa Z Z.heap ci "java/lang/CharacterDataLatin1") (sA : Sta Z Z.heap "java/lang/CharacterDataLatin1" "A" "[I" (.ref aA)) (hA : AOk Z aA) (X00 : Old Z n0 h0) :
    MetFree l (⟨"java/lang/CharacterDataLatin1", "isWhitespace", "(I)Z"⟩ : MethodName) (head1 (Jvm.Cond.code (⟨"java/lang/CharacterDataLatin1", "isWhitespace", "(I)Z"⟩ : MethodName) jdk_116_method_26_code 3 (some .boolean) :: ws) ({ frames := 1, cells := 0, slots := 0, locals := 15 } : Room)) (fun aa U => aa = #[(.ref ci), (.int ch)] ∧ Z.Warmed39 U.vm ∧ U.heap = h0) (fun _ _ _ _ _ => True) (fun _ U o U' => ∃ v L, o = .returned v ∧ QTF Z (own_ws ch) h0 n0 v U'.heap L ∧ FrameEnd U o U' L ({ frames := 1, cells := 0, slots := 0, locals := 15 } : Room).cells ({ frames := 1, cells := 0, slots := 0, locals := 15 } : Room).slots) := by
  refine MetFree.of_bodySF (plainFor_of_name pn_java_lang_CharacterDataLatin1) hisR ?_
  intro p e s m args below meth c s₁ Bd hml0 hP hK
  obtain ⟨rfl, hZ, hh⟩ := hP
  have hx := Bd.exec
  have hby := Bd.bytes
  have hml : c.maxLocals = 3 := hml0
  have hown : s.vm.findClass "java/lang/CharacterDataLatin1" = some m.cls := findClass_of_methodNamed Bd.named
  have hnm := (name_of_methodNamed Bd.named Bd.method).1
  have X0 : Stand p l e ({ frames := 1, cells := 0, slots := 0, locals := 15 } : Room) s m #[(.ref ci), (.int ch)] below meth c s₁ [] 0 0 := Stand.of_body Bd
  have e0 : s₁.heap = h0 := by rw [← hh, Bd.state]; rfl
  have N0 := Fr.nil n0
  have K0 := Keep.refl h0 []
  obtain ⟨S0, hS0⟩ : ∃ z, z = s₁.setTop (entryFrame m #[(.ref ci), (.int ch)] 3) := ⟨_, rfl⟩
  rw [← hS0]
  have c0 : Steps p.tables e below S0 (s₁.setTop (mkF m 0 #[.val (.ref ci), .val (.int ch), .unset] [])) := by
    rw [hS0]; exact castTop (ef_rmIW m ci ch) (Steps.refl _)
  have c1 : Steps p.tables e below S0 (s₁.setTop (mkF m 2 #[.val (.ref ci), .val (.int ch), .unset] [(.int ch), (.ref ci)])) := c0.trans (by
    show Steps p.tables e below (s₁.setTop (mkF m 0 #[.val (.ref ci), .val (.int ch), .unset] [])) _
    refine XS.aloadN X0.here hx rfl (hb hby d_jdk_116_method_26_code_0) rfl rfl ?_
    show Steps p.tables e below (s₁.setTop (mkF m 1 #[.val (.ref ci), .val (.int ch), .unset] [(.ref ci)])) _
    refine XS.iloadN X0.here hx rfl (hb hby d_jdk_116_method_26_code_1) rfl ?_
    exact Steps.refl _)
  obtain ⟨cq2, kq2, q2a, q2b, q2c⟩ := isOf hZ e0 (xI.ext X00.2)
  obtain ⟨_, _, ⟨T2, L2, kk2, nn2⟩, -, X2, ⟨Lc2, hQ2, l2, y2, z2⟩, st2⟩ := X0.virtualBack hx (y := (⟨"java/lang/CharacterDataLatin1", "getProperties", "(I)I"⟩ : MethodName)) (z := (⟨"java/lang/CharacterDataLatin1", "getProperties", "(I)I"⟩ : MethodName)) hown (mvT hZ (hw _ (List.mem_of_getElem? (i := 80) rfl))) (mvT hZ (hw _ (List.mem_of_getElem? (i := 81) rfl))) (notFace_of_selects (args := #[]) (mvT hZ (hw _ (List.mem_of_getElem? (i := 83) rfl)))) (mvT hZ (hw _ (List.mem_of_getElem? (i := 83) rfl))) (mvT hZ (hw _ (List.mem_of_getElem? (i := 82) rfl))) (by decide) (backOf (W := 0) (rmGP l Z a0 hw [] ci ch ci aA h0 n0 Z0 h8 sI xI sA hA X00) hZ (hw _ (List.mem_of_getElem? (i := 84) rfl)) (hw _ (List.mem_of_getElem? (i := 74) rfl)) (by decide) (by decide)) q2a q2c (g := (mkF m 2 #[.val (.ref ci), .val (.int ch), .unset] [(.int ch), (.ref ci)])) rfl (by rw [hml]; rfl) (Steps.refl _) (argsL := [(.int ch)]) (rest := []) (lenOf pd_oIcI rfl) rfl (by show 2 * 0 + _ ≤ _; exact Nat.le_of_eq rfl) (hb hby d_jdk_116_method_26_code_2) (fun _ _ => ⟨rfl, e0, (by decide : 0 + 0 ≤ _), (by decide : 0 + 0 ≤ _)⟩)
  dsimp only [Pt.U, Pt.locs, Pt.cells, Pt.slots] at X2 l2 y2 z2 st2 hQ2
  subst l2 y2 z2
  obtain ⟨rfl, Nq2, eq2⟩ := hQ2
  have c3 : Steps p.tables e below S0 (T2.setTop (mkF m 5 #[.val (.ref ci), .val (.int ch), .unset] [(.int (own_val ch.toNatClampNeg))])) := c1.trans (st2)
  have N2 := Fr.app N0 Nq2
  have c4 : Steps p.tables e below S0 (T2.setTop (mkF m 14 #[.val (.ref ci), .val (.int ch), .val (.int (own_val ch.toNatClampNeg))] [(.int (16384 : Int32)), (.int ((own_val ch.toNatClampNeg) &&& (28672 : Int32)))])) := c3.trans (by
    show Steps p.tables e below (T2.setTop (mkF m 5 #[.val (.ref ci), .val (.int ch), .unset] [(.int (own_val ch.toNatClampNeg))])) _
    refine XS.istoreN X2.here hx rfl (hb hby d_jdk_116_method_26_code_5) rfl (l' := #[.val (.ref ci), .val (.int ch), .val (.int (own_val ch.toNatClampNeg))]) rfl ?_
    show Steps p.tables e below (T2.setTop (mkF m 6 #[.val (.ref ci), .val (.int ch), .val (.int (own_val ch.toNatClampNeg))] [])) _
    refine XS.iloadN X2.here hx rfl (hb hby d_jdk_116_method_26_code_6) rfl ?_
    show Steps p.tables e below (T2.setTop (mkF m 7 #[.val (.ref ci), .val (.int ch), .val (.int (own_val ch.toNatClampNeg))] [(.int (own_val ch.toNatClampNeg))])) _
    refine XS.sipush X2.here hx rfl (hb hby d_jdk_116_method_26_code_7) ?_
    show Steps p.tables e below (T2.setTop (mkF m 10 #[.val (.ref ci), .val (.int ch), .val (.int (own_val ch.toNatClampNeg))] [(.int (28672 : Int32)), (.int (own_val ch.toNatClampNeg))])) _
    refine XS.iand X2.here hx rfl (hb hby d_jdk_116_method_26_code_10) rfl ?_
    show Steps p.tables e below (T2.setTop (mkF m 11 #[.val (.ref ci), .val (.int ch), .val (.int (own_val ch.toNatClampNeg))] [(.int ((own_val ch.toNatClampNeg) &&& (28672 : Int32)))])) _
    refine XS.sipush X2.here hx rfl (hb hby d_jdk_116_method_26_code_11) ?_
    exact Steps.refl _)
  by_cases hq5 : ((own_val ch.toNatClampNeg) &&& (28672 : Int32)) = (16384 : Int32)
  · have c6 : Steps p.tables e below S0 (T2.setTop (mkF m 22 #[.val (.ref ci), .val (.int ch), .val (.int (own_val ch.toNatClampNeg))] [(.int (1 : Int32))])) := c4.trans (by
      show Steps p.tables e below (T2.setTop (mkF m 14 #[.val (.ref ci), .val (.int ch), .val (.int (own_val ch.toNatClampNeg))] [(.int (16384 : Int32)), (.int ((own_val ch.toNatClampNeg) &&& (28672 : Int32)))])) _
      refine XS.icmpNo X2.here hx rfl (hb hby d_jdk_116_method_26_code_14) rfl (teq hq5).2 ?_
      show Steps p.tables e below (T2.setTop (mkF m 17 #[.val (.ref ci), .val (.int ch), .val (.int (own_val ch.toNatClampNeg))] [])) _
      refine XS.iconst X2.here hx rfl (hb hby d_jdk_116_method_26_code_17) ?_
      show Steps p.tables e below (T2.setTop (mkF m 18 #[.val (.ref ci), .val (.int ch), .val (.int (own_val ch.toNatClampNeg))] [(.int (1 : Int32))])) _
      refine XS.goto X2.here hx rfl (pc0 := 18) (pc' := 22) rfl (hb hby d_jdk_116_method_26_code_18) (by decide) (by decide) ?_
      exact Steps.refl _)
    obtain ⟨fs, hr, hrun, hended, hW, hsame⟩ := X2.leave (v := some (.int (1 : Int32))) (fun h => by rw [Bd.returns] at h; cases h)
    refine ⟨_, _, c6.trans (retOut X2 hx Bd.returns rfl (Or.inl ⟨rfl, by simp, _, rfl⟩) (hb hby d_jdk_116_method_26_code_22) hr), hrun, hended, _, _, rfl, ?_, ⟨_, rfl⟩, hW, hsame.mono (by decide) (by decide)⟩
    show QTF Z (own_ws ch) h0 n0 _ T2.heap _
    rw [eq2]
    exact ⟨_, rfl, Or.inl ⟨rfl, (own_wsval h8).mp hq5⟩, N2, rfl⟩
  · have c7 : Steps p.tables e below S0 (T2.setTop (mkF m 22 #[.val (.ref ci), .val (.int ch), .val (.int (own_val ch.toNatClampNeg))] [(.int (0 : Int32))])) := c4.trans (by
      show Steps p.tables e below (T2.setTop (mkF m 14 #[.val (.ref ci), .val (.int ch), .val (.int (own_val ch.toNatClampNeg))] [(.int (16384 : Int32)), (.int ((own_val ch.toNatClampNeg) &&& (28672 : Int32)))])) _
      refine XS.icmpYes X2.here hx rfl (pc0 := 14) (pc' := 21) rfl (hb hby d_jdk_116_method_26_code_14) rfl (feq hq5).2 (by decide) (by decide) ?_
      show Steps p.tables e below (T2.setTop (mkF m 21 #[.val (.ref ci), .val (.int ch), .val (.int (own_val ch.toNatClampNeg))] [])) _
      refine XS.iconst X2.here hx rfl (hb hby d_jdk_116_method_26_code_21) ?_
      exact Steps.refl _)
    obtain ⟨fs, hr, hrun, hended, hW, hsame⟩ := X2.leave (v := some (.int (0 : Int32))) (fun h => by rw [Bd.returns] at h; cases h)
    refine ⟨_, _, c7.trans (retOut X2 hx Bd.returns rfl (Or.inl ⟨rfl, by simp, _, rfl⟩) (hb hby d_jdk_116_method_26_code_22) hr), hrun, hended, _, _, rfl, ?_, ⟨_, rfl⟩, hW, hsame.mono (by decide) (by decide)⟩
    show QTF Z (own_ws ch) h0 n0 _ T2.heap _
    rw [eq2]
    exact ⟨_, rfl, Or.inr ⟨rfl, fun q => hq5 ((own_wsval h8).mpr q)⟩, N2, rfl⟩

theorem own_get8 {cs : List Int32} {k : Nat} (h : ∀ ch ∈ cs, C8 ch) (hk : k < cs.length) : C8 (cs.getD k 0) := by
  rw [List.getD_eq_getElem?_getD, List.getElem?_eq_getElem hk]; exact h _ (List.getElem_mem hk)
theorem own_getb {cs : List Int32} {k : Nat} (hk : k < cs.length) (h2 : k < 2147483648) : ((cs.map (fun c => c.toInt8.toInt32)).map Value.int).getD (Int32.ofNat k).toNatClampNeg (.int 0) = .int ((cs.getD k 0).toInt8.toInt32) := by
  rw [clamp_of rfl h2]
  simp [List.getD_eq_getElem?_getD, hk]

theorem d_jdk_43_method_44_code_0 : decode jdk_43_method_44_code 0 = .ok (.aload_n 0, 1) := by decide +kernel
theorem d_jdk_43_method_44_code_1 : decode jdk_43_method_44_code 1 = .ok (.iload_n 1, 1) := by decide +kernel
theorem d_jdk_43_method_44_code_2 : decode jdk_43_method_44_code 2 = .ok (.baload, 1) := by decide +kernel
theorem d_jdk_43_method_44_code_3 : decode jdk_43_method_44_code 3 = .ok (.sipush 255, 3) := by decide +kernel
theorem d_jdk_43_method_44_code_6 : decode jdk_43_method_44_code 6 = .ok (.iand, 1) := by decide +kernel
theorem d_jdk_43_method_44_code_7 : decode jdk_43_method_44_code 7 = .ok (.i2c, 1) := by decide +kernel
theorem d_jdk_43_method_44_code_8 : decode jdk_43_method_44_code 8 = .ok (.ireturn, 1) := by decide +kernel
theorem ef_rmGC (m : MethodId) (x0 : Addr) (x1 : Int32) : entryFrame m #[(.ref x0), (.int x1)] 2 = mkF m 0 #[.val (.ref x0), .val (.int x1)] [] := by first | (simp [entryFrame, mkF, argsToLocals, Value.category]; done) | rfl
set_option maxRecDepth 65536 in
set_option maxHeartbeats 40000000 in
theorem rmGC (l : Launch) (Z : State) (a0 : Array Value) (hw : ∀ d ∈ tables_1, d.before a0 Z = true) (ws : List Jvm.Cond) (tx : Addr) (kx : ClassId) (cs : List Int32) (k : Nat) (h0 : Heap) (n0 : Nat) (Z0 : n0 ≤ h0.size) (Vx : Arv Z h0 tx kx .byte (Int32.ofNat cs.length) ((cs.map (fun c => c.toInt8.toInt32)).map Value.int) (.int 0)) (h8 : ∀ ch ∈ cs, C8 ch) (hl : cs.length ≤ 4000) (hk : k < cs.length) :
    MetFree l (⟨"java/lang/StringLatin1", "getChar", "([BI)C"⟩ : MethodName) (head1 (Jvm.Cond.code (⟨"java/lang/StringLatin1", "getChar", "([BI)C"⟩ : MethodName) jdk_43_method_44_code 2 (some .char) :: ws) ({ frames := 0, cells := 0, slots := 0, locals := 0 } : Room)) (fun aa U => aa = #[(.ref tx), (.int (Int32.ofNat k))] ∧ Z.Warmed39 U.vm ∧ U.heap = h0) (fun _ _ _ _ _ => True) (fun _ U o U' => ∃ v L, o = .returned v ∧ QInt Z (cs.getD k 0) h0 n0 v U'.heap L ∧ FrameEnd U o U' L ({ frames := 0, cells := 0, slots := 0, locals := 0 } : Room).cells ({ frames := 0, cells := 0, slots := 0, locals := 0 } : Room).slots) := by
  refine MetFree.of_bodySF (plainFor_of_name pn_java_lang_StringLatin1) hisR ?_
  intro p e s m args below meth c s₁ Bd hml0 hP hK
  obtain ⟨rfl, hZ, hh⟩ := hP
  have hx := Bd.exec
  have hby := Bd.bytes
  have hml : c.maxLocals = 2 := hml0
  have hown : s.vm.findClass "java/lang/StringLatin1" = some m.cls := findClass_of_methodNamed Bd.named
  have hnm := (name_of_methodNamed Bd.named Bd.method).1
  have X0 : Stand p l e ({ frames := 0, cells := 0, slots := 0, locals := 0 } : Room) s m #[(.ref tx), (.int (Int32.ofNat k))] below meth c s₁ [] 0 0 := Stand.of_body Bd
  have e0 : s₁.heap = h0 := by rw [← hh, Bd.state]; rfl
  have N0 := Fr.nil n0
  have K0 := Keep.refl h0 []
  obtain ⟨S0, hS0⟩ : ∃ z, z = s₁.setTop (entryFrame m #[(.ref tx), (.int (Int32.ofNat k))] 2) := ⟨_, rfl⟩
  rw [← hS0]
  have c0 : Steps p.tables e below S0 (s₁.setTop (mkF m 0 #[.val (.ref tx), .val (.int (Int32.ofNat k))] [])) := by
    rw [hS0]; exact castTop (ef_rmGC m tx (Int32.ofNat k)) (Steps.refl _)
  have c1 : Steps p.tables e below S0 (s₁.setTop (mkF m 2 #[.val (.ref tx), .val (.int (Int32.ofNat k))] [(.int (Int32.ofNat k)), (.ref tx)])) := c0.trans (by
    show Steps p.tables e below (s₁.setTop (mkF m 0 #[.val (.ref tx), .val (.int (Int32.ofNat k))] [])) _
    refine XS.aloadN X0.here hx rfl (hb hby d_jdk_43_method_44_code_0) rfl rfl ?_
    show Steps p.tables e below (s₁.setTop (mkF m 1 #[.val (.ref tx), .val (.int (Int32.ofNat k))] [(.ref tx)])) _
    refine XS.iloadN X0.here hx rfl (hb hby d_jdk_43_method_44_code_1) rfl ?_
    exact Steps.refl _)
  obtain ⟨cl2, Ar2, -, S2, -, Ha2, -⟩ := id Vx
  have hin2 := inb_of (j := Int32.ofNat k) S2 (own_idx (m := cs.length) hk (by omega))
  have hat2 := Ha2.at hin2 (own_getb hk (by omega))
  have c3 : Steps p.tables e below S0 (s₁.setTop (mkF m 7 #[.val (.ref tx), .val (.int (Int32.ofNat k))] [(.int (((cs.getD k 0).toInt8.toInt32) &&& (255 : Int32)))])) := c1.trans (by
    show Steps p.tables e below (s₁.setTop (mkF m 2 #[.val (.ref tx), .val (.int (Int32.ofNat k))] [(.int (Int32.ofNat k)), (.ref tx)])) _
    refine X0.baloadBytes hx (j := (Int32.ofNat k)) (v := (.int ((cs.getD k 0).toInt8.toInt32))) (by rw [e0]; exact Ar2.1) (State.isArrayOf_alike hZ.alike Ar2.2.1) Ar2.2.2 hin2 hat2 (g := (mkF m 2 #[.val (.ref tx), .val (.int (Int32.ofNat k))] [(.int (Int32.ofNat k)), (.ref tx)])) rfl rfl (hb hby d_jdk_43_method_44_code_2) _ ?_
    show Steps p.tables e below (s₁.setTop (mkF m 3 #[.val (.ref tx), .val (.int (Int32.ofNat k))] [(.int ((cs.getD k 0).toInt8.toInt32))])) _
    refine XS.sipush X0.here hx rfl (hb hby d_jdk_43_method_44_code_3) ?_
    show Steps p.tables e below (s₁.setTop (mkF m 6 #[.val (.ref tx), .val (.int (Int32.ofNat k))] [(.int (255 : Int32)), (.int ((cs.getD k 0).toInt8.toInt32))])) _
    refine XS.iand X0.here hx rfl (hb hby d_jdk_43_method_44_code_6) rfl ?_
    exact Steps.refl _)
  have c8 := own_get8 h8 hk
  have em : (cs.getD k 0).toInt8.toInt32 &&& (255 : Int32) = cs.getD k 0 := StrChars.lo8_mask c8.1 c8.2
  rw [em] at c3
  have c4 : Steps p.tables e below S0 (s₁.setTop (mkF m 8 #[.val (.ref tx), .val (.int (Int32.ofNat k))] [(.int ((cs.getD k 0).toUInt32.toUInt16.toUInt32.toInt32))])) := c3.trans (by
    show Steps p.tables e below (s₁.setTop (mkF m 7 #[.val (.ref tx), .val (.int (Int32.ofNat k))] [(.int (cs.getD k 0))])) _
    refine XS.i2c X0.here hx rfl (hb hby d_jdk_43_method_44_code_7) rfl ?_
    exact Steps.refl _)
  rw [(show (cs.getD k 0).toUInt32.toUInt16.toUInt32.toInt32 = cs.getD k 0 from own_i2c (own_up1 c8).1 (own_up1 c8).2)] at c4
  obtain ⟨fs, hr, hrun, hended, hW, hsame⟩ := X0.leave (v := some (.int (cs.getD k 0))) (fun h => by rw [Bd.returns] at h; cases h)
  refine ⟨_, _, c4.trans (retOut X0 hx Bd.returns (own_nc (own_up1 c8)) (Or.inl ⟨rfl, by simp, _, rfl⟩) (hb hby d_jdk_43_method_44_code_8) hr), hrun, hended, _, _, rfl, ?_, ⟨_, rfl⟩, hW, hsame.mono (by decide) (by decide)⟩
  show QInt Z (cs.getD k 0) h0 n0 _ s₁.heap _
  rw [e0]
  exact ⟨rfl, N0, rfl⟩

def QLI (Z : State) (n : Nat) (h0 : Heap) (n0 : Nat) (v : Option Value) (h : Heap) (L : List Loc) : Prop := ∃ r : Nat, v = some (.int (Int32.ofNat r)) ∧ r < n ∧ Fr n0 L ∧ h = h0

theorem d_jdk_43_method_37_code_0 : decode jdk_43_method_37_code 0 = .ok (.aload_n 0, 1) := by decide +kernel
theorem d_jdk_43_method_37_code_1 : decode jdk_43_method_37_code 1 = .ok (.arraylength, 1) := by decide +kernel
theorem d_jdk_43_method_37_code_2 : decode jdk_43_method_37_code 2 = .ok (.istore_n 1, 1) := by decide +kernel
theorem d_jdk_43_method_37_code_3 : decode jdk_43_method_37_code 3 = .ok (.iconst 0, 1) := by decide +kernel
theorem d_jdk_43_method_37_code_4 : decode jdk_43_method_37_code 4 = .ok (.istore_n 2, 1) := by decide +kernel
theorem d_jdk_43_method_37_code_5 : decode jdk_43_method_37_code 5 = .ok (.iload_n 2, 1) := by decide +kernel
theorem d_jdk_43_method_37_code_6 : decode jdk_43_method_37_code 6 = .ok (.iload_n 1, 1) := by decide +kernel
theorem d_jdk_43_method_37_code_7 : decode jdk_43_method_37_code 7 = .ok (.if_icmp .ge 40, 3) := by decide +kernel
theorem d_jdk_43_method_37_code_10 : decode jdk_43_method_37_code 10 = .ok (.aload_n 0, 1) := by decide +kernel
theorem d_jdk_43_method_37_code_11 : decode jdk_43_method_37_code 11 = .ok (.iload_n 2, 1) := by decide +kernel
theorem pd_oaBIcC : parseMethodDescriptor "([BI)C" = some ⟨[(.array .byte), .int], some .char⟩ := by decide +kernel
theorem d_jdk_43_method_37_code_12 : decode jdk_43_method_37_code 12 = .ok (.invokestatic 50, 3) := by decide +kernel
theorem d_jdk_43_method_37_code_15 : decode jdk_43_method_37_code 15 = .ok (.istore_n 3, 1) := by decide +kernel
theorem d_jdk_43_method_37_code_16 : decode jdk_43_method_37_code 16 = .ok (.iload_n 3, 1) := by decide +kernel
theorem d_jdk_43_method_37_code_17 : decode jdk_43_method_37_code 17 = .ok (.bipush 32, 2) := by decide +kernel
theorem d_jdk_43_method_37_code_19 : decode jdk_43_method_37_code 19 = .ok (.if_icmp .eq 22, 3) := by decide +kernel
theorem d_jdk_43_method_37_code_41 : decode jdk_43_method_37_code 41 = .ok (.iinc 2 1, 3) := by decide +kernel
theorem d_jdk_43_method_37_code_44 : decode jdk_43_method_37_code 44 = .ok (.goto (-39), 3) := by decide +kernel
theorem d_jdk_43_method_37_code_22 : decode jdk_43_method_37_code 22 = .ok (.iload_n 3, 1) := by decide +kernel
theorem d_jdk_43_method_37_code_23 : decode jdk_43_method_37_code 23 = .ok (.bipush 9, 2) := by decide +kernel
theorem d_jdk_43_method_37_code_25 : decode jdk_43_method_37_code 25 = .ok (.if_icmp .eq 16, 3) := by decide +kernel
theorem d_jdk_43_method_37_code_28 : decode jdk_43_method_37_code 28 = .ok (.getstatic 66, 3) := by decide +kernel
theorem d_jdk_43_method_37_code_31 : decode jdk_43_method_37_code 31 = .ok (.iload_n 3, 1) := by decide +kernel
theorem pd_oIcZ : parseMethodDescriptor "(I)Z" = some ⟨[.int], some .boolean⟩ := by decide +kernel
theorem d_jdk_43_method_37_code_32 : decode jdk_43_method_37_code 32 = .ok (.invokevirtual 211, 3) := by decide +kernel
theorem d_jdk_43_method_37_code_35 : decode jdk_43_method_37_code 35 = .ok (.ifCond .ne 6, 3) := by decide +kernel
theorem d_jdk_43_method_37_code_38 : decode jdk_43_method_37_code 38 = .ok (.goto 9, 3) := by decide +kernel
theorem d_jdk_43_method_37_code_47 : decode jdk_43_method_37_code 47 = .ok (.iload_n 2, 1) := by decide +kernel
theorem d_jdk_43_method_37_code_48 : decode jdk_43_method_37_code 48 = .ok (.ireturn, 1) := by decide +kernel
theorem ef_rmLI (m : MethodId) (x0 : Addr) : entryFrame m #[(.ref x0)] 4 = mkF m 0 #[.val (.ref x0), .unset, .unset, .unset] [] := by first | (simp [entryFrame, mkF, argsToLocals, Value.category]; done) | rfl
set_option maxRecDepth 65536 in
set_option maxHeartbeats 40000000 in
theorem rmLI (l : Launch) (Z : State) (a0 : Array Value) (hw : ∀ d ∈ tables_1, d.before a0 Z = true) (ws : List Jvm.Cond) (tx : Addr) (kx : ClassId) (cs : List Int32) (j : Nat) (ci aA : Addr) (h0 : Heap) (n0 : Nat) (Z0 : n0 ≤ h0.size) (Vx : Arv Z h0 tx kx .byte (Int32.ofNat cs.length) ((cs.map (fun c => c.toInt8.toInt32)).map Value.int) (.int 0)) (h8 : ∀ ch ∈ cs, C8 ch) (hl : cs.length ≤ 4000) (hj : j < cs.length) (hjw : ¬ own_ws (cs.getD j 0)) (sI : Sta Z Z.heap "java/lang/CharacterDataLatin1" "instance" "Ljava/lang/CharacterDataLatin1;" (.ref ci)) (xI : Exa Z Z.heap ci "java/lang/CharacterDataLatin1") (sA : Sta Z Z.heap "java/lang/CharacterDataLatin1" "A" "[I" (.ref aA)) (hA : AOk Z aA) (X00 : Old Z n0 h0) :
    MetFree l (⟨"java/lang/StringLatin1", "indexOfNonWhitespace", "([B)I"⟩ : MethodName) (head1 (Jvm.Cond.code (⟨"java/lang/StringLatin1", "indexOfNonWhitespace", "([B)I"⟩ : MethodName) jdk_43_method_37_code 4 (some .int) :: ws) ({ frames := 2, cells := 0, slots := 0, locals := 29 } : Room)) (fun aa U => aa = #[(.ref tx)] ∧ Z.Warmed39 U.vm ∧ U.heap = h0) (fun _ _ _ _ _ => True) (fun _ U o U' => ∃ v L, o = .returned v ∧ QLI Z cs.length h0 n0 v U'.heap L ∧ FrameEnd U o U' L ({ frames := 2, cells := 0, slots := 0, locals := 29 } : Room).cells ({ frames := 2, cells := 0, slots := 0, locals := 29 } : Room).slots) := by
  refine MetFree.of_bodySF (plainFor_of_name pn_java_lang_StringLatin1) hisR ?_
  intro p e s m args below meth c s₁ Bd hml0 hP hK
  obtain ⟨rfl, hZ, hh⟩ := hP
  have hx := Bd.exec
  have hby := Bd.bytes
  have hml : c.maxLocals = 4 := hml0
  have hown : s.vm.findClass "java/lang/StringLatin1" = some m.cls := findClass_of_methodNamed Bd.named
  have hnm := (name_of_methodNamed Bd.named Bd.method).1
  have X0 : Stand p l e ({ frames := 2, cells := 0, slots := 0, locals := 29 } : Room) s m #[(.ref tx)] below meth c s₁ [] 0 0 := Stand.of_body Bd
  have e0 : s₁.heap = h0 := by rw [← hh, Bd.state]; rfl
  have N0 := Fr.nil n0
  have K0 := Keep.refl h0 []
  obtain ⟨S0, hS0⟩ : ∃ z, z = s₁.setTop (entryFrame m #[(.ref tx)] 4) := ⟨_, rfl⟩
  rw [← hS0]
  have c0 : Steps p.tables e below S0 (s₁.setTop (mkF m 0 #[.val (.ref tx), .unset, .unset, .unset] [])) := by
    rw [hS0]; exact castTop (ef_rmLI m tx) (Steps.refl _)
  have c1 : Steps p.tables e below S0 (s₁.setTop (mkF m 1 #[.val (.ref tx), .unset, .unset, .unset] [(.ref tx)])) := c0.trans (by
    show Steps p.tables e below (s₁.setTop (mkF m 0 #[.val (.ref tx), .unset, .unset, .unset] [])) _
    refine XS.aloadN X0.here hx rfl (hb hby d_jdk_43_method_37_code_0) rfl rfl ?_
    exact Steps.refl _)
  obtain ⟨cl2, Ar2, -, S2, Nn2, -, -⟩ := id Vx
  have c3 : Steps p.tables e below S0 (s₁.setTop (mkF m 5 #[.val (.ref tx), .val (.int (Int32.ofNat cs.length)), .val (.int (0 : Int32)), .unset] [])) := c1.trans (by
    show Steps p.tables e below (s₁.setTop (mkF m 1 #[.val (.ref tx), .unset, .unset, .unset] [(.ref tx)])) _
    refine X0.arraylength hx (by rw [e0]; exact Ar2.1) (State.isArrayOf_alike hZ.alike Ar2.2.1) (g := (mkF m 1 #[.val (.ref tx), .unset, .unset, .unset] [(.ref tx)])) rfl rfl (hb hby d_jdk_43_method_37_code_1) _ ?_
    rw [len_of S2 Nn2]
    show Steps p.tables e below (s₁.setTop (mkF m 2 #[.val (.ref tx), .unset, .unset, .unset] [(.int (Int32.ofNat cs.length))])) _
    refine XS.istoreN X0.here hx rfl (hb hby d_jdk_43_method_37_code_2) rfl (l' := #[.val (.ref tx), .val (.int (Int32.ofNat cs.length)), .unset, .unset]) rfl ?_
    show Steps p.tables e below (s₁.setTop (mkF m 3 #[.val (.ref tx), .val (.int (Int32.ofNat cs.length)), .unset, .unset] [])) _
    refine XS.iconst X0.here hx rfl (hb hby d_jdk_43_method_37_code_3) ?_
    show Steps p.tables e below (s₁.setTop (mkF m 4 #[.val (.ref tx), .val (.int (Int32.ofNat cs.length)), .unset, .unset] [(.int (0 : Int32))])) _
    refine XS.istoreN X0.here hx rfl (hb hby d_jdk_43_method_37_code_4) rfl (l' := #[.val (.ref tx), .val (.int (Int32.ofNat cs.length)), .val (.int (0 : Int32)), .unset]) rfl ?_
    exact Steps.refl _)
  have lp : ∀ (n k : Nat) (o : Slot) (T : State) (locs : List Loc), n = j - k → k ≤ j → (o = .unset ∨ ∃ w, o = .val w ∧ w.category = 1) → Fr n0 locs → Stand p l e ({ frames := 2, cells := 0, slots := 0, locals := 29 } : Room) s m #[.ref tx] below meth c T locs 0 0 → T.heap = h0 → Steps p.tables e below S0 (T.setTop (mkF m 5 #[.val (.ref tx), .val (.int (Int32.ofNat cs.length)), .val (.int (Int32.ofNat k)), o] [])) →
      ∃ (k : Nat) (o : Slot) (T : State) (locs : List Loc), k < cs.length ∧ Fr n0 locs ∧ Stand p l e ({ frames := 2, cells := 0, slots := 0, locals := 29 } : Room) s m #[.ref tx] below meth c T locs 0 0 ∧ T.heap = h0 ∧ Steps p.tables e below S0 (T.setTop (mkF m 47 #[.val (.ref tx), .val (.int (Int32.ofNat cs.length)), .val (.int (Int32.ofNat k)), o] [])) := by
    intro n
    induction n with
    | zero =>
      intro k o T locs hn hkj ho NN X eT cc
      have hk : k < cs.length := by omega
      have c8 := own_get8 h8 hk
      have c4 : Steps p.tables e below S0 (T.setTop (mkF m 12 #[.val (.ref tx), .val (.int (Int32.ofNat cs.length)), .val (.int (Int32.ofNat k)), o] [(.int (Int32.ofNat k)), (.ref tx)])) := cc.trans (by
        show Steps p.tables e below (T.setTop (mkF m 5 #[.val (.ref tx), .val (.int (Int32.ofNat cs.length)), .val (.int (Int32.ofNat k)), o] [])) _
        refine XS.iloadN X.here hx rfl (hb hby d_jdk_43_method_37_code_5) rfl ?_
        show Steps p.tables e below (T.setTop (mkF m 6 #[.val (.ref tx), .val (.int (Int32.ofNat cs.length)), .val (.int (Int32.ofNat k)), o] [(.int (Int32.ofNat k))])) _
        refine XS.iloadN X.here hx rfl (hb hby d_jdk_43_method_37_code_6) rfl ?_
        show Steps p.tables e below (T.setTop (mkF m 7 #[.val (.ref tx), .val (.int (Int32.ofNat cs.length)), .val (.int (Int32.ofNat k)), o] [(.int (Int32.ofNat cs.length)), (.int (Int32.ofNat k))])) _
        refine XS.icmpNo X.here hx rfl (hb hby d_jdk_43_method_37_code_7) rfl (tlt ((own_ofN_lt (by omega) (by omega)).mpr (by omega) : (Int32.ofNat k) < (Int32.ofNat cs.length))).2.1 ?_
        show Steps p.tables e below (T.setTop (mkF m 10 #[.val (.ref tx), .val (.int (Int32.ofNat cs.length)), .val (.int (Int32.ofNat k)), o] [])) _
        refine XS.aloadN X.here hx rfl (hb hby d_jdk_43_method_37_code_10) rfl rfl ?_
        show Steps p.tables e below (T.setTop (mkF m 11 #[.val (.ref tx), .val (.int (Int32.ofNat cs.length)), .val (.int (Int32.ofNat k)), o] [(.ref tx)])) _
        refine XS.iloadN X.here hx rfl (hb hby d_jdk_43_method_37_code_11) rfl ?_
        exact Steps.refl _)
      obtain ⟨_, _, ⟨T5, L5, kk5, nn5⟩, -, X5, ⟨Lc5, hQ5, l5, y5, z5⟩, st5⟩ := Jvm.LawKit.callS X hx (y := (⟨"java/lang/StringLatin1", "getChar", "([BI)C"⟩ : MethodName)) hown (mvT hZ (hw _ (List.mem_of_getElem? (i := 70) rfl))) (mvT hZ (hw _ (List.mem_of_getElem? (i := 71) rfl))) (mvT hZ (hw _ (List.mem_of_getElem? (i := 35) rfl))) (mvT hZ (hw _ (List.mem_of_getElem? (i := 72) rfl))) (by decide) (backOf (W := 0) (rmGC l Z a0 hw [] tx kx cs k h0 n0 Z0 Vx h8 hl hk) hZ (hw _ (List.mem_of_getElem? (i := 72) rfl)) (hw _ (List.mem_of_getElem? (i := 35) rfl)) (by decide) (by decide)) (g := (mkF m 12 #[.val (.ref tx), .val (.int (Int32.ofNat cs.length)), .val (.int (Int32.ofNat k)), o] [(.int (Int32.ofNat k)), (.ref tx)])) rfl (by rw [hml]; rfl) (argsL := [(.ref tx), (.int (Int32.ofNat k))]) (rest := []) (lenOf pd_oaBIcC rfl) rfl (by show 2 * 0 + _ ≤ _; exact Nat.le_of_eq rfl) (hb hby d_jdk_43_method_37_code_12) (fun _ _ => ⟨rfl, eT, (by decide : 0 + 0 ≤ _), (by decide : 0 + 0 ≤ _)⟩)
      dsimp only [Pt.U, Pt.locs, Pt.cells, Pt.slots] at X5 l5 y5 z5 st5 hQ5
      subst l5 y5 z5
      obtain ⟨rfl, Nq5, eq5⟩ := hQ5
      have c6 : Steps p.tables e below S0 (T5.setTop (mkF m 15 #[.val (.ref tx), .val (.int (Int32.ofNat cs.length)), .val (.int (Int32.ofNat k)), o] [(.int (cs.getD k 0))])) := c4.trans (st5 _ (Steps.refl _))
      have N5 := Fr.app NN Nq5
      have c7 : Steps p.tables e below S0 (T5.setTop (mkF m 19 #[.val (.ref tx), .val (.int (Int32.ofNat cs.length)), .val (.int (Int32.ofNat k)), .val (.int (cs.getD k 0))] [(.int (32 : Int32)), (.int (cs.getD k 0))])) := c6.trans (by
        show Steps p.tables e below (T5.setTop (mkF m 15 #[.val (.ref tx), .val (.int (Int32.ofNat cs.length)), .val (.int (Int32.ofNat k)), o] [(.int (cs.getD k 0))])) _
        refine XS.istoreNS X5.here hx rfl (hb hby d_jdk_43_method_37_code_15) rfl rfl ho ?_
        show Steps p.tables e below (T5.setTop (mkF m 16 #[.val (.ref tx), .val (.int (Int32.ofNat cs.length)), .val (.int (Int32.ofNat k)), .val (.int (cs.getD k 0))] [])) _
        refine XS.iloadN X5.here hx rfl (hb hby d_jdk_43_method_37_code_16) rfl ?_
        show Steps p.tables e below (T5.setTop (mkF m 17 #[.val (.ref tx), .val (.int (Int32.ofNat cs.length)), .val (.int (Int32.ofNat k)), .val (.int (cs.getD k 0))] [(.int (cs.getD k 0))])) _
        refine XS.bipush X5.here hx rfl (hb hby d_jdk_43_method_37_code_17) ?_
        exact Steps.refl _)
      by_cases hq8 : (cs.getD k 0) = (32 : Int32)
      · have c9 : Steps p.tables e below S0 (T5.setTop (mkF m 5 #[.val (.ref tx), .val (.int (Int32.ofNat cs.length)), .val (.int ((Int32.ofNat k) + (1 : Int32))), .val (.int (cs.getD k 0))] [])) := c7.trans (by
          show Steps p.tables e below (T5.setTop (mkF m 19 #[.val (.ref tx), .val (.int (Int32.ofNat cs.length)), .val (.int (Int32.ofNat k)), .val (.int (cs.getD k 0))] [(.int (32 : Int32)), (.int (cs.getD k 0))])) _
          refine XS.icmpYes X5.here hx rfl (pc0 := 19) (pc' := 41) rfl (hb hby d_jdk_43_method_37_code_19) rfl (teq hq8).1 (by decide) (by decide) ?_
          show Steps p.tables e below (T5.setTop (mkF m 41 #[.val (.ref tx), .val (.int (Int32.ofNat cs.length)), .val (.int (Int32.ofNat k)), .val (.int (cs.getD k 0))] [])) _
          refine XS.iinc X5.here hx rfl (hb hby d_jdk_43_method_37_code_41) rfl (l' := #[.val (.ref tx), .val (.int (Int32.ofNat cs.length)), .val (.int ((Int32.ofNat k) + (1 : Int32))), .val (.int (cs.getD k 0))]) rfl ?_
          show Steps p.tables e below (T5.setTop (mkF m 44 #[.val (.ref tx), .val (.int (Int32.ofNat cs.length)), .val (.int ((Int32.ofNat k) + (1 : Int32))), .val (.int (cs.getD k 0))] [])) _
          refine XS.goto X5.here hx rfl (pc0 := 44) (pc' := 5) rfl (hb hby d_jdk_43_method_37_code_44) (by decide) (by decide) ?_
          exact Steps.refl _)
        have wk : own_ws (cs.getD k 0) := (hq8 ▸ (by decide : own_ws 32))
        have nk : k ≠ j := fun z => hjw (z ▸ wk)
        exact absurd (by omega : k = j) nk
      · have c10 : Steps p.tables e below S0 (T5.setTop (mkF m 25 #[.val (.ref tx), .val (.int (Int32.ofNat cs.length)), .val (.int (Int32.ofNat k)), .val (.int (cs.getD k 0))] [(.int (9 : Int32)), (.int (cs.getD k 0))])) := c7.trans (by
          show Steps p.tables e below (T5.setTop (mkF m 19 #[.val (.ref tx), .val (.int (Int32.ofNat cs.length)), .val (.int (Int32.ofNat k)), .val (.int (cs.getD k 0))] [(.int (32 : Int32)), (.int (cs.getD k 0))])) _
          refine XS.icmpNo X5.here hx rfl (hb hby d_jdk_43_method_37_code_19) rfl (feq hq8).1 ?_
          show Steps p.tables e below (T5.setTop (mkF m 22 #[.val (.ref tx), .val (.int (Int32.ofNat cs.length)), .val (.int (Int32.ofNat k)), .val (.int (cs.getD k 0))] [])) _
          refine XS.iloadN X5.here hx rfl (hb hby d_jdk_43_method_37_code_22) rfl ?_
          show Steps p.tables e below (T5.setTop (mkF m 23 #[.val (.ref tx), .val (.int (Int32.ofNat cs.length)), .val (.int (Int32.ofNat k)), .val (.int (cs.getD k 0))] [(.int (cs.getD k 0))])) _
          refine XS.bipush X5.here hx rfl (hb hby d_jdk_43_method_37_code_23) ?_
          exact Steps.refl _)
        by_cases hq11 : (cs.getD k 0) = (9 : Int32)
        · have c12 : Steps p.tables e below S0 (T5.setTop (mkF m 5 #[.val (.ref tx), .val (.int (Int32.ofNat cs.length)), .val (.int ((Int32.ofNat k) + (1 : Int32))), .val (.int (cs.getD k 0))] [])) := c10.trans (by
            show Steps p.tables e below (T5.setTop (mkF m 25 #[.val (.ref tx), .val (.int (Int32.ofNat cs.length)), .val (.int (Int32.ofNat k)), .val (.int (cs.getD k 0))] [(.int (9 : Int32)), (.int (cs.getD k 0))])) _
            refine XS.icmpYes X5.here hx rfl (pc0 := 25) (pc' := 41) rfl (hb hby d_jdk_43_method_37_code_25) rfl (teq hq11).1 (by decide) (by decide) ?_
            show Steps p.tables e below (T5.setTop (mkF m 41 #[.val (.ref tx), .val (.int (Int32.ofNat cs.length)), .val (.int (Int32.ofNat k)), .val (.int (cs.getD k 0))] [])) _
            refine XS.iinc X5.here hx rfl (hb hby d_jdk_43_method_37_code_41) rfl (l' := #[.val (.ref tx), .val (.int (Int32.ofNat cs.length)), .val (.int ((Int32.ofNat k) + (1 : Int32))), .val (.int (cs.getD k 0))]) rfl ?_
            show Steps p.tables e below (T5.setTop (mkF m 44 #[.val (.ref tx), .val (.int (Int32.ofNat cs.length)), .val (.int ((Int32.ofNat k) + (1 : Int32))), .val (.int (cs.getD k 0))] [])) _
            refine XS.goto X5.here hx rfl (pc0 := 44) (pc' := 5) rfl (hb hby d_jdk_43_method_37_code_44) (by decide) (by decide) ?_
            exact Steps.refl _)
          have wk : own_ws (cs.getD k 0) := (hq11 ▸ (by decide : own_ws 9))
          have nk : k ≠ j := fun z => hjw (z ▸ wk)
          exact absurd (by omega : k = j) nk
        · have c13 : Steps p.tables e below S0 (T5.setTop (mkF m 28 #[.val (.ref tx), .val (.int (Int32.ofNat cs.length)), .val (.int (Int32.ofNat k)), .val (.int (cs.getD k 0))] [])) := c10.trans (by
            show Steps p.tables e below (T5.setTop (mkF m 25 #[.val (.ref tx), .val (.int (Int32.ofNat cs.length)), .val (.int (Int32.ofNat k)), .val (.int (cs.getD k 0))] [(.int (9 : Int32)), (.int (cs.getD k 0))])) _
            refine XS.icmpNo X5.here hx rfl (hb hby d_jdk_43_method_37_code_25) rfl (feq hq11).1 ?_
            exact Steps.refl _)
          obtain ⟨T14, X14, e14, st14⟩ := getS2 X5 hx hZ hown (host := "") (Or.inl (hw _ (List.mem_of_getElem? (i := 73) rfl))) Via.refl eq5 (sI.ext X00.2) (g := (mkF m 28 #[.val (.ref tx), .val (.int (Int32.ofNat cs.length)), .val (.int (Int32.ofNat k)), .val (.int (cs.getD k 0))] [])) rfl (hb hby d_jdk_43_method_37_code_28)
          have c15 : Steps p.tables e below S0 (T14.setTop (mkF m 31 #[.val (.ref tx), .val (.int (Int32.ofNat cs.length)), .val (.int (Int32.ofNat k)), .val (.int (cs.getD k 0))] [(.ref ci)])) := c13.trans (st14 _ (Steps.refl _))
          have c16 : Steps p.tables e below S0 (T14.setTop (mkF m 32 #[.val (.ref tx), .val (.int (Int32.ofNat cs.length)), .val (.int (Int32.ofNat k)), .val (.int (cs.getD k 0))] [(.int (cs.getD k 0)), (.ref ci)])) := c15.trans (by
            show Steps p.tables e below (T14.setTop (mkF m 31 #[.val (.ref tx), .val (.int (Int32.ofNat cs.length)), .val (.int (Int32.ofNat k)), .val (.int (cs.getD k 0))] [(.ref ci)])) _
            refine XS.iloadN X14.here hx rfl (hb hby d_jdk_43_method_37_code_31) rfl ?_
            exact Steps.refl _)
          obtain ⟨cq17, kq17, q17a, q17b, q17c⟩ := isOf hZ e14 (xI.ext X00.2)
          obtain ⟨_, _, ⟨T17, L17, kk17, nn17⟩, -, X17, ⟨Lc17, hQ17, l17, y17, z17⟩, st17⟩ := X14.virtualBack hx (y := (⟨"java/lang/CharacterDataLatin1", "isWhitespace", "(I)Z"⟩ : MethodName)) (z := (⟨"java/lang/CharacterDataLatin1", "isWhitespace", "(I)Z"⟩ : MethodName)) hown (mvT hZ (hw _ (List.mem_of_getElem? (i := 75) rfl))) (mvT hZ (hw _ (List.mem_of_getElem? (i := 76) rfl))) (notFace_of_selects (args := #[]) (mvT hZ (hw _ (List.mem_of_getElem? (i := 78) rfl)))) (mvT hZ (hw _ (List.mem_of_getElem? (i := 78) rfl))) (mvT hZ (hw _ (List.mem_of_getElem? (i := 77) rfl))) (by decide) (backOf (W := 0) (rmIW l Z a0 hw [] (cs.getD k 0) ci aA h0 n0 Z0 c8 sI xI sA hA X00) hZ (hw _ (List.mem_of_getElem? (i := 79) rfl)) (hw _ (List.mem_of_getElem? (i := 74) rfl)) (by decide) (by decide)) q17a q17c (g := (mkF m 32 #[.val (.ref tx), .val (.int (Int32.ofNat cs.length)), .val (.int (Int32.ofNat k)), .val (.int (cs.getD k 0))] [(.int (cs.getD k 0)), (.ref ci)])) rfl (by rw [hml]; rfl) (Steps.refl _) (argsL := [(.int (cs.getD k 0))]) (rest := []) (lenOf pd_oIcZ rfl) rfl (by show 2 * 0 + _ ≤ _; exact Nat.le_of_eq rfl) (hb hby d_jdk_43_method_37_code_32) (fun _ _ => ⟨rfl, e14, (by decide : 0 + 0 ≤ _), (by decide : 0 + 0 ≤ _)⟩)
          dsimp only [Pt.U, Pt.locs, Pt.cells, Pt.slots] at X17 l17 y17 z17 st17 hQ17
          subst l17 y17 z17
          obtain ⟨r17, rfl, hr17, Nq17, eq17⟩ := hQ17
          have c18 : Steps p.tables e below S0 (T17.setTop (mkF m 35 #[.val (.ref tx), .val (.int (Int32.ofNat cs.length)), .val (.int (Int32.ofNat k)), .val (.int (cs.getD k 0))] [(.int r17)])) := c16.trans (st17)
          have N17 := Fr.app N5 Nq17
          by_cases hq19 : r17 = (0 : Int32)
          · have c20 : Steps p.tables e below S0 (T17.setTop (mkF m 47 #[.val (.ref tx), .val (.int (Int32.ofNat cs.length)), .val (.int (Int32.ofNat k)), .val (.int (cs.getD k 0))] [])) := c18.trans (by
              show Steps p.tables e below (T17.setTop (mkF m 35 #[.val (.ref tx), .val (.int (Int32.ofNat cs.length)), .val (.int (Int32.ofNat k)), .val (.int (cs.getD k 0))] [(.int r17)])) _
              refine XS.ifNo X17.here hx rfl (hb hby d_jdk_43_method_37_code_35) rfl ((if0 _ _).trans (teq hq19).2) ?_
              show Steps p.tables e below (T17.setTop (mkF m 38 #[.val (.ref tx), .val (.int (Int32.ofNat cs.length)), .val (.int (Int32.ofNat k)), .val (.int (cs.getD k 0))] [])) _
              refine XS.goto X17.here hx rfl (pc0 := 38) (pc' := 47) rfl (hb hby d_jdk_43_method_37_code_38) (by decide) (by decide) ?_
              exact Steps.refl _)
            exact ⟨k, _, T17, _, by omega, N17, X17, eq17, c20⟩
          · have c21 : Steps p.tables e below S0 (T17.setTop (mkF m 5 #[.val (.ref tx), .val (.int (Int32.ofNat cs.length)), .val (.int ((Int32.ofNat k) + (1 : Int32))), .val (.int (cs.getD k 0))] [])) := c18.trans (by
              show Steps p.tables e below (T17.setTop (mkF m 35 #[.val (.ref tx), .val (.int (Int32.ofNat cs.length)), .val (.int (Int32.ofNat k)), .val (.int (cs.getD k 0))] [(.int r17)])) _
              refine XS.ifYes X17.here hx rfl (pc0 := 35) (pc' := 41) rfl (hb hby d_jdk_43_method_37_code_35) rfl ((if0 _ _).trans (feq hq19).2) (by decide) (by decide) ?_
              show Steps p.tables e below (T17.setTop (mkF m 41 #[.val (.ref tx), .val (.int (Int32.ofNat cs.length)), .val (.int (Int32.ofNat k)), .val (.int (cs.getD k 0))] [])) _
              refine XS.iinc X17.here hx rfl (hb hby d_jdk_43_method_37_code_41) rfl (l' := #[.val (.ref tx), .val (.int (Int32.ofNat cs.length)), .val (.int ((Int32.ofNat k) + (1 : Int32))), .val (.int (cs.getD k 0))]) rfl ?_
              show Steps p.tables e below (T17.setTop (mkF m 44 #[.val (.ref tx), .val (.int (Int32.ofNat cs.length)), .val (.int ((Int32.ofNat k) + (1 : Int32))), .val (.int (cs.getD k 0))] [])) _
              refine XS.goto X17.here hx rfl (pc0 := 44) (pc' := 5) rfl (hb hby d_jdk_43_method_37_code_44) (by decide) (by decide) ?_
              exact Steps.refl _)
            have wk : own_ws (cs.getD k 0) := (own_y hr17 hq19)
            have nk : k ≠ j := fun z => hjw (z ▸ wk)
            exact absurd (by omega : k = j) nk
    | succ n ih =>
      intro k o T locs hn hkj ho NN X eT cc
      have hk : k < cs.length := by omega
      have c8 := own_get8 h8 hk
      have c22 : Steps p.tables e below S0 (T.setTop (mkF m 12 #[.val (.ref tx), .val (.int (Int32.ofNat cs.length)), .val (.int (Int32.ofNat k)), o] [(.int (Int32.ofNat k)), (.ref tx)])) := cc.trans (by
        show Steps p.tables e below (T.setTop (mkF m 5 #[.val (.ref tx), .val (.int (Int32.ofNat cs.length)), .val (.int (Int32.ofNat k)), o] [])) _
        refine XS.iloadN X.here hx rfl (hb hby d_jdk_43_method_37_code_5) rfl ?_
        show Steps p.tables e below (T.setTop (mkF m 6 #[.val (.ref tx), .val (.int (Int32.ofNat cs.length)), .val (.int (Int32.ofNat k)), o] [(.int (Int32.ofNat k))])) _
        refine XS.iloadN X.here hx rfl (hb hby d_jdk_43_method_37_code_6) rfl ?_
        show Steps p.tables e below (T.setTop (mkF m 7 #[.val (.ref tx), .val (.int (Int32.ofNat cs.length)), .val (.int (Int32.ofNat k)), o] [(.int (Int32.ofNat cs.length)), (.int (Int32.ofNat k))])) _
        refine XS.icmpNo X.here hx rfl (hb hby d_jdk_43_method_37_code_7) rfl (tlt ((own_ofN_lt (by omega) (by omega)).mpr (by omega) : (Int32.ofNat k) < (Int32.ofNat cs.length))).2.1 ?_
        show Steps p.tables e below (T.setTop (mkF m 10 #[.val (.ref tx), .val (.int (Int32.ofNat cs.length)), .val (.int (Int32.ofNat k)), o] [])) _
        refine XS.aloadN X.here hx rfl (hb hby d_jdk_43_method_37_code_10) rfl rfl ?_
        show Steps p.tables e below (T.setTop (mkF m 11 #[.val (.ref tx), .val (.int (Int32.ofNat cs.length)), .val (.int (Int32.ofNat k)), o] [(.ref tx)])) _
        refine XS.iloadN X.here hx rfl (hb hby d_jdk_43_method_37_code_11) rfl ?_
        exact Steps.refl _)
      obtain ⟨_, _, ⟨T23, L23, kk23, nn23⟩, -, X23, ⟨Lc23, hQ23, l23, y23, z23⟩, st23⟩ := Jvm.LawKit.callS X hx (y := (⟨"java/lang/StringLatin1", "getChar", "([BI)C"⟩ : MethodName)) hown (mvT hZ (hw _ (List.mem_of_getElem? (i := 70) rfl))) (mvT hZ (hw _ (List.mem_of_getElem? (i := 71) rfl))) (mvT hZ (hw _ (List.mem_of_getElem? (i := 35) rfl))) (mvT hZ (hw _ (List.mem_of_getElem? (i := 72) rfl))) (by decide) (backOf (W := 0) (rmGC l Z a0 hw [] tx kx cs k h0 n0 Z0 Vx h8 hl hk) hZ (hw _ (List.mem_of_getElem? (i := 72) rfl)) (hw _ (List.mem_of_getElem? (i := 35) rfl)) (by decide) (by decide)) (g := (mkF m 12 #[.val (.ref tx), .val (.int (Int32.ofNat cs.length)), .val (.int (Int32.ofNat k)), o] [(.int (Int32.ofNat k)), (.ref tx)])) rfl (by rw [hml]; rfl) (argsL := [(.ref tx), (.int (Int32.ofNat k))]) (rest := []) (lenOf pd_oaBIcC rfl) rfl (by show 2 * 0 + _ ≤ _; exact Nat.le_of_eq rfl) (hb hby d_jdk_43_method_37_code_12) (fun _ _ => ⟨rfl, eT, (by decide : 0 + 0 ≤ _), (by decide : 0 + 0 ≤ _)⟩)
      dsimp only [Pt.U, Pt.locs, Pt.cells, Pt.slots] at X23 l23 y23 z23 st23 hQ23
      subst l23 y23 z23
      obtain ⟨rfl, Nq23, eq23⟩ := hQ23
      have c24 : Steps p.tables e below S0 (T23.setTop (mkF m 15 #[.val (.ref tx), .val (.int (Int32.ofNat cs.length)), .val (.int (Int32.ofNat k)), o] [(.int (cs.getD k 0))])) := c22.trans (st23 _ (Steps.refl _))
      have N23 := Fr.app NN Nq23
      have c25 : Steps p.tables e below S0 (T23.setTop (mkF m 19 #[.val (.ref tx), .val (.int (Int32.ofNat cs.length)), .val (.int (Int32.ofNat k)), .val (.int (cs.getD k 0))] [(.int (32 : Int32)), (.int (cs.getD k 0))])) := c24.trans (by
        show Steps p.tables e below (T23.setTop (mkF m 15 #[.val (.ref tx), .val (.int (Int32.ofNat cs.length)), .val (.int (Int32.ofNat k)), o] [(.int (cs.getD k 0))])) _
        refine XS.istoreNS X23.here hx rfl (hb hby d_jdk_43_method_37_code_15) rfl rfl ho ?_
        show Steps p.tables e below (T23.setTop (mkF m 16 #[.val (.ref tx), .val (.int (Int32.ofNat cs.length)), .val (.int (Int32.ofNat k)), .val (.int (cs.getD k 0))] [])) _
        refine XS.iloadN X23.here hx rfl (hb hby d_jdk_43_method_37_code_16) rfl ?_
        show Steps p.tables e below (T23.setTop (mkF m 17 #[.val (.ref tx), .val (.int (Int32.ofNat cs.length)), .val (.int (Int32.ofNat k)), .val (.int (cs.getD k 0))] [(.int (cs.getD k 0))])) _
        refine XS.bipush X23.here hx rfl (hb hby d_jdk_43_method_37_code_17) ?_
        exact Steps.refl _)
      by_cases hq26 : (cs.getD k 0) = (32 : Int32)
      · have c27 : Steps p.tables e below S0 (T23.setTop (mkF m 5 #[.val (.ref tx), .val (.int (Int32.ofNat cs.length)), .val (.int ((Int32.ofNat k) + (1 : Int32))), .val (.int (cs.getD k 0))] [])) := c25.trans (by
          show Steps p.tables e below (T23.setTop (mkF m 19 #[.val (.ref tx), .val (.int (Int32.ofNat cs.length)), .val (.int (Int32.ofNat k)), .val (.int (cs.getD k 0))] [(.int (32 : Int32)), (.int (cs.getD k 0))])) _
          refine XS.icmpYes X23.here hx rfl (pc0 := 19) (pc' := 41) rfl (hb hby d_jdk_43_method_37_code_19) rfl (teq hq26).1 (by decide) (by decide) ?_
          show Steps p.tables e below (T23.setTop (mkF m 41 #[.val (.ref tx), .val (.int (Int32.ofNat cs.length)), .val (.int (Int32.ofNat k)), .val (.int (cs.getD k 0))] [])) _
          refine XS.iinc X23.here hx rfl (hb hby d_jdk_43_method_37_code_41) rfl (l' := #[.val (.ref tx), .val (.int (Int32.ofNat cs.length)), .val (.int ((Int32.ofNat k) + (1 : Int32))), .val (.int (cs.getD k 0))]) rfl ?_
          show Steps p.tables e below (T23.setTop (mkF m 44 #[.val (.ref tx), .val (.int (Int32.ofNat cs.length)), .val (.int ((Int32.ofNat k) + (1 : Int32))), .val (.int (cs.getD k 0))] [])) _
          refine XS.goto X23.here hx rfl (pc0 := 44) (pc' := 5) rfl (hb hby d_jdk_43_method_37_code_44) (by decide) (by decide) ?_
          exact Steps.refl _)
        have wk : own_ws (cs.getD k 0) := (hq26 ▸ (by decide : own_ws 32))
        have nk : k ≠ j := fun z => hjw (z ▸ wk)
        have e1 : Int32.ofNat k + (1 : Int32) = Int32.ofNat (k + 1) := (inc_ofNat k).symm
        rw [e1] at c27
        exact ih (k + 1) _ _ _ (by omega) (by omega) (Or.inr ⟨_, rfl, rfl⟩) N23 X23 eq23 c27
      · have c28 : Steps p.tables e below S0 (T23.setTop (mkF m 25 #[.val (.ref tx), .val (.int (Int32.ofNat cs.length)), .val (.int (Int32.ofNat k)), .val (.int (cs.getD k 0))] [(.int (9 : Int32)), (.int (cs.getD k 0))])) := c25.trans (by
          show Steps p.tables e below (T23.setTop (mkF m 19 #[.val (.ref tx), .val (.int (Int32.ofNat cs.length)), .val (.int (Int32.ofNat k)), .val (.int (cs.getD k 0))] [(.int (32 : Int32)), (.int (cs.getD k 0))])) _
          refine XS.icmpNo X23.here hx rfl (hb hby d_jdk_43_method_37_code_19) rfl (feq hq26).1 ?_
          show Steps p.tables e below (T23.setTop (mkF m 22 #[.val (.ref tx), .val (.int (Int32.ofNat cs.length)), .val (.int (Int32.ofNat k)), .val (.int (cs.getD k 0))] [])) _
          refine XS.iloadN X23.here hx rfl (hb hby d_jdk_43_method_37_code_22) rfl ?_
          show Steps p.tables e below (T23.setTop (mkF m 23 #[.val (.ref tx), .val (.int (Int32.ofNat cs.length)), .val (.int (Int32.ofNat k)), .val (.int (cs.getD k 0))] [(.int (cs.getD k 0))])) _
          refine XS.bipush X23.here hx rfl (hb hby d_jdk_43_method_37_code_23) ?_
          exact Steps.refl _)
        by_cases hq29 : (cs.getD k 0) = (9 : Int32)
        · have c30 : Steps p.tables e below S0 (T23.setTop (mkF m 5 #[.val (.ref tx), .val (.int (Int32.ofNat cs.length)), .val (.int ((Int32.ofNat k) + (1 : Int32))), .val (.int (cs.getD k 0))] [])) := c28.trans (by
            show Steps p.tables e below (T23.setTop (mkF m 25 #[.val (.ref tx), .val (.int (Int32.ofNat cs.length)), .val (.int (Int32.ofNat k)), .val (.int (cs.getD k 0))] [(.int (9 : Int32)), (.int (cs.getD k 0))])) _
            refine XS.icmpYes X23.here hx rfl (pc0 := 25) (pc' := 41) rfl (hb hby d_jdk_43_method_37_code_25) rfl (teq hq29).1 (by decide) (by decide) ?_
            show Steps p.tables e below (T23.setTop (mkF m 41 #[.val (.ref tx), .val (.int (Int32.ofNat cs.length)), .val (.int (Int32.ofNat k)), .val (.int (cs.getD k 0))] [])) _
            refine XS.iinc X23.here hx rfl (hb hby d_jdk_43_method_37_code_41) rfl (l' := #[.val (.ref tx), .val (.int (Int32.ofNat cs.length)), .val (.int ((Int32.ofNat k) + (1 : Int32))), .val (.int (cs.getD k 0))]) rfl ?_
            show Steps p.tables e below (T23.setTop (mkF m 44 #[.val (.ref tx), .val (.int (Int32.ofNat cs.length)), .val (.int ((Int32.ofNat k) + (1 : Int32))), .val (.int (cs.getD k 0))] [])) _
            refine XS.goto X23.here hx rfl (pc0 := 44) (pc' := 5) rfl (hb hby d_jdk_43_method_37_code_44) (by decide) (by decide) ?_
            exact Steps.refl _)
          have wk : own_ws (cs.getD k 0) := (hq29 ▸ (by decide : own_ws 9))
          have nk : k ≠ j := fun z => hjw (z ▸ wk)
          have e1 : Int32.ofNat k + (1 : Int32) = Int32.ofNat (k + 1) := (inc_ofNat k).symm
          rw [e1] at c30
          exact ih (k + 1) _ _ _ (by omega) (by omega) (Or.inr ⟨_, rfl, rfl⟩) N23 X23 eq23 c30
        · have c31 : Steps p.tables e below S0 (T23.setTop (mkF m 28 #[.val (.ref tx), .val (.int (Int32.ofNat cs.length)), .val (.int (Int32.ofNat k)), .val (.int (cs.getD k 0))] [])) := c28.trans (by
            show Steps p.tables e below (T23.setTop (mkF m 25 #[.val (.ref tx), .val (.int (Int32.ofNat cs.length)), .val (.int (Int32.ofNat k)), .val (.int (cs.getD k 0))] [(.int (9 : Int32)), (.int (cs.getD k 0))])) _
            refine XS.icmpNo X23.here hx rfl (hb hby d_jdk_43_method_37_code_25) rfl (feq hq29).1 ?_
            exact Steps.refl _)
          obtain ⟨T32, X32, e32, st32⟩ := getS2 X23 hx hZ hown (host := "") (Or.inl (hw _ (List.mem_of_getElem? (i := 73) rfl))) Via.refl eq23 (sI.ext X00.2) (g := (mkF m 28 #[.val (.ref tx), .val (.int (Int32.ofNat cs.length)), .val (.int (Int32.ofNat k)), .val (.int (cs.getD k 0))] [])) rfl (hb hby d_jdk_43_method_37_code_28)
          have c33 : Steps p.tables e below S0 (T32.setTop (mkF m 31 #[.val (.ref tx), .val (.int (Int32.ofNat cs.length)), .val (.int (Int32.ofNat k)), .val (.int (cs.getD k 0))] [(.ref ci)])) := c31.trans (st32 _ (Steps.refl _))
          have c34 : Steps p.tables e below S0 (T32.setTop (mkF m 32 #[.val (.ref tx), .val (.int (Int32.ofNat cs.length)), .val (.int (Int32.ofNat k)), .val (.int (cs.getD k 0))] [(.int (cs.getD k 0)), (.ref ci)])) := c33.trans (by
            show Steps p.tables e below (T32.setTop (mkF m 31 #[.val (.ref tx), .val (.int (Int32.ofNat cs.length)), .val (.int (Int32.ofNat k)), .val (.int (cs.getD k 0))] [(.ref ci)])) _
            refine XS.iloadN X32.here hx rfl (hb hby d_jdk_43_method_37_code_31) rfl ?_
            exact Steps.refl _)
          obtain ⟨cq35, kq35, q35a, q35b, q35c⟩ := isOf hZ e32 (xI.ext X00.2)
          obtain ⟨_, _, ⟨T35, L35, kk35, nn35⟩, -, X35, ⟨Lc35, hQ35, l35, y35, z35⟩, st35⟩ := X32.virtualBack hx (y := (⟨"java/lang/CharacterDataLatin1", "isWhitespace", "(I)Z"⟩ : MethodName)) (z := (⟨"java/lang/CharacterDataLatin1", "isWhitespace", "(I)Z"⟩ : MethodName)) hown (mvT hZ (hw _ (List.mem_of_getElem? (i := 75) rfl))) (mvT hZ (hw _ (List.mem_of_getElem? (i := 76) rfl))) (notFace_of_selects (args := #[]) (mvT hZ (hw _ (List.mem_of_getElem? (i := 78) rfl)))) (mvT hZ (hw _ (List.mem_of_getElem? (i := 78) rfl))) (mvT hZ (hw _ (List.mem_of_getElem? (i := 77) rfl))) (by decide) (backOf (W := 0) (rmIW l Z a0 hw [] (cs.getD k 0) ci aA h0 n0 Z0 c8 sI xI sA hA X00) hZ (hw _ (List.mem_of_getElem? (i := 79) rfl)) (hw _ (List.mem_of_getElem? (i := 74) rfl)) (by decide) (by decide)) q35a q35c (g := (mkF m 32 #[.val (.ref tx), .val (.int (Int32.ofNat cs.length)), .val (.int (Int32.ofNat k)), .val (.int (cs.getD k 0))] [(.int (cs.getD k 0)), (.ref ci)])) rfl (by rw [hml]; rfl) (Steps.refl _) (argsL := [(.int (cs.getD k 0))]) (rest := []) (lenOf pd_oIcZ rfl) rfl (by show 2 * 0 + _ ≤ _; exact Nat.le_of_eq rfl) (hb hby d_jdk_43_method_37_code_32) (fun _ _ => ⟨rfl, e32, (by decide : 0 + 0 ≤ _), (by decide : 0 + 0 ≤ _)⟩)
          dsimp only [Pt.U, Pt.locs, Pt.cells, Pt.slots] at X35 l35 y35 z35 st35 hQ35
          subst l35 y35 z35
          obtain ⟨r35, rfl, hr35, Nq35, eq35⟩ := hQ35
          have c36 : Steps p.tables e below S0 (T35.setTop (mkF m 35 #[.val (.ref tx), .val (.int (Int32.ofNat cs.length)), .val (.int (Int32.ofNat k)), .val (.int (cs.getD k 0))] [(.int r35)])) := c34.trans (st35)
          have N35 := Fr.app N23 Nq35
          by_cases hq37 : r35 = (0 : Int32)
          · have c38 : Steps p.tables e below S0 (T35.setTop (mkF m 47 #[.val (.ref tx), .val (.int (Int32.ofNat cs.length)), .val (.int (Int32.ofNat k)), .val (.int (cs.getD k 0))] [])) := c36.trans (by
              show Steps p.tables e below (T35.setTop (mkF m 35 #[.val (.ref tx), .val (.int (Int32.ofNat cs.length)), .val (.int (Int32.ofNat k)), .val (.int (cs.getD k 0))] [(.int r35)])) _
              refine XS.ifNo X35.here hx rfl (hb hby d_jdk_43_method_37_code_35) rfl ((if0 _ _).trans (teq hq37).2) ?_
              show Steps p.tables e below (T35.setTop (mkF m 38 #[.val (.ref tx), .val (.int (Int32.ofNat cs.length)), .val (.int (Int32.ofNat k)), .val (.int (cs.getD k 0))] [])) _
              refine XS.goto X35.here hx rfl (pc0 := 38) (pc' := 47) rfl (hb hby d_jdk_43_method_37_code_38) (by decide) (by decide) ?_
              exact Steps.refl _)
            exact ⟨k, _, T35, _, by omega, N35, X35, eq35, c38⟩
          · have c39 : Steps p.tables e below S0 (T35.setTop (mkF m 5 #[.val (.ref tx), .val (.int (Int32.ofNat cs.length)), .val (.int ((Int32.ofNat k) + (1 : Int32))), .val (.int (cs.getD k 0))] [])) := c36.trans (by
              show Steps p.tables e below (T35.setTop (mkF m 35 #[.val (.ref tx), .val (.int (Int32.ofNat cs.length)), .val (.int (Int32.ofNat k)), .val (.int (cs.getD k 0))] [(.int r35)])) _
              refine XS.ifYes X35.here hx rfl (pc0 := 35) (pc' := 41) rfl (hb hby d_jdk_43_method_37_code_35) rfl ((if0 _ _).trans (feq hq37).2) (by decide) (by decide) ?_
              show Steps p.tables e below (T35.setTop (mkF m 41 #[.val (.ref tx), .val (.int (Int32.ofNat cs.length)), .val (.int (Int32.ofNat k)), .val (.int (cs.getD k 0))] [])) _
              refine XS.iinc X35.here hx rfl (hb hby d_jdk_43_method_37_code_41) rfl (l' := #[.val (.ref tx), .val (.int (Int32.ofNat cs.length)), .val (.int ((Int32.ofNat k) + (1 : Int32))), .val (.int (cs.getD k 0))]) rfl ?_
              show Steps p.tables e below (T35.setTop (mkF m 44 #[.val (.ref tx), .val (.int (Int32.ofNat cs.length)), .val (.int ((Int32.ofNat k) + (1 : Int32))), .val (.int (cs.getD k 0))] [])) _
              refine XS.goto X35.here hx rfl (pc0 := 44) (pc' := 5) rfl (hb hby d_jdk_43_method_37_code_44) (by decide) (by decide) ?_
              exact Steps.refl _)
            have wk : own_ws (cs.getD k 0) := (own_y hr35 hq37)
            have nk : k ≠ j := fun z => hjw (z ▸ wk)
            have e1 : Int32.ofNat k + (1 : Int32) = Int32.ofNat (k + 1) := (inc_ofNat k).symm
            rw [e1] at c39
            exact ih (k + 1) _ _ _ (by omega) (by omega) (Or.inr ⟨_, rfl, rfl⟩) N35 X35 eq35 c39
  obtain ⟨k9, o9, T9, l9, hk9, N9, X9, e9, c9⟩ := lp _ 0 _ _ _ rfl (Nat.zero_le _) (Or.inl rfl) N0 X0 e0 c3
  have c40 : Steps p.tables e below S0 (T9.setTop (mkF m 48 #[.val (.ref tx), .val (.int (Int32.ofNat cs.length)), .val (.int (Int32.ofNat k9)), o9] [(.int (Int32.ofNat k9))])) := c9.trans (by
    show Steps p.tables e below (T9.setTop (mkF m 47 #[.val (.ref tx), .val (.int (Int32.ofNat cs.length)), .val (.int (Int32.ofNat k9)), o9] [])) _
    refine XS.iloadN X9.here hx rfl (hb hby d_jdk_43_method_37_code_47) rfl ?_
    exact Steps.refl _)
  obtain ⟨fs, hr, hrun, hended, hW, hsame⟩ := X9.leave (v := some (.int (Int32.ofNat k9))) (fun h => by rw [Bd.returns] at h; cases h)
  refine ⟨_, _, c40.trans (retOut X9 hx Bd.returns rfl (Or.inl ⟨rfl, by simp, _, rfl⟩) (hb hby d_jdk_43_method_37_code_48) hr), hrun, hended, _, _, rfl, ?_, ⟨_, rfl⟩, hW, hsame.mono (by decide) (by decide)⟩
  show QLI Z cs.length h0 n0 _ T9.heap _
  rw [e9]
  exact ⟨_, rfl, hk9, N9, rfl⟩

theorem d_jdk_42_method_154_code_0 : decode jdk_42_method_154_code 0 = .ok (.getstatic 38, 3) := by decide +kernel
theorem d_jdk_42_method_154_code_3 : decode jdk_42_method_154_code 3 = .ok (.ifCond .eq 14, 3) := by decide +kernel
theorem d_jdk_42_method_154_code_6 : decode jdk_42_method_154_code 6 = .ok (.aload_n 0, 1) := by decide +kernel
theorem d_jdk_42_method_154_code_7 : decode jdk_42_method_154_code 7 = .ok (.getfield 15, 3) := by decide +kernel
theorem d_jdk_42_method_154_code_10 : decode jdk_42_method_154_code 10 = .ok (.ifCond .ne 7, 3) := by decide +kernel
theorem d_jdk_42_method_154_code_13 : decode jdk_42_method_154_code 13 = .ok (.iconst 1, 1) := by decide +kernel
theorem d_jdk_42_method_154_code_14 : decode jdk_42_method_154_code 14 = .ok (.goto 4, 3) := by decide +kernel
theorem d_jdk_42_method_154_code_18 : decode jdk_42_method_154_code 18 = .ok (.ireturn, 1) := by decide +kernel
theorem ef_rmIL (m : MethodId) (x0 : Addr) : entryFrame m #[(.ref x0)] 1 = mkF m 0 #[.val (.ref x0)] [] := by first | (simp [entryFrame, mkF, argsToLocals, Value.category]; done) | rfl
set_option maxRecDepth 65536 in
set_option maxHeartbeats 40000000 in
theorem rmIL (l : Launch) (Z : State) (a0 : Array Value) (hw : ∀ d ∈ tables_1, d.before a0 Z = true) (ws : List Jvm.Cond) (sx : Addr) (G1 : Int32) (h0 : Heap) (n0 : Nat) (Z0 : n0 ≤ h0.size) (Fc : Fld Z h0 sx "java/lang/String" "coder" "B" (.int 0)) (O2 : Sta Z Z.heap "java/lang/String" "COMPACT_STRINGS" "Z" (.int G1)) (P5 : ¬ G1 = 0) (X00 : Old Z n0 h0) :
    MetFree l (⟨"java/lang/String", "isLatin1", "()Z"⟩ : MethodName) (head1 (Jvm.Cond.code (⟨"java/lang/String", "isLatin1", "()Z"⟩ : MethodName) jdk_42_method_154_code 1 (some .boolean) :: ws) ({ frames := 0, cells := 0, slots := 0, locals := 0 } : Room)) (fun aa U => aa = #[(.ref sx)] ∧ Z.Warmed39 U.vm ∧ U.heap = h0) (fun _ _ _ _ _ => True) (fun _ U o U' => ∃ v L, o = .returned v ∧ QInt Z 1 h0 n0 v U'.heap L ∧ FrameEnd U o U' L ({ frames := 0, cells := 0, slots := 0, locals := 0 } : Room).cells ({ frames := 0, cells := 0, slots := 0, locals := 0 } : Room).slots) := by
  refine MetFree.of_bodySF (plainFor_of_name pn_java_lang_String) hisR ?_
  intro p e s m args below meth c s₁ Bd hml0 hP hK
  obtain ⟨rfl, hZ, hh⟩ := hP
  have hx := Bd.exec
  have hby := Bd.bytes
  have hml : c.maxLocals = 1 := hml0
  have hown : s.vm.findClass "java/lang/String" = some m.cls := findClass_of_methodNamed Bd.named
  have hnm := (name_of_methodNamed Bd.named Bd.method).1
  have X0 : Stand p l e ({ frames := 0, cells := 0, slots := 0, locals := 0 } : Room) s m #[(.ref sx)] below meth c s₁ [] 0 0 := Stand.of_body Bd
  have e0 : s₁.heap = h0 := by rw [← hh, Bd.state]; rfl
  have N0 := Fr.nil n0
  have K0 := Keep.refl h0 []
  obtain ⟨S0, hS0⟩ : ∃ z, z = s₁.setTop (entryFrame m #[(.ref sx)] 1) := ⟨_, rfl⟩
  rw [← hS0]
  have c0 : Steps p.tables e below S0 (s₁.setTop (mkF m 0 #[.val (.ref sx)] [])) := by
    rw [hS0]; exact castTop (ef_rmIL m sx) (Steps.refl _)
  obtain ⟨T1, X1, e1, st1⟩ := getS2 X0 hx hZ hown (host := "") (Or.inl (hw _ (List.mem_of_getElem? (i := 14) rfl))) Via.refl e0 (O2.ext X00.2) (g := (mkF m 0 #[.val (.ref sx)] [])) rfl (hb hby d_jdk_42_method_154_code_0)
  have c2 : Steps p.tables e below S0 (T1.setTop (mkF m 3 #[.val (.ref sx)] [(.int G1)])) := c0.trans (st1 _ (Steps.refl _))
  have c3 : Steps p.tables e below S0 (T1.setTop (mkF m 7 #[.val (.ref sx)] [(.ref sx)])) := c2.trans (by
    show Steps p.tables e below (T1.setTop (mkF m 3 #[.val (.ref sx)] [(.int G1)])) _
    refine XS.ifNo X1.here hx rfl (hb hby d_jdk_42_method_154_code_3) rfl ((if0 _ _).trans (feq P5).1) ?_
    show Steps p.tables e below (T1.setTop (mkF m 6 #[.val (.ref sx)] [])) _
    refine XS.aloadN X1.here hx rfl (hb hby d_jdk_42_method_154_code_6) rfl rfl ?_
    exact Steps.refl _)
  obtain ⟨T4, X4, e4, st4⟩ := getF X1 hx hZ hown (host := "") (Or.inl (hw _ (List.mem_of_getElem? (i := 26) rfl))) Via.refl e1 Fc (g := (mkF m 7 #[.val (.ref sx)] [(.ref sx)])) rfl rfl (hb hby d_jdk_42_method_154_code_7)
  have c5 : Steps p.tables e below S0 (T4.setTop (mkF m 10 #[.val (.ref sx)] [(.int (0 : Int32))])) := c3.trans (st4 _ (Steps.refl _))
  have c6 : Steps p.tables e below S0 (T4.setTop (mkF m 18 #[.val (.ref sx)] [(.int (1 : Int32))])) := c5.trans (by
    show Steps p.tables e below (T4.setTop (mkF m 10 #[.val (.ref sx)] [(.int (0 : Int32))])) _
    refine XS.ifNo X4.here hx rfl (hb hby d_jdk_42_method_154_code_10) rfl ((if0 _ _).trans (teq (by decide : ((0 : Int32) = (0 : Int32)))).2) ?_
    show Steps p.tables e below (T4.setTop (mkF m 13 #[.val (.ref sx)] [])) _
    refine XS.iconst X4.here hx rfl (hb hby d_jdk_42_method_154_code_13) ?_
    show Steps p.tables e below (T4.setTop (mkF m 14 #[.val (.ref sx)] [(.int (1 : Int32))])) _
    refine XS.goto X4.here hx rfl (pc0 := 14) (pc' := 18) rfl (hb hby d_jdk_42_method_154_code_14) (by decide) (by decide) ?_
    exact Steps.refl _)
  obtain ⟨fs, hr, hrun, hended, hW, hsame⟩ := X4.leave (v := some (.int (1 : Int32))) (fun h => by rw [Bd.returns] at h; cases h)
  refine ⟨_, _, c6.trans (retOut X4 hx Bd.returns rfl (Or.inl ⟨rfl, by simp, _, rfl⟩) (hb hby d_jdk_42_method_154_code_18) hr), hrun, hended, _, _, rfl, ?_, ⟨_, rfl⟩, hW, hsame.mono (by decide) (by decide)⟩
  show QInt Z 1 h0 n0 _ T4.heap _
  rw [e4]
  exact ⟨rfl, N0, rfl⟩

theorem d_jdk_42_method_120_code_0 : decode jdk_42_method_120_code 0 = .ok (.aload_n 0, 1) := by decide +kernel
theorem pd_ocZ : parseMethodDescriptor "()Z" = some ⟨[], some .boolean⟩ := by decide +kernel
theorem d_jdk_42_method_120_code_1 : decode jdk_42_method_120_code 1 = .ok (.invokevirtual 492, 3) := by decide +kernel
theorem d_jdk_42_method_120_code_4 : decode jdk_42_method_120_code 4 = .ok (.ifCond .eq 13, 3) := by decide +kernel
theorem d_jdk_42_method_120_code_7 : decode jdk_42_method_120_code 7 = .ok (.aload_n 0, 1) := by decide +kernel
theorem d_jdk_42_method_120_code_8 : decode jdk_42_method_120_code 8 = .ok (.getfield 9, 3) := by decide +kernel
theorem pd_oaBcI : parseMethodDescriptor "([B)I" = some ⟨[(.array .byte)], some .int⟩ := by decide +kernel
theorem d_jdk_42_method_120_code_11 : decode jdk_42_method_120_code 11 = .ok (.invokestatic 924, 3) := by decide +kernel
theorem d_jdk_42_method_120_code_14 : decode jdk_42_method_120_code 14 = .ok (.goto 10, 3) := by decide +kernel
theorem d_jdk_42_method_120_code_24 : decode jdk_42_method_120_code 24 = .ok (.ireturn, 1) := by decide +kernel
theorem ef_rmSI (m : MethodId) (x0 : Addr) : entryFrame m #[(.ref x0)] 1 = mkF m 0 #[.val (.ref x0)] [] := by first | (simp [entryFrame, mkF, argsToLocals, Value.category]; done) | rfl
set_option maxRecDepth 65536 in
set_option maxHeartbeats 40000000 in
theorem rmSI (l : Launch) (Z : State) (a0 : Array Value) (hw : ∀ d ∈ tables_1, d.before a0 Z = true) (ws : List Jvm.Cond) (sx tx : Addr) (kx : ClassId) (cs : List Int32) (j : Nat) (ci aA : Addr) (G1 : Int32) (h0 : Heap) (n0 : Nat) (Z0 : n0 ≤ h0.size) (Sx : OStr Z h0 sx tx kx cs) (hj : j < cs.length) (hjw : ¬ own_ws (cs.getD j 0)) (sI : Sta Z Z.heap "java/lang/CharacterDataLatin1" "instance" "Ljava/lang/CharacterDataLatin1;" (.ref ci)) (xI : Exa Z Z.heap ci "java/lang/CharacterDataLatin1") (sA : Sta Z Z.heap "java/lang/CharacterDataLatin1" "A" "[I" (.ref aA)) (hA : AOk Z aA) (O2 : Sta Z Z.heap "java/lang/String" "COMPACT_STRINGS" "Z" (.int G1)) (P5 : ¬ G1 = 0) (X00 : Old Z n0 h0) :
    MetFree l (⟨"java/lang/String", "indexOfNonWhitespace", "()I"⟩ : MethodName) (head1 (Jvm.Cond.code (⟨"java/lang/String", "indexOfNonWhitespace", "()I"⟩ : MethodName) jdk_42_method_120_code 1 (some .int) :: ws) ({ frames := 3, cells := 0, slots := 0, locals := 44 } : Room)) (fun aa U => aa = #[(.ref sx)] ∧ Z.Warmed39 U.vm ∧ U.heap = h0) (fun _ _ _ _ _ => True) (fun _ U o U' => ∃ v L, o = .returned v ∧ QLI Z cs.length h0 n0 v U'.heap L ∧ FrameEnd U o U' L ({ frames := 3, cells := 0, slots := 0, locals := 44 } : Room).cells ({ frames := 3, cells := 0, slots := 0, locals := 44 } : Room).slots) := by
  refine MetFree.of_bodySF (plainFor_of_name pn_java_lang_String) hisR ?_
  intro p e s m args below meth c s₁ Bd hml0 hP hK
  obtain ⟨rfl, hZ, hh⟩ := hP
  have hx := Bd.exec
  have hby := Bd.bytes
  have hml : c.maxLocals = 1 := hml0
  have hown : s.vm.findClass "java/lang/String" = some m.cls := findClass_of_methodNamed Bd.named
  have hnm := (name_of_methodNamed Bd.named Bd.method).1
  have X0 : Stand p l e ({ frames := 3, cells := 0, slots := 0, locals := 44 } : Room) s m #[(.ref sx)] below meth c s₁ [] 0 0 := Stand.of_body Bd
  have e0 : s₁.heap = h0 := by rw [← hh, Bd.state]; rfl
  have N0 := Fr.nil n0
  have K0 := Keep.refl h0 []
  obtain ⟨S0, hS0⟩ : ∃ z, z = s₁.setTop (entryFrame m #[(.ref sx)] 1) := ⟨_, rfl⟩
  rw [← hS0]
  have c0 : Steps p.tables e below S0 (s₁.setTop (mkF m 0 #[.val (.ref sx)] [])) := by
    rw [hS0]; exact castTop (ef_rmSI m sx) (Steps.refl _)
  have c1 : Steps p.tables e below S0 (s₁.setTop (mkF m 1 #[.val (.ref sx)] [(.ref sx)])) := c0.trans (by
    show Steps p.tables e below (s₁.setTop (mkF m 0 #[.val (.ref sx)] [])) _
    refine XS.aloadN X0.here hx rfl (hb hby d_jdk_42_method_120_code_0) rfl rfl ?_
    exact Steps.refl _)
  obtain ⟨cq2, kq2, q2a, q2b, q2c⟩ := isOf hZ e0 Sx.1
  obtain ⟨_, _, ⟨T2, L2, kk2, nn2⟩, -, X2, ⟨Lc2, hQ2, l2, y2, z2⟩, st2⟩ := X0.virtualBack hx (y := (⟨"java/lang/String", "isLatin1", "()Z"⟩ : MethodName)) (z := (⟨"java/lang/String", "isLatin1", "()Z"⟩ : MethodName)) hown (mvT hZ (hw _ (List.mem_of_getElem? (i := 62) rfl))) (mvT hZ (hw _ (List.mem_of_getElem? (i := 63) rfl))) (notFace_of_selects (args := #[]) (mvT hZ (hw _ (List.mem_of_getElem? (i := 65) rfl)))) (mvT hZ (hw _ (List.mem_of_getElem? (i := 65) rfl))) (mvT hZ (hw _ (List.mem_of_getElem? (i := 64) rfl))) (by decide) (backOf (W := 0) (rmIL l Z a0 hw [] sx G1 h0 n0 Z0 Sx.2.2.1 O2 P5 X00) hZ (hw _ (List.mem_of_getElem? (i := 66) rfl)) (hw _ (List.mem_of_getElem? (i := 3) rfl)) (by decide) (by decide)) q2a q2c (g := (mkF m 1 #[.val (.ref sx)] [(.ref sx)])) rfl (by rw [hml]; rfl) (Steps.refl _) (argsL := []) (rest := []) (lenOf pd_ocZ rfl) rfl (by show 2 * 0 + _ ≤ _; exact Nat.le_of_eq rfl) (hb hby d_jdk_42_method_120_code_1) (fun _ _ => ⟨rfl, e0, (by decide : 0 + 0 ≤ _), (by decide : 0 + 0 ≤ _)⟩)
  dsimp only [Pt.U, Pt.locs, Pt.cells, Pt.slots] at X2 l2 y2 z2 st2 hQ2
  subst l2 y2 z2
  obtain ⟨rfl, Nq2, eq2⟩ := hQ2
  have c3 : Steps p.tables e below S0 (T2.setTop (mkF m 4 #[.val (.ref sx)] [(.int (1 : Int32))])) := c1.trans (st2)
  have N2 := Fr.app N0 Nq2
  have c4 : Steps p.tables e below S0 (T2.setTop (mkF m 8 #[.val (.ref sx)] [(.ref sx)])) := c3.trans (by
    show Steps p.tables e below (T2.setTop (mkF m 4 #[.val (.ref sx)] [(.int (1 : Int32))])) _
    refine XS.ifNo X2.here hx rfl (hb hby d_jdk_42_method_120_code_4) rfl ((if0 _ _).trans (feq (by decide : ¬ ((1 : Int32) = (0 : Int32)))).1) ?_
    show Steps p.tables e below (T2.setTop (mkF m 7 #[.val (.ref sx)] [])) _
    refine XS.aloadN X2.here hx rfl (hb hby d_jdk_42_method_120_code_7) rfl rfl ?_
    exact Steps.refl _)
  obtain ⟨T5, X5, e5, st5⟩ := getF X2 hx hZ hown (host := "") (Or.inl (hw _ (List.mem_of_getElem? (i := 28) rfl))) Via.refl eq2 Sx.2.1 (g := (mkF m 8 #[.val (.ref sx)] [(.ref sx)])) rfl rfl (hb hby d_jdk_42_method_120_code_8)
  have c6 : Steps p.tables e below S0 (T5.setTop (mkF m 11 #[.val (.ref sx)] [(.ref tx)])) := c4.trans (st5 _ (Steps.refl _))
  obtain ⟨_, _, ⟨T7, L7, kk7, nn7⟩, -, X7, ⟨Lc7, hQ7, l7, y7, z7⟩, st7⟩ := Jvm.LawKit.callS X5 hx (y := (⟨"java/lang/StringLatin1", "indexOfNonWhitespace", "([B)I"⟩ : MethodName)) hown (mvT hZ (hw _ (List.mem_of_getElem? (i := 67) rfl))) (mvT hZ (hw _ (List.mem_of_getElem? (i := 68) rfl))) (mvT hZ (hw _ (List.mem_of_getElem? (i := 35) rfl))) (mvT hZ (hw _ (List.mem_of_getElem? (i := 69) rfl))) (by decide) (backOf (W := 0) (rmLI l Z a0 hw [] tx kx cs j ci aA h0 n0 Z0 Sx.2.2.2.1 Sx.2.2.2.2.1 Sx.2.2.2.2.2 hj hjw sI xI sA hA X00) hZ (hw _ (List.mem_of_getElem? (i := 69) rfl)) (hw _ (List.mem_of_getElem? (i := 35) rfl)) (by decide) (by decide)) (g := (mkF m 11 #[.val (.ref sx)] [(.ref tx)])) rfl (by rw [hml]; rfl) (argsL := [(.ref tx)]) (rest := []) (lenOf pd_oaBcI rfl) rfl (by show 2 * 0 + _ ≤ _; exact Nat.le_of_eq rfl) (hb hby d_jdk_42_method_120_code_11) (fun _ _ => ⟨rfl, e5, (by decide : 0 + 0 ≤ _), (by decide : 0 + 0 ≤ _)⟩)
  dsimp only [Pt.U, Pt.locs, Pt.cells, Pt.slots] at X7 l7 y7 z7 st7 hQ7
  subst l7 y7 z7
  obtain ⟨r7, rfl, hr7, Nq7, eq7⟩ := hQ7
  have c8 : Steps p.tables e below S0 (T7.setTop (mkF m 14 #[.val (.ref sx)] [(.int (Int32.ofNat r7))])) := c6.trans (st7 _ (Steps.refl _))
  have N7 := Fr.app N2 Nq7
  have c9 : Steps p.tables e below S0 (T7.setTop (mkF m 24 #[.val (.ref sx)] [(.int (Int32.ofNat r7))])) := c8.trans (by
    show Steps p.tables e below (T7.setTop (mkF m 14 #[.val (.ref sx)] [(.int (Int32.ofNat r7))])) _
    refine XS.goto X7.here hx rfl (pc0 := 14) (pc' := 24) rfl (hb hby d_jdk_42_method_120_code_14) (by decide) (by decide) ?_
    exact Steps.refl _)
  obtain ⟨fs, hr, hrun, hended, hW, hsame⟩ := X7.leave (v := some (.int (Int32.ofNat r7))) (fun h => by rw [Bd.returns] at h; cases h)
  refine ⟨_, _, c9.trans (retOut X7 hx Bd.returns rfl (Or.inl ⟨rfl, by simp, _, rfl⟩) (hb hby d_jdk_42_method_120_code_24) hr), hrun, hended, _, _, rfl, ?_, ⟨_, rfl⟩, hW, hsame.mono (by decide) (by decide)⟩
  show QLI Z cs.length h0 n0 _ T7.heap _
  rw [eq7]
  exact ⟨_, rfl, hr7, N7, rfl⟩

theorem d_jdk_42_method_117_code_0 : decode jdk_42_method_117_code 0 = .ok (.aload_n 0, 1) := by decide +kernel
theorem pd_ocI : parseMethodDescriptor "()I" = some ⟨[], some .int⟩ := by decide +kernel
theorem d_jdk_42_method_117_code_1 : decode jdk_42_method_117_code 1 = .ok (.invokevirtual 876, 3) := by decide +kernel
theorem d_jdk_42_method_117_code_4 : decode jdk_42_method_117_code 4 = .ok (.aload_n 0, 1) := by decide +kernel
theorem d_jdk_42_method_117_code_5 : decode jdk_42_method_117_code 5 = .ok (.invokevirtual 505, 3) := by decide +kernel
theorem d_jdk_42_method_117_code_8 : decode jdk_42_method_117_code 8 = .ok (.if_icmp .ne 7, 3) := by decide +kernel
theorem d_jdk_42_method_117_code_15 : decode jdk_42_method_117_code 15 = .ok (.iconst 0, 1) := by decide +kernel
theorem d_jdk_42_method_117_code_16 : decode jdk_42_method_117_code 16 = .ok (.ireturn, 1) := by decide +kernel
theorem ef_rmIB (m : MethodId) (x0 : Addr) : entryFrame m #[(.ref x0)] 1 = mkF m 0 #[.val (.ref x0)] [] := by first | (simp [entryFrame, mkF, argsToLocals, Value.category]; done) | rfl
set_option maxRecDepth 65536 in
set_option maxHeartbeats 40000000 in
theorem rmIB (l : Launch) (Z : State) (a0 : Array Value) (hw : ∀ d ∈ tables_1, d.before a0 Z = true) (ws : List Jvm.Cond) (sx tx : Addr) (kx : ClassId) (cs : List Int32) (j : Nat) (ci aA : Addr) (G1 : Int32) (h0 : Heap) (n0 : Nat) (Z0 : n0 ≤ h0.size) (Sx : OStr Z h0 sx tx kx cs) (hj : j < cs.length) (hjw : ¬ own_ws (cs.getD j 0)) (sI : Sta Z Z.heap "java/lang/CharacterDataLatin1" "instance" "Ljava/lang/CharacterDataLatin1;" (.ref ci)) (xI : Exa Z Z.heap ci "java/lang/CharacterDataLatin1") (sA : Sta Z Z.heap "java/lang/CharacterDataLatin1" "A" "[I" (.ref aA)) (hA : AOk Z aA) (O2 : Sta Z Z.heap "java/lang/String" "COMPACT_STRINGS" "Z" (.int G1)) (P5 : ¬ G1 = 0) (X00 : Old Z n0 h0) :
    MetFree l (⟨"java/lang/String", "isBlank", "()Z"⟩ : MethodName) (head1 (Jvm.Cond.code (⟨"java/lang/String", "isBlank", "()Z"⟩ : MethodName) jdk_42_method_117_code 1 (some .boolean) :: ws) ({ frames := 4, cells := 0, slots := 0, locals := 56 } : Room)) (fun aa U => aa = #[(.ref sx)] ∧ Z.Warmed39 U.vm ∧ U.heap = h0) (fun _ _ _ _ _ => True) (fun _ U o U' => ∃ v L, o = .returned v ∧ QInt Z 0 h0 n0 v U'.heap L ∧ FrameEnd U o U' L ({ frames := 4, cells := 0, slots := 0, locals := 56 } : Room).cells ({ frames := 4, cells := 0, slots := 0, locals := 56 } : Room).slots) := by
  refine MetFree.of_bodySF (plainFor_of_name pn_java_lang_String) hisR ?_
  intro p e s m args below meth c s₁ Bd hml0 hP hK
  obtain ⟨rfl, hZ, hh⟩ := hP
  have hx := Bd.exec
  have hby := Bd.bytes
  have hml : c.maxLocals = 1 := hml0
  have hown : s.vm.findClass "java/lang/String" = some m.cls := findClass_of_methodNamed Bd.named
  have hnm := (name_of_methodNamed Bd.named Bd.method).1
  have X0 : Stand p l e ({ frames := 4, cells := 0, slots := 0, locals := 56 } : Room) s m #[(.ref sx)] below meth c s₁ [] 0 0 := Stand.of_body Bd
  have e0 : s₁.heap = h0 := by rw [← hh, Bd.state]; rfl
  have N0 := Fr.nil n0
  have K0 := Keep.refl h0 []
  obtain ⟨S0, hS0⟩ : ∃ z, z = s₁.setTop (entryFrame m #[(.ref sx)] 1) := ⟨_, rfl⟩
  rw [← hS0]
  have c0 : Steps p.tables e below S0 (s₁.setTop (mkF m 0 #[.val (.ref sx)] [])) := by
    rw [hS0]; exact castTop (ef_rmIB m sx) (Steps.refl _)
  have hl4 := Sx.2.2.2.2.2
  have c1 : Steps p.tables e below S0 (s₁.setTop (mkF m 1 #[.val (.ref sx)] [(.ref sx)])) := c0.trans (by
    show Steps p.tables e below (s₁.setTop (mkF m 0 #[.val (.ref sx)] [])) _
    refine XS.aloadN X0.here hx rfl (hb hby d_jdk_42_method_117_code_0) rfl rfl ?_
    exact Steps.refl _)
  obtain ⟨cq2, q2, q2'⟩ := (Sx.1).cell
  obtain ⟨_, _, ⟨T2, L2, kk2, nn2⟩, -, X2, ⟨Lc2, hQ2, l2, y2, z2⟩, st2⟩ := X0.privateBack hx (y := (⟨"java/lang/String", "indexOfNonWhitespace", "()I"⟩ : MethodName)) hown (mvT hZ (hw _ (List.mem_of_getElem? (i := 57) rfl))) (mvT hZ (hw _ (List.mem_of_getElem? (i := 58) rfl))) (mvT hZ (hw _ (List.mem_of_getElem? (i := 60) rfl))) (Cond.privateMethod_at (mvP hZ (hw _ (List.mem_of_getElem? (i := 59) rfl)) (args := #[]))) (mvT hZ (hw _ (List.mem_of_getElem? (i := 61) rfl))) (by decide) (backOf (W := 0) (rmSI l Z a0 hw [] sx tx kx cs j ci aA G1 h0 n0 Z0 Sx hj hjw sI xI sA hA O2 P5 X00) hZ (hw _ (List.mem_of_getElem? (i := 61) rfl)) (hw _ (List.mem_of_getElem? (i := 3) rfl)) (by decide) (by decide)) (g := (mkF m 1 #[.val (.ref sx)] [(.ref sx)])) rfl (by rw [hml]; rfl) (Steps.refl _) (a := sx) (by rw [e0]; exact q2) q2' (argsL := []) (rest := []) (lenOf pd_ocI rfl) rfl (by show 2 * 0 + _ ≤ _; exact Nat.le_of_eq rfl) (hb hby d_jdk_42_method_117_code_1) (fun _ _ => ⟨rfl, e0, (by decide : 0 + 0 ≤ _), (by decide : 0 + 0 ≤ _)⟩)
  dsimp only [Pt.U, Pt.locs, Pt.cells, Pt.slots] at X2 l2 y2 z2 st2 hQ2
  subst l2 y2 z2
  obtain ⟨r2, rfl, hr2, Nq2, eq2⟩ := hQ2
  have c3 : Steps p.tables e below S0 (T2.setTop (mkF m 4 #[.val (.ref sx)] [(.int (Int32.ofNat r2))])) := c1.trans (st2)
  have N2 := Fr.app N0 Nq2
  have c4 : Steps p.tables e below S0 (T2.setTop (mkF m 5 #[.val (.ref sx)] [(.ref sx), (.int (Int32.ofNat r2))])) := c3.trans (by
    show Steps p.tables e below (T2.setTop (mkF m 4 #[.val (.ref sx)] [(.int (Int32.ofNat r2))])) _
    refine XS.aloadN X2.here hx rfl (hb hby d_jdk_42_method_117_code_4) rfl rfl ?_
    exact Steps.refl _)
  have hln5 : ∀ d ∈ StrChars.Road.wordsLen, d.before a0 Z = true := fun d hd => hw d (own_in_wordsLen d hd)
  obtain ⟨cq6, kq6, q6a, q6b, q6c⟩ := isOf hZ eq2 Sx.1
  obtain ⟨_, _, ⟨T6, L6, kk6, nn6⟩, -, X6, ⟨Lc6, hQ6, l6, y6, z6⟩, st6⟩ := X2.virtualBack hx (y := (⟨"java/lang/String", "length", "()I"⟩ : MethodName)) (z := (⟨"java/lang/String", "length", "()I"⟩ : MethodName)) hown (mvT hZ (hw _ (List.mem_of_getElem? (i := 86) rfl))) (mvT hZ (hw _ (List.mem_of_getElem? (i := 87) rfl))) (notFace_of_selects (args := #[]) (mvT hZ (hw _ (List.mem_of_getElem? (i := 89) rfl)))) (mvT hZ (hw _ (List.mem_of_getElem? (i := 89) rfl))) (mvT hZ (hw _ (List.mem_of_getElem? (i := 88) rfl))) (by decide) (StrChars.Road.lenW (W := 1) hZ hln5 (kI := 4) (hw _ (List.mem_of_getElem? (i := 2) rfl)) Sx.1 Sx.2.1 Sx.2.2.1 Sx.2.2.2.1 Sx.cod (own_up _ Sx.2.2.2.2.1) (O2.ext X00.2) P5 Sx.2.2.2.2.2 (by decide) (by decide)) q6a q6c (g := (mkF m 5 #[.val (.ref sx)] [(.ref sx), (.int (Int32.ofNat r2))])) rfl (by rw [hml]; rfl) (Steps.refl _) (argsL := []) (rest := [(.int (Int32.ofNat r2))]) (lenOf pd_ocI rfl) rfl (by show 2 * 0 + _ ≤ _; exact Nat.le_of_eq rfl) (hb hby d_jdk_42_method_117_code_5) (fun _ _ => ⟨rfl, eq2, (by decide : 0 + 0 ≤ _), (by decide : 0 + 0 ≤ _)⟩)
  dsimp only [Pt.U, Pt.locs, Pt.cells, Pt.slots] at X6 l6 y6 z6 st6 hQ6
  subst l6 y6 z6
  obtain ⟨rfl, Lq6, eq6⟩ := hQ6
  have c7 : Steps p.tables e below S0 (T6.setTop (mkF m 8 #[.val (.ref sx)] [(.int (Int32.ofNat cs.length)), (.int (Int32.ofNat r2))])) := c4.trans (st6)
  have N6 := Fr.app N2 (Lq6 ▸ Fr.nil n0)
  have c8 : Steps p.tables e below S0 (T6.setTop (mkF m 16 #[.val (.ref sx)] [(.int (0 : Int32))])) := c7.trans (by
    show Steps p.tables e below (T6.setTop (mkF m 8 #[.val (.ref sx)] [(.int (Int32.ofNat cs.length)), (.int (Int32.ofNat r2))])) _
    refine XS.icmpYes X6.here hx rfl (pc0 := 8) (pc' := 15) rfl (hb hby d_jdk_42_method_117_code_8) rfl (feq (fun z => absurd ((own_ofN_inj (by omega) (by omega)).mp z) (Nat.ne_of_lt hr2))).2 (by decide) (by decide) ?_
    show Steps p.tables e below (T6.setTop (mkF m 15 #[.val (.ref sx)] [])) _
    refine XS.iconst X6.here hx rfl (hb hby d_jdk_42_method_117_code_15) ?_
    exact Steps.refl _)
  obtain ⟨fs, hr, hrun, hended, hW, hsame⟩ := X6.leave (v := some (.int (0 : Int32))) (fun h => by rw [Bd.returns] at h; cases h)
  refine ⟨_, _, c8.trans (retOut X6 hx Bd.returns rfl (Or.inl ⟨rfl, by simp, _, rfl⟩) (hb hby d_jdk_42_method_117_code_16) hr), hrun, hended, _, _, rfl, ?_, ⟨_, rfl⟩, hW, hsame.mono (by decide) (by decide)⟩
  show QInt Z 0 h0 n0 _ T6.heap _
  rw [eq6]
  exact ⟨rfl, N6, rfl⟩

def QNo (Z : State) (h0 : Heap) (n0 : Nat) (v : Option Value) (h : Heap) (L : List Loc) : Prop := v = none ∧ Fr n0 L ∧ h = h0

theorem d_prog_22_method_4_code_0 : decode prog_22_method_4_code 0 = .ok (.aload_n 1, 1) := by decide +kernel
theorem d_prog_22_method_4_code_1 : decode prog_22_method_4_code 1 = .ok (.invokevirtual 38, 3) := by decide +kernel
theorem d_prog_22_method_4_code_4 : decode prog_22_method_4_code 4 = .ok (.ifCond .eq 17, 3) := by decide +kernel
theorem d_prog_22_method_4_code_21 : decode prog_22_method_4_code 21 = .ok (.return_, 1) := by decide +kernel
theorem pn_com_example_luovutus_luovutus_transfer_ValueForms : plainName "com/example/luovutus/luovutus/transfer/ValueForms" = true := by first | (simp [plainName, overriddenIn]; done) | decide +kernel
theorem ef_rmRB (m : MethodId) (x0 : Addr) (x1 : Addr) : entryFrame m #[(.ref x0), (.ref x1)] 2 = mkF m 0 #[.val (.ref x0), .val (.ref x1)] [] := by first | (simp [entryFrame, mkF, argsToLocals, Value.category]; done) | rfl
set_option maxRecDepth 65536 in
set_option maxHeartbeats 40000000 in
theorem rmRB (l : Launch) (Z : State) (a0 : Array Value) (hw : ∀ d ∈ tables_1, d.before a0 Z = true) (ws : List Jvm.Cond) (ky : Addr) (sx tx : Addr) (kx : ClassId) (cs : List Int32) (j : Nat) (ci aA : Addr) (G1 : Int32) (h0 : Heap) (n0 : Nat) (Z0 : n0 ≤ h0.size) (Sx : OStr Z h0 sx tx kx cs) (hj : j < cs.length) (hjw : ¬ own_ws (cs.getD j 0)) (sI : Sta Z Z.heap "java/lang/CharacterDataLatin1" "instance" "Ljava/lang/CharacterDataLatin1;" (.ref ci)) (xI : Exa Z Z.heap ci "java/lang/CharacterDataLatin1") (sA : Sta Z Z.heap "java/lang/CharacterDataLatin1" "A" "[I" (.ref aA)) (hA : AOk Z aA) (O2 : Sta Z Z.heap "java/lang/String" "COMPACT_STRINGS" "Z" (.int G1)) (P5 : ¬ G1 = 0) (X00 : Old Z n0 h0) :
    MetFree l (⟨"com/example/luovutus/luovutus/transfer/ValueForms", "requireNotBlank", "(Ljava/lang/String;Ljava/lang/String;)V"⟩ : MethodName) (head1 (Jvm.Cond.code (⟨"com/example/luovutus/luovutus/transfer/ValueForms", "requireNotBlank", "(Ljava/lang/String;Ljava/lang/String;)V"⟩ : MethodName) prog_22_method_4_code 2 (none) :: ws) ({ frames := 5, cells := 0, slots := 0, locals := 68 } : Room)) (fun aa U => aa = #[(.ref ky), (.ref sx)] ∧ Z.Warmed39 U.vm ∧ U.heap = h0) (fun _ _ _ _ _ => True) (fun _ U o U' => ∃ v L, o = .returned v ∧ QNo Z  h0 n0 v U'.heap L ∧ FrameEnd U o U' L ({ frames := 5, cells := 0, slots := 0, locals := 68 } : Room).cells ({ frames := 5, cells := 0, slots := 0, locals := 68 } : Room).slots) := by
  refine MetFree.of_bodySF (plainFor_of_name pn_com_example_luovutus_luovutus_transfer_ValueForms) hisR ?_
  intro p e s m args below meth c s₁ Bd hml0 hP hK
  obtain ⟨rfl, hZ, hh⟩ := hP
  have hx := Bd.exec
  have hby := Bd.bytes
  have hml : c.maxLocals = 2 := hml0
  have hown : s.vm.findClass "com/example/luovutus/luovutus/transfer/ValueForms" = some m.cls := findClass_of_methodNamed Bd.named
  have hnm := (name_of_methodNamed Bd.named Bd.method).1
  have X0 : Stand p l e ({ frames := 5, cells := 0, slots := 0, locals := 68 } : Room) s m #[(.ref ky), (.ref sx)] below meth c s₁ [] 0 0 := Stand.of_body Bd
  have e0 : s₁.heap = h0 := by rw [← hh, Bd.state]; rfl
  have N0 := Fr.nil n0
  have K0 := Keep.refl h0 []
  obtain ⟨S0, hS0⟩ : ∃ z, z = s₁.setTop (entryFrame m #[(.ref ky), (.ref sx)] 2) := ⟨_, rfl⟩
  rw [← hS0]
  have c0 : Steps p.tables e below S0 (s₁.setTop (mkF m 0 #[.val (.ref ky), .val (.ref sx)] [])) := by
    rw [hS0]; exact castTop (ef_rmRB m ky sx) (Steps.refl _)
  have c1 : Steps p.tables e below S0 (s₁.setTop (mkF m 1 #[.val (.ref ky), .val (.ref sx)] [(.ref sx)])) := c0.trans (by
    show Steps p.tables e below (s₁.setTop (mkF m 0 #[.val (.ref ky), .val (.ref sx)] [])) _
    refine XS.aloadN X0.here hx rfl (hb hby d_prog_22_method_4_code_0) rfl rfl ?_
    exact Steps.refl _)
  obtain ⟨cq2, kq2, q2a, q2b, q2c⟩ := isOf hZ e0 Sx.1
  obtain ⟨_, _, ⟨T2, L2, kk2, nn2⟩, -, X2, ⟨Lc2, hQ2, l2, y2, z2⟩, st2⟩ := X0.virtualBack hx (y := (⟨"java/lang/String", "isBlank", "()Z"⟩ : MethodName)) (z := (⟨"java/lang/String", "isBlank", "()Z"⟩ : MethodName)) hown (mvT hZ (hw _ (List.mem_of_getElem? (i := 52) rfl))) (mvT hZ (hw _ (List.mem_of_getElem? (i := 53) rfl))) (notFace_of_selects (args := #[]) (mvT hZ (hw _ (List.mem_of_getElem? (i := 55) rfl)))) (mvT hZ (hw _ (List.mem_of_getElem? (i := 55) rfl))) (mvT hZ (hw _ (List.mem_of_getElem? (i := 54) rfl))) (by decide) (backOf (W := 0) (rmIB l Z a0 hw [] sx tx kx cs j ci aA G1 h0 n0 Z0 Sx hj hjw sI xI sA hA O2 P5 X00) hZ (hw _ (List.mem_of_getElem? (i := 56) rfl)) (hw _ (List.mem_of_getElem? (i := 3) rfl)) (by decide) (by decide)) q2a q2c (g := (mkF m 1 #[.val (.ref ky), .val (.ref sx)] [(.ref sx)])) rfl (by rw [hml]; rfl) (Steps.refl _) (argsL := []) (rest := []) (lenOf pd_ocZ rfl) rfl (by show 2 * 0 + _ ≤ _; exact Nat.le_of_eq rfl) (hb hby d_prog_22_method_4_code_1) (fun _ _ => ⟨rfl, e0, (by decide : 0 + 0 ≤ _), (by decide : 0 + 0 ≤ _)⟩)
  dsimp only [Pt.U, Pt.locs, Pt.cells, Pt.slots] at X2 l2 y2 z2 st2 hQ2
  subst l2 y2 z2
  obtain ⟨rfl, Nq2, eq2⟩ := hQ2
  have c3 : Steps p.tables e below S0 (T2.setTop (mkF m 4 #[.val (.ref ky), .val (.ref sx)] [(.int (0 : Int32))])) := c1.trans (st2)
  have N2 := Fr.app N0 Nq2
  have c4 : Steps p.tables e below S0 (T2.setTop (mkF m 21 #[.val (.ref ky), .val (.ref sx)] [])) := c3.trans (by
    show Steps p.tables e below (T2.setTop (mkF m 4 #[.val (.ref ky), .val (.ref sx)] [(.int (0 : Int32))])) _
    refine XS.ifYes X2.here hx rfl (pc0 := 4) (pc' := 21) rfl (hb hby d_prog_22_method_4_code_4) rfl ((if0 _ _).trans (teq (by decide : ((0 : Int32) = (0 : Int32)))).1) (by decide) (by decide) ?_
    exact Steps.refl _)
  obtain ⟨fs, hr, hrun, hended, hW, hsame⟩ := X2.leave (v := none) (fun h => rfl)
  refine ⟨_, _, c4.trans (X2.returnOut hx Bd.returns (hb hby d_prog_22_method_4_code_21) hr), hrun, hended, _, _, rfl, ?_, ⟨_, rfl⟩, hW, hsame.mono (by decide) (by decide)⟩
  show QNo Z  h0 n0 _ T2.heap _
  rw [eq2]
  exact ⟨rfl, N2, rfl⟩

theorem d_method_2_code_0 : decode method_2_code 0 = .ok (.iload_n 0, 1) := by decide +kernel
theorem d_method_2_code_1 : decode method_2_code 1 = .ok (.bipush 9, 2) := by decide +kernel
theorem d_method_2_code_3 : decode method_2_code 3 = .ok (.if_icmp .lt 9, 3) := by decide +kernel
theorem d_method_2_code_12 : decode method_2_code 12 = .ok (.iload_n 0, 1) := by decide +kernel
theorem d_method_2_code_13 : decode method_2_code 13 = .ok (.bipush 28, 2) := by decide +kernel
theorem d_method_2_code_15 : decode method_2_code 15 = .ok (.if_icmp .lt 13, 3) := by decide +kernel
theorem d_method_2_code_28 : decode method_2_code 28 = .ok (.iconst 0, 1) := by decide +kernel
theorem d_method_2_code_29 : decode method_2_code 29 = .ok (.ireturn, 1) := by decide +kernel
theorem d_method_2_code_18 : decode method_2_code 18 = .ok (.iload_n 0, 1) := by decide +kernel
theorem d_method_2_code_19 : decode method_2_code 19 = .ok (.bipush 32, 2) := by decide +kernel
theorem d_method_2_code_21 : decode method_2_code 21 = .ok (.if_icmp .gt 7, 3) := by decide +kernel
theorem d_method_2_code_24 : decode method_2_code 24 = .ok (.iconst 1, 1) := by decide +kernel
theorem d_method_2_code_25 : decode method_2_code 25 = .ok (.goto 4, 3) := by decide +kernel
theorem d_method_2_code_6 : decode method_2_code 6 = .ok (.iload_n 0, 1) := by decide +kernel
theorem d_method_2_code_7 : decode method_2_code 7 = .ok (.bipush 13, 2) := by decide +kernel
theorem d_method_2_code_9 : decode method_2_code 9 = .ok (.if_icmp .le 15, 3) := by decide +kernel
theorem pn_com_example_luovutus_luovutus_transfer_ValueFormsRequireNotBlankPinLaw : plainName "com/example/luovutus/luovutus/transfer/ValueFormsRequireNotBlankPinLaw" = true := by first | (simp [plainName, overriddenIn]; done) | decide +kernel
theorem ef_rmWs (m : MethodId) (x0 : Int32) : entryFrame m #[(.int x0)] 1 = mkF m 0 #[.val (.int x0)] [] := by first | (simp [entryFrame, mkF, argsToLocals, Value.category]; done) | rfl
set_option maxRecDepth 65536 in
set_option maxHeartbeats 40000000 in
theorem rmWs (l : Launch) (Z : State) (a0 : Array Value) (hw : ∀ d ∈ tables_1, d.before a0 Z = true) (ws : List Jvm.Cond) (ch : Int32) (h0 : Heap) (n0 : Nat) (Z0 : n0 ≤ h0.size)  :
    MetFree l (⟨"com/example/luovutus/luovutus/transfer/ValueFormsRequireNotBlankPinLaw", "ws", "(C)Z"⟩ : MethodName) (head1 (Jvm.Cond.code (⟨"com/example/luovutus/luovutus/transfer/ValueFormsRequireNotBlankPinLaw", "ws", "(C)Z"⟩ : MethodName) method_2_code 1 (some .boolean) :: ws) ({ frames := 0, cells := 0, slots := 0, locals := 0 } : Room)) (fun aa U => aa = #[(.int ch)] ∧ Z.Warmed39 U.vm ∧ U.heap = h0) (fun _ _ _ _ _ => True) (fun _ U o U' => ∃ v L, o = .returned v ∧ QTF Z (own_ws ch) h0 n0 v U'.heap L ∧ FrameEnd U o U' L ({ frames := 0, cells := 0, slots := 0, locals := 0 } : Room).cells ({ frames := 0, cells := 0, slots := 0, locals := 0 } : Room).slots) := by
  refine MetFree.of_bodySF (plainFor_of_name pn_com_example_luovutus_luovutus_transfer_ValueFormsRequireNotBlankPinLaw) hisR ?_
  intro p e s m args below meth c s₁ Bd hml0 hP hK
  obtain ⟨rfl, hZ, hh⟩ := hP
  have hx := Bd.exec
  have hby := Bd.bytes
  have hml : c.maxLocals = 1 := hml0
  have hown : s.vm.findClass "com/example/luovutus/luovutus/transfer/ValueFormsRequireNotBlankPinLaw" = some m.cls := findClass_of_methodNamed Bd.named
  have hnm := (name_of_methodNamed Bd.named Bd.method).1
  have X0 : Stand p l e ({ frames := 0, cells := 0, slots := 0, locals := 0 } : Room) s m #[(.int ch)] below meth c s₁ [] 0 0 := Stand.of_body Bd
  have e0 : s₁.heap = h0 := by rw [← hh, Bd.state]; rfl
  have N0 := Fr.nil n0
  have K0 := Keep.refl h0 []
  obtain ⟨S0, hS0⟩ : ∃ z, z = s₁.setTop (entryFrame m #[(.int ch)] 1) := ⟨_, rfl⟩
  rw [← hS0]
  have c0 : Steps p.tables e below S0 (s₁.setTop (mkF m 0 #[.val (.int ch)] [])) := by
    rw [hS0]; exact castTop (ef_rmWs m ch) (Steps.refl _)
  have c1 : Steps p.tables e below S0 (s₁.setTop (mkF m 3 #[.val (.int ch)] [(.int (9 : Int32)), (.int ch)])) := c0.trans (by
    show Steps p.tables e below (s₁.setTop (mkF m 0 #[.val (.int ch)] [])) _
    refine XS.iloadN X0.here hx rfl (hb hby d_method_2_code_0) rfl ?_
    show Steps p.tables e below (s₁.setTop (mkF m 1 #[.val (.int ch)] [(.int ch)])) _
    refine XS.bipush X0.here hx rfl (hb hby d_method_2_code_1) ?_
    exact Steps.refl _)
  by_cases hq2 : ch < (9 : Int32)
  · have c3 : Steps p.tables e below S0 (s₁.setTop (mkF m 15 #[.val (.int ch)] [(.int (28 : Int32)), (.int ch)])) := c1.trans (by
      show Steps p.tables e below (s₁.setTop (mkF m 3 #[.val (.int ch)] [(.int (9 : Int32)), (.int ch)])) _
      refine XS.icmpYes X0.here hx rfl (pc0 := 3) (pc' := 12) rfl (hb hby d_method_2_code_3) rfl (tlt hq2).1 (by decide) (by decide) ?_
      show Steps p.tables e below (s₁.setTop (mkF m 12 #[.val (.int ch)] [])) _
      refine XS.iloadN X0.here hx rfl (hb hby d_method_2_code_12) rfl ?_
      show Steps p.tables e below (s₁.setTop (mkF m 13 #[.val (.int ch)] [(.int ch)])) _
      refine XS.bipush X0.here hx rfl (hb hby d_method_2_code_13) ?_
      exact Steps.refl _)
    by_cases hq4 : ch < (28 : Int32)
    · have c5 : Steps p.tables e below S0 (s₁.setTop (mkF m 29 #[.val (.int ch)] [(.int (0 : Int32))])) := c3.trans (by
        show Steps p.tables e below (s₁.setTop (mkF m 15 #[.val (.int ch)] [(.int (28 : Int32)), (.int ch)])) _
        refine XS.icmpYes X0.here hx rfl (pc0 := 15) (pc' := 28) rfl (hb hby d_method_2_code_15) rfl (tlt hq4).1 (by decide) (by decide) ?_
        show Steps p.tables e below (s₁.setTop (mkF m 28 #[.val (.int ch)] [])) _
        refine XS.iconst X0.here hx rfl (hb hby d_method_2_code_28) ?_
        exact Steps.refl _)
      obtain ⟨fs, hr, hrun, hended, hW, hsame⟩ := X0.leave (v := some (.int (0 : Int32))) (fun h => by rw [Bd.returns] at h; cases h)
      refine ⟨_, _, c5.trans (retOut X0 hx Bd.returns rfl (Or.inl ⟨rfl, by simp, _, rfl⟩) (hb hby d_method_2_code_29) hr), hrun, hended, _, _, rfl, ?_, ⟨_, rfl⟩, hW, hsame.mono (by decide) (by decide)⟩
      show QTF Z (own_ws ch) h0 n0 _ s₁.heap _
      rw [e0]
      exact ⟨_, rfl, by unfold TF own_ws; simp [hq2, hq4], N0, rfl⟩
    · have c6 : Steps p.tables e below S0 (s₁.setTop (mkF m 21 #[.val (.int ch)] [(.int (32 : Int32)), (.int ch)])) := c3.trans (by
        show Steps p.tables e below (s₁.setTop (mkF m 15 #[.val (.int ch)] [(.int (28 : Int32)), (.int ch)])) _
        refine XS.icmpNo X0.here hx rfl (hb hby d_method_2_code_15) rfl (flt hq4).1 ?_
        show Steps p.tables e below (s₁.setTop (mkF m 18 #[.val (.int ch)] [])) _
        refine XS.iloadN X0.here hx rfl (hb hby d_method_2_code_18) rfl ?_
        show Steps p.tables e below (s₁.setTop (mkF m 19 #[.val (.int ch)] [(.int ch)])) _
        refine XS.bipush X0.here hx rfl (hb hby d_method_2_code_19) ?_
        exact Steps.refl _)
      by_cases hq7 : (32 : Int32) < ch
      · have c8 : Steps p.tables e below S0 (s₁.setTop (mkF m 29 #[.val (.int ch)] [(.int (0 : Int32))])) := c6.trans (by
          show Steps p.tables e below (s₁.setTop (mkF m 21 #[.val (.int ch)] [(.int (32 : Int32)), (.int ch)])) _
          refine XS.icmpYes X0.here hx rfl (pc0 := 21) (pc' := 28) rfl (hb hby d_method_2_code_21) rfl (tlt hq7).2.2.1 (by decide) (by decide) ?_
          show Steps p.tables e below (s₁.setTop (mkF m 28 #[.val (.int ch)] [])) _
          refine XS.iconst X0.here hx rfl (hb hby d_method_2_code_28) ?_
          exact Steps.refl _)
        obtain ⟨fs, hr, hrun, hended, hW, hsame⟩ := X0.leave (v := some (.int (0 : Int32))) (fun h => by rw [Bd.returns] at h; cases h)
        refine ⟨_, _, c8.trans (retOut X0 hx Bd.returns rfl (Or.inl ⟨rfl, by simp, _, rfl⟩) (hb hby d_method_2_code_29) hr), hrun, hended, _, _, rfl, ?_, ⟨_, rfl⟩, hW, hsame.mono (by decide) (by decide)⟩
        show QTF Z (own_ws ch) h0 n0 _ s₁.heap _
        rw [e0]
        exact ⟨_, rfl, by unfold TF own_ws; simp [hq2, hq4, hq7], N0, rfl⟩
      · have c9 : Steps p.tables e below S0 (s₁.setTop (mkF m 29 #[.val (.int ch)] [(.int (1 : Int32))])) := c6.trans (by
          show Steps p.tables e below (s₁.setTop (mkF m 21 #[.val (.int ch)] [(.int (32 : Int32)), (.int ch)])) _
          refine XS.icmpNo X0.here hx rfl (hb hby d_method_2_code_21) rfl (flt hq7).2.2.1 ?_
          show Steps p.tables e below (s₁.setTop (mkF m 24 #[.val (.int ch)] [])) _
          refine XS.iconst X0.here hx rfl (hb hby d_method_2_code_24) ?_
          show Steps p.tables e below (s₁.setTop (mkF m 25 #[.val (.int ch)] [(.int (1 : Int32))])) _
          refine XS.goto X0.here hx rfl (pc0 := 25) (pc' := 29) rfl (hb hby d_method_2_code_25) (by decide) (by decide) ?_
          exact Steps.refl _)
        obtain ⟨fs, hr, hrun, hended, hW, hsame⟩ := X0.leave (v := some (.int (1 : Int32))) (fun h => by rw [Bd.returns] at h; cases h)
        refine ⟨_, _, c9.trans (retOut X0 hx Bd.returns rfl (Or.inl ⟨rfl, by simp, _, rfl⟩) (hb hby d_method_2_code_29) hr), hrun, hended, _, _, rfl, ?_, ⟨_, rfl⟩, hW, hsame.mono (by decide) (by decide)⟩
        show QTF Z (own_ws ch) h0 n0 _ s₁.heap _
        rw [e0]
        exact ⟨_, rfl, by unfold TF own_ws; simp [hq2, hq4, hq7], N0, rfl⟩
  · have c10 : Steps p.tables e below S0 (s₁.setTop (mkF m 9 #[.val (.int ch)] [(.int (13 : Int32)), (.int ch)])) := c1.trans (by
      show Steps p.tables e below (s₁.setTop (mkF m 3 #[.val (.int ch)] [(.int (9 : Int32)), (.int ch)])) _
      refine XS.icmpNo X0.here hx rfl (hb hby d_method_2_code_3) rfl (flt hq2).1 ?_
      show Steps p.tables e below (s₁.setTop (mkF m 6 #[.val (.int ch)] [])) _
      refine XS.iloadN X0.here hx rfl (hb hby d_method_2_code_6) rfl ?_
      show Steps p.tables e below (s₁.setTop (mkF m 7 #[.val (.int ch)] [(.int ch)])) _
      refine XS.bipush X0.here hx rfl (hb hby d_method_2_code_7) ?_
      exact Steps.refl _)
    by_cases hq11 : (13 : Int32) < ch
    · have c12 : Steps p.tables e below S0 (s₁.setTop (mkF m 15 #[.val (.int ch)] [(.int (28 : Int32)), (.int ch)])) := c10.trans (by
        show Steps p.tables e below (s₁.setTop (mkF m 9 #[.val (.int ch)] [(.int (13 : Int32)), (.int ch)])) _
        refine XS.icmpNo X0.here hx rfl (hb hby d_method_2_code_9) rfl (tlt hq11).2.2.2 ?_
        show Steps p.tables e below (s₁.setTop (mkF m 12 #[.val (.int ch)] [])) _
        refine XS.iloadN X0.here hx rfl (hb hby d_method_2_code_12) rfl ?_
        show Steps p.tables e below (s₁.setTop (mkF m 13 #[.val (.int ch)] [(.int ch)])) _
        refine XS.bipush X0.here hx rfl (hb hby d_method_2_code_13) ?_
        exact Steps.refl _)
      by_cases hq13 : ch < (28 : Int32)
      · have c14 : Steps p.tables e below S0 (s₁.setTop (mkF m 29 #[.val (.int ch)] [(.int (0 : Int32))])) := c12.trans (by
          show Steps p.tables e below (s₁.setTop (mkF m 15 #[.val (.int ch)] [(.int (28 : Int32)), (.int ch)])) _
          refine XS.icmpYes X0.here hx rfl (pc0 := 15) (pc' := 28) rfl (hb hby d_method_2_code_15) rfl (tlt hq13).1 (by decide) (by decide) ?_
          show Steps p.tables e below (s₁.setTop (mkF m 28 #[.val (.int ch)] [])) _
          refine XS.iconst X0.here hx rfl (hb hby d_method_2_code_28) ?_
          exact Steps.refl _)
        obtain ⟨fs, hr, hrun, hended, hW, hsame⟩ := X0.leave (v := some (.int (0 : Int32))) (fun h => by rw [Bd.returns] at h; cases h)
        refine ⟨_, _, c14.trans (retOut X0 hx Bd.returns rfl (Or.inl ⟨rfl, by simp, _, rfl⟩) (hb hby d_method_2_code_29) hr), hrun, hended, _, _, rfl, ?_, ⟨_, rfl⟩, hW, hsame.mono (by decide) (by decide)⟩
        show QTF Z (own_ws ch) h0 n0 _ s₁.heap _
        rw [e0]
        exact ⟨_, rfl, by unfold TF own_ws; simp [hq2, hq11, hq13], N0, rfl⟩
      · have c15 : Steps p.tables e below S0 (s₁.setTop (mkF m 21 #[.val (.int ch)] [(.int (32 : Int32)), (.int ch)])) := c12.trans (by
          show Steps p.tables e below (s₁.setTop (mkF m 15 #[.val (.int ch)] [(.int (28 : Int32)), (.int ch)])) _
          refine XS.icmpNo X0.here hx rfl (hb hby d_method_2_code_15) rfl (flt hq13).1 ?_
          show Steps p.tables e below (s₁.setTop (mkF m 18 #[.val (.int ch)] [])) _
          refine XS.iloadN X0.here hx rfl (hb hby d_method_2_code_18) rfl ?_
          show Steps p.tables e below (s₁.setTop (mkF m 19 #[.val (.int ch)] [(.int ch)])) _
          refine XS.bipush X0.here hx rfl (hb hby d_method_2_code_19) ?_
          exact Steps.refl _)
        by_cases hq16 : (32 : Int32) < ch
        · have c17 : Steps p.tables e below S0 (s₁.setTop (mkF m 29 #[.val (.int ch)] [(.int (0 : Int32))])) := c15.trans (by
            show Steps p.tables e below (s₁.setTop (mkF m 21 #[.val (.int ch)] [(.int (32 : Int32)), (.int ch)])) _
            refine XS.icmpYes X0.here hx rfl (pc0 := 21) (pc' := 28) rfl (hb hby d_method_2_code_21) rfl (tlt hq16).2.2.1 (by decide) (by decide) ?_
            show Steps p.tables e below (s₁.setTop (mkF m 28 #[.val (.int ch)] [])) _
            refine XS.iconst X0.here hx rfl (hb hby d_method_2_code_28) ?_
            exact Steps.refl _)
          obtain ⟨fs, hr, hrun, hended, hW, hsame⟩ := X0.leave (v := some (.int (0 : Int32))) (fun h => by rw [Bd.returns] at h; cases h)
          refine ⟨_, _, c17.trans (retOut X0 hx Bd.returns rfl (Or.inl ⟨rfl, by simp, _, rfl⟩) (hb hby d_method_2_code_29) hr), hrun, hended, _, _, rfl, ?_, ⟨_, rfl⟩, hW, hsame.mono (by decide) (by decide)⟩
          show QTF Z (own_ws ch) h0 n0 _ s₁.heap _
          rw [e0]
          exact ⟨_, rfl, by unfold TF own_ws; simp [hq2, hq11, hq13, hq16], N0, rfl⟩
        · have c18 : Steps p.tables e below S0 (s₁.setTop (mkF m 29 #[.val (.int ch)] [(.int (1 : Int32))])) := c15.trans (by
            show Steps p.tables e below (s₁.setTop (mkF m 21 #[.val (.int ch)] [(.int (32 : Int32)), (.int ch)])) _
            refine XS.icmpNo X0.here hx rfl (hb hby d_method_2_code_21) rfl (flt hq16).2.2.1 ?_
            show Steps p.tables e below (s₁.setTop (mkF m 24 #[.val (.int ch)] [])) _
            refine XS.iconst X0.here hx rfl (hb hby d_method_2_code_24) ?_
            show Steps p.tables e below (s₁.setTop (mkF m 25 #[.val (.int ch)] [(.int (1 : Int32))])) _
            refine XS.goto X0.here hx rfl (pc0 := 25) (pc' := 29) rfl (hb hby d_method_2_code_25) (by decide) (by decide) ?_
            exact Steps.refl _)
          obtain ⟨fs, hr, hrun, hended, hW, hsame⟩ := X0.leave (v := some (.int (1 : Int32))) (fun h => by rw [Bd.returns] at h; cases h)
          refine ⟨_, _, c18.trans (retOut X0 hx Bd.returns rfl (Or.inl ⟨rfl, by simp, _, rfl⟩) (hb hby d_method_2_code_29) hr), hrun, hended, _, _, rfl, ?_, ⟨_, rfl⟩, hW, hsame.mono (by decide) (by decide)⟩
          show QTF Z (own_ws ch) h0 n0 _ s₁.heap _
          rw [e0]
          exact ⟨_, rfl, by unfold TF own_ws; simp [hq2, hq11, hq13, hq16], N0, rfl⟩
    · have c19 : Steps p.tables e below S0 (s₁.setTop (mkF m 29 #[.val (.int ch)] [(.int (1 : Int32))])) := c10.trans (by
        show Steps p.tables e below (s₁.setTop (mkF m 9 #[.val (.int ch)] [(.int (13 : Int32)), (.int ch)])) _
        refine XS.icmpYes X0.here hx rfl (pc0 := 9) (pc' := 24) rfl (hb hby d_method_2_code_9) rfl (flt hq11).2.2.2 (by decide) (by decide) ?_
        show Steps p.tables e below (s₁.setTop (mkF m 24 #[.val (.int ch)] [])) _
        refine XS.iconst X0.here hx rfl (hb hby d_method_2_code_24) ?_
        show Steps p.tables e below (s₁.setTop (mkF m 25 #[.val (.int ch)] [(.int (1 : Int32))])) _
        refine XS.goto X0.here hx rfl (pc0 := 25) (pc' := 29) rfl (hb hby d_method_2_code_25) (by decide) (by decide) ?_
        exact Steps.refl _)
      obtain ⟨fs, hr, hrun, hended, hW, hsame⟩ := X0.leave (v := some (.int (1 : Int32))) (fun h => by rw [Bd.returns] at h; cases h)
      refine ⟨_, _, c19.trans (retOut X0 hx Bd.returns rfl (Or.inl ⟨rfl, by simp, _, rfl⟩) (hb hby d_method_2_code_29) hr), hrun, hended, _, _, rfl, ?_, ⟨_, rfl⟩, hW, hsame.mono (by decide) (by decide)⟩
      show QTF Z (own_ws ch) h0 n0 _ s₁.heap _
      rw [e0]
      exact ⟨_, rfl, by unfold TF own_ws; simp [hq2, hq11], N0, rfl⟩

def Q0 (Z : State) (h0 : Heap) (n0 : Nat) (v : Option Value) (h : Heap) (L : List Loc) : Prop := v = some (.int 1) ∧ Fr n0 L

theorem pd_oaCcV : parseMethodDescriptor "([C)V" = some ⟨[(.array .char)], none⟩ := by decide +kernel
theorem pd_oCcLjavaslangsStringe : parseMethodDescriptor "(C)Ljava/lang/String;" = some ⟨[.char], some (.object "java/lang/String")⟩ := by decide +kernel
theorem pd_oLjavaslangsStringeLjavaslangsStringecV : parseMethodDescriptor "(Ljava/lang/String;Ljava/lang/String;)V" = some ⟨[(.object "java/lang/String"), (.object "java/lang/String")], none⟩ := by decide +kernel
theorem ef_rm0 (m : MethodId) (x0 : Int32) (x1 : Int32) (x2 : Int32) (x3 : Int32) (x4 : Int32) : entryFrame m #[(.int x0), (.int x1), (.int x2), (.int x3), (.int x4)] maxLocals = mkF m 0 #[.val (.int x0), .val (.int x1), .val (.int x2), .val (.int x3), .val (.int x4), .unset, .unset, .unset, .unset, .unset, .unset, .unset, .unset] [] := by first | (simp [entryFrame, mkF, argsToLocals, Value.category, maxLocals]; done) | rfl
set_option maxRecDepth 65536 in
set_option maxHeartbeats 40000000 in
theorem rm0 (l : Launch) (Z : State) (a0 : Array Value) (hw : ∀ d ∈ tables_1, d.before a0 Z = true) (ws : List Jvm.Cond) (p0 p1 p2 p3 p4 : Int32) (ci aA : Addr) (G1 : Int32) (h0 : Heap) (n0 : Nat) (Z0 : n0 ≤ h0.size) (sI : Sta Z Z.heap "java/lang/CharacterDataLatin1" "instance" "Ljava/lang/CharacterDataLatin1;" (.ref ci)) (xI : Exa Z Z.heap ci "java/lang/CharacterDataLatin1") (sA : Sta Z Z.heap "java/lang/CharacterDataLatin1" "A" "[I" (.ref aA)) (hA : AOk Z aA) (O2 : Sta Z Z.heap "java/lang/String" "COMPACT_STRINGS" "Z" (.int G1)) (P5 : ¬ G1 = 0) (X00 : Old Z n0 h0) :
    MetFree l x (head1 (Jvm.Cond.code x code maxLocals ret :: ws) room_1) (fun aa U => aa = #[(.int p0), (.int p1), (.int p2), (.int p3), (.int p4)] ∧ Z.Warmed39 U.vm ∧ U.heap = h0 ∧ CHv Z EL U.vm h0) (fun _ _ _ _ _ => True) (fun _ U o U' => ∃ v L, o = .returned v ∧ Q0 Z  h0 n0 v U'.heap L ∧ CHr Z EL U.vm U.heap U'.vm U'.heap ∧ ReturnedEndW U o U' L room_1.cells room_1.slots) := by
  refine MetFree.of_bodySF (plainFor_of_name pn_com_example_luovutus_luovutus_transfer_ValueFormsRequireNotBlankPinLaw) hisR ?_
  intro p e s m args below meth c s₁ Bd hml0 hP hK
  obtain ⟨rfl, hZ, hh, hCH⟩ := hP
  have hx := Bd.exec
  have hby := Bd.bytes
  have hml : c.maxLocals = 13 := hml0
  have hown : s.vm.findClass "com/example/luovutus/luovutus/transfer/ValueFormsRequireNotBlankPinLaw" = some m.cls := findClass_of_methodNamed Bd.named
  have hnm := (name_of_methodNamed Bd.named Bd.method).1
  have X0 : Stand p l e room_1 s m #[(.int p0), (.int p1), (.int p2), (.int p3), (.int p4)] below meth c s₁ [] 0 0 := Stand.of_body Bd
  have e0 : s₁.heap = h0 := by rw [← hh, Bd.state]; rfl
  have N0 := Fr.nil n0
  have K0 := Keep.refl h0 []
  obtain ⟨S0, hS0⟩ : ∃ z, z = s₁.setTop (entryFrame m #[(.int p0), (.int p1), (.int p2), (.int p3), (.int p4)] maxLocals) := ⟨_, rfl⟩
  rw [← hS0]
  have c0 : Steps p.tables e below S0 (s₁.setTop (mkF m 0 #[.val (.int p0), .val (.int p1), .val (.int p2), .val (.int p3), .val (.int p4), .unset, .unset, .unset, .unset, .unset, .unset, .unset, .unset] [])) := by
    rw [hS0]; exact castTop (ef_rm0 m p0 p1 p2 p3 p4) (Steps.refl _)
  have X0 : Stand p l e room_1 (s.setVm s.vm) m #[(.int p0), (.int p1), (.int p2), (.int p3), (.int p4)] below meth c s₁ [] 0 0 := X0
  have hS0 : s.Since s.vm 0 := own_since s
  have R0 : CHr Z EL s.vm h0 s.vm h0 := CHr.refl hCH
  have hEL := own_EW hw
  have hwS := own_strw hw
  have c1 : Steps p.tables e below S0 (s₁.setTop (mkF m 13 #[.val (.int p0), .val (.int p1), .val (.int p2), .val (.int p3), .val (.int p4), .val (.int (p3 &&& (3 : Int32))), .val (.int ((p0 &&& (255 : Int32)).toUInt32.toUInt16.toUInt32.toInt32)), .unset, .unset, .unset, .unset, .unset, .unset] [])) := c0.trans (by
    show Steps p.tables e below (s₁.setTop (mkF m 0 #[.val (.int p0), .val (.int p1), .val (.int p2), .val (.int p3), .val (.int p4), .unset, .unset, .unset, .unset, .unset, .unset, .unset, .unset] [])) _
    refine XS.iloadN X0.here hx rfl (hb hby at_0) rfl ?_
    show Steps p.tables e below (s₁.setTop (mkF m 1 #[.val (.int p0), .val (.int p1), .val (.int p2), .val (.int p3), .val (.int p4), .unset, .unset, .unset, .unset, .unset, .unset, .unset, .unset] [(.int p3)])) _
    refine XS.iconst X0.here hx rfl (hb hby at_1) ?_
    show Steps p.tables e below (s₁.setTop (mkF m 2 #[.val (.int p0), .val (.int p1), .val (.int p2), .val (.int p3), .val (.int p4), .unset, .unset, .unset, .unset, .unset, .unset, .unset, .unset] [(.int (3 : Int32)), (.int p3)])) _
    refine XS.iand X0.here hx rfl (hb hby at_2) rfl ?_
    show Steps p.tables e below (s₁.setTop (mkF m 3 #[.val (.int p0), .val (.int p1), .val (.int p2), .val (.int p3), .val (.int p4), .unset, .unset, .unset, .unset, .unset, .unset, .unset, .unset] [(.int (p3 &&& (3 : Int32)))])) _
    refine XS.istore X0.here hx rfl (hb hby at_3) rfl (l' := #[.val (.int p0), .val (.int p1), .val (.int p2), .val (.int p3), .val (.int p4), .val (.int (p3 &&& (3 : Int32))), .unset, .unset, .unset, .unset, .unset, .unset, .unset]) rfl ?_
    show Steps p.tables e below (s₁.setTop (mkF m 5 #[.val (.int p0), .val (.int p1), .val (.int p2), .val (.int p3), .val (.int p4), .val (.int (p3 &&& (3 : Int32))), .unset, .unset, .unset, .unset, .unset, .unset, .unset] [])) _
    refine XS.iloadN X0.here hx rfl (hb hby at_5) rfl ?_
    show Steps p.tables e below (s₁.setTop (mkF m 6 #[.val (.int p0), .val (.int p1), .val (.int p2), .val (.int p3), .val (.int p4), .val (.int (p3 &&& (3 : Int32))), .unset, .unset, .unset, .unset, .unset, .unset, .unset] [(.int p0)])) _
    refine XS.sipush X0.here hx rfl (hb hby at_6) ?_
    show Steps p.tables e below (s₁.setTop (mkF m 9 #[.val (.int p0), .val (.int p1), .val (.int p2), .val (.int p3), .val (.int p4), .val (.int (p3 &&& (3 : Int32))), .unset, .unset, .unset, .unset, .unset, .unset, .unset] [(.int (255 : Int32)), (.int p0)])) _
    refine XS.iand X0.here hx rfl (hb hby at_9) rfl ?_
    show Steps p.tables e below (s₁.setTop (mkF m 10 #[.val (.int p0), .val (.int p1), .val (.int p2), .val (.int p3), .val (.int p4), .val (.int (p3 &&& (3 : Int32))), .unset, .unset, .unset, .unset, .unset, .unset, .unset] [(.int (p0 &&& (255 : Int32)))])) _
    refine XS.i2c X0.here hx rfl (hb hby at_10) rfl ?_
    show Steps p.tables e below (s₁.setTop (mkF m 11 #[.val (.int p0), .val (.int p1), .val (.int p2), .val (.int p3), .val (.int p4), .val (.int (p3 &&& (3 : Int32))), .unset, .unset, .unset, .unset, .unset, .unset, .unset] [(.int ((p0 &&& (255 : Int32)).toUInt32.toUInt16.toUInt32.toInt32))])) _
    refine XS.istore X0.here hx rfl (hb hby at_11) rfl (l' := #[.val (.int p0), .val (.int p1), .val (.int p2), .val (.int p3), .val (.int p4), .val (.int (p3 &&& (3 : Int32))), .val (.int ((p0 &&& (255 : Int32)).toUInt32.toUInt16.toUInt32.toInt32)), .unset, .unset, .unset, .unset, .unset, .unset]) rfl ?_
    exact Steps.refl _)
  obtain ⟨ca, hca, c2⟩ : ∃ z : Int32, z = ((p0 &&& (255 : Int32)).toUInt32.toUInt16.toUInt32.toInt32) ∧ Steps p.tables e below S0 (s₁.setTop (mkF m 13 #[.val (.int p0), .val (.int p1), .val (.int p2), .val (.int p3), .val (.int p4), .val (.int (p3 &&& (3 : Int32))), .val (.int z), .unset, .unset, .unset, .unset, .unset, .unset] [])) := ⟨_, rfl, c1⟩
  have h8ca : C8 ca := hca ▸ own_c8m p0
  have c3 : Steps p.tables e below S0 (s₁.setTop (mkF m 21 #[.val (.int p0), .val (.int p1), .val (.int p2), .val (.int p3), .val (.int p4), .val (.int (p3 &&& (3 : Int32))), .val (.int ca), .val (.int ((p1 &&& (255 : Int32)).toUInt32.toUInt16.toUInt32.toInt32)), .unset, .unset, .unset, .unset, .unset] [])) := c2.trans (by
    show Steps p.tables e below (s₁.setTop (mkF m 13 #[.val (.int p0), .val (.int p1), .val (.int p2), .val (.int p3), .val (.int p4), .val (.int (p3 &&& (3 : Int32))), .val (.int ca), .unset, .unset, .unset, .unset, .unset, .unset] [])) _
    refine XS.iloadN X0.here hx rfl (hb hby at_13) rfl ?_
    show Steps p.tables e below (s₁.setTop (mkF m 14 #[.val (.int p0), .val (.int p1), .val (.int p2), .val (.int p3), .val (.int p4), .val (.int (p3 &&& (3 : Int32))), .val (.int ca), .unset, .unset, .unset, .unset, .unset, .unset] [(.int p1)])) _
    refine XS.sipush X0.here hx rfl (hb hby at_14) ?_
    show Steps p.tables e below (s₁.setTop (mkF m 17 #[.val (.int p0), .val (.int p1), .val (.int p2), .val (.int p3), .val (.int p4), .val (.int (p3 &&& (3 : Int32))), .val (.int ca), .unset, .unset, .unset, .unset, .unset, .unset] [(.int (255 : Int32)), (.int p1)])) _
    refine XS.iand X0.here hx rfl (hb hby at_17) rfl ?_
    show Steps p.tables e below (s₁.setTop (mkF m 18 #[.val (.int p0), .val (.int p1), .val (.int p2), .val (.int p3), .val (.int p4), .val (.int (p3 &&& (3 : Int32))), .val (.int ca), .unset, .unset, .unset, .unset, .unset, .unset] [(.int (p1 &&& (255 : Int32)))])) _
    refine XS.i2c X0.here hx rfl (hb hby at_18) rfl ?_
    show Steps p.tables e below (s₁.setTop (mkF m 19 #[.val (.int p0), .val (.int p1), .val (.int p2), .val (.int p3), .val (.int p4), .val (.int (p3 &&& (3 : Int32))), .val (.int ca), .unset, .unset, .unset, .unset, .unset, .unset] [(.int ((p1 &&& (255 : Int32)).toUInt32.toUInt16.toUInt32.toInt32))])) _
    refine XS.istore X0.here hx rfl (hb hby at_19) rfl (l' := #[.val (.int p0), .val (.int p1), .val (.int p2), .val (.int p3), .val (.int p4), .val (.int (p3 &&& (3 : Int32))), .val (.int ca), .val (.int ((p1 &&& (255 : Int32)).toUInt32.toUInt16.toUInt32.toInt32)), .unset, .unset, .unset, .unset, .unset]) rfl ?_
    exact Steps.refl _)
  obtain ⟨cb, hcb, c4⟩ : ∃ z : Int32, z = ((p1 &&& (255 : Int32)).toUInt32.toUInt16.toUInt32.toInt32) ∧ Steps p.tables e below S0 (s₁.setTop (mkF m 21 #[.val (.int p0), .val (.int p1), .val (.int p2), .val (.int p3), .val (.int p4), .val (.int (p3 &&& (3 : Int32))), .val (.int ca), .val (.int z), .unset, .unset, .unset, .unset, .unset] [])) := ⟨_, rfl, c3⟩
  have h8cb : C8 cb := hcb ▸ own_c8m p1
  have c5 : Steps p.tables e below S0 (s₁.setTop (mkF m 29 #[.val (.int p0), .val (.int p1), .val (.int p2), .val (.int p3), .val (.int p4), .val (.int (p3 &&& (3 : Int32))), .val (.int ca), .val (.int cb), .val (.int ((p2 &&& (255 : Int32)).toUInt32.toUInt16.toUInt32.toInt32)), .unset, .unset, .unset, .unset] [])) := c4.trans (by
    show Steps p.tables e below (s₁.setTop (mkF m 21 #[.val (.int p0), .val (.int p1), .val (.int p2), .val (.int p3), .val (.int p4), .val (.int (p3 &&& (3 : Int32))), .val (.int ca), .val (.int cb), .unset, .unset, .unset, .unset, .unset] [])) _
    refine XS.iloadN X0.here hx rfl (hb hby at_21) rfl ?_
    show Steps p.tables e below (s₁.setTop (mkF m 22 #[.val (.int p0), .val (.int p1), .val (.int p2), .val (.int p3), .val (.int p4), .val (.int (p3 &&& (3 : Int32))), .val (.int ca), .val (.int cb), .unset, .unset, .unset, .unset, .unset] [(.int p2)])) _
    refine XS.sipush X0.here hx rfl (hb hby at_22) ?_
    show Steps p.tables e below (s₁.setTop (mkF m 25 #[.val (.int p0), .val (.int p1), .val (.int p2), .val (.int p3), .val (.int p4), .val (.int (p3 &&& (3 : Int32))), .val (.int ca), .val (.int cb), .unset, .unset, .unset, .unset, .unset] [(.int (255 : Int32)), (.int p2)])) _
    refine XS.iand X0.here hx rfl (hb hby at_25) rfl ?_
    show Steps p.tables e below (s₁.setTop (mkF m 26 #[.val (.int p0), .val (.int p1), .val (.int p2), .val (.int p3), .val (.int p4), .val (.int (p3 &&& (3 : Int32))), .val (.int ca), .val (.int cb), .unset, .unset, .unset, .unset, .unset] [(.int (p2 &&& (255 : Int32)))])) _
    refine XS.i2c X0.here hx rfl (hb hby at_26) rfl ?_
    show Steps p.tables e below (s₁.setTop (mkF m 27 #[.val (.int p0), .val (.int p1), .val (.int p2), .val (.int p3), .val (.int p4), .val (.int (p3 &&& (3 : Int32))), .val (.int ca), .val (.int cb), .unset, .unset, .unset, .unset, .unset] [(.int ((p2 &&& (255 : Int32)).toUInt32.toUInt16.toUInt32.toInt32))])) _
    refine XS.istore X0.here hx rfl (hb hby at_27) rfl (l' := #[.val (.int p0), .val (.int p1), .val (.int p2), .val (.int p3), .val (.int p4), .val (.int (p3 &&& (3 : Int32))), .val (.int ca), .val (.int cb), .val (.int ((p2 &&& (255 : Int32)).toUInt32.toUInt16.toUInt32.toInt32)), .unset, .unset, .unset, .unset]) rfl ?_
    exact Steps.refl _)
  obtain ⟨cd, hcd, c6⟩ : ∃ z : Int32, z = ((p2 &&& (255 : Int32)).toUInt32.toUInt16.toUInt32.toInt32) ∧ Steps p.tables e below S0 (s₁.setTop (mkF m 29 #[.val (.int p0), .val (.int p1), .val (.int p2), .val (.int p3), .val (.int p4), .val (.int (p3 &&& (3 : Int32))), .val (.int ca), .val (.int cb), .val (.int z), .unset, .unset, .unset, .unset] [])) := ⟨_, rfl, c5⟩
  have h8cd : C8 cd := hcd ▸ own_c8m p2
  obtain ⟨ln, hln, c7⟩ : ∃ z : Int32, z = (p3 &&& (3 : Int32)) ∧ Steps p.tables e below S0 (s₁.setTop (mkF m 29 #[.val (.int p0), .val (.int p1), .val (.int p2), .val (.int p3), .val (.int p4), .val (.int z), .val (.int ca), .val (.int cb), .val (.int cd), .unset, .unset, .unset, .unset] [])) := ⟨_, rfl, c6⟩
  have l4 : ln = 0 ∨ ln = 1 ∨ ln = 2 ∨ ln = 3 := hln ▸ own_m4 p3
  rcases l4 with e4 | e4 | e4 | e4
  · rw [e4] at c7
    have c8 : Steps p.tables e below S0 (s₁.setTop (mkF m 31 #[.val (.int p0), .val (.int p1), .val (.int p2), .val (.int p3), .val (.int p4), .val (.int (0 : Int32)), .val (.int ca), .val (.int cb), .val (.int cd), .unset, .unset, .unset, .unset] [(.int (0 : Int32))])) := c7.trans (by
      show Steps p.tables e below (s₁.setTop (mkF m 29 #[.val (.int p0), .val (.int p1), .val (.int p2), .val (.int p3), .val (.int p4), .val (.int (0 : Int32)), .val (.int ca), .val (.int cb), .val (.int cd), .unset, .unset, .unset, .unset] [])) _
      refine XS.iload X0.here hx rfl (hb hby at_29) rfl ?_
      exact Steps.refl _)
    obtain ⟨T9, h9, k9, X9, e9, E9, A9, st9⟩ := newP X0 hx hZ (hw _ (List.mem_of_getElem? (i := 0) rfl)) e0 (g := (mkF m 31 #[.val (.int p0), .val (.int p1), .val (.int p2), .val (.int p3), .val (.int p4), .val (.int (0 : Int32)), .val (.int ca), .val (.int cb), .val (.int cd), .unset, .unset, .unset, .unset] [(.int (0 : Int32))])) rfl (hb hby at_31) rfl (by decide) (cap := 0) (by decide) (by decide) (by decide) (by decide)
    obtain ⟨b9, g9⟩ : ∃ z, z = h0.size := ⟨_, rfl⟩
    rw [← g9] at A9 st9
    have c10 : Steps p.tables e below S0 (T9.setTop (mkF m 33 #[.val (.int p0), .val (.int p1), .val (.int p2), .val (.int p3), .val (.int p4), .val (.int (0 : Int32)), .val (.int ca), .val (.int cb), .val (.int cd), .unset, .unset, .unset, .unset] [(.ref b9)])) := c8.trans (st9 _ (Steps.refl _))
    have z9 : n0 ≤ h9.size := Nat.le_trans Z0 E9.1
    have K9 := K0.ext E9
    have r9 : CHr Z EL s.vm h0 s.vm h9 := CHr.ext E9 R0.1
    have R9 := R0.trans r9
    have V9 : Arv Z h9 b9 k9 .char (0 : Int32) [] (.int (0 : Int32)) := (Arv.new A9 (by decide)).pad (pad_rep [] (.int (0 : Int32)) 0)
    have lt_b9 : b9 < h9.size := V9.lt
    have c11 : Steps p.tables e below S0 (T9.setTop (mkF m 70 #[.val (.int p0), .val (.int p1), .val (.int p2), .val (.int p3), .val (.int p4), .val (.int (0 : Int32)), .val (.int ca), .val (.int cb), .val (.int cd), .val (.ref b9), .unset, .unset, .unset] [])) := c10.trans (by
      show Steps p.tables e below (T9.setTop (mkF m 33 #[.val (.int p0), .val (.int p1), .val (.int p2), .val (.int p3), .val (.int p4), .val (.int (0 : Int32)), .val (.int ca), .val (.int cb), .val (.int cd), .unset, .unset, .unset, .unset] [(.ref b9)])) _
      refine XS.astore X9.here hx rfl (hb hby at_33) rfl rfl (l' := #[.val (.int p0), .val (.int p1), .val (.int p2), .val (.int p3), .val (.int p4), .val (.int (0 : Int32)), .val (.int ca), .val (.int cb), .val (.int cd), .val (.ref b9), .unset, .unset, .unset]) rfl ?_
      show Steps p.tables e below (T9.setTop (mkF m 35 #[.val (.int p0), .val (.int p1), .val (.int p2), .val (.int p3), .val (.int p4), .val (.int (0 : Int32)), .val (.int ca), .val (.int cb), .val (.int cd), .val (.ref b9), .unset, .unset, .unset] [])) _
      refine XS.iload X9.here hx rfl (hb hby at_35) rfl ?_
      show Steps p.tables e below (T9.setTop (mkF m 37 #[.val (.int p0), .val (.int p1), .val (.int p2), .val (.int p3), .val (.int p4), .val (.int (0 : Int32)), .val (.int ca), .val (.int cb), .val (.int cd), .val (.ref b9), .unset, .unset, .unset] [(.int (0 : Int32))])) _
      refine XS.ifYes X9.here hx rfl (pc0 := 37) (pc' := 46) rfl (hb hby at_37) rfl ((if0 _ _).trans (flt (by decide : ¬ ((0 : Int32) < (0 : Int32)))).2.2.2) (by decide) (by decide) ?_
      show Steps p.tables e below (T9.setTop (mkF m 46 #[.val (.int p0), .val (.int p1), .val (.int p2), .val (.int p3), .val (.int p4), .val (.int (0 : Int32)), .val (.int ca), .val (.int cb), .val (.int cd), .val (.ref b9), .unset, .unset, .unset] [])) _
      refine XS.iload X9.here hx rfl (hb hby at_46) rfl ?_
      show Steps p.tables e below (T9.setTop (mkF m 48 #[.val (.int p0), .val (.int p1), .val (.int p2), .val (.int p3), .val (.int p4), .val (.int (0 : Int32)), .val (.int ca), .val (.int cb), .val (.int cd), .val (.ref b9), .unset, .unset, .unset] [(.int (0 : Int32))])) _
      refine XS.iconst X9.here hx rfl (hb hby at_48) ?_
      show Steps p.tables e below (T9.setTop (mkF m 49 #[.val (.int p0), .val (.int p1), .val (.int p2), .val (.int p3), .val (.int p4), .val (.int (0 : Int32)), .val (.int ca), .val (.int cb), .val (.int cd), .val (.ref b9), .unset, .unset, .unset] [(.int (1 : Int32)), (.int (0 : Int32))])) _
      refine XS.icmpYes X9.here hx rfl (pc0 := 49) (pc' := 58) rfl (hb hby at_49) rfl (flt (by decide : ¬ ((1 : Int32) < (0 : Int32)))).2.2.2 (by decide) (by decide) ?_
      show Steps p.tables e below (T9.setTop (mkF m 58 #[.val (.int p0), .val (.int p1), .val (.int p2), .val (.int p3), .val (.int p4), .val (.int (0 : Int32)), .val (.int ca), .val (.int cb), .val (.int cd), .val (.ref b9), .unset, .unset, .unset] [])) _
      refine XS.iload X9.here hx rfl (hb hby at_58) rfl ?_
      show Steps p.tables e below (T9.setTop (mkF m 60 #[.val (.int p0), .val (.int p1), .val (.int p2), .val (.int p3), .val (.int p4), .val (.int (0 : Int32)), .val (.int ca), .val (.int cb), .val (.int cd), .val (.ref b9), .unset, .unset, .unset] [(.int (0 : Int32))])) _
      refine XS.iconst X9.here hx rfl (hb hby at_60) ?_
      show Steps p.tables e below (T9.setTop (mkF m 61 #[.val (.int p0), .val (.int p1), .val (.int p2), .val (.int p3), .val (.int p4), .val (.int (0 : Int32)), .val (.int ca), .val (.int cb), .val (.int cd), .val (.ref b9), .unset, .unset, .unset] [(.int (2 : Int32)), (.int (0 : Int32))])) _
      refine XS.icmpYes X9.here hx rfl (pc0 := 61) (pc' := 70) rfl (hb hby at_61) rfl (flt (by decide : ¬ ((2 : Int32) < (0 : Int32)))).2.2.2 (by decide) (by decide) ?_
      exact Steps.refl _)
    obtain ⟨T12, h12, X12, e12, E12, A12, D12, -, st12⟩ := newO X9 hx hZ hown (hw _ (List.mem_of_getElem? (i := 1) rfl)) (hw _ (List.mem_of_getElem? (i := 2) rfl)) (hw _ (List.mem_of_getElem? (i := 3) rfl)) e9 (g := (mkF m 70 #[.val (.int p0), .val (.int p1), .val (.int p2), .val (.int p3), .val (.int p4), .val (.int (0 : Int32)), .val (.int ca), .val (.int cb), .val (.int cd), .val (.ref b9), .unset, .unset, .unset] [])) rfl (hb hby at_70) (by decide) (by decide)
    obtain ⟨b12, g12⟩ : ∃ z, z = h9.size := ⟨_, rfl⟩
    rw [← g12] at A12 D12 st12
    have sn12 : Safe Z EL s.vm h9 b12 := Safe.new (Nat.le_of_eq g12.symm)
    have c13 : Steps p.tables e below S0 (T12.setTop (mkF m 73 #[.val (.int p0), .val (.int p1), .val (.int p2), .val (.int p3), .val (.int p4), .val (.int (0 : Int32)), .val (.int ca), .val (.int cb), .val (.int cd), .val (.ref b9), .unset, .unset, .unset] [(.ref b12)])) := c11.trans (st12 _ (Steps.refl _))
    have z12 : n0 ≤ h12.size := Nat.le_trans z9 E12.1
    have K12 := K9.ext E12
    have r12 : CHr Z EL s.vm h9 s.vm h12 := CHr.ext E12 R9.1
    have R12 := R9.trans r12
    have lt_b12 : b12 < h12.size := A12.lt
    have sf12 : Safe Z EL s.vm h12 b12 := Safe.ext E12 R9.1 sn12
    have F12_coder : Fld Z h12 b12 "java/lang/String" "coder" "B" (.int (0 : Int32)) := D12 (Or.inr (hw _ (List.mem_of_getElem? (i := 27) rfl))) (ty := .byte) (by decide)
    have F12_value : Fld Z h12 b12 "java/lang/String" "value" "[B" .null := D12 (Or.inr (hw _ (List.mem_of_getElem? (i := 29) rfl))) (ty := (.array .byte)) (by decide)
    have c14 : Steps p.tables e below S0 (T12.setTop (mkF m 76 #[.val (.int p0), .val (.int p1), .val (.int p2), .val (.int p3), .val (.int p4), .val (.int (0 : Int32)), .val (.int ca), .val (.int cb), .val (.int cd), .val (.ref b9), .unset, .unset, .unset] [(.ref b9), (.ref b12), (.ref b12)])) := c13.trans (by
      show Steps p.tables e below (T12.setTop (mkF m 73 #[.val (.int p0), .val (.int p1), .val (.int p2), .val (.int p3), .val (.int p4), .val (.int (0 : Int32)), .val (.int ca), .val (.int cb), .val (.int cd), .val (.ref b9), .unset, .unset, .unset] [(.ref b12)])) _
      refine XS.dup X12.here hx rfl (hb hby at_73) rfl rfl ?_
      show Steps p.tables e below (T12.setTop (mkF m 74 #[.val (.int p0), .val (.int p1), .val (.int p2), .val (.int p3), .val (.int p4), .val (.int (0 : Int32)), .val (.int ca), .val (.int cb), .val (.int cd), .val (.ref b9), .unset, .unset, .unset] [(.ref b12), (.ref b12)])) _
      refine XS.aload X12.here hx rfl (hb hby at_74) rfl rfl ?_
      exact Steps.refl _)
    obtain ⟨_, _, ⟨T15, L15, kk15, nn15⟩, -, Xx15, hSx15, hgx15, ⟨Lc15, hQ15, l15, y15, z15, r15⟩, st15⟩ := X12.specialBackS hx (y := (⟨"java/lang/String", "<init>", "([C)V"⟩ : MethodName)) rfl hown (mvT hZ (hw _ (List.mem_of_getElem? (i := 4) rfl))) (mvT hZ (hw _ (List.mem_of_getElem? (i := 5) rfl))) (mvT hZ (hw _ (List.mem_of_getElem? (i := 6) rfl))) (by decide) (backOfSH (W := 1) (rmE1 l Z a0 hw [] b12 b9 _ _ h12 n0 z12 (Nat.le_trans Z0 (Nat.le_trans K9.1 (Nat.le_of_eq g12.symm))) A12 F12_value F12_coder (V9.ext E12)) hZ (hw _ (List.mem_of_getElem? (i := 6) rfl)) (hw _ (List.mem_of_getElem? (i := 3) rfl)) (by decide) (by decide) hEL R12.1) (g := (mkF m 76 #[.val (.int p0), .val (.int p1), .val (.int p2), .val (.int p3), .val (.int p4), .val (.int (0 : Int32)), .val (.int ca), .val (.int cb), .val (.int cd), .val (.ref b9), .unset, .unset, .unset] [(.ref b9), (.ref b12), (.ref b12)])) rfl (by rw [hml]; rfl) (Steps.refl _) (a := b12) (argsL := [(.ref b9)]) (rest := [(.ref b12)]) (lenOf pd_oaCcV rfl) rfl (by show 2 * 0 + _ ≤ _; exact Nat.le_of_eq rfl) (hb hby at_76) (fun _ _ => ⟨rfl, e12, (by decide : 2 + 4 ≤ _), (by decide : 4 + 8 ≤ _)⟩)
    dsimp only [Pt.U, Pt.locs, Pt.cells, Pt.slots] at Xx15 hSx15 hgx15 l15 y15 z15 r15 st15 hQ15
    subst l15 y15 z15
    obtain ⟨X15, hS15, hZ15, hown15⟩ := rebS hS0 (Nat.le_trans (Nat.zero_le _) (Nat.le_trans E9.1 E12.1)) Xx15 hSx15 (e12 ▸ hgx15) hZ hown
    obtain ⟨t15, kb15, rfl, Nq15, Kq15, So15⟩ := hQ15
    have c16 : Steps p.tables e below S0 (T15.setTop (mkF m 79 #[.val (.int p0), .val (.int p1), .val (.int p2), .val (.int p3), .val (.int p4), .val (.int (0 : Int32)), .val (.int ca), .val (.int cb), .val (.int cd), .val (.ref b9), .unset, .unset, .unset] [(.ref b12)])) := c14.trans (st15)
    have N15 := Fr.app N0 Nq15
    have z15 : n0 ≤ T15.heap.size := Nat.le_trans z12 Kq15.1
    have K15 := K12.trans Kq15 (allS (Or.inr (Nat.le_trans K9.1 (Nat.le_of_eq g12.symm))) all0)
    have R15 := R12.trans r15
    have lt_t15 := So15.2.2.2.1.lt
    have c17 : Steps p.tables e below S0 (T15.setTop (mkF m 88 #[.val (.int p0), .val (.int p1), .val (.int p2), .val (.int p3), .val (.int p4), .val (.int (0 : Int32)), .val (.int ca), .val (.int cb), .val (.int cd), .val (.ref b9), .val (.ref b12), .unset, .unset] [(.int ((p4 &&& (255 : Int32)).toUInt32.toUInt16.toUInt32.toInt32))])) := c16.trans (by
      show Steps p.tables e below (T15.setTop (mkF m 79 #[.val (.int p0), .val (.int p1), .val (.int p2), .val (.int p3), .val (.int p4), .val (.int (0 : Int32)), .val (.int ca), .val (.int cb), .val (.int cd), .val (.ref b9), .unset, .unset, .unset] [(.ref b12)])) _
      refine XS.astore X15.here hx rfl (hb hby at_79) rfl rfl (l' := #[.val (.int p0), .val (.int p1), .val (.int p2), .val (.int p3), .val (.int p4), .val (.int (0 : Int32)), .val (.int ca), .val (.int cb), .val (.int cd), .val (.ref b9), .val (.ref b12), .unset, .unset]) rfl ?_
      show Steps p.tables e below (T15.setTop (mkF m 81 #[.val (.int p0), .val (.int p1), .val (.int p2), .val (.int p3), .val (.int p4), .val (.int (0 : Int32)), .val (.int ca), .val (.int cb), .val (.int cd), .val (.ref b9), .val (.ref b12), .unset, .unset] [])) _
      refine XS.iload X15.here hx rfl (hb hby at_81) rfl ?_
      show Steps p.tables e below (T15.setTop (mkF m 83 #[.val (.int p0), .val (.int p1), .val (.int p2), .val (.int p3), .val (.int p4), .val (.int (0 : Int32)), .val (.int ca), .val (.int cb), .val (.int cd), .val (.ref b9), .val (.ref b12), .unset, .unset] [(.int p4)])) _
      refine XS.sipush X15.here hx rfl (hb hby at_83) ?_
      show Steps p.tables e below (T15.setTop (mkF m 86 #[.val (.int p0), .val (.int p1), .val (.int p2), .val (.int p3), .val (.int p4), .val (.int (0 : Int32)), .val (.int ca), .val (.int cb), .val (.int cd), .val (.ref b9), .val (.ref b12), .unset, .unset] [(.int (255 : Int32)), (.int p4)])) _
      refine XS.iand X15.here hx rfl (hb hby at_86) rfl ?_
      show Steps p.tables e below (T15.setTop (mkF m 87 #[.val (.int p0), .val (.int p1), .val (.int p2), .val (.int p3), .val (.int p4), .val (.int (0 : Int32)), .val (.int ca), .val (.int cb), .val (.int cd), .val (.ref b9), .val (.ref b12), .unset, .unset] [(.int (p4 &&& (255 : Int32)))])) _
      refine XS.i2c X15.here hx rfl (hb hby at_87) rfl ?_
      exact Steps.refl _)
    obtain ⟨_, _, ⟨T18, L18, kk18, nn18⟩, -, X18, ⟨Lc18, hQ18, l18, y18, z18⟩, st18⟩ := Jvm.LawKit.callS X15 hx (y := (⟨"java/lang/String", "valueOf", "(C)Ljava/lang/String;"⟩ : MethodName)) hown15 (mvT hZ15 (hw _ (List.mem_of_getElem? (i := 30) rfl))) (mvT hZ15 (hw _ (List.mem_of_getElem? (i := 31) rfl))) (mvT hZ15 (hw _ (List.mem_of_getElem? (i := 3) rfl))) (mvT hZ15 (hw _ (List.mem_of_getElem? (i := 32) rfl))) (by decide) (backOf (W := 0) (rmValC l Z a0 hw [] ((p4 &&& (255 : Int32)).toUInt32.toUInt16.toUInt32.toInt32) G1 T15.heap n0 z15 (own_c8m p4) O2 P5 (((X00.ext E9).ext E12).keep Kq15 (allS (Nat.le_trans Z0 (Nat.le_trans K9.1 (Nat.le_of_eq g12.symm))) all0))) hZ15 (hw _ (List.mem_of_getElem? (i := 32) rfl)) (hw _ (List.mem_of_getElem? (i := 3) rfl)) (by decide) (by decide)) (g := (mkF m 88 #[.val (.int p0), .val (.int p1), .val (.int p2), .val (.int p3), .val (.int p4), .val (.int (0 : Int32)), .val (.int ca), .val (.int cb), .val (.int cd), .val (.ref b9), .val (.ref b12), .unset, .unset] [(.int ((p4 &&& (255 : Int32)).toUInt32.toUInt16.toUInt32.toInt32))])) rfl (by rw [hml]; rfl) (argsL := [(.int ((p4 &&& (255 : Int32)).toUInt32.toUInt16.toUInt32.toInt32))]) (rest := []) (lenOf pd_oCcLjavaslangsStringe rfl) rfl (by show 2 * 0 + _ ≤ _; exact Nat.le_of_eq rfl) (hb hby at_88) (fun _ _ => ⟨rfl, rfl, (by decide : 6 + 2 ≤ _), (by decide : 12 + 5 ≤ _)⟩)
    dsimp only [Pt.U, Pt.locs, Pt.cells, Pt.slots] at X18 l18 y18 z18 st18 hQ18
    subst l18 y18 z18
    obtain ⟨x18, t18, kb18, rfl, Nq18, Kq18, gx18, gt18, So18⟩ := hQ18
    have c19 : Steps p.tables e below S0 (T18.setTop (mkF m 91 #[.val (.int p0), .val (.int p1), .val (.int p2), .val (.int p3), .val (.int p4), .val (.int (0 : Int32)), .val (.int ca), .val (.int cb), .val (.int cd), .val (.ref b9), .val (.ref b12), .unset, .unset] [(.ref x18)])) := c17.trans (st18 _ (Steps.refl _))
    have N18 := Fr.app N15 Nq18
    have z18 : n0 ≤ T18.heap.size := Nat.le_trans z15 Kq18.1
    have K18 := K15.trans Kq18 all0
    have r18 : CHr Z EL T15.vm T15.heap T15.vm T18.heap := CHr.keep Kq18 sf0 R15.1
    have R18 := R15.trans r18
    have lt_x18 := So18.1.lt
    have lt_t18 := So18.2.2.2.1.lt
    have c20 : Steps p.tables e below S0 (T18.setTop (mkF m 148 #[.val (.int p0), .val (.int p1), .val (.int p2), .val (.int p3), .val (.int p4), .val (.int (0 : Int32)), .val (.int ca), .val (.int cb), .val (.int cd), .val (.ref b9), .val (.ref b12), .val (.ref x18), .val (.int (1 : Int32))] [(.int (1 : Int32))])) := c19.trans (by
      show Steps p.tables e below (T18.setTop (mkF m 91 #[.val (.int p0), .val (.int p1), .val (.int p2), .val (.int p3), .val (.int p4), .val (.int (0 : Int32)), .val (.int ca), .val (.int cb), .val (.int cd), .val (.ref b9), .val (.ref b12), .unset, .unset] [(.ref x18)])) _
      refine XS.astore X18.here hx rfl (hb hby at_91) rfl rfl (l' := #[.val (.int p0), .val (.int p1), .val (.int p2), .val (.int p3), .val (.int p4), .val (.int (0 : Int32)), .val (.int ca), .val (.int cb), .val (.int cd), .val (.ref b9), .val (.ref b12), .val (.ref x18), .unset]) rfl ?_
      show Steps p.tables e below (T18.setTop (mkF m 93 #[.val (.int p0), .val (.int p1), .val (.int p2), .val (.int p3), .val (.int p4), .val (.int (0 : Int32)), .val (.int ca), .val (.int cb), .val (.int cd), .val (.ref b9), .val (.ref b12), .val (.ref x18), .unset] [])) _
      refine XS.iload X18.here hx rfl (hb hby at_93) rfl ?_
      show Steps p.tables e below (T18.setTop (mkF m 95 #[.val (.int p0), .val (.int p1), .val (.int p2), .val (.int p3), .val (.int p4), .val (.int (0 : Int32)), .val (.int ca), .val (.int cb), .val (.int cd), .val (.ref b9), .val (.ref b12), .val (.ref x18), .unset] [(.int (0 : Int32))])) _
      refine XS.iconst X18.here hx rfl (hb hby at_95) ?_
      show Steps p.tables e below (T18.setTop (mkF m 96 #[.val (.int p0), .val (.int p1), .val (.int p2), .val (.int p3), .val (.int p4), .val (.int (0 : Int32)), .val (.int ca), .val (.int cb), .val (.int cd), .val (.ref b9), .val (.ref b12), .val (.ref x18), .unset] [(.int (1 : Int32)), (.int (0 : Int32))])) _
      refine XS.icmpYes X18.here hx rfl (pc0 := 96) (pc' := 107) rfl (hb hby at_96) rfl (tlt (by decide : ((0 : Int32) < (1 : Int32)))).1 (by decide) (by decide) ?_
      show Steps p.tables e below (T18.setTop (mkF m 107 #[.val (.int p0), .val (.int p1), .val (.int p2), .val (.int p3), .val (.int p4), .val (.int (0 : Int32)), .val (.int ca), .val (.int cb), .val (.int cd), .val (.ref b9), .val (.ref b12), .val (.ref x18), .unset] [])) _
      refine XS.iload X18.here hx rfl (hb hby at_107) rfl ?_
      show Steps p.tables e below (T18.setTop (mkF m 109 #[.val (.int p0), .val (.int p1), .val (.int p2), .val (.int p3), .val (.int p4), .val (.int (0 : Int32)), .val (.int ca), .val (.int cb), .val (.int cd), .val (.ref b9), .val (.ref b12), .val (.ref x18), .unset] [(.int (0 : Int32))])) _
      refine XS.iconst X18.here hx rfl (hb hby at_109) ?_
      show Steps p.tables e below (T18.setTop (mkF m 110 #[.val (.int p0), .val (.int p1), .val (.int p2), .val (.int p3), .val (.int p4), .val (.int (0 : Int32)), .val (.int ca), .val (.int cb), .val (.int cd), .val (.ref b9), .val (.ref b12), .val (.ref x18), .unset] [(.int (2 : Int32)), (.int (0 : Int32))])) _
      refine XS.icmpYes X18.here hx rfl (pc0 := 110) (pc' := 121) rfl (hb hby at_110) rfl (tlt (by decide : ((0 : Int32) < (2 : Int32)))).1 (by decide) (by decide) ?_
      show Steps p.tables e below (T18.setTop (mkF m 121 #[.val (.int p0), .val (.int p1), .val (.int p2), .val (.int p3), .val (.int p4), .val (.int (0 : Int32)), .val (.int ca), .val (.int cb), .val (.int cd), .val (.ref b9), .val (.ref b12), .val (.ref x18), .unset] [])) _
      refine XS.iload X18.here hx rfl (hb hby at_121) rfl ?_
      show Steps p.tables e below (T18.setTop (mkF m 123 #[.val (.int p0), .val (.int p1), .val (.int p2), .val (.int p3), .val (.int p4), .val (.int (0 : Int32)), .val (.int ca), .val (.int cb), .val (.int cd), .val (.ref b9), .val (.ref b12), .val (.ref x18), .unset] [(.int (0 : Int32))])) _
      refine XS.iconst X18.here hx rfl (hb hby at_123) ?_
      show Steps p.tables e below (T18.setTop (mkF m 124 #[.val (.int p0), .val (.int p1), .val (.int p2), .val (.int p3), .val (.int p4), .val (.int (0 : Int32)), .val (.int ca), .val (.int cb), .val (.int cd), .val (.ref b9), .val (.ref b12), .val (.ref x18), .unset] [(.int (3 : Int32)), (.int (0 : Int32))])) _
      refine XS.icmpYes X18.here hx rfl (pc0 := 124) (pc' := 135) rfl (hb hby at_124) rfl (tlt (by decide : ((0 : Int32) < (3 : Int32)))).1 (by decide) (by decide) ?_
      show Steps p.tables e below (T18.setTop (mkF m 135 #[.val (.int p0), .val (.int p1), .val (.int p2), .val (.int p3), .val (.int p4), .val (.int (0 : Int32)), .val (.int ca), .val (.int cb), .val (.int cd), .val (.ref b9), .val (.ref b12), .val (.ref x18), .unset] [])) _
      refine XS.iconst X18.here hx rfl (hb hby at_135) ?_
      show Steps p.tables e below (T18.setTop (mkF m 136 #[.val (.int p0), .val (.int p1), .val (.int p2), .val (.int p3), .val (.int p4), .val (.int (0 : Int32)), .val (.int ca), .val (.int cb), .val (.int cd), .val (.ref b9), .val (.ref b12), .val (.ref x18), .unset] [(.int (1 : Int32))])) _
      refine XS.goto X18.here hx rfl (pc0 := 136) (pc' := 140) rfl (hb hby at_136) (by decide) (by decide) ?_
      show Steps p.tables e below (T18.setTop (mkF m 140 #[.val (.int p0), .val (.int p1), .val (.int p2), .val (.int p3), .val (.int p4), .val (.int (0 : Int32)), .val (.int ca), .val (.int cb), .val (.int cd), .val (.ref b9), .val (.ref b12), .val (.ref x18), .unset] [(.int (1 : Int32))])) _
      refine XS.istore X18.here hx rfl (hb hby at_140) rfl (l' := #[.val (.int p0), .val (.int p1), .val (.int p2), .val (.int p3), .val (.int p4), .val (.int (0 : Int32)), .val (.int ca), .val (.int cb), .val (.int cd), .val (.ref b9), .val (.ref b12), .val (.ref x18), .val (.int (1 : Int32))]) rfl ?_
      show Steps p.tables e below (T18.setTop (mkF m 142 #[.val (.int p0), .val (.int p1), .val (.int p2), .val (.int p3), .val (.int p4), .val (.int (0 : Int32)), .val (.int ca), .val (.int cb), .val (.int cd), .val (.ref b9), .val (.ref b12), .val (.ref x18), .val (.int (1 : Int32))] [])) _
      refine XS.iload X18.here hx rfl (hb hby at_142) rfl ?_
      show Steps p.tables e below (T18.setTop (mkF m 144 #[.val (.int p0), .val (.int p1), .val (.int p2), .val (.int p3), .val (.int p4), .val (.int (0 : Int32)), .val (.int ca), .val (.int cb), .val (.int cd), .val (.ref b9), .val (.ref b12), .val (.ref x18), .val (.int (1 : Int32))] [(.int (1 : Int32))])) _
      refine XS.ifNo X18.here hx rfl (hb hby at_144) rfl ((if0 _ _).trans (feq (by decide : ¬ ((1 : Int32) = (0 : Int32)))).1) ?_
      show Steps p.tables e below (T18.setTop (mkF m 147 #[.val (.int p0), .val (.int p1), .val (.int p2), .val (.int p3), .val (.int p4), .val (.int (0 : Int32)), .val (.int ca), .val (.int cb), .val (.int cd), .val (.ref b9), .val (.ref b12), .val (.ref x18), .val (.int (1 : Int32))] [])) _
      refine XS.iconst X18.here hx rfl (hb hby at_147) ?_
      exact Steps.refl _)
    obtain ⟨fs, hr, hrun, hended, hW⟩ := X18.leaveW hS15 (Nat.le_trans (Nat.le_refl _) Kq18.1) (v := some (.int (1 : Int32))) (fun h => by rw [Bd.returns] at h; cases h)
    refine ⟨_, _, c20.trans (retOut X18 hx Bd.returns rfl (Or.inl ⟨rfl, by simp, _, rfl⟩) (hb hby at_148) hr), hrun, hended, _, _, rfl, ?_, ?_, hW.1, hW.2.1, hW.2.2.1, hW.2.2.2.mono (by decide) (by decide)⟩
    · show Q0 Z  h0 n0 _ T18.heap _
      exact ⟨rfl, N18⟩
    · show CHr Z EL s.vm s.heap T18.vm T18.heap
      rw [hh]; exact R18.trans (CHv.at X18 hZ15 hEL R18.1)
  · rw [e4] at c7
    have c21 : Steps p.tables e below S0 (s₁.setTop (mkF m 31 #[.val (.int p0), .val (.int p1), .val (.int p2), .val (.int p3), .val (.int p4), .val (.int (1 : Int32)), .val (.int ca), .val (.int cb), .val (.int cd), .unset, .unset, .unset, .unset] [(.int (1 : Int32))])) := c7.trans (by
      show Steps p.tables e below (s₁.setTop (mkF m 29 #[.val (.int p0), .val (.int p1), .val (.int p2), .val (.int p3), .val (.int p4), .val (.int (1 : Int32)), .val (.int ca), .val (.int cb), .val (.int cd), .unset, .unset, .unset, .unset] [])) _
      refine XS.iload X0.here hx rfl (hb hby at_29) rfl ?_
      exact Steps.refl _)
    obtain ⟨T22, h22, k22, X22, e22, E22, A22, st22⟩ := newP X0 hx hZ (hw _ (List.mem_of_getElem? (i := 0) rfl)) e0 (g := (mkF m 31 #[.val (.int p0), .val (.int p1), .val (.int p2), .val (.int p3), .val (.int p4), .val (.int (1 : Int32)), .val (.int ca), .val (.int cb), .val (.int cd), .unset, .unset, .unset, .unset] [(.int (1 : Int32))])) rfl (hb hby at_31) rfl (by decide) (cap := 1) (by decide) (by decide) (by decide) (by decide)
    obtain ⟨b22, g22⟩ : ∃ z, z = h0.size := ⟨_, rfl⟩
    rw [← g22] at A22 st22
    have c23 : Steps p.tables e below S0 (T22.setTop (mkF m 33 #[.val (.int p0), .val (.int p1), .val (.int p2), .val (.int p3), .val (.int p4), .val (.int (1 : Int32)), .val (.int ca), .val (.int cb), .val (.int cd), .unset, .unset, .unset, .unset] [(.ref b22)])) := c21.trans (st22 _ (Steps.refl _))
    have z22 : n0 ≤ h22.size := Nat.le_trans Z0 E22.1
    have K22 := K0.ext E22
    have r22 : CHr Z EL s.vm h0 s.vm h22 := CHr.ext E22 R0.1
    have R22 := R0.trans r22
    have V22 : Arv Z h22 b22 k22 .char (1 : Int32) [(.int (0 : Int32))] (.int (0 : Int32)) := (Arv.new A22 (by decide)).pad (pad_rep [] (.int (0 : Int32)) 1)
    have lt_b22 : b22 < h22.size := V22.lt
    have c24 : Steps p.tables e below S0 (T22.setTop (mkF m 45 #[.val (.int p0), .val (.int p1), .val (.int p2), .val (.int p3), .val (.int p4), .val (.int (1 : Int32)), .val (.int ca), .val (.int cb), .val (.int cd), .val (.ref b22), .unset, .unset, .unset] [(.int ca), (.int (0 : Int32)), (.ref b22)])) := c23.trans (by
      show Steps p.tables e below (T22.setTop (mkF m 33 #[.val (.int p0), .val (.int p1), .val (.int p2), .val (.int p3), .val (.int p4), .val (.int (1 : Int32)), .val (.int ca), .val (.int cb), .val (.int cd), .unset, .unset, .unset, .unset] [(.ref b22)])) _
      refine XS.astore X22.here hx rfl (hb hby at_33) rfl rfl (l' := #[.val (.int p0), .val (.int p1), .val (.int p2), .val (.int p3), .val (.int p4), .val (.int (1 : Int32)), .val (.int ca), .val (.int cb), .val (.int cd), .val (.ref b22), .unset, .unset, .unset]) rfl ?_
      show Steps p.tables e below (T22.setTop (mkF m 35 #[.val (.int p0), .val (.int p1), .val (.int p2), .val (.int p3), .val (.int p4), .val (.int (1 : Int32)), .val (.int ca), .val (.int cb), .val (.int cd), .val (.ref b22), .unset, .unset, .unset] [])) _
      refine XS.iload X22.here hx rfl (hb hby at_35) rfl ?_
      show Steps p.tables e below (T22.setTop (mkF m 37 #[.val (.int p0), .val (.int p1), .val (.int p2), .val (.int p3), .val (.int p4), .val (.int (1 : Int32)), .val (.int ca), .val (.int cb), .val (.int cd), .val (.ref b22), .unset, .unset, .unset] [(.int (1 : Int32))])) _
      refine XS.ifNo X22.here hx rfl (hb hby at_37) rfl ((if0 _ _).trans (tlt (by decide : ((0 : Int32) < (1 : Int32)))).2.2.2) ?_
      show Steps p.tables e below (T22.setTop (mkF m 40 #[.val (.int p0), .val (.int p1), .val (.int p2), .val (.int p3), .val (.int p4), .val (.int (1 : Int32)), .val (.int ca), .val (.int cb), .val (.int cd), .val (.ref b22), .unset, .unset, .unset] [])) _
      refine XS.aload X22.here hx rfl (hb hby at_40) rfl rfl ?_
      show Steps p.tables e below (T22.setTop (mkF m 42 #[.val (.int p0), .val (.int p1), .val (.int p2), .val (.int p3), .val (.int p4), .val (.int (1 : Int32)), .val (.int ca), .val (.int cb), .val (.int cd), .val (.ref b22), .unset, .unset, .unset] [(.ref b22)])) _
      refine XS.iconst X22.here hx rfl (hb hby at_42) ?_
      show Steps p.tables e below (T22.setTop (mkF m 43 #[.val (.int p0), .val (.int p1), .val (.int p2), .val (.int p3), .val (.int p4), .val (.int (1 : Int32)), .val (.int ca), .val (.int cb), .val (.int cd), .val (.ref b22), .unset, .unset, .unset] [(.int (0 : Int32)), (.ref b22)])) _
      refine XS.iload X22.here hx rfl (hb hby at_43) rfl ?_
      exact Steps.refl _)
    obtain ⟨cl25, Ar25, q25, S25, Nn25, Ha25, G25⟩ := id V22
    obtain ⟨T25, h25, X25, e25, W25, st25⟩ := stC X22 hx hZ e22 Ar25 (j := (0 : Int32)) (inb_of S25 ⟨by decide, by decide⟩) (g := (mkF m 45 #[.val (.int p0), .val (.int p1), .val (.int p2), .val (.int p3), .val (.int p4), .val (.int (1 : Int32)), .val (.int ca), .val (.int cb), .val (.int cd), .val (.ref b22), .unset, .unset, .unset] [(.int ca), (.int (0 : Int32)), (.ref b22)])) rfl rfl (hb hby at_45)
    have V25 : Arv Z h25 b22 k22 .char (1 : Int32) [(.int (nar .char ca))] (.int (0 : Int32)) := Arv.set Ar25 q25 S25 Nn25 Ha25 G25 (fits_nar_char _) W25 0 rfl (Nat.le_of_ble_eq_true rfl)
    have c26 : Steps p.tables e below S0 (T25.setTop (mkF m 46 #[.val (.int p0), .val (.int p1), .val (.int p2), .val (.int p3), .val (.int p4), .val (.int (1 : Int32)), .val (.int ca), .val (.int cb), .val (.int cd), .val (.ref b22), .unset, .unset, .unset] [])) := c24.trans (st25 _ (Steps.refl _))
    have N25 := Fr.snoc X25 N0 (Nat.le_trans Z0 (Nat.le_trans K0.1 (Nat.le_of_eq g22.symm)))
    have z25 : n0 ≤ h25.size := Nat.le_trans z22 (Keep.of_wr W25).1
    have K25 := K22.wr W25 (Or.inr (Nat.le_trans K0.1 (Nat.le_of_eq g22.symm)))
    have r25 : CHr Z EL s.vm h22 s.vm h25 := CHr.wr W25 (Safe.arv hZ.alike V22 (by decide)) R22.1
    have R25 := R22.trans r25
    have c27 : Steps p.tables e below S0 (T25.setTop (mkF m 70 #[.val (.int p0), .val (.int p1), .val (.int p2), .val (.int p3), .val (.int p4), .val (.int (1 : Int32)), .val (.int ca), .val (.int cb), .val (.int cd), .val (.ref b22), .unset, .unset, .unset] [])) := c26.trans (by
      show Steps p.tables e below (T25.setTop (mkF m 46 #[.val (.int p0), .val (.int p1), .val (.int p2), .val (.int p3), .val (.int p4), .val (.int (1 : Int32)), .val (.int ca), .val (.int cb), .val (.int cd), .val (.ref b22), .unset, .unset, .unset] [])) _
      refine XS.iload X25.here hx rfl (hb hby at_46) rfl ?_
      show Steps p.tables e below (T25.setTop (mkF m 48 #[.val (.int p0), .val (.int p1), .val (.int p2), .val (.int p3), .val (.int p4), .val (.int (1 : Int32)), .val (.int ca), .val (.int cb), .val (.int cd), .val (.ref b22), .unset, .unset, .unset] [(.int (1 : Int32))])) _
      refine XS.iconst X25.here hx rfl (hb hby at_48) ?_
      show Steps p.tables e below (T25.setTop (mkF m 49 #[.val (.int p0), .val (.int p1), .val (.int p2), .val (.int p3), .val (.int p4), .val (.int (1 : Int32)), .val (.int ca), .val (.int cb), .val (.int cd), .val (.ref b22), .unset, .unset, .unset] [(.int (1 : Int32)), (.int (1 : Int32))])) _
      refine XS.icmpYes X25.here hx rfl (pc0 := 49) (pc' := 58) rfl (hb hby at_49) rfl (flt (by decide : ¬ ((1 : Int32) < (1 : Int32)))).2.2.2 (by decide) (by decide) ?_
      show Steps p.tables e below (T25.setTop (mkF m 58 #[.val (.int p0), .val (.int p1), .val (.int p2), .val (.int p3), .val (.int p4), .val (.int (1 : Int32)), .val (.int ca), .val (.int cb), .val (.int cd), .val (.ref b22), .unset, .unset, .unset] [])) _
      refine XS.iload X25.here hx rfl (hb hby at_58) rfl ?_
      show Steps p.tables e below (T25.setTop (mkF m 60 #[.val (.int p0), .val (.int p1), .val (.int p2), .val (.int p3), .val (.int p4), .val (.int (1 : Int32)), .val (.int ca), .val (.int cb), .val (.int cd), .val (.ref b22), .unset, .unset, .unset] [(.int (1 : Int32))])) _
      refine XS.iconst X25.here hx rfl (hb hby at_60) ?_
      show Steps p.tables e below (T25.setTop (mkF m 61 #[.val (.int p0), .val (.int p1), .val (.int p2), .val (.int p3), .val (.int p4), .val (.int (1 : Int32)), .val (.int ca), .val (.int cb), .val (.int cd), .val (.ref b22), .unset, .unset, .unset] [(.int (2 : Int32)), (.int (1 : Int32))])) _
      refine XS.icmpYes X25.here hx rfl (pc0 := 61) (pc' := 70) rfl (hb hby at_61) rfl (flt (by decide : ¬ ((2 : Int32) < (1 : Int32)))).2.2.2 (by decide) (by decide) ?_
      exact Steps.refl _)
    obtain ⟨T28, h28, X28, e28, E28, A28, D28, -, st28⟩ := newO X25 hx hZ hown (hw _ (List.mem_of_getElem? (i := 1) rfl)) (hw _ (List.mem_of_getElem? (i := 2) rfl)) (hw _ (List.mem_of_getElem? (i := 3) rfl)) e25 (g := (mkF m 70 #[.val (.int p0), .val (.int p1), .val (.int p2), .val (.int p3), .val (.int p4), .val (.int (1 : Int32)), .val (.int ca), .val (.int cb), .val (.int cd), .val (.ref b22), .unset, .unset, .unset] [])) rfl (hb hby at_70) (by decide) (by decide)
    obtain ⟨b28, g28⟩ : ∃ z, z = h25.size := ⟨_, rfl⟩
    rw [← g28] at A28 D28 st28
    have sn28 : Safe Z EL s.vm h25 b28 := Safe.new (Nat.le_of_eq g28.symm)
    have c29 : Steps p.tables e below S0 (T28.setTop (mkF m 73 #[.val (.int p0), .val (.int p1), .val (.int p2), .val (.int p3), .val (.int p4), .val (.int (1 : Int32)), .val (.int ca), .val (.int cb), .val (.int cd), .val (.ref b22), .unset, .unset, .unset] [(.ref b28)])) := c27.trans (st28 _ (Steps.refl _))
    have z28 : n0 ≤ h28.size := Nat.le_trans z25 E28.1
    have K28 := K25.ext E28
    have r28 : CHr Z EL s.vm h25 s.vm h28 := CHr.ext E28 R25.1
    have R28 := R25.trans r28
    have lt_b28 : b28 < h28.size := A28.lt
    have sf28 : Safe Z EL s.vm h28 b28 := Safe.ext E28 R25.1 sn28
    have F28_coder : Fld Z h28 b28 "java/lang/String" "coder" "B" (.int (0 : Int32)) := D28 (Or.inr (hw _ (List.mem_of_getElem? (i := 27) rfl))) (ty := .byte) (by decide)
    have F28_value : Fld Z h28 b28 "java/lang/String" "value" "[B" .null := D28 (Or.inr (hw _ (List.mem_of_getElem? (i := 29) rfl))) (ty := (.array .byte)) (by decide)
    have c30 : Steps p.tables e below S0 (T28.setTop (mkF m 76 #[.val (.int p0), .val (.int p1), .val (.int p2), .val (.int p3), .val (.int p4), .val (.int (1 : Int32)), .val (.int ca), .val (.int cb), .val (.int cd), .val (.ref b22), .unset, .unset, .unset] [(.ref b22), (.ref b28), (.ref b28)])) := c29.trans (by
      show Steps p.tables e below (T28.setTop (mkF m 73 #[.val (.int p0), .val (.int p1), .val (.int p2), .val (.int p3), .val (.int p4), .val (.int (1 : Int32)), .val (.int ca), .val (.int cb), .val (.int cd), .val (.ref b22), .unset, .unset, .unset] [(.ref b28)])) _
      refine XS.dup X28.here hx rfl (hb hby at_73) rfl rfl ?_
      show Steps p.tables e below (T28.setTop (mkF m 74 #[.val (.int p0), .val (.int p1), .val (.int p2), .val (.int p3), .val (.int p4), .val (.int (1 : Int32)), .val (.int ca), .val (.int cb), .val (.int cd), .val (.ref b22), .unset, .unset, .unset] [(.ref b28), (.ref b28)])) _
      refine XS.aload X28.here hx rfl (hb hby at_74) rfl rfl ?_
      exact Steps.refl _)
    have hp31 : ∀ c ∈ ([(nar .char ca)] : List Int32), ¬ c < 0 ∧ ¬ (255 : Int32) < c := (own_alS (own_c8n h8ca) own_al0)
    have hws31 : ∀ d ∈ StrChars.Road.words, d.before a0 Z = true := fun d hd => hw d (own_in_words d hd)
    obtain ⟨_, _, ⟨T32, L32, kk32, nn32⟩, -, X32, ⟨Lc32, hQ32, l32, y32, z32⟩, st32⟩ := X28.specialBack hx (y := (⟨"java/lang/String", "<init>", "([C)V"⟩ : MethodName)) rfl hown (mvT hZ (hw _ (List.mem_of_getElem? (i := 4) rfl))) (mvT hZ (hw _ (List.mem_of_getElem? (i := 5) rfl))) (mvT hZ (hw _ (List.mem_of_getElem? (i := 6) rfl))) (by decide) (StrChars.Road.backV (W := 1) hZ hws31 (kI := 4) (hw _ (List.mem_of_getElem? (i := 2) rfl)) (cs := ([(nar .char ca)] : List Int32)) (bs := (([(nar .char ca)] : List Int32)).map (fun c => c.toInt8.toInt32)) (n := 1) (Nat.le_trans Z0 (Nat.le_trans K25.1 (Nat.le_of_eq g28.symm))) z28 A28 F28_value F28_coder (V25.ext E28) (O2.ext (((X00.ext E22).wr W25 (Nat.le_trans Z0 (Nat.le_trans K0.1 (Nat.le_of_eq g22.symm)))).ext E28).2) P5 rfl rfl (by decide) (by decide) hp31 rfl (by decide) (by decide)) (g := (mkF m 76 #[.val (.int p0), .val (.int p1), .val (.int p2), .val (.int p3), .val (.int p4), .val (.int (1 : Int32)), .val (.int ca), .val (.int cb), .val (.int cd), .val (.ref b22), .unset, .unset, .unset] [(.ref b22), (.ref b28), (.ref b28)])) rfl (by rw [hml]; rfl) (Steps.refl _) (a := b28) (argsL := [(.ref b22)]) (rest := [(.ref b28)]) (lenOf pd_oaCcV rfl) rfl (by show 2 * 0 + _ ≤ _; exact Nat.le_of_eq rfl) (hb hby at_76) (fun _ _ => ⟨rfl, e28, (by decide : 2 + 1 ≤ _), (by decide : 5 + 1 ≤ _)⟩)
    dsimp only [Pt.U, Pt.locs, Pt.cells, Pt.slots] at X32 l32 y32 z32 st32 hQ32
    subst l32 y32 z32
    obtain ⟨rfl, Nq32, Kq32, Ex32, Fc32, t32, kb32, ge32, gh32, ne32, Fv32, Va32⟩ := hQ32
    have c33 : Steps p.tables e below S0 (T32.setTop (mkF m 79 #[.val (.int p0), .val (.int p1), .val (.int p2), .val (.int p3), .val (.int p4), .val (.int (1 : Int32)), .val (.int ca), .val (.int cb), .val (.int cd), .val (.ref b22), .unset, .unset, .unset] [(.ref b28)])) := c30.trans (st32)
    have N32 := Fr.app N25 Nq32
    have z32 : n0 ≤ T32.heap.size := Nat.le_trans z28 Kq32.1
    have K32 := K28.trans Kq32 (allS (Or.inr (Nat.le_trans K25.1 (Nat.le_of_eq g28.symm))) all0)
    have r32 : CHr Z EL s.vm h28 s.vm T32.heap := CHr.keep Kq32 (sfS sf28 sf0) R28.1
    have R32 := R28.trans r32
    have lt_t32 : t32 < T32.heap.size := Va32.lt
    have hcd32 : StrChars.Road.CodA ([(nar .char ca)] : List Int32) 0 (1 : Int32) (((([(nar .char ca)] : List Int32)).map (fun c => c.toInt8.toInt32)).map Value.int) := StrChars.Road.codOf (n := 1) rfl (fun c hc => (hp31 c hc).2)
    have c34 : Steps p.tables e below S0 (T32.setTop (mkF m 88 #[.val (.int p0), .val (.int p1), .val (.int p2), .val (.int p3), .val (.int p4), .val (.int (1 : Int32)), .val (.int ca), .val (.int cb), .val (.int cd), .val (.ref b22), .val (.ref b28), .unset, .unset] [(.int ((p4 &&& (255 : Int32)).toUInt32.toUInt16.toUInt32.toInt32))])) := c33.trans (by
      show Steps p.tables e below (T32.setTop (mkF m 79 #[.val (.int p0), .val (.int p1), .val (.int p2), .val (.int p3), .val (.int p4), .val (.int (1 : Int32)), .val (.int ca), .val (.int cb), .val (.int cd), .val (.ref b22), .unset, .unset, .unset] [(.ref b28)])) _
      refine XS.astore X32.here hx rfl (hb hby at_79) rfl rfl (l' := #[.val (.int p0), .val (.int p1), .val (.int p2), .val (.int p3), .val (.int p4), .val (.int (1 : Int32)), .val (.int ca), .val (.int cb), .val (.int cd), .val (.ref b22), .val (.ref b28), .unset, .unset]) rfl ?_
      show Steps p.tables e below (T32.setTop (mkF m 81 #[.val (.int p0), .val (.int p1), .val (.int p2), .val (.int p3), .val (.int p4), .val (.int (1 : Int32)), .val (.int ca), .val (.int cb), .val (.int cd), .val (.ref b22), .val (.ref b28), .unset, .unset] [])) _
      refine XS.iload X32.here hx rfl (hb hby at_81) rfl ?_
      show Steps p.tables e below (T32.setTop (mkF m 83 #[.val (.int p0), .val (.int p1), .val (.int p2), .val (.int p3), .val (.int p4), .val (.int (1 : Int32)), .val (.int ca), .val (.int cb), .val (.int cd), .val (.ref b22), .val (.ref b28), .unset, .unset] [(.int p4)])) _
      refine XS.sipush X32.here hx rfl (hb hby at_83) ?_
      show Steps p.tables e below (T32.setTop (mkF m 86 #[.val (.int p0), .val (.int p1), .val (.int p2), .val (.int p3), .val (.int p4), .val (.int (1 : Int32)), .val (.int ca), .val (.int cb), .val (.int cd), .val (.ref b22), .val (.ref b28), .unset, .unset] [(.int (255 : Int32)), (.int p4)])) _
      refine XS.iand X32.here hx rfl (hb hby at_86) rfl ?_
      show Steps p.tables e below (T32.setTop (mkF m 87 #[.val (.int p0), .val (.int p1), .val (.int p2), .val (.int p3), .val (.int p4), .val (.int (1 : Int32)), .val (.int ca), .val (.int cb), .val (.int cd), .val (.ref b22), .val (.ref b28), .unset, .unset] [(.int (p4 &&& (255 : Int32)))])) _
      refine XS.i2c X32.here hx rfl (hb hby at_87) rfl ?_
      exact Steps.refl _)
    obtain ⟨_, _, ⟨T35, L35, kk35, nn35⟩, -, X35, ⟨Lc35, hQ35, l35, y35, z35⟩, st35⟩ := Jvm.LawKit.callS X32 hx (y := (⟨"java/lang/String", "valueOf", "(C)Ljava/lang/String;"⟩ : MethodName)) hown (mvT hZ (hw _ (List.mem_of_getElem? (i := 30) rfl))) (mvT hZ (hw _ (List.mem_of_getElem? (i := 31) rfl))) (mvT hZ (hw _ (List.mem_of_getElem? (i := 3) rfl))) (mvT hZ (hw _ (List.mem_of_getElem? (i := 32) rfl))) (by decide) (backOf (W := 0) (rmValC l Z a0 hw [] ((p4 &&& (255 : Int32)).toUInt32.toUInt16.toUInt32.toInt32) G1 T32.heap n0 z32 (own_c8m p4) O2 P5 ((((X00.ext E22).wr W25 (Nat.le_trans Z0 (Nat.le_trans K0.1 (Nat.le_of_eq g22.symm)))).ext E28).keep Kq32 (allS (Nat.le_trans Z0 (Nat.le_trans K25.1 (Nat.le_of_eq g28.symm))) all0))) hZ (hw _ (List.mem_of_getElem? (i := 32) rfl)) (hw _ (List.mem_of_getElem? (i := 3) rfl)) (by decide) (by decide)) (g := (mkF m 88 #[.val (.int p0), .val (.int p1), .val (.int p2), .val (.int p3), .val (.int p4), .val (.int (1 : Int32)), .val (.int ca), .val (.int cb), .val (.int cd), .val (.ref b22), .val (.ref b28), .unset, .unset] [(.int ((p4 &&& (255 : Int32)).toUInt32.toUInt16.toUInt32.toInt32))])) rfl (by rw [hml]; rfl) (argsL := [(.int ((p4 &&& (255 : Int32)).toUInt32.toUInt16.toUInt32.toInt32))]) (rest := []) (lenOf pd_oCcLjavaslangsStringe rfl) rfl (by show 2 * 0 + _ ≤ _; exact Nat.le_of_eq rfl) (hb hby at_88) (fun _ _ => ⟨rfl, rfl, (by decide : 3 + 2 ≤ _), (by decide : 6 + 5 ≤ _)⟩)
    dsimp only [Pt.U, Pt.locs, Pt.cells, Pt.slots] at X35 l35 y35 z35 st35 hQ35
    subst l35 y35 z35
    obtain ⟨x35, t35, kb35, rfl, Nq35, Kq35, gx35, gt35, So35⟩ := hQ35
    have c36 : Steps p.tables e below S0 (T35.setTop (mkF m 91 #[.val (.int p0), .val (.int p1), .val (.int p2), .val (.int p3), .val (.int p4), .val (.int (1 : Int32)), .val (.int ca), .val (.int cb), .val (.int cd), .val (.ref b22), .val (.ref b28), .unset, .unset] [(.ref x35)])) := c34.trans (st35 _ (Steps.refl _))
    have N35 := Fr.app N32 Nq35
    have z35 : n0 ≤ T35.heap.size := Nat.le_trans z32 Kq35.1
    have K35 := K32.trans Kq35 all0
    have r35 : CHr Z EL s.vm T32.heap s.vm T35.heap := CHr.keep Kq35 sf0 R32.1
    have R35 := R32.trans r35
    have lt_x35 := So35.1.lt
    have lt_t35 := So35.2.2.2.1.lt
    have c37 : Steps p.tables e below S0 (T35.setTop (mkF m 101 #[.val (.int p0), .val (.int p1), .val (.int p2), .val (.int p3), .val (.int p4), .val (.int (1 : Int32)), .val (.int ca), .val (.int cb), .val (.int cd), .val (.ref b22), .val (.ref b28), .val (.ref x35), .unset] [(.int ca)])) := c36.trans (by
      show Steps p.tables e below (T35.setTop (mkF m 91 #[.val (.int p0), .val (.int p1), .val (.int p2), .val (.int p3), .val (.int p4), .val (.int (1 : Int32)), .val (.int ca), .val (.int cb), .val (.int cd), .val (.ref b22), .val (.ref b28), .unset, .unset] [(.ref x35)])) _
      refine XS.astore X35.here hx rfl (hb hby at_91) rfl rfl (l' := #[.val (.int p0), .val (.int p1), .val (.int p2), .val (.int p3), .val (.int p4), .val (.int (1 : Int32)), .val (.int ca), .val (.int cb), .val (.int cd), .val (.ref b22), .val (.ref b28), .val (.ref x35), .unset]) rfl ?_
      show Steps p.tables e below (T35.setTop (mkF m 93 #[.val (.int p0), .val (.int p1), .val (.int p2), .val (.int p3), .val (.int p4), .val (.int (1 : Int32)), .val (.int ca), .val (.int cb), .val (.int cd), .val (.ref b22), .val (.ref b28), .val (.ref x35), .unset] [])) _
      refine XS.iload X35.here hx rfl (hb hby at_93) rfl ?_
      show Steps p.tables e below (T35.setTop (mkF m 95 #[.val (.int p0), .val (.int p1), .val (.int p2), .val (.int p3), .val (.int p4), .val (.int (1 : Int32)), .val (.int ca), .val (.int cb), .val (.int cd), .val (.ref b22), .val (.ref b28), .val (.ref x35), .unset] [(.int (1 : Int32))])) _
      refine XS.iconst X35.here hx rfl (hb hby at_95) ?_
      show Steps p.tables e below (T35.setTop (mkF m 96 #[.val (.int p0), .val (.int p1), .val (.int p2), .val (.int p3), .val (.int p4), .val (.int (1 : Int32)), .val (.int ca), .val (.int cb), .val (.int cd), .val (.ref b22), .val (.ref b28), .val (.ref x35), .unset] [(.int (1 : Int32)), (.int (1 : Int32))])) _
      refine XS.icmpNo X35.here hx rfl (hb hby at_96) rfl (flt (by decide : ¬ ((1 : Int32) < (1 : Int32)))).1 ?_
      show Steps p.tables e below (T35.setTop (mkF m 99 #[.val (.int p0), .val (.int p1), .val (.int p2), .val (.int p3), .val (.int p4), .val (.int (1 : Int32)), .val (.int ca), .val (.int cb), .val (.int cd), .val (.ref b22), .val (.ref b28), .val (.ref x35), .unset] [])) _
      refine XS.iload X35.here hx rfl (hb hby at_99) rfl ?_
      exact Steps.refl _)
    obtain ⟨_, _, ⟨T38, L38, kk38, nn38⟩, -, X38, ⟨Lc38, hQ38, l38, y38, z38⟩, st38⟩ := Jvm.LawKit.callS X35 hx (y := (⟨"com/example/luovutus/luovutus/transfer/ValueFormsRequireNotBlankPinLaw", "ws", "(C)Z"⟩ : MethodName)) hown (mvT hZ (hw _ (List.mem_of_getElem? (i := 44) rfl))) (mvT hZ (hw _ (List.mem_of_getElem? (i := 45) rfl))) (mvT hZ (hw _ (List.mem_of_getElem? (i := 46) rfl))) (mvT hZ (hw _ (List.mem_of_getElem? (i := 47) rfl))) (by decide) (backOf (W := 0) (rmWs l Z a0 hw [] ca T35.heap n0 z35 ) hZ (hw _ (List.mem_of_getElem? (i := 47) rfl)) (hw _ (List.mem_of_getElem? (i := 46) rfl)) (by decide) (by decide)) (g := (mkF m 101 #[.val (.int p0), .val (.int p1), .val (.int p2), .val (.int p3), .val (.int p4), .val (.int (1 : Int32)), .val (.int ca), .val (.int cb), .val (.int cd), .val (.ref b22), .val (.ref b28), .val (.ref x35), .unset] [(.int ca)])) rfl (by rw [hml]; rfl) (argsL := [(.int ca)]) (rest := []) (lenOf pd_oCcZ rfl) rfl (by show 2 * 0 + _ ≤ _; exact Nat.le_of_eq rfl) (hb hby at_101) (fun _ _ => ⟨rfl, rfl, (by decide : 5 + 0 ≤ _), (by decide : 11 + 0 ≤ _)⟩)
    dsimp only [Pt.U, Pt.locs, Pt.cells, Pt.slots] at X38 l38 y38 z38 st38 hQ38
    subst l38 y38 z38
    obtain ⟨r38, rfl, hr38, Nq38, eq38⟩ := hQ38
    have c39 : Steps p.tables e below S0 (T38.setTop (mkF m 104 #[.val (.int p0), .val (.int p1), .val (.int p2), .val (.int p3), .val (.int p4), .val (.int (1 : Int32)), .val (.int ca), .val (.int cb), .val (.int cd), .val (.ref b22), .val (.ref b28), .val (.ref x35), .unset] [(.int r38)])) := c37.trans (st38 _ (Steps.refl _))
    have N38 := Fr.app N35 Nq38
    by_cases hq40 : r38 = (0 : Int32)
    · have c41 : Steps p.tables e below S0 (T38.setTop (mkF m 153 #[.val (.int p0), .val (.int p1), .val (.int p2), .val (.int p3), .val (.int p4), .val (.int (1 : Int32)), .val (.int ca), .val (.int cb), .val (.int cd), .val (.ref b22), .val (.ref b28), .val (.ref x35), .val (.int (0 : Int32))] [(.ref b28), (.ref x35)])) := c39.trans (by
        show Steps p.tables e below (T38.setTop (mkF m 104 #[.val (.int p0), .val (.int p1), .val (.int p2), .val (.int p3), .val (.int p4), .val (.int (1 : Int32)), .val (.int ca), .val (.int cb), .val (.int cd), .val (.ref b22), .val (.ref b28), .val (.ref x35), .unset] [(.int r38)])) _
        refine XS.ifYes X38.here hx rfl (pc0 := 104) (pc' := 139) rfl (hb hby at_104) rfl ((if0 _ _).trans (teq hq40).1) (by decide) (by decide) ?_
        show Steps p.tables e below (T38.setTop (mkF m 139 #[.val (.int p0), .val (.int p1), .val (.int p2), .val (.int p3), .val (.int p4), .val (.int (1 : Int32)), .val (.int ca), .val (.int cb), .val (.int cd), .val (.ref b22), .val (.ref b28), .val (.ref x35), .unset] [])) _
        refine XS.iconst X38.here hx rfl (hb hby at_139) ?_
        show Steps p.tables e below (T38.setTop (mkF m 140 #[.val (.int p0), .val (.int p1), .val (.int p2), .val (.int p3), .val (.int p4), .val (.int (1 : Int32)), .val (.int ca), .val (.int cb), .val (.int cd), .val (.ref b22), .val (.ref b28), .val (.ref x35), .unset] [(.int (0 : Int32))])) _
        refine XS.istore X38.here hx rfl (hb hby at_140) rfl (l' := #[.val (.int p0), .val (.int p1), .val (.int p2), .val (.int p3), .val (.int p4), .val (.int (1 : Int32)), .val (.int ca), .val (.int cb), .val (.int cd), .val (.ref b22), .val (.ref b28), .val (.ref x35), .val (.int (0 : Int32))]) rfl ?_
        show Steps p.tables e below (T38.setTop (mkF m 142 #[.val (.int p0), .val (.int p1), .val (.int p2), .val (.int p3), .val (.int p4), .val (.int (1 : Int32)), .val (.int ca), .val (.int cb), .val (.int cd), .val (.ref b22), .val (.ref b28), .val (.ref x35), .val (.int (0 : Int32))] [])) _
        refine XS.iload X38.here hx rfl (hb hby at_142) rfl ?_
        show Steps p.tables e below (T38.setTop (mkF m 144 #[.val (.int p0), .val (.int p1), .val (.int p2), .val (.int p3), .val (.int p4), .val (.int (1 : Int32)), .val (.int ca), .val (.int cb), .val (.int cd), .val (.ref b22), .val (.ref b28), .val (.ref x35), .val (.int (0 : Int32))] [(.int (0 : Int32))])) _
        refine XS.ifYes X38.here hx rfl (pc0 := 144) (pc' := 149) rfl (hb hby at_144) rfl ((if0 _ _).trans (teq (by decide : ((0 : Int32) = (0 : Int32)))).1) (by decide) (by decide) ?_
        show Steps p.tables e below (T38.setTop (mkF m 149 #[.val (.int p0), .val (.int p1), .val (.int p2), .val (.int p3), .val (.int p4), .val (.int (1 : Int32)), .val (.int ca), .val (.int cb), .val (.int cd), .val (.ref b22), .val (.ref b28), .val (.ref x35), .val (.int (0 : Int32))] [])) _
        refine XS.aload X38.here hx rfl (hb hby at_149) rfl rfl ?_
        show Steps p.tables e below (T38.setTop (mkF m 151 #[.val (.int p0), .val (.int p1), .val (.int p2), .val (.int p3), .val (.int p4), .val (.int (1 : Int32)), .val (.int ca), .val (.int cb), .val (.int cd), .val (.ref b22), .val (.ref b28), .val (.ref x35), .val (.int (0 : Int32))] [(.ref x35)])) _
        refine XS.aload X38.here hx rfl (hb hby at_151) rfl rfl ?_
        exact Steps.refl _)
      have Sob28 : OStr Z T35.heap b28 t32 _ ([(nar .char ca)] : List Int32) := ⟨(Ex32.keep Kq35), (Fv32.keep Kq35 nin0), (Fc32.keep Kq35 nin0), (Va32.keep Kq35 nin0), hp31, Nat.le_of_ble_eq_true rfl⟩
      have nwb28 : ¬ own_ws ((([(nar .char ca)] : List Int32)).getD 0 0) := by
        show ¬ own_ws (nar .char ca)
        rw [own_nar h8ca]; exact own_n hr38 hq40
      obtain ⟨_, _, ⟨T42, L42, kk42, nn42⟩, -, X42, ⟨Lc42, hQ42, l42, y42, z42⟩, st42⟩ := Jvm.LawKit.callS X38 hx (y := (⟨"com/example/luovutus/luovutus/transfer/ValueForms", "requireNotBlank", "(Ljava/lang/String;Ljava/lang/String;)V"⟩ : MethodName)) hown (mvT hZ (hw _ (List.mem_of_getElem? (i := 48) rfl))) (mvT hZ (hw _ (List.mem_of_getElem? (i := 49) rfl))) (mvT hZ (hw _ (List.mem_of_getElem? (i := 50) rfl))) (mvT hZ (hw _ (List.mem_of_getElem? (i := 51) rfl))) (by decide) (backOf (W := 0) (rmRB l Z a0 hw [] x35 b28 t32 _ ([(nar .char ca)] : List Int32) 0 ci aA G1 T35.heap n0 z35 Sob28 (Nat.le_of_ble_eq_true rfl) nwb28 sI xI sA hA O2 P5 (((((X00.ext E22).wr W25 (Nat.le_trans Z0 (Nat.le_trans K0.1 (Nat.le_of_eq g22.symm)))).ext E28).keep Kq32 (allS (Nat.le_trans Z0 (Nat.le_trans K25.1 (Nat.le_of_eq g28.symm))) all0)).keep Kq35 all0)) hZ (hw _ (List.mem_of_getElem? (i := 51) rfl)) (hw _ (List.mem_of_getElem? (i := 50) rfl)) (by decide) (by decide)) (g := (mkF m 153 #[.val (.int p0), .val (.int p1), .val (.int p2), .val (.int p3), .val (.int p4), .val (.int (1 : Int32)), .val (.int ca), .val (.int cb), .val (.int cd), .val (.ref b22), .val (.ref b28), .val (.ref x35), .val (.int (0 : Int32))] [(.ref b28), (.ref x35)])) rfl (by rw [hml]; rfl) (argsL := [(.ref x35), (.ref b28)]) (rest := []) (lenOf pd_oLjavaslangsStringeLjavaslangsStringecV rfl) rfl (by show 2 * 0 + _ ≤ _; exact Nat.le_of_eq rfl) (hb hby at_153) (fun _ _ => ⟨rfl, eq38, (by decide : 5 + 0 ≤ _), (by decide : 11 + 0 ≤ _)⟩)
      dsimp only [Pt.U, Pt.locs, Pt.cells, Pt.slots] at X42 l42 y42 z42 st42 hQ42
      subst l42 y42 z42
      obtain ⟨rfl, Nq42, eq42⟩ := hQ42
      have c43 : Steps p.tables e below S0 (T42.setTop (mkF m 156 #[.val (.int p0), .val (.int p1), .val (.int p2), .val (.int p3), .val (.int p4), .val (.int (1 : Int32)), .val (.int ca), .val (.int cb), .val (.int cd), .val (.ref b22), .val (.ref b28), .val (.ref x35), .val (.int (0 : Int32))] [])) := c41.trans (st42 _ (Steps.refl _))
      have N42 := Fr.app N38 Nq42
      have c44 : Steps p.tables e below S0 (T42.setTop (mkF m 157 #[.val (.int p0), .val (.int p1), .val (.int p2), .val (.int p3), .val (.int p4), .val (.int (1 : Int32)), .val (.int ca), .val (.int cb), .val (.int cd), .val (.ref b22), .val (.ref b28), .val (.ref x35), .val (.int (0 : Int32))] [(.int (1 : Int32))])) := c43.trans (by
        show Steps p.tables e below (T42.setTop (mkF m 156 #[.val (.int p0), .val (.int p1), .val (.int p2), .val (.int p3), .val (.int p4), .val (.int (1 : Int32)), .val (.int ca), .val (.int cb), .val (.int cd), .val (.ref b22), .val (.ref b28), .val (.ref x35), .val (.int (0 : Int32))] [])) _
        refine XS.iconst X42.here hx rfl (hb hby at_156) ?_
        exact Steps.refl _)
      obtain ⟨fs, hr, hrun, hended, hW⟩ := X42.leaveW hS0 (by rw [eq42]; exact (Nat.le_trans (Nat.zero_le _) (Nat.le_trans (Nat.le_trans (Nat.le_trans (Nat.le_trans E22.1 (Keep.of_wr W25).1) E28.1) Kq32.1) Kq35.1))) (v := some (.int (1 : Int32))) (fun h => by rw [Bd.returns] at h; cases h)
      refine ⟨_, _, c44.trans (retOut X42 hx Bd.returns rfl (Or.inl ⟨rfl, by simp, _, rfl⟩) (hb hby at_157) hr), hrun, hended, _, _, rfl, ?_, ?_, hW.1, hW.2.1, hW.2.2.1, hW.2.2.2.mono (by decide) (by decide)⟩
      · show Q0 Z  h0 n0 _ T42.heap _
        rw [eq42]
        exact ⟨rfl, N42⟩
      · show CHr Z EL s.vm s.heap T42.vm T42.heap
        rw [hh, eq42]; exact R35.trans (CHv.at X42 hZ hEL R35.1)
    · have c45 : Steps p.tables e below S0 (T38.setTop (mkF m 148 #[.val (.int p0), .val (.int p1), .val (.int p2), .val (.int p3), .val (.int p4), .val (.int (1 : Int32)), .val (.int ca), .val (.int cb), .val (.int cd), .val (.ref b22), .val (.ref b28), .val (.ref x35), .val (.int (1 : Int32))] [(.int (1 : Int32))])) := c39.trans (by
        show Steps p.tables e below (T38.setTop (mkF m 104 #[.val (.int p0), .val (.int p1), .val (.int p2), .val (.int p3), .val (.int p4), .val (.int (1 : Int32)), .val (.int ca), .val (.int cb), .val (.int cd), .val (.ref b22), .val (.ref b28), .val (.ref x35), .unset] [(.int r38)])) _
        refine XS.ifNo X38.here hx rfl (hb hby at_104) rfl ((if0 _ _).trans (feq hq40).1) ?_
        show Steps p.tables e below (T38.setTop (mkF m 107 #[.val (.int p0), .val (.int p1), .val (.int p2), .val (.int p3), .val (.int p4), .val (.int (1 : Int32)), .val (.int ca), .val (.int cb), .val (.int cd), .val (.ref b22), .val (.ref b28), .val (.ref x35), .unset] [])) _
        refine XS.iload X38.here hx rfl (hb hby at_107) rfl ?_
        show Steps p.tables e below (T38.setTop (mkF m 109 #[.val (.int p0), .val (.int p1), .val (.int p2), .val (.int p3), .val (.int p4), .val (.int (1 : Int32)), .val (.int ca), .val (.int cb), .val (.int cd), .val (.ref b22), .val (.ref b28), .val (.ref x35), .unset] [(.int (1 : Int32))])) _
        refine XS.iconst X38.here hx rfl (hb hby at_109) ?_
        show Steps p.tables e below (T38.setTop (mkF m 110 #[.val (.int p0), .val (.int p1), .val (.int p2), .val (.int p3), .val (.int p4), .val (.int (1 : Int32)), .val (.int ca), .val (.int cb), .val (.int cd), .val (.ref b22), .val (.ref b28), .val (.ref x35), .unset] [(.int (2 : Int32)), (.int (1 : Int32))])) _
        refine XS.icmpYes X38.here hx rfl (pc0 := 110) (pc' := 121) rfl (hb hby at_110) rfl (tlt (by decide : ((1 : Int32) < (2 : Int32)))).1 (by decide) (by decide) ?_
        show Steps p.tables e below (T38.setTop (mkF m 121 #[.val (.int p0), .val (.int p1), .val (.int p2), .val (.int p3), .val (.int p4), .val (.int (1 : Int32)), .val (.int ca), .val (.int cb), .val (.int cd), .val (.ref b22), .val (.ref b28), .val (.ref x35), .unset] [])) _
        refine XS.iload X38.here hx rfl (hb hby at_121) rfl ?_
        show Steps p.tables e below (T38.setTop (mkF m 123 #[.val (.int p0), .val (.int p1), .val (.int p2), .val (.int p3), .val (.int p4), .val (.int (1 : Int32)), .val (.int ca), .val (.int cb), .val (.int cd), .val (.ref b22), .val (.ref b28), .val (.ref x35), .unset] [(.int (1 : Int32))])) _
        refine XS.iconst X38.here hx rfl (hb hby at_123) ?_
        show Steps p.tables e below (T38.setTop (mkF m 124 #[.val (.int p0), .val (.int p1), .val (.int p2), .val (.int p3), .val (.int p4), .val (.int (1 : Int32)), .val (.int ca), .val (.int cb), .val (.int cd), .val (.ref b22), .val (.ref b28), .val (.ref x35), .unset] [(.int (3 : Int32)), (.int (1 : Int32))])) _
        refine XS.icmpYes X38.here hx rfl (pc0 := 124) (pc' := 135) rfl (hb hby at_124) rfl (tlt (by decide : ((1 : Int32) < (3 : Int32)))).1 (by decide) (by decide) ?_
        show Steps p.tables e below (T38.setTop (mkF m 135 #[.val (.int p0), .val (.int p1), .val (.int p2), .val (.int p3), .val (.int p4), .val (.int (1 : Int32)), .val (.int ca), .val (.int cb), .val (.int cd), .val (.ref b22), .val (.ref b28), .val (.ref x35), .unset] [])) _
        refine XS.iconst X38.here hx rfl (hb hby at_135) ?_
        show Steps p.tables e below (T38.setTop (mkF m 136 #[.val (.int p0), .val (.int p1), .val (.int p2), .val (.int p3), .val (.int p4), .val (.int (1 : Int32)), .val (.int ca), .val (.int cb), .val (.int cd), .val (.ref b22), .val (.ref b28), .val (.ref x35), .unset] [(.int (1 : Int32))])) _
        refine XS.goto X38.here hx rfl (pc0 := 136) (pc' := 140) rfl (hb hby at_136) (by decide) (by decide) ?_
        show Steps p.tables e below (T38.setTop (mkF m 140 #[.val (.int p0), .val (.int p1), .val (.int p2), .val (.int p3), .val (.int p4), .val (.int (1 : Int32)), .val (.int ca), .val (.int cb), .val (.int cd), .val (.ref b22), .val (.ref b28), .val (.ref x35), .unset] [(.int (1 : Int32))])) _
        refine XS.istore X38.here hx rfl (hb hby at_140) rfl (l' := #[.val (.int p0), .val (.int p1), .val (.int p2), .val (.int p3), .val (.int p4), .val (.int (1 : Int32)), .val (.int ca), .val (.int cb), .val (.int cd), .val (.ref b22), .val (.ref b28), .val (.ref x35), .val (.int (1 : Int32))]) rfl ?_
        show Steps p.tables e below (T38.setTop (mkF m 142 #[.val (.int p0), .val (.int p1), .val (.int p2), .val (.int p3), .val (.int p4), .val (.int (1 : Int32)), .val (.int ca), .val (.int cb), .val (.int cd), .val (.ref b22), .val (.ref b28), .val (.ref x35), .val (.int (1 : Int32))] [])) _
        refine XS.iload X38.here hx rfl (hb hby at_142) rfl ?_
        show Steps p.tables e below (T38.setTop (mkF m 144 #[.val (.int p0), .val (.int p1), .val (.int p2), .val (.int p3), .val (.int p4), .val (.int (1 : Int32)), .val (.int ca), .val (.int cb), .val (.int cd), .val (.ref b22), .val (.ref b28), .val (.ref x35), .val (.int (1 : Int32))] [(.int (1 : Int32))])) _
        refine XS.ifNo X38.here hx rfl (hb hby at_144) rfl ((if0 _ _).trans (feq (by decide : ¬ ((1 : Int32) = (0 : Int32)))).1) ?_
        show Steps p.tables e below (T38.setTop (mkF m 147 #[.val (.int p0), .val (.int p1), .val (.int p2), .val (.int p3), .val (.int p4), .val (.int (1 : Int32)), .val (.int ca), .val (.int cb), .val (.int cd), .val (.ref b22), .val (.ref b28), .val (.ref x35), .val (.int (1 : Int32))] [])) _
        refine XS.iconst X38.here hx rfl (hb hby at_147) ?_
        exact Steps.refl _)
      obtain ⟨fs, hr, hrun, hended, hW⟩ := X38.leaveW hS0 (by rw [eq38]; exact (Nat.le_trans (Nat.zero_le _) (Nat.le_trans (Nat.le_trans (Nat.le_trans (Nat.le_trans E22.1 (Keep.of_wr W25).1) E28.1) Kq32.1) Kq35.1))) (v := some (.int (1 : Int32))) (fun h => by rw [Bd.returns] at h; cases h)
      refine ⟨_, _, c45.trans (retOut X38 hx Bd.returns rfl (Or.inl ⟨rfl, by simp, _, rfl⟩) (hb hby at_148) hr), hrun, hended, _, _, rfl, ?_, ?_, hW.1, hW.2.1, hW.2.2.1, hW.2.2.2.mono (by decide) (by decide)⟩
      · show Q0 Z  h0 n0 _ T38.heap _
        rw [eq38]
        exact ⟨rfl, N38⟩
      · show CHr Z EL s.vm s.heap T38.vm T38.heap
        rw [hh, eq38]; exact R35.trans (CHv.at X38 hZ hEL R35.1)
  · rw [e4] at c7
    have c46 : Steps p.tables e below S0 (s₁.setTop (mkF m 31 #[.val (.int p0), .val (.int p1), .val (.int p2), .val (.int p3), .val (.int p4), .val (.int (2 : Int32)), .val (.int ca), .val (.int cb), .val (.int cd), .unset, .unset, .unset, .unset] [(.int (2 : Int32))])) := c7.trans (by
      show Steps p.tables e below (s₁.setTop (mkF m 29 #[.val (.int p0), .val (.int p1), .val (.int p2), .val (.int p3), .val (.int p4), .val (.int (2 : Int32)), .val (.int ca), .val (.int cb), .val (.int cd), .unset, .unset, .unset, .unset] [])) _
      refine XS.iload X0.here hx rfl (hb hby at_29) rfl ?_
      exact Steps.refl _)
    obtain ⟨T47, h47, k47, X47, e47, E47, A47, st47⟩ := newP X0 hx hZ (hw _ (List.mem_of_getElem? (i := 0) rfl)) e0 (g := (mkF m 31 #[.val (.int p0), .val (.int p1), .val (.int p2), .val (.int p3), .val (.int p4), .val (.int (2 : Int32)), .val (.int ca), .val (.int cb), .val (.int cd), .unset, .unset, .unset, .unset] [(.int (2 : Int32))])) rfl (hb hby at_31) rfl (by decide) (cap := 2) (by decide) (by decide) (by decide) (by decide)
    obtain ⟨b47, g47⟩ : ∃ z, z = h0.size := ⟨_, rfl⟩
    rw [← g47] at A47 st47
    have c48 : Steps p.tables e below S0 (T47.setTop (mkF m 33 #[.val (.int p0), .val (.int p1), .val (.int p2), .val (.int p3), .val (.int p4), .val (.int (2 : Int32)), .val (.int ca), .val (.int cb), .val (.int cd), .unset, .unset, .unset, .unset] [(.ref b47)])) := c46.trans (st47 _ (Steps.refl _))
    have z47 : n0 ≤ h47.size := Nat.le_trans Z0 E47.1
    have K47 := K0.ext E47
    have r47 : CHr Z EL s.vm h0 s.vm h47 := CHr.ext E47 R0.1
    have R47 := R0.trans r47
    have V47 : Arv Z h47 b47 k47 .char (2 : Int32) [(.int (0 : Int32)), (.int (0 : Int32))] (.int (0 : Int32)) := (Arv.new A47 (by decide)).pad (pad_rep [] (.int (0 : Int32)) 2)
    have lt_b47 : b47 < h47.size := V47.lt
    have c49 : Steps p.tables e below S0 (T47.setTop (mkF m 45 #[.val (.int p0), .val (.int p1), .val (.int p2), .val (.int p3), .val (.int p4), .val (.int (2 : Int32)), .val (.int ca), .val (.int cb), .val (.int cd), .val (.ref b47), .unset, .unset, .unset] [(.int ca), (.int (0 : Int32)), (.ref b47)])) := c48.trans (by
      show Steps p.tables e below (T47.setTop (mkF m 33 #[.val (.int p0), .val (.int p1), .val (.int p2), .val (.int p3), .val (.int p4), .val (.int (2 : Int32)), .val (.int ca), .val (.int cb), .val (.int cd), .unset, .unset, .unset, .unset] [(.ref b47)])) _
      refine XS.astore X47.here hx rfl (hb hby at_33) rfl rfl (l' := #[.val (.int p0), .val (.int p1), .val (.int p2), .val (.int p3), .val (.int p4), .val (.int (2 : Int32)), .val (.int ca), .val (.int cb), .val (.int cd), .val (.ref b47), .unset, .unset, .unset]) rfl ?_
      show Steps p.tables e below (T47.setTop (mkF m 35 #[.val (.int p0), .val (.int p1), .val (.int p2), .val (.int p3), .val (.int p4), .val (.int (2 : Int32)), .val (.int ca), .val (.int cb), .val (.int cd), .val (.ref b47), .unset, .unset, .unset] [])) _
      refine XS.iload X47.here hx rfl (hb hby at_35) rfl ?_
      show Steps p.tables e below (T47.setTop (mkF m 37 #[.val (.int p0), .val (.int p1), .val (.int p2), .val (.int p3), .val (.int p4), .val (.int (2 : Int32)), .val (.int ca), .val (.int cb), .val (.int cd), .val (.ref b47), .unset, .unset, .unset] [(.int (2 : Int32))])) _
      refine XS.ifNo X47.here hx rfl (hb hby at_37) rfl ((if0 _ _).trans (tlt (by decide : ((0 : Int32) < (2 : Int32)))).2.2.2) ?_
      show Steps p.tables e below (T47.setTop (mkF m 40 #[.val (.int p0), .val (.int p1), .val (.int p2), .val (.int p3), .val (.int p4), .val (.int (2 : Int32)), .val (.int ca), .val (.int cb), .val (.int cd), .val (.ref b47), .unset, .unset, .unset] [])) _
      refine XS.aload X47.here hx rfl (hb hby at_40) rfl rfl ?_
      show Steps p.tables e below (T47.setTop (mkF m 42 #[.val (.int p0), .val (.int p1), .val (.int p2), .val (.int p3), .val (.int p4), .val (.int (2 : Int32)), .val (.int ca), .val (.int cb), .val (.int cd), .val (.ref b47), .unset, .unset, .unset] [(.ref b47)])) _
      refine XS.iconst X47.here hx rfl (hb hby at_42) ?_
      show Steps p.tables e below (T47.setTop (mkF m 43 #[.val (.int p0), .val (.int p1), .val (.int p2), .val (.int p3), .val (.int p4), .val (.int (2 : Int32)), .val (.int ca), .val (.int cb), .val (.int cd), .val (.ref b47), .unset, .unset, .unset] [(.int (0 : Int32)), (.ref b47)])) _
      refine XS.iload X47.here hx rfl (hb hby at_43) rfl ?_
      exact Steps.refl _)
    obtain ⟨cl50, Ar50, q50, S50, Nn50, Ha50, G50⟩ := id V47
    obtain ⟨T50, h50, X50, e50, W50, st50⟩ := stC X47 hx hZ e47 Ar50 (j := (0 : Int32)) (inb_of S50 ⟨by decide, by decide⟩) (g := (mkF m 45 #[.val (.int p0), .val (.int p1), .val (.int p2), .val (.int p3), .val (.int p4), .val (.int (2 : Int32)), .val (.int ca), .val (.int cb), .val (.int cd), .val (.ref b47), .unset, .unset, .unset] [(.int ca), (.int (0 : Int32)), (.ref b47)])) rfl rfl (hb hby at_45)
    have V50 : Arv Z h50 b47 k47 .char (2 : Int32) [(.int (nar .char ca)), (.int (0 : Int32))] (.int (0 : Int32)) := Arv.set Ar50 q50 S50 Nn50 Ha50 G50 (fits_nar_char _) W50 0 rfl (Nat.le_of_ble_eq_true rfl)
    have c51 : Steps p.tables e below S0 (T50.setTop (mkF m 46 #[.val (.int p0), .val (.int p1), .val (.int p2), .val (.int p3), .val (.int p4), .val (.int (2 : Int32)), .val (.int ca), .val (.int cb), .val (.int cd), .val (.ref b47), .unset, .unset, .unset] [])) := c49.trans (st50 _ (Steps.refl _))
    have N50 := Fr.snoc X50 N0 (Nat.le_trans Z0 (Nat.le_trans K0.1 (Nat.le_of_eq g47.symm)))
    have z50 : n0 ≤ h50.size := Nat.le_trans z47 (Keep.of_wr W50).1
    have K50 := K47.wr W50 (Or.inr (Nat.le_trans K0.1 (Nat.le_of_eq g47.symm)))
    have r50 : CHr Z EL s.vm h47 s.vm h50 := CHr.wr W50 (Safe.arv hZ.alike V47 (by decide)) R47.1
    have R50 := R47.trans r50
    have c52 : Steps p.tables e below S0 (T50.setTop (mkF m 57 #[.val (.int p0), .val (.int p1), .val (.int p2), .val (.int p3), .val (.int p4), .val (.int (2 : Int32)), .val (.int ca), .val (.int cb), .val (.int cd), .val (.ref b47), .unset, .unset, .unset] [(.int cb), (.int (1 : Int32)), (.ref b47)])) := c51.trans (by
      show Steps p.tables e below (T50.setTop (mkF m 46 #[.val (.int p0), .val (.int p1), .val (.int p2), .val (.int p3), .val (.int p4), .val (.int (2 : Int32)), .val (.int ca), .val (.int cb), .val (.int cd), .val (.ref b47), .unset, .unset, .unset] [])) _
      refine XS.iload X50.here hx rfl (hb hby at_46) rfl ?_
      show Steps p.tables e below (T50.setTop (mkF m 48 #[.val (.int p0), .val (.int p1), .val (.int p2), .val (.int p3), .val (.int p4), .val (.int (2 : Int32)), .val (.int ca), .val (.int cb), .val (.int cd), .val (.ref b47), .unset, .unset, .unset] [(.int (2 : Int32))])) _
      refine XS.iconst X50.here hx rfl (hb hby at_48) ?_
      show Steps p.tables e below (T50.setTop (mkF m 49 #[.val (.int p0), .val (.int p1), .val (.int p2), .val (.int p3), .val (.int p4), .val (.int (2 : Int32)), .val (.int ca), .val (.int cb), .val (.int cd), .val (.ref b47), .unset, .unset, .unset] [(.int (1 : Int32)), (.int (2 : Int32))])) _
      refine XS.icmpNo X50.here hx rfl (hb hby at_49) rfl (tlt (by decide : ((1 : Int32) < (2 : Int32)))).2.2.2 ?_
      show Steps p.tables e below (T50.setTop (mkF m 52 #[.val (.int p0), .val (.int p1), .val (.int p2), .val (.int p3), .val (.int p4), .val (.int (2 : Int32)), .val (.int ca), .val (.int cb), .val (.int cd), .val (.ref b47), .unset, .unset, .unset] [])) _
      refine XS.aload X50.here hx rfl (hb hby at_52) rfl rfl ?_
      show Steps p.tables e below (T50.setTop (mkF m 54 #[.val (.int p0), .val (.int p1), .val (.int p2), .val (.int p3), .val (.int p4), .val (.int (2 : Int32)), .val (.int ca), .val (.int cb), .val (.int cd), .val (.ref b47), .unset, .unset, .unset] [(.ref b47)])) _
      refine XS.iconst X50.here hx rfl (hb hby at_54) ?_
      show Steps p.tables e below (T50.setTop (mkF m 55 #[.val (.int p0), .val (.int p1), .val (.int p2), .val (.int p3), .val (.int p4), .val (.int (2 : Int32)), .val (.int ca), .val (.int cb), .val (.int cd), .val (.ref b47), .unset, .unset, .unset] [(.int (1 : Int32)), (.ref b47)])) _
      refine XS.iload X50.here hx rfl (hb hby at_55) rfl ?_
      exact Steps.refl _)
    obtain ⟨cl53, Ar53, q53, S53, Nn53, Ha53, G53⟩ := id V50
    obtain ⟨T53, h53, X53, e53, W53, st53⟩ := stC X50 hx hZ e50 Ar53 (j := (1 : Int32)) (inb_of S53 ⟨by decide, by decide⟩) (g := (mkF m 57 #[.val (.int p0), .val (.int p1), .val (.int p2), .val (.int p3), .val (.int p4), .val (.int (2 : Int32)), .val (.int ca), .val (.int cb), .val (.int cd), .val (.ref b47), .unset, .unset, .unset] [(.int cb), (.int (1 : Int32)), (.ref b47)])) rfl rfl (hb hby at_57)
    have V53 : Arv Z h53 b47 k47 .char (2 : Int32) [(.int (nar .char ca)), (.int (nar .char cb))] (.int (0 : Int32)) := Arv.set Ar53 q53 S53 Nn53 Ha53 G53 (fits_nar_char _) W53 1 rfl (Nat.le_of_ble_eq_true rfl)
    have c54 : Steps p.tables e below S0 (T53.setTop (mkF m 58 #[.val (.int p0), .val (.int p1), .val (.int p2), .val (.int p3), .val (.int p4), .val (.int (2 : Int32)), .val (.int ca), .val (.int cb), .val (.int cd), .val (.ref b47), .unset, .unset, .unset] [])) := c52.trans (st53 _ (Steps.refl _))
    have N53 := Fr.snoc X53 N50 (Nat.le_trans Z0 (Nat.le_trans K0.1 (Nat.le_of_eq g47.symm)))
    have z53 : n0 ≤ h53.size := Nat.le_trans z50 (Keep.of_wr W53).1
    have K53 := K50.wr W53 (Or.inr (Nat.le_trans K0.1 (Nat.le_of_eq g47.symm)))
    have r53 : CHr Z EL s.vm h50 s.vm h53 := CHr.wr W53 (Safe.arv hZ.alike V50 (by decide)) R50.1
    have R53 := R50.trans r53
    have c55 : Steps p.tables e below S0 (T53.setTop (mkF m 70 #[.val (.int p0), .val (.int p1), .val (.int p2), .val (.int p3), .val (.int p4), .val (.int (2 : Int32)), .val (.int ca), .val (.int cb), .val (.int cd), .val (.ref b47), .unset, .unset, .unset] [])) := c54.trans (by
      show Steps p.tables e below (T53.setTop (mkF m 58 #[.val (.int p0), .val (.int p1), .val (.int p2), .val (.int p3), .val (.int p4), .val (.int (2 : Int32)), .val (.int ca), .val (.int cb), .val (.int cd), .val (.ref b47), .unset, .unset, .unset] [])) _
      refine XS.iload X53.here hx rfl (hb hby at_58) rfl ?_
      show Steps p.tables e below (T53.setTop (mkF m 60 #[.val (.int p0), .val (.int p1), .val (.int p2), .val (.int p3), .val (.int p4), .val (.int (2 : Int32)), .val (.int ca), .val (.int cb), .val (.int cd), .val (.ref b47), .unset, .unset, .unset] [(.int (2 : Int32))])) _
      refine XS.iconst X53.here hx rfl (hb hby at_60) ?_
      show Steps p.tables e below (T53.setTop (mkF m 61 #[.val (.int p0), .val (.int p1), .val (.int p2), .val (.int p3), .val (.int p4), .val (.int (2 : Int32)), .val (.int ca), .val (.int cb), .val (.int cd), .val (.ref b47), .unset, .unset, .unset] [(.int (2 : Int32)), (.int (2 : Int32))])) _
      refine XS.icmpYes X53.here hx rfl (pc0 := 61) (pc' := 70) rfl (hb hby at_61) rfl (flt (by decide : ¬ ((2 : Int32) < (2 : Int32)))).2.2.2 (by decide) (by decide) ?_
      exact Steps.refl _)
    obtain ⟨T56, h56, X56, e56, E56, A56, D56, -, st56⟩ := newO X53 hx hZ hown (hw _ (List.mem_of_getElem? (i := 1) rfl)) (hw _ (List.mem_of_getElem? (i := 2) rfl)) (hw _ (List.mem_of_getElem? (i := 3) rfl)) e53 (g := (mkF m 70 #[.val (.int p0), .val (.int p1), .val (.int p2), .val (.int p3), .val (.int p4), .val (.int (2 : Int32)), .val (.int ca), .val (.int cb), .val (.int cd), .val (.ref b47), .unset, .unset, .unset] [])) rfl (hb hby at_70) (by decide) (by decide)
    obtain ⟨b56, g56⟩ : ∃ z, z = h53.size := ⟨_, rfl⟩
    rw [← g56] at A56 D56 st56
    have sn56 : Safe Z EL s.vm h53 b56 := Safe.new (Nat.le_of_eq g56.symm)
    have c57 : Steps p.tables e below S0 (T56.setTop (mkF m 73 #[.val (.int p0), .val (.int p1), .val (.int p2), .val (.int p3), .val (.int p4), .val (.int (2 : Int32)), .val (.int ca), .val (.int cb), .val (.int cd), .val (.ref b47), .unset, .unset, .unset] [(.ref b56)])) := c55.trans (st56 _ (Steps.refl _))
    have z56 : n0 ≤ h56.size := Nat.le_trans z53 E56.1
    have K56 := K53.ext E56
    have r56 : CHr Z EL s.vm h53 s.vm h56 := CHr.ext E56 R53.1
    have R56 := R53.trans r56
    have lt_b56 : b56 < h56.size := A56.lt
    have sf56 : Safe Z EL s.vm h56 b56 := Safe.ext E56 R53.1 sn56
    have F56_coder : Fld Z h56 b56 "java/lang/String" "coder" "B" (.int (0 : Int32)) := D56 (Or.inr (hw _ (List.mem_of_getElem? (i := 27) rfl))) (ty := .byte) (by decide)
    have F56_value : Fld Z h56 b56 "java/lang/String" "value" "[B" .null := D56 (Or.inr (hw _ (List.mem_of_getElem? (i := 29) rfl))) (ty := (.array .byte)) (by decide)
    have c58 : Steps p.tables e below S0 (T56.setTop (mkF m 76 #[.val (.int p0), .val (.int p1), .val (.int p2), .val (.int p3), .val (.int p4), .val (.int (2 : Int32)), .val (.int ca), .val (.int cb), .val (.int cd), .val (.ref b47), .unset, .unset, .unset] [(.ref b47), (.ref b56), (.ref b56)])) := c57.trans (by
      show Steps p.tables e below (T56.setTop (mkF m 73 #[.val (.int p0), .val (.int p1), .val (.int p2), .val (.int p3), .val (.int p4), .val (.int (2 : Int32)), .val (.int ca), .val (.int cb), .val (.int cd), .val (.ref b47), .unset, .unset, .unset] [(.ref b56)])) _
      refine XS.dup X56.here hx rfl (hb hby at_73) rfl rfl ?_
      show Steps p.tables e below (T56.setTop (mkF m 74 #[.val (.int p0), .val (.int p1), .val (.int p2), .val (.int p3), .val (.int p4), .val (.int (2 : Int32)), .val (.int ca), .val (.int cb), .val (.int cd), .val (.ref b47), .unset, .unset, .unset] [(.ref b56), (.ref b56)])) _
      refine XS.aload X56.here hx rfl (hb hby at_74) rfl rfl ?_
      exact Steps.refl _)
    have hp59 : ∀ c ∈ ([(nar .char ca), (nar .char cb)] : List Int32), ¬ c < 0 ∧ ¬ (255 : Int32) < c := (own_alS (own_c8n h8ca) (own_alS (own_c8n h8cb) own_al0))
    have hws59 : ∀ d ∈ StrChars.Road.words, d.before a0 Z = true := fun d hd => hw d (own_in_words d hd)
    obtain ⟨_, _, ⟨T60, L60, kk60, nn60⟩, -, X60, ⟨Lc60, hQ60, l60, y60, z60⟩, st60⟩ := X56.specialBack hx (y := (⟨"java/lang/String", "<init>", "([C)V"⟩ : MethodName)) rfl hown (mvT hZ (hw _ (List.mem_of_getElem? (i := 4) rfl))) (mvT hZ (hw _ (List.mem_of_getElem? (i := 5) rfl))) (mvT hZ (hw _ (List.mem_of_getElem? (i := 6) rfl))) (by decide) (StrChars.Road.backV (W := 1) hZ hws59 (kI := 4) (hw _ (List.mem_of_getElem? (i := 2) rfl)) (cs := ([(nar .char ca), (nar .char cb)] : List Int32)) (bs := (([(nar .char ca), (nar .char cb)] : List Int32)).map (fun c => c.toInt8.toInt32)) (n := 2) (Nat.le_trans Z0 (Nat.le_trans K53.1 (Nat.le_of_eq g56.symm))) z56 A56 F56_value F56_coder (V53.ext E56) (O2.ext ((((X00.ext E47).wr W50 (Nat.le_trans Z0 (Nat.le_trans K0.1 (Nat.le_of_eq g47.symm)))).wr W53 (Nat.le_trans Z0 (Nat.le_trans K0.1 (Nat.le_of_eq g47.symm)))).ext E56).2) P5 rfl rfl (by decide) (by decide) hp59 rfl (by decide) (by decide)) (g := (mkF m 76 #[.val (.int p0), .val (.int p1), .val (.int p2), .val (.int p3), .val (.int p4), .val (.int (2 : Int32)), .val (.int ca), .val (.int cb), .val (.int cd), .val (.ref b47), .unset, .unset, .unset] [(.ref b47), (.ref b56), (.ref b56)])) rfl (by rw [hml]; rfl) (Steps.refl _) (a := b56) (argsL := [(.ref b47)]) (rest := [(.ref b56)]) (lenOf pd_oaCcV rfl) rfl (by show 2 * 0 + _ ≤ _; exact Nat.le_of_eq rfl) (hb hby at_76) (fun _ _ => ⟨rfl, e56, (by decide : 2 + 1 ≤ _), (by decide : 6 + 2 ≤ _)⟩)
    dsimp only [Pt.U, Pt.locs, Pt.cells, Pt.slots] at X60 l60 y60 z60 st60 hQ60
    subst l60 y60 z60
    obtain ⟨rfl, Nq60, Kq60, Ex60, Fc60, t60, kb60, ge60, gh60, ne60, Fv60, Va60⟩ := hQ60
    have c61 : Steps p.tables e below S0 (T60.setTop (mkF m 79 #[.val (.int p0), .val (.int p1), .val (.int p2), .val (.int p3), .val (.int p4), .val (.int (2 : Int32)), .val (.int ca), .val (.int cb), .val (.int cd), .val (.ref b47), .unset, .unset, .unset] [(.ref b56)])) := c58.trans (st60)
    have N60 := Fr.app N53 Nq60
    have z60 : n0 ≤ T60.heap.size := Nat.le_trans z56 Kq60.1
    have K60 := K56.trans Kq60 (allS (Or.inr (Nat.le_trans K53.1 (Nat.le_of_eq g56.symm))) all0)
    have r60 : CHr Z EL s.vm h56 s.vm T60.heap := CHr.keep Kq60 (sfS sf56 sf0) R56.1
    have R60 := R56.trans r60
    have lt_t60 : t60 < T60.heap.size := Va60.lt
    have hcd60 : StrChars.Road.CodA ([(nar .char ca), (nar .char cb)] : List Int32) 0 (2 : Int32) (((([(nar .char ca), (nar .char cb)] : List Int32)).map (fun c => c.toInt8.toInt32)).map Value.int) := StrChars.Road.codOf (n := 2) rfl (fun c hc => (hp59 c hc).2)
    have c62 : Steps p.tables e below S0 (T60.setTop (mkF m 88 #[.val (.int p0), .val (.int p1), .val (.int p2), .val (.int p3), .val (.int p4), .val (.int (2 : Int32)), .val (.int ca), .val (.int cb), .val (.int cd), .val (.ref b47), .val (.ref b56), .unset, .unset] [(.int ((p4 &&& (255 : Int32)).toUInt32.toUInt16.toUInt32.toInt32))])) := c61.trans (by
      show Steps p.tables e below (T60.setTop (mkF m 79 #[.val (.int p0), .val (.int p1), .val (.int p2), .val (.int p3), .val (.int p4), .val (.int (2 : Int32)), .val (.int ca), .val (.int cb), .val (.int cd), .val (.ref b47), .unset, .unset, .unset] [(.ref b56)])) _
      refine XS.astore X60.here hx rfl (hb hby at_79) rfl rfl (l' := #[.val (.int p0), .val (.int p1), .val (.int p2), .val (.int p3), .val (.int p4), .val (.int (2 : Int32)), .val (.int ca), .val (.int cb), .val (.int cd), .val (.ref b47), .val (.ref b56), .unset, .unset]) rfl ?_
      show Steps p.tables e below (T60.setTop (mkF m 81 #[.val (.int p0), .val (.int p1), .val (.int p2), .val (.int p3), .val (.int p4), .val (.int (2 : Int32)), .val (.int ca), .val (.int cb), .val (.int cd), .val (.ref b47), .val (.ref b56), .unset, .unset] [])) _
      refine XS.iload X60.here hx rfl (hb hby at_81) rfl ?_
      show Steps p.tables e below (T60.setTop (mkF m 83 #[.val (.int p0), .val (.int p1), .val (.int p2), .val (.int p3), .val (.int p4), .val (.int (2 : Int32)), .val (.int ca), .val (.int cb), .val (.int cd), .val (.ref b47), .val (.ref b56), .unset, .unset] [(.int p4)])) _
      refine XS.sipush X60.here hx rfl (hb hby at_83) ?_
      show Steps p.tables e below (T60.setTop (mkF m 86 #[.val (.int p0), .val (.int p1), .val (.int p2), .val (.int p3), .val (.int p4), .val (.int (2 : Int32)), .val (.int ca), .val (.int cb), .val (.int cd), .val (.ref b47), .val (.ref b56), .unset, .unset] [(.int (255 : Int32)), (.int p4)])) _
      refine XS.iand X60.here hx rfl (hb hby at_86) rfl ?_
      show Steps p.tables e below (T60.setTop (mkF m 87 #[.val (.int p0), .val (.int p1), .val (.int p2), .val (.int p3), .val (.int p4), .val (.int (2 : Int32)), .val (.int ca), .val (.int cb), .val (.int cd), .val (.ref b47), .val (.ref b56), .unset, .unset] [(.int (p4 &&& (255 : Int32)))])) _
      refine XS.i2c X60.here hx rfl (hb hby at_87) rfl ?_
      exact Steps.refl _)
    obtain ⟨_, _, ⟨T63, L63, kk63, nn63⟩, -, X63, ⟨Lc63, hQ63, l63, y63, z63⟩, st63⟩ := Jvm.LawKit.callS X60 hx (y := (⟨"java/lang/String", "valueOf", "(C)Ljava/lang/String;"⟩ : MethodName)) hown (mvT hZ (hw _ (List.mem_of_getElem? (i := 30) rfl))) (mvT hZ (hw _ (List.mem_of_getElem? (i := 31) rfl))) (mvT hZ (hw _ (List.mem_of_getElem? (i := 3) rfl))) (mvT hZ (hw _ (List.mem_of_getElem? (i := 32) rfl))) (by decide) (backOf (W := 0) (rmValC l Z a0 hw [] ((p4 &&& (255 : Int32)).toUInt32.toUInt16.toUInt32.toInt32) G1 T60.heap n0 z60 (own_c8m p4) O2 P5 (((((X00.ext E47).wr W50 (Nat.le_trans Z0 (Nat.le_trans K0.1 (Nat.le_of_eq g47.symm)))).wr W53 (Nat.le_trans Z0 (Nat.le_trans K0.1 (Nat.le_of_eq g47.symm)))).ext E56).keep Kq60 (allS (Nat.le_trans Z0 (Nat.le_trans K53.1 (Nat.le_of_eq g56.symm))) all0))) hZ (hw _ (List.mem_of_getElem? (i := 32) rfl)) (hw _ (List.mem_of_getElem? (i := 3) rfl)) (by decide) (by decide)) (g := (mkF m 88 #[.val (.int p0), .val (.int p1), .val (.int p2), .val (.int p3), .val (.int p4), .val (.int (2 : Int32)), .val (.int ca), .val (.int cb), .val (.int cd), .val (.ref b47), .val (.ref b56), .unset, .unset] [(.int ((p4 &&& (255 : Int32)).toUInt32.toUInt16.toUInt32.toInt32))])) rfl (by rw [hml]; rfl) (argsL := [(.int ((p4 &&& (255 : Int32)).toUInt32.toUInt16.toUInt32.toInt32))]) (rest := []) (lenOf pd_oCcLjavaslangsStringe rfl) rfl (by show 2 * 0 + _ ≤ _; exact Nat.le_of_eq rfl) (hb hby at_88) (fun _ _ => ⟨rfl, rfl, (by decide : 3 + 2 ≤ _), (by decide : 8 + 5 ≤ _)⟩)
    dsimp only [Pt.U, Pt.locs, Pt.cells, Pt.slots] at X63 l63 y63 z63 st63 hQ63
    subst l63 y63 z63
    obtain ⟨x63, t63, kb63, rfl, Nq63, Kq63, gx63, gt63, So63⟩ := hQ63
    have c64 : Steps p.tables e below S0 (T63.setTop (mkF m 91 #[.val (.int p0), .val (.int p1), .val (.int p2), .val (.int p3), .val (.int p4), .val (.int (2 : Int32)), .val (.int ca), .val (.int cb), .val (.int cd), .val (.ref b47), .val (.ref b56), .unset, .unset] [(.ref x63)])) := c62.trans (st63 _ (Steps.refl _))
    have N63 := Fr.app N60 Nq63
    have z63 : n0 ≤ T63.heap.size := Nat.le_trans z60 Kq63.1
    have K63 := K60.trans Kq63 all0
    have r63 : CHr Z EL s.vm T60.heap s.vm T63.heap := CHr.keep Kq63 sf0 R60.1
    have R63 := R60.trans r63
    have lt_x63 := So63.1.lt
    have lt_t63 := So63.2.2.2.1.lt
    have c65 : Steps p.tables e below S0 (T63.setTop (mkF m 101 #[.val (.int p0), .val (.int p1), .val (.int p2), .val (.int p3), .val (.int p4), .val (.int (2 : Int32)), .val (.int ca), .val (.int cb), .val (.int cd), .val (.ref b47), .val (.ref b56), .val (.ref x63), .unset] [(.int ca)])) := c64.trans (by
      show Steps p.tables e below (T63.setTop (mkF m 91 #[.val (.int p0), .val (.int p1), .val (.int p2), .val (.int p3), .val (.int p4), .val (.int (2 : Int32)), .val (.int ca), .val (.int cb), .val (.int cd), .val (.ref b47), .val (.ref b56), .unset, .unset] [(.ref x63)])) _
      refine XS.astore X63.here hx rfl (hb hby at_91) rfl rfl (l' := #[.val (.int p0), .val (.int p1), .val (.int p2), .val (.int p3), .val (.int p4), .val (.int (2 : Int32)), .val (.int ca), .val (.int cb), .val (.int cd), .val (.ref b47), .val (.ref b56), .val (.ref x63), .unset]) rfl ?_
      show Steps p.tables e below (T63.setTop (mkF m 93 #[.val (.int p0), .val (.int p1), .val (.int p2), .val (.int p3), .val (.int p4), .val (.int (2 : Int32)), .val (.int ca), .val (.int cb), .val (.int cd), .val (.ref b47), .val (.ref b56), .val (.ref x63), .unset] [])) _
      refine XS.iload X63.here hx rfl (hb hby at_93) rfl ?_
      show Steps p.tables e below (T63.setTop (mkF m 95 #[.val (.int p0), .val (.int p1), .val (.int p2), .val (.int p3), .val (.int p4), .val (.int (2 : Int32)), .val (.int ca), .val (.int cb), .val (.int cd), .val (.ref b47), .val (.ref b56), .val (.ref x63), .unset] [(.int (2 : Int32))])) _
      refine XS.iconst X63.here hx rfl (hb hby at_95) ?_
      show Steps p.tables e below (T63.setTop (mkF m 96 #[.val (.int p0), .val (.int p1), .val (.int p2), .val (.int p3), .val (.int p4), .val (.int (2 : Int32)), .val (.int ca), .val (.int cb), .val (.int cd), .val (.ref b47), .val (.ref b56), .val (.ref x63), .unset] [(.int (1 : Int32)), (.int (2 : Int32))])) _
      refine XS.icmpNo X63.here hx rfl (hb hby at_96) rfl (flt (by decide : ¬ ((2 : Int32) < (1 : Int32)))).1 ?_
      show Steps p.tables e below (T63.setTop (mkF m 99 #[.val (.int p0), .val (.int p1), .val (.int p2), .val (.int p3), .val (.int p4), .val (.int (2 : Int32)), .val (.int ca), .val (.int cb), .val (.int cd), .val (.ref b47), .val (.ref b56), .val (.ref x63), .unset] [])) _
      refine XS.iload X63.here hx rfl (hb hby at_99) rfl ?_
      exact Steps.refl _)
    obtain ⟨_, _, ⟨T66, L66, kk66, nn66⟩, -, X66, ⟨Lc66, hQ66, l66, y66, z66⟩, st66⟩ := Jvm.LawKit.callS X63 hx (y := (⟨"com/example/luovutus/luovutus/transfer/ValueFormsRequireNotBlankPinLaw", "ws", "(C)Z"⟩ : MethodName)) hown (mvT hZ (hw _ (List.mem_of_getElem? (i := 44) rfl))) (mvT hZ (hw _ (List.mem_of_getElem? (i := 45) rfl))) (mvT hZ (hw _ (List.mem_of_getElem? (i := 46) rfl))) (mvT hZ (hw _ (List.mem_of_getElem? (i := 47) rfl))) (by decide) (backOf (W := 0) (rmWs l Z a0 hw [] ca T63.heap n0 z63 ) hZ (hw _ (List.mem_of_getElem? (i := 47) rfl)) (hw _ (List.mem_of_getElem? (i := 46) rfl)) (by decide) (by decide)) (g := (mkF m 101 #[.val (.int p0), .val (.int p1), .val (.int p2), .val (.int p3), .val (.int p4), .val (.int (2 : Int32)), .val (.int ca), .val (.int cb), .val (.int cd), .val (.ref b47), .val (.ref b56), .val (.ref x63), .unset] [(.int ca)])) rfl (by rw [hml]; rfl) (argsL := [(.int ca)]) (rest := []) (lenOf pd_oCcZ rfl) rfl (by show 2 * 0 + _ ≤ _; exact Nat.le_of_eq rfl) (hb hby at_101) (fun _ _ => ⟨rfl, rfl, (by decide : 5 + 0 ≤ _), (by decide : 13 + 0 ≤ _)⟩)
    dsimp only [Pt.U, Pt.locs, Pt.cells, Pt.slots] at X66 l66 y66 z66 st66 hQ66
    subst l66 y66 z66
    obtain ⟨r66, rfl, hr66, Nq66, eq66⟩ := hQ66
    have c67 : Steps p.tables e below S0 (T66.setTop (mkF m 104 #[.val (.int p0), .val (.int p1), .val (.int p2), .val (.int p3), .val (.int p4), .val (.int (2 : Int32)), .val (.int ca), .val (.int cb), .val (.int cd), .val (.ref b47), .val (.ref b56), .val (.ref x63), .unset] [(.int r66)])) := c65.trans (st66 _ (Steps.refl _))
    have N66 := Fr.app N63 Nq66
    by_cases hq68 : r66 = (0 : Int32)
    · have c69 : Steps p.tables e below S0 (T66.setTop (mkF m 153 #[.val (.int p0), .val (.int p1), .val (.int p2), .val (.int p3), .val (.int p4), .val (.int (2 : Int32)), .val (.int ca), .val (.int cb), .val (.int cd), .val (.ref b47), .val (.ref b56), .val (.ref x63), .val (.int (0 : Int32))] [(.ref b56), (.ref x63)])) := c67.trans (by
        show Steps p.tables e below (T66.setTop (mkF m 104 #[.val (.int p0), .val (.int p1), .val (.int p2), .val (.int p3), .val (.int p4), .val (.int (2 : Int32)), .val (.int ca), .val (.int cb), .val (.int cd), .val (.ref b47), .val (.ref b56), .val (.ref x63), .unset] [(.int r66)])) _
        refine XS.ifYes X66.here hx rfl (pc0 := 104) (pc' := 139) rfl (hb hby at_104) rfl ((if0 _ _).trans (teq hq68).1) (by decide) (by decide) ?_
        show Steps p.tables e below (T66.setTop (mkF m 139 #[.val (.int p0), .val (.int p1), .val (.int p2), .val (.int p3), .val (.int p4), .val (.int (2 : Int32)), .val (.int ca), .val (.int cb), .val (.int cd), .val (.ref b47), .val (.ref b56), .val (.ref x63), .unset] [])) _
        refine XS.iconst X66.here hx rfl (hb hby at_139) ?_
        show Steps p.tables e below (T66.setTop (mkF m 140 #[.val (.int p0), .val (.int p1), .val (.int p2), .val (.int p3), .val (.int p4), .val (.int (2 : Int32)), .val (.int ca), .val (.int cb), .val (.int cd), .val (.ref b47), .val (.ref b56), .val (.ref x63), .unset] [(.int (0 : Int32))])) _
        refine XS.istore X66.here hx rfl (hb hby at_140) rfl (l' := #[.val (.int p0), .val (.int p1), .val (.int p2), .val (.int p3), .val (.int p4), .val (.int (2 : Int32)), .val (.int ca), .val (.int cb), .val (.int cd), .val (.ref b47), .val (.ref b56), .val (.ref x63), .val (.int (0 : Int32))]) rfl ?_
        show Steps p.tables e below (T66.setTop (mkF m 142 #[.val (.int p0), .val (.int p1), .val (.int p2), .val (.int p3), .val (.int p4), .val (.int (2 : Int32)), .val (.int ca), .val (.int cb), .val (.int cd), .val (.ref b47), .val (.ref b56), .val (.ref x63), .val (.int (0 : Int32))] [])) _
        refine XS.iload X66.here hx rfl (hb hby at_142) rfl ?_
        show Steps p.tables e below (T66.setTop (mkF m 144 #[.val (.int p0), .val (.int p1), .val (.int p2), .val (.int p3), .val (.int p4), .val (.int (2 : Int32)), .val (.int ca), .val (.int cb), .val (.int cd), .val (.ref b47), .val (.ref b56), .val (.ref x63), .val (.int (0 : Int32))] [(.int (0 : Int32))])) _
        refine XS.ifYes X66.here hx rfl (pc0 := 144) (pc' := 149) rfl (hb hby at_144) rfl ((if0 _ _).trans (teq (by decide : ((0 : Int32) = (0 : Int32)))).1) (by decide) (by decide) ?_
        show Steps p.tables e below (T66.setTop (mkF m 149 #[.val (.int p0), .val (.int p1), .val (.int p2), .val (.int p3), .val (.int p4), .val (.int (2 : Int32)), .val (.int ca), .val (.int cb), .val (.int cd), .val (.ref b47), .val (.ref b56), .val (.ref x63), .val (.int (0 : Int32))] [])) _
        refine XS.aload X66.here hx rfl (hb hby at_149) rfl rfl ?_
        show Steps p.tables e below (T66.setTop (mkF m 151 #[.val (.int p0), .val (.int p1), .val (.int p2), .val (.int p3), .val (.int p4), .val (.int (2 : Int32)), .val (.int ca), .val (.int cb), .val (.int cd), .val (.ref b47), .val (.ref b56), .val (.ref x63), .val (.int (0 : Int32))] [(.ref x63)])) _
        refine XS.aload X66.here hx rfl (hb hby at_151) rfl rfl ?_
        exact Steps.refl _)
      have Sob56 : OStr Z T63.heap b56 t60 _ ([(nar .char ca), (nar .char cb)] : List Int32) := ⟨(Ex60.keep Kq63), (Fv60.keep Kq63 nin0), (Fc60.keep Kq63 nin0), (Va60.keep Kq63 nin0), hp59, Nat.le_of_ble_eq_true rfl⟩
      have nwb56 : ¬ own_ws ((([(nar .char ca), (nar .char cb)] : List Int32)).getD 0 0) := by
        show ¬ own_ws (nar .char ca)
        rw [own_nar h8ca]; exact own_n hr66 hq68
      obtain ⟨_, _, ⟨T70, L70, kk70, nn70⟩, -, X70, ⟨Lc70, hQ70, l70, y70, z70⟩, st70⟩ := Jvm.LawKit.callS X66 hx (y := (⟨"com/example/luovutus/luovutus/transfer/ValueForms", "requireNotBlank", "(Ljava/lang/String;Ljava/lang/String;)V"⟩ : MethodName)) hown (mvT hZ (hw _ (List.mem_of_getElem? (i := 48) rfl))) (mvT hZ (hw _ (List.mem_of_getElem? (i := 49) rfl))) (mvT hZ (hw _ (List.mem_of_getElem? (i := 50) rfl))) (mvT hZ (hw _ (List.mem_of_getElem? (i := 51) rfl))) (by decide) (backOf (W := 0) (rmRB l Z a0 hw [] x63 b56 t60 _ ([(nar .char ca), (nar .char cb)] : List Int32) 0 ci aA G1 T63.heap n0 z63 Sob56 (Nat.le_of_ble_eq_true rfl) nwb56 sI xI sA hA O2 P5 ((((((X00.ext E47).wr W50 (Nat.le_trans Z0 (Nat.le_trans K0.1 (Nat.le_of_eq g47.symm)))).wr W53 (Nat.le_trans Z0 (Nat.le_trans K0.1 (Nat.le_of_eq g47.symm)))).ext E56).keep Kq60 (allS (Nat.le_trans Z0 (Nat.le_trans K53.1 (Nat.le_of_eq g56.symm))) all0)).keep Kq63 all0)) hZ (hw _ (List.mem_of_getElem? (i := 51) rfl)) (hw _ (List.mem_of_getElem? (i := 50) rfl)) (by decide) (by decide)) (g := (mkF m 153 #[.val (.int p0), .val (.int p1), .val (.int p2), .val (.int p3), .val (.int p4), .val (.int (2 : Int32)), .val (.int ca), .val (.int cb), .val (.int cd), .val (.ref b47), .val (.ref b56), .val (.ref x63), .val (.int (0 : Int32))] [(.ref b56), (.ref x63)])) rfl (by rw [hml]; rfl) (argsL := [(.ref x63), (.ref b56)]) (rest := []) (lenOf pd_oLjavaslangsStringeLjavaslangsStringecV rfl) rfl (by show 2 * 0 + _ ≤ _; exact Nat.le_of_eq rfl) (hb hby at_153) (fun _ _ => ⟨rfl, eq66, (by decide : 5 + 0 ≤ _), (by decide : 13 + 0 ≤ _)⟩)
      dsimp only [Pt.U, Pt.locs, Pt.cells, Pt.slots] at X70 l70 y70 z70 st70 hQ70
      subst l70 y70 z70
      obtain ⟨rfl, Nq70, eq70⟩ := hQ70
      have c71 : Steps p.tables e below S0 (T70.setTop (mkF m 156 #[.val (.int p0), .val (.int p1), .val (.int p2), .val (.int p3), .val (.int p4), .val (.int (2 : Int32)), .val (.int ca), .val (.int cb), .val (.int cd), .val (.ref b47), .val (.ref b56), .val (.ref x63), .val (.int (0 : Int32))] [])) := c69.trans (st70 _ (Steps.refl _))
      have N70 := Fr.app N66 Nq70
      have c72 : Steps p.tables e below S0 (T70.setTop (mkF m 157 #[.val (.int p0), .val (.int p1), .val (.int p2), .val (.int p3), .val (.int p4), .val (.int (2 : Int32)), .val (.int ca), .val (.int cb), .val (.int cd), .val (.ref b47), .val (.ref b56), .val (.ref x63), .val (.int (0 : Int32))] [(.int (1 : Int32))])) := c71.trans (by
        show Steps p.tables e below (T70.setTop (mkF m 156 #[.val (.int p0), .val (.int p1), .val (.int p2), .val (.int p3), .val (.int p4), .val (.int (2 : Int32)), .val (.int ca), .val (.int cb), .val (.int cd), .val (.ref b47), .val (.ref b56), .val (.ref x63), .val (.int (0 : Int32))] [])) _
        refine XS.iconst X70.here hx rfl (hb hby at_156) ?_
        exact Steps.refl _)
      obtain ⟨fs, hr, hrun, hended, hW⟩ := X70.leaveW hS0 (by rw [eq70]; exact (Nat.le_trans (Nat.zero_le _) (Nat.le_trans (Nat.le_trans (Nat.le_trans (Nat.le_trans (Nat.le_trans E47.1 (Keep.of_wr W50).1) (Keep.of_wr W53).1) E56.1) Kq60.1) Kq63.1))) (v := some (.int (1 : Int32))) (fun h => by rw [Bd.returns] at h; cases h)
      refine ⟨_, _, c72.trans (retOut X70 hx Bd.returns rfl (Or.inl ⟨rfl, by simp, _, rfl⟩) (hb hby at_157) hr), hrun, hended, _, _, rfl, ?_, ?_, hW.1, hW.2.1, hW.2.2.1, hW.2.2.2.mono (by decide) (by decide)⟩
      · show Q0 Z  h0 n0 _ T70.heap _
        rw [eq70]
        exact ⟨rfl, N70⟩
      · show CHr Z EL s.vm s.heap T70.vm T70.heap
        rw [hh, eq70]; exact R63.trans (CHv.at X70 hZ hEL R63.1)
    · have c73 : Steps p.tables e below S0 (T66.setTop (mkF m 115 #[.val (.int p0), .val (.int p1), .val (.int p2), .val (.int p3), .val (.int p4), .val (.int (2 : Int32)), .val (.int ca), .val (.int cb), .val (.int cd), .val (.ref b47), .val (.ref b56), .val (.ref x63), .unset] [(.int cb)])) := c67.trans (by
        show Steps p.tables e below (T66.setTop (mkF m 104 #[.val (.int p0), .val (.int p1), .val (.int p2), .val (.int p3), .val (.int p4), .val (.int (2 : Int32)), .val (.int ca), .val (.int cb), .val (.int cd), .val (.ref b47), .val (.ref b56), .val (.ref x63), .unset] [(.int r66)])) _
        refine XS.ifNo X66.here hx rfl (hb hby at_104) rfl ((if0 _ _).trans (feq hq68).1) ?_
        show Steps p.tables e below (T66.setTop (mkF m 107 #[.val (.int p0), .val (.int p1), .val (.int p2), .val (.int p3), .val (.int p4), .val (.int (2 : Int32)), .val (.int ca), .val (.int cb), .val (.int cd), .val (.ref b47), .val (.ref b56), .val (.ref x63), .unset] [])) _
        refine XS.iload X66.here hx rfl (hb hby at_107) rfl ?_
        show Steps p.tables e below (T66.setTop (mkF m 109 #[.val (.int p0), .val (.int p1), .val (.int p2), .val (.int p3), .val (.int p4), .val (.int (2 : Int32)), .val (.int ca), .val (.int cb), .val (.int cd), .val (.ref b47), .val (.ref b56), .val (.ref x63), .unset] [(.int (2 : Int32))])) _
        refine XS.iconst X66.here hx rfl (hb hby at_109) ?_
        show Steps p.tables e below (T66.setTop (mkF m 110 #[.val (.int p0), .val (.int p1), .val (.int p2), .val (.int p3), .val (.int p4), .val (.int (2 : Int32)), .val (.int ca), .val (.int cb), .val (.int cd), .val (.ref b47), .val (.ref b56), .val (.ref x63), .unset] [(.int (2 : Int32)), (.int (2 : Int32))])) _
        refine XS.icmpNo X66.here hx rfl (hb hby at_110) rfl (flt (by decide : ¬ ((2 : Int32) < (2 : Int32)))).1 ?_
        show Steps p.tables e below (T66.setTop (mkF m 113 #[.val (.int p0), .val (.int p1), .val (.int p2), .val (.int p3), .val (.int p4), .val (.int (2 : Int32)), .val (.int ca), .val (.int cb), .val (.int cd), .val (.ref b47), .val (.ref b56), .val (.ref x63), .unset] [])) _
        refine XS.iload X66.here hx rfl (hb hby at_113) rfl ?_
        exact Steps.refl _)
      obtain ⟨_, _, ⟨T74, L74, kk74, nn74⟩, -, X74, ⟨Lc74, hQ74, l74, y74, z74⟩, st74⟩ := Jvm.LawKit.callS X66 hx (y := (⟨"com/example/luovutus/luovutus/transfer/ValueFormsRequireNotBlankPinLaw", "ws", "(C)Z"⟩ : MethodName)) hown (mvT hZ (hw _ (List.mem_of_getElem? (i := 44) rfl))) (mvT hZ (hw _ (List.mem_of_getElem? (i := 45) rfl))) (mvT hZ (hw _ (List.mem_of_getElem? (i := 46) rfl))) (mvT hZ (hw _ (List.mem_of_getElem? (i := 47) rfl))) (by decide) (backOf (W := 0) (rmWs l Z a0 hw [] cb T63.heap n0 z63 ) hZ (hw _ (List.mem_of_getElem? (i := 47) rfl)) (hw _ (List.mem_of_getElem? (i := 46) rfl)) (by decide) (by decide)) (g := (mkF m 115 #[.val (.int p0), .val (.int p1), .val (.int p2), .val (.int p3), .val (.int p4), .val (.int (2 : Int32)), .val (.int ca), .val (.int cb), .val (.int cd), .val (.ref b47), .val (.ref b56), .val (.ref x63), .unset] [(.int cb)])) rfl (by rw [hml]; rfl) (argsL := [(.int cb)]) (rest := []) (lenOf pd_oCcZ rfl) rfl (by show 2 * 0 + _ ≤ _; exact Nat.le_of_eq rfl) (hb hby at_115) (fun _ _ => ⟨rfl, eq66, (by decide : 5 + 0 ≤ _), (by decide : 13 + 0 ≤ _)⟩)
      dsimp only [Pt.U, Pt.locs, Pt.cells, Pt.slots] at X74 l74 y74 z74 st74 hQ74
      subst l74 y74 z74
      obtain ⟨r74, rfl, hr74, Nq74, eq74⟩ := hQ74
      have c75 : Steps p.tables e below S0 (T74.setTop (mkF m 118 #[.val (.int p0), .val (.int p1), .val (.int p2), .val (.int p3), .val (.int p4), .val (.int (2 : Int32)), .val (.int ca), .val (.int cb), .val (.int cd), .val (.ref b47), .val (.ref b56), .val (.ref x63), .unset] [(.int r74)])) := c73.trans (st74 _ (Steps.refl _))
      have N74 := Fr.app N66 Nq74
      by_cases hq76 : r74 = (0 : Int32)
      · have c77 : Steps p.tables e below S0 (T74.setTop (mkF m 153 #[.val (.int p0), .val (.int p1), .val (.int p2), .val (.int p3), .val (.int p4), .val (.int (2 : Int32)), .val (.int ca), .val (.int cb), .val (.int cd), .val (.ref b47), .val (.ref b56), .val (.ref x63), .val (.int (0 : Int32))] [(.ref b56), (.ref x63)])) := c75.trans (by
          show Steps p.tables e below (T74.setTop (mkF m 118 #[.val (.int p0), .val (.int p1), .val (.int p2), .val (.int p3), .val (.int p4), .val (.int (2 : Int32)), .val (.int ca), .val (.int cb), .val (.int cd), .val (.ref b47), .val (.ref b56), .val (.ref x63), .unset] [(.int r74)])) _
          refine XS.ifYes X74.here hx rfl (pc0 := 118) (pc' := 139) rfl (hb hby at_118) rfl ((if0 _ _).trans (teq hq76).1) (by decide) (by decide) ?_
          show Steps p.tables e below (T74.setTop (mkF m 139 #[.val (.int p0), .val (.int p1), .val (.int p2), .val (.int p3), .val (.int p4), .val (.int (2 : Int32)), .val (.int ca), .val (.int cb), .val (.int cd), .val (.ref b47), .val (.ref b56), .val (.ref x63), .unset] [])) _
          refine XS.iconst X74.here hx rfl (hb hby at_139) ?_
          show Steps p.tables e below (T74.setTop (mkF m 140 #[.val (.int p0), .val (.int p1), .val (.int p2), .val (.int p3), .val (.int p4), .val (.int (2 : Int32)), .val (.int ca), .val (.int cb), .val (.int cd), .val (.ref b47), .val (.ref b56), .val (.ref x63), .unset] [(.int (0 : Int32))])) _
          refine XS.istore X74.here hx rfl (hb hby at_140) rfl (l' := #[.val (.int p0), .val (.int p1), .val (.int p2), .val (.int p3), .val (.int p4), .val (.int (2 : Int32)), .val (.int ca), .val (.int cb), .val (.int cd), .val (.ref b47), .val (.ref b56), .val (.ref x63), .val (.int (0 : Int32))]) rfl ?_
          show Steps p.tables e below (T74.setTop (mkF m 142 #[.val (.int p0), .val (.int p1), .val (.int p2), .val (.int p3), .val (.int p4), .val (.int (2 : Int32)), .val (.int ca), .val (.int cb), .val (.int cd), .val (.ref b47), .val (.ref b56), .val (.ref x63), .val (.int (0 : Int32))] [])) _
          refine XS.iload X74.here hx rfl (hb hby at_142) rfl ?_
          show Steps p.tables e below (T74.setTop (mkF m 144 #[.val (.int p0), .val (.int p1), .val (.int p2), .val (.int p3), .val (.int p4), .val (.int (2 : Int32)), .val (.int ca), .val (.int cb), .val (.int cd), .val (.ref b47), .val (.ref b56), .val (.ref x63), .val (.int (0 : Int32))] [(.int (0 : Int32))])) _
          refine XS.ifYes X74.here hx rfl (pc0 := 144) (pc' := 149) rfl (hb hby at_144) rfl ((if0 _ _).trans (teq (by decide : ((0 : Int32) = (0 : Int32)))).1) (by decide) (by decide) ?_
          show Steps p.tables e below (T74.setTop (mkF m 149 #[.val (.int p0), .val (.int p1), .val (.int p2), .val (.int p3), .val (.int p4), .val (.int (2 : Int32)), .val (.int ca), .val (.int cb), .val (.int cd), .val (.ref b47), .val (.ref b56), .val (.ref x63), .val (.int (0 : Int32))] [])) _
          refine XS.aload X74.here hx rfl (hb hby at_149) rfl rfl ?_
          show Steps p.tables e below (T74.setTop (mkF m 151 #[.val (.int p0), .val (.int p1), .val (.int p2), .val (.int p3), .val (.int p4), .val (.int (2 : Int32)), .val (.int ca), .val (.int cb), .val (.int cd), .val (.ref b47), .val (.ref b56), .val (.ref x63), .val (.int (0 : Int32))] [(.ref x63)])) _
          refine XS.aload X74.here hx rfl (hb hby at_151) rfl rfl ?_
          exact Steps.refl _)
        have Sob56 : OStr Z T63.heap b56 t60 _ ([(nar .char ca), (nar .char cb)] : List Int32) := ⟨(Ex60.keep Kq63), (Fv60.keep Kq63 nin0), (Fc60.keep Kq63 nin0), (Va60.keep Kq63 nin0), hp59, Nat.le_of_ble_eq_true rfl⟩
        have nwb56 : ¬ own_ws ((([(nar .char ca), (nar .char cb)] : List Int32)).getD 1 0) := by
          show ¬ own_ws (nar .char cb)
          rw [own_nar h8cb]; exact own_n hr74 hq76
        obtain ⟨_, _, ⟨T78, L78, kk78, nn78⟩, -, X78, ⟨Lc78, hQ78, l78, y78, z78⟩, st78⟩ := Jvm.LawKit.callS X74 hx (y := (⟨"com/example/luovutus/luovutus/transfer/ValueForms", "requireNotBlank", "(Ljava/lang/String;Ljava/lang/String;)V"⟩ : MethodName)) hown (mvT hZ (hw _ (List.mem_of_getElem? (i := 48) rfl))) (mvT hZ (hw _ (List.mem_of_getElem? (i := 49) rfl))) (mvT hZ (hw _ (List.mem_of_getElem? (i := 50) rfl))) (mvT hZ (hw _ (List.mem_of_getElem? (i := 51) rfl))) (by decide) (backOf (W := 0) (rmRB l Z a0 hw [] x63 b56 t60 _ ([(nar .char ca), (nar .char cb)] : List Int32) 1 ci aA G1 T63.heap n0 z63 Sob56 (Nat.le_of_ble_eq_true rfl) nwb56 sI xI sA hA O2 P5 ((((((X00.ext E47).wr W50 (Nat.le_trans Z0 (Nat.le_trans K0.1 (Nat.le_of_eq g47.symm)))).wr W53 (Nat.le_trans Z0 (Nat.le_trans K0.1 (Nat.le_of_eq g47.symm)))).ext E56).keep Kq60 (allS (Nat.le_trans Z0 (Nat.le_trans K53.1 (Nat.le_of_eq g56.symm))) all0)).keep Kq63 all0)) hZ (hw _ (List.mem_of_getElem? (i := 51) rfl)) (hw _ (List.mem_of_getElem? (i := 50) rfl)) (by decide) (by decide)) (g := (mkF m 153 #[.val (.int p0), .val (.int p1), .val (.int p2), .val (.int p3), .val (.int p4), .val (.int (2 : Int32)), .val (.int ca), .val (.int cb), .val (.int cd), .val (.ref b47), .val (.ref b56), .val (.ref x63), .val (.int (0 : Int32))] [(.ref b56), (.ref x63)])) rfl (by rw [hml]; rfl) (argsL := [(.ref x63), (.ref b56)]) (rest := []) (lenOf pd_oLjavaslangsStringeLjavaslangsStringecV rfl) rfl (by show 2 * 0 + _ ≤ _; exact Nat.le_of_eq rfl) (hb hby at_153) (fun _ _ => ⟨rfl, eq74, (by decide : 5 + 0 ≤ _), (by decide : 13 + 0 ≤ _)⟩)
        dsimp only [Pt.U, Pt.locs, Pt.cells, Pt.slots] at X78 l78 y78 z78 st78 hQ78
        subst l78 y78 z78
        obtain ⟨rfl, Nq78, eq78⟩ := hQ78
        have c79 : Steps p.tables e below S0 (T78.setTop (mkF m 156 #[.val (.int p0), .val (.int p1), .val (.int p2), .val (.int p3), .val (.int p4), .val (.int (2 : Int32)), .val (.int ca), .val (.int cb), .val (.int cd), .val (.ref b47), .val (.ref b56), .val (.ref x63), .val (.int (0 : Int32))] [])) := c77.trans (st78 _ (Steps.refl _))
        have N78 := Fr.app N74 Nq78
        have c80 : Steps p.tables e below S0 (T78.setTop (mkF m 157 #[.val (.int p0), .val (.int p1), .val (.int p2), .val (.int p3), .val (.int p4), .val (.int (2 : Int32)), .val (.int ca), .val (.int cb), .val (.int cd), .val (.ref b47), .val (.ref b56), .val (.ref x63), .val (.int (0 : Int32))] [(.int (1 : Int32))])) := c79.trans (by
          show Steps p.tables e below (T78.setTop (mkF m 156 #[.val (.int p0), .val (.int p1), .val (.int p2), .val (.int p3), .val (.int p4), .val (.int (2 : Int32)), .val (.int ca), .val (.int cb), .val (.int cd), .val (.ref b47), .val (.ref b56), .val (.ref x63), .val (.int (0 : Int32))] [])) _
          refine XS.iconst X78.here hx rfl (hb hby at_156) ?_
          exact Steps.refl _)
        obtain ⟨fs, hr, hrun, hended, hW⟩ := X78.leaveW hS0 (by rw [eq78]; exact (Nat.le_trans (Nat.zero_le _) (Nat.le_trans (Nat.le_trans (Nat.le_trans (Nat.le_trans (Nat.le_trans E47.1 (Keep.of_wr W50).1) (Keep.of_wr W53).1) E56.1) Kq60.1) Kq63.1))) (v := some (.int (1 : Int32))) (fun h => by rw [Bd.returns] at h; cases h)
        refine ⟨_, _, c80.trans (retOut X78 hx Bd.returns rfl (Or.inl ⟨rfl, by simp, _, rfl⟩) (hb hby at_157) hr), hrun, hended, _, _, rfl, ?_, ?_, hW.1, hW.2.1, hW.2.2.1, hW.2.2.2.mono (by decide) (by decide)⟩
        · show Q0 Z  h0 n0 _ T78.heap _
          rw [eq78]
          exact ⟨rfl, N78⟩
        · show CHr Z EL s.vm s.heap T78.vm T78.heap
          rw [hh, eq78]; exact R63.trans (CHv.at X78 hZ hEL R63.1)
      · have c81 : Steps p.tables e below S0 (T74.setTop (mkF m 148 #[.val (.int p0), .val (.int p1), .val (.int p2), .val (.int p3), .val (.int p4), .val (.int (2 : Int32)), .val (.int ca), .val (.int cb), .val (.int cd), .val (.ref b47), .val (.ref b56), .val (.ref x63), .val (.int (1 : Int32))] [(.int (1 : Int32))])) := c75.trans (by
          show Steps p.tables e below (T74.setTop (mkF m 118 #[.val (.int p0), .val (.int p1), .val (.int p2), .val (.int p3), .val (.int p4), .val (.int (2 : Int32)), .val (.int ca), .val (.int cb), .val (.int cd), .val (.ref b47), .val (.ref b56), .val (.ref x63), .unset] [(.int r74)])) _
          refine XS.ifNo X74.here hx rfl (hb hby at_118) rfl ((if0 _ _).trans (feq hq76).1) ?_
          show Steps p.tables e below (T74.setTop (mkF m 121 #[.val (.int p0), .val (.int p1), .val (.int p2), .val (.int p3), .val (.int p4), .val (.int (2 : Int32)), .val (.int ca), .val (.int cb), .val (.int cd), .val (.ref b47), .val (.ref b56), .val (.ref x63), .unset] [])) _
          refine XS.iload X74.here hx rfl (hb hby at_121) rfl ?_
          show Steps p.tables e below (T74.setTop (mkF m 123 #[.val (.int p0), .val (.int p1), .val (.int p2), .val (.int p3), .val (.int p4), .val (.int (2 : Int32)), .val (.int ca), .val (.int cb), .val (.int cd), .val (.ref b47), .val (.ref b56), .val (.ref x63), .unset] [(.int (2 : Int32))])) _
          refine XS.iconst X74.here hx rfl (hb hby at_123) ?_
          show Steps p.tables e below (T74.setTop (mkF m 124 #[.val (.int p0), .val (.int p1), .val (.int p2), .val (.int p3), .val (.int p4), .val (.int (2 : Int32)), .val (.int ca), .val (.int cb), .val (.int cd), .val (.ref b47), .val (.ref b56), .val (.ref x63), .unset] [(.int (3 : Int32)), (.int (2 : Int32))])) _
          refine XS.icmpYes X74.here hx rfl (pc0 := 124) (pc' := 135) rfl (hb hby at_124) rfl (tlt (by decide : ((2 : Int32) < (3 : Int32)))).1 (by decide) (by decide) ?_
          show Steps p.tables e below (T74.setTop (mkF m 135 #[.val (.int p0), .val (.int p1), .val (.int p2), .val (.int p3), .val (.int p4), .val (.int (2 : Int32)), .val (.int ca), .val (.int cb), .val (.int cd), .val (.ref b47), .val (.ref b56), .val (.ref x63), .unset] [])) _
          refine XS.iconst X74.here hx rfl (hb hby at_135) ?_
          show Steps p.tables e below (T74.setTop (mkF m 136 #[.val (.int p0), .val (.int p1), .val (.int p2), .val (.int p3), .val (.int p4), .val (.int (2 : Int32)), .val (.int ca), .val (.int cb), .val (.int cd), .val (.ref b47), .val (.ref b56), .val (.ref x63), .unset] [(.int (1 : Int32))])) _
          refine XS.goto X74.here hx rfl (pc0 := 136) (pc' := 140) rfl (hb hby at_136) (by decide) (by decide) ?_
          show Steps p.tables e below (T74.setTop (mkF m 140 #[.val (.int p0), .val (.int p1), .val (.int p2), .val (.int p3), .val (.int p4), .val (.int (2 : Int32)), .val (.int ca), .val (.int cb), .val (.int cd), .val (.ref b47), .val (.ref b56), .val (.ref x63), .unset] [(.int (1 : Int32))])) _
          refine XS.istore X74.here hx rfl (hb hby at_140) rfl (l' := #[.val (.int p0), .val (.int p1), .val (.int p2), .val (.int p3), .val (.int p4), .val (.int (2 : Int32)), .val (.int ca), .val (.int cb), .val (.int cd), .val (.ref b47), .val (.ref b56), .val (.ref x63), .val (.int (1 : Int32))]) rfl ?_
          show Steps p.tables e below (T74.setTop (mkF m 142 #[.val (.int p0), .val (.int p1), .val (.int p2), .val (.int p3), .val (.int p4), .val (.int (2 : Int32)), .val (.int ca), .val (.int cb), .val (.int cd), .val (.ref b47), .val (.ref b56), .val (.ref x63), .val (.int (1 : Int32))] [])) _
          refine XS.iload X74.here hx rfl (hb hby at_142) rfl ?_
          show Steps p.tables e below (T74.setTop (mkF m 144 #[.val (.int p0), .val (.int p1), .val (.int p2), .val (.int p3), .val (.int p4), .val (.int (2 : Int32)), .val (.int ca), .val (.int cb), .val (.int cd), .val (.ref b47), .val (.ref b56), .val (.ref x63), .val (.int (1 : Int32))] [(.int (1 : Int32))])) _
          refine XS.ifNo X74.here hx rfl (hb hby at_144) rfl ((if0 _ _).trans (feq (by decide : ¬ ((1 : Int32) = (0 : Int32)))).1) ?_
          show Steps p.tables e below (T74.setTop (mkF m 147 #[.val (.int p0), .val (.int p1), .val (.int p2), .val (.int p3), .val (.int p4), .val (.int (2 : Int32)), .val (.int ca), .val (.int cb), .val (.int cd), .val (.ref b47), .val (.ref b56), .val (.ref x63), .val (.int (1 : Int32))] [])) _
          refine XS.iconst X74.here hx rfl (hb hby at_147) ?_
          exact Steps.refl _)
        obtain ⟨fs, hr, hrun, hended, hW⟩ := X74.leaveW hS0 (by rw [eq74]; exact (Nat.le_trans (Nat.zero_le _) (Nat.le_trans (Nat.le_trans (Nat.le_trans (Nat.le_trans (Nat.le_trans E47.1 (Keep.of_wr W50).1) (Keep.of_wr W53).1) E56.1) Kq60.1) Kq63.1))) (v := some (.int (1 : Int32))) (fun h => by rw [Bd.returns] at h; cases h)
        refine ⟨_, _, c81.trans (retOut X74 hx Bd.returns rfl (Or.inl ⟨rfl, by simp, _, rfl⟩) (hb hby at_148) hr), hrun, hended, _, _, rfl, ?_, ?_, hW.1, hW.2.1, hW.2.2.1, hW.2.2.2.mono (by decide) (by decide)⟩
        · show Q0 Z  h0 n0 _ T74.heap _
          rw [eq74]
          exact ⟨rfl, N74⟩
        · show CHr Z EL s.vm s.heap T74.vm T74.heap
          rw [hh, eq74]; exact R63.trans (CHv.at X74 hZ hEL R63.1)
  · rw [e4] at c7
    have c82 : Steps p.tables e below S0 (s₁.setTop (mkF m 31 #[.val (.int p0), .val (.int p1), .val (.int p2), .val (.int p3), .val (.int p4), .val (.int (3 : Int32)), .val (.int ca), .val (.int cb), .val (.int cd), .unset, .unset, .unset, .unset] [(.int (3 : Int32))])) := c7.trans (by
      show Steps p.tables e below (s₁.setTop (mkF m 29 #[.val (.int p0), .val (.int p1), .val (.int p2), .val (.int p3), .val (.int p4), .val (.int (3 : Int32)), .val (.int ca), .val (.int cb), .val (.int cd), .unset, .unset, .unset, .unset] [])) _
      refine XS.iload X0.here hx rfl (hb hby at_29) rfl ?_
      exact Steps.refl _)
    obtain ⟨T83, h83, k83, X83, e83, E83, A83, st83⟩ := newP X0 hx hZ (hw _ (List.mem_of_getElem? (i := 0) rfl)) e0 (g := (mkF m 31 #[.val (.int p0), .val (.int p1), .val (.int p2), .val (.int p3), .val (.int p4), .val (.int (3 : Int32)), .val (.int ca), .val (.int cb), .val (.int cd), .unset, .unset, .unset, .unset] [(.int (3 : Int32))])) rfl (hb hby at_31) rfl (by decide) (cap := 3) (by decide) (by decide) (by decide) (by decide)
    obtain ⟨b83, g83⟩ : ∃ z, z = h0.size := ⟨_, rfl⟩
    rw [← g83] at A83 st83
    have c84 : Steps p.tables e below S0 (T83.setTop (mkF m 33 #[.val (.int p0), .val (.int p1), .val (.int p2), .val (.int p3), .val (.int p4), .val (.int (3 : Int32)), .val (.int ca), .val (.int cb), .val (.int cd), .unset, .unset, .unset, .unset] [(.ref b83)])) := c82.trans (st83 _ (Steps.refl _))
    have z83 : n0 ≤ h83.size := Nat.le_trans Z0 E83.1
    have K83 := K0.ext E83
    have r83 : CHr Z EL s.vm h0 s.vm h83 := CHr.ext E83 R0.1
    have R83 := R0.trans r83
    have V83 : Arv Z h83 b83 k83 .char (3 : Int32) [(.int (0 : Int32)), (.int (0 : Int32)), (.int (0 : Int32))] (.int (0 : Int32)) := (Arv.new A83 (by decide)).pad (pad_rep [] (.int (0 : Int32)) 3)
    have lt_b83 : b83 < h83.size := V83.lt
    have c85 : Steps p.tables e below S0 (T83.setTop (mkF m 45 #[.val (.int p0), .val (.int p1), .val (.int p2), .val (.int p3), .val (.int p4), .val (.int (3 : Int32)), .val (.int ca), .val (.int cb), .val (.int cd), .val (.ref b83), .unset, .unset, .unset] [(.int ca), (.int (0 : Int32)), (.ref b83)])) := c84.trans (by
      show Steps p.tables e below (T83.setTop (mkF m 33 #[.val (.int p0), .val (.int p1), .val (.int p2), .val (.int p3), .val (.int p4), .val (.int (3 : Int32)), .val (.int ca), .val (.int cb), .val (.int cd), .unset, .unset, .unset, .unset] [(.ref b83)])) _
      refine XS.astore X83.here hx rfl (hb hby at_33) rfl rfl (l' := #[.val (.int p0), .val (.int p1), .val (.int p2), .val (.int p3), .val (.int p4), .val (.int (3 : Int32)), .val (.int ca), .val (.int cb), .val (.int cd), .val (.ref b83), .unset, .unset, .unset]) rfl ?_
      show Steps p.tables e below (T83.setTop (mkF m 35 #[.val (.int p0), .val (.int p1), .val (.int p2), .val (.int p3), .val (.int p4), .val (.int (3 : Int32)), .val (.int ca), .val (.int cb), .val (.int cd), .val (.ref b83), .unset, .unset, .unset] [])) _
      refine XS.iload X83.here hx rfl (hb hby at_35) rfl ?_
      show Steps p.tables e below (T83.setTop (mkF m 37 #[.val (.int p0), .val (.int p1), .val (.int p2), .val (.int p3), .val (.int p4), .val (.int (3 : Int32)), .val (.int ca), .val (.int cb), .val (.int cd), .val (.ref b83), .unset, .unset, .unset] [(.int (3 : Int32))])) _
      refine XS.ifNo X83.here hx rfl (hb hby at_37) rfl ((if0 _ _).trans (tlt (by decide : ((0 : Int32) < (3 : Int32)))).2.2.2) ?_
      show Steps p.tables e below (T83.setTop (mkF m 40 #[.val (.int p0), .val (.int p1), .val (.int p2), .val (.int p3), .val (.int p4), .val (.int (3 : Int32)), .val (.int ca), .val (.int cb), .val (.int cd), .val (.ref b83), .unset, .unset, .unset] [])) _
      refine XS.aload X83.here hx rfl (hb hby at_40) rfl rfl ?_
      show Steps p.tables e below (T83.setTop (mkF m 42 #[.val (.int p0), .val (.int p1), .val (.int p2), .val (.int p3), .val (.int p4), .val (.int (3 : Int32)), .val (.int ca), .val (.int cb), .val (.int cd), .val (.ref b83), .unset, .unset, .unset] [(.ref b83)])) _
      refine XS.iconst X83.here hx rfl (hb hby at_42) ?_
      show Steps p.tables e below (T83.setTop (mkF m 43 #[.val (.int p0), .val (.int p1), .val (.int p2), .val (.int p3), .val (.int p4), .val (.int (3 : Int32)), .val (.int ca), .val (.int cb), .val (.int cd), .val (.ref b83), .unset, .unset, .unset] [(.int (0 : Int32)), (.ref b83)])) _
      refine XS.iload X83.here hx rfl (hb hby at_43) rfl ?_
      exact Steps.refl _)
    obtain ⟨cl86, Ar86, q86, S86, Nn86, Ha86, G86⟩ := id V83
    obtain ⟨T86, h86, X86, e86, W86, st86⟩ := stC X83 hx hZ e83 Ar86 (j := (0 : Int32)) (inb_of S86 ⟨by decide, by decide⟩) (g := (mkF m 45 #[.val (.int p0), .val (.int p1), .val (.int p2), .val (.int p3), .val (.int p4), .val (.int (3 : Int32)), .val (.int ca), .val (.int cb), .val (.int cd), .val (.ref b83), .unset, .unset, .unset] [(.int ca), (.int (0 : Int32)), (.ref b83)])) rfl rfl (hb hby at_45)
    have V86 : Arv Z h86 b83 k83 .char (3 : Int32) [(.int (nar .char ca)), (.int (0 : Int32)), (.int (0 : Int32))] (.int (0 : Int32)) := Arv.set Ar86 q86 S86 Nn86 Ha86 G86 (fits_nar_char _) W86 0 rfl (Nat.le_of_ble_eq_true rfl)
    have c87 : Steps p.tables e below S0 (T86.setTop (mkF m 46 #[.val (.int p0), .val (.int p1), .val (.int p2), .val (.int p3), .val (.int p4), .val (.int (3 : Int32)), .val (.int ca), .val (.int cb), .val (.int cd), .val (.ref b83), .unset, .unset, .unset] [])) := c85.trans (st86 _ (Steps.refl _))
    have N86 := Fr.snoc X86 N0 (Nat.le_trans Z0 (Nat.le_trans K0.1 (Nat.le_of_eq g83.symm)))
    have z86 : n0 ≤ h86.size := Nat.le_trans z83 (Keep.of_wr W86).1
    have K86 := K83.wr W86 (Or.inr (Nat.le_trans K0.1 (Nat.le_of_eq g83.symm)))
    have r86 : CHr Z EL s.vm h83 s.vm h86 := CHr.wr W86 (Safe.arv hZ.alike V83 (by decide)) R83.1
    have R86 := R83.trans r86
    have c88 : Steps p.tables e below S0 (T86.setTop (mkF m 57 #[.val (.int p0), .val (.int p1), .val (.int p2), .val (.int p3), .val (.int p4), .val (.int (3 : Int32)), .val (.int ca), .val (.int cb), .val (.int cd), .val (.ref b83), .unset, .unset, .unset] [(.int cb), (.int (1 : Int32)), (.ref b83)])) := c87.trans (by
      show Steps p.tables e below (T86.setTop (mkF m 46 #[.val (.int p0), .val (.int p1), .val (.int p2), .val (.int p3), .val (.int p4), .val (.int (3 : Int32)), .val (.int ca), .val (.int cb), .val (.int cd), .val (.ref b83), .unset, .unset, .unset] [])) _
      refine XS.iload X86.here hx rfl (hb hby at_46) rfl ?_
      show Steps p.tables e below (T86.setTop (mkF m 48 #[.val (.int p0), .val (.int p1), .val (.int p2), .val (.int p3), .val (.int p4), .val (.int (3 : Int32)), .val (.int ca), .val (.int cb), .val (.int cd), .val (.ref b83), .unset, .unset, .unset] [(.int (3 : Int32))])) _
      refine XS.iconst X86.here hx rfl (hb hby at_48) ?_
      show Steps p.tables e below (T86.setTop (mkF m 49 #[.val (.int p0), .val (.int p1), .val (.int p2), .val (.int p3), .val (.int p4), .val (.int (3 : Int32)), .val (.int ca), .val (.int cb), .val (.int cd), .val (.ref b83), .unset, .unset, .unset] [(.int (1 : Int32)), (.int (3 : Int32))])) _
      refine XS.icmpNo X86.here hx rfl (hb hby at_49) rfl (tlt (by decide : ((1 : Int32) < (3 : Int32)))).2.2.2 ?_
      show Steps p.tables e below (T86.setTop (mkF m 52 #[.val (.int p0), .val (.int p1), .val (.int p2), .val (.int p3), .val (.int p4), .val (.int (3 : Int32)), .val (.int ca), .val (.int cb), .val (.int cd), .val (.ref b83), .unset, .unset, .unset] [])) _
      refine XS.aload X86.here hx rfl (hb hby at_52) rfl rfl ?_
      show Steps p.tables e below (T86.setTop (mkF m 54 #[.val (.int p0), .val (.int p1), .val (.int p2), .val (.int p3), .val (.int p4), .val (.int (3 : Int32)), .val (.int ca), .val (.int cb), .val (.int cd), .val (.ref b83), .unset, .unset, .unset] [(.ref b83)])) _
      refine XS.iconst X86.here hx rfl (hb hby at_54) ?_
      show Steps p.tables e below (T86.setTop (mkF m 55 #[.val (.int p0), .val (.int p1), .val (.int p2), .val (.int p3), .val (.int p4), .val (.int (3 : Int32)), .val (.int ca), .val (.int cb), .val (.int cd), .val (.ref b83), .unset, .unset, .unset] [(.int (1 : Int32)), (.ref b83)])) _
      refine XS.iload X86.here hx rfl (hb hby at_55) rfl ?_
      exact Steps.refl _)
    obtain ⟨cl89, Ar89, q89, S89, Nn89, Ha89, G89⟩ := id V86
    obtain ⟨T89, h89, X89, e89, W89, st89⟩ := stC X86 hx hZ e86 Ar89 (j := (1 : Int32)) (inb_of S89 ⟨by decide, by decide⟩) (g := (mkF m 57 #[.val (.int p0), .val (.int p1), .val (.int p2), .val (.int p3), .val (.int p4), .val (.int (3 : Int32)), .val (.int ca), .val (.int cb), .val (.int cd), .val (.ref b83), .unset, .unset, .unset] [(.int cb), (.int (1 : Int32)), (.ref b83)])) rfl rfl (hb hby at_57)
    have V89 : Arv Z h89 b83 k83 .char (3 : Int32) [(.int (nar .char ca)), (.int (nar .char cb)), (.int (0 : Int32))] (.int (0 : Int32)) := Arv.set Ar89 q89 S89 Nn89 Ha89 G89 (fits_nar_char _) W89 1 rfl (Nat.le_of_ble_eq_true rfl)
    have c90 : Steps p.tables e below S0 (T89.setTop (mkF m 58 #[.val (.int p0), .val (.int p1), .val (.int p2), .val (.int p3), .val (.int p4), .val (.int (3 : Int32)), .val (.int ca), .val (.int cb), .val (.int cd), .val (.ref b83), .unset, .unset, .unset] [])) := c88.trans (st89 _ (Steps.refl _))
    have N89 := Fr.snoc X89 N86 (Nat.le_trans Z0 (Nat.le_trans K0.1 (Nat.le_of_eq g83.symm)))
    have z89 : n0 ≤ h89.size := Nat.le_trans z86 (Keep.of_wr W89).1
    have K89 := K86.wr W89 (Or.inr (Nat.le_trans K0.1 (Nat.le_of_eq g83.symm)))
    have r89 : CHr Z EL s.vm h86 s.vm h89 := CHr.wr W89 (Safe.arv hZ.alike V86 (by decide)) R86.1
    have R89 := R86.trans r89
    have c91 : Steps p.tables e below S0 (T89.setTop (mkF m 69 #[.val (.int p0), .val (.int p1), .val (.int p2), .val (.int p3), .val (.int p4), .val (.int (3 : Int32)), .val (.int ca), .val (.int cb), .val (.int cd), .val (.ref b83), .unset, .unset, .unset] [(.int cd), (.int (2 : Int32)), (.ref b83)])) := c90.trans (by
      show Steps p.tables e below (T89.setTop (mkF m 58 #[.val (.int p0), .val (.int p1), .val (.int p2), .val (.int p3), .val (.int p4), .val (.int (3 : Int32)), .val (.int ca), .val (.int cb), .val (.int cd), .val (.ref b83), .unset, .unset, .unset] [])) _
      refine XS.iload X89.here hx rfl (hb hby at_58) rfl ?_
      show Steps p.tables e below (T89.setTop (mkF m 60 #[.val (.int p0), .val (.int p1), .val (.int p2), .val (.int p3), .val (.int p4), .val (.int (3 : Int32)), .val (.int ca), .val (.int cb), .val (.int cd), .val (.ref b83), .unset, .unset, .unset] [(.int (3 : Int32))])) _
      refine XS.iconst X89.here hx rfl (hb hby at_60) ?_
      show Steps p.tables e below (T89.setTop (mkF m 61 #[.val (.int p0), .val (.int p1), .val (.int p2), .val (.int p3), .val (.int p4), .val (.int (3 : Int32)), .val (.int ca), .val (.int cb), .val (.int cd), .val (.ref b83), .unset, .unset, .unset] [(.int (2 : Int32)), (.int (3 : Int32))])) _
      refine XS.icmpNo X89.here hx rfl (hb hby at_61) rfl (tlt (by decide : ((2 : Int32) < (3 : Int32)))).2.2.2 ?_
      show Steps p.tables e below (T89.setTop (mkF m 64 #[.val (.int p0), .val (.int p1), .val (.int p2), .val (.int p3), .val (.int p4), .val (.int (3 : Int32)), .val (.int ca), .val (.int cb), .val (.int cd), .val (.ref b83), .unset, .unset, .unset] [])) _
      refine XS.aload X89.here hx rfl (hb hby at_64) rfl rfl ?_
      show Steps p.tables e below (T89.setTop (mkF m 66 #[.val (.int p0), .val (.int p1), .val (.int p2), .val (.int p3), .val (.int p4), .val (.int (3 : Int32)), .val (.int ca), .val (.int cb), .val (.int cd), .val (.ref b83), .unset, .unset, .unset] [(.ref b83)])) _
      refine XS.iconst X89.here hx rfl (hb hby at_66) ?_
      show Steps p.tables e below (T89.setTop (mkF m 67 #[.val (.int p0), .val (.int p1), .val (.int p2), .val (.int p3), .val (.int p4), .val (.int (3 : Int32)), .val (.int ca), .val (.int cb), .val (.int cd), .val (.ref b83), .unset, .unset, .unset] [(.int (2 : Int32)), (.ref b83)])) _
      refine XS.iload X89.here hx rfl (hb hby at_67) rfl ?_
      exact Steps.refl _)
    obtain ⟨cl92, Ar92, q92, S92, Nn92, Ha92, G92⟩ := id V89
    obtain ⟨T92, h92, X92, e92, W92, st92⟩ := stC X89 hx hZ e89 Ar92 (j := (2 : Int32)) (inb_of S92 ⟨by decide, by decide⟩) (g := (mkF m 69 #[.val (.int p0), .val (.int p1), .val (.int p2), .val (.int p3), .val (.int p4), .val (.int (3 : Int32)), .val (.int ca), .val (.int cb), .val (.int cd), .val (.ref b83), .unset, .unset, .unset] [(.int cd), (.int (2 : Int32)), (.ref b83)])) rfl rfl (hb hby at_69)
    have V92 : Arv Z h92 b83 k83 .char (3 : Int32) [(.int (nar .char ca)), (.int (nar .char cb)), (.int (nar .char cd))] (.int (0 : Int32)) := Arv.set Ar92 q92 S92 Nn92 Ha92 G92 (fits_nar_char _) W92 2 rfl (Nat.le_of_ble_eq_true rfl)
    have c93 : Steps p.tables e below S0 (T92.setTop (mkF m 70 #[.val (.int p0), .val (.int p1), .val (.int p2), .val (.int p3), .val (.int p4), .val (.int (3 : Int32)), .val (.int ca), .val (.int cb), .val (.int cd), .val (.ref b83), .unset, .unset, .unset] [])) := c91.trans (st92 _ (Steps.refl _))
    have N92 := Fr.snoc X92 N89 (Nat.le_trans Z0 (Nat.le_trans K0.1 (Nat.le_of_eq g83.symm)))
    have z92 : n0 ≤ h92.size := Nat.le_trans z89 (Keep.of_wr W92).1
    have K92 := K89.wr W92 (Or.inr (Nat.le_trans K0.1 (Nat.le_of_eq g83.symm)))
    have r92 : CHr Z EL s.vm h89 s.vm h92 := CHr.wr W92 (Safe.arv hZ.alike V89 (by decide)) R89.1
    have R92 := R89.trans r92
    obtain ⟨T94, h94, X94, e94, E94, A94, D94, -, st94⟩ := newO X92 hx hZ hown (hw _ (List.mem_of_getElem? (i := 1) rfl)) (hw _ (List.mem_of_getElem? (i := 2) rfl)) (hw _ (List.mem_of_getElem? (i := 3) rfl)) e92 (g := (mkF m 70 #[.val (.int p0), .val (.int p1), .val (.int p2), .val (.int p3), .val (.int p4), .val (.int (3 : Int32)), .val (.int ca), .val (.int cb), .val (.int cd), .val (.ref b83), .unset, .unset, .unset] [])) rfl (hb hby at_70) (by decide) (by decide)
    obtain ⟨b94, g94⟩ : ∃ z, z = h92.size := ⟨_, rfl⟩
    rw [← g94] at A94 D94 st94
    have sn94 : Safe Z EL s.vm h92 b94 := Safe.new (Nat.le_of_eq g94.symm)
    have c95 : Steps p.tables e below S0 (T94.setTop (mkF m 73 #[.val (.int p0), .val (.int p1), .val (.int p2), .val (.int p3), .val (.int p4), .val (.int (3 : Int32)), .val (.int ca), .val (.int cb), .val (.int cd), .val (.ref b83), .unset, .unset, .unset] [(.ref b94)])) := c93.trans (st94 _ (Steps.refl _))
    have z94 : n0 ≤ h94.size := Nat.le_trans z92 E94.1
    have K94 := K92.ext E94
    have r94 : CHr Z EL s.vm h92 s.vm h94 := CHr.ext E94 R92.1
    have R94 := R92.trans r94
    have lt_b94 : b94 < h94.size := A94.lt
    have sf94 : Safe Z EL s.vm h94 b94 := Safe.ext E94 R92.1 sn94
    have F94_coder : Fld Z h94 b94 "java/lang/String" "coder" "B" (.int (0 : Int32)) := D94 (Or.inr (hw _ (List.mem_of_getElem? (i := 27) rfl))) (ty := .byte) (by decide)
    have F94_value : Fld Z h94 b94 "java/lang/String" "value" "[B" .null := D94 (Or.inr (hw _ (List.mem_of_getElem? (i := 29) rfl))) (ty := (.array .byte)) (by decide)
    have c96 : Steps p.tables e below S0 (T94.setTop (mkF m 76 #[.val (.int p0), .val (.int p1), .val (.int p2), .val (.int p3), .val (.int p4), .val (.int (3 : Int32)), .val (.int ca), .val (.int cb), .val (.int cd), .val (.ref b83), .unset, .unset, .unset] [(.ref b83), (.ref b94), (.ref b94)])) := c95.trans (by
      show Steps p.tables e below (T94.setTop (mkF m 73 #[.val (.int p0), .val (.int p1), .val (.int p2), .val (.int p3), .val (.int p4), .val (.int (3 : Int32)), .val (.int ca), .val (.int cb), .val (.int cd), .val (.ref b83), .unset, .unset, .unset] [(.ref b94)])) _
      refine XS.dup X94.here hx rfl (hb hby at_73) rfl rfl ?_
      show Steps p.tables e below (T94.setTop (mkF m 74 #[.val (.int p0), .val (.int p1), .val (.int p2), .val (.int p3), .val (.int p4), .val (.int (3 : Int32)), .val (.int ca), .val (.int cb), .val (.int cd), .val (.ref b83), .unset, .unset, .unset] [(.ref b94), (.ref b94)])) _
      refine XS.aload X94.here hx rfl (hb hby at_74) rfl rfl ?_
      exact Steps.refl _)
    have hp97 : ∀ c ∈ ([(nar .char ca), (nar .char cb), (nar .char cd)] : List Int32), ¬ c < 0 ∧ ¬ (255 : Int32) < c := (own_alS (own_c8n h8ca) (own_alS (own_c8n h8cb) (own_alS (own_c8n h8cd) own_al0)))
    have hws97 : ∀ d ∈ StrChars.Road.words, d.before a0 Z = true := fun d hd => hw d (own_in_words d hd)
    obtain ⟨_, _, ⟨T98, L98, kk98, nn98⟩, -, X98, ⟨Lc98, hQ98, l98, y98, z98⟩, st98⟩ := X94.specialBack hx (y := (⟨"java/lang/String", "<init>", "([C)V"⟩ : MethodName)) rfl hown (mvT hZ (hw _ (List.mem_of_getElem? (i := 4) rfl))) (mvT hZ (hw _ (List.mem_of_getElem? (i := 5) rfl))) (mvT hZ (hw _ (List.mem_of_getElem? (i := 6) rfl))) (by decide) (StrChars.Road.backV (W := 1) hZ hws97 (kI := 4) (hw _ (List.mem_of_getElem? (i := 2) rfl)) (cs := ([(nar .char ca), (nar .char cb), (nar .char cd)] : List Int32)) (bs := (([(nar .char ca), (nar .char cb), (nar .char cd)] : List Int32)).map (fun c => c.toInt8.toInt32)) (n := 3) (Nat.le_trans Z0 (Nat.le_trans K92.1 (Nat.le_of_eq g94.symm))) z94 A94 F94_value F94_coder (V92.ext E94) (O2.ext (((((X00.ext E83).wr W86 (Nat.le_trans Z0 (Nat.le_trans K0.1 (Nat.le_of_eq g83.symm)))).wr W89 (Nat.le_trans Z0 (Nat.le_trans K0.1 (Nat.le_of_eq g83.symm)))).wr W92 (Nat.le_trans Z0 (Nat.le_trans K0.1 (Nat.le_of_eq g83.symm)))).ext E94).2) P5 rfl rfl (by decide) (by decide) hp97 rfl (by decide) (by decide)) (g := (mkF m 76 #[.val (.int p0), .val (.int p1), .val (.int p2), .val (.int p3), .val (.int p4), .val (.int (3 : Int32)), .val (.int ca), .val (.int cb), .val (.int cd), .val (.ref b83), .unset, .unset, .unset] [(.ref b83), (.ref b94), (.ref b94)])) rfl (by rw [hml]; rfl) (Steps.refl _) (a := b94) (argsL := [(.ref b83)]) (rest := [(.ref b94)]) (lenOf pd_oaCcV rfl) rfl (by show 2 * 0 + _ ≤ _; exact Nat.le_of_eq rfl) (hb hby at_76) (fun _ _ => ⟨rfl, e94, (by decide : 2 + 1 ≤ _), (by decide : 7 + 3 ≤ _)⟩)
    dsimp only [Pt.U, Pt.locs, Pt.cells, Pt.slots] at X98 l98 y98 z98 st98 hQ98
    subst l98 y98 z98
    obtain ⟨rfl, Nq98, Kq98, Ex98, Fc98, t98, kb98, ge98, gh98, ne98, Fv98, Va98⟩ := hQ98
    have c99 : Steps p.tables e below S0 (T98.setTop (mkF m 79 #[.val (.int p0), .val (.int p1), .val (.int p2), .val (.int p3), .val (.int p4), .val (.int (3 : Int32)), .val (.int ca), .val (.int cb), .val (.int cd), .val (.ref b83), .unset, .unset, .unset] [(.ref b94)])) := c96.trans (st98)
    have N98 := Fr.app N92 Nq98
    have z98 : n0 ≤ T98.heap.size := Nat.le_trans z94 Kq98.1
    have K98 := K94.trans Kq98 (allS (Or.inr (Nat.le_trans K92.1 (Nat.le_of_eq g94.symm))) all0)
    have r98 : CHr Z EL s.vm h94 s.vm T98.heap := CHr.keep Kq98 (sfS sf94 sf0) R94.1
    have R98 := R94.trans r98
    have lt_t98 : t98 < T98.heap.size := Va98.lt
    have hcd98 : StrChars.Road.CodA ([(nar .char ca), (nar .char cb), (nar .char cd)] : List Int32) 0 (3 : Int32) (((([(nar .char ca), (nar .char cb), (nar .char cd)] : List Int32)).map (fun c => c.toInt8.toInt32)).map Value.int) := StrChars.Road.codOf (n := 3) rfl (fun c hc => (hp97 c hc).2)
    have c100 : Steps p.tables e below S0 (T98.setTop (mkF m 88 #[.val (.int p0), .val (.int p1), .val (.int p2), .val (.int p3), .val (.int p4), .val (.int (3 : Int32)), .val (.int ca), .val (.int cb), .val (.int cd), .val (.ref b83), .val (.ref b94), .unset, .unset] [(.int ((p4 &&& (255 : Int32)).toUInt32.toUInt16.toUInt32.toInt32))])) := c99.trans (by
      show Steps p.tables e below (T98.setTop (mkF m 79 #[.val (.int p0), .val (.int p1), .val (.int p2), .val (.int p3), .val (.int p4), .val (.int (3 : Int32)), .val (.int ca), .val (.int cb), .val (.int cd), .val (.ref b83), .unset, .unset, .unset] [(.ref b94)])) _
      refine XS.astore X98.here hx rfl (hb hby at_79) rfl rfl (l' := #[.val (.int p0), .val (.int p1), .val (.int p2), .val (.int p3), .val (.int p4), .val (.int (3 : Int32)), .val (.int ca), .val (.int cb), .val (.int cd), .val (.ref b83), .val (.ref b94), .unset, .unset]) rfl ?_
      show Steps p.tables e below (T98.setTop (mkF m 81 #[.val (.int p0), .val (.int p1), .val (.int p2), .val (.int p3), .val (.int p4), .val (.int (3 : Int32)), .val (.int ca), .val (.int cb), .val (.int cd), .val (.ref b83), .val (.ref b94), .unset, .unset] [])) _
      refine XS.iload X98.here hx rfl (hb hby at_81) rfl ?_
      show Steps p.tables e below (T98.setTop (mkF m 83 #[.val (.int p0), .val (.int p1), .val (.int p2), .val (.int p3), .val (.int p4), .val (.int (3 : Int32)), .val (.int ca), .val (.int cb), .val (.int cd), .val (.ref b83), .val (.ref b94), .unset, .unset] [(.int p4)])) _
      refine XS.sipush X98.here hx rfl (hb hby at_83) ?_
      show Steps p.tables e below (T98.setTop (mkF m 86 #[.val (.int p0), .val (.int p1), .val (.int p2), .val (.int p3), .val (.int p4), .val (.int (3 : Int32)), .val (.int ca), .val (.int cb), .val (.int cd), .val (.ref b83), .val (.ref b94), .unset, .unset] [(.int (255 : Int32)), (.int p4)])) _
      refine XS.iand X98.here hx rfl (hb hby at_86) rfl ?_
      show Steps p.tables e below (T98.setTop (mkF m 87 #[.val (.int p0), .val (.int p1), .val (.int p2), .val (.int p3), .val (.int p4), .val (.int (3 : Int32)), .val (.int ca), .val (.int cb), .val (.int cd), .val (.ref b83), .val (.ref b94), .unset, .unset] [(.int (p4 &&& (255 : Int32)))])) _
      refine XS.i2c X98.here hx rfl (hb hby at_87) rfl ?_
      exact Steps.refl _)
    obtain ⟨_, _, ⟨T101, L101, kk101, nn101⟩, -, X101, ⟨Lc101, hQ101, l101, y101, z101⟩, st101⟩ := Jvm.LawKit.callS X98 hx (y := (⟨"java/lang/String", "valueOf", "(C)Ljava/lang/String;"⟩ : MethodName)) hown (mvT hZ (hw _ (List.mem_of_getElem? (i := 30) rfl))) (mvT hZ (hw _ (List.mem_of_getElem? (i := 31) rfl))) (mvT hZ (hw _ (List.mem_of_getElem? (i := 3) rfl))) (mvT hZ (hw _ (List.mem_of_getElem? (i := 32) rfl))) (by decide) (backOf (W := 0) (rmValC l Z a0 hw [] ((p4 &&& (255 : Int32)).toUInt32.toUInt16.toUInt32.toInt32) G1 T98.heap n0 z98 (own_c8m p4) O2 P5 ((((((X00.ext E83).wr W86 (Nat.le_trans Z0 (Nat.le_trans K0.1 (Nat.le_of_eq g83.symm)))).wr W89 (Nat.le_trans Z0 (Nat.le_trans K0.1 (Nat.le_of_eq g83.symm)))).wr W92 (Nat.le_trans Z0 (Nat.le_trans K0.1 (Nat.le_of_eq g83.symm)))).ext E94).keep Kq98 (allS (Nat.le_trans Z0 (Nat.le_trans K92.1 (Nat.le_of_eq g94.symm))) all0))) hZ (hw _ (List.mem_of_getElem? (i := 32) rfl)) (hw _ (List.mem_of_getElem? (i := 3) rfl)) (by decide) (by decide)) (g := (mkF m 88 #[.val (.int p0), .val (.int p1), .val (.int p2), .val (.int p3), .val (.int p4), .val (.int (3 : Int32)), .val (.int ca), .val (.int cb), .val (.int cd), .val (.ref b83), .val (.ref b94), .unset, .unset] [(.int ((p4 &&& (255 : Int32)).toUInt32.toUInt16.toUInt32.toInt32))])) rfl (by rw [hml]; rfl) (argsL := [(.int ((p4 &&& (255 : Int32)).toUInt32.toUInt16.toUInt32.toInt32))]) (rest := []) (lenOf pd_oCcLjavaslangsStringe rfl) rfl (by show 2 * 0 + _ ≤ _; exact Nat.le_of_eq rfl) (hb hby at_88) (fun _ _ => ⟨rfl, rfl, (by decide : 3 + 2 ≤ _), (by decide : 10 + 5 ≤ _)⟩)
    dsimp only [Pt.U, Pt.locs, Pt.cells, Pt.slots] at X101 l101 y101 z101 st101 hQ101
    subst l101 y101 z101
    obtain ⟨x101, t101, kb101, rfl, Nq101, Kq101, gx101, gt101, So101⟩ := hQ101
    have c102 : Steps p.tables e below S0 (T101.setTop (mkF m 91 #[.val (.int p0), .val (.int p1), .val (.int p2), .val (.int p3), .val (.int p4), .val (.int (3 : Int32)), .val (.int ca), .val (.int cb), .val (.int cd), .val (.ref b83), .val (.ref b94), .unset, .unset] [(.ref x101)])) := c100.trans (st101 _ (Steps.refl _))
    have N101 := Fr.app N98 Nq101
    have z101 : n0 ≤ T101.heap.size := Nat.le_trans z98 Kq101.1
    have K101 := K98.trans Kq101 all0
    have r101 : CHr Z EL s.vm T98.heap s.vm T101.heap := CHr.keep Kq101 sf0 R98.1
    have R101 := R98.trans r101
    have lt_x101 := So101.1.lt
    have lt_t101 := So101.2.2.2.1.lt
    have c103 : Steps p.tables e below S0 (T101.setTop (mkF m 101 #[.val (.int p0), .val (.int p1), .val (.int p2), .val (.int p3), .val (.int p4), .val (.int (3 : Int32)), .val (.int ca), .val (.int cb), .val (.int cd), .val (.ref b83), .val (.ref b94), .val (.ref x101), .unset] [(.int ca)])) := c102.trans (by
      show Steps p.tables e below (T101.setTop (mkF m 91 #[.val (.int p0), .val (.int p1), .val (.int p2), .val (.int p3), .val (.int p4), .val (.int (3 : Int32)), .val (.int ca), .val (.int cb), .val (.int cd), .val (.ref b83), .val (.ref b94), .unset, .unset] [(.ref x101)])) _
      refine XS.astore X101.here hx rfl (hb hby at_91) rfl rfl (l' := #[.val (.int p0), .val (.int p1), .val (.int p2), .val (.int p3), .val (.int p4), .val (.int (3 : Int32)), .val (.int ca), .val (.int cb), .val (.int cd), .val (.ref b83), .val (.ref b94), .val (.ref x101), .unset]) rfl ?_
      show Steps p.tables e below (T101.setTop (mkF m 93 #[.val (.int p0), .val (.int p1), .val (.int p2), .val (.int p3), .val (.int p4), .val (.int (3 : Int32)), .val (.int ca), .val (.int cb), .val (.int cd), .val (.ref b83), .val (.ref b94), .val (.ref x101), .unset] [])) _
      refine XS.iload X101.here hx rfl (hb hby at_93) rfl ?_
      show Steps p.tables e below (T101.setTop (mkF m 95 #[.val (.int p0), .val (.int p1), .val (.int p2), .val (.int p3), .val (.int p4), .val (.int (3 : Int32)), .val (.int ca), .val (.int cb), .val (.int cd), .val (.ref b83), .val (.ref b94), .val (.ref x101), .unset] [(.int (3 : Int32))])) _
      refine XS.iconst X101.here hx rfl (hb hby at_95) ?_
      show Steps p.tables e below (T101.setTop (mkF m 96 #[.val (.int p0), .val (.int p1), .val (.int p2), .val (.int p3), .val (.int p4), .val (.int (3 : Int32)), .val (.int ca), .val (.int cb), .val (.int cd), .val (.ref b83), .val (.ref b94), .val (.ref x101), .unset] [(.int (1 : Int32)), (.int (3 : Int32))])) _
      refine XS.icmpNo X101.here hx rfl (hb hby at_96) rfl (flt (by decide : ¬ ((3 : Int32) < (1 : Int32)))).1 ?_
      show Steps p.tables e below (T101.setTop (mkF m 99 #[.val (.int p0), .val (.int p1), .val (.int p2), .val (.int p3), .val (.int p4), .val (.int (3 : Int32)), .val (.int ca), .val (.int cb), .val (.int cd), .val (.ref b83), .val (.ref b94), .val (.ref x101), .unset] [])) _
      refine XS.iload X101.here hx rfl (hb hby at_99) rfl ?_
      exact Steps.refl _)
    obtain ⟨_, _, ⟨T104, L104, kk104, nn104⟩, -, X104, ⟨Lc104, hQ104, l104, y104, z104⟩, st104⟩ := Jvm.LawKit.callS X101 hx (y := (⟨"com/example/luovutus/luovutus/transfer/ValueFormsRequireNotBlankPinLaw", "ws", "(C)Z"⟩ : MethodName)) hown (mvT hZ (hw _ (List.mem_of_getElem? (i := 44) rfl))) (mvT hZ (hw _ (List.mem_of_getElem? (i := 45) rfl))) (mvT hZ (hw _ (List.mem_of_getElem? (i := 46) rfl))) (mvT hZ (hw _ (List.mem_of_getElem? (i := 47) rfl))) (by decide) (backOf (W := 0) (rmWs l Z a0 hw [] ca T101.heap n0 z101 ) hZ (hw _ (List.mem_of_getElem? (i := 47) rfl)) (hw _ (List.mem_of_getElem? (i := 46) rfl)) (by decide) (by decide)) (g := (mkF m 101 #[.val (.int p0), .val (.int p1), .val (.int p2), .val (.int p3), .val (.int p4), .val (.int (3 : Int32)), .val (.int ca), .val (.int cb), .val (.int cd), .val (.ref b83), .val (.ref b94), .val (.ref x101), .unset] [(.int ca)])) rfl (by rw [hml]; rfl) (argsL := [(.int ca)]) (rest := []) (lenOf pd_oCcZ rfl) rfl (by show 2 * 0 + _ ≤ _; exact Nat.le_of_eq rfl) (hb hby at_101) (fun _ _ => ⟨rfl, rfl, (by decide : 5 + 0 ≤ _), (by decide : 15 + 0 ≤ _)⟩)
    dsimp only [Pt.U, Pt.locs, Pt.cells, Pt.slots] at X104 l104 y104 z104 st104 hQ104
    subst l104 y104 z104
    obtain ⟨r104, rfl, hr104, Nq104, eq104⟩ := hQ104
    have c105 : Steps p.tables e below S0 (T104.setTop (mkF m 104 #[.val (.int p0), .val (.int p1), .val (.int p2), .val (.int p3), .val (.int p4), .val (.int (3 : Int32)), .val (.int ca), .val (.int cb), .val (.int cd), .val (.ref b83), .val (.ref b94), .val (.ref x101), .unset] [(.int r104)])) := c103.trans (st104 _ (Steps.refl _))
    have N104 := Fr.app N101 Nq104
    by_cases hq106 : r104 = (0 : Int32)
    · have c107 : Steps p.tables e below S0 (T104.setTop (mkF m 153 #[.val (.int p0), .val (.int p1), .val (.int p2), .val (.int p3), .val (.int p4), .val (.int (3 : Int32)), .val (.int ca), .val (.int cb), .val (.int cd), .val (.ref b83), .val (.ref b94), .val (.ref x101), .val (.int (0 : Int32))] [(.ref b94), (.ref x101)])) := c105.trans (by
        show Steps p.tables e below (T104.setTop (mkF m 104 #[.val (.int p0), .val (.int p1), .val (.int p2), .val (.int p3), .val (.int p4), .val (.int (3 : Int32)), .val (.int ca), .val (.int cb), .val (.int cd), .val (.ref b83), .val (.ref b94), .val (.ref x101), .unset] [(.int r104)])) _
        refine XS.ifYes X104.here hx rfl (pc0 := 104) (pc' := 139) rfl (hb hby at_104) rfl ((if0 _ _).trans (teq hq106).1) (by decide) (by decide) ?_
        show Steps p.tables e below (T104.setTop (mkF m 139 #[.val (.int p0), .val (.int p1), .val (.int p2), .val (.int p3), .val (.int p4), .val (.int (3 : Int32)), .val (.int ca), .val (.int cb), .val (.int cd), .val (.ref b83), .val (.ref b94), .val (.ref x101), .unset] [])) _
        refine XS.iconst X104.here hx rfl (hb hby at_139) ?_
        show Steps p.tables e below (T104.setTop (mkF m 140 #[.val (.int p0), .val (.int p1), .val (.int p2), .val (.int p3), .val (.int p4), .val (.int (3 : Int32)), .val (.int ca), .val (.int cb), .val (.int cd), .val (.ref b83), .val (.ref b94), .val (.ref x101), .unset] [(.int (0 : Int32))])) _
        refine XS.istore X104.here hx rfl (hb hby at_140) rfl (l' := #[.val (.int p0), .val (.int p1), .val (.int p2), .val (.int p3), .val (.int p4), .val (.int (3 : Int32)), .val (.int ca), .val (.int cb), .val (.int cd), .val (.ref b83), .val (.ref b94), .val (.ref x101), .val (.int (0 : Int32))]) rfl ?_
        show Steps p.tables e below (T104.setTop (mkF m 142 #[.val (.int p0), .val (.int p1), .val (.int p2), .val (.int p3), .val (.int p4), .val (.int (3 : Int32)), .val (.int ca), .val (.int cb), .val (.int cd), .val (.ref b83), .val (.ref b94), .val (.ref x101), .val (.int (0 : Int32))] [])) _
        refine XS.iload X104.here hx rfl (hb hby at_142) rfl ?_
        show Steps p.tables e below (T104.setTop (mkF m 144 #[.val (.int p0), .val (.int p1), .val (.int p2), .val (.int p3), .val (.int p4), .val (.int (3 : Int32)), .val (.int ca), .val (.int cb), .val (.int cd), .val (.ref b83), .val (.ref b94), .val (.ref x101), .val (.int (0 : Int32))] [(.int (0 : Int32))])) _
        refine XS.ifYes X104.here hx rfl (pc0 := 144) (pc' := 149) rfl (hb hby at_144) rfl ((if0 _ _).trans (teq (by decide : ((0 : Int32) = (0 : Int32)))).1) (by decide) (by decide) ?_
        show Steps p.tables e below (T104.setTop (mkF m 149 #[.val (.int p0), .val (.int p1), .val (.int p2), .val (.int p3), .val (.int p4), .val (.int (3 : Int32)), .val (.int ca), .val (.int cb), .val (.int cd), .val (.ref b83), .val (.ref b94), .val (.ref x101), .val (.int (0 : Int32))] [])) _
        refine XS.aload X104.here hx rfl (hb hby at_149) rfl rfl ?_
        show Steps p.tables e below (T104.setTop (mkF m 151 #[.val (.int p0), .val (.int p1), .val (.int p2), .val (.int p3), .val (.int p4), .val (.int (3 : Int32)), .val (.int ca), .val (.int cb), .val (.int cd), .val (.ref b83), .val (.ref b94), .val (.ref x101), .val (.int (0 : Int32))] [(.ref x101)])) _
        refine XS.aload X104.here hx rfl (hb hby at_151) rfl rfl ?_
        exact Steps.refl _)
      have Sob94 : OStr Z T101.heap b94 t98 _ ([(nar .char ca), (nar .char cb), (nar .char cd)] : List Int32) := ⟨(Ex98.keep Kq101), (Fv98.keep Kq101 nin0), (Fc98.keep Kq101 nin0), (Va98.keep Kq101 nin0), hp97, Nat.le_of_ble_eq_true rfl⟩
      have nwb94 : ¬ own_ws ((([(nar .char ca), (nar .char cb), (nar .char cd)] : List Int32)).getD 0 0) := by
        show ¬ own_ws (nar .char ca)
        rw [own_nar h8ca]; exact own_n hr104 hq106
      obtain ⟨_, _, ⟨T108, L108, kk108, nn108⟩, -, X108, ⟨Lc108, hQ108, l108, y108, z108⟩, st108⟩ := Jvm.LawKit.callS X104 hx (y := (⟨"com/example/luovutus/luovutus/transfer/ValueForms", "requireNotBlank", "(Ljava/lang/String;Ljava/lang/String;)V"⟩ : MethodName)) hown (mvT hZ (hw _ (List.mem_of_getElem? (i := 48) rfl))) (mvT hZ (hw _ (List.mem_of_getElem? (i := 49) rfl))) (mvT hZ (hw _ (List.mem_of_getElem? (i := 50) rfl))) (mvT hZ (hw _ (List.mem_of_getElem? (i := 51) rfl))) (by decide) (backOf (W := 0) (rmRB l Z a0 hw [] x101 b94 t98 _ ([(nar .char ca), (nar .char cb), (nar .char cd)] : List Int32) 0 ci aA G1 T101.heap n0 z101 Sob94 (Nat.le_of_ble_eq_true rfl) nwb94 sI xI sA hA O2 P5 (((((((X00.ext E83).wr W86 (Nat.le_trans Z0 (Nat.le_trans K0.1 (Nat.le_of_eq g83.symm)))).wr W89 (Nat.le_trans Z0 (Nat.le_trans K0.1 (Nat.le_of_eq g83.symm)))).wr W92 (Nat.le_trans Z0 (Nat.le_trans K0.1 (Nat.le_of_eq g83.symm)))).ext E94).keep Kq98 (allS (Nat.le_trans Z0 (Nat.le_trans K92.1 (Nat.le_of_eq g94.symm))) all0)).keep Kq101 all0)) hZ (hw _ (List.mem_of_getElem? (i := 51) rfl)) (hw _ (List.mem_of_getElem? (i := 50) rfl)) (by decide) (by decide)) (g := (mkF m 153 #[.val (.int p0), .val (.int p1), .val (.int p2), .val (.int p3), .val (.int p4), .val (.int (3 : Int32)), .val (.int ca), .val (.int cb), .val (.int cd), .val (.ref b83), .val (.ref b94), .val (.ref x101), .val (.int (0 : Int32))] [(.ref b94), (.ref x101)])) rfl (by rw [hml]; rfl) (argsL := [(.ref x101), (.ref b94)]) (rest := []) (lenOf pd_oLjavaslangsStringeLjavaslangsStringecV rfl) rfl (by show 2 * 0 + _ ≤ _; exact Nat.le_of_eq rfl) (hb hby at_153) (fun _ _ => ⟨rfl, eq104, (by decide : 5 + 0 ≤ _), (by decide : 15 + 0 ≤ _)⟩)
      dsimp only [Pt.U, Pt.locs, Pt.cells, Pt.slots] at X108 l108 y108 z108 st108 hQ108
      subst l108 y108 z108
      obtain ⟨rfl, Nq108, eq108⟩ := hQ108
      have c109 : Steps p.tables e below S0 (T108.setTop (mkF m 156 #[.val (.int p0), .val (.int p1), .val (.int p2), .val (.int p3), .val (.int p4), .val (.int (3 : Int32)), .val (.int ca), .val (.int cb), .val (.int cd), .val (.ref b83), .val (.ref b94), .val (.ref x101), .val (.int (0 : Int32))] [])) := c107.trans (st108 _ (Steps.refl _))
      have N108 := Fr.app N104 Nq108
      have c110 : Steps p.tables e below S0 (T108.setTop (mkF m 157 #[.val (.int p0), .val (.int p1), .val (.int p2), .val (.int p3), .val (.int p4), .val (.int (3 : Int32)), .val (.int ca), .val (.int cb), .val (.int cd), .val (.ref b83), .val (.ref b94), .val (.ref x101), .val (.int (0 : Int32))] [(.int (1 : Int32))])) := c109.trans (by
        show Steps p.tables e below (T108.setTop (mkF m 156 #[.val (.int p0), .val (.int p1), .val (.int p2), .val (.int p3), .val (.int p4), .val (.int (3 : Int32)), .val (.int ca), .val (.int cb), .val (.int cd), .val (.ref b83), .val (.ref b94), .val (.ref x101), .val (.int (0 : Int32))] [])) _
        refine XS.iconst X108.here hx rfl (hb hby at_156) ?_
        exact Steps.refl _)
      obtain ⟨fs, hr, hrun, hended, hW⟩ := X108.leaveW hS0 (by rw [eq108]; exact (Nat.le_trans (Nat.zero_le _) (Nat.le_trans (Nat.le_trans (Nat.le_trans (Nat.le_trans (Nat.le_trans (Nat.le_trans E83.1 (Keep.of_wr W86).1) (Keep.of_wr W89).1) (Keep.of_wr W92).1) E94.1) Kq98.1) Kq101.1))) (v := some (.int (1 : Int32))) (fun h => by rw [Bd.returns] at h; cases h)
      refine ⟨_, _, c110.trans (retOut X108 hx Bd.returns rfl (Or.inl ⟨rfl, by simp, _, rfl⟩) (hb hby at_157) hr), hrun, hended, _, _, rfl, ?_, ?_, hW.1, hW.2.1, hW.2.2.1, hW.2.2.2.mono (by decide) (by decide)⟩
      · show Q0 Z  h0 n0 _ T108.heap _
        rw [eq108]
        exact ⟨rfl, N108⟩
      · show CHr Z EL s.vm s.heap T108.vm T108.heap
        rw [hh, eq108]; exact R101.trans (CHv.at X108 hZ hEL R101.1)
    · have c111 : Steps p.tables e below S0 (T104.setTop (mkF m 115 #[.val (.int p0), .val (.int p1), .val (.int p2), .val (.int p3), .val (.int p4), .val (.int (3 : Int32)), .val (.int ca), .val (.int cb), .val (.int cd), .val (.ref b83), .val (.ref b94), .val (.ref x101), .unset] [(.int cb)])) := c105.trans (by
        show Steps p.tables e below (T104.setTop (mkF m 104 #[.val (.int p0), .val (.int p1), .val (.int p2), .val (.int p3), .val (.int p4), .val (.int (3 : Int32)), .val (.int ca), .val (.int cb), .val (.int cd), .val (.ref b83), .val (.ref b94), .val (.ref x101), .unset] [(.int r104)])) _
        refine XS.ifNo X104.here hx rfl (hb hby at_104) rfl ((if0 _ _).trans (feq hq106).1) ?_
        show Steps p.tables e below (T104.setTop (mkF m 107 #[.val (.int p0), .val (.int p1), .val (.int p2), .val (.int p3), .val (.int p4), .val (.int (3 : Int32)), .val (.int ca), .val (.int cb), .val (.int cd), .val (.ref b83), .val (.ref b94), .val (.ref x101), .unset] [])) _
        refine XS.iload X104.here hx rfl (hb hby at_107) rfl ?_
        show Steps p.tables e below (T104.setTop (mkF m 109 #[.val (.int p0), .val (.int p1), .val (.int p2), .val (.int p3), .val (.int p4), .val (.int (3 : Int32)), .val (.int ca), .val (.int cb), .val (.int cd), .val (.ref b83), .val (.ref b94), .val (.ref x101), .unset] [(.int (3 : Int32))])) _
        refine XS.iconst X104.here hx rfl (hb hby at_109) ?_
        show Steps p.tables e below (T104.setTop (mkF m 110 #[.val (.int p0), .val (.int p1), .val (.int p2), .val (.int p3), .val (.int p4), .val (.int (3 : Int32)), .val (.int ca), .val (.int cb), .val (.int cd), .val (.ref b83), .val (.ref b94), .val (.ref x101), .unset] [(.int (2 : Int32)), (.int (3 : Int32))])) _
        refine XS.icmpNo X104.here hx rfl (hb hby at_110) rfl (flt (by decide : ¬ ((3 : Int32) < (2 : Int32)))).1 ?_
        show Steps p.tables e below (T104.setTop (mkF m 113 #[.val (.int p0), .val (.int p1), .val (.int p2), .val (.int p3), .val (.int p4), .val (.int (3 : Int32)), .val (.int ca), .val (.int cb), .val (.int cd), .val (.ref b83), .val (.ref b94), .val (.ref x101), .unset] [])) _
        refine XS.iload X104.here hx rfl (hb hby at_113) rfl ?_
        exact Steps.refl _)
      obtain ⟨_, _, ⟨T112, L112, kk112, nn112⟩, -, X112, ⟨Lc112, hQ112, l112, y112, z112⟩, st112⟩ := Jvm.LawKit.callS X104 hx (y := (⟨"com/example/luovutus/luovutus/transfer/ValueFormsRequireNotBlankPinLaw", "ws", "(C)Z"⟩ : MethodName)) hown (mvT hZ (hw _ (List.mem_of_getElem? (i := 44) rfl))) (mvT hZ (hw _ (List.mem_of_getElem? (i := 45) rfl))) (mvT hZ (hw _ (List.mem_of_getElem? (i := 46) rfl))) (mvT hZ (hw _ (List.mem_of_getElem? (i := 47) rfl))) (by decide) (backOf (W := 0) (rmWs l Z a0 hw [] cb T101.heap n0 z101 ) hZ (hw _ (List.mem_of_getElem? (i := 47) rfl)) (hw _ (List.mem_of_getElem? (i := 46) rfl)) (by decide) (by decide)) (g := (mkF m 115 #[.val (.int p0), .val (.int p1), .val (.int p2), .val (.int p3), .val (.int p4), .val (.int (3 : Int32)), .val (.int ca), .val (.int cb), .val (.int cd), .val (.ref b83), .val (.ref b94), .val (.ref x101), .unset] [(.int cb)])) rfl (by rw [hml]; rfl) (argsL := [(.int cb)]) (rest := []) (lenOf pd_oCcZ rfl) rfl (by show 2 * 0 + _ ≤ _; exact Nat.le_of_eq rfl) (hb hby at_115) (fun _ _ => ⟨rfl, eq104, (by decide : 5 + 0 ≤ _), (by decide : 15 + 0 ≤ _)⟩)
      dsimp only [Pt.U, Pt.locs, Pt.cells, Pt.slots] at X112 l112 y112 z112 st112 hQ112
      subst l112 y112 z112
      obtain ⟨r112, rfl, hr112, Nq112, eq112⟩ := hQ112
      have c113 : Steps p.tables e below S0 (T112.setTop (mkF m 118 #[.val (.int p0), .val (.int p1), .val (.int p2), .val (.int p3), .val (.int p4), .val (.int (3 : Int32)), .val (.int ca), .val (.int cb), .val (.int cd), .val (.ref b83), .val (.ref b94), .val (.ref x101), .unset] [(.int r112)])) := c111.trans (st112 _ (Steps.refl _))
      have N112 := Fr.app N104 Nq112
      by_cases hq114 : r112 = (0 : Int32)
      · have c115 : Steps p.tables e below S0 (T112.setTop (mkF m 153 #[.val (.int p0), .val (.int p1), .val (.int p2), .val (.int p3), .val (.int p4), .val (.int (3 : Int32)), .val (.int ca), .val (.int cb), .val (.int cd), .val (.ref b83), .val (.ref b94), .val (.ref x101), .val (.int (0 : Int32))] [(.ref b94), (.ref x101)])) := c113.trans (by
          show Steps p.tables e below (T112.setTop (mkF m 118 #[.val (.int p0), .val (.int p1), .val (.int p2), .val (.int p3), .val (.int p4), .val (.int (3 : Int32)), .val (.int ca), .val (.int cb), .val (.int cd), .val (.ref b83), .val (.ref b94), .val (.ref x101), .unset] [(.int r112)])) _
          refine XS.ifYes X112.here hx rfl (pc0 := 118) (pc' := 139) rfl (hb hby at_118) rfl ((if0 _ _).trans (teq hq114).1) (by decide) (by decide) ?_
          show Steps p.tables e below (T112.setTop (mkF m 139 #[.val (.int p0), .val (.int p1), .val (.int p2), .val (.int p3), .val (.int p4), .val (.int (3 : Int32)), .val (.int ca), .val (.int cb), .val (.int cd), .val (.ref b83), .val (.ref b94), .val (.ref x101), .unset] [])) _
          refine XS.iconst X112.here hx rfl (hb hby at_139) ?_
          show Steps p.tables e below (T112.setTop (mkF m 140 #[.val (.int p0), .val (.int p1), .val (.int p2), .val (.int p3), .val (.int p4), .val (.int (3 : Int32)), .val (.int ca), .val (.int cb), .val (.int cd), .val (.ref b83), .val (.ref b94), .val (.ref x101), .unset] [(.int (0 : Int32))])) _
          refine XS.istore X112.here hx rfl (hb hby at_140) rfl (l' := #[.val (.int p0), .val (.int p1), .val (.int p2), .val (.int p3), .val (.int p4), .val (.int (3 : Int32)), .val (.int ca), .val (.int cb), .val (.int cd), .val (.ref b83), .val (.ref b94), .val (.ref x101), .val (.int (0 : Int32))]) rfl ?_
          show Steps p.tables e below (T112.setTop (mkF m 142 #[.val (.int p0), .val (.int p1), .val (.int p2), .val (.int p3), .val (.int p4), .val (.int (3 : Int32)), .val (.int ca), .val (.int cb), .val (.int cd), .val (.ref b83), .val (.ref b94), .val (.ref x101), .val (.int (0 : Int32))] [])) _
          refine XS.iload X112.here hx rfl (hb hby at_142) rfl ?_
          show Steps p.tables e below (T112.setTop (mkF m 144 #[.val (.int p0), .val (.int p1), .val (.int p2), .val (.int p3), .val (.int p4), .val (.int (3 : Int32)), .val (.int ca), .val (.int cb), .val (.int cd), .val (.ref b83), .val (.ref b94), .val (.ref x101), .val (.int (0 : Int32))] [(.int (0 : Int32))])) _
          refine XS.ifYes X112.here hx rfl (pc0 := 144) (pc' := 149) rfl (hb hby at_144) rfl ((if0 _ _).trans (teq (by decide : ((0 : Int32) = (0 : Int32)))).1) (by decide) (by decide) ?_
          show Steps p.tables e below (T112.setTop (mkF m 149 #[.val (.int p0), .val (.int p1), .val (.int p2), .val (.int p3), .val (.int p4), .val (.int (3 : Int32)), .val (.int ca), .val (.int cb), .val (.int cd), .val (.ref b83), .val (.ref b94), .val (.ref x101), .val (.int (0 : Int32))] [])) _
          refine XS.aload X112.here hx rfl (hb hby at_149) rfl rfl ?_
          show Steps p.tables e below (T112.setTop (mkF m 151 #[.val (.int p0), .val (.int p1), .val (.int p2), .val (.int p3), .val (.int p4), .val (.int (3 : Int32)), .val (.int ca), .val (.int cb), .val (.int cd), .val (.ref b83), .val (.ref b94), .val (.ref x101), .val (.int (0 : Int32))] [(.ref x101)])) _
          refine XS.aload X112.here hx rfl (hb hby at_151) rfl rfl ?_
          exact Steps.refl _)
        have Sob94 : OStr Z T101.heap b94 t98 _ ([(nar .char ca), (nar .char cb), (nar .char cd)] : List Int32) := ⟨(Ex98.keep Kq101), (Fv98.keep Kq101 nin0), (Fc98.keep Kq101 nin0), (Va98.keep Kq101 nin0), hp97, Nat.le_of_ble_eq_true rfl⟩
        have nwb94 : ¬ own_ws ((([(nar .char ca), (nar .char cb), (nar .char cd)] : List Int32)).getD 1 0) := by
          show ¬ own_ws (nar .char cb)
          rw [own_nar h8cb]; exact own_n hr112 hq114
        obtain ⟨_, _, ⟨T116, L116, kk116, nn116⟩, -, X116, ⟨Lc116, hQ116, l116, y116, z116⟩, st116⟩ := Jvm.LawKit.callS X112 hx (y := (⟨"com/example/luovutus/luovutus/transfer/ValueForms", "requireNotBlank", "(Ljava/lang/String;Ljava/lang/String;)V"⟩ : MethodName)) hown (mvT hZ (hw _ (List.mem_of_getElem? (i := 48) rfl))) (mvT hZ (hw _ (List.mem_of_getElem? (i := 49) rfl))) (mvT hZ (hw _ (List.mem_of_getElem? (i := 50) rfl))) (mvT hZ (hw _ (List.mem_of_getElem? (i := 51) rfl))) (by decide) (backOf (W := 0) (rmRB l Z a0 hw [] x101 b94 t98 _ ([(nar .char ca), (nar .char cb), (nar .char cd)] : List Int32) 1 ci aA G1 T101.heap n0 z101 Sob94 (Nat.le_of_ble_eq_true rfl) nwb94 sI xI sA hA O2 P5 (((((((X00.ext E83).wr W86 (Nat.le_trans Z0 (Nat.le_trans K0.1 (Nat.le_of_eq g83.symm)))).wr W89 (Nat.le_trans Z0 (Nat.le_trans K0.1 (Nat.le_of_eq g83.symm)))).wr W92 (Nat.le_trans Z0 (Nat.le_trans K0.1 (Nat.le_of_eq g83.symm)))).ext E94).keep Kq98 (allS (Nat.le_trans Z0 (Nat.le_trans K92.1 (Nat.le_of_eq g94.symm))) all0)).keep Kq101 all0)) hZ (hw _ (List.mem_of_getElem? (i := 51) rfl)) (hw _ (List.mem_of_getElem? (i := 50) rfl)) (by decide) (by decide)) (g := (mkF m 153 #[.val (.int p0), .val (.int p1), .val (.int p2), .val (.int p3), .val (.int p4), .val (.int (3 : Int32)), .val (.int ca), .val (.int cb), .val (.int cd), .val (.ref b83), .val (.ref b94), .val (.ref x101), .val (.int (0 : Int32))] [(.ref b94), (.ref x101)])) rfl (by rw [hml]; rfl) (argsL := [(.ref x101), (.ref b94)]) (rest := []) (lenOf pd_oLjavaslangsStringeLjavaslangsStringecV rfl) rfl (by show 2 * 0 + _ ≤ _; exact Nat.le_of_eq rfl) (hb hby at_153) (fun _ _ => ⟨rfl, eq112, (by decide : 5 + 0 ≤ _), (by decide : 15 + 0 ≤ _)⟩)
        dsimp only [Pt.U, Pt.locs, Pt.cells, Pt.slots] at X116 l116 y116 z116 st116 hQ116
        subst l116 y116 z116
        obtain ⟨rfl, Nq116, eq116⟩ := hQ116
        have c117 : Steps p.tables e below S0 (T116.setTop (mkF m 156 #[.val (.int p0), .val (.int p1), .val (.int p2), .val (.int p3), .val (.int p4), .val (.int (3 : Int32)), .val (.int ca), .val (.int cb), .val (.int cd), .val (.ref b83), .val (.ref b94), .val (.ref x101), .val (.int (0 : Int32))] [])) := c115.trans (st116 _ (Steps.refl _))
        have N116 := Fr.app N112 Nq116
        have c118 : Steps p.tables e below S0 (T116.setTop (mkF m 157 #[.val (.int p0), .val (.int p1), .val (.int p2), .val (.int p3), .val (.int p4), .val (.int (3 : Int32)), .val (.int ca), .val (.int cb), .val (.int cd), .val (.ref b83), .val (.ref b94), .val (.ref x101), .val (.int (0 : Int32))] [(.int (1 : Int32))])) := c117.trans (by
          show Steps p.tables e below (T116.setTop (mkF m 156 #[.val (.int p0), .val (.int p1), .val (.int p2), .val (.int p3), .val (.int p4), .val (.int (3 : Int32)), .val (.int ca), .val (.int cb), .val (.int cd), .val (.ref b83), .val (.ref b94), .val (.ref x101), .val (.int (0 : Int32))] [])) _
          refine XS.iconst X116.here hx rfl (hb hby at_156) ?_
          exact Steps.refl _)
        obtain ⟨fs, hr, hrun, hended, hW⟩ := X116.leaveW hS0 (by rw [eq116]; exact (Nat.le_trans (Nat.zero_le _) (Nat.le_trans (Nat.le_trans (Nat.le_trans (Nat.le_trans (Nat.le_trans (Nat.le_trans E83.1 (Keep.of_wr W86).1) (Keep.of_wr W89).1) (Keep.of_wr W92).1) E94.1) Kq98.1) Kq101.1))) (v := some (.int (1 : Int32))) (fun h => by rw [Bd.returns] at h; cases h)
        refine ⟨_, _, c118.trans (retOut X116 hx Bd.returns rfl (Or.inl ⟨rfl, by simp, _, rfl⟩) (hb hby at_157) hr), hrun, hended, _, _, rfl, ?_, ?_, hW.1, hW.2.1, hW.2.2.1, hW.2.2.2.mono (by decide) (by decide)⟩
        · show Q0 Z  h0 n0 _ T116.heap _
          rw [eq116]
          exact ⟨rfl, N116⟩
        · show CHr Z EL s.vm s.heap T116.vm T116.heap
          rw [hh, eq116]; exact R101.trans (CHv.at X116 hZ hEL R101.1)
      · have c119 : Steps p.tables e below S0 (T112.setTop (mkF m 129 #[.val (.int p0), .val (.int p1), .val (.int p2), .val (.int p3), .val (.int p4), .val (.int (3 : Int32)), .val (.int ca), .val (.int cb), .val (.int cd), .val (.ref b83), .val (.ref b94), .val (.ref x101), .unset] [(.int cd)])) := c113.trans (by
          show Steps p.tables e below (T112.setTop (mkF m 118 #[.val (.int p0), .val (.int p1), .val (.int p2), .val (.int p3), .val (.int p4), .val (.int (3 : Int32)), .val (.int ca), .val (.int cb), .val (.int cd), .val (.ref b83), .val (.ref b94), .val (.ref x101), .unset] [(.int r112)])) _
          refine XS.ifNo X112.here hx rfl (hb hby at_118) rfl ((if0 _ _).trans (feq hq114).1) ?_
          show Steps p.tables e below (T112.setTop (mkF m 121 #[.val (.int p0), .val (.int p1), .val (.int p2), .val (.int p3), .val (.int p4), .val (.int (3 : Int32)), .val (.int ca), .val (.int cb), .val (.int cd), .val (.ref b83), .val (.ref b94), .val (.ref x101), .unset] [])) _
          refine XS.iload X112.here hx rfl (hb hby at_121) rfl ?_
          show Steps p.tables e below (T112.setTop (mkF m 123 #[.val (.int p0), .val (.int p1), .val (.int p2), .val (.int p3), .val (.int p4), .val (.int (3 : Int32)), .val (.int ca), .val (.int cb), .val (.int cd), .val (.ref b83), .val (.ref b94), .val (.ref x101), .unset] [(.int (3 : Int32))])) _
          refine XS.iconst X112.here hx rfl (hb hby at_123) ?_
          show Steps p.tables e below (T112.setTop (mkF m 124 #[.val (.int p0), .val (.int p1), .val (.int p2), .val (.int p3), .val (.int p4), .val (.int (3 : Int32)), .val (.int ca), .val (.int cb), .val (.int cd), .val (.ref b83), .val (.ref b94), .val (.ref x101), .unset] [(.int (3 : Int32)), (.int (3 : Int32))])) _
          refine XS.icmpNo X112.here hx rfl (hb hby at_124) rfl (flt (by decide : ¬ ((3 : Int32) < (3 : Int32)))).1 ?_
          show Steps p.tables e below (T112.setTop (mkF m 127 #[.val (.int p0), .val (.int p1), .val (.int p2), .val (.int p3), .val (.int p4), .val (.int (3 : Int32)), .val (.int ca), .val (.int cb), .val (.int cd), .val (.ref b83), .val (.ref b94), .val (.ref x101), .unset] [])) _
          refine XS.iload X112.here hx rfl (hb hby at_127) rfl ?_
          exact Steps.refl _)
        obtain ⟨_, _, ⟨T120, L120, kk120, nn120⟩, -, X120, ⟨Lc120, hQ120, l120, y120, z120⟩, st120⟩ := Jvm.LawKit.callS X112 hx (y := (⟨"com/example/luovutus/luovutus/transfer/ValueFormsRequireNotBlankPinLaw", "ws", "(C)Z"⟩ : MethodName)) hown (mvT hZ (hw _ (List.mem_of_getElem? (i := 44) rfl))) (mvT hZ (hw _ (List.mem_of_getElem? (i := 45) rfl))) (mvT hZ (hw _ (List.mem_of_getElem? (i := 46) rfl))) (mvT hZ (hw _ (List.mem_of_getElem? (i := 47) rfl))) (by decide) (backOf (W := 0) (rmWs l Z a0 hw [] cd T101.heap n0 z101 ) hZ (hw _ (List.mem_of_getElem? (i := 47) rfl)) (hw _ (List.mem_of_getElem? (i := 46) rfl)) (by decide) (by decide)) (g := (mkF m 129 #[.val (.int p0), .val (.int p1), .val (.int p2), .val (.int p3), .val (.int p4), .val (.int (3 : Int32)), .val (.int ca), .val (.int cb), .val (.int cd), .val (.ref b83), .val (.ref b94), .val (.ref x101), .unset] [(.int cd)])) rfl (by rw [hml]; rfl) (argsL := [(.int cd)]) (rest := []) (lenOf pd_oCcZ rfl) rfl (by show 2 * 0 + _ ≤ _; exact Nat.le_of_eq rfl) (hb hby at_129) (fun _ _ => ⟨rfl, eq112, (by decide : 5 + 0 ≤ _), (by decide : 15 + 0 ≤ _)⟩)
        dsimp only [Pt.U, Pt.locs, Pt.cells, Pt.slots] at X120 l120 y120 z120 st120 hQ120
        subst l120 y120 z120
        obtain ⟨r120, rfl, hr120, Nq120, eq120⟩ := hQ120
        have c121 : Steps p.tables e below S0 (T120.setTop (mkF m 132 #[.val (.int p0), .val (.int p1), .val (.int p2), .val (.int p3), .val (.int p4), .val (.int (3 : Int32)), .val (.int ca), .val (.int cb), .val (.int cd), .val (.ref b83), .val (.ref b94), .val (.ref x101), .unset] [(.int r120)])) := c119.trans (st120 _ (Steps.refl _))
        have N120 := Fr.app N112 Nq120
        by_cases hq122 : r120 = (0 : Int32)
        · have c123 : Steps p.tables e below S0 (T120.setTop (mkF m 153 #[.val (.int p0), .val (.int p1), .val (.int p2), .val (.int p3), .val (.int p4), .val (.int (3 : Int32)), .val (.int ca), .val (.int cb), .val (.int cd), .val (.ref b83), .val (.ref b94), .val (.ref x101), .val (.int (0 : Int32))] [(.ref b94), (.ref x101)])) := c121.trans (by
            show Steps p.tables e below (T120.setTop (mkF m 132 #[.val (.int p0), .val (.int p1), .val (.int p2), .val (.int p3), .val (.int p4), .val (.int (3 : Int32)), .val (.int ca), .val (.int cb), .val (.int cd), .val (.ref b83), .val (.ref b94), .val (.ref x101), .unset] [(.int r120)])) _
            refine XS.ifYes X120.here hx rfl (pc0 := 132) (pc' := 139) rfl (hb hby at_132) rfl ((if0 _ _).trans (teq hq122).1) (by decide) (by decide) ?_
            show Steps p.tables e below (T120.setTop (mkF m 139 #[.val (.int p0), .val (.int p1), .val (.int p2), .val (.int p3), .val (.int p4), .val (.int (3 : Int32)), .val (.int ca), .val (.int cb), .val (.int cd), .val (.ref b83), .val (.ref b94), .val (.ref x101), .unset] [])) _
            refine XS.iconst X120.here hx rfl (hb hby at_139) ?_
            show Steps p.tables e below (T120.setTop (mkF m 140 #[.val (.int p0), .val (.int p1), .val (.int p2), .val (.int p3), .val (.int p4), .val (.int (3 : Int32)), .val (.int ca), .val (.int cb), .val (.int cd), .val (.ref b83), .val (.ref b94), .val (.ref x101), .unset] [(.int (0 : Int32))])) _
            refine XS.istore X120.here hx rfl (hb hby at_140) rfl (l' := #[.val (.int p0), .val (.int p1), .val (.int p2), .val (.int p3), .val (.int p4), .val (.int (3 : Int32)), .val (.int ca), .val (.int cb), .val (.int cd), .val (.ref b83), .val (.ref b94), .val (.ref x101), .val (.int (0 : Int32))]) rfl ?_
            show Steps p.tables e below (T120.setTop (mkF m 142 #[.val (.int p0), .val (.int p1), .val (.int p2), .val (.int p3), .val (.int p4), .val (.int (3 : Int32)), .val (.int ca), .val (.int cb), .val (.int cd), .val (.ref b83), .val (.ref b94), .val (.ref x101), .val (.int (0 : Int32))] [])) _
            refine XS.iload X120.here hx rfl (hb hby at_142) rfl ?_
            show Steps p.tables e below (T120.setTop (mkF m 144 #[.val (.int p0), .val (.int p1), .val (.int p2), .val (.int p3), .val (.int p4), .val (.int (3 : Int32)), .val (.int ca), .val (.int cb), .val (.int cd), .val (.ref b83), .val (.ref b94), .val (.ref x101), .val (.int (0 : Int32))] [(.int (0 : Int32))])) _
            refine XS.ifYes X120.here hx rfl (pc0 := 144) (pc' := 149) rfl (hb hby at_144) rfl ((if0 _ _).trans (teq (by decide : ((0 : Int32) = (0 : Int32)))).1) (by decide) (by decide) ?_
            show Steps p.tables e below (T120.setTop (mkF m 149 #[.val (.int p0), .val (.int p1), .val (.int p2), .val (.int p3), .val (.int p4), .val (.int (3 : Int32)), .val (.int ca), .val (.int cb), .val (.int cd), .val (.ref b83), .val (.ref b94), .val (.ref x101), .val (.int (0 : Int32))] [])) _
            refine XS.aload X120.here hx rfl (hb hby at_149) rfl rfl ?_
            show Steps p.tables e below (T120.setTop (mkF m 151 #[.val (.int p0), .val (.int p1), .val (.int p2), .val (.int p3), .val (.int p4), .val (.int (3 : Int32)), .val (.int ca), .val (.int cb), .val (.int cd), .val (.ref b83), .val (.ref b94), .val (.ref x101), .val (.int (0 : Int32))] [(.ref x101)])) _
            refine XS.aload X120.here hx rfl (hb hby at_151) rfl rfl ?_
            exact Steps.refl _)
          have Sob94 : OStr Z T101.heap b94 t98 _ ([(nar .char ca), (nar .char cb), (nar .char cd)] : List Int32) := ⟨(Ex98.keep Kq101), (Fv98.keep Kq101 nin0), (Fc98.keep Kq101 nin0), (Va98.keep Kq101 nin0), hp97, Nat.le_of_ble_eq_true rfl⟩
          have nwb94 : ¬ own_ws ((([(nar .char ca), (nar .char cb), (nar .char cd)] : List Int32)).getD 2 0) := by
            show ¬ own_ws (nar .char cd)
            rw [own_nar h8cd]; exact own_n hr120 hq122
          obtain ⟨_, _, ⟨T124, L124, kk124, nn124⟩, -, X124, ⟨Lc124, hQ124, l124, y124, z124⟩, st124⟩ := Jvm.LawKit.callS X120 hx (y := (⟨"com/example/luovutus/luovutus/transfer/ValueForms", "requireNotBlank", "(Ljava/lang/String;Ljava/lang/String;)V"⟩ : MethodName)) hown (mvT hZ (hw _ (List.mem_of_getElem? (i := 48) rfl))) (mvT hZ (hw _ (List.mem_of_getElem? (i := 49) rfl))) (mvT hZ (hw _ (List.mem_of_getElem? (i := 50) rfl))) (mvT hZ (hw _ (List.mem_of_getElem? (i := 51) rfl))) (by decide) (backOf (W := 0) (rmRB l Z a0 hw [] x101 b94 t98 _ ([(nar .char ca), (nar .char cb), (nar .char cd)] : List Int32) 2 ci aA G1 T101.heap n0 z101 Sob94 (Nat.le_of_ble_eq_true rfl) nwb94 sI xI sA hA O2 P5 (((((((X00.ext E83).wr W86 (Nat.le_trans Z0 (Nat.le_trans K0.1 (Nat.le_of_eq g83.symm)))).wr W89 (Nat.le_trans Z0 (Nat.le_trans K0.1 (Nat.le_of_eq g83.symm)))).wr W92 (Nat.le_trans Z0 (Nat.le_trans K0.1 (Nat.le_of_eq g83.symm)))).ext E94).keep Kq98 (allS (Nat.le_trans Z0 (Nat.le_trans K92.1 (Nat.le_of_eq g94.symm))) all0)).keep Kq101 all0)) hZ (hw _ (List.mem_of_getElem? (i := 51) rfl)) (hw _ (List.mem_of_getElem? (i := 50) rfl)) (by decide) (by decide)) (g := (mkF m 153 #[.val (.int p0), .val (.int p1), .val (.int p2), .val (.int p3), .val (.int p4), .val (.int (3 : Int32)), .val (.int ca), .val (.int cb), .val (.int cd), .val (.ref b83), .val (.ref b94), .val (.ref x101), .val (.int (0 : Int32))] [(.ref b94), (.ref x101)])) rfl (by rw [hml]; rfl) (argsL := [(.ref x101), (.ref b94)]) (rest := []) (lenOf pd_oLjavaslangsStringeLjavaslangsStringecV rfl) rfl (by show 2 * 0 + _ ≤ _; exact Nat.le_of_eq rfl) (hb hby at_153) (fun _ _ => ⟨rfl, eq120, (by decide : 5 + 0 ≤ _), (by decide : 15 + 0 ≤ _)⟩)
          dsimp only [Pt.U, Pt.locs, Pt.cells, Pt.slots] at X124 l124 y124 z124 st124 hQ124
          subst l124 y124 z124
          obtain ⟨rfl, Nq124, eq124⟩ := hQ124
          have c125 : Steps p.tables e below S0 (T124.setTop (mkF m 156 #[.val (.int p0), .val (.int p1), .val (.int p2), .val (.int p3), .val (.int p4), .val (.int (3 : Int32)), .val (.int ca), .val (.int cb), .val (.int cd), .val (.ref b83), .val (.ref b94), .val (.ref x101), .val (.int (0 : Int32))] [])) := c123.trans (st124 _ (Steps.refl _))
          have N124 := Fr.app N120 Nq124
          have c126 : Steps p.tables e below S0 (T124.setTop (mkF m 157 #[.val (.int p0), .val (.int p1), .val (.int p2), .val (.int p3), .val (.int p4), .val (.int (3 : Int32)), .val (.int ca), .val (.int cb), .val (.int cd), .val (.ref b83), .val (.ref b94), .val (.ref x101), .val (.int (0 : Int32))] [(.int (1 : Int32))])) := c125.trans (by
            show Steps p.tables e below (T124.setTop (mkF m 156 #[.val (.int p0), .val (.int p1), .val (.int p2), .val (.int p3), .val (.int p4), .val (.int (3 : Int32)), .val (.int ca), .val (.int cb), .val (.int cd), .val (.ref b83), .val (.ref b94), .val (.ref x101), .val (.int (0 : Int32))] [])) _
            refine XS.iconst X124.here hx rfl (hb hby at_156) ?_
            exact Steps.refl _)
          obtain ⟨fs, hr, hrun, hended, hW⟩ := X124.leaveW hS0 (by rw [eq124]; exact (Nat.le_trans (Nat.zero_le _) (Nat.le_trans (Nat.le_trans (Nat.le_trans (Nat.le_trans (Nat.le_trans (Nat.le_trans E83.1 (Keep.of_wr W86).1) (Keep.of_wr W89).1) (Keep.of_wr W92).1) E94.1) Kq98.1) Kq101.1))) (v := some (.int (1 : Int32))) (fun h => by rw [Bd.returns] at h; cases h)
          refine ⟨_, _, c126.trans (retOut X124 hx Bd.returns rfl (Or.inl ⟨rfl, by simp, _, rfl⟩) (hb hby at_157) hr), hrun, hended, _, _, rfl, ?_, ?_, hW.1, hW.2.1, hW.2.2.1, hW.2.2.2.mono (by decide) (by decide)⟩
          · show Q0 Z  h0 n0 _ T124.heap _
            rw [eq124]
            exact ⟨rfl, N124⟩
          · show CHr Z EL s.vm s.heap T124.vm T124.heap
            rw [hh, eq124]; exact R101.trans (CHv.at X124 hZ hEL R101.1)
        · have c127 : Steps p.tables e below S0 (T120.setTop (mkF m 148 #[.val (.int p0), .val (.int p1), .val (.int p2), .val (.int p3), .val (.int p4), .val (.int (3 : Int32)), .val (.int ca), .val (.int cb), .val (.int cd), .val (.ref b83), .val (.ref b94), .val (.ref x101), .val (.int (1 : Int32))] [(.int (1 : Int32))])) := c121.trans (by
            show Steps p.tables e below (T120.setTop (mkF m 132 #[.val (.int p0), .val (.int p1), .val (.int p2), .val (.int p3), .val (.int p4), .val (.int (3 : Int32)), .val (.int ca), .val (.int cb), .val (.int cd), .val (.ref b83), .val (.ref b94), .val (.ref x101), .unset] [(.int r120)])) _
            refine XS.ifNo X120.here hx rfl (hb hby at_132) rfl ((if0 _ _).trans (feq hq122).1) ?_
            show Steps p.tables e below (T120.setTop (mkF m 135 #[.val (.int p0), .val (.int p1), .val (.int p2), .val (.int p3), .val (.int p4), .val (.int (3 : Int32)), .val (.int ca), .val (.int cb), .val (.int cd), .val (.ref b83), .val (.ref b94), .val (.ref x101), .unset] [])) _
            refine XS.iconst X120.here hx rfl (hb hby at_135) ?_
            show Steps p.tables e below (T120.setTop (mkF m 136 #[.val (.int p0), .val (.int p1), .val (.int p2), .val (.int p3), .val (.int p4), .val (.int (3 : Int32)), .val (.int ca), .val (.int cb), .val (.int cd), .val (.ref b83), .val (.ref b94), .val (.ref x101), .unset] [(.int (1 : Int32))])) _
            refine XS.goto X120.here hx rfl (pc0 := 136) (pc' := 140) rfl (hb hby at_136) (by decide) (by decide) ?_
            show Steps p.tables e below (T120.setTop (mkF m 140 #[.val (.int p0), .val (.int p1), .val (.int p2), .val (.int p3), .val (.int p4), .val (.int (3 : Int32)), .val (.int ca), .val (.int cb), .val (.int cd), .val (.ref b83), .val (.ref b94), .val (.ref x101), .unset] [(.int (1 : Int32))])) _
            refine XS.istore X120.here hx rfl (hb hby at_140) rfl (l' := #[.val (.int p0), .val (.int p1), .val (.int p2), .val (.int p3), .val (.int p4), .val (.int (3 : Int32)), .val (.int ca), .val (.int cb), .val (.int cd), .val (.ref b83), .val (.ref b94), .val (.ref x101), .val (.int (1 : Int32))]) rfl ?_
            show Steps p.tables e below (T120.setTop (mkF m 142 #[.val (.int p0), .val (.int p1), .val (.int p2), .val (.int p3), .val (.int p4), .val (.int (3 : Int32)), .val (.int ca), .val (.int cb), .val (.int cd), .val (.ref b83), .val (.ref b94), .val (.ref x101), .val (.int (1 : Int32))] [])) _
            refine XS.iload X120.here hx rfl (hb hby at_142) rfl ?_
            show Steps p.tables e below (T120.setTop (mkF m 144 #[.val (.int p0), .val (.int p1), .val (.int p2), .val (.int p3), .val (.int p4), .val (.int (3 : Int32)), .val (.int ca), .val (.int cb), .val (.int cd), .val (.ref b83), .val (.ref b94), .val (.ref x101), .val (.int (1 : Int32))] [(.int (1 : Int32))])) _
            refine XS.ifNo X120.here hx rfl (hb hby at_144) rfl ((if0 _ _).trans (feq (by decide : ¬ ((1 : Int32) = (0 : Int32)))).1) ?_
            show Steps p.tables e below (T120.setTop (mkF m 147 #[.val (.int p0), .val (.int p1), .val (.int p2), .val (.int p3), .val (.int p4), .val (.int (3 : Int32)), .val (.int ca), .val (.int cb), .val (.int cd), .val (.ref b83), .val (.ref b94), .val (.ref x101), .val (.int (1 : Int32))] [])) _
            refine XS.iconst X120.here hx rfl (hb hby at_147) ?_
            exact Steps.refl _)
          obtain ⟨fs, hr, hrun, hended, hW⟩ := X120.leaveW hS0 (by rw [eq120]; exact (Nat.le_trans (Nat.zero_le _) (Nat.le_trans (Nat.le_trans (Nat.le_trans (Nat.le_trans (Nat.le_trans (Nat.le_trans E83.1 (Keep.of_wr W86).1) (Keep.of_wr W89).1) (Keep.of_wr W92).1) E94.1) Kq98.1) Kq101.1))) (v := some (.int (1 : Int32))) (fun h => by rw [Bd.returns] at h; cases h)
          refine ⟨_, _, c127.trans (retOut X120 hx Bd.returns rfl (Or.inl ⟨rfl, by simp, _, rfl⟩) (hb hby at_148) hr), hrun, hended, _, _, rfl, ?_, ?_, hW.1, hW.2.1, hW.2.2.1, hW.2.2.2.mono (by decide) (by decide)⟩
          · show Q0 Z  h0 n0 _ T120.heap _
            rw [eq120]
            exact ⟨rfl, N120⟩
          · show CHr Z EL s.vm s.heap T120.vm T120.heap
            rw [hh, eq120]; exact R101.trans (CHv.at X120 hZ hEL R101.1)

theorem own_AOk {s : State} {args : Array Value} {aA : Addr} (ea : (Term.static "java/lang/CharacterDataLatin1" "A" "[I").eval args s none [] s = some (.ref aA)) (h : (Cond.arrayOf (.static "java/lang/CharacterDataLatin1" "A" "[I") .int).value args s none s [] = some true) (hs : ∀ d ∈ jdkStatics_1, d.before args s = true) : AOk s aA := by
  obtain ⟨cell, Ar⟩ := Arr.start ea h
  refine ⟨cell, Ar, fun i hi => ?_⟩
  have q := Cond.before_iff.mp (hs _ (List.mem_of_getElem? (own_row ⟨i, hi⟩)))
  obtain ⟨x, y, e1, e2, -⟩ := cmp_v (Or.inl q)
  obtain ⟨b1, b2⟩ := elem_in e1 ea (Term.int_eval _) Ar.1
  refine ⟨b1, ?_⟩
  rw [b2]
  simp only [Cond.value, e1, Term.int_eval] at q
  cases x <;> simp at q
  rw [q]

set_option maxRecDepth 65536 in
set_option maxHeartbeats 40000000 in
theorem comes_1 {Post : Tables → Env → Array Value → State → Outcome → State → Prop} (hpost : ∀ tb e args s v u, (limb_1_1.after args s (.returned v) u = true ∧ limb_1_2.after args s (.returned v) u = true ∧ True) → ReturnedEndW s (.returned v) u (Jvm.fieldLocs frame_1_writes args s ++ Jvm.arrayLocs frame_1_arrays args s ++ Jvm.staticLocs frame_1_statics s) 24 1152 → Post tb e args s (.returned v) u) :
    ArmFor flags0 classFile x code maxLocals ret World_1 tables_1 room_1 Calls_1 rest_1 Pre_1 Post := by
  intro l hfl _ _ p e ha hc hk s m args below hf hA hF happ hP
  obtain ⟨hcalls, hrest, hpre⟩ := hP
  obtain ⟨-, -, -, hnamed, -, -, -, hat⟩ := (Spec.applies_iff hf).mp happ
  obtain ⟨hg, hn⟩ := and_e (Cond.before_iff.mp (show (Jvm.Cond.and given_1 narrow_1).before args s = true from hpre))
  obtain ⟨hcnt, hr1⟩ := and_e hg
  obtain ⟨ga0, hr2⟩ := and_e hr1
  obtain ⟨ga1, hr3⟩ := and_e hr2
  obtain ⟨ga2, hr4⟩ := and_e hr3
  obtain ⟨ga3, hr5⟩ := and_e hr4
  obtain ⟨w0, w1, w2, w3, w4, rfl⟩ : ∃ w0 w1 w2 w3 w4 : Value, args = #[w0, w1, w2, w3, w4] := by
    have hs : args.size = 5 := by simpa [Cond.value, given_1] using hcnt
    obtain ⟨L⟩ := args
    match L, hs with
    | [w0, w1, w2, w3, w4], _ => exact ⟨w0, w1, w2, w3, w4, rfl⟩
  have hw := fun d (hd : d ∈ tables_1) => atoms_spec (ws := Jvm.Cond.code x code maxLocals ret :: tables_1) hat d (List.mem_cons_of_mem _ hd)
  have hfit : Fit s := fun {y c} hc i hi => by
    obtain ⟨ha, rfl⟩ := Array.getElem?_eq_some_iff.mp hc
    have q := List.all_eq_true.mp ((Array.all_eq_true_iff_forall_mem.mp hF) _ (Array.getElem_mem ha)) i (List.mem_range.mpr hi)
    simpa [Array.getElem?_eq_getElem hi] using q
  obtain ⟨hsets, hown0⟩ := atoms_of _ (rest_1_c_eq ▸ (show rest_1_c.before _ s = true from hrest))
  obtain ⟨i0, ei0⟩ := is_v ga0
  obtain rfl : w0 = (.int i0) := Option.some.inj ei0
  obtain ⟨i1, ei1⟩ := is_v ga1
  obtain rfl : w1 = (.int i1) := Option.some.inj ei1
  obtain ⟨i2, ei2⟩ := is_v ga2
  obtain rfl : w2 = (.int i2) := Option.some.inj ei2
  obtain ⟨i3, ei3⟩ := is_v ga3
  obtain rfl : w3 = (.int i3) := Option.some.inj ei3
  obtain ⟨i4, ei4⟩ := is_v hr5
  obtain rfl : w4 = (.int i4) := Option.some.inj ei4
  have n3 := not_v (Cond.before_iff.mp (hsets _ (List.mem_of_getElem? (i := 2) rfl)))
  obtain ⟨G1, eG1⟩ := is_v (Cond.before_iff.mp (hsets _ (List.mem_of_getElem? (i := 1) rfl)))
  have O2 : Sta s s.heap "java/lang/String" "COMPACT_STRINGS" "Z" (.int G1) := Sta.start eG1 (Or.inl (hsets _ (List.mem_of_getElem? (i := 0) rfl)))
  have P5 : ¬ (G1 = (0 : Int32)) := gotF (Cond.eq_ints eG1 (Term.int_eval (0))) n3
  obtain ⟨ci, eci⟩ := exa_v (Cond.before_iff.mp (hsets _ (List.mem_of_getElem? (i := 11) rfl)))
  have sI : Sta s s.heap "java/lang/CharacterDataLatin1" "instance" "Ljava/lang/CharacterDataLatin1;" (.ref ci) := Sta.start eci (Or.inl (hsets _ (List.mem_of_getElem? (i := 10) rfl)))
  have xI : Exa s s.heap ci "java/lang/CharacterDataLatin1" := Exa.start eci (Cond.before_iff.mp (hsets _ (List.mem_of_getElem? (i := 11) rfl)))
  obtain ⟨aA, eaA⟩ := arr_v (Cond.before_iff.mp (hsets _ (List.mem_of_getElem? (i := 14) rfl)))
  have sA : Sta s s.heap "java/lang/CharacterDataLatin1" "A" "[I" (.ref aA) := Sta.start eaA (Or.inl (hsets _ (List.mem_of_getElem? (i := 13) rfl)))
  have hA : AOk s aA := own_AOk eaA (Cond.before_iff.mp (hsets _ (List.mem_of_getElem? (i := 14) rfl))) hsets
  obtain ⟨n, o, h1, h2, h3, _, L, rfl, ⟨rfl, N⟩, -, hq⟩ := rm0 l s _ hw tables_1 i0 i1 i2 i3 i4 ci aA G1 s.heap s.heap.size (Nat.le_refl _) sI xI sA hA O2 P5 (Old.start s) p e ha hc hk s m _ below hf ((Spec.applies_iff_loose hf).mp happ).1 ⟨rfl, State.Warmed39.refl s, rfl, own_CH hw hcalls.1 (hsets _ (List.mem_of_getElem? (i := 2) rfl))⟩ trivial
  refine ⟨n, _, h1, h2, h3, hpost _ _ _ _ _ _ ⟨Cond.after_iff.mpr rfl, Cond.after_iff.mpr (eq_i res_at (Term.int_eval (1)) rfl), trivial⟩ ⟨hq.1, hq.2.1, hq.2.2.1, (hq.2.2.2.sift fun y hy => Or.inr (N y hy)).mono (by decide) (by decide)⟩⟩
theorem main_1_1 : Claimed_1_1 := comes_1 fun _ _ _ _ _ _ h hF => ⟨h.1, hF⟩
theorem main_1_2 : Claimed_1_2 := comes_1 fun _ _ _ _ _ _ h hF => ⟨h.2.1, hF⟩
end Jvm.Pilot.@@N@@
namespace Jvm.Pilot.@@N@@
open Jvm Jvm.ClassFile Sem Op Lib Jvm.Free Jvm.Stand Jvm.Pilot.@@N@@.Jvm.D
/-! MADE BY PROGRAM (witnessworld.py) out of the Statement's table words and the real class files: 21 classes; the members and pool entries that the words name. The judged class is class 1, her method 2. -/
namespace start1
open Jvm.ClassFile
def u (s : String) : CpInfo := .utf8 (stringToUtf16 s)
/-- a pool by its gaps: so many unusable entries, then the entry; so many at the end -/
def gap : Nat → List CpInfo → List CpInfo
  | 0, r => r
  | n + 1, r => .unusable :: gap n r
def poolList (es : List (Nat × CpInfo)) (last : Nat) : List CpInfo := es.foldr (fun e r => gap e.1 (e.2 :: r)) (gap last [])
def pool (es : List (Nat × CpInfo)) (last : Nat) : Array CpInfo := ⟨poolList es last⟩
def fileOf (pool : Array CpInfo) (this : Nat) (attrs : Array Attribute := #[]) (ms : Array MethodInfo := #[]) (fl : Nat := 33) (sup : Nat := 0) (ifs : Array Nat := #[]) (fds : Array FieldInfo := #[]) : ClassFile where
  minorVersion := 0
  majorVersion := 65
  constantPool := pool
  accessFlags := fl
  thisClass := this
  superClass := sup
  interfaces := ifs
  fields := fds
  methods := ms
  attributes := attrs
def plain (name : String) (sup : Option ClassId) : Class where
  name := name
  kind := .ordinary
  loader := none
  accessFlags := 33
  super := sup
  interfaces := #[]
  cf := none
  fields := #[]
  methods := #[]
  instanceTypes := #[]
  staticTypes := #[]
  resolved := #[]
  callSites := []
  init := .initialized
  statics := none
  mirror := none

def pool0 : Array CpInfo := pool [(5, u "<init>"), (0, u "()V"), (1, .class_ 10), (1, u "java/lang/Object")] 113

def k0c0 : Code := { maxStack := 0, maxLocals := 1, code := object_method_1_code, exceptionTable := #[], attributes := #[] }
def k0m0 : Method := { name := "<init>", desc := "()V", sig := { parameters := [], returnType := none }, accessFlags := 1, code := some k0c0 }
/-- java/lang/Object -/
def k0 : Class := { plain "java/lang/Object" none with
  accessFlags := 33
  interfaces := #[]
  cf := some (fileOf pool0 8 #[] #[{ accessFlags := 1, nameIndex := 5, descriptorIndex := 6, attributes := #[] }] 33 0 #[] #[])
  fields := #[]
  methods := #[k0m0]
  instanceTypes := #[]
  staticTypes := #[]
  resolved := Array.replicate 124 none
  statics := none }

def pool1 : Array CpInfo := pool [(2, .class_ 4), (1, u "java/lang/Object"), (0, u "<init>"), (0, u "()V"), (0, .class_ 8), (0, u "java/lang/String"), (0, .methodref 7 10), (0, .nameAndType 5 11), (0, u "([C)V"), (0, .methodref 7 13), (0, .nameAndType 14 15), (0, u "valueOf"), (0, u "(C)Ljava/lang/String;"), (0, .methodref 17 18), (0, .class_ 19), (0, .nameAndType 20 21), (0, u "com/example/luovutus/luovutus/transfer/ValueFormsRequireNotBlankPinLaw"), (0, u "ws"), (0, u "(C)Z"), (0, .methodref 23 24), (0, .class_ 25), (0, .nameAndType 26 27), (0, u "com/example/luovutus/luovutus/transfer/ValueForms"), (0, u "requireNotBlank"), (0, u "(Ljava/lang/String;Ljava/lang/String;)V"), (3, u "law"), (0, u "(IIIII)Z")] 4

def k1m0 : Method := { name := "<init>", desc := "()V", sig := { parameters := [], returnType := none }, accessFlags := 2, code := none }
def k1c1 : Code := { maxStack := 2, maxLocals := 1, code := method_2_code, exceptionTable := #[], attributes := #[] }
def k1m1 : Method := { name := "ws", desc := "(C)Z", sig := { parameters := [.char], returnType := some .boolean }, accessFlags := 10, code := some k1c1 }
def k1c2 : Code := { maxStack := 3, maxLocals := 13, code := code, exceptionTable := #[], attributes := #[] }
def k1m2 : Method := { name := "law", desc := "(IIIII)Z", sig := { parameters := [.int, .int, .int, .int, .int], returnType := some .boolean }, accessFlags := 9, code := some k1c2 }
/-- com/example/luovutus/luovutus/transfer/ValueFormsRequireNotBlankPinLaw -/
def k1 : Class := { plain "com/example/luovutus/luovutus/transfer/ValueFormsRequireNotBlankPinLaw" (some 0) with
  accessFlags := 49
  interfaces := #[]
  cf := some (fileOf pool1 17 #[] #[{ accessFlags := 2, nameIndex := 5, descriptorIndex := 6, attributes := #[] }, { accessFlags := 10, nameIndex := 20, descriptorIndex := 21, attributes := #[] }, { accessFlags := 9, nameIndex := 31, descriptorIndex := 32, attributes := #[] }] 49 2 #[] #[])
  fields := #[]
  methods := #[k1m0, k1m1, k1m2]
  instanceTypes := #[]
  staticTypes := #[]
  resolved := Array.replicate 37 none
  statics := none }

def pool2 : Array CpInfo := pool [(1, .class_ 2), (0, u "java/io/Serializable"), (0, .class_ 4), (0, u "java/lang/Object")] 2

/-- java/io/Serializable -/
def k2 : Class := { plain "java/io/Serializable" (some 0) with
  accessFlags := 1537
  interfaces := #[]
  cf := some (fileOf pool2 1 #[] #[] 1537 3 #[] #[])
  fields := #[]
  methods := #[]
  instanceTypes := #[]
  staticTypes := #[]
  resolved := Array.replicate 7 none
  statics := none }

def pool3 : Array CpInfo := pool [(1, .class_ 2), (0, u "java/lang/Comparable"), (0, .class_ 4), (0, u "java/lang/Object")] 7

/-- java/lang/Comparable -/
def k3 : Class := { plain "java/lang/Comparable" (some 0) with
  accessFlags := 1537
  interfaces := #[]
  cf := some (fileOf pool3 1 #[] #[] 1537 3 #[] #[])
  fields := #[]
  methods := #[]
  instanceTypes := #[]
  staticTypes := #[]
  resolved := Array.replicate 12 none
  statics := none }

def pool4 : Array CpInfo := pool [(2, .class_ 4), (1, u "java/lang/CharSequence"), (42, .class_ 48), (0, u "java/lang/CharSequence$1CodePointIterator"), (10, .class_ 60), (0, u "java/lang/CharSequence$1CharIterator"), (5, .class_ 67), (0, u "java/lang/Object")] 63

/-- java/lang/CharSequence -/
def k4 : Class := { plain "java/lang/CharSequence" (some 0) with
  accessFlags := 1537
  interfaces := #[]
  cf := some (fileOf pool4 2 #[.nestMembers #[47, 59]] #[] 1537 66 #[] #[])
  fields := #[]
  methods := #[]
  instanceTypes := #[]
  staticTypes := #[]
  resolved := Array.replicate 131 none
  statics := none }

def pool5 : Array CpInfo := pool [(1, .class_ 2), (0, u "java/lang/constant/Constable"), (0, .class_ 4), (0, u "java/lang/Object")] 6

/-- java/lang/constant/Constable -/
def k5 : Class := { plain "java/lang/constant/Constable" (some 0) with
  accessFlags := 1537
  interfaces := #[]
  cf := some (fileOf pool5 1 #[] #[] 1537 3 #[] #[])
  fields := #[]
  methods := #[]
  instanceTypes := #[]
  staticTypes := #[]
  resolved := Array.replicate 11 none
  statics := none }

def pool6 : Array CpInfo := pool [(1, .class_ 2), (0, u "java/lang/constant/ConstantDesc"), (0, .class_ 4), (0, u "java/lang/Object")] 32

/-- java/lang/constant/ConstantDesc -/
def k6 : Class := { plain "java/lang/constant/ConstantDesc" (some 0) with
  accessFlags := 1537
  interfaces := #[]
  cf := some (fileOf pool6 1 #[] #[] 1537 3 #[] #[])
  fields := #[]
  methods := #[]
  instanceTypes := #[]
  staticTypes := #[]
  resolved := Array.replicate 37 none
  statics := none }

def pool7 : Array CpInfo := pool [(1, .methodref 2 3), (0, .class_ 4), (0, .nameAndType 5 6), (0, u "java/lang/Object"), (0, u "<init>"), (0, u "()V"), (0, .string 8), (0, u ""), (0, .fieldref 10 11), (0, .class_ 12), (0, .nameAndType 13 14), (0, u "java/lang/String"), (0, u "value"), (0, u "[B"), (0, .fieldref 10 16), (0, .nameAndType 17 18), (0, u "coder"), (0, u "B"), (2, u "hash"), (0, u "I"), (2, u "hashIsZero"), (0, u "Z"), (0, .methodref 10 28), (0, .nameAndType 5 29), (0, u "([CIILjava/lang/Void;)V"), (8, .fieldref 10 39), (0, .nameAndType 40 26), (0, u "COMPACT_STRINGS"), (1, .class_ 44), (1, u "java/lang/StringUTF16"), (0, u "compress"), (1, .methodref 42 48), (0, .nameAndType 49 50), (0, u "coderFromArrayLen"), (0, u "([BI)B"), (2, u "toBytes"), (53, .class_ 109), (1, u "java/lang/StringLatin1"), (32, u "()Z"), (34, .methodref 42 178), (0, .nameAndType 45 179), (0, u "([CII)[B"), (29, .methodref 10 210), (0, .nameAndType 5 211), (0, u "([BB)V"), (122, u "()I"), (0, .methodref 10 336), (0, .nameAndType 17 337), (0, u "()B"), (31, u "(C)Z"), (122, .methodref 10 493), (0, .nameAndType 494 142), (0, u "isLatin1"), (10, .methodref 10 506), (0, .nameAndType 507 334), (0, u "length"), (67, .class_ 576), (0, u "java/lang/CharSequence"), (22, u "CASE_INSENSITIVE_ORDER"), (0, u "Ljava/util/Comparator;"), (30, u "([B)I"), (150, u "valueOf"), (0, u "(C)Ljava/lang/String;"), (92, .methodref 10 877), (0, .nameAndType 878 334), (0, u "indexOfNonWhitespace"), (45, .methodref 107 925), (0, .nameAndType 878 631), (26, u "isBlank"), (57, u "([C)V"), (4, .methodref 107 1016), (0, .nameAndType 1017 369), (0, u "canEncode"), (0, .methodref 107 1019), (0, .nameAndType 53 1020), (0, u "(C)[B"), (80, u "serialPersistentFields"), (0, u "[Ljava/io/ObjectStreamField;"), (0, .class_ 1104), (0, u "java/lang/String$CaseInsensitiveComparator"), (1, .class_ 1107), (0, u "java/io/Serializable"), (0, .class_ 1109), (0, u "java/lang/Comparable"), (0, .class_ 1111), (0, u "java/lang/constant/Constable"), (0, .class_ 1113), (0, u "java/lang/constant/ConstantDesc"), (2, u "serialVersionUID"), (0, u "J"), (3, u "REPL"), (0, u "C"), (2, u "LATIN1"), (1, u "UTF16")] 323

def k7m0 : Method := { name := "<init>", desc := "()V", sig := { parameters := [], returnType := none }, accessFlags := 1, code := none }
def k7c1 : Code := { maxStack := 5, maxLocals := 2, code := jdk_42_method_3_code, exceptionTable := #[], attributes := #[] }
def k7m1 : Method := { name := "<init>", desc := "([C)V", sig := { parameters := [(.array .char)], returnType := none }, accessFlags := 1, code := some k7c1 }
def k7c2 : Code := { maxStack := 2, maxLocals := 1, code := jdk_42_method_54_code, exceptionTable := #[], attributes := #[] }
def k7m2 : Method := { name := "length", desc := "()I", sig := { parameters := [], returnType := some .int }, accessFlags := 1, code := some k7c2 }
def k7c3 : Code := { maxStack := 2, maxLocals := 1, code := jdk_42_method_117_code, exceptionTable := #[], attributes := #[] }
def k7m3 : Method := { name := "isBlank", desc := "()Z", sig := { parameters := [], returnType := some .boolean }, accessFlags := 1, code := some k7c3 }
def k7c4 : Code := { maxStack := 1, maxLocals := 1, code := jdk_42_method_120_code, exceptionTable := #[], attributes := #[] }
def k7m4 : Method := { name := "indexOfNonWhitespace", desc := "()I", sig := { parameters := [], returnType := some .int }, accessFlags := 2, code := some k7c4 }
def k7c5 : Code := { maxStack := 4, maxLocals := 1, code := jdk_42_method_139_code, exceptionTable := #[], attributes := #[] }
def k7m5 : Method := { name := "valueOf", desc := "(C)Ljava/lang/String;", sig := { parameters := [.char], returnType := some (.object "java/lang/String") }, accessFlags := 9, code := some k7c5 }
def k7c6 : Code := { maxStack := 4, maxLocals := 6, code := jdk_42_method_149_code, exceptionTable := #[], attributes := #[] }
def k7m6 : Method := { name := "<init>", desc := "([CIILjava/lang/Void;)V", sig := { parameters := [(.array .char), .int, .int, (.object "java/lang/Void")], returnType := none }, accessFlags := 2, code := some k7c6 }
def k7c7 : Code := { maxStack := 2, maxLocals := 3, code := jdk_42_method_151_code, exceptionTable := #[], attributes := #[] }
def k7m7 : Method := { name := "<init>", desc := "([BB)V", sig := { parameters := [(.array .byte), .byte], returnType := none }, accessFlags := 0, code := some k7c7 }
def k7c8 : Code := { maxStack := 1, maxLocals := 1, code := jdk_42_method_152_code, exceptionTable := #[], attributes := #[] }
def k7m8 : Method := { name := "coder", desc := "()B", sig := { parameters := [], returnType := some .byte }, accessFlags := 0, code := some k7c8 }
def k7c9 : Code := { maxStack := 1, maxLocals := 1, code := jdk_42_method_154_code, exceptionTable := #[], attributes := #[] }
def k7m9 : Method := { name := "isLatin1", desc := "()Z", sig := { parameters := [], returnType := some .boolean }, accessFlags := 0, code := some k7c9 }
/-- java/lang/String -/
def k7 : Class := { plain "java/lang/String" (some 0) with
  accessFlags := 49
  interfaces := #[2, 3, 4, 5, 6]
  cf := some (fileOf pool7 10 #[.nestMembers #[1103]] #[{ accessFlags := 1, nameIndex := 5, descriptorIndex := 6, attributes := #[] }, { accessFlags := 1, nameIndex := 5, descriptorIndex := 1010, attributes := #[] }, { accessFlags := 1, nameIndex := 507, descriptorIndex := 334, attributes := #[] }, { accessFlags := 1, nameIndex := 952, descriptorIndex := 142, attributes := #[] }, { accessFlags := 2, nameIndex := 878, descriptorIndex := 334, attributes := #[] }, { accessFlags := 9, nameIndex := 782, descriptorIndex := 783, attributes := #[] }, { accessFlags := 2, nameIndex := 5, descriptorIndex := 29, attributes := #[] }, { accessFlags := 0, nameIndex := 5, descriptorIndex := 211, attributes := #[] }, { accessFlags := 0, nameIndex := 17, descriptorIndex := 337, attributes := #[] }, { accessFlags := 0, nameIndex := 494, descriptorIndex := 142, attributes := #[] }] 49 2 #[1106, 1108, 575, 1110, 1112] #[{ accessFlags := 18, nameIndex := 13, descriptorIndex := 14, attributes := #[] }, { accessFlags := 18, nameIndex := 17, descriptorIndex := 18, attributes := #[] }, { accessFlags := 2, nameIndex := 21, descriptorIndex := 22, attributes := #[] }, { accessFlags := 2, nameIndex := 25, descriptorIndex := 26, attributes := #[] }, { accessFlags := 26, nameIndex := 1116, descriptorIndex := 1117, attributes := #[] }, { accessFlags := 24, nameIndex := 40, descriptorIndex := 26, attributes := #[] }, { accessFlags := 26, nameIndex := 1101, descriptorIndex := 1102, attributes := #[] }, { accessFlags := 26, nameIndex := 1121, descriptorIndex := 1122, attributes := #[] }, { accessFlags := 25, nameIndex := 599, descriptorIndex := 600, attributes := #[] }, { accessFlags := 24, nameIndex := 1125, descriptorIndex := 18, attributes := #[] }, { accessFlags := 24, nameIndex := 1127, descriptorIndex := 18, attributes := #[] }])
  fields := #[{ name := "value", type := (.array .byte), accessFlags := 18, slot := 0, constantValue := 0 }, { name := "coder", type := .byte, accessFlags := 18, slot := 1, constantValue := 0 }, { name := "hash", type := .int, accessFlags := 2, slot := 2, constantValue := 0 }, { name := "hashIsZero", type := .boolean, accessFlags := 2, slot := 3, constantValue := 0 }, { name := "serialVersionUID", type := .long, accessFlags := 26, slot := 0, constantValue := 0 }, { name := "COMPACT_STRINGS", type := .boolean, accessFlags := 24, slot := 1, constantValue := 0 }, { name := "serialPersistentFields", type := (.array (.object "java/io/ObjectStreamField")), accessFlags := 26, slot := 2, constantValue := 0 }, { name := "REPL", type := .char, accessFlags := 26, slot := 3, constantValue := 0 }, { name := "CASE_INSENSITIVE_ORDER", type := (.object "java/util/Comparator"), accessFlags := 25, slot := 4, constantValue := 0 }, { name := "LATIN1", type := .byte, accessFlags := 24, slot := 5, constantValue := 0 }, { name := "UTF16", type := .byte, accessFlags := 24, slot := 6, constantValue := 0 }]
  methods := #[k7m0, k7m1, k7m2, k7m3, k7m4, k7m5, k7m6, k7m7, k7m8, k7m9]
  instanceTypes := #[(.array .byte), .byte, .int, .boolean]
  staticTypes := #[.long, .boolean, (.array (.object "java/io/ObjectStreamField")), .char, (.object "java/util/Comparator"), .byte, .byte]
  resolved := Array.replicate 1451 none
  statics := some 0 }

def pool8 : Array CpInfo := pool [(6, .class_ 8), (1, u "java/lang/Object"), (0, u "<init>"), (0, u "()V"), (1, .class_ 14), (1, u "java/lang/StringUTF16"), (31, u "$assertionsDisabled"), (0, u "Z"), (13, u "HI_BYTE_SHIFT"), (0, u "I"), (2, u "LO_BYTE_SHIFT"), (49, .methodref 12 116), (0, .nameAndType 117 118), (0, u "compress"), (0, u "([CI[BII)I"), (3, u "([CII)[B"), (138, u "coderFromArrayLen"), (0, u "([BI)B"), (106, .class_ 371), (1, u "java/lang/StringUTF16$LinesSpliterator"), (58, u "MAX_LENGTH"), (196, .class_ 628), (0, u "java/lang/StringUTF16$CodePointsSpliterator"), (0, .class_ 630), (0, u "java/lang/StringUTF16$CharsSpliterator")] 4

def k8m0 : Method := { name := "<init>", desc := "()V", sig := { parameters := [], returnType := none }, accessFlags := 0, code := none }
def k8c1 : Code := { maxStack := 2, maxLocals := 2, code := jdk_52_method_15_code, exceptionTable := #[], attributes := #[] }
def k8m1 : Method := { name := "coderFromArrayLen", desc := "([BI)B", sig := { parameters := [(.array .byte), .int], returnType := some .byte }, accessFlags := 8, code := some k8c1 }
def k8c2 : Code := { maxStack := 5, maxLocals := 6, code := jdk_52_method_16_code, exceptionTable := #[], attributes := #[] }
def k8m2 : Method := { name := "compress", desc := "([CII)[B", sig := { parameters := [(.array .char), .int, .int], returnType := some (.array .byte) }, accessFlags := 9, code := some k8c2 }
def k8c3 : Code := { maxStack := 3, maxLocals := 7, code := jdk_52_method_21_code, exceptionTable := #[], attributes := #[] }
def k8m3 : Method := { name := "compress", desc := "([CI[BII)I", sig := { parameters := [(.array .char), .int, (.array .byte), .int, .int], returnType := some .int }, accessFlags := 9, code := some k8c3 }
/-- java/lang/StringUTF16 -/
def k8 : Class := { plain "java/lang/StringUTF16" (some 0) with
  accessFlags := 48
  interfaces := #[]
  cf := some (fileOf pool8 12 #[.nestMembers #[627, 629, 369]] #[{ accessFlags := 0, nameIndex := 9, descriptorIndex := 10, attributes := #[] }, { accessFlags := 8, nameIndex := 261, descriptorIndex := 262, attributes := #[] }, { accessFlags := 9, nameIndex := 117, descriptorIndex := 122, attributes := #[] }, { accessFlags := 9, nameIndex := 117, descriptorIndex := 118, attributes := #[] }] 48 6 #[] #[{ accessFlags := 26, nameIndex := 61, descriptorIndex := 62, attributes := #[] }, { accessFlags := 26, nameIndex := 65, descriptorIndex := 62, attributes := #[] }, { accessFlags := 24, nameIndex := 430, descriptorIndex := 62, attributes := #[] }, { accessFlags := 4120, nameIndex := 46, descriptorIndex := 47, attributes := #[] }])
  fields := #[{ name := "HI_BYTE_SHIFT", type := .int, accessFlags := 26, slot := 0, constantValue := 0 }, { name := "LO_BYTE_SHIFT", type := .int, accessFlags := 26, slot := 1, constantValue := 0 }, { name := "MAX_LENGTH", type := .int, accessFlags := 24, slot := 2, constantValue := 0 }, { name := "$assertionsDisabled", type := .boolean, accessFlags := 4120, slot := 3, constantValue := 0 }]
  methods := #[k8m0, k8m1, k8m2, k8m3]
  instanceTypes := #[]
  staticTypes := #[.int, .int, .int, .boolean]
  resolved := Array.replicate 635 none
  statics := none }

def pool9 : Array CpInfo := pool [(4, .class_ 6), (1, u "java/lang/Object"), (0, u "<init>"), (0, u "()V"), (5, .class_ 16), (1, u "java/lang/StringLatin1"), (33, .methodref 14 51), (0, .nameAndType 52 53), (0, u "getChar"), (0, u "([BI)C"), (3, u "([B)I"), (8, .fieldref 67 68), (0, .class_ 69), (0, .nameAndType 70 71), (0, u "java/lang/CharacterDataLatin1"), (0, u "instance"), (0, u "Ljava/lang/CharacterDataLatin1;"), (18, u "canEncode"), (0, u "(I)Z"), (13, u "(C)Z"), (15, u "$assertionsDisabled"), (0, u "Z"), (88, .methodref 67 212), (0, .nameAndType 213 91), (0, u "isWhitespace"), (2, u "indexOfNonWhitespace"), (4, .class_ 223), (1, u "java/lang/StringLatin1$LinesSpliterator"), (156, u "toBytes"), (1, u "(C)[B"), (7, .class_ 391), (0, u "java/lang/StringLatin1$CharsSpliterator")] 3

def k9m0 : Method := { name := "<init>", desc := "()V", sig := { parameters := [], returnType := none }, accessFlags := 0, code := none }
def k9c1 : Code := { maxStack := 2, maxLocals := 1, code := jdk_43_method_3_code, exceptionTable := #[], attributes := #[] }
def k9m1 : Method := { name := "canEncode", desc := "(C)Z", sig := { parameters := [.char], returnType := some .boolean }, accessFlags := 9, code := some k9c1 }
def k9c2 : Code := { maxStack := 2, maxLocals := 4, code := jdk_43_method_37_code, exceptionTable := #[], attributes := #[] }
def k9m2 : Method := { name := "indexOfNonWhitespace", desc := "([B)I", sig := { parameters := [(.array .byte)], returnType := some .int }, accessFlags := 9, code := some k9c2 }
def k9c3 : Code := { maxStack := 2, maxLocals := 2, code := jdk_43_method_44_code, exceptionTable := #[], attributes := #[] }
def k9m3 : Method := { name := "getChar", desc := "([BI)C", sig := { parameters := [(.array .byte), .int], returnType := some .char }, accessFlags := 9, code := some k9c3 }
def k9c4 : Code := { maxStack := 4, maxLocals := 1, code := jdk_43_method_46_code, exceptionTable := #[], attributes := #[] }
def k9m4 : Method := { name := "toBytes", desc := "(C)[B", sig := { parameters := [.char], returnType := some (.array .byte) }, accessFlags := 9, code := some k9c4 }
/-- java/lang/StringLatin1 -/
def k9 : Class := { plain "java/lang/StringLatin1" (some 0) with
  accessFlags := 48
  interfaces := #[]
  cf := some (fileOf pool9 14 #[.nestMembers #[390, 221]] #[{ accessFlags := 0, nameIndex := 7, descriptorIndex := 8, attributes := #[] }, { accessFlags := 9, nameIndex := 90, descriptorIndex := 105, attributes := #[] }, { accessFlags := 9, nameIndex := 216, descriptorIndex := 57, attributes := #[] }, { accessFlags := 9, nameIndex := 52, descriptorIndex := 53, attributes := #[] }, { accessFlags := 9, nameIndex := 380, descriptorIndex := 382, attributes := #[] }] 48 4 #[] #[{ accessFlags := 4120, nameIndex := 121, descriptorIndex := 122, attributes := #[] }])
  fields := #[{ name := "$assertionsDisabled", type := .boolean, accessFlags := 4120, slot := 0, constantValue := 0 }]
  methods := #[k9m0, k9m1, k9m2, k9m3, k9m4]
  instanceTypes := #[]
  staticTypes := #[.boolean]
  resolved := Array.replicate 395 none
  statics := none }

def pool10 : Array CpInfo := pool [(2, .class_ 4), (1, u "java/lang/Object"), (0, u "<init>"), (0, u "()V"), (1, .class_ 10), (1, u "com/example/luovutus/luovutus/transfer/ValueForms"), (0, u "OID_URN"), (0, u "Ljava/util/regex/Pattern;"), (11, u "()Z"), (11, u "UUID"), (1, .methodref 39 40), (0, .class_ 41), (0, .nameAndType 42 24), (0, u "java/lang/String"), (0, u "isBlank"), (14, u "(Ljava/lang/String;Ljava/lang/String;)V"), (2, u "requireNotBlank")] 22

def k10m0 : Method := { name := "<init>", desc := "()V", sig := { parameters := [], returnType := none }, accessFlags := 2, code := none }
def k10c1 : Code := { maxStack := 3, maxLocals := 2, code := prog_22_method_4_code, exceptionTable := #[], attributes := #[] }
def k10m1 : Method := { name := "requireNotBlank", desc := "(Ljava/lang/String;Ljava/lang/String;)V", sig := { parameters := [(.object "java/lang/String"), (.object "java/lang/String")], returnType := none }, accessFlags := 8, code := some k10c1 }
/-- com/example/luovutus/luovutus/transfer/ValueForms -/
def k10 : Class := { plain "com/example/luovutus/luovutus/transfer/ValueForms" (some 0) with
  accessFlags := 48
  interfaces := #[]
  cf := some (fileOf pool10 8 #[] #[{ accessFlags := 2, nameIndex := 5, descriptorIndex := 6, attributes := #[] }, { accessFlags := 8, nameIndex := 60, descriptorIndex := 57, attributes := #[] }] 48 2 #[] #[{ accessFlags := 26, nameIndex := 11, descriptorIndex := 12, attributes := #[] }, { accessFlags := 26, nameIndex := 36, descriptorIndex := 12, attributes := #[] }])
  fields := #[{ name := "OID_URN", type := (.object "java/util/regex/Pattern"), accessFlags := 26, slot := 0, constantValue := 0 }, { name := "UUID", type := (.object "java/util/regex/Pattern"), accessFlags := 26, slot := 1, constantValue := 0 }]
  methods := #[k10m0, k10m1]
  instanceTypes := #[]
  staticTypes := #[(.object "java/util/regex/Pattern"), (.object "java/util/regex/Pattern")]
  resolved := Array.replicate 83 none
  statics := none }

def pool11 : Array CpInfo := pool [(2, .class_ 4), (1, u "java/lang/Object"), (0, u "<init>"), (0, u "()V"), (1, .class_ 10), (1, u "java/lang/CharacterData")] 75

def k11m0 : Method := { name := "<init>", desc := "()V", sig := { parameters := [], returnType := none }, accessFlags := 0, code := none }
/-- java/lang/CharacterData -/
def k11 : Class := { plain "java/lang/CharacterData" (some 0) with
  accessFlags := 1056
  interfaces := #[]
  cf := some (fileOf pool11 8 #[] #[{ accessFlags := 0, nameIndex := 5, descriptorIndex := 6, attributes := #[] }] 1056 2 #[] #[])
  fields := #[]
  methods := #[k11m0]
  instanceTypes := #[]
  staticTypes := #[]
  resolved := Array.replicate 86 none
  statics := none }

def pool12 : Array CpInfo := pool [(1, .fieldref 2 3), (0, .class_ 4), (0, .nameAndType 5 6), (0, u "java/lang/CharacterDataLatin1"), (0, u "A"), (0, u "[I"), (2, u "B"), (0, u "[C"), (3, u "(I)I"), (0, .methodref 2 16), (0, .nameAndType 17 14), (0, u "getProperties"), (3, u "(I)Z"), (5, u "DIGITS"), (0, u "[B"), (8, u "sharpsMap"), (1, .class_ 41), (1, u "java/lang/CharacterData"), (0, u "<init>"), (0, u "()V"), (3, u "instance"), (0, u "Ljava/lang/CharacterDataLatin1;"), (78, u "isWhitespace")] 13

def k12c0 : Code := { maxStack := 2, maxLocals := 4, code := jdk_116_method_1_code, exceptionTable := #[], attributes := #[] }
def k12m0 : Method := { name := "getProperties", desc := "(I)I", sig := { parameters := [.int], returnType := some .int }, accessFlags := 0, code := some k12c0 }
def k12c1 : Code := { maxStack := 2, maxLocals := 3, code := jdk_116_method_26_code, exceptionTable := #[], attributes := #[] }
def k12m1 : Method := { name := "isWhitespace", desc := "(I)Z", sig := { parameters := [.int], returnType := some .boolean }, accessFlags := 0, code := some k12c1 }
def k12m2 : Method := { name := "<init>", desc := "()V", sig := { parameters := [], returnType := none }, accessFlags := 2, code := none }
/-- java/lang/CharacterDataLatin1 -/
def k12 : Class := { plain "java/lang/CharacterDataLatin1" (some 11) with
  accessFlags := 32
  interfaces := #[]
  cf := some (fileOf pool12 2 #[] #[{ accessFlags := 0, nameIndex := 17, descriptorIndex := 14, attributes := #[] }, { accessFlags := 0, nameIndex := 127, descriptorIndex := 21, attributes := #[] }, { accessFlags := 2, nameIndex := 42, descriptorIndex := 43, attributes := #[] }] 32 39 #[] #[{ accessFlags := 26, nameIndex := 27, descriptorIndex := 28, attributes := #[] }, { accessFlags := 8, nameIndex := 37, descriptorIndex := 10, attributes := #[] }, { accessFlags := 24, nameIndex := 47, descriptorIndex := 48, attributes := #[] }, { accessFlags := 24, nameIndex := 5, descriptorIndex := 6, attributes := #[] }, { accessFlags := 24, nameIndex := 9, descriptorIndex := 10, attributes := #[] }])
  fields := #[{ name := "DIGITS", type := (.array .byte), accessFlags := 26, slot := 0, constantValue := 0 }, { name := "sharpsMap", type := (.array .char), accessFlags := 8, slot := 1, constantValue := 0 }, { name := "instance", type := (.object "java/lang/CharacterDataLatin1"), accessFlags := 24, slot := 2, constantValue := 0 }, { name := "A", type := (.array .int), accessFlags := 24, slot := 3, constantValue := 0 }, { name := "B", type := (.array .char), accessFlags := 24, slot := 4, constantValue := 0 }]
  methods := #[k12m0, k12m1, k12m2]
  instanceTypes := #[]
  staticTypes := #[(.array .byte), (.array .char), (.object "java/lang/CharacterDataLatin1"), (.array .int), (.array .char)]
  resolved := Array.replicate 141 none
  statics := some 1 }

def pool13 : Array CpInfo := pool [(2, .class_ 4), (1, u "java/lang/Object"), (0, u "<init>"), (0, u "()V"), (17, .class_ 26), (1, u "jdk/internal/util/Preconditions"), (28, .class_ 56), (0, u "jdk/internal/util/Preconditions$4"), (57, .class_ 115), (0, u "jdk/internal/util/Preconditions$1"), (7, u "SIOOBE_FORMATTER"), (0, u "Ljava/util/function/BiFunction;"), (0, .class_ 126), (0, u "jdk/internal/util/Preconditions$2"), (3, u "AIOOBE_FORMATTER"), (0, .class_ 132), (0, u "jdk/internal/util/Preconditions$3"), (3, u "IOOBE_FORMATTER")] 57

def k13m0 : Method := { name := "<init>", desc := "()V", sig := { parameters := [], returnType := none }, accessFlags := 1, code := none }
/-- jdk/internal/util/Preconditions -/
def k13 : Class := { plain "jdk/internal/util/Preconditions" (some 0) with
  accessFlags := 33
  interfaces := #[]
  cf := some (fileOf pool13 24 #[.nestMembers #[55, 131, 125, 114]] #[{ accessFlags := 1, nameIndex := 5, descriptorIndex := 6, attributes := #[] }] 33 2 #[] #[{ accessFlags := 25, nameIndex := 123, descriptorIndex := 124, attributes := #[] }, { accessFlags := 25, nameIndex := 130, descriptorIndex := 124, attributes := #[] }, { accessFlags := 25, nameIndex := 136, descriptorIndex := 124, attributes := #[] }])
  fields := #[{ name := "SIOOBE_FORMATTER", type := (.object "java/util/function/BiFunction"), accessFlags := 25, slot := 0, constantValue := 0 }, { name := "AIOOBE_FORMATTER", type := (.object "java/util/function/BiFunction"), accessFlags := 25, slot := 1, constantValue := 0 }, { name := "IOOBE_FORMATTER", type := (.object "java/util/function/BiFunction"), accessFlags := 25, slot := 2, constantValue := 0 }]
  methods := #[k13m0]
  instanceTypes := #[]
  staticTypes := #[(.object "java/util/function/BiFunction"), (.object "java/util/function/BiFunction"), (.object "java/util/function/BiFunction")]
  resolved := Array.replicate 194 none
  statics := some 2 }

def pool14 : Array CpInfo := pool [(1, u "java/lang/Cloneable"), (0, .class_ 1), (0, u "java/lang/Object"), (0, .class_ 3)] 3

/-- java/lang/Cloneable -/
def k14 : Class := { plain "java/lang/Cloneable" (some 0) with
  accessFlags := 1537
  interfaces := #[]
  cf := some (fileOf pool14 2 #[] #[] 1537 4 #[] #[])
  fields := #[]
  methods := #[]
  instanceTypes := #[]
  staticTypes := #[]
  resolved := Array.replicate 8 none
  statics := none }

/-- the primitive byte -/
def k15 : Class := { plain "byte" none with kind := .primitive 'B', accessFlags := 0x411 }
/-- [B -/
def k16 : Class := { plain "[B" (some 0) with kind := .array 15 .byte, interfaces := #[14, 2], accessFlags := 1041 }

/-- the primitive char -/
def k17 : Class := { plain "char" none with kind := .primitive 'C', accessFlags := 0x411 }
/-- [C -/
def k18 : Class := { plain "[C" (some 0) with kind := .array 17 .char, interfaces := #[14, 2], accessFlags := 1041 }

/-- the primitive int -/
def k19 : Class := { plain "int" none with kind := .primitive 'I', accessFlags := 0x411 }
/-- [I -/
def k20 : Class := { plain "[I" (some 0) with kind := .array 19 .int, interfaces := #[14, 2], accessFlags := 1041 }

def heap : Heap := #[{ cls := 7, slots := #[.long 0, .int 1, .null, .int 0, .null, .int 0, .int 0], vm := .statics 7 },
  { cls := 12, slots := #[.null, .null, .ref 3, .ref 4, .null], vm := .statics 12 },
  { cls := 13, slots := #[.null, .null, .null], vm := .statics 13 },
  { cls := 12, slots := #[], vm := .none },
  { cls := 20, slots := #[.int 1207963663, .int 1207963663, .int 1207963663, .int 1207963663, .int 1207963663, .int 1207963663, .int 1207963663, .int 1207963663, .int 1207963663, .int 1476411407, .int 1342193679, .int 1476411407, .int 1610629135, .int 1342193679, .int 1207963663, .int 1207963663, .int 1207963663, .int 1207963663, .int 1207963663, .int 1207963663, .int 1207963663, .int 1207963663, .int 1207963663, .int 1207963663, .int 1207963663, .int 1207963663, .int 1207963663, .int 1207963663, .int 1342193679, .int 1342193679, .int 1342193679, .int 1476411407, .int 1610629132, .int 1744830488, .int 1744830488, .int 671088664, .int 671113242, .int 671088664, .int 1744830488, .int 1744830488, .int (-402653163), .int (-402653162), .int 1744830488, .int 536870937, .int 939524120, .int 536870932, .int 939524120, .int 939524120, .int 402667017, .int 402667017, .int 402667017, .int 402667017, .int 402667017, .int 402667017, .int 402667017, .int 402667017, .int 402667017, .int 402667017, .int 939524120, .int 1744830488, .int (-402653159), .int 1744830489, .int (-402653159), .int 1744830488, .int 1744830488, .int 8552417, .int 8552417, .int 8552417, .int 8552417, .int 8552417, .int 8552417, .int 8552417, .int 8552417, .int 8552417, .int 8552417, .int 8552417, .int 8552417, .int 8552417, .int 8552417, .int 8552417, .int 8552417, .int 8552417, .int 8552417, .int 8552417, .int 8552417, .int 8552417, .int 8552417, .int 8552417, .int 8552417, .int 8552417, .int 8552417, .int (-402653163), .int 1744830488, .int (-402653162), .int 1744830491, .int 1744850967, .int 1744830491, .int 8486882, .int 8486882, .int 8486882, .int 8486882, .int 8486882, .int 8486882, .int 8486882, .int 8486882, .int 8486882, .int 8486882, .int 8486882, .int 8486882, .int 8486882, .int 8486882, .int 8486882, .int 8486882, .int 8486882, .int 8486882, .int 8486882, .int 8486882, .int 8486882, .int 8486882, .int 8486882, .int 8486882, .int 8486882, .int 8486882, .int (-402653163), .int 1744830489, .int (-402653162), .int 1744830489, .int 1207963663, .int 1207963663, .int 1207963663, .int 1207963663, .int 1207963663, .int 1207963663, .int 1342181391, .int 1207963663, .int 1207963663, .int 1207963663, .int 1207963663, .int 1207963663, .int 1207963663, .int 1207963663, .int 1207963663, .int 1207963663, .int 1207963663, .int 1207963663, .int 1207963663, .int 1207963663, .int 1207963663, .int 1207963663, .int 1207963663, .int 1207963663, .int 1207963663, .int 1207963663, .int 1207963663, .int 1207963663, .int 1207963663, .int 1207963663, .int 1207963663, .int 1207963663, .int 1207963663, .int 939524108, .int 1744830488, .int 671113242, .int 671113242, .int 671113242, .int 671113242, .int 1744830492, .int 1744830488, .int 1744830491, .int 1744830492, .int 28677, .int (-402653155), .int 1744830489, .int 1207963664, .int 1744830492, .int 1744830491, .int 671088668, .int 671088665, .int 402654731, .int 402654731, .int 1744830491, .int 134049794, .int 1744830488, .int 1744830488, .int 1744830491, .int 402654475, .int 28677, .int (-402653154), .int 1744832523, .int 1744832523, .int 1744832523, .int 1744830488, .int 8548353, .int 8548353, .int 8548353, .int 8548353, .int 8548353, .int 8548353, .int 8548353, .int 8548353, .int 8548353, .int 8548353, .int 8548353, .int 8548353, .int 8548353, .int 8548353, .int 8548353, .int 8548353, .int 8548353, .int 8548353, .int 8548353, .int 8548353, .int 8548353, .int 8548353, .int 8548353, .int 1744830489, .int 8548353, .int 8548353, .int 8548353, .int 8548353, .int 8548353, .int 8548353, .int 8548353, .int 134049794, .int 8482818, .int 8482818, .int 8482818, .int 8482818, .int 8482818, .int 8482818, .int 8482818, .int 8482818, .int 8482818, .int 8482818, .int 8482818, .int 8482818, .int 8482818, .int 8482818, .int 8482818, .int 8482818, .int 8482818, .int 8482818, .int 8482818, .int 8482818, .int 8482818, .int 8482818, .int 8482818, .int 1744830489, .int 8482818, .int 8482818, .int 8482818, .int 8482818, .int 8482818, .int 8482818, .int 8482818, .int 102592514], vm := .none }]
/-- jdk/internal/util/ArraysSupport: named by a JDK word alone (laid by hand) -/
def k21 : Class := { plain "jdk/internal/util/ArraysSupport" (some 0) with accessFlags := 33 }
def classes : Array Class := #[k0, k1, k2, k3, k4, k5, k6, k7, k8, k9, k10, k11, k12, k13, k14, k15, k16, k17, k18, k19, k20, k21]
def interned : List (Array UInt16 × Addr) := []
def slotsUsed : Nat := 271
def theMethod : MethodId := ⟨1, 2⟩
def args0 : Array Value := #[.int 65, .int 66, .int 67, .int 2, .int 68]
def aboutOver (below : List Frame) : State where
  vm := { classes := classes, interned := interned.toArray }
  heap := heap
  slotsUsed := slotsUsed
  threads := #[{ frames := .invoking theMethod args0 :: below }]
def below0 : List Frame := [.native { method := ⟨0, 0⟩, args := #[] }]
def about1 : State := aboutOver below0
def p0 : Program := .bare "" "" ""
def e0 : Env := launch0.env 0 0 0
theorem w_frames : about1.frames = Frame.invoking theMethod args0 :: below0 := rfl
set_option maxRecDepth 65536 in
theorem w_args : argsFit about1.vm theMethod args0 = true := by decide +kernel
set_option maxRecDepth 65536 in
theorem w_heap : heapFits about1 = true := by decide +kernel
set_option maxRecDepth 65536 in
theorem w_runnable : about1.curStatus? = some .runnable := by decide +kernel
set_option maxRecDepth 65536 in
theorem w_alone : about1.alone = true := by decide +kernel
set_option maxRecDepth 65536 in
theorem w_named : about1.methodNamed? x = some theMethod := by decide +kernel
set_option maxRecDepth 65536 in
theorem w_hears : about1.hears theMethod below0 = true := by decide +kernel
set_option maxRecDepth 65536 in
theorem w_ripe : about1.ripe theMethod args0 below0 = true := by decide +kernel
theorem w_running : about1.status = .running := rfl
set_option maxRecDepth 65536 in
theorem w_room : about1.hasRoom e0.platform room_1 = true :=
  launch0.hasRoom_least _ room_1 (by decide +kernel) (by decide +kernel) (by decide +kernel) (by decide +kernel) (by decide +kernel) (by decide +kernel)
theorem allAtoms_all (ts : List Jvm.Cond) (a : Array Jvm.Value) (st : Jvm.State) : (allAtoms ts).before a st = ts.all (fun c => c.before a st) := by
  induction ts with
  | nil => rfl
  | cons c t ih =>
    show (Jvm.Cond.and c (allAtoms t)).before a st = _
    rw [Jvm.Cond.before_and, ih, List.all_cons]
def words1 : List Jvm.Cond := Jvm.Cond.code x code maxLocals ret :: tables_1
/-- a 'code' word, met by the world's own term for the bytes: nothing is compared byte by byte -/
theorem code_word {y : MethodName} {bytes : ByteArray} {mx : Nat} {rt : Option FieldType} {a : Array Value} {s : State} {m : MethodId} {meth : Method} {c : Code} (h1 : s.methodNamed? y = some m) (h2 : s.vm.method? m = some meth) (h3 : meth.code = some c) (h4 : c.code = bytes)
    (h5 : (c.maxLocals == mx && c.exceptionTable.isEmpty && decide (c.maxStack ≤ mostOperands) && decide (meth.sig.returnType = rt) && !meth.locks && decide (parseMethodDescriptor y.desc = some meth.sig)) = true) : (Jvm.Cond.code y bytes mx rt).before a s = true := by
  simp only [Bool.and_eq_true, beq_iff_eq, Bool.not_eq_true', decide_eq_true_eq] at h5
  obtain ⟨⟨⟨⟨⟨g1, g2⟩, g3⟩, g4⟩, g5⟩, g6⟩ := h5
  simp [Cond.before, Cond.holds, Cond.value, h1, h2, h3, h4, g1, g2, g3, g4, g5, g6]
def isCode : Jvm.Cond → Bool
  | .code _ _ _ _ => true
  | _ => false
theorem all_split {L : List Jvm.Cond} {P : Jvm.Cond → Bool} (h1 : L.all (fun c => isCode c || P c) = true) (h2 : ∀ c ∈ L.filter isCode, P c = true) : L.all P = true := by
  refine List.all_eq_true.mpr fun c hc => ?_
  have h := List.all_eq_true.mp h1 c hc
  rcases Bool.eq_false_or_eq_true (isCode c) with hi | hi
  · exact h2 c (List.mem_filter.mpr ⟨hc, hi⟩)
  · simpa [hi] using h
set_option maxRecDepth 65536 in
theorem w_c0 : (Jvm.Cond.code x code maxLocals ret).before args0 about1 = true := code_word (m := ⟨1, 2⟩) (meth := k1m2) (c := k1c2) (by decide +kernel) rfl rfl rfl (by decide +kernel)
set_option maxRecDepth 65536 in
theorem w_c1 : (Jvm.Cond.code ({ cls := "java/lang/String", name := "<init>", desc := "([C)V" } : Jvm.MethodName) jdk_42_method_3_code (2 : Nat) (Option.none : Option Jvm.ClassFile.FieldType)).before args0 about1 = true := code_word (m := ⟨7, 1⟩) (meth := k7m1) (c := k7c1) (by decide +kernel) rfl rfl rfl (by decide +kernel)
set_option maxRecDepth 65536 in
theorem w_c2 : (Jvm.Cond.code ({ cls := "java/lang/String", name := "<init>", desc := "([CIILjava/lang/Void;)V" } : Jvm.MethodName) jdk_42_method_149_code (6 : Nat) (Option.none : Option Jvm.ClassFile.FieldType)).before args0 about1 = true := code_word (m := ⟨7, 6⟩) (meth := k7m6) (c := k7c6) (by decide +kernel) rfl rfl rfl (by decide +kernel)
set_option maxRecDepth 65536 in
theorem w_c3 : (Jvm.Cond.code ({ cls := "java/lang/Object", name := "<init>", desc := "()V" } : Jvm.MethodName) object_method_1_code (1 : Nat) (Option.none : Option Jvm.ClassFile.FieldType)).before args0 about1 = true := code_word (m := ⟨0, 0⟩) (meth := k0m0) (c := k0c0) (by decide +kernel) rfl rfl rfl (by decide +kernel)
set_option maxRecDepth 65536 in
theorem w_c4 : (Jvm.Cond.code ({ cls := "java/lang/StringUTF16", name := "compress", desc := "([CII)[B" } : Jvm.MethodName) jdk_52_method_16_code (6 : Nat) (Option.some (Jvm.ClassFile.FieldType.array Jvm.ClassFile.FieldType.byte))).before args0 about1 = true := code_word (m := ⟨8, 2⟩) (meth := k8m2) (c := k8c2) (by decide +kernel) rfl rfl rfl (by decide +kernel)
set_option maxRecDepth 65536 in
theorem w_c5 : (Jvm.Cond.code ({ cls := "java/lang/StringUTF16", name := "compress", desc := "([CI[BII)I" } : Jvm.MethodName) jdk_52_method_21_code (7 : Nat) (Option.some Jvm.ClassFile.FieldType.int)).before args0 about1 = true := code_word (m := ⟨8, 3⟩) (meth := k8m3) (c := k8c3) (by decide +kernel) rfl rfl rfl (by decide +kernel)
set_option maxRecDepth 65536 in
theorem w_c6 : (Jvm.Cond.code ({ cls := "java/lang/StringUTF16", name := "coderFromArrayLen", desc := "([BI)B" } : Jvm.MethodName) jdk_52_method_15_code (2 : Nat) (Option.some Jvm.ClassFile.FieldType.byte)).before args0 about1 = true := code_word (m := ⟨8, 1⟩) (meth := k8m1) (c := k8c1) (by decide +kernel) rfl rfl rfl (by decide +kernel)
set_option maxRecDepth 65536 in
theorem w_c7 : (Jvm.Cond.code ({ cls := "java/lang/String", name := "valueOf", desc := "(C)Ljava/lang/String;" } : Jvm.MethodName) jdk_42_method_139_code (1 : Nat) (Option.some (Jvm.ClassFile.FieldType.object "java/lang/String"))).before args0 about1 = true := code_word (m := ⟨7, 5⟩) (meth := k7m5) (c := k7c5) (by decide +kernel) rfl rfl rfl (by decide +kernel)
set_option maxRecDepth 65536 in
theorem w_c8 : (Jvm.Cond.code ({ cls := "java/lang/StringLatin1", name := "canEncode", desc := "(C)Z" } : Jvm.MethodName) jdk_43_method_3_code (1 : Nat) (Option.some Jvm.ClassFile.FieldType.boolean)).before args0 about1 = true := code_word (m := ⟨9, 1⟩) (meth := k9m1) (c := k9c1) (by decide +kernel) rfl rfl rfl (by decide +kernel)
set_option maxRecDepth 65536 in
theorem w_c9 : (Jvm.Cond.code ({ cls := "java/lang/StringLatin1", name := "toBytes", desc := "(C)[B" } : Jvm.MethodName) jdk_43_method_46_code (1 : Nat) (Option.some (Jvm.ClassFile.FieldType.array Jvm.ClassFile.FieldType.byte))).before args0 about1 = true := code_word (m := ⟨9, 4⟩) (meth := k9m4) (c := k9c4) (by decide +kernel) rfl rfl rfl (by decide +kernel)
set_option maxRecDepth 65536 in
theorem w_c10 : (Jvm.Cond.code ({ cls := "java/lang/String", name := "<init>", desc := "([BB)V" } : Jvm.MethodName) jdk_42_method_151_code (3 : Nat) (Option.none : Option Jvm.ClassFile.FieldType)).before args0 about1 = true := code_word (m := ⟨7, 7⟩) (meth := k7m7) (c := k7c7) (by decide +kernel) rfl rfl rfl (by decide +kernel)
set_option maxRecDepth 65536 in
theorem w_c11 : (Jvm.Cond.code ({ cls := "com/example/luovutus/luovutus/transfer/ValueFormsRequireNotBlankPinLaw", name := "ws", desc := "(C)Z" } : Jvm.MethodName) method_2_code (1 : Nat) (Option.some Jvm.ClassFile.FieldType.boolean)).before args0 about1 = true := code_word (m := ⟨1, 1⟩) (meth := k1m1) (c := k1c1) (by decide +kernel) rfl rfl rfl (by decide +kernel)
set_option maxRecDepth 65536 in
theorem w_c12 : (Jvm.Cond.code ({ cls := "com/example/luovutus/luovutus/transfer/ValueForms", name := "requireNotBlank", desc := "(Ljava/lang/String;Ljava/lang/String;)V" } : Jvm.MethodName) prog_22_method_4_code (2 : Nat) (Option.none : Option Jvm.ClassFile.FieldType)).before args0 about1 = true := code_word (m := ⟨10, 1⟩) (meth := k10m1) (c := k10c1) (by decide +kernel) rfl rfl rfl (by decide +kernel)
set_option maxRecDepth 65536 in
theorem w_c13 : (Jvm.Cond.code ({ cls := "java/lang/String", name := "isBlank", desc := "()Z" } : Jvm.MethodName) jdk_42_method_117_code (1 : Nat) (Option.some Jvm.ClassFile.FieldType.boolean)).before args0 about1 = true := code_word (m := ⟨7, 3⟩) (meth := k7m3) (c := k7c3) (by decide +kernel) rfl rfl rfl (by decide +kernel)
set_option maxRecDepth 65536 in
theorem w_c14 : (Jvm.Cond.code ({ cls := "java/lang/String", name := "indexOfNonWhitespace", desc := "()I" } : Jvm.MethodName) jdk_42_method_120_code (1 : Nat) (Option.some Jvm.ClassFile.FieldType.int)).before args0 about1 = true := code_word (m := ⟨7, 4⟩) (meth := k7m4) (c := k7c4) (by decide +kernel) rfl rfl rfl (by decide +kernel)
set_option maxRecDepth 65536 in
theorem w_c15 : (Jvm.Cond.code ({ cls := "java/lang/String", name := "isLatin1", desc := "()Z" } : Jvm.MethodName) jdk_42_method_154_code (1 : Nat) (Option.some Jvm.ClassFile.FieldType.boolean)).before args0 about1 = true := code_word (m := ⟨7, 9⟩) (meth := k7m9) (c := k7c9) (by decide +kernel) rfl rfl rfl (by decide +kernel)
set_option maxRecDepth 65536 in
theorem w_c16 : (Jvm.Cond.code ({ cls := "java/lang/StringLatin1", name := "indexOfNonWhitespace", desc := "([B)I" } : Jvm.MethodName) jdk_43_method_37_code (4 : Nat) (Option.some Jvm.ClassFile.FieldType.int)).before args0 about1 = true := code_word (m := ⟨9, 2⟩) (meth := k9m2) (c := k9c2) (by decide +kernel) rfl rfl rfl (by decide +kernel)
set_option maxRecDepth 65536 in
theorem w_c17 : (Jvm.Cond.code ({ cls := "java/lang/StringLatin1", name := "getChar", desc := "([BI)C" } : Jvm.MethodName) jdk_43_method_44_code (2 : Nat) (Option.some Jvm.ClassFile.FieldType.char)).before args0 about1 = true := code_word (m := ⟨9, 3⟩) (meth := k9m3) (c := k9c3) (by decide +kernel) rfl rfl rfl (by decide +kernel)
set_option maxRecDepth 65536 in
theorem w_c18 : (Jvm.Cond.code ({ cls := "java/lang/CharacterDataLatin1", name := "isWhitespace", desc := "(I)Z" } : Jvm.MethodName) jdk_116_method_26_code (3 : Nat) (Option.some Jvm.ClassFile.FieldType.boolean)).before args0 about1 = true := code_word (m := ⟨12, 1⟩) (meth := k12m1) (c := k12c1) (by decide +kernel) rfl rfl rfl (by decide +kernel)
set_option maxRecDepth 65536 in
theorem w_c19 : (Jvm.Cond.code ({ cls := "java/lang/CharacterDataLatin1", name := "getProperties", desc := "(I)I" } : Jvm.MethodName) jdk_116_method_1_code (4 : Nat) (Option.some Jvm.ClassFile.FieldType.int)).before args0 about1 = true := code_word (m := ⟨12, 0⟩) (meth := k12m0) (c := k12c0) (by decide +kernel) rfl rfl rfl (by decide +kernel)
set_option maxRecDepth 65536 in
theorem w_c20 : (Jvm.Cond.code ({ cls := "java/lang/String", name := "length", desc := "()I" } : Jvm.MethodName) jdk_42_method_54_code (1 : Nat) (Option.some Jvm.ClassFile.FieldType.int)).before args0 about1 = true := code_word (m := ⟨7, 2⟩) (meth := k7m2) (c := k7c2) (by decide +kernel) rfl rfl rfl (by decide +kernel)
set_option maxRecDepth 65536 in
theorem w_c21 : (Jvm.Cond.code ({ cls := "java/lang/String", name := "coder", desc := "()B" } : Jvm.MethodName) jdk_42_method_152_code (1 : Nat) (Option.some Jvm.ClassFile.FieldType.byte)).before args0 about1 = true := code_word (m := ⟨7, 8⟩) (meth := k7m8) (c := k7c8) (by decide +kernel) rfl rfl rfl (by decide +kernel)
def codes1 : List Jvm.Cond := [Jvm.Cond.code x code maxLocals ret, Jvm.Cond.code ({ cls := "java/lang/String", name := "<init>", desc := "([C)V" } : Jvm.MethodName) jdk_42_method_3_code (2 : Nat) (Option.none : Option Jvm.ClassFile.FieldType), Jvm.Cond.code ({ cls := "java/lang/String", name := "<init>", desc := "([CIILjava/lang/Void;)V" } : Jvm.MethodName) jdk_42_method_149_code (6 : Nat) (Option.none : Option Jvm.ClassFile.FieldType), Jvm.Cond.code ({ cls := "java/lang/Object", name := "<init>", desc := "()V" } : Jvm.MethodName) object_method_1_code (1 : Nat) (Option.none : Option Jvm.ClassFile.FieldType), Jvm.Cond.code ({ cls := "java/lang/StringUTF16", name := "compress", desc := "([CII)[B" } : Jvm.MethodName) jdk_52_method_16_code (6 : Nat) (Option.some (Jvm.ClassFile.FieldType.array Jvm.ClassFile.FieldType.byte)), Jvm.Cond.code ({ cls := "java/lang/StringUTF16", name := "compress", desc := "([CI[BII)I" } : Jvm.MethodName) jdk_52_method_21_code (7 : Nat) (Option.some Jvm.ClassFile.FieldType.int), Jvm.Cond.code ({ cls := "java/lang/StringUTF16", name := "coderFromArrayLen", desc := "([BI)B" } : Jvm.MethodName) jdk_52_method_15_code (2 : Nat) (Option.some Jvm.ClassFile.FieldType.byte), Jvm.Cond.code ({ cls := "java/lang/String", name := "valueOf", desc := "(C)Ljava/lang/String;" } : Jvm.MethodName) jdk_42_method_139_code (1 : Nat) (Option.some (Jvm.ClassFile.FieldType.object "java/lang/String")), Jvm.Cond.code ({ cls := "java/lang/StringLatin1", name := "canEncode", desc := "(C)Z" } : Jvm.MethodName) jdk_43_method_3_code (1 : Nat) (Option.some Jvm.ClassFile.FieldType.boolean), Jvm.Cond.code ({ cls := "java/lang/StringLatin1", name := "toBytes", desc := "(C)[B" } : Jvm.MethodName) jdk_43_method_46_code (1 : Nat) (Option.some (Jvm.ClassFile.FieldType.array Jvm.ClassFile.FieldType.byte)), Jvm.Cond.code ({ cls := "java/lang/String", name := "<init>", desc := "([BB)V" } : Jvm.MethodName) jdk_42_method_151_code (3 : Nat) (Option.none : Option Jvm.ClassFile.FieldType), Jvm.Cond.code ({ cls := "com/example/luovutus/luovutus/transfer/ValueFormsRequireNotBlankPinLaw", name := "ws", desc := "(C)Z" } : Jvm.MethodName) method_2_code (1 : Nat) (Option.some Jvm.ClassFile.FieldType.boolean), Jvm.Cond.code ({ cls := "com/example/luovutus/luovutus/transfer/ValueForms", name := "requireNotBlank", desc := "(Ljava/lang/String;Ljava/lang/String;)V" } : Jvm.MethodName) prog_22_method_4_code (2 : Nat) (Option.none : Option Jvm.ClassFile.FieldType), Jvm.Cond.code ({ cls := "java/lang/String", name := "isBlank", desc := "()Z" } : Jvm.MethodName) jdk_42_method_117_code (1 : Nat) (Option.some Jvm.ClassFile.FieldType.boolean), Jvm.Cond.code ({ cls := "java/lang/String", name := "indexOfNonWhitespace", desc := "()I" } : Jvm.MethodName) jdk_42_method_120_code (1 : Nat) (Option.some Jvm.ClassFile.FieldType.int), Jvm.Cond.code ({ cls := "java/lang/String", name := "isLatin1", desc := "()Z" } : Jvm.MethodName) jdk_42_method_154_code (1 : Nat) (Option.some Jvm.ClassFile.FieldType.boolean), Jvm.Cond.code ({ cls := "java/lang/StringLatin1", name := "indexOfNonWhitespace", desc := "([B)I" } : Jvm.MethodName) jdk_43_method_37_code (4 : Nat) (Option.some Jvm.ClassFile.FieldType.int), Jvm.Cond.code ({ cls := "java/lang/StringLatin1", name := "getChar", desc := "([BI)C" } : Jvm.MethodName) jdk_43_method_44_code (2 : Nat) (Option.some Jvm.ClassFile.FieldType.char), Jvm.Cond.code ({ cls := "java/lang/CharacterDataLatin1", name := "isWhitespace", desc := "(I)Z" } : Jvm.MethodName) jdk_116_method_26_code (3 : Nat) (Option.some Jvm.ClassFile.FieldType.boolean), Jvm.Cond.code ({ cls := "java/lang/CharacterDataLatin1", name := "getProperties", desc := "(I)I" } : Jvm.MethodName) jdk_116_method_1_code (4 : Nat) (Option.some Jvm.ClassFile.FieldType.int), Jvm.Cond.code ({ cls := "java/lang/String", name := "length", desc := "()I" } : Jvm.MethodName) jdk_42_method_54_code (1 : Nat) (Option.some Jvm.ClassFile.FieldType.int), Jvm.Cond.code ({ cls := "java/lang/String", name := "coder", desc := "()B" } : Jvm.MethodName) jdk_42_method_152_code (1 : Nat) (Option.some Jvm.ClassFile.FieldType.byte)]
set_option maxRecDepth 65536 in
theorem codes_eq : words1.filter isCode = codes1 := rfl
theorem w_codes : ∀ c ∈ words1.filter isCode, c.before args0 about1 = true := by
  rw [codes_eq]
  intro c hc
  simp only [codes1, List.mem_cons, List.not_mem_nil, or_false] at hc
  rcases hc with rfl | rfl | rfl | rfl | rfl | rfl | rfl | rfl | rfl | rfl | rfl | rfl | rfl | rfl | rfl | rfl | rfl | rfl | rfl | rfl | rfl | rfl
  · exact w_c0
  · exact w_c1
  · exact w_c2
  · exact w_c3
  · exact w_c4
  · exact w_c5
  · exact w_c6
  · exact w_c7
  · exact w_c8
  · exact w_c9
  · exact w_c10
  · exact w_c11
  · exact w_c12
  · exact w_c13
  · exact w_c14
  · exact w_c15
  · exact w_c16
  · exact w_c17
  · exact w_c18
  · exact w_c19
  · exact w_c20
  · exact w_c21
set_option maxRecDepth 65536 in
theorem w_t1 : (words1.take 24).all (fun c => isCode c || c.before args0 about1) = true := by decide +kernel
set_option maxRecDepth 65536 in
theorem w_t2 : ((words1.drop 24).take 24).all (fun c => isCode c || c.before args0 about1) = true := by decide +kernel
set_option maxRecDepth 65536 in
theorem w_t3 : (((words1.drop 24).drop 24).take 24).all (fun c => isCode c || c.before args0 about1) = true := by decide +kernel
set_option maxRecDepth 65536 in
theorem w_t4 : ((((words1.drop 24).drop 24).drop 24).take 24).all (fun c => isCode c || c.before args0 about1) = true := by decide +kernel
set_option maxRecDepth 65536 in
theorem w_t5 : ((((words1.drop 24).drop 24).drop 24).drop 24).all (fun c => isCode c || c.before args0 about1) = true := by decide +kernel
theorem w_tables : (allAtoms (Jvm.Cond.code x code maxLocals ret :: tables_1)).before args0 about1 = true := by
  rw [allAtoms_all]
  show words1.all (fun c => c.before args0 about1) = true
  refine all_split ?_ w_codes
  rw [← List.take_append_drop 24 words1, List.all_append, w_t1, ← List.take_append_drop 24 (words1.drop 24), List.all_append, w_t2, ← List.take_append_drop 24 ((words1.drop 24).drop 24), List.all_append, w_t3, ← List.take_append_drop 24 (((words1.drop 24).drop 24).drop 24), List.all_append, w_t4, w_t5]
  rfl
set_option maxRecDepth 65536 in
theorem w_rest : rest_1_c.before args0 about1 = true := by decide +kernel
set_option maxRecDepth 65536 in
theorem w_case : (Jvm.Cond.and given_1 narrow_1).before args0 about1 = true := by decide +kernel
set_option maxRecDepth 65536 in
theorem w_consts : constsHeld consts_1 about1 := Jvm.Lit.constsHeldB_iff.mp (by decide +kernel)
theorem w_applies : (headSpec (Jvm.Cond.code x code maxLocals ret :: tables_1) room_1).applies x e0.platform about1 = true :=
  (Spec.applies_iff w_frames).mpr ⟨w_running, w_runnable, w_alone, w_named, w_hears, w_ripe, w_room, w_tables⟩
theorem atStart : AtStart classFile x code maxLocals ret World_1 tables_1 room_1 Calls_1 rest_1 Pre_1 launch0 p0 e0 about1 theMethod args0 below0 :=
  ⟨lists_1, trivial, launch0.admits_env _ _ _, launch0.least_env, fairChoices_fair.cas, fairChoices_fair.clock, w_frames, w_args, w_heap, w_applies, ⟨w_consts, trivial⟩, w_rest, w_case⟩
end start1
theorem witness_1 : WitnessClaimed_1 := ⟨start1.p0, start1.e0, start1.about1, start1.theMethod, start1.args0, start1.below0, start1.atStart⟩
end Jvm.Pilot.@@N@@
